/-
  The reference's two and is by their contracts.
-/
import Derived.Test.YtbficmdjblimfaaDoorFld
import Derived.Test.YtbficmdjblimfaaDoorKit9
namespace Go.Proofs.YtbficmdjblimfaaDoor
open Go.RowKit
def optI : Option Nat → Int
  | some v => (v : Int)
  | none => -1
theorem byte_dec (a c : UInt8) : (a == c) = ((a.toNat : Int) == (c.toNat : Int)) := by
  rw [Bool.eq_iff_iff, beq_iff_eq, beq_iff_eq]
  exact ⟨fun h => by rw [h], fun h => UInt8.toNat_inj.1 (by omega)⟩
theorem ris_at (s : ByteArray) (p : Nat) (c : UInt8) (h : p < s.size) : Ins.isAt s.data.toList p c = ((s[p].toNat : Int) == (c.toNat : Int)) := by
  rw [← byte_dec]
  unfold Ins.isAt
  rw [List.getElem?_eq_getElem (by rw [size_toList]; exact h)]
  rfl
theorem ris_out (s : ByteArray) (p : Nat) (c : UInt8) (h : ¬ p < s.size) : Ins.isAt s.data.toList p c = false := by
  unfold Ins.isAt
  rw [List.getElem?_eq_none (by rw [size_toList]; omega)]
  rfl
set_option maxRecDepth 100000 in
set_option maxHeartbeats 8000000 in
theorem ris_any (s : ByteArray) (a : Nat) (c : UInt8) (w : World) (hs : s.size ≤ 1000000) (ha : a ≤ 2000000) :
    Calls Tryd.prog 31 #[.string s, .int .i64 (a : Int), .int .u8 (c.toNat : Int)] w fun e w' => e = .returned (.bool (Ins.isAt s.data.toList a c)) ∧ w = w' := by
  by_cases h : a < s.size
  · rw [ris_at s a c h]
    go_enter Tryd.func31, Tryd.ntmps31
    go_wp2_with fail
    go_ret
    exact ⟨rfl, rfl⟩
  · rw [ris_out s a c h]
    go_enter Tryd.func31, Tryd.ntmps31
    go_wp2_with fail
    go_ret
    exact ⟨rfl, rfl⟩
set_option maxRecDepth 100000 in
set_option maxHeartbeats 8000000 in
theorem rtwo_any (s : ByteArray) (a n : Nat) (w : World) (hs : s.size ≤ 1000000) (ha : a ≤ 2000000) (h1 : 1 ≤ n) (hn : n ≤ 9) :
    Calls Tryd.prog 42 #[.string s, .int .i64 (a : Int), .int .i64 (n : Int)] w fun e w' => e = .returned (.int .i64 (optI (Ins.numAt s.data.toList a n))) ∧ w = w' := by
  obtain ⟨R, hR⟩ : ∃ R, R = Ins.numAt s.data.toList a n := ⟨_, rfl⟩
  rw [← hR]
  have HR : Hid (R = Ins.num n 0 (s.data.toList.drop (a + 0))) := Lib.hid hR
  by_cases hl : a + n ≤ s.size
  · clear hR
    go_enter Tryd.func42, Tryd.ntmps42
    go_wp2_with fail
    go_loopg [7, 8] n (fun g vv iv wr => ∃ i v : Nat, i + g = n ∧ vv = .int .i64 (v : Int) ∧ iv = .int .i64 ((a + i : Nat) : Int) ∧ v < 10 ^ i ∧ Hid (R = Ins.num g v (s.data.toList.drop (a + i))) ∧ w = wr)
    case atStart => exact ⟨0, 0, by omega, rfl, rfl, by decide, HR, rfl⟩
    case round =>
      obtain ⟨i, v, hg, rfl, rfl, hv, HRg, rfl⟩ := hrel
      obtain ⟨p, hp⟩ : ∃ p, p = a + i := ⟨_, rfl⟩
      rw [← hp] at HRg ⊢
      by_cases hi : i < n
      · obtain ⟨g, rfl⟩ : ∃ g, gk = g + 1 := ⟨gk - 1, by omega⟩
        have hv9 : v < 1000000000 := Nat.lt_of_lt_of_le hv (Nat.pow_le_pow_right (by decide) (show i ≤ 9 by omega))
        have hpl : p < s.size := by omega
        have hpn : p < a + n := by omega
        have hd := drop_at s p hpl
        have hst := num_step g v (s.data.toList.drop p)
        rw [hd] at hst
        simp only at hst
        rw [hd] at HRg
        rcases dig_test s[p] with ⟨g0, g1, g2, g3⟩ | ⟨g0, g1⟩ | ⟨g0, g1⟩
        · rw [if_pos g0] at hst
          have HR2 : Hid (R = Ins.num g (10 * v + Ins.dv s[p]) (s.data.toList.drop (a + (i + 1)))) := Lib.hid (by rw [show a + (i + 1) = p + 1 by omega, ← hst]; exact HRg.out)
          have hdv : Ins.dv s[p] ≤ 9 := by omega
          have hv2 : Hid (10 * v + Ins.dv s[p] < 10 ^ (i + 1)) := Lib.hid (by rw [Nat.pow_succ]; omega)
          have hp3 := Lib.hid hp
          have G3 := Lib.hid g3
          clear hst hd HRg g0 hp HR hv g3
          go_wp2_with fail
          go_roundg g
          case measure => omega
          case rel =>
            exact ⟨i + 1, 10 * v + Ins.dv s[p], by omega, by have := G3.out; congr 1; omega, by have := hp3.out; congr 1; omega, hv2.out, HR2, rfl⟩
        · rw [if_neg (by rw [g0]; decide)] at hst
          obtain rfl : R = none := HRg.out.trans hst
          clear hst hd HRg g0 hp HR hv
          go_wp2_with fail
          go_ret
          exact ⟨rfl, rfl⟩
        · rw [if_neg (by rw [g0]; decide)] at hst
          obtain rfl : R = none := HRg.out.trans hst
          clear hst hd HRg g0 hp HR hv
          go_wp2_with fail
          go_ret
          exact ⟨rfl, rfl⟩
      · obtain rfl : R = some v := HRg.out.trans (by rw [show gk = 0 by omega]; rfl)
        have hpn : ¬ p < a + n := by omega
        clear HRg HR hv hp
        go_wp2_with fail
        go_ret
        exact ⟨rfl, rfl⟩
  · obtain rfl : R = none := by
      cases R with
      | none => rfl
      | some v => rcases num_end hR.symm with h | h <;> omega
    clear HR hR
    go_enter Tryd.func42, Tryd.ntmps42
    go_wp2_with fail
    go_ret
    exact ⟨rfl, rfl⟩
end Go.Proofs.YtbficmdjblimfaaDoor
