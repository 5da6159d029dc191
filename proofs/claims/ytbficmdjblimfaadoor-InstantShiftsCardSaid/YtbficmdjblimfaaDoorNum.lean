/-
  instant.read's inner function number by its contract.
-/
import Derived.Test.YtbficmdjblimfaaDoorShw
namespace Go.Proofs.YtbficmdjblimfaaDoor
open Go.RowKit
theorem num_step (n v : Nat) (l : List UInt8) : Ins.num (n + 1) v l = match l with | [] => none | c :: r => if Ins.dig c then Ins.num n (10 * v + Ins.dv c) r else none := by
  cases l <;> rfl
theorem drop_at (s : ByteArray) (p : Nat) (h : p < s.size) : s.data.toList.drop p = s[p] :: s.data.toList.drop (p + 1) := List.drop_eq_getElem_cons (by rw [size_toList]; exact h)
theorem dig_test (c : UInt8) : (Ins.dig c = true ∧ 48 ≤ (c.toNat : Int) ∧ (c.toNat : Int) ≤ 57 ∧ (Ins.dv c : Int) = c.toNat - 48) ∨ (Ins.dig c = false ∧ (c.toNat : Int) < 48) ∨ (Ins.dig c = false ∧ 57 < (c.toNat : Int)) := by
  unfold Ins.dig Ins.dv
  simp only [Bool.and_eq_true, decide_eq_true_eq, UInt8.le_iff_toNat_le, Bool.and_eq_false_iff, decide_eq_false_iff_not]
  have e0 : (48 : UInt8).toNat = 48 := rfl
  have e1 : (57 : UInt8).toNat = 57 := rfl
  omega
/-- All blocks but A are as they were. -/
def But (A : Nat) (w w' : World) : Prop := ∀ b, b ≠ A → w'.heap[b]? = w.heap[b]?
theorem But.refl (A : Nat) (w : World) : But A w w := fun _ _ => rfl
theorem But.trans {A : Nat} {a b c : World} (h : But A a b) (h2 : But A b c) : But A a c := fun k hk => (h2 k hk).trans (h k hk)
theorem But.blk {A b : Nat} {w w' : World} {T : TypeId} {cs : Array Value} (h : But A w w') (hb : b ≠ A) (hB : Blk w b T cs) : Blk w' b T cs := (h b hb).trans hB
theorem But.set (A j : Nat) (w : World) (v : Value) : But A w (w.setCell ⟨A, j, none⟩ v) := fun b hb => heap_setCell_other w ⟨A, j, none⟩ b v hb
def RetN (s : ByteArray) (a n A B : Nat) (w : World) (e : Go.Ending) (w' : World) : Prop :=
  (match Ins.numAt s.data.toList a n with
    | some v => e = .returned (.tuple #[.int .i64 (v : Int), .bool true]) ∧ Blk w' A 3 #[.int .i64 ((a + n : Nat) : Int)]
    | none => e = .returned (.tuple #[.int .i64 0, .bool false]) ∧ ∃ a' : Nat, a' ≤ s.size ∧ Blk w' A 3 #[.int .i64 (a' : Int)]) ∧ Below B w w' ∧ But A w w'
set_option maxRecDepth 100000 in
set_option maxHeartbeats 4000000 in
theorem number_any (s : ByteArray) (n a A S B : Nat) (w : World) (hB : B ≤ A) (hn : n ≤ 9) (ha : a ≤ s.size) (hs : s.size ≤ 1000000) (hA : Blk w A 3 #[.int .i64 (a : Int)]) (hS : Blk w S 9 #[.string s]) (hAS : S ≠ A) :
    Calls Tryd.prog 37 #[.int .i64 (n : Int), .pointer (some ⟨A, 0, none⟩), .pointer (some ⟨S, 0, none⟩)] w (RetN s a n A B w) := by
  obtain ⟨R, hR⟩ : ∃ R, R = Ins.numAt s.data.toList a n := ⟨_, rfl⟩
  unfold RetN
  rw [← hR]
  have HR : Hid (R = Ins.num n 0 (s.data.toList.drop (a + 0))) := Lib.hid hR
  clear hR
  go_enter Tryd.func37, Tryd.ntmps37
  go_wp2_with fail
  go_loopg [6, 8] n (fun g vv iv wr => ∃ i v : Nat, i + g = n ∧ vv = .int .i64 (v : Int) ∧ iv = .int .i64 (i : Int) ∧ v < 10 ^ i ∧ a + i ≤ s.size ∧ Hid (R = Ins.num g v (s.data.toList.drop (a + i))) ∧ Blk wr A 3 #[.int .i64 ((a + i : Nat) : Int)] ∧ Below B w wr ∧ But A w wr)
  case atStart => exact ⟨0, 0, by omega, rfl, rfl, by decide, ha, HR, hA, Below.refl _ _, But.refl _ _⟩
  case round =>
    obtain ⟨i, v, hg, rfl, rfl, hv, hai, HRg, hAr, hbr, hbut⟩ := hrel
    have hSr := hbut.blk hAS hS
    have cA : wr.cell? ⟨A, 0, none⟩ = some (.int .i64 ((a + i : Nat) : Int)) := hAr.at_ 0
    have cS : wr.cell? ⟨S, 0, none⟩ = some (.string s) := hSr.at_ 0
    have fA : wr.frozen? ⟨A, 0, none⟩ = false := hAr.free 0
    by_cases hi : i < n
    · obtain ⟨g, rfl⟩ : ∃ g, gk = g + 1 := ⟨gk - 1, by omega⟩
      have hv9 : v < 1000000000 := Nat.lt_of_lt_of_le hv (Nat.pow_le_pow_right (by decide) (show i ≤ 9 by omega))
      obtain ⟨p, hp⟩ : ∃ p, p = a + i := ⟨_, rfl⟩
      rw [← hp] at cA hai
      by_cases hpl : p < s.size
      · have hd := drop_at s p hpl
        have hst := num_step g v (s.data.toList.drop p)
        rw [hd] at hst
        simp only at hst
        rw [← hp, hd] at HRg
        rcases dig_test s[p] with ⟨g0, g1, g2, g3⟩ | ⟨g0, g1⟩ | ⟨g0, g1⟩
        · rw [if_pos g0] at hst
          have HR2 : Hid (R = Ins.num g (10 * v + Ins.dv s[p]) (s.data.toList.drop (a + (i + 1)))) := Lib.hid (by rw [show a + (i + 1) = p + 1 by omega, ← hst]; exact HRg.out)
          have hdv : Ins.dv s[p] ≤ 9 := by omega
          have hv2 : Hid (10 * v + Ins.dv s[p] < 10 ^ (i + 1)) := Lib.hid (by rw [Nat.pow_succ]; omega)
          have hA2 : Blk (wr.setCell ⟨A, 0, none⟩ (.int .i64 ((p : Int) + 1))) A 3 #[.int .i64 ((a + (i + 1) : Nat) : Int)] := by
            have := hAr.put 0 (.int .i64 ((p : Int) + 1))
            rw [show ((a + (i + 1) : Nat) : Int) = (p : Int) + 1 by omega]
            exact this
          have hp3 := Lib.hid hp
          have G3 := Lib.hid g3
          clear hst hd HRg g0 hp HR hv g3
          go_wp2_with fail
          go_roundg g
          case measure => omega
          case rel =>
            exact ⟨i + 1, 10 * v + Ins.dv s[p], by omega, by have := G3.out; congr 1; omega, by go_num, hv2.out, by have := hp3.out; omega, HR2, hA2, hbr.setCell (p := ⟨A, 0, none⟩) hB _, hbut.trans (But.set _ _ _ _)⟩
        · rw [if_neg (by rw [g0]; decide)] at hst
          obtain rfl : R = none := HRg.out.trans hst
          have hr2 : Blk wr A 3 #[.int .i64 (p : Int)] := by rw [hp]; exact hAr
          clear hst hd HRg g0 hp HR hv
          go_wp2_with fail
          go_ret2
          exact ⟨⟨rfl, p, by omega, hr2⟩, hbr, hbut⟩
        · rw [if_neg (by rw [g0]; decide)] at hst
          obtain rfl : R = none := HRg.out.trans hst
          have hr2 : Blk wr A 3 #[.int .i64 (p : Int)] := by rw [hp]; exact hAr
          clear hst hd HRg g0 hp HR hv
          go_wp2_with fail
          go_ret2
          exact ⟨⟨rfl, p, by omega, hr2⟩, hbr, hbut⟩
      · obtain rfl : R = none := HRg.out.trans (by
          rw [← hp, List.drop_of_length_le (by rw [size_toList]; omega)]; rfl)
        have hr2 : Blk wr A 3 #[.int .i64 (p : Int)] := by rw [hp]; exact hAr
        clear HRg hp HR hv
        go_wp2_with fail
        go_ret2
        exact ⟨⟨rfl, p, by omega, hr2⟩, hbr, hbut⟩
    · obtain rfl : R = some v := HRg.out.trans (by rw [show gk = 0 by omega]; rfl)
      obtain rfl : i = n := by omega
      clear HRg HR hv
      go_wp2_with fail
      go_ret2
      exact ⟨⟨rfl, hAr⟩, hbr, hbut⟩
end Go.Proofs.YtbficmdjblimfaaDoor
