/-
  jsonlex.unit by its contract.
-/
import Derived.Test.YtjfkiomegacpeaaDoorJsG
namespace Go.Proofs.YtjfkiomegacpeaaDoor
open Go.RowKit
theorem or_shift (v d : Nat) (hv : v < 268435456) (hd : d < 16) : bits .or .i64 ((v : Int) * 16) (d : Int) = ((16 * v + d : Nat) : Int) := by
  have e1 : (v : Int) * 16 = ((16 * v : Nat) : Int) := by omega
  have hOr : (16 * v ||| d) = 16 * v + d := (Nat.two_pow_add_eq_or_of_lt (i := 4) (by omega) v).symm
  rw [e1]
  show IntKind.i64.wrap ((BitVec.ofInt 64 ((16 * v : Nat) : Int) ||| BitVec.ofInt 64 (d : Int)).toNat : Int) = _
  rw [BitVec.ofInt_natCast, BitVec.ofInt_natCast, BitVec.toNat_or, BitVec.toNat_ofNat, BitVec.toNat_ofNat, Nat.mod_eq_of_lt (by omega), Nat.mod_eq_of_lt (by omega), hOr, IntKind.wrap_i64]
  omega
theorem digit_cases (c : UInt8) : (Jsn.digit c = some (c.toNat - 48) ∧ 48 ≤ c.toNat ∧ c.toNat ≤ 57) ∨ (Jsn.digit c = some (c.toNat - 87) ∧ 97 ≤ c.toNat ∧ c.toNat ≤ 102) ∨ (Jsn.digit c = some (c.toNat - 55) ∧ 65 ≤ c.toNat ∧ c.toNat ≤ 70) ∨ (Jsn.digit c = none ∧ ¬ (48 ≤ c.toNat ∧ c.toNat ≤ 57) ∧ ¬ (97 ≤ c.toNat ∧ c.toNat ≤ 102) ∧ ¬ (65 ≤ c.toNat ∧ c.toNat ≤ 70)) := by
  revert c
  refine bytes_all ?_
  decide +kernel
def unitI : Option Nat → Int
  | some n => (n : Int)
  | none => -1
theorem unit_none_size (l : List UInt8) (h : l.length < 6) : Jsn.unit l = none := by
  cases hu : Jsn.unit l with
  | none => rfl
  | some x => have := Jsn.unit_bd l x hu; omega
theorem unit_none_0 (a b : UInt8) (r : List UInt8) (h : a ≠ 92 ∨ b ≠ 117) : Jsn.unit (a :: b :: r) = none := by
  unfold Jsn.unit
  split
  · rename_i heq
    simp only [List.cons.injEq] at heq
    rcases h with h | h
    · exact absurd heq.1 h
    · exact absurd heq.2.1 h
  · rfl
set_option maxRecDepth 100000 in
set_option maxHeartbeats 4000000 in
theorem unit_short (s : ByteArray) (w : World) (hs : s.size < 6) :
    Calls Tryd.prog 57 #[.string s] w fun e w' => e = .returned (.int .i64 (-1)) ∧ w = w' := by
  have h : (s.size : Int) < 6 := by omega
  go_enter Tryd.func57, Tryd.ntmps57
  go_wp2
  go_ret
  exact ⟨rfl, rfl⟩
set_option maxRecDepth 100000 in
set_option maxHeartbeats 4000000 in
theorem unit_not (s : ByteArray) (w : World) (hs : 6 ≤ s.size) (hm : s.size ≤ 140737488351232) (h : s[0] ≠ 92 ∨ s[1] ≠ 117) :
    Calls Tryd.prog 57 #[.string s] w fun e w' => e = .returned (.int .i64 (-1)) ∧ w = w' := by
  have h6 : ¬ ((s.size : Int) < 6) := by omega
  have h1 : 1 < s.size := by omega
  have h0 : 0 < s.size := by omega
  by_cases e0 : s[0] = 92
  · have n0 : ((s[0].toNat : Int) != 92) = false := by rw [e0]; rfl
    have n1 : ((s[1].toNat : Int) != 117) = true := by
      rcases h with h | h
      · exact absurd e0 h
      · have := byte_ne 117 h
        rw [bne, show ((117 : UInt8).toNat : Int) = 117 from rfl] at *
        rw [this]; rfl
    clear e0 h
    go_enter Tryd.func57, Tryd.ntmps57
    go_wp2
    go_ret
    exact ⟨rfl, rfl⟩
  · have n0 : ((s[0].toNat : Int) != 92) = true := by
      have := byte_ne 92 e0
      rw [bne, show ((92 : UInt8).toNat : Int) = 92 from rfl] at *
      rw [this]; rfl
    clear e0 h
    go_enter Tryd.func57, Tryd.ntmps57
    go_wp2
    go_ret
    exact ⟨rfl, rfl⟩
set_option maxRecDepth 100000 in
set_option maxHeartbeats 4000000 in
theorem unit_go (s : ByteArray) (w : World) (hs : 6 ≤ s.size) (hm : s.size ≤ 140737488351232) (h0 : s[0] = 92) (h1 : s[1] = 117) (o : Option Nat) (ho : o = Jsn.hexNum 4 0 (s.data.toList.drop 2)) :
    Calls Tryd.prog 57 #[.string s] w fun e w' => e = .returned (.int .i64 (unitI o)) ∧ w = w' := by
  have h6 : ¬ ((s.size : Int) < 6) := by omega
  have g1 : 1 < s.size := by omega
  have g0 : 0 < s.size := by omega
  have n0 : (s[0].toNat : Int) = 92 := by rw [h0]; rfl
  have n1 : (s[1].toNat : Int) = 117 := by rw [h1]; rfl
  have HO := Lib.hid ho
  clear h0 h1 ho
  go_enter Tryd.func57, Tryd.ntmps57
  go_wp2
  clear n0 n1 h6
  go_loop [3, 4] (fun y i => ∃ k v : Nat, k ≤ 4 ∧ i = .int .i64 (2 + k) ∧ y = .int .i64 v ∧ v < 16 ^ k ∧ Hid (Jsn.hexNum 4 0 (s.data.toList.drop 2) = Jsn.hexNum (4 - k) v (s.data.toList.drop (2 + k)))) (fun _ i => 6 - (intOf i).toNat)
  case atStart => exact ⟨0, 0, by omega, rfl, rfl, by decide, Lib.hid rfl⟩
  case round =>
    obtain ⟨k, v, hk, rfl, rfl, hv, HH⟩ := hrel
    by_cases hlt : k < 4
    · have g1 : 2 + (k : Int) < s.size := by omega
      have g2 : 0 ≤ 2 + (k : Int) := by omega
      have g3 : (2 + (k : Int)).toNat = 2 + k := by omega
      have hdr : s.data.toList.drop (2 + k) = s[2 + k] :: s.data.toList.drop (2 + (k + 1)) := List.drop_eq_getElem_cons (by rw [size_toList]; omega)
      have hx : Jsn.hexNum (4 - k) v (s.data.toList.drop (2 + k)) = match Jsn.digit s[2 + k] with | some d => Jsn.hexNum (4 - (k + 1)) (16 * v + d) (s.data.toList.drop (2 + (k + 1))) | none => none := by
        rw [hdr, show 4 - k = (4 - (k + 1)) + 1 by omega]
        rfl
      have hq := HH.out
      rw [hx] at hq
      have hv2 : v < 268435456 := Nat.lt_of_lt_of_le hv (Nat.le_trans (Nat.pow_le_pow_right (by decide) hk) (by decide))
      have hc256 := s[2 + k].toNat_lt
      rcases digit_cases s[2 + k] with ⟨hd, c1, c2⟩ | ⟨hd, c1, c2⟩ | ⟨hd, c1, c2⟩ | ⟨hd, c1, c2, c3⟩
      · rw [hd] at hq
        have hp : 16 * v + (s[2 + k].toNat - 48) < 16 ^ (k + 1) := by rw [Nat.pow_succ]; omega
        have hor := or_shift v (s[2 + k].toNat - 48) hv2 (by omega)
        rw [show ((s[2 + k].toNat - 48 : Nat) : Int) = (s[2 + k].toNat : Int) - 48 by omega] at hor
        have HQ := Lib.hid hq
        have HP := Lib.hid hp
        have f1 : 48 ≤ (s[2 + k].toNat : Int) := by omega
        have f2 : (s[2 + k].toNat : Int) ≤ 57 := by omega
        clear hdr hx hq hd hp hv c1 c2
        go_wp2
        go_round
        case rel => exact ⟨k + 1, 16 * v + (s[2 + k].toNat - 48), by omega, by go_num, by go_num, HP.out, HQ⟩
        case measure => simp [intOf]; omega
      · rw [hd] at hq
        have hp : 16 * v + (s[2 + k].toNat - 87) < 16 ^ (k + 1) := by rw [Nat.pow_succ]; omega
        have hor := or_shift v (s[2 + k].toNat - 87) hv2 (by omega)
        rw [show ((s[2 + k].toNat - 87 : Nat) : Int) = (s[2 + k].toNat : Int) - 97 + 10 by omega] at hor
        have HQ := Lib.hid hq
        have HP := Lib.hid hp
        have f1 : 97 ≤ (s[2 + k].toNat : Int) := by omega
        have f2 : (s[2 + k].toNat : Int) ≤ 102 := by omega
        clear hdr hx hq hd hp hv c1 c2
        go_wp2
        go_round
        case rel => exact ⟨k + 1, 16 * v + (s[2 + k].toNat - 87), by omega, by go_num, by go_num, HP.out, HQ⟩
        case measure => simp [intOf]; omega
      · rw [hd] at hq
        have hp : 16 * v + (s[2 + k].toNat - 55) < 16 ^ (k + 1) := by rw [Nat.pow_succ]; omega
        have hor := or_shift v (s[2 + k].toNat - 55) hv2 (by omega)
        rw [show ((s[2 + k].toNat - 55 : Nat) : Int) = (s[2 + k].toNat : Int) - 65 + 10 by omega] at hor
        have HQ := Lib.hid hq
        have HP := Lib.hid hp
        have f1 : 65 ≤ (s[2 + k].toNat : Int) := by omega
        have f2 : (s[2 + k].toNat : Int) ≤ 70 := by omega
        clear hdr hx hq hd hp hv c1 c2
        go_wp2
        go_round
        case rel => exact ⟨k + 1, 16 * v + (s[2 + k].toNat - 55), by omega, by go_num, by go_num, HP.out, HQ⟩
        case measure => simp [intOf]; omega
      · rw [hd] at hq
        have hon : o = none := by rw [HO.out, hq]
        have HN := Lib.hid hon
        clear hdr hx hq hd hon hv
        generalize (s[2 + k].toNat : Int) = cv at *
        go_wp2
        all_goals first
          | (exfalso; omega)
          | (go_ret; exact ⟨by rw [HN.out]; rfl, rfl⟩)
    · obtain rfl : k = 4 := by omega
      have hO : o = some v := by rw [HO.out, HH.out]; rfl
      have HN := Lib.hid hO
      clear HH HO hv hO
      go_wp2
      go_ret
      exact ⟨by rw [HN.out]; rfl, rfl⟩
theorem unit_any (s : ByteArray) (w : World) (hm : s.size ≤ 140737488351232) :
    Calls Tryd.prog 57 #[.string s] w fun e w' => e = .returned (.int .i64 (unitI (Jsn.unit s.data.toList))) ∧ w = w' := by
  by_cases h6 : s.size < 6
  · rw [unit_none_size _ (by rw [size_toList]; exact h6)]
    exact unit_short s w h6
  · have e0 : s.data.toList = s[0] :: s.data.toList.drop 1 := by
      have := drop_at s 0 (by omega)
      rwa [List.drop_zero] at this
    have e1 : s.data.toList.drop 1 = s[1] :: s.data.toList.drop 2 := drop_at s 1 (by omega)
    have e2 : s.data.toList = s[0] :: s[1] :: s.data.toList.drop 2 := by rw [← e1]; exact e0
    by_cases h : s[0] = 92 ∧ s[1] = 117
    · have hu : Jsn.unit s.data.toList = Jsn.hexNum 4 0 (s.data.toList.drop 2) := by
        generalize s.data.toList.drop 2 = r at e2
        rw [e2, h.1, h.2]
        rfl
      exact unit_go s w (by omega) hm h.1 h.2 _ hu
    · have h' : s[0] ≠ 92 ∨ s[1] ≠ 117 := by
        by_cases a : s[0] = 92
        · exact Or.inr fun b => h ⟨a, b⟩
        · exact Or.inl a
      have hu : Jsn.unit s.data.toList = none := by
        rw [e2]
        exact unit_none_0 _ _ _ h'
      rw [hu]
      exact unit_not s w (by omega) hm h'
end Go.Proofs.YtjfkiomegacpeaaDoor
