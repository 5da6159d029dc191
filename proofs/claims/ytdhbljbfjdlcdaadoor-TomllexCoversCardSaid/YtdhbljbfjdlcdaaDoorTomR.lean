/-
  The reference's leaves by their contracts; a builder's String.
-/
import Derived.Test.YtdhbljbfjdlcdaaDoorTomC
namespace Go.Proofs.YtdhbljbfjdlcdaaDoor
open Go.RowKit
theorem ret_i64 {a b : Int} {w : World} (h : a = b) : Go.Ending.returned (.int .i64 a) = .returned (.int .i64 b) ∧ w = w := by
  subst h; exact ⟨rfl, rfl⟩
theorem lineEnd_one (c : UInt8) : Tom.lineEnd [c] = if c.toNat = 10 then 1 else 0 := by
  by_cases h : c = 10
  · subst h; rfl
  · have h2 : c.toNat ≠ 10 := fun e => h (UInt8.toNat_inj.1 e)
    rw [if_neg h2]
    unfold Tom.lineEnd
    split <;> simp_all
theorem lineEnd_two (c d : UInt8) (r : List UInt8) : Tom.lineEnd (c :: d :: r) = if c.toNat = 10 then 1 else if c.toNat = 13 ∧ d.toNat = 10 then 2 else 0 := by
  by_cases h : c = 10
  · subst h; rfl
  · have h2 : c.toNat ≠ 10 := fun e => h (UInt8.toNat_inj.1 e)
    rw [if_neg h2]
    by_cases h3 : c = 13 ∧ d = 10
    · obtain ⟨rfl, rfl⟩ := h3; rfl
    · rw [if_neg (fun e => h3 ⟨UInt8.toNat_inj.1 e.1, UInt8.toNat_inj.1 e.2⟩)]
      unfold Tom.lineEnd
      split <;> simp_all
set_option maxRecDepth 100000 in
set_option maxHeartbeats 4000000 in
theorem rlineEnd_any (s : ByteArray) (k : Nat) (w : World) (hk : k ≤ s.size) (hs : s.size ≤ 140737488351232) :
    Calls Tryd.prog 24 #[.string s, .int .i64 k] w fun e w' => e = .returned (.int .i64 (Tom.lineEnd (s.data.toList.drop k) : Nat)) ∧ w = w' := by
  by_cases h0 : k < s.size
  · have e0 : s.data.toList.drop k = s[k] :: s.data.toList.drop (k + 1) := List.drop_eq_getElem_cons (by rw [size_toList]; exact h0)
    by_cases h1 : k + 1 < s.size
    · have e1 : s.data.toList.drop (k + 1) = s[k + 1] :: s.data.toList.drop (k + 2) := List.drop_eq_getElem_cons (by rw [size_toList]; exact h1)
      rw [e0, e1]
      clear e0 e1
      go_enter Tryd.func24, Tryd.ntmps24
      go_wp2
      all_goals
        go_ret
        refine ret_i64 ?_
        rw [lineEnd_two]
        try simp only [beq_iff_eq, beq_eq_false_iff_ne, ne_eq] at *
        split <;> (try split) <;> omega
    · have e1 : s.data.toList.drop (k + 1) = [] := List.drop_of_length_le (by rw [size_toList]; omega)
      rw [e0, e1]
      clear e0 e1
      go_enter Tryd.func24, Tryd.ntmps24
      go_wp2
      all_goals
        go_ret
        refine ret_i64 ?_
        rw [lineEnd_one]
        try simp only [beq_iff_eq, beq_eq_false_iff_ne, ne_eq] at *
        split <;> omega
  · have e0 : s.data.toList.drop k = [] := List.drop_of_length_le (by rw [size_toList]; omega)
    rw [e0]
    clear e0
    go_enter Tryd.func24, Tryd.ntmps24
    go_wp2
    all_goals
      go_ret
      exact ⟨rfl, rfl⟩
def digitI (c : UInt8) : Int := match Tom.digit c with | some d => (d : Int) | none => -1
theorem digitI_spec : ∀ c : UInt8, digitI c = if 48 ≤ (c.toNat : Int) ∧ (c.toNat : Int) ≤ 57 then (c.toNat : Int) - 48 else if 97 ≤ (c.toNat : Int) ∧ (c.toNat : Int) ≤ 102 then (c.toNat : Int) - 87 else if 65 ≤ (c.toNat : Int) ∧ (c.toNat : Int) ≤ 70 then (c.toNat : Int) - 55 else -1 := by
  refine bytes_all ?_
  decide +kernel
set_option maxRecDepth 100000 in
set_option maxHeartbeats 4000000 in
theorem rdigit_any (c : UInt8) (w : World) :
    Calls Tryd.prog 91 #[.int .u8 (c.toNat : Int)] w fun e w' => e = .returned (.int .i64 (digitI c)) ∧ w = w' := by
  have hc := c.toNat_lt
  go_enter Tryd.func91, Tryd.ntmps91
  go_wp2
  all_goals
    go_ret
    refine ret_i64 ?_
    rw [digitI_spec]
    split <;> (try split) <;> (try split) <;> omega
theorem ext_part (s : ByteArray) (k n : Nat) : (s.extract k (k + n)).data.toList = (s.data.toList.drop k).take n := by
  rw [Lib.extract_data]
  simp [List.take_drop]
theorem starts_ext (s t : ByteArray) (k : Nat) (h : k + t.size ≤ s.size) : Tom.starts t.data.toList (s.data.toList.drop k) = true ↔ s.extract k (k + t.size) = t := by
  have e := ext_part s k t.size
  unfold Tom.starts
  rw [List.isPrefixOf_iff_prefix, List.prefix_iff_eq_take, size_toList, ← e]
  constructor
  · intro h2
    cases t
    rw [ByteArray.ext_iff]
    exact (Array.toList_inj.1 h2).symm
  · intro h2; rw [h2]
set_option maxRecDepth 100000 in
set_option maxHeartbeats 4000000 in
theorem rhas_any (s t : ByteArray) (k : Nat) (w : World) (hk : k ≤ s.size) (hs : s.size ≤ 140737488351232) (ht : t.size ≤ 140737488351232) :
    Calls Tryd.prog 45 #[.string s, .int .i64 k, .string t] w fun e w' => e = .returned (.bool (Tom.starts t.data.toList (s.data.toList.drop k))) ∧ w = w' := by
  by_cases h : k + t.size ≤ s.size
  · have g1 : (k : Int) ≤ (k : Int) + t.size := by omega
    have g2 : (k : Int) + t.size ≤ s.size := by omega
    have g3 : 0 ≤ (k : Int) := by omega
    have g4 : ((k : Int) + t.size).toNat = k + t.size := by omega
    have hS := starts_ext s t k h
    by_cases e : s.extract k (k + t.size) = t
    · have e2 : ((s.extract k (k + t.size)).toList == t.toList) = true := by rw [e]; exact beq_self_eq_true _
      rw [hS.2 e]
      clear hS
      have HE := Lib.hid e
      clear e
      go_enter Tryd.func45, Tryd.ntmps45
      go_wp2
      go_ret
      exact ⟨rfl, rfl⟩
    · have e2 := str_ne e
      have hF : Tom.starts t.data.toList (s.data.toList.drop k) = false := by
        cases hh : Tom.starts t.data.toList (s.data.toList.drop k) with
        | false => rfl
        | true => exact absurd (hS.1 hh) e
      rw [hF]
      clear hS hF
      have HE := Lib.hid e
      clear e
      go_enter Tryd.func45, Tryd.ntmps45
      go_wp2
      go_ret
      exact ⟨rfl, rfl⟩
  · have hF : Tom.starts t.data.toList (s.data.toList.drop k) = false := by
      cases hh : Tom.starts t.data.toList (s.data.toList.drop k) with
      | false => rfl
      | true =>
        have := (List.isPrefixOf_iff_prefix.1 hh).length_le
        rw [List.length_drop, size_toList, size_toList] at this
        omega
    rw [hF]
    clear hF
    go_enter Tryd.func45, Tryd.ntmps45
    go_wp2
    go_ret
    exact ⟨rfl, rfl⟩
end Go.Proofs.YtdhbljbfjdlcdaaDoor
