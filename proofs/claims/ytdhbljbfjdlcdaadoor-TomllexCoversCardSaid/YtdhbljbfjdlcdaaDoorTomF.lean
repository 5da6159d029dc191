/-
  tomllex.escape by its contract.
-/
import Derived.Test.YtdhbljbfjdlcdaaDoorTomC
import Derived.Test.YtdhbljbfjdlcdaaDoorTomE
namespace Go.Proofs.YtdhbljbfjdlcdaaDoor
open Go.RowKit
def escOf : Option (List UInt8 × Nat) → ByteArray × Nat
  | none => (⟨#[]⟩, 0)
  | some (t, n) => (⟨t.toArray⟩, n)
def RetE (w : World) (o : Option (List UInt8 × Nat)) (e : Go.Ending) (w' : World) : Prop := e = .returned (.tuple #[.string (escOf o).1, .int .i64 ((escOf o).2 : Int)]) ∧ Below w.heap.size w w'
set_option maxRecDepth 100000 in
set_option maxHeartbeats 4000000 in
theorem escape_short (s : ByteArray) (w : World) (hs : s.size < 2) :
    Calls Tryd.prog 71 #[.string s] w (RetE w (Tom.escape s.data.toList)) := by
  have hE : Tom.escape s.data.toList = none := by
    have hl : s.data.toList.length < 2 := by rw [size_toList]; exact hs
    generalize s.data.toList = l at hl
    match l, hl with
    | [], _ => rfl
    | [_], _ => rfl
  rw [hE]
  clear hE
  have h2 : (s.size : Int) < 2 := by omega
  go_enter Tryd.func71, Tryd.ntmps71
  go_wp2
  go_ret2
  exact ⟨rfl, Below.refl _ _⟩
/-- The escapes of two signs. -/
def esc2 (c : UInt8) : Option (List UInt8 × Nat) :=
  if c = 98 then some ([8], 2) else if c = 116 then some ([9], 2) else if c = 110 then some ([10], 2) else if c = 102 then some ([12], 2) else if c = 114 then some ([13], 2) else if c = 34 then some ([34], 2) else if c = 92 then some ([92], 2) else none
theorem esc2_none : ∀ c : UInt8, c.toNat ≠ 98 → c.toNat ≠ 116 → c.toNat ≠ 110 → c.toNat ≠ 102 → c.toNat ≠ 114 → c.toNat ≠ 34 → c.toNat ≠ 92 → esc2 c = none := by
  intro c h1 h2 h3 h4 h5 h6 h7
  unfold esc2
  rw [if_neg (fun e => h1 (by rw [e]; rfl)), if_neg (fun e => h2 (by rw [e]; rfl)), if_neg (fun e => h3 (by rw [e]; rfl)), if_neg (fun e => h4 (by rw [e]; rfl)), if_neg (fun e => h5 (by rw [e]; rfl)), if_neg (fun e => h6 (by rw [e]; rfl)), if_neg (fun e => h7 (by rw [e]; rfl))]
theorem ext12 (s : ByteArray) (hs : 2 ≤ s.size) : s.extract 1 2 = ⟨#[s[1]]⟩ := by
  have a1 : s.data.toList.drop 1 = s[1] :: s.data.toList.drop 2 := List.drop_eq_getElem_cons (by rw [size_toList]; omega)
  rw [ByteArray.ext_iff]
  refine Array.toList_inj.1 ?_
  rw [Lib.extract_data, a1]
  rfl
theorem escape_esc2 (a c : UInt8) (r : List UInt8) (h1 : c ≠ 117) (h2 : c ≠ 85) : Tom.escape (a :: c :: r) = esc2 c := by
  unfold Tom.escape
  split <;> simp_all [esc2]
set_option maxRecDepth 100000 in
set_option maxHeartbeats 4000000 in
theorem escape_plain (s : ByteArray) (w : World) (hs : 2 ≤ s.size) (h1 : s[1] ≠ 117) (h2 : s[1] ≠ 85) :
    Calls Tryd.prog 71 #[.string s] w (RetE w (Tom.escape s.data.toList)) := by
  have hE : Tom.escape s.data.toList = esc2 s[1] := by
    have e0 : s.data.toList = s[0] :: s[1] :: s.data.toList.drop 2 := by
      have a0 : s.data.toList.drop 0 = s[0] :: s.data.toList.drop 1 := List.drop_eq_getElem_cons (by rw [size_toList]; omega)
      have a1 : s.data.toList.drop 1 = s[1] :: s.data.toList.drop 2 := List.drop_eq_getElem_cons (by rw [size_toList]; omega)
      rw [a1] at a0
      simpa using a0
    rw [e0]
    exact escape_esc2 _ _ _ h1 h2
  rw [hE]
  clear hE
  have n1 : ¬ ((s[1].toNat : Int) = 117) := fun e => h1 (UInt8.toNat_inj.1 (by omega : s[1].toNat = 117))
  have n2 : ¬ ((s[1].toNat : Int) = 85) := fun e => h2 (UInt8.toNat_inj.1 (by omega : s[1].toNat = 85))
  clear h1 h2
  go_enter Tryd.func71, Tryd.ntmps71
  go_wp2
  all_goals
    go_ret2
    try simp only [beq_iff_eq, beq_eq_false_iff_ne, ne_eq] at *
    first
      | (rw [show s[1] = 98 from UInt8.toNat_inj.1 (by show s[1].toNat = 98; omega)]; exact ⟨rfl, Below.refl _ _⟩)
      | (rw [show s[1] = 116 from UInt8.toNat_inj.1 (by show s[1].toNat = 116; omega)]; exact ⟨rfl, Below.refl _ _⟩)
      | (rw [show s[1] = 110 from UInt8.toNat_inj.1 (by show s[1].toNat = 110; omega)]; exact ⟨rfl, Below.refl _ _⟩)
      | (rw [show s[1] = 102 from UInt8.toNat_inj.1 (by show s[1].toNat = 102; omega)]; exact ⟨rfl, Below.refl _ _⟩)
      | (rw [show s[1] = 114 from UInt8.toNat_inj.1 (by show s[1].toNat = 114; omega)]; exact ⟨rfl, Below.refl _ _⟩)
      | (rw [ext12 s hs, show s[1] = 34 from UInt8.toNat_inj.1 (by show s[1].toNat = 34; omega)]; exact ⟨rfl, Below.refl _ _⟩)
      | (rw [ext12 s hs, show s[1] = 92 from UInt8.toNat_inj.1 (by show s[1].toNat = 92; omega)]; exact ⟨rfl, Below.refl _ _⟩)
      | (rw [esc2_none s[1] (by omega) (by omega) (by omega) (by omega) (by omega) (by omega) (by omega)]; exact ⟨rfl, Below.refl _ _⟩)
end Go.Proofs.YtdhbljbfjdlcdaaDoor
