/-
  The plain law of instant, fourth part: fields one after the other. No program stands in it.
-/
import Derived.Test.YtbficmdjblimfaaDoorIn2
namespace Ins
/-- k fields from an offset on, the first of a width of its own, the others of two digits behind a separator; index i says whether one came before. -/
def fldR (L : List UInt8) (first : Nat) (sep : UInt8) : Nat → Nat → Nat → Option (List Nat × Nat)
  | 0, _, a => some ([], a)
  | k + 1, 0, a => match numAt L a first with
    | none => none
    | some v => (fldR L first sep k 1 (a + first)).map fun p => (v :: p.1, p.2)
  | k + 1, i + 1, a => if isAt L a sep then
      match numAt L (a + 1) 2 with
      | none => none
      | some v => (fldR L first sep k (i + 2) (a + 1 + 2)).map fun p => (v :: p.1, p.2)
    else none
theorem fldR_zero (L : List UInt8) (first : Nat) (sep : UInt8) (i a : Nat) : fldR L first sep 0 i a = some ([], a) := by
  cases i <;> rfl
theorem fldR_first (L : List UInt8) (first : Nat) (sep : UInt8) (k a : Nat) : fldR L first sep (k + 1) 0 a = match numAt L a first with
    | none => none
    | some v => (fldR L first sep k 1 (a + first)).map fun p => (v :: p.1, p.2) := rfl
theorem fldR_next (L : List UInt8) (first : Nat) (sep : UInt8) (k i a : Nat) : fldR L first sep (k + 1) (i + 1) a = if isAt L a sep then
      match numAt L (a + 1) 2 with
      | none => none
      | some v => (fldR L first sep k (i + 2) (a + 1 + 2)).map fun p => (v :: p.1, p.2)
    else none := rfl
theorem fld_date (L : List UInt8) (a : Nat) : fldR L 4 45 3 0 a = (dateAt L a).map fun p => ([p.1, p.2.1, p.2.2], a + 10) := by
  rw [fldR_first]
  unfold dateAt
  cases h1 : numAt L a 4 with
  | none => rfl
  | some y =>
    simp only
    rw [fldR_next]
    by_cases i1 : isAt L (a + 4) 45 = true
    · rw [if_pos i1]
      cases h2 : numAt L (a + 4 + 1) 2 with
      | none => rfl
      | some m =>
        simp only
        rw [fldR_next, show a + 4 + 1 + 2 = a + 7 by omega, show a + 8 = a + 7 + 1 by omega]
        by_cases i2 : isAt L (a + 7) 45 = true
        · rw [if_pos i2]
          cases h3 : numAt L (a + 7 + 1) 2 with
          | none => rfl
          | some d => simp only; rw [fldR_zero, i1, i2]; rfl
        · rw [if_neg i2]
          cases h3 : numAt L (a + 7 + 1) 2 with
          | none => rfl
          | some d => simp only; rw [if_neg (by rw [i1]; simpa using i2)]; rfl
    · rw [if_neg i1]
      cases h2 : numAt L (a + 5) 2 with
      | none => rfl
      | some m =>
        cases h3 : numAt L (a + 8) 2 with
        | none => rfl
        | some d => simp only; rw [if_neg (by intro h; rw [Bool.and_eq_true] at h; exact i1 h.1)]; rfl
theorem fld_hms (L : List UInt8) (a : Nat) : fldR L 2 58 3 0 a = (hmsAt L a).map fun p => ([p.1, p.2.1, p.2.2], a + 8) := by
  rw [fldR_first]
  unfold hmsAt
  cases h1 : numAt L a 2 with
  | none => rfl
  | some y =>
    simp only
    rw [fldR_next]
    by_cases i1 : isAt L (a + 2) 58 = true
    · rw [if_pos i1]
      cases h2 : numAt L (a + 2 + 1) 2 with
      | none => rfl
      | some m =>
        simp only
        rw [fldR_next, show a + 2 + 1 + 2 = a + 5 by omega, show a + 6 = a + 5 + 1 by omega]
        by_cases i2 : isAt L (a + 5) 58 = true
        · rw [if_pos i2]
          cases h3 : numAt L (a + 5 + 1) 2 with
          | none => rfl
          | some d => simp only; rw [fldR_zero, i1, i2]; rfl
        · rw [if_neg i2]
          cases h3 : numAt L (a + 5 + 1) 2 with
          | none => rfl
          | some d => simp only; rw [if_neg (by rw [i1]; simpa using i2)]; rfl
    · rw [if_neg i1]
      cases h2 : numAt L (a + 3) 2 with
      | none => rfl
      | some m =>
        cases h3 : numAt L (a + 6) 2 with
        | none => rfl
        | some d => simp only; rw [if_neg (by intro h; rw [Bool.and_eq_true] at h; exact i1 h.1)]; rfl
/-- The hour and the minute of a zone. -/
theorem fld_zone (L : List UInt8) (a : Nat) : fldR L 2 58 2 0 a = match numAt L a 2, numAt L (a + 3) 2 with
    | some h, some m => if isAt L (a + 2) 58 then some ([h, m], a + 5) else none
    | _, _ => none := by
  rw [fldR_first]
  cases h1 : numAt L a 2 with
  | none => rfl
  | some y =>
    simp only
    rw [fldR_next, show a + 2 + 1 = a + 3 by omega]
    by_cases i1 : isAt L (a + 2) 58 = true
    · rw [if_pos i1]
      cases h2 : numAt L (a + 3) 2 with
      | none => rfl
      | some m => simp only; rw [fldR_zero, if_pos i1]; rfl
    · rw [if_neg i1]
      cases h2 : numAt L (a + 3) 2 with
      | none => rfl
      | some m => simp only; rw [if_neg i1]; rfl
theorem fldR_len {L : List UInt8} {first : Nat} {sep : UInt8} : ∀ {k i a : Nat} {p : List Nat × Nat}, fldR L first sep k i a = some p → p.1.length = k := by
  intro k
  induction k with
  | zero => intro i a p h; rw [fldR_zero] at h; cases h; rfl
  | succ k ih =>
    intro i a p h
    cases i with
    | zero =>
      rw [fldR_first] at h
      cases h1 : numAt L a first with
      | none => rw [h1] at h; cases h
      | some v =>
        rw [h1] at h
        simp only at h
        cases h2 : fldR L first sep k 1 (a + first) with
        | none => rw [h2] at h; cases h
        | some q => rw [h2] at h; cases h; exact congrArg (· + 1) (ih h2)
    | succ i =>
      rw [fldR_next] at h
      split at h
      · cases h1 : numAt L (a + 1) 2 with
        | none => rw [h1] at h; cases h
        | some v =>
          rw [h1] at h
          simp only at h
          cases h2 : fldR L first sep k (i + 2) (a + 1 + 2) with
          | none => rw [h2] at h; cases h
          | some q => rw [h2] at h; cases h; exact congrArg (· + 1) (ih h2)
      · cases h
/-- What stands at an index once some values were written from q on. -/
def wrF (f : Nat → Int) (q : Nat) (vs : List Nat) : Nat → Int := fun j => if q ≤ j ∧ j < q + vs.length then ((vs.getD (j - q) 0 : Nat) : Int) else f j
theorem wrF_nil (f : Nat → Int) (q : Nat) : wrF f q [] = f := by
  funext j
  unfold wrF
  rw [if_neg (by simp only [List.length_nil]; omega)]
theorem wrF_snoc (f : Nat → Int) (q : Nat) (vs : List Nat) (v : Nat) (j : Nat) : wrF f q (vs ++ [v]) j = if j = q + vs.length then (v : Int) else wrF f q vs j := by
  unfold wrF
  rw [List.length_append, List.length_singleton]
  by_cases h : j = q + vs.length
  · subst h
    rw [if_pos (by omega), if_pos rfl, Nat.add_sub_cancel_left, List.getD_eq_getElem?_getD, List.getElem?_append_right (Nat.le_refl _)]
    simp
  · rw [if_neg h]
    by_cases h2 : q ≤ j ∧ j < q + vs.length
    · rw [if_pos (by omega), if_pos h2, List.getD_eq_getElem?_getD, List.getD_eq_getElem?_getD, List.getElem?_append_left (by omega)]
    · rw [if_neg (by omega), if_neg h2]
end Ins
