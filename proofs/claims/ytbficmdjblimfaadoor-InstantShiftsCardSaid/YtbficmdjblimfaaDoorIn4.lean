/-
  The plain law of instant, fifth part: the reading of a text as the program goes through it. No program stands in it.
-/
import Derived.Test.YtbficmdjblimfaaDoorIn3
namespace Ins
/-- Behind the part of a second. -/
def zT (L : List UInt8) (dt : Bool) (y mo d h mi s ns b : Nat) : Option M :=
  if b = L.length then some ⟨dt, true, y, mo, d, h, mi, s, ns, 0, 0, 0⟩
  else if dt then match zoneAt L b with
    | none => none
    | some (z, zh, zm, c) => if c = L.length then some ⟨true, true, y, mo, d, h, mi, s, ns, z, zh, zm⟩ else none
  else none
/-- Behind the seconds. -/
def fT (L : List UInt8) (dt : Bool) (y mo d h mi s p : Nat) : Option M :=
  match fracAt L p with
  | none => none
  | some (ns, b) => zT L dt y mo d h mi s ns b
/-- From the hour on. -/
def rdT (L : List UInt8) (dt : Bool) (y mo d p : Nat) : Option M :=
  match hmsAt L p with
  | none => none
  | some (h, mi, s) => fT L dt y mo d h mi s (p + 8)
theorem read_parts (L : List UInt8) : read L = match dateAt L 0 with
    | none => rdT L false 0 0 0 0
    | some (y, mo, d) => if L.length = 10 then some ⟨true, false, y, mo, d, 0, 0, 0, 0, 0, 0, 0⟩ else if isAt L 10 84 || isAt L 10 32 then rdT L true y mo d 11 else none := by
  unfold read rdT clockAt fT
  cases h1 : dateAt L 0 with
  | none =>
    simp only
    cases h2 : hmsAt L 0 with
    | none => rfl
    | some p =>
      obtain ⟨h, m, s⟩ := p
      simp only
      cases h3 : fracAt L (0 + 8) with
      | none => rfl
      | some q => obtain ⟨ns, b⟩ := q; simp only [zT]; rfl
  | some p =>
    obtain ⟨y, mo, d⟩ := p
    simp only
    by_cases hl : L.length = 10
    · rw [if_pos hl, if_pos hl]
    · rw [if_neg hl, if_neg hl]
      by_cases hs : (isAt L 10 84 || isAt L 10 32) = true
      · rw [if_pos hs, if_pos hs]
        cases h2 : hmsAt L 11 with
        | none => rfl
        | some p =>
          obtain ⟨h, m, s⟩ := p
          simp only
          cases h3 : fracAt L (11 + 8) with
          | none => rfl
          | some q => obtain ⟨ns, b⟩ := q; simp only [zT]; rfl
      · rw [if_neg hs, if_neg hs]
theorem numAt_dig {L : List UInt8} {a n x : Nat} (h : numAt L a n = some x) : ∀ j, j < n → ∃ c, L[a + j]? = some c ∧ dig c = true := by
  have key : ∀ (n v : Nat) (l : List UInt8) (x : Nat), num n v l = some x → ∀ j, j < n → ∃ c, l[j]? = some c ∧ dig c = true := by
    intro n
    induction n with
    | zero => intro v l x _ j hj; omega
    | succ n ih =>
      intro v l x h j hj
      cases l with
      | nil => simp [num] at h
      | cons c l =>
        unfold num at h
        split at h
        · rename_i hc
          cases j with
          | zero => exact ⟨c, rfl, hc⟩
          | succ j =>
            obtain ⟨d, h1, h2⟩ := ih _ l x h j (by omega)
            exact ⟨d, by rw [List.getElem?_cons_succ]; exact h1, h2⟩
        · cases h
  intro j hj
  obtain ⟨c, h1, h2⟩ := key n 0 (L.drop a) x h j hj
  rw [List.getElem?_drop] at h1
  exact ⟨c, h1, h2⟩
/-- Where the third byte is a colon, or there is none, the text does not begin with a date. -/
theorem date_no {L : List UInt8} (h : L.length ≤ 2 ∨ isAt L 2 58 = true) : dateAt L 0 = none := by
  unfold dateAt
  cases h1 : numAt L 0 4 with
  | none => rfl
  | some y =>
    obtain ⟨c, h2, h3⟩ := numAt_dig h1 2 (by omega)
    rw [Nat.zero_add] at h2
    rcases h with h | h
    · rw [List.getElem?_eq_none h] at h2
      cases h2
    · unfold isAt at h
      rw [beq_iff_eq, h2] at h
      cases h
      exact absurd h3 (by decide)
theorem hms_no {L : List UInt8} (h : isAt L 2 58 = false) : hmsAt L 0 = none := by
  unfold hmsAt
  rw [Nat.zero_add, h]
  cases numAt L 0 2 <;> cases numAt L (0 + 3) 2 <;> cases numAt L (0 + 6) 2 <;> rfl
/-- The text read, as the program goes: by its third byte. -/
theorem read_date {L : List UInt8} (h : isAt L 2 58 = false) : read L = match dateAt L 0 with
    | none => none
    | some (y, mo, d) => if L.length = 10 then some ⟨true, false, y, mo, d, 0, 0, 0, 0, 0, 0, 0⟩ else if isAt L 10 84 || isAt L 10 32 then rdT L true y mo d 11 else none := by
  rw [read_parts]
  cases dateAt L 0 with
  | none => simp only; unfold rdT; rw [hms_no h]
  | some p => rfl
theorem read_time {L : List UInt8} (h : L.length ≤ 2 ∨ isAt L 2 58 = true) : read L = rdT L false 0 0 0 0 := by
  rw [read_parts, date_no h]
theorem run_get : ∀ (l : List UInt8) (n : Nat), n < run l → ∃ c, l[n]? = some c ∧ dig c = true
  | [], n, h => by simp [run] at h
  | d :: l, n, h => by
    unfold run at h
    rw [List.takeWhile_cons] at h
    by_cases hd : dig d = true
    · rw [if_pos hd, List.length_cons] at h
      cases n with
      | zero => exact ⟨d, rfl, hd⟩
      | succ n =>
        obtain ⟨c, h1, h2⟩ := run_get l n (by unfold run; omega)
        exact ⟨c, by rw [List.getElem?_cons_succ]; exact h1, h2⟩
    · rw [if_neg hd] at h
      simp at h
theorem run_stop : ∀ (l : List UInt8) (c : UInt8), l[run l]? = some c → dig c = false
  | [], c, h => by simp [run] at h
  | d :: l, c, h => by
    unfold run at h
    rw [List.takeWhile_cons] at h
    by_cases hd : dig d = true
    · rw [if_pos hd, List.length_cons, List.getElem?_cons_succ] at h
      exact run_stop l c h
    · rw [if_neg hd, List.length_nil, List.getElem?_cons_zero] at h
      cases h
      simpa using hd
theorem val_snoc (l : List UInt8) (n : Nat) (c : UInt8) (h : l[n]? = some c) : val 0 (l.take (n + 1)) = 10 * val 0 (l.take n) + dv c := by
  obtain ⟨h1, h2⟩ := List.getElem?_eq_some_iff.1 h
  rw [List.take_succ_eq_append_getElem h1, val_app, val_one, h2]
/-- Behind nine digits and one more there is no zone. -/
theorem zT_digit (L : List UInt8) (dt : Bool) (y mo d h mi s ns b : Nat) (c : UInt8) (hc : L[b]? = some c) (hd : dig c = true) : zT L dt y mo d h mi s ns b = none := by
  have hb := (List.getElem?_eq_some_iff.1 hc).1
  unfold zT
  rw [if_neg (by omega)]
  have hz : zoneAt L b = none := by
    have h90 : isAt L b 90 = false := by unfold isAt; rw [hc, beq_eq_false_iff_ne]; intro e; cases e; exact absurd hd (by decide)
    have h43 : isAt L b 43 = false := by unfold isAt; rw [hc, beq_eq_false_iff_ne]; intro e; cases e; exact absurd hd (by decide)
    have h45 : isAt L b 45 = false := by unfold isAt; rw [hc, beq_eq_false_iff_ne]; intro e; cases e; exact absurd hd (by decide)
    unfold zoneAt
    rw [h90, h43, h45]
    rfl
  rw [hz]
  cases dt <;> rfl
/-- The part of a second as the program reads it: at most nine digits. -/
theorem fT_frac (L : List UInt8) (dt : Bool) (y mo d h mi s p : Nat) (hp : isAt L p 46 = true) :
    fT L dt y mo d h mi s p = if min 9 (run (L.drop (p + 1))) = 0 then none else zT L dt y mo d h mi s (val 0 ((L.drop (p + 1)).take (min 9 (run (L.drop (p + 1))))) * 10 ^ (9 - min 9 (run (L.drop (p + 1))))) (p + 1 + min 9 (run (L.drop (p + 1)))) := by
  unfold fT fracAt
  rw [if_pos hp]
  by_cases h1 : run (L.drop (p + 1)) < 1
  · rw [if_pos (.inl h1), if_pos (by omega)]
  · by_cases h9 : 9 < run (L.drop (p + 1))
    · rw [if_pos (.inr h9), if_neg (by omega)]
      obtain ⟨c, hc, hd⟩ := run_get _ 9 h9
      rw [List.getElem?_drop] at hc
      rw [zT_digit L dt y mo d h mi s _ (p + 1 + min 9 (run (L.drop (p + 1)))) c (by rw [show min 9 (run (L.drop (p + 1))) = 9 by omega]; exact hc) hd]
    · rw [if_neg (by omega), if_neg (by omega), show min 9 (run (L.drop (p + 1))) = run (L.drop (p + 1)) by omega]
theorem fT_none (L : List UInt8) (dt : Bool) (y mo d h mi s p : Nat) (hp : isAt L p 46 = false) : fT L dt y mo d h mi s p = zT L dt y mo d h mi s 0 p := by
  unfold fT fracAt
  rw [if_neg (by rw [hp]; decide)]
/-- A zone with a sign. -/
theorem zone_sign (L : List UInt8) (b : Nat) (c : UInt8) (hc : L[b]? = some c) (h : c = 43 ∨ c = 45) : zoneAt L b = (fldR L 2 58 2 0 (b + 1)).map fun p => (c, p.1.getD 0 0, p.1.getD 1 0, p.2) := by
  have h90 : isAt L b 90 = false := by unfold isAt; rw [hc, beq_eq_false_iff_ne]; rcases h with rfl | rfl <;> decide
  unfold zoneAt
  rw [if_neg (by rw [h90]; decide), fld_zone, show b + 1 + 3 = b + 4 by omega, show b + 1 + 2 = b + 3 by omega, show b + 1 + 5 = b + 6 by omega]
  have hs : (isAt L b 43 || isAt L b 45) = true := by
    unfold isAt
    rw [hc]
    rcases h with rfl | rfl <;> rfl
  rw [if_pos hs]
  have hz : (if isAt L b 43 then (43 : UInt8) else 45) = c := by
    unfold isAt
    rw [hc]
    rcases h with rfl | rfl <;> rfl
  cases numAt L (b + 1) 2 with
  | none => rfl
  | some x =>
    cases numAt L (b + 4) 2 with
    | none => rfl
    | some y =>
      simp only
      by_cases hi : isAt L (b + 3) 58 = true
      · rw [if_pos hi, if_pos hi, hz]; rfl
      · rw [if_neg hi, if_neg hi]; rfl
theorem zone_else (L : List UInt8) (b : Nat) (c : UInt8) (hc : L[b]? = some c) (h1 : c ≠ 90) (h2 : c ≠ 43) (h3 : c ≠ 45) : zoneAt L b = none := by
  have h90 : isAt L b 90 = false := by unfold isAt; rw [hc, beq_eq_false_iff_ne]; intro e; cases e; exact h1 rfl
  have h43 : isAt L b 43 = false := by unfold isAt; rw [hc, beq_eq_false_iff_ne]; intro e; cases e; exact h2 rfl
  have h45 : isAt L b 45 = false := by unfold isAt; rw [hc, beq_eq_false_iff_ne]; intro e; cases e; exact h3 rfl
  unfold zoneAt
  rw [h90, h43, h45]
  rfl
theorem zone_z (L : List UInt8) (b : Nat) (hc : L[b]? = some 90) : zoneAt L b = some (90, 0, 0, b + 1) := by
  unfold zoneAt isAt
  rw [hc]
  rfl
end Ins
