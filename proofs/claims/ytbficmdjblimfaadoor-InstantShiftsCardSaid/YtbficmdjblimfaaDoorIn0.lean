/-
  The plain law of instant: the fields of a text, the calendar, the canonical text. No program stands in it.
-/
namespace Ins
/-! ### The calendar -/
def leap (y : Nat) : Bool := y % 4 == 0 && (y % 100 != 0 || y % 400 == 0)
def mlen (y m : Nat) : Nat := if m = 2 then (if leap y then 29 else 28) else if m = 4 ∨ m = 6 ∨ m = 9 ∨ m = 11 then 30 else 31
def first (y : Nat) : Nat := 365 * y + (y + 3) / 4 - (y + 99) / 100 + (y + 399) / 400
/-- The days before month m + 1 of a year. -/
def cum (y : Nat) : Nat → Nat
  | 0 => 0
  | m + 1 => cum y m + mlen y (m + 1)
/-- The days from 0000-01-01 to a date. -/
def days (y m d : Nat) : Nat := first y + cum y (m - 1) + (d - 1)
def yearF : Nat → Nat → Nat → Nat
  | 0, y, _ => y
  | f + 1, y, n => if first (y + 1) ≤ n then yearF f (y + 1) n else y
def yearOf (n : Nat) : Nat := yearF 10000 (n / 366) n
def monthF : Nat → Nat → Nat → Nat → Nat × Nat
  | 0, _, m, n => (m, n)
  | f + 1, y, m, n => if mlen y m ≤ n then monthF f y (m + 1) (n - mlen y m) else (m, n)
def dateOf (n : Nat) : Nat × Nat × Nat := (yearOf n, (monthF 12 (yearOf n) 1 (n - first (yearOf n))).1, (monthF 12 (yearOf n) 1 (n - first (yearOf n))).2 + 1)
theorem mlen_bd (y m : Nat) : 28 ≤ mlen y m ∧ mlen y m ≤ 31 := by
  unfold mlen; repeat' split
  all_goals omega
theorem first_lo (y : Nat) : 365 * y ≤ first y := by unfold first; omega
theorem first_hi (y : Nat) : first y ≤ 366 * y := by unfold first; omega
theorem first_succ (y : Nat) : first (y + 1) = first y + 365 + (if leap y then 1 else 0) := by
  unfold first leap
  by_cases h4 : y % 4 = 0
  · by_cases h100 : y % 100 = 0
    · by_cases h400 : y % 400 = 0
      · simp [h4, h100, h400]; omega
      · simp [h4, h100, h400]; omega
    · simp [h4, h100]; omega
  · simp [h4]; omega
theorem cum12 (y : Nat) : first y + cum y 12 = first (y + 1) := by
  rw [first_succ]
  simp only [cum, mlen]
  cases leap y <;> simp <;> omega
theorem first_mono : ∀ {a b : Nat}, a ≤ b → first a ≤ first b := by
  intro a b h
  induction h with
  | refl => exact Nat.le_refl _
  | step _ ih => rw [Nat.succ_eq_add_one, first_succ]; omega
theorem yearF_ok : ∀ (f y n : Nat), first y ≤ n → n < first (y + f) → first (yearF f y n) ≤ n ∧ n < first (yearF f y n + 1)
  | 0, y, n, h1, h2 => by rw [Nat.add_zero] at h2; omega
  | f + 1, y, n, h1, h2 => by
    unfold yearF
    split
    · rename_i h
      exact yearF_ok f (y + 1) n h (by rw [show y + 1 + f = y + (f + 1) by omega]; exact h2)
    · rename_i h
      exact ⟨h1, by omega⟩
theorem first_10000 : first 10000 = 3652425 := by decide
theorem yearOf_ok (n : Nat) (h : n < 3652425) : first (yearOf n) ≤ n ∧ n < first (yearOf n + 1) ∧ yearOf n ≤ 9999 := by
  have h1 : first (n / 366) ≤ n := Nat.le_trans (first_hi _) (by omega)
  have h2 : n < first (n / 366 + 10000) := by
    refine Nat.lt_of_lt_of_le h ?_
    rw [← first_10000]
    exact first_mono (by omega)
  have h3 := yearF_ok 10000 (n / 366) n h1 h2
  refine ⟨h3.1, h3.2, ?_⟩
  apply Classical.byContradiction
  intro h4
  have h5 := first_mono (a := 10000) (b := yearOf n) (by omega)
  rw [first_10000] at h5
  have := h3.1
  unfold yearOf at h5
  omega
theorem monthF_ok : ∀ (f y m n : Nat), 1 ≤ m → n + cum y (m - 1) < cum y (m - 1 + f) → 
    (monthF f y m n).2 + cum y ((monthF f y m n).1 - 1) = n + cum y (m - 1) ∧ (monthF f y m n).2 < mlen y (monthF f y m n).1 ∧ m ≤ (monthF f y m n).1 ∧ (monthF f y m n).1 < m + f
  | 0, y, m, n, h1, h2 => by rw [Nat.add_zero] at h2; omega
  | f + 1, y, m, n, h1, h2 => by
    obtain ⟨m, rfl⟩ : ∃ k, m = k + 1 := ⟨m - 1, by omega⟩
    rw [Nat.add_sub_cancel] at h2 ⊢
    unfold monthF
    split
    · rename_i h
      have ih := monthF_ok f y (m + 1 + 1) (n - mlen y (m + 1)) (by omega) (by
        rw [Nat.add_sub_cancel, show m + 1 + f = m + (f + 1) by omega]
        show n - mlen y (m + 1) + (cum y m + mlen y (m + 1)) < _
        omega)
      rw [Nat.add_sub_cancel] at ih
      have e : cum y (m + 1) = cum y m + mlen y (m + 1) := rfl
      omega
    · rename_i h
      refine ⟨?_, ?_, Nat.le_refl _, ?_⟩
      · show n + cum y (m + 1 - 1) = _
        rw [Nat.add_sub_cancel]
      · show n < mlen y (m + 1)
        omega
      · show m + 1 < m + 1 + (f + 1)
        omega
/-- A date's fields are in range. -/
def dateOk (y m d : Nat) : Prop := y ≤ 9999 ∧ 1 ≤ m ∧ m ≤ 12 ∧ 1 ≤ d ∧ d ≤ mlen y m
instance (y m d : Nat) : Decidable (dateOk y m d) := by unfold dateOk; infer_instance
theorem dateOf_ok (n : Nat) (h : n < 3652425) : dateOk (dateOf n).1 (dateOf n).2.1 (dateOf n).2.2 ∧ days (dateOf n).1 (dateOf n).2.1 (dateOf n).2.2 = n := by
  obtain ⟨h1, h2, h3⟩ := yearOf_ok n h
  rw [← cum12] at h2
  obtain ⟨k1, k2, k3, k4⟩ := monthF_ok 12 (yearOf n) 1 (n - first (yearOf n)) (Nat.le_refl _) (by
    show n - first (yearOf n) + 0 < cum (yearOf n) (0 + 12)
    rw [Nat.zero_add]
    omega)
  have e0 : cum (yearOf n) (1 - 1) = 0 := rfl
  rw [e0] at k1
  unfold dateOf dateOk days
  simp only
  omega
theorem cum_lt (y m : Nat) (hm : m ≤ 12) : cum y m ≤ 31 * m := by
  induction m with
  | zero => simp [cum]
  | succ m ih => have := (mlen_bd y (m + 1)).2; have := ih (by omega); simp only [cum]; omega
theorem days_lt (y m d : Nat) (h : dateOk y m d) : days y m d < 3652425 := by
  obtain ⟨h1, h2, h3, h4, h5⟩ := h
  have h6 := first_mono (a := y + 1) (b := 10000) (by omega)
  rw [first_10000, ← cum12] at h6
  have h7 : cum y (m - 1) + mlen y m ≤ cum y 12 := by
    obtain ⟨k, rfl⟩ : ∃ k, m = k + 1 := ⟨m - 1, by omega⟩
    rw [Nat.add_sub_cancel]
    have h8 : ∀ j, k + 1 + j ≤ 12 → cum y (k + 1) ≤ cum y (k + 1 + j) := by
      intro j
      induction j with
      | zero => intro _; exact Nat.le_refl _
      | succ j ih => intro hj; exact Nat.le_trans (ih (by omega)) (by show cum y (k + 1 + j) ≤ cum y (k + 1 + j) + _; omega)
    have := h8 (12 - (k + 1)) (by omega)
    rw [show k + 1 + (12 - (k + 1)) = 12 by omega] at this
    exact this
  unfold days
  omega
/-! ### Digits -/
def dig (c : UInt8) : Bool := 48 ≤ c && c ≤ 57
def dv (c : UInt8) : Nat := c.toNat - 48
def num : Nat → Nat → List UInt8 → Option Nat
  | 0, v, _ => some v
  | _ + 1, _, [] => none
  | n + 1, v, c :: l => if dig c then num n (10 * v + dv c) l else none
def numAt (L : List UInt8) (at_ n : Nat) : Option Nat := num n 0 (L.drop at_)
def isAt (L : List UInt8) (at_ : Nat) (c : UInt8) : Bool := L[at_]? == some c
def run (l : List UInt8) : Nat := (l.takeWhile dig).length
/-- The fields of a text; the zone's sign is 0 where there is none. -/
structure M where
  date : Bool
  time : Bool
  y : Nat
  mo : Nat
  d : Nat
  h : Nat
  mi : Nat
  s : Nat
  ns : Nat
  z : UInt8
  zh : Nat
  zm : Nat
def val (v : Nat) (l : List UInt8) : Nat := l.foldl (fun v c => 10 * v + dv c) v
def dateAt (L : List UInt8) (a : Nat) : Option (Nat × Nat × Nat) :=
  match numAt L a 4, numAt L (a + 5) 2, numAt L (a + 8) 2 with
  | some y, some m, some d => if isAt L (a + 4) 45 && isAt L (a + 7) 45 then some (y, m, d) else none
  | _, _, _ => none
def hmsAt (L : List UInt8) (a : Nat) : Option (Nat × Nat × Nat) :=
  match numAt L a 2, numAt L (a + 3) 2, numAt L (a + 6) 2 with
  | some h, some m, some s => if isAt L (a + 2) 58 && isAt L (a + 5) 58 then some (h, m, s) else none
  | _, _, _ => none
/-- The part of a second at an offset, and where it ends. -/
def fracAt (L : List UInt8) (a : Nat) : Option (Nat × Nat) :=
  if isAt L a 46 then
    (if run (L.drop (a + 1)) < 1 ∨ 9 < run (L.drop (a + 1)) then none
     else some (val 0 ((L.drop (a + 1)).take (run (L.drop (a + 1)))) * 10 ^ (9 - run (L.drop (a + 1))), a + 1 + run (L.drop (a + 1))))
  else some (0, a)
def zoneAt (L : List UInt8) (a : Nat) : Option (UInt8 × Nat × Nat × Nat) :=
  if isAt L a 90 then some (90, 0, 0, a + 1)
  else if isAt L a 43 || isAt L a 45 then
    match numAt L (a + 1) 2, numAt L (a + 4) 2 with
    | some h, some m => if isAt L (a + 3) 58 then some (if isAt L a 43 then 43 else 45, h, m, a + 6) else none
    | _, _ => none
  else none
def clockAt (L : List UInt8) (a : Nat) : Option (Nat × Nat × Nat × Nat × Nat) :=
  match hmsAt L a with
  | none => none
  | some (h, m, s) => match fracAt L (a + 8) with
    | none => none
    | some (ns, b) => some (h, m, s, ns, b)
def read (L : List UInt8) : Option M :=
  match dateAt L 0 with
  | none => match clockAt L 0 with
    | none => none
    | some (h, m, s, ns, b) => if b = L.length then some ⟨false, true, 0, 0, 0, h, m, s, ns, 0, 0, 0⟩ else none
  | some (y, mo, d) =>
    if L.length = 10 then some ⟨true, false, y, mo, d, 0, 0, 0, 0, 0, 0, 0⟩
    else if isAt L 10 84 || isAt L 10 32 then
      match clockAt L 11 with
      | none => none
      | some (h, m, s, ns, b) =>
        if b = L.length then some ⟨true, true, y, mo, d, h, m, s, ns, 0, 0, 0⟩
        else match zoneAt L b with
          | none => none
          | some (z, zh, zm, c) => if c = L.length then some ⟨true, true, y, mo, d, h, m, s, ns, z, zh, zm⟩ else none
    else none
def M.ranges (m : M) : Bool := (!m.date || decide (dateOk m.y m.mo m.d)) && decide (m.h ≤ 23) && decide (m.mi ≤ 59) && decide (m.s ≤ 59) && decide (m.zh ≤ 23) && decide (m.zm ≤ 59)
/-- The seconds from 0000-01-01. -/
def M.secs (m : M) : Int := ((days m.y m.mo m.d * 86400 + m.h * 3600 + m.mi * 60 + m.s : Nat) : Int) + (if m.z = 43 then -((m.zh * 3600 + m.zm * 60 : Nat) : Int) else ((m.zh * 3600 + m.zm * 60 : Nat) : Int))
/-! ### The text -/
def dg (k : Nat) : UInt8 := UInt8.ofNat (48 + k % 10)
def pad : Nat → Nat → List UInt8
  | 0, _ => []
  | n + 1, x => pad n (x / 10) ++ [dg x]
def strip (l : List UInt8) : List UInt8 := (l.reverse.dropWhile (· == 48)).reverse
def fracT (ns : Nat) : List UInt8 := if ns = 0 then [] else 46 :: strip (pad 9 ns)
def dateT (y m d : Nat) : List UInt8 := pad 4 y ++ 45 :: (pad 2 m ++ 45 :: pad 2 d)
def hmsT (h m s : Nat) : List UInt8 := pad 2 h ++ 58 :: (pad 2 m ++ 58 :: pad 2 s)
def M.text (m : M) : List UInt8 := (if m.date then dateT m.y m.mo m.d else []) ++ (if m.date && m.time then [84] else []) ++ (if m.time then hmsT m.h m.mi m.s else []) ++ fracT m.ns
def top : Nat := 315569520000
/-- The canonical text of a moment: seconds from 0000-01-01. -/
def ofS (n : Nat) (ns : Nat) : M := ⟨true, true, (dateOf (n / 86400)).1, (dateOf (n / 86400)).2.1, (dateOf (n / 86400)).2.2, n % 86400 / 3600, n % 86400 / 60 % 60, n % 60, ns, 90, 0, 0⟩
def epoch : Int := 62167219200
inductive R where
  | ok (t : List UInt8)
  | bad (e : Nat)
/-- The canonical text, or the number of the error. -/
def ofSeconds (n ns : Int) : R :=
  if ns < 0 ∨ 999999999 < ns then .bad 2
  else if n < -epoch ∨ (top : Int) - epoch ≤ n then .bad 13
  else .ok ((ofS (n + epoch).toNat ns.toNat).text ++ [90])
def instant (L : List UInt8) : R :=
  match read L with
  | none => .bad 3
  | some m => if m.z = 0 then .bad 3 else if !m.ranges then .bad 13 else ofSeconds (m.secs - epoch) m.ns
def localOf (L : List UInt8) : R :=
  match read L with
  | none => .bad 3
  | some m => if m.z ≠ 0 then .bad 3 else if !m.ranges then .bad 13 else .ok m.text
end Ins
