/-
  The plain law of tomllex: tokens of a source, as functions on what is left of it. No program stands in it.
-/
namespace Tom
/-- The length of the line end with which l begins, or 0. -/
def lineEnd : List UInt8 → Nat
  | 10 :: _ => 1
  | 13 :: 10 :: _ => 2
  | _ => 0
def bare (c : UInt8) : Bool := (97 ≤ c && c ≤ 122) || (65 ≤ c && c ≤ 90) || (48 ≤ c && c ≤ 57) || c == 95 || c == 45 || c == 43 || c == 58
def blank (c : UInt8) : Bool := c == 32 || c == 9
def control (c : UInt8) : Bool := (c < 32 && c != 9) || c == 127
/-- The number of bytes at the beginning that satisfy a condition. -/
def run (p : UInt8 → Bool) (l : List UInt8) : Nat := (l.takeWhile p).length
theorem run_nil (p : UInt8 → Bool) : run p [] = 0 := rfl
theorem run_le (p : UInt8 → Bool) (l : List UInt8) : run p l ≤ l.length := (List.takeWhile_sublist p).length_le
theorem run_cons (p : UInt8 → Bool) (c : UInt8) (l : List UInt8) : run p (c :: l) = if p c then run p l + 1 else 0 := by
  unfold run
  rw [List.takeWhile_cons]
  split <;> simp
/-- What holds at the places below k, and fails at k (or k is the end), is the run. -/
theorem run_at (p : UInt8 → Bool) : ∀ (l : List UInt8) (k : Nat), k ≤ l.length → (∀ j, j < k → p (l.getD j 0) = true) → (k < l.length → p (l.getD k 0) = false) → run p l = k
  | [], k, hk, _, _ => by simp at hk; subst hk; rfl
  | c :: l, 0, _, _, h => by
    have := h (by simp)
    rw [List.getD_cons_zero] at this
    rw [run_cons, this]
    rfl
  | c :: l, k + 1, hk, hb, h => by
    have h0 := hb 0 (by omega)
    rw [List.getD_cons_zero] at h0
    rw [run_cons, h0, if_pos rfl, run_at p l k (by simpa using hk) (fun j hj => by have := hb (j + 1) (by omega); rwa [List.getD_cons_succ] at this) (fun hlt => by have := h (by simpa using hlt); rwa [List.getD_cons_succ] at this)]
/-- The value of a hexadecimal digit. -/
def digit (c : UInt8) : Option Nat :=
  if 48 ≤ c && c ≤ 57 then some (c.toNat - 48) else if 97 ≤ c && c ≤ 102 then some (c.toNat - 87) else if 65 ≤ c && c ≤ 70 then some (c.toNat - 55) else none
/-- The number that n hexadecimal digits represent. -/
def hexNum : Nat → Nat → List UInt8 → Option Nat
  | 0, v, _ => some v
  | _ + 1, _, [] => none
  | n + 1, v, c :: l => match digit c with | some d => hexNum n (16 * v + d) l | none => none
/-- The encoding of a scalar. -/
def enc (n : Nat) : List UInt8 :=
  if n < 128 then [UInt8.ofNat n]
  else if n < 2048 then [UInt8.ofNat (192 + n / 64), UInt8.ofNat (128 + n % 64)]
  else if n < 65536 then [UInt8.ofNat (224 + n / 4096), UInt8.ofNat (128 + n / 64 % 64), UInt8.ofNat (128 + n % 64)]
  else [UInt8.ofNat (240 + n / 262144), UInt8.ofNat (128 + n / 4096 % 64), UInt8.ofNat (128 + n / 64 % 64), UInt8.ofNat (128 + n % 64)]
def scalar (n : Nat) : Bool := n < 55296 || (57343 < n && n ≤ 1114111)
/-- The escape with which l begins (a backslash and more): its text and its length; none if it is not allowed. -/
def escape (l : List UInt8) : Option (List UInt8 × Nat) :=
  match l with
  | _ :: 98 :: _ => some ([8], 2)
  | _ :: 116 :: _ => some ([9], 2)
  | _ :: 110 :: _ => some ([10], 2)
  | _ :: 102 :: _ => some ([12], 2)
  | _ :: 114 :: _ => some ([13], 2)
  | _ :: 34 :: _ => some ([34], 2)
  | _ :: 92 :: _ => some ([92], 2)
  | _ :: 117 :: r => match hexNum 4 0 r with | some n => if scalar n then some (enc n, 6) else none | none => none
  | _ :: 85 :: r => match hexNum 8 0 r with | some n => if scalar n then some (enc n, 10) else none | none => none
  | _ => none
/-- The white space and line ends with which l begins (with fuel). -/
def spaces : Nat → List UInt8 → Nat
  | 0, _ => 0
  | f + 1, l => let m := run blank l + lineEnd (l.drop (run blank l)); if m = 0 then 0 else m + spaces f (l.drop m)
/-- A backslash at the end of a line with all that is folded; 0 if there is none. -/
def folded (l : List UInt8) : Nat :=
  let n := 1 + run blank (l.drop 1)
  if lineEnd (l.drop n) = 0 then 0 else n + spaces l.length (l.drop n)
def starts (q l : List UInt8) : Bool := q.isPrefixOf l
/-- The content of a string, behind its opening quotes: what comes out and how long it is (with its closing quotes), or the place of an error, or none if it does not end. -/
inductive Cont where
  | ok (text : List UInt8) (n : Nat)
  | bad (n : Nat)
  | open_
def contLoop (q : List UInt8) (many : Bool) : Nat → Nat → List UInt8 → List UInt8 → Cont
  | 0, _, _, _ => .open_
  | _ + 1, _, _, [] => .open_
  | f + 1, at_, out, c :: r =>
    if starts q (c :: r) then
      let k := if many && starts q r then (if starts q (r.drop 1) then 2 else 1) else 0
      .ok (out ++ List.replicate k (q.headD 0)) (at_ + k + q.length)
    else if many && 0 < lineEnd (c :: r) then contLoop q many f (at_ + lineEnd (c :: r)) (out ++ [10]) ((c :: r).drop (lineEnd (c :: r)))
    else if control c then .bad at_
    else if c == 92 && q.headD 0 == 34 then
      if many && 0 < folded (c :: r) then contLoop q many f (at_ + folded (c :: r)) out ((c :: r).drop (folded (c :: r)))
      else match escape (c :: r) with
        | some (t, n) => contLoop q many f (at_ + n) (out ++ t) ((c :: r).drop n)
        | none => .bad at_
    else contLoop q many f (at_ + 1) (out ++ [c]) r
def content (q l : List UInt8) : Cont :=
  let many := q.length == 3
  let a := q.length + if many then lineEnd (l.drop q.length) else 0
  contLoop q many (l.length + 1) a [] (l.drop a)
/-- A token: its kind, its length and its text; or the place of an error. -/
inductive Tok where
  | ok (kind n : Nat) (text : List UInt8)
  | bad (n : Nat)
def token (l : List UInt8) : Tok :=
  if 0 < lineEnd l then .ok 1 (lineEnd l) []
  else match l with
    | [] => .bad 0
    | c :: _ =>
      if [91, 93, 123, 125, 44, 61, 46].contains c then .ok 2 1 [c]
      else if bare c then .ok 3 (run bare l) (l.take (run bare l))
      else if c == 34 || c == 39 then
        let q := if starts [c, c, c] l then [c, c, c] else [c]
        let k := (if c == 34 then 4 else 5) + (if starts [c, c, c] l then 2 else 0)
        match content q l with
        | .ok t n => .ok k n t
        | .bad n => .bad n
        | .open_ => .bad 0
      else .bad 0
end Tom
