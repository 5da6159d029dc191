/-
  The plain law of jsonlex: tokens of a source, as functions on what is left of it. No program stands in it.
-/
import Derived.Lib.Hide
namespace Jsn
def run (p : UInt8 → Bool) (l : List UInt8) : Nat := (l.takeWhile p).length
theorem run_nil (p : UInt8 → Bool) : run p [] = 0 := rfl
theorem run_le (p : UInt8 → Bool) (l : List UInt8) : run p l ≤ l.length := (List.takeWhile_sublist p).length_le
theorem run_cons (p : UInt8 → Bool) (c : UInt8) (l : List UInt8) : run p (c :: l) = if p c then run p l + 1 else 0 := by
  unfold run
  rw [List.takeWhile_cons]
  split <;> simp
def letter (c : UInt8) : Bool := (97 ≤ c && c ≤ 122) || (65 ≤ c && c ≤ 90) || c == 95
def numeric (c : UInt8) : Bool := (48 ≤ c && c ≤ 57) || c == 46 || c == 43 || c == 45
def seqc (c : UInt8) : Bool := letter c || numeric c
def white (c : UInt8) : Bool := c == 32 || c == 9 || c == 13 || c == 10
def punct (c : UInt8) : Bool := ([123, 125, 91, 93, 58, 44] : List UInt8).contains c
def dig (c : UInt8) : Bool := 48 ≤ c && c ≤ 57
/-- A numeral (layer 4), in three parts. -/
def expo : List UInt8 → Bool
  | [] => true
  | c :: r => (c == 101 || c == 69) && (let t := if r.head? == some 45 || r.head? == some 43 then r.drop 1 else r
      !t.isEmpty && run dig t == t.length)
def frac : List UInt8 → Bool
  | 46 :: r => run dig r != 0 && expo (r.drop (run dig r))
  | l => expo l
def whole (l : List UInt8) : Bool := if run dig l == 0 || (decide (1 < run dig l) && l.head? == some 48) then false else frac (l.drop (run dig l))
def numeral (l : List UInt8) : Bool := whole (if l.head? == some 45 then l.drop 1 else l)
/-- The value of a hexadecimal digit. -/
def digit (c : UInt8) : Option Nat :=
  if 48 ≤ c && c ≤ 57 then some (c.toNat - 48) else if 97 ≤ c && c ≤ 102 then some (c.toNat - 87) else if 65 ≤ c && c ≤ 70 then some (c.toNat - 55) else none
def hexNum : Nat → Nat → List UInt8 → Option Nat
  | 0, v, _ => some v
  | _ + 1, _, [] => none
  | n + 1, v, c :: l => match digit c with | some d => hexNum n (16 * v + d) l | none => none
/-- The number of the escape \u with which l begins. -/
def unit : List UInt8 → Option Nat
  | 92 :: 117 :: r => hexNum 4 0 r
  | _ => none
def meaning (c : UInt8) : Nat :=
  if c == 34 then 34 else if c == 92 then 92 else if c == 47 then 47 else if c == 98 then 8 else if c == 102 then 12 else if c == 110 then 10 else if c == 114 then 13 else if c == 116 then 9 else 0
inductive Esc where
  | ok (rune n : Nat)
  | bad (code : Nat)
def escape (l : List UInt8) : Esc :=
  match unit l with
  | none => if 0 < meaning (l.getD 1 0) then .ok (meaning (l.getD 1 0)) 2 else .bad 4
  | some n => if n < 55296 ∨ 57343 < n then .ok n 6
    else match unit (l.drop 6) with
      | none => .bad 11
      | some low => if 56319 < n ∨ low < 56320 ∨ 57343 < low then .bad 11 else .ok (65536 + (n - 55296) * 1024 + (low - 56320)) 12
def enc (n : Nat) : List UInt8 :=
  if n < 128 then [UInt8.ofNat n]
  else if n < 2048 then [UInt8.ofNat (192 + n / 64), UInt8.ofNat (128 + n % 64)]
  else if n < 65536 then [UInt8.ofNat (224 + n / 4096), UInt8.ofNat (128 + n / 64 % 64), UInt8.ofNat (128 + n % 64)]
  else [UInt8.ofNat (240 + n / 262144), UInt8.ofNat (128 + n / 4096 % 64), UInt8.ofNat (128 + n / 64 % 64), UInt8.ofNat (128 + n % 64)]
inductive Q where
  | ok (text : List UInt8) (n : Nat)
  | bad (code n : Nat)
/-- The rest of a string, behind its opening quote: what comes out and where it ends, or an error and its place. -/
def quo : Nat → Nat → List UInt8 → List UInt8 → Q
  | 0, _, _, _ => .bad 4 0
  | _ + 1, _, _, [] => .bad 4 0
  | f + 1, a, out, c :: r =>
    if c == 34 then .ok out (a + 1)
    else if c < 32 then .bad 4 a
    else if c == 92 then match escape (c :: r) with
      | .ok x n => quo f (a + n) (out ++ enc x) ((c :: r).drop n)
      | .bad e => .bad e a
    else quo f (a + 1) (out ++ [c]) r
inductive Tok where
  | ok (kind n : Nat) (text : List UInt8)
  | bad (code n : Nat)
def word (t : List UInt8) : Bool := t == [116, 114, 117, 101] || t == [102, 97, 108, 115, 101] || t == [110, 117, 108, 108]
def sequence (l : List UInt8) : Tok :=
  if numeric (l.headD 0) then (if numeral (l.take (run seqc l)) then .ok 3 (run seqc l) (l.take (run seqc l)) else .bad 12 0)
  else if word (l.take (run seqc l)) then .ok 4 (run seqc l) (l.take (run seqc l)) else .bad 4 0
def qtok : Q → Tok
  | .ok t n => .ok 2 n t
  | .bad e n => .bad e n
def token (l : List UInt8) : Tok :=
  if punct (l.headD 0) then .ok 1 1 (l.take 1)
  else if l.headD 0 == 34 then qtok (quo l.length 1 [] (l.drop 1))
  else if seqc (l.headD 0) then sequence l
  else .bad 4 0
def close : List UInt8 → Option Nat
  | [] => none
  | [_] => none
  | a :: b :: r => if a == 42 && b == 47 then some 0 else (close (b :: r)).map (· + 1)
/-- The length of the comment with which l begins; 0 if there is none; none if it does not end. -/
def comment : List UInt8 → Option Nat
  | 47 :: 47 :: r => some (2 + run (fun c => c != 10) r)
  | 47 :: 42 :: r => (close r).map (· + 4)
  | _ => some 0
structure T where
  kind : Nat
  frm : Nat
  to : Nat
  text : List UInt8
structure Note where
  frm : Nat
  to : Nat
  text : List UInt8
inductive Res where
  | ok (toks : List T) (notes : List Note)
  | bad (code n : Nat)
def T.sh (d : Nat) (t : T) : T := ⟨t.kind, t.frm + d, t.to + d, t.text⟩
def Note.sh (d : Nat) (t : Note) : Note := ⟨t.frm + d, t.to + d, t.text⟩
def Res.app (p : Nat) (ts : List T) (ns : List Note) : Res → Res
  | .ok T N => .ok (ts ++ T.map (Jsn.T.sh p)) (ns ++ N.map (Jsn.Note.sh p))
  | .bad e n => .bad e (p + n)
inductive Step where
  | skip
  | note (m : Nat)
  | tok (k m : Nat) (t : List UInt8)
  | bad (e m : Nat)
def tstep : Tok → Step
  | .ok k n t => .tok k n t
  | .bad e n => .bad e n
def step (l : List UInt8) : Step :=
  if white (l.headD 0) then .skip
  else match comment l with
    | none => .bad 4 0
    | some 0 => tstep (token l)
    | some (m + 1) => .note (m + 1)
def scanF : Nat → List UInt8 → Res
  | 0, _ => .ok [] []
  | _ + 1, [] => .ok [] []
  | f + 1, c :: r => match step (c :: r) with
    | .skip => (scanF f r).app 1 [] []
    | .note m => (scanF f ((c :: r).drop m)).app m [] [⟨0, m, (c :: r).take m⟩]
    | .tok k m t => (scanF f ((c :: r).drop m)).app m [⟨k, 0, m, t⟩] []
    | .bad e m => .bad e m
def scan (l : List UInt8) : Res := scanF l.length l
/-! ### Bounds -/
def ascii (l : List UInt8) : Prop := ∀ c ∈ l, c.toNat < 128
theorem digit_ascii (c : UInt8) (d : Nat) (h : digit c = some d) : c.toNat < 128 ∧ d < 16 := by
  unfold digit at h
  simp only [Bool.and_eq_true, decide_eq_true_eq, UInt8.le_iff_toNat_le] at h
  have e0 : (48 : UInt8).toNat = 48 := rfl
  have e1 : (57 : UInt8).toNat = 57 := rfl
  have e2 : (97 : UInt8).toNat = 97 := rfl
  have e3 : (102 : UInt8).toNat = 102 := rfl
  have e4 : (65 : UInt8).toNat = 65 := rfl
  have e5 : (70 : UInt8).toNat = 70 := rfl
  split at h
  · injection h with h; omega
  · split at h
    · injection h with h; omega
    · split at h
      · injection h with h; omega
      · simp at h
theorem hexNum_bd : ∀ (n v : Nat) (l : List UInt8) (x : Nat), hexNum n v l = some x → n ≤ l.length ∧ ascii (l.take n) ∧ x < (v + 1) * 16 ^ n
  | 0, v, l, x, h => by
    injection h with h
    exact ⟨Nat.zero_le _, by intro c hc; simp at hc, by simp; omega⟩
  | _ + 1, _, [], _, h => by simp [hexNum] at h
  | n + 1, v, c :: l, x, h => by
    unfold hexNum at h
    split at h
    · rename_i d hd
      obtain ⟨h1, h2, h3⟩ := hexNum_bd n _ l x h
      have hd2 := digit_ascii c d hd
      refine ⟨by simp; omega, ?_, ?_⟩
      · intro a ha
        rw [List.take_succ_cons] at ha
        rcases List.mem_cons.1 ha with rfl | ha
        · exact hd2.1
        · exact h2 a ha
      · rw [Nat.pow_succ, Nat.mul_comm (16 ^ n) 16, ← Nat.mul_assoc]
        exact Nat.lt_of_lt_of_le h3 (Nat.mul_le_mul_right _ (by omega))
    · simp at h
theorem unit_bd (l : List UInt8) (x : Nat) (h : unit l = some x) : 6 ≤ l.length ∧ ascii (l.take 6) ∧ x < 65536 := by
  unfold unit at h
  split at h
  · rename_i r
    obtain ⟨h1, h2, h3⟩ := hexNum_bd 4 0 r x h
    refine ⟨by simp; omega, ?_, by simpa using h3⟩
    intro c hc
    simp only [List.take_succ_cons, List.mem_cons] at hc
    rcases hc with rfl | rfl | hc
    · decide
    · decide
    · exact h2 c hc
  · simp at h
theorem meaning_bd (c : UInt8) : meaning c < 128 ∧ (0 < meaning c → c.toNat < 128) := by
  unfold meaning
  repeat' split
  all_goals simp_all
theorem enc_len (n : Nat) : 1 ≤ (enc n).length ∧ (enc n).length ≤ 4 ∧ (n < 65536 → (enc n).length ≤ 3) ∧ (n < 128 → (enc n).length = 1) := by
  unfold enc
  repeat' split
  all_goals simp
  all_goals omega
theorem escape_bd (l : List UInt8) (h0 : l.headD 0 = 92) (x n : Nat) (h : escape l = .ok x n) : 2 ≤ n ∧ n ≤ l.length ∧ ascii (l.take n) ∧ (enc x).length ≤ n ∧ x ≤ 1114111 ∧ (x < 55296 ∨ 57343 < x) := by
  unfold escape at h
  cases hu : unit l with
  | none =>
    rw [hu] at h
    simp only at h
    split at h
    · rename_i hm
      simp only [Esc.ok.injEq] at h
      obtain ⟨rfl, rfl⟩ := h
      match l, h0, hm with
      | [], _, hm => exact absurd hm (by decide)
      | [a], _, hm => exact absurd hm (by simp [meaning])
      | a :: b :: r, h0, hm =>
        have hb := meaning_bd b
        simp only [List.getD_cons_succ, List.getD_cons_zero] at *
        refine ⟨Nat.le_refl _, by simp, ?_, by have := (enc_len (meaning b)).2.2.2 hb.1; omega, by omega, by omega⟩
        intro c hc
        simp only [List.take_succ_cons, List.take_zero, List.mem_cons, List.not_mem_nil, or_false] at hc
        simp only [List.headD_cons] at h0
        rcases hc with rfl | rfl
        · subst h0; decide
        · exact hb.2 hm
    · simp at h
  | some v =>
    rw [hu] at h
    simp only at h
    have b1 := unit_bd l v hu
    split at h
    · rename_i hr
      simp only [Esc.ok.injEq] at h
      obtain ⟨rfl, rfl⟩ := h
      exact ⟨by omega, b1.1, b1.2.1, by have := (enc_len v).2.2.1 b1.2.2; omega, by omega, by omega⟩
    · cases hv : unit (l.drop 6) with
      | none => rw [hv] at h; simp at h
      | some low =>
        rw [hv] at h
        simp only at h
        split at h
        · simp at h
        · rename_i hr1 hr2
          simp only [Esc.ok.injEq] at h
          obtain ⟨rfl, rfl⟩ := h
          have b2 := unit_bd _ low hv
          rw [List.length_drop] at b2
          refine ⟨by omega, by omega, ?_, by have := (enc_len (65536 + (v - 55296) * 1024 + (low - 56320))).2.1; omega, by omega, by omega⟩
          intro c hc
          rw [show 12 = 6 + 6 from rfl, List.take_add] at hc
          rcases List.mem_append.1 hc with hc | hc
          · exact b1.2.1 c hc
          · exact b2.2.1 c hc
theorem quo_bd : ∀ (f a : Nat) (out l t : List UInt8) (n : Nat), out.length ≤ a → quo f a out l = .ok t n → ∃ m, n = a + m + 1 ∧ m < l.length ∧ l[m]? = some 34 ∧ t.length ≤ a + m
  | 0, _, _, _, _, _, _, h => by simp [quo] at h
  | _ + 1, _, _, [], _, _, _, h => by simp [quo] at h
  | f + 1, a, out, c :: r, t, n, ho, h => by
    unfold quo at h
    split at h
    · rename_i hc
      simp only [Q.ok.injEq] at h
      obtain ⟨rfl, rfl⟩ := h
      rw [beq_iff_eq] at hc
      subst hc
      exact ⟨0, rfl, by simp, rfl, by simpa using ho⟩
    · split at h
      · simp at h
      · split at h
        · rename_i h92
          split at h
          · rename_i x m he
            have hb := escape_bd (c :: r) (by rw [beq_iff_eq] at h92; simp [h92]) x m he
            obtain ⟨k, h1, h2, h3, h4⟩ := quo_bd f _ _ _ t n (by simp only [List.length_append]; omega) h
            rw [List.length_drop] at h2
            rw [List.getElem?_drop] at h3
            exact ⟨m + k, by omega, by omega, h3, by omega⟩
          · simp at h
        · obtain ⟨k, h1, h2, h3, h4⟩ := quo_bd f _ _ _ t n (by simp; omega) h
          exact ⟨k + 1, by omega, by simp; omega, by rw [List.getElem?_cons_succ]; exact h3, by omega⟩
theorem quo_bad : ∀ (f a : Nat) (out l : List UInt8) (e n : Nat), quo f a out l = .bad e n → n ≤ a + l.length
  | 0, _, _, _, _, _, h => by simp only [quo, Q.bad.injEq] at h; omega
  | _ + 1, _, _, [], _, _, h => by simp only [quo, Q.bad.injEq] at h; omega
  | f + 1, a, out, c :: r, e, n, h => by
    unfold quo at h
    split at h
    · simp at h
    · split at h
      · simp only [Q.bad.injEq] at h; omega
      · split at h
        · rename_i h92
          split at h
          · rename_i x m he
            have hb := escape_bd (c :: r) (by rw [beq_iff_eq] at h92; simp [h92]) x m he
            have := quo_bad f _ _ _ e n h
            rw [List.length_drop] at this
            omega
          · simp only [Q.bad.injEq] at h; omega
        · have := quo_bad f _ _ _ e n h
          simp only [List.length_cons]
          omega
theorem quo_fuel : ∀ (f g a : Nat) (out l : List UInt8), l.length ≤ f → l.length ≤ g → quo f a out l = quo g a out l
  | 0, 0, _, _, _, _, _ => rfl
  | 0, _ + 1, _, _, [], _, _ => rfl
  | _ + 1, 0, _, _, [], _, _ => rfl
  | _ + 1, _ + 1, _, _, [], _, _ => rfl
  | 0, _ + 1, _, _, _ :: _, h, _ => by simp at h
  | _ + 1, 0, _, _, _ :: _, _, h => by simp at h
  | f + 1, g + 1, a, out, c :: r, hf, hg => by
    simp only [List.length_cons] at hf hg
    unfold quo
    split
    · rfl
    · split
      · rfl
      · split
        · rename_i h92
          split
          · rename_i x m he
            have hb := escape_bd (c :: r) (by rw [beq_iff_eq] at h92; simp [h92]) x m he
            exact quo_fuel f g _ _ _ (by rw [List.length_drop, List.length_cons]; omega) (by rw [List.length_drop, List.length_cons]; omega)
          · rfl
        · exact quo_fuel f g _ _ _ (by omega) (by omega)
theorem seqc_ascii (c : UInt8) (h : seqc c = true) : c.toNat < 128 := by
  unfold seqc letter numeric at h
  simp only [Bool.or_eq_true, Bool.and_eq_true, decide_eq_true_eq, UInt8.le_iff_toNat_le, beq_iff_eq] at h
  have e0 : (122 : UInt8).toNat = 122 := rfl
  have e1 : (90 : UInt8).toNat = 90 := rfl
  have e2 : (57 : UInt8).toNat = 57 := rfl
  rcases h with ((h | h) | rfl) | ((h | rfl) | rfl) | rfl
  all_goals first | omega | decide
theorem run_all (p : UInt8 → Bool) : ∀ l : List UInt8, ∀ c ∈ l.take (run p l), p c = true
  | [], c, h => by simp at h
  | d :: l, c, h => by
    rw [run_cons] at h
    by_cases hd : p d = true
    · rw [if_pos hd, List.take_succ_cons] at h
      rcases List.mem_cons.1 h with rfl | h
      · exact hd
      · exact run_all p l c h
    · rw [if_neg hd] at h
      simp at h
theorem close_bd : ∀ (l : List UInt8) (k : Nat), close l = some k → k + 2 ≤ l.length ∧ l[k + 1]? = some 47
  | [], _, h => by simp [close] at h
  | [_], _, h => by simp [close] at h
  | a :: b :: r, k, h => by
    unfold close at h
    split at h
    · rename_i hc
      simp only [Bool.and_eq_true, beq_iff_eq] at hc
      injection h with h
      subst h
      exact ⟨by simp, by simp [hc.2]⟩
    · cases hb : close (b :: r) with
      | none => rw [hb] at h; simp at h
      | some j =>
        rw [hb] at h
        simp only [Option.map_some, Option.some.injEq] at h
        obtain ⟨h1, h2⟩ := close_bd (b :: r) j hb
        subst h
        exact ⟨by simp at h1 ⊢; omega, by rw [List.getElem?_cons_succ]; exact h2⟩
end Jsn
