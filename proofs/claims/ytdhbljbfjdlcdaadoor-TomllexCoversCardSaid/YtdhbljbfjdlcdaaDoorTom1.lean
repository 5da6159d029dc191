/-
  The plain law of tomllex, second part: the scan; bounds. No program stands in it.
-/
import Derived.Test.YtdhbljbfjdlcdaaDoorTom0
namespace Tom
structure T where
  kind : Nat
  frm : Nat
  to : Nat
  text : List UInt8
structure Note where
  frm : Nat
  to : Nat
  text : List UInt8
inductive Res where
  | ok (toks : List T) (notes : List Note)
  | bad (n : Nat)
/-- How far a comment goes; false: to a control character. -/
def cmt : List UInt8 → Nat × Bool
  | [] => (0, true)
  | c :: r => if 0 < lineEnd (c :: r) then (0, true) else if control c then (0, false) else ((cmt r).1 + 1, (cmt r).2)
def scanLoop : Nat → Nat → List T → List Note → List UInt8 → Res
  | 0, at_, ts, ns, _ => .ok (ts ++ [⟨8, at_, at_, []⟩]) ns
  | _ + 1, at_, ts, ns, [] => .ok (ts ++ [⟨8, at_, at_, []⟩]) ns
  | f + 1, at_, ts, ns, c :: r =>
    if 0 < run blank (c :: r) then scanLoop f (at_ + run blank (c :: r)) ts ns ((c :: r).drop (run blank (c :: r)))
    else if c == 35 then
      if (cmt (c :: r)).2 then scanLoop f (at_ + (cmt (c :: r)).1) ts (ns ++ [⟨at_, at_ + (cmt (c :: r)).1, (c :: r).take (cmt (c :: r)).1⟩]) ((c :: r).drop (cmt (c :: r)).1)
      else .bad (at_ + (cmt (c :: r)).1)
    else match token (c :: r) with
      | .ok k n t => scanLoop f (at_ + n) (ts ++ [⟨k, at_, at_ + n, t⟩]) ns ((c :: r).drop n)
      | .bad n => .bad (at_ + n)
def scan (l : List UInt8) : Res := scanLoop (l.length + 1) 0 [] [] l
theorem lineEnd_le (l : List UInt8) : lineEnd l ≤ l.length := by
  match l with
  | [] => exact Nat.le_refl _
  | [a] => unfold lineEnd; split <;> simp_all
  | a :: b :: r => unfold lineEnd; split <;> simp_all <;> omega
theorem hexNum_len : ∀ (n v : Nat) (l : List UInt8) (x : Nat), hexNum n v l = some x → n ≤ l.length
  | 0, _, _, _, _ => Nat.zero_le _
  | _ + 1, _, [], _, h => by simp [hexNum] at h
  | n + 1, v, c :: l, x, h => by
    unfold hexNum at h
    split at h
    · have := hexNum_len n _ l x h
      simp; omega
    · exact absurd h (by simp)
theorem enc_len (n : Nat) : (enc n).length ≤ 4 := by
  unfold enc
  split
  · simp
  · split
    · simp
    · split <;> simp
theorem escape_bd (l : List UInt8) (t : List UInt8) (n : Nat) (h : escape l = some (t, n)) : 2 ≤ n ∧ n ≤ l.length ∧ t.length ≤ n := by
  unfold escape at h
  split at h
  all_goals (try (injection h with h; injection h with h1 h2; subst h1; subst h2; simp; done))
  · split at h
    · rename_i hx
      have := hexNum_len _ _ _ _ hx
      split at h
      · injection h with h; injection h with h1 h2; subst h1; subst h2
        have := enc_len ‹_›
        simp only [List.length_cons]
        omega
      · exact absurd h (by simp)
    · exact absurd h (by simp)
  · split at h
    · rename_i hx
      have := hexNum_len _ _ _ _ hx
      split at h
      · injection h with h; injection h with h1 h2; subst h1; subst h2
        have := enc_len ‹_›
        simp only [List.length_cons]
        omega
      · exact absurd h (by simp)
    · exact absurd h (by simp)
  · exact absurd h (by simp)
theorem spaces_le : ∀ (f : Nat) (l : List UInt8), spaces f l ≤ l.length
  | 0, _ => Nat.zero_le _
  | f + 1, l => by
    unfold spaces
    simp only
    have h1 := run_le blank l
    have h2 := lineEnd_le (l.drop (run blank l))
    rw [List.length_drop] at h2
    split
    · omega
    · have h3 := spaces_le f (l.drop (run blank l + lineEnd (l.drop (run blank l))))
      rw [List.length_drop] at h3
      omega
theorem folded_le (l : List UInt8) (hl : l ≠ []) : folded l ≤ l.length := by
  have h0 : 1 ≤ l.length := by cases l; exact absurd rfl hl; simp
  unfold folded
  simp only
  have h1 := run_le blank (l.drop 1)
  rw [List.length_drop] at h1
  split
  · omega
  · have h3 := spaces_le l.length (l.drop (1 + run blank (l.drop 1)))
    rw [List.length_drop] at h3
    omega
theorem starts_len {q l : List UInt8} (h : starts q l = true) : q.length ≤ l.length := by
  unfold starts at h
  exact (List.isPrefixOf_iff_prefix.1 h).length_le
theorem contLoop_bd (q : List UInt8) (many : Bool) (hq : 1 ≤ q.length) : ∀ (f at_ : Nat) (out l t : List UInt8) (n : Nat), out.length ≤ at_ → contLoop q many f at_ out l = .ok t n → at_ + q.length ≤ n ∧ n ≤ at_ + l.length ∧ t.length ≤ n
  | 0, _, _, _, _, _, _, h => by simp [contLoop] at h
  | _ + 1, _, _, [], _, _, _, h => by simp [contLoop] at h
  | f + 1, at_, out, c :: r, t, n, ho, h => by
    unfold contLoop at h
    split at h
    · rename_i h1
      simp only [Cont.ok.injEq] at h
      obtain ⟨rfl, rfl⟩ := h
      have e1 := starts_len h1
      simp only [List.length_append, List.length_replicate]
      split
      · rename_i h2
        simp only [Bool.and_eq_true] at h2
        have e2 := starts_len h2.2
        split
        · rename_i h3
          have e3 := starts_len h3
          simp only [List.length_drop] at e3
          simp only [List.length_cons]
          omega
        · simp only [List.length_cons]
          omega
      · omega
    · split at h
      · rename_i _ h2
        simp only [Bool.and_eq_true, decide_eq_true_eq] at h2
        have e := lineEnd_le (c :: r)
        have := contLoop_bd q many hq f _ _ _ t n (by simp; omega) h
        rw [List.length_drop] at this
        omega
      · split at h
        · exact absurd h (by simp)
        · split at h
          · split at h
            · rename_i _ _ _ _ h2
              simp only [Bool.and_eq_true, decide_eq_true_eq] at h2
              have e := folded_le (c :: r) (by simp)
              have := contLoop_bd q many hq f _ _ _ t n (by omega) h
              rw [List.length_drop] at this
              omega
            · split at h
              · rename_i he
                have e := escape_bd _ _ _ he
                have := contLoop_bd q many hq f _ _ _ t n (by simp; omega) h
                rw [List.length_drop] at this
                omega
              · exact absurd h (by simp)
          · have := contLoop_bd q many hq f _ _ _ t n (by simp; omega) h
            simp only [List.length_cons]
            omega
theorem contLoop_bad (q : List UInt8) (many : Bool) : ∀ (f at_ : Nat) (out l : List UInt8) (n : Nat), contLoop q many f at_ out l = .bad n → n ≤ at_ + l.length
  | 0, _, _, _, _, h => by simp [contLoop] at h
  | _ + 1, _, _, [], _, h => by simp [contLoop] at h
  | f + 1, at_, out, c :: r, n, h => by
    unfold contLoop at h
    split at h
    · simp at h
    · split at h
      · have e := lineEnd_le (c :: r)
        have := contLoop_bad q many f _ _ _ n h
        rw [List.length_drop] at this
        omega
      · split at h
        · simp only [Cont.bad.injEq] at h
          omega
        · split at h
          · split at h
            · have e := folded_le (c :: r) (by simp)
              have := contLoop_bad q many f _ _ _ n h
              rw [List.length_drop] at this
              omega
            · split at h
              · rename_i he
                have e := escape_bd _ _ _ he
                have := contLoop_bad q many f _ _ _ n h
                rw [List.length_drop] at this
                omega
              · simp only [Cont.bad.injEq] at h
                omega
          · have := contLoop_bad q many f _ _ _ n h
            simp only [List.length_cons]
            omega
theorem content_bad (q l : List UInt8) (n : Nat) (hl : q.length ≤ l.length) (h : content q l = .bad n) : n ≤ l.length := by
  unfold content at h
  simp only at h
  have e := lineEnd_le (l.drop q.length)
  rw [List.length_drop] at e
  have := contLoop_bad q _ _ _ _ _ n h
  rw [List.length_drop] at this
  split at this <;> omega
theorem token_bad (l : List UInt8) (n : Nat) (h : token l = .bad n) : n ≤ l.length := by
  unfold token at h
  split at h
  · simp at h
  · cases l with
    | nil => simp at h; omega
    | cons c r =>
      simp only at h
      split at h
      · simp at h
      · split at h
        · simp at h
        · split at h
          · split at h
            · simp at h
            · rename_i he
              simp only [Tok.bad.injEq] at h
              subst h
              refine content_bad _ _ _ ?_ he
              split
              · rename_i hs
                exact starts_len hs
              · simp
            · simp only [Tok.bad.injEq] at h
              omega
          · simp only [Tok.bad.injEq] at h
            omega
theorem content_bd (q l t : List UInt8) (n : Nat) (hq : 1 ≤ q.length) (hl : q.length ≤ l.length) (h : content q l = .ok t n) : q.length + 1 ≤ n ∧ n ≤ l.length ∧ t.length ≤ n := by
  unfold content at h
  simp only at h
  have e := lineEnd_le (l.drop q.length)
  rw [List.length_drop] at e
  have := contLoop_bd q _ hq _ _ _ _ t n (by simp) h
  rw [List.length_drop] at this
  split at this <;> omega
theorem token_bd (l t : List UInt8) (k n : Nat) (h : token l = .ok k n t) : 1 ≤ n ∧ n ≤ l.length ∧ t.length ≤ n ∧ 1 ≤ k ∧ k ≤ 7 := by
  unfold token at h
  split at h
  · rename_i h1
    simp only [Tok.ok.injEq] at h
    obtain ⟨rfl, rfl, rfl⟩ := h
    exact ⟨h1, lineEnd_le l, by simp, by omega, by omega⟩
  · cases l with
    | nil => simp at h
    | cons c r =>
      simp only at h
      split at h
      · simp only [Tok.ok.injEq] at h
        obtain ⟨rfl, rfl, rfl⟩ := h
        simp
      · split at h
        · rename_i hb
          simp only [Tok.ok.injEq] at h
          obtain ⟨rfl, rfl, rfl⟩ := h
          have h1 := run_le bare (c :: r)
          have h2 : run bare (c :: r) = run bare r + 1 := by rw [run_cons, if_pos hb]
          exact ⟨by omega, h1, by rw [List.length_take]; omega, by omega, by omega⟩
        · split at h
          · split at h
            · rename_i he
              simp only [Tok.ok.injEq] at h
              obtain ⟨rfl, rfl, rfl⟩ := h
              have hq : 1 ≤ (if starts [c, c, c] (c :: r) = true then [c, c, c] else [c]).length ∧ (if starts [c, c, c] (c :: r) = true then [c, c, c] else [c]).length ≤ (c :: r).length := by
                split
                · rename_i hs
                  have := starts_len hs
                  exact ⟨by simp, this⟩
                · simp
              have := content_bd _ _ _ _ hq.1 hq.2 he
              refine ⟨by omega, by omega, by omega, ?_, ?_⟩
              · split <;> omega
              · split <;> split <;> omega
            · exact absurd h (by simp)
            · exact absurd h (by simp)
          · exact absurd h (by simp)
theorem cmt_le : ∀ l : List UInt8, (cmt l).1 ≤ l.length
  | [] => Nat.le_refl _
  | c :: r => by
    have := cmt_le r
    unfold cmt
    split
    · simp
    · split
      · simp
      · simp only [List.length_cons]; omega
end Tom
