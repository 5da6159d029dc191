/-
  The plain law of tomllex, fourth part: tokens and comments do not see behind a line end. No program stands in it.
-/
import Derived.Test.YtdhbljbfjdlcdaaDoorTom2
namespace Tom
theorem line13 (y : List UInt8) : lineEnd (13 :: y) = 0 ∨ lineEnd (13 :: y) = 2 := by
  cases y with
  | nil => exact Or.inl rfl
  | cons c y =>
    by_cases h : c = 10
    · subst h; exact Or.inr rfl
    · refine Or.inl ?_
      unfold lineEnd
      split <;> simp_all
theorem contLoop_lo (q : List UInt8) (many : Bool) : ∀ (f at_ : Nat) (out l t : List UInt8) (n : Nat), contLoop q many f at_ out l = .ok t n → at_ + q.length ≤ n
  | 0, _, _, _, _, _, h => by simp [contLoop] at h
  | _ + 1, _, _, [], _, _, h => by simp [contLoop] at h
  | f + 1, at_, out, c :: r, t, n, h => by
    unfold contLoop at h
    split at h
    · simp only [Cont.ok.injEq] at h
      omega
    · split at h
      · have := contLoop_lo q many f _ _ _ t n h
        omega
      · split at h
        · exact absurd h (by simp)
        · split at h
          · split at h
            · have := contLoop_lo q many f _ _ _ t n h
              omega
            · split at h
              · have := contLoop_lo q many f _ _ _ t n h
                omega
              · exact absurd h (by simp)
          · have := contLoop_lo q many f _ _ _ t n h
            omega
theorem contLoop_13 (q : List UInt8) (many : Bool) (hq : ∀ c ∈ q, c ≠ 10 ∧ c ≠ 13) (h1 : 1 ≤ q.length) (f at_ : Nat) (out y t : List UInt8) (n : Nat) (h : contLoop q many f at_ out (13 :: y) = .ok t n) : at_ + 1 < n := by
  cases f with
  | zero => simp [contLoop] at h
  | succ f =>
    have hs : starts q (13 :: y) = false := by
      cases q with
      | nil => simp at h1
      | cons a q =>
        have := (hq a (by simp)).2
        simp [starts, List.isPrefixOf, this]
    unfold contLoop at h
    rw [hs] at h
    simp only [Bool.false_eq_true, if_false] at h
    split at h
    · rename_i h2
      have := contLoop_lo q many f _ _ _ t n h
      simp only [Bool.and_eq_true, decide_eq_true_eq] at h2
      omega
    · rw [if_pos (by rfl)] at h
      exact absurd h (by simp)
theorem folded_pos (c : UInt8) (l : List UInt8) (h : 0 < folded (c :: l)) : 0 < lineEnd (l.drop (run blank l)) ∧ 1 + run blank l + lineEnd (l.drop (run blank l)) ≤ folded (c :: l) := by
  unfold folded at *
  simp only [List.drop_succ_cons, List.drop_zero] at *
  have e1 : (c :: l).drop (1 + run blank l) = l.drop (run blank l) := by rw [Nat.add_comm, List.drop_succ_cons]
  rw [e1] at h ⊢
  split at h
  · omega
  · rename_i h2
    refine ⟨by omega, ?_⟩
    rw [if_neg h2]
    have hb : run blank (l.drop (run blank l)) = 0 := by
      generalize l.drop (run blank l) = m at h2
      cases m with
      | nil => rfl
      | cons a m =>
        rw [run_cons]
        split
        · rename_i h3
          exfalso
          apply h2
          have : a = 32 ∨ a = 9 := by simpa [blank] using h3
          rcases this with rfl | rfl
          · rfl
          · rfl
        · rfl
    have hlen : 1 ≤ (l.drop (run blank l)).length := by
      have := lineEnd_le (l.drop (run blank l)); omega
    obtain ⟨g, hg⟩ : ∃ g, (c :: l).length = g + 1 := ⟨l.length, by simp⟩
    rw [hg]
    unfold spaces
    simp only [hb, List.drop_zero, Nat.zero_add]
    rw [if_neg h2]
    omega
theorem escape_second (c d : UInt8) (r : List UInt8) (hd : blank d = true ∨ d = 13) : escape (c :: d :: r) = none := by
  rcases hd with hd | rfl
  · have : d = 32 ∨ d = 9 := by simpa [blank] using hd
    rcases this with rfl | rfl
    · rfl
    · rfl
  · rfl
/-- Behind blanks stands nothing, or a lone carriage return: then no escape begins before them. -/
theorem escape_blanks (c : UInt8) (l y t : List UInt8) (n : Nat) (h : escape (c :: l ++ y) = some (t, n)) (hn : n ≤ l.length + 1) : l.drop (run blank l) ≠ [] ∧ l.drop (run blank l) ≠ [13] := by
  have h2 := (escape_bd _ _ _ h).1
  cases l with
  | nil => simp at hn; omega
  | cons d r =>
    rw [run_cons]
    cases hb : blank d with
    | true =>
      rw [List.cons_append, List.cons_append, escape_second c d _ (Or.inl hb)] at h
      simp at h
    | false =>
      simp only [Bool.false_eq_true, if_false, List.drop_zero]
      refine ⟨by simp, fun e => ?_⟩
      injection e with e1 e2
      rw [List.cons_append, List.cons_append, escape_second c d _ (Or.inr e1)] at h
      simp at h
theorem contLoop_app (q : List UInt8) (many : Bool) (hq : ∀ c ∈ q, c ≠ 10 ∧ c ≠ 13) (h1 : 1 ≤ q.length) {y y' : List UInt8} (hy : Stop y) (hy' : Stop y') :
    ∀ (f f' at_ : Nat) (out l t : List UInt8) (n : Nat), contLoop q many f at_ out (l ++ y) = .ok t n → n ≤ at_ + l.length → (l ++ y').length < f' → contLoop q many f' at_ out (l ++ y') = .ok t n
  | 0, _, _, _, _, _, _, h, _, _ => by simp [contLoop] at h
  | f + 1, f', at_, out, [], t, n, h, hn, _ => by
    have := contLoop_lo _ _ _ _ _ _ _ _ h
    simp at hn
    omega
  | f + 1, 0, at_, out, c :: r, t, n, h, hn, hf => by omega
  | f + 1, f' + 1, at_, out, c :: r, t, n, h, hn, hf => by
    by_cases h13 : c :: r = [13]
    · injection h13 with e1 e2
      subst e1 e2
      have := contLoop_13 q many hq h1 _ _ _ _ _ _ h
      simp at hn
      omega
    have hle := lineEnd_app (c :: r) y y' (by simp) h13
    simp only [List.cons_append] at h hf hle ⊢
    have s1 : ∀ z, Stop z → starts q (c :: (r ++ z)) = starts q (c :: r) := fun z hz => starts_stop hq hz (c :: r)
    have s2 : ∀ z, Stop z → starts q (r ++ z) = starts q r := fun z hz => starts_stop hq hz r
    have s3 : ∀ z, Stop z → starts q r = true → starts q ((r ++ z).drop 1) = starts q (r.drop 1) := fun z hz hr => by
      have := starts_len hr
      rw [List.drop_append_of_le_length (by omega)]
      exact starts_stop hq hz _
    unfold contLoop at h ⊢
    rw [s1 y hy, s2 y hy] at h
    rw [s1 y' hy', s2 y' hy', ← hle]
    cases hs : starts q (c :: r) with
    | true =>
      rw [hs] at h
      simp only [if_true] at h ⊢
      cases hs2 : starts q r with
      | false =>
        rw [hs2] at h
        simp only [Bool.and_false, Bool.false_eq_true, if_false] at h ⊢
        exact h
      | true =>
        rw [hs2, s3 y hy hs2] at h
        rw [s3 y' hy' hs2]
        exact h
    | false =>
      rw [hs] at h
      simp only [Bool.false_eq_true, if_false] at h ⊢
      simp only [List.length_cons] at hn hf
      by_cases hm : (many && decide (0 < lineEnd (c :: (r ++ y)))) = true
      · rw [if_pos hm] at h ⊢
        have hlo := contLoop_lo _ _ _ _ _ _ _ _ h
        have hk : lineEnd (c :: (r ++ y)) ≤ (c :: r).length := by simp only [List.length_cons]; omega
        have hk0 : 0 < lineEnd (c :: (r ++ y)) := by simp only [Bool.and_eq_true, decide_eq_true_eq] at hm; exact hm.2
        generalize lineEnd (c :: (r ++ y)) = k at *
        rw [← List.cons_append, List.drop_append_of_le_length hk] at h ⊢
        refine contLoop_app q many hq h1 hy hy' f f' _ _ _ t n h ?_ ?_
        · rw [List.length_drop, List.length_cons]
          simp only [List.length_cons] at hk
          omega
        · simp only [List.length_append, List.length_drop, List.length_cons] at hf ⊢
          omega
      · rw [if_neg hm] at h ⊢
        cases hc : control c with
        | true =>
          rw [hc] at h
          simp at h
        | false =>
          rw [hc] at h
          simp only [Bool.false_eq_true, if_false] at h ⊢
          by_cases hb : (c == 92 && q.headD 0 == 34) = true
          · rw [if_pos hb] at h ⊢
            by_cases hfo : (many && decide (0 < folded (c :: (r ++ y)))) = true
            · rw [if_pos hfo] at h
              have hk0 : 0 < folded (c :: (r ++ y)) := by simp only [Bool.and_eq_true, decide_eq_true_eq] at hfo; exact hfo.2
              have hlo := contLoop_lo _ _ _ _ _ _ _ _ h
              have hp := folded_pos c (r ++ y) hk0
              have hr := run_le blank r
              rw [blank_stop hy, List.drop_append_of_le_length hr] at hp
              have hk : folded (c :: (r ++ y)) ≤ (c :: r).length := by simp only [List.length_cons]; omega
              have hd0 : (c :: r).drop (folded (c :: (r ++ y))) ≠ [] := by
                intro e
                have := congrArg List.length e
                simp only [List.length_drop, List.length_cons, List.length_nil] at this
                omega
              have hd13 : (c :: r).drop (folded (c :: (r ++ y))) ≠ [13] := by
                intro e
                have h := h
                have e3 : (c :: (r ++ y)).drop (folded (c :: (r ++ y))) = 13 :: y := by
                  rw [← List.cons_append] at hk e ⊢
                  rw [List.drop_append_of_le_length hk, e]
                  rfl
                rw [e3] at h
                have := contLoop_13 q many hq h1 _ _ _ _ _ _ h
                have e2 := congrArg List.length e
                simp only [List.length_drop, List.length_cons, List.length_nil] at e2
                omega
              have hb0 : r.drop (run blank r) ≠ [] := by
                intro e
                have e2 := congrArg List.length e
                simp only [List.length_drop, List.length_nil] at e2
                omega
              have hb13 : r.drop (run blank r) ≠ [13] := by
                intro e
                rw [e] at hp
                have e2 := congrArg List.length e
                simp only [List.length_drop, List.length_cons, List.length_nil] at e2
                have := line13 y
                simp only [List.cons_append, List.nil_append] at hp
                omega
              have hfa := folded_app hy hy' c r (by rw [List.cons_append]; simp only [List.length_cons] at hk; exact hk) (by rw [List.cons_append]; exact hd0) (by rw [List.cons_append]; exact hd13) hb0 hb13
              rw [List.cons_append, List.cons_append] at hfa
              rw [hfa, if_pos hfo]
              generalize folded (c :: (r ++ y)) = k at *
              rw [← List.cons_append, List.drop_append_of_le_length hk] at h ⊢
              refine contLoop_app q many hq h1 hy hy' f f' _ _ _ t n h ?_ ?_
              · simp only [List.length_drop, List.length_cons] at hk ⊢
                omega
              · simp only [List.length_append, List.length_drop, List.length_cons] at hf ⊢
                omega
            · rw [if_neg hfo] at h
              split at h
              · rename_i t2 n2 he
                have hlo := contLoop_lo _ _ _ _ _ _ _ _ h
                have hk : n2 ≤ (c :: r).length := by simp only [List.length_cons]; omega
                have hebd := escape_bd _ _ _ he
                have heb := escape_blanks c r y t2 n2 (by rw [List.cons_append]; exact he) (by simpa using hk)
                have hea := escape_app (c :: r) y y' t2 n2 (by rw [List.cons_append]; exact he) hk
                rw [List.cons_append] at hea
                have hfo2 : (many && decide (0 < folded (c :: (r ++ y')))) = false := by
                  cases many with
                  | false => rfl
                  | true =>
                    have hz : folded (c :: (r ++ y)) = 0 := by simpa using hfo
                    have hfa := folded_app hy hy' c r (by rw [List.cons_append, hz]; omega) (by rw [List.cons_append, hz]; simp) (by rw [List.cons_append, hz]; exact h13) heb.1 heb.2
                    rw [List.cons_append, List.cons_append, hz] at hfa
                    rw [hfa]
                    rfl
                rw [hfo2]
                simp only [Bool.false_eq_true, if_false]
                rw [hea]
                simp only
                rw [← List.cons_append, List.drop_append_of_le_length hk] at h ⊢
                refine contLoop_app q many hq h1 hy hy' f f' _ _ _ t n h ?_ ?_
                · simp only [List.length_drop, List.length_cons] at hk ⊢
                  omega
                · simp only [List.length_append, List.length_drop, List.length_cons] at hf ⊢
                  omega
              · exact absurd h (by simp)
          · rw [if_neg hb] at h ⊢
            refine contLoop_app q many hq h1 hy hy' f f' _ _ _ t n h (by omega) (by omega)
theorem content_app (q : List UInt8) (hq : ∀ c ∈ q, c ≠ 10 ∧ c ≠ 13) (h1 : 1 ≤ q.length) {y y' : List UInt8} (hy : Stop y) (hy' : Stop y') (l t : List UInt8) (n : Nat) (hl : q.length ≤ l.length) (h : content q (l ++ y) = .ok t n) (hn : n ≤ l.length) : content q (l ++ y') = .ok t n := by
  unfold content at *
  simp only at *
  rw [List.drop_append_of_le_length hl] at *
  have hlo := contLoop_lo _ _ _ _ _ _ _ _ h
  have h0 : l.drop q.length ≠ [] := by
    intro e
    have := congrArg List.length e
    simp only [List.length_drop, List.length_nil] at this
    omega
  have h13 : l.drop q.length ≠ [13] := by
    intro e
    have e2 := congrArg List.length e
    simp only [List.length_drop, List.length_cons, List.length_nil] at e2
    by_cases hz : (if (q.length == 3) = true then lineEnd (l.drop q.length ++ y) else 0) = 0
    · rw [hz] at h
      simp only [Nat.add_zero] at h
      rw [List.drop_append_of_le_length hl, e] at h
      have := contLoop_13 q _ hq h1 _ _ _ _ _ _ h
      omega
    · omega
  rw [← lineEnd_app _ y y' h0 h13]
  generalize (if (q.length == 3) = true then lineEnd (l.drop q.length ++ y) else 0) = k at *
  rw [List.drop_append_of_le_length (by omega)] at h ⊢
  refine contLoop_app q _ hq h1 hy hy' _ _ _ _ _ t n h ?_ ?_
  · rw [List.length_drop]; omega
  · simp only [List.length_append, List.length_drop]; omega
/-- A token does not see behind a line end. -/
theorem token_app {y y' : List UInt8} (hy : Stop y) (hy' : Stop y') (l t : List UInt8) (k n : Nat) (h : token (l ++ y) = .ok k n t) (hn : n ≤ l.length) : token (l ++ y') = .ok k n t := by
  have hb := token_bd _ _ _ _ h
  match l, hn with
  | [], hn => simp at hn; omega
  | c :: r, hn =>
    by_cases h13 : c :: r = [13]
    · exfalso
      injection h13 with e1 e2
      subst e1 e2
      simp only [List.cons_append, List.nil_append] at h
      unfold token at h
      split at h
      · rename_i h2
        simp only [Tok.ok.injEq] at h
        have := line13 y
        simp at hn
        omega
      · simp [bare] at h
    have hle := lineEnd_app (c :: r) y y' (by simp) h13
    unfold token at h ⊢
    rw [← hle]
    split at h
    · rename_i h2
      rw [if_pos h2]
      exact h
    · rename_i h2
      rw [if_neg h2]
      simp only [List.cons_append] at h ⊢
      by_cases hp : ([91, 93, 123, 125, 44, 61, 46] : List UInt8).contains c = true
      · rw [if_pos hp] at h ⊢
        exact h
      · rw [if_neg hp] at h ⊢
        by_cases hba : bare c = true
        · rw [if_pos hba] at h ⊢
          have e1 : ∀ z, Stop z → run bare (c :: (r ++ z)) = run bare (c :: r) := fun z hz => bare_stop hz (c :: r)
          have e2 := run_le bare (c :: r)
          rw [e1 y hy] at h
          rw [e1 y' hy']
          rw [← List.cons_append, List.take_append_of_le_length e2] at h ⊢
          exact h
        · rw [if_neg hba] at h ⊢
          by_cases hqu : (c == 34 || c == 39) = true
          · rw [if_pos hqu] at h ⊢
            have hc : c = 34 ∨ c = 39 := by simpa using hqu
            have hcc : c ≠ 10 ∧ c ≠ 13 := by rcases hc with rfl | rfl <;> decide
            have hst : ∀ z, Stop z → starts [c, c, c] (c :: (r ++ z)) = starts [c, c, c] (c :: r) := fun z hz => starts_stop (by simp; exact hcc) hz (c :: r)
            simp only [hst y hy] at h
            simp only [hst y' hy']
            have hqq : (∀ a ∈ (if starts [c, c, c] (c :: r) = true then [c, c, c] else [c]), a ≠ 10 ∧ a ≠ 13) ∧ 1 ≤ (if starts [c, c, c] (c :: r) = true then [c, c, c] else [c]).length ∧ (if starts [c, c, c] (c :: r) = true then [c, c, c] else [c]).length ≤ (c :: r).length := by
              split
              · rename_i hs
                have := starts_len hs
                exact ⟨by simp; exact hcc, by simp, this⟩
              · exact ⟨by simp; exact hcc, by simp, by simp⟩
            generalize (if starts [c, c, c] (c :: r) = true then [c, c, c] else [c]) = q at *
            split at h
            · rename_i t2 n2 he
              simp only [Tok.ok.injEq] at h
              obtain ⟨h3, h4, h5⟩ := h
              subst h4 h5
              have := content_app q hqq.1 hqq.2.1 hy hy' (c :: r) t2 n2 hqq.2.2 (by rw [List.cons_append]; exact he) hn
              rw [List.cons_append] at this
              rw [this]
              simp only [h3]
            · exact absurd h (by simp)
            · exact absurd h (by simp)
          · rw [if_neg hqu] at h
            exact absurd h (by simp)
/-- Nor does a comment. -/
theorem cmt_app {y y' : List UInt8} (A : Alike y y') : ∀ l : List UInt8, (cmt (l ++ y)).2 = true → cmt (l ++ y') = cmt (l ++ y) ∧ (cmt (l ++ y)).1 ≤ l.length
  | [], _ => by
    have e : ∀ z, Stop z → cmt z = (0, true) := by
      intro z hz
      rcases hz with rfl | ⟨z, rfl⟩ | ⟨z, rfl⟩
      · rfl
      · rfl
      · rfl
    simp only [List.nil_append]
    rw [e y A.left, e y' A.right]
    exact ⟨rfl, Nat.le_refl _⟩
  | c :: r, h => by
    simp only [List.cons_append] at h ⊢
    by_cases h13 : c :: r = [13]
    · injection h13 with e1 e2
      subst e1 e2
      rcases A with ⟨rfl, z, rfl⟩ | ⟨z, z', rfl, rfl⟩ | ⟨z, z', rfl, rfl⟩
      · simp [cmt, lineEnd, control] at h
      · exact ⟨rfl, Nat.zero_le _⟩
      · exfalso
        have : cmt ([13] ++ 13 :: 10 :: z) = (0, false) := rfl
        rw [show (13 :: ([] ++ 13 :: 10 :: z) : List UInt8) = [13] ++ 13 :: 10 :: z from rfl, this] at h
        simp at h
    · have hle := lineEnd_app (c :: r) y y' (by simp) h13
      simp only [List.cons_append] at hle
      unfold cmt at h ⊢
      rw [← hle]
      split at h
      · rename_i h2
        rw [if_pos h2, if_pos h2]
        exact ⟨rfl, Nat.zero_le _⟩
      · rename_i h2
        rw [if_neg h2, if_neg h2]
        split at h
        · simp at h
        · rename_i h3
          rw [if_neg h3, if_neg h3]
          have ih := cmt_app A r h
          rw [ih.1]
          exact ⟨rfl, by simp only [List.length_cons]; omega⟩
end Tom
