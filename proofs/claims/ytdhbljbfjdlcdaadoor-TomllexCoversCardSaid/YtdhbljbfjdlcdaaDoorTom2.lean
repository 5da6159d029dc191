/-
  The plain law of tomllex, third part: what follows a line end does not matter for what stands before it. No program stands in it.
-/
import Derived.Test.YtdhbljbfjdlcdaaDoorTom1
namespace Tom
/-- Two continuations that look alike to what stands before them. -/
def Alike (y y' : List UInt8) : Prop := (y = [] ∧ ∃ z, y' = 10 :: z) ∨ (∃ z z', y = 10 :: z ∧ y' = 10 :: z') ∨ (∃ z z', y = 13 :: 10 :: z ∧ y' = 13 :: 10 :: z')
/-- A continuation: nothing, or a line end and more. -/
def Stop (y : List UInt8) : Prop := y = [] ∨ (∃ z, y = 10 :: z) ∨ (∃ z, y = 13 :: 10 :: z)
theorem Alike.left {y y' : List UInt8} (h : Alike y y') : Stop y := by
  rcases h with ⟨rfl, _⟩ | ⟨z, z', rfl, _⟩ | ⟨z, z', rfl, _⟩
  · exact Or.inl rfl
  · exact Or.inr (Or.inl ⟨_, rfl⟩)
  · exact Or.inr (Or.inr ⟨_, rfl⟩)
theorem Alike.right {y y' : List UInt8} (h : Alike y y') : Stop y' := by
  rcases h with ⟨_, z, rfl⟩ | ⟨z, z', _, rfl⟩ | ⟨z, z', _, rfl⟩
  · exact Or.inr (Or.inl ⟨_, rfl⟩)
  · exact Or.inr (Or.inl ⟨_, rfl⟩)
  · exact Or.inr (Or.inr ⟨_, rfl⟩)
theorem run_stop (p : UInt8 → Bool) (h10 : p 10 = false) (h13 : p 13 = false) {y : List UInt8} (hy : Stop y) : ∀ l : List UInt8, run p (l ++ y) = run p l
  | [] => by
    rcases hy with rfl | ⟨z, rfl⟩ | ⟨z, rfl⟩
    · rfl
    · rw [List.nil_append, run_cons, h10]; rfl
    · rw [List.nil_append, run_cons, h13]; rfl
  | c :: l => by
    rw [List.cons_append, run_cons, run_cons, run_stop p h10 h13 hy l]
theorem lineEnd_app (l y y' : List UInt8) (h0 : l ≠ []) (h13 : l ≠ [13]) : lineEnd (l ++ y) = lineEnd (l ++ y') := by
  match l, h0, h13 with
  | [c], _, h13 =>
    by_cases h : c = 10
    · subst h; rfl
    · have h2 : c ≠ 13 := fun e => h13 (by rw [e])
      simp only [List.cons_append, List.nil_append]
      unfold lineEnd
      split <;> split <;> simp_all
  | a :: b :: r, _, _ =>
    simp only [List.cons_append]
    unfold lineEnd
    split <;> split <;> simp_all
theorem starts_stop {q : List UInt8} (hq : ∀ c ∈ q, c ≠ 10 ∧ c ≠ 13) {y : List UInt8} (hy : Stop y) : ∀ l : List UInt8, starts q (l ++ y) = starts q l := by
  unfold starts
  induction q with
  | nil => intro l; cases l <;> rfl
  | cons a q ih =>
    intro l
    cases l with
    | nil =>
      have := hq a (by simp)
      rcases hy with rfl | ⟨z, rfl⟩ | ⟨z, rfl⟩
      · rfl
      · simp [List.isPrefixOf, this.1]
      · simp [List.isPrefixOf, this.2]
    | cons c l =>
      simp only [List.cons_append, List.isPrefixOf]
      rw [ih (fun c hc => hq c (by simp [hc])) l]
theorem hexNum_app : ∀ (n v : Nat) (l y y' : List UInt8), n ≤ l.length → hexNum n v (l ++ y) = hexNum n v (l ++ y')
  | 0, _, _, _, _, _ => by simp [hexNum]
  | n + 1, v, [], _, _, h => by simp at h
  | n + 1, v, c :: l, y, y', h => by
    simp only [List.cons_append, hexNum]
    cases digit c with
    | none => rfl
    | some d => exact hexNum_app n _ l y y' (by simpa using h)
theorem escape_app (l y y' : List UInt8) (t : List UInt8) (n : Nat) (h : escape (l ++ y) = some (t, n)) (hn : n ≤ l.length) : escape (l ++ y') = some (t, n) := by
  have h2 := (escape_bd _ _ _ h).1
  match l, h2, hn with
  | [], h2, hn => simp at hn; omega
  | [a], h2, hn => simp at hn; omega
  | a :: b :: r, _, hn =>
    simp only [List.cons_append] at h ⊢
    by_cases h1 : b = 117
    · subst h1
      have e : ∀ z, escape (a :: 117 :: z) = match hexNum 4 0 z with | some n => if scalar n then some (enc n, 6) else none | none => none := fun z => rfl
      rw [e] at h ⊢
      have hl : 4 ≤ r.length := by
        have : n = 6 := by
          split at h
          · split at h
            · injection h with h; injection h with h1 h2; exact h2.symm
            · simp at h
          · simp at h
        simp at hn; omega
      rw [← hexNum_app 4 0 r y y' hl]
      exact h
    · by_cases h3 : b = 85
      · subst h3
        have e : ∀ z, escape (a :: 85 :: z) = match hexNum 8 0 z with | some n => if scalar n then some (enc n, 10) else none | none => none := fun z => rfl
        rw [e] at h ⊢
        have hl : 8 ≤ r.length := by
          have : n = 10 := by
            split at h
            · split at h
              · injection h with h; injection h with h1 h2; exact h2.symm
              · simp at h
            · simp at h
          simp at hn; omega
        rw [← hexNum_app 8 0 r y y' hl]
        exact h
      · unfold escape at h ⊢
        split at h <;> simp_all
theorem blank_stop {y : List UInt8} (hy : Stop y) (l : List UInt8) : run blank (l ++ y) = run blank l := run_stop blank rfl rfl hy l
theorem bare_stop {y : List UInt8} (hy : Stop y) (l : List UInt8) : run bare (l ++ y) = run bare l := run_stop bare rfl rfl hy l
theorem spaces_fuel : ∀ (f g : Nat) (l : List UInt8), l.length ≤ f → l.length ≤ g → spaces f l = spaces g l
  | 0, 0, _, _, _ => rfl
  | 0, g + 1, l, h, _ => by
    obtain rfl : l = [] := List.eq_nil_of_length_eq_zero (by omega)
    rfl
  | f + 1, 0, l, _, h => by
    obtain rfl : l = [] := List.eq_nil_of_length_eq_zero (by omega)
    rfl
  | f + 1, g + 1, l, hf, hg => by
    unfold spaces
    simp only
    split
    · rfl
    · rename_i h
      rw [spaces_fuel f g _ (by rw [List.length_drop]; omega) (by rw [List.length_drop]; omega)]
/-- White space and line ends: the same before another continuation, if they stop before it. -/
theorem spaces_app {y y' : List UInt8} (hy : Stop y) (hy' : Stop y') : ∀ (f g : Nat) (l : List UInt8), (l ++ y).length ≤ f → (l ++ y').length ≤ g → spaces f (l ++ y) ≤ l.length → l.drop (spaces f (l ++ y)) ≠ [] → l.drop (spaces f (l ++ y)) ≠ [13] → spaces g (l ++ y') = spaces f (l ++ y)
  | 0, g, l, hf, hg, _, h0, _ => by
    rw [List.length_append] at hf
    obtain rfl : l = [] := List.eq_nil_of_length_eq_zero (by omega)
    simp at h0
  | f + 1, g, l, hf, hg, hle, h0, h13 => by
    have hl : 1 ≤ l.length := by
      cases l with
      | nil => simp at h0
      | cons c l => simp
    obtain ⟨g, rfl⟩ : ∃ g', g = g' + 1 := ⟨g - 1, by rw [List.length_append] at hg; omega⟩
    unfold spaces at hle h0 h13 ⊢
    simp only [blank_stop hy, blank_stop hy'] at hle h0 h13 ⊢
    have hr := run_le blank l
    rw [List.drop_append_of_le_length hr] at hle h0 h13 ⊢
    rw [List.drop_append_of_le_length hr]
    have key : lineEnd (l.drop (run blank l) ++ y) = lineEnd (l.drop (run blank l) ++ y') := by
      refine lineEnd_app _ _ _ ?_ ?_
      · intro e
        have e2 := congrArg List.length e
        rw [List.length_drop, List.length_nil] at e2
        split at h0
        · rename_i h; simp [show run blank l = 0 by omega] at e; omega
        · exact h0 (List.drop_of_length_le (by omega))
      · intro e
        have e2 := congrArg List.length e
        rw [List.length_drop] at e2
        simp at e2
        split at h13
        · rename_i h
          rw [show run blank l = 0 by omega] at e
          exact h13 e
        · rename_i h
          rw [if_neg h] at h0 hle
          have h3 : l.length - (run blank l + lineEnd (l.drop (run blank l) ++ y) + spaces f (List.drop (run blank l + lineEnd (l.drop (run blank l) ++ y)) (l ++ y))) ≠ 0 := by
            intro e3
            exact h0 (List.drop_of_length_le (by omega))
          have h4 : run blank l + lineEnd (l.drop (run blank l) ++ y) + spaces f (List.drop (run blank l + lineEnd (l.drop (run blank l) ++ y)) (l ++ y)) = run blank l := by omega
          rw [h4] at h13
          exact h13 e
    rw [← key]
    generalize hm : run blank l + lineEnd (l.drop (run blank l) ++ y) = m at *
    by_cases hm0 : m = 0
    · rw [if_pos hm0, if_pos hm0]
    · rw [if_neg hm0] at hle h0 h13 ⊢
      rw [if_neg hm0]
      have hml : m ≤ l.length := by omega
      rw [List.drop_append_of_le_length hml] at hle h0 h13 ⊢
      rw [List.drop_append_of_le_length hml]
      rw [spaces_app hy hy' f g (l.drop m) (by simp only [List.length_append, List.length_drop] at *; omega) (by simp only [List.length_append, List.length_drop] at *; omega) (by rw [List.length_drop]; omega) (by rw [List.drop_drop]; exact h0) (by rw [List.drop_drop]; exact h13)]
/-- A folded line end: the same before another continuation, if it stops before it. -/
theorem folded_app {y y' : List UInt8} (hy : Stop y) (hy' : Stop y') (c : UInt8) (l : List UInt8) (hle : folded (c :: l ++ y) ≤ l.length + 1) (h0 : (c :: l).drop (folded (c :: l ++ y)) ≠ []) (h13 : (c :: l).drop (folded (c :: l ++ y)) ≠ [13])
    (hs : l.drop (run blank l) ≠ []) (hs2 : l.drop (run blank l) ≠ [13]) : folded (c :: l ++ y') = folded (c :: l ++ y) := by
  unfold folded at *
  simp only [List.cons_append, List.drop_succ_cons, List.drop_zero, blank_stop hy, blank_stop hy'] at *
  have hr := run_le blank l
  have e1 : ∀ z : List UInt8, (c :: (l ++ z)).drop (1 + run blank l) = l.drop (run blank l) ++ z := fun z => by
    rw [Nat.add_comm, List.drop_succ_cons, List.drop_append_of_le_length hr]
  rw [e1] at *
  rw [e1]
  rw [← lineEnd_app _ y y' hs hs2]
  by_cases hk : lineEnd (l.drop (run blank l) ++ y) = 0
  · rw [if_pos hk, if_pos hk]
  · rw [if_neg hk] at hle h0 h13 ⊢
    rw [if_neg hk]
    have e2 : ∀ k, (c :: l).drop (1 + run blank l + k) = (l.drop (run blank l)).drop k := fun k => by
      rw [List.drop_drop, show 1 + run blank l + k = (run blank l + k) + 1 by omega, List.drop_succ_cons]
    rw [e2] at h0 h13
    rw [spaces_app hy hy' _ (c :: (l ++ y')).length _ (by simp only [List.length_append, List.length_drop, List.length_cons]; omega) (by simp only [List.length_append, List.length_drop, List.length_cons]; omega) (by rw [List.length_drop]; omega) h0 h13]
end Tom
