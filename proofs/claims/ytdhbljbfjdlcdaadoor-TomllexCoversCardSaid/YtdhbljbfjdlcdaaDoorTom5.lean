/-
  The plain law of tomllex, sixth part: as the reference reads (byte by byte, at offsets). No program stands in it.
-/
import Derived.Test.YtdhbljbfjdlcdaaDoorTom4
namespace Tom
/-- The white space and line ends with which l begins. -/
def sp (l : List UInt8) : Nat := spaces l.length l
theorem sp_unf (l : List UInt8) : sp l = if run blank l + lineEnd (l.drop (run blank l)) = 0 then 0 else run blank l + lineEnd (l.drop (run blank l)) + sp (l.drop (run blank l + lineEnd (l.drop (run blank l)))) := by
  cases l with
  | nil => rfl
  | cons c r =>
    have e : sp (c :: r) = spaces (r.length + 1) (c :: r) := rfl
    rw [e]
    conv => lhs; unfold spaces
    simp only
    split
    · rfl
    · rename_i h
      unfold sp
      rw [spaces_fuel _ _ _ (by rw [List.length_drop, List.length_cons]; omega) (Nat.le_refl _)]
theorem sp_blank (c : UInt8) (r : List UInt8) (h : blank c = true) : sp (c :: r) = 1 + sp r := by
  have h1 : run blank (c :: r) = run blank r + 1 := by rw [run_cons, if_pos h]
  have h2 : (c :: r).drop (run blank (c :: r)) = r.drop (run blank r) := by rw [h1, List.drop_succ_cons]
  rw [sp_unf (c :: r), h2, if_neg (by omega)]
  have h3 : (c :: r).drop (run blank (c :: r) + lineEnd (r.drop (run blank r))) = r.drop (run blank r + lineEnd (r.drop (run blank r))) := by
    rw [h1, show run blank r + 1 + lineEnd (r.drop (run blank r)) = (run blank r + lineEnd (r.drop (run blank r))) + 1 by omega, List.drop_succ_cons]
  rw [h3, h1]
  have h4 := sp_unf r
  split at h4
  · rename_i h5
    rw [h4, h5, List.drop_zero, h4]
    omega
  · omega
theorem blank_line (c : UInt8) (r : List UInt8) (h : blank c = true) : lineEnd (c :: r) = 0 := by
  have : c = 32 ∨ c = 9 := by simpa [blank] using h
  rcases this with rfl | rfl <;> rfl
theorem sp_line (c : UInt8) (r : List UInt8) (h : blank c = false) : sp (c :: r) = if lineEnd (c :: r) = 0 then 0 else lineEnd (c :: r) + sp ((c :: r).drop (lineEnd (c :: r))) := by
  have h1 : run blank (c :: r) = 0 := by rw [run_cons, h]; rfl
  rw [sp_unf (c :: r), h1, List.drop_zero, Nat.zero_add]
theorem sp_nil : sp [] = 0 := rfl
theorem folded_sp (l : List UInt8) : folded l = if lineEnd (l.drop (1 + run blank (l.drop 1))) = 0 then 0 else 1 + run blank (l.drop 1) + sp (l.drop (1 + run blank (l.drop 1))) := by
  unfold folded sp
  simp only
  split
  · rfl
  · rw [spaces_fuel _ _ _ (by rw [List.length_drop]; omega) (Nat.le_refl _)]
/-! ### A string's content at an offset -/
def Cont.sh (d : Nat) : Cont → Cont
  | .ok t n => .ok t (n + d)
  | .bad n => .bad (n + d)
  | .open_ => .open_
theorem contLoop_sh (q : List UInt8) (many : Bool) (d : Nat) : ∀ (f a : Nat) (out l : List UInt8), contLoop q many f (a + d) out l = (contLoop q many f a out l).sh d
  | 0, _, _, _ => rfl
  | _ + 1, _, _, [] => rfl
  | f + 1, a, out, c :: r => by
    unfold contLoop
    split
    · simp only [Cont.sh, Cont.ok.injEq, true_and]
      omega
    · split
      · rw [show a + d + lineEnd (c :: r) = (a + lineEnd (c :: r)) + d by omega]
        exact contLoop_sh q many d f _ _ _
      · split
        · rfl
        · split
          · split
            · rw [show a + d + folded (c :: r) = (a + folded (c :: r)) + d by omega]
              exact contLoop_sh q many d f _ _ _
            · split
              · rename_i t n _
                rw [show a + d + n = (a + n) + d by omega]
                exact contLoop_sh q many d f _ _ _
              · rfl
          · rw [show a + d + 1 = (a + 1) + d by omega]
            exact contLoop_sh q many d f _ _ _
theorem contLoop_fuel (q : List UInt8) (many : Bool) : ∀ (f g a : Nat) (out l : List UInt8), l.length < f → l.length < g → contLoop q many f a out l = contLoop q many g a out l
  | 0, _, _, _, _, h, _ => by omega
  | _ + 1, 0, _, _, _, _, h => by omega
  | _ + 1, _ + 1, _, _, [], _, _ => rfl
  | f + 1, g + 1, a, out, c :: r, hf, hg => by
    simp only [List.length_cons] at hf hg
    unfold contLoop
    split
    · rfl
    · split
      · rename_i h
        simp only [Bool.and_eq_true, decide_eq_true_eq] at h
        exact contLoop_fuel q many f g _ _ _ (by rw [List.length_drop, List.length_cons]; omega) (by rw [List.length_drop, List.length_cons]; omega)
      · split
        · rfl
        · split
          · split
            · rename_i h
              simp only [Bool.and_eq_true, decide_eq_true_eq] at h
              exact contLoop_fuel q many f g _ _ _ (by rw [List.length_drop, List.length_cons]; omega) (by rw [List.length_drop, List.length_cons]; omega)
            · split
              · rename_i he
                have := escape_bd _ _ _ he
                exact contLoop_fuel q many f g _ _ _ (by rw [List.length_drop, List.length_cons]; omega) (by rw [List.length_drop, List.length_cons]; omega)
              · rfl
          · exact contLoop_fuel q many f g _ _ _ (by omega) (by omega)
/-- The content at an offset: what the reference reads. -/
def contAt (q : List UInt8) (many : Bool) (L : List UInt8) (a : Nat) : Cont :=
  let b := a + q.length + if many then lineEnd (L.drop (a + q.length)) else 0
  contLoop q many (L.length + 1) b [] (L.drop b)
theorem contAt_eq (q : List UInt8) (L : List UInt8) (a : Nat) : contAt q (q.length == 3) L a = (content q (L.drop a)).sh a := by
  unfold contAt content
  simp only
  rw [← contLoop_sh, List.drop_drop, List.drop_drop]
  rw [contLoop_fuel q _ (L.length + 1) ((L.drop a).length + 1) _ _ _ (by rw [List.length_drop]; omega) (by rw [List.length_drop, List.length_drop]; omega)]
  rw [show a + q.length + (if (q.length == 3) = true then lineEnd (L.drop (a + q.length)) else 0) = q.length + (if (q.length == 3) = true then lineEnd (L.drop (a + q.length)) else 0) + a by omega]
  rw [show q.length + (if (q.length == 3) = true then lineEnd (L.drop (a + q.length)) else 0) + a = a + (q.length + (if (q.length == 3) = true then lineEnd (L.drop (a + q.length)) else 0)) by omega]
end Tom
