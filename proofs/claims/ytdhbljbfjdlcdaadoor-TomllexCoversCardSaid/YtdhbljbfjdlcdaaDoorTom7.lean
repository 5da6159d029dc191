/-
  The plain law of tomllex, eighth part: one round of a scan at an offset. No program stands in it.
-/
import Derived.Test.YtdhbljbfjdlcdaaDoorTom6
namespace Tom
theorem step_blank (c : UInt8) (r : List UInt8) (h : blank c = true) : step (c :: r) = .skip (run blank r + 1) := by
  rw [step_cons, run_cons, if_pos h, if_pos (by omega)]
theorem step_none (c : UInt8) (r : List UInt8) (h : blank c = false) : step (c :: r) = if c == 35 then if (cmt (c :: r)).2 then .note (cmt (c :: r)).1 else .bad (cmt (c :: r)).1
    else match token (c :: r) with
      | .ok k n t => .tok k n t
      | .bad n => .bad n := by
  rw [step_cons, run_cons, h]
  rfl
theorem scan_blank (c : UInt8) (r : List UInt8) (h : blank c = true) : scan (c :: r) = (scan r).app 1 [] [] := by
  rw [scan_skip (step_blank c r h), List.drop_succ_cons]
  by_cases h0 : run blank r = 0
  · rw [h0]; rfl
  · cases r with
    | nil => rw [run_nil] at h0; exact absurd rfl h0
    | cons d r =>
      rw [run_cons] at *
      by_cases hd : blank d = true
      · rw [if_pos hd]
        rw [scan_skip (step_blank d r hd), Res.app_app]
        simp [Nat.add_comm]
      · rw [if_neg hd] at h0; exact absurd rfl h0
/-- One round of a scan at an offset, by the byte that stands there. -/
theorem scan_at_blank (p : Nat) (ts : List T) (ns : List Note) (L : List UInt8) (c : UInt8) (h : L.drop p = c :: L.drop (p + 1)) (hb : blank c = true) :
    (scan (L.drop p)).app p ts ns = (scan (L.drop (p + 1))).app (p + 1) ts ns := by
  rw [h, scan_blank c _ hb, Res.app_app]
  simp
theorem scan_at_note (p m : Nat) (ts : List T) (ns : List Note) (L : List UInt8) (h : L.drop p = 35 :: L.drop (p + 1)) (hm : cmt (L.drop p) = (m, true)) :
    (scan (L.drop p)).app p ts ns = (scan (L.drop (p + m))).app (p + m) ts (ns ++ [⟨p, p + m, (L.drop p).take m⟩]) := by
  have hs : step (L.drop p) = .note m := by
    rw [h, step_none 35 _ rfl, ← h, hm]
    rfl
  rw [scan_note hs, Res.app_app, List.drop_drop]
  simp [Note.sh, Nat.add_comm]
theorem scan_at_notebad (p m : Nat) (ts : List T) (ns : List Note) (L : List UInt8) (h : L.drop p = 35 :: L.drop (p + 1)) (hm : cmt (L.drop p) = (m, false)) :
    (scan (L.drop p)).app p ts ns = .bad (p + m) := by
  have hs : step (L.drop p) = .bad m := by
    rw [h, step_none 35 _ rfl, ← h, hm]
    rfl
  rw [scan_step _ (by rw [h]; simp), hs]
  rfl
theorem scan_at_tok (p k m : Nat) (t : List UInt8) (ts : List T) (ns : List Note) (L : List UInt8) (c : UInt8) (h : L.drop p = c :: L.drop (p + 1)) (hb : blank c = false) (hc : (c == 35) = false) (hm : token (L.drop p) = .ok k m t) :
    (scan (L.drop p)).app p ts ns = (scan (L.drop (p + m))).app (p + m) (ts ++ [⟨k, p, p + m, t⟩]) ns := by
  have hs : step (L.drop p) = .tok k m t := by
    rw [h, step_none c _ hb, ← h, hm, hc]
    rfl
  rw [scan_tok hs, Res.app_app, List.drop_drop]
  simp [T.sh, Nat.add_comm]
theorem scan_at_bad (p m : Nat) (ts : List T) (ns : List Note) (L : List UInt8) (c : UInt8) (h : L.drop p = c :: L.drop (p + 1)) (hb : blank c = false) (hc : (c == 35) = false) (hm : token (L.drop p) = .bad m) :
    (scan (L.drop p)).app p ts ns = .bad (p + m) := by
  have hs : step (L.drop p) = .bad m := by
    rw [h, step_none c _ hb, ← h, hm, hc]
    rfl
  rw [scan_step _ (by rw [h]; simp), hs]
  rfl
theorem scan_at_end (p : Nat) (ts : List T) (ns : List Note) (L : List UInt8) (h : L.drop p = []) : (scan (L.drop p)).app p ts ns = .ok (ts ++ [⟨8, p, p, []⟩]) ns := by
  rw [h, scan_nil]
  simp [Res.app, T.sh]
theorem scan_app0 (L : List UInt8) : scan L = (scan (L.drop 0)).app 0 [] [] := by
  rw [List.drop_zero]
  cases scan L with
  | ok T N => simp [Res.app, sh0, nsh0]
  | bad n => simp [Res.app]
/-! ### A text between quotes -/
def fair (c : UInt8) : Bool := c != 34 && c != 39 && c != 92 && !control c
theorem fair_line (c : UInt8) (r : List UInt8) (h : fair c = true) : lineEnd (c :: r) = 0 := by
  have h10 : c ≠ 10 := by rintro rfl; exact absurd h (by decide)
  have h13 : c ≠ 13 := by rintro rfl; exact absurd h (by decide)
  unfold lineEnd
  split <;> simp_all
theorem fair_starts (q : UInt8) (k : Nat) (c : UInt8) (r : List UInt8) (h : fair c = true) (hq : q = 34 ∨ q = 39) : starts (List.replicate (k + 1) q) (c :: r) = false := by
  have h1 : q ≠ c := by
    rintro rfl
    rcases hq with rfl | rfl <;> exact absurd h (by decide)
  simp [starts, List.replicate, List.isPrefixOf, h1]
theorem quoted (q : UInt8) (k : Nat) (many : Bool) (hq : q = 34 ∨ q = 39) (hk : k ≤ 2) : ∀ (f a : Nat) (out l : List UInt8), (∀ c ∈ l, fair c = true) → l.length < f →
    contLoop (List.replicate (k + 1) q) many f a out (l ++ List.replicate (k + 1) q) = .ok (out ++ l) (a + l.length + (k + 1))
  | 0, _, _, _, _, h => by omega
  | f + 1, a, out, [], _, _ => by
    rw [List.nil_append]
    rcases hq with rfl | rfl <;> cases many <;> (match k, hk with
      | 0, _ => simp [contLoop, starts, List.replicate, List.isPrefixOf]
      | 1, _ => simp [contLoop, starts, List.replicate, List.isPrefixOf]
      | 2, _ => simp [contLoop, starts, List.replicate, List.isPrefixOf])
  | f + 1, a, out, c :: l, hf, hl => by
    have hc := hf c (by simp)
    have h1 := fair_starts q k c (l ++ List.replicate (k + 1) q) hc hq
    have h2 := fair_line c (l ++ List.replicate (k + 1) q) hc
    have h3 : control c = false := by
      unfold fair at hc
      simp only [Bool.and_eq_true, Bool.not_eq_true'] at hc
      exact hc.2
    have h4 : (c == 92) = false := by
      unfold fair at hc
      simp only [Bool.and_eq_true, bne_iff_ne, ne_eq] at hc
      rw [beq_eq_false_iff_ne]
      exact hc.1.2
    rw [List.cons_append]
    unfold contLoop
    rw [h1, h2, h3, h4]
    simp only [Nat.lt_irrefl, decide_false, Bool.and_false, Bool.false_and, Bool.false_eq_true, if_false]
    rw [quoted q k many hq hk f (a + 1) (out ++ [c]) l (fun d hd => hf d (by simp [hd])) (by simpa using hl)]
    simp [Nat.add_assoc, Nat.add_comm 1]
theorem quoted_scan (q : UInt8) (k i : Nat) (hq : q = 34 ∧ i = 0 ∨ q = 39 ∧ i = 1) (hk : k = 0 ∨ k = 2) (l : List UInt8) (hf : ∀ c ∈ l, fair c = true) :
    scan (List.replicate (k + 1) q ++ l ++ List.replicate (k + 1) q) = .ok [⟨4 + i + k, 0, l.length + 2 * (k + 1), l⟩, ⟨8, l.length + 2 * (k + 1), l.length + 2 * (k + 1), []⟩] [] := by
  have hq2 : q = 34 ∨ q = 39 := by rcases hq with ⟨h, _⟩ | ⟨h, _⟩ <;> simp [h]
  have hlen : (List.replicate (k + 1) q ++ l ++ List.replicate (k + 1) q).length = l.length + 2 * (k + 1) := by simp; omega
  have hst : starts [q, q, q] (List.replicate (k + 1) q ++ l ++ List.replicate (k + 1) q) = decide (k = 2) := by
    rcases hk with rfl | rfl
    · cases l with
      | nil => rcases hq2 with rfl | rfl <;> rfl
      | cons c l =>
        have hc := hf c (by simp)
        have h1 : q ≠ c := by
          rintro rfl
          rcases hq2 with rfl | rfl <;> exact absurd hc (by decide)
        simp [starts, List.isPrefixOf, h1]
    · simp [starts, List.replicate, List.isPrefixOf]
  have hco : content (List.replicate (k + 1) q) (List.replicate (k + 1) q ++ l ++ List.replicate (k + 1) q) = .ok l (l.length + 2 * (k + 1)) := by
    unfold content
    simp only
    have hd : (List.replicate (k + 1) q ++ l ++ List.replicate (k + 1) q).drop (List.replicate (k + 1) q).length = l ++ List.replicate (k + 1) q := by
      rw [List.append_assoc, List.drop_left]
    have hl0 : lineEnd (l ++ List.replicate (k + 1) q) = 0 := by
      cases l with
      | nil => rcases hq2 with rfl | rfl <;> rfl
      | cons c l => exact fair_line c _ (hf c (by simp))
    rw [hd, hl0]
    simp only [ite_self, Nat.add_zero]
    rw [hd, quoted q k _ hq2 (by omega) _ _ [] l hf (by rw [hlen]; omega)]
    simp only [List.nil_append, List.length_replicate]
    congr 1
    omega
  have hto : token (List.replicate (k + 1) q ++ l ++ List.replicate (k + 1) q) = .ok (4 + i + k) (l.length + 2 * (k + 1)) l := by
    have hql : (if decide (k = 2) = true then [q, q, q] else [q]) = List.replicate (k + 1) q := by
      rcases hk with rfl | rfl <;> rfl
    obtain ⟨r, hr⟩ : ∃ r, List.replicate (k + 1) q ++ l ++ List.replicate (k + 1) q = q :: r := ⟨_, by rw [List.replicate_succ]; rfl⟩
    unfold token
    rw [hr] at hst hco ⊢
    have h0 : lineEnd (q :: r) = 0 := by rcases hq2 with rfl | rfl <;> rfl
    rw [h0]
    simp only [Nat.lt_irrefl, if_false]
    rw [hst, hql, hco]
    rcases hq with ⟨rfl, rfl⟩ | ⟨rfl, rfl⟩ <;> rcases hk with rfl | rfl <;> rfl
  have hs : step (List.replicate (k + 1) q ++ l ++ List.replicate (k + 1) q) = .tok (4 + i + k) (l.length + 2 * (k + 1)) l := by
    obtain ⟨r, hr⟩ : ∃ r, List.replicate (k + 1) q ++ l ++ List.replicate (k + 1) q = q :: r := ⟨_, by rw [List.replicate_succ]; rfl⟩
    rw [hr] at hto ⊢
    rw [step_none q r (by rcases hq2 with rfl | rfl <;> rfl), hto]
    rcases hq2 with rfl | rfl <;> rfl
  rw [scan_tok hs, List.drop_of_length_le (by rw [hlen]; exact Nat.le_refl _), scan_nil]
  simp [Res.app, T.sh]
end Tom
