/-
  Where the first unsound byte stands behind sound text; what Scan answers at two texts with a line feed between them.
-/
import Derived.Test.YtjfkiomegacpeaaDoorJsO
import Derived.Test.YtjfkiomegacpeaaDoorJs2
namespace Go.Proofs.YtjfkiomegacpeaaDoor
open Go.RowKit
theorem chk_val : ∀ (n f g p d : Nat) (l : List UInt8), l.length ≤ n → l.length < f → l.length < g → chk f (p + d) l = (chk g p l).map (· + d)
  | _, 0, _, _, _, _, _, h, _ => by omega
  | _, _ + 1, 0, _, _, _, _, _, h => by omega
  | _, f + 1, g + 1, p, d, [], _, _, _ => by simp [chk]
  | 0, _ + 1, _ + 1, _, _, c :: r, hn, _, _ => by simp at hn
  | n + 1, f + 1, g + 1, p, d, c :: r, hn, hf, hg => by
    have hw := decodeL_wid (c :: r) (by simp)
    unfold chk
    by_cases he : (Lib.decodeL (c :: r)).1 = 65533 ∧ (Lib.decodeL (c :: r)).2 = 1
    · rw [if_pos he, if_pos he]
      rfl
    · rw [if_neg he, if_neg he, show p + d + (Lib.decodeL (c :: r)).2 = p + (Lib.decodeL (c :: r)).2 + d by omega]
      exact chk_val n f g _ d _ (by rw [List.length_drop]; omega) (by rw [List.length_drop]; omega) (by rw [List.length_drop]; omega)
theorem chk_le : ∀ (f p : Nat) (l : List UInt8) (q : Nat), chk f p l = some q → q ≤ p + l.length
  | 0, _, _, _, h => by simp [chk] at h
  | _ + 1, _, [], _, h => by simp [chk] at h
  | f + 1, p, c :: r, q, h => by
    have hw := decodeL_wid (c :: r) (by simp)
    unfold chk at h
    by_cases he : (Lib.decodeL (c :: r)).1 = 65533 ∧ (Lib.decodeL (c :: r)).2 = 1
    · rw [if_pos he] at h
      simp only [Option.some.injEq] at h
      omega
    · rw [if_neg he] at h
      have := chk_le f _ _ q h
      rw [List.length_drop] at this
      omega
theorem chk_app : ∀ (n f p : Nat) (l : List UInt8) (c : UInt8) (r : List UInt8), l.length ≤ n → c.toNat < 128 → Snd l → (l ++ c :: r).length < f → chk f p (l ++ c :: r) = chk (r.length + 1) (p + l.length + 1) r
  | n, f, p, [], c, r, _, hc, _, hf => by
    rw [List.nil_append] at hf ⊢
    obtain ⟨f, rfl⟩ : ∃ g, f = g + 1 := ⟨f - 1, by omega⟩
    conv => lhs; unfold chk
    rw [Lib.decodeL_ascii c r hc, if_neg (by simp only; omega)]
    simp only [List.drop_succ_cons, List.drop_zero, List.length_nil, Nat.add_zero]
    have := chk_val r.length f (r.length + 1) (p + 1) 0 r (Nat.le_refl _) (by simpa using hf) (by omega)
    rw [Nat.add_zero] at this
    rw [this]
    generalize chk (r.length + 1) (p + 1) r = o
    cases o <;> rfl
  | 0, f, p, a :: l, _, _, hn, _, _, _ => by simp at hn
  | n + 1, f, p, a :: l, c, r, hn, hc, hs, hf => by
    have hw := decodeL_wid (a :: l) (by simp)
    obtain ⟨hs1, hs2⟩ := (snd_cons (a :: l) (by simp)).1 hs
    obtain ⟨f, rfl⟩ : ∃ g, f = g + 1 := ⟨f - 1, by omega⟩
    have hd := decodeL_app (a :: l) (by simp) c hc r
    rw [List.cons_append] at hd
    rw [List.cons_append]
    conv => lhs; unfold chk
    rw [hd, if_neg hs1, ← List.cons_append, List.drop_append_of_le_length hw.2,
      chk_app n f _ _ c r (by rw [List.length_drop]; omega) hc hs2 (by simp only [List.length_append, List.length_drop] at *; omega)]
    congr 1
    rw [List.length_drop]; omega
theorem out_join {a b : List UInt8} {T : List Jsn.T} {N : List Jsn.Note} (ha : Snd a) (sa : Jsn.scan a = .ok T N) :
    ((outOf b).code = 0 → outOf (a ++ 10 :: b) = ⟨T ++ (outOf b).toks.map (Jsn.T.sh (a.length + 1)), N ++ (outOf b).notes.map (Jsn.Note.sh (a.length + 1)), 0, 0⟩) ∧
    ((outOf b).code ≠ 0 → outOf (a ++ 10 :: b) = ⟨[], [], a.length + 1 + (outOf b).at_, (outOf b).code⟩) := by
  have hc : chk ((a ++ 10 :: b).length + 1) 0 (a ++ 10 :: b) = (chk (b.length + 1) 0 b).map (· + (a.length + 1)) := by
    rw [chk_app a.length _ 0 a 10 b (Nat.le_refl _) (by decide) ha (by omega)]
    have := chk_val b.length (b.length + 1) (b.length + 1) 0 (a.length + 1) b (Nat.le_refl _) (by omega) (by omega)
    rwa [show 0 + (a.length + 1) = 0 + a.length + 1 by omega] at this
  unfold outOf
  rw [hc]
  cases h : chk (b.length + 1) 0 b with
  | some p => exact ⟨fun h => by simp at h, fun _ => by simp only [Option.map_some]; rw [Nat.add_comm]⟩
  | none =>
    simp only [Option.map_none]
    rw [Jsn.scan_lf a b T N sa]
    cases hb : Jsn.scan b with
    | ok T' N' => exact ⟨fun _ => rfl, fun h => by simp at h⟩
    | bad e n =>
      refine ⟨fun h => absurd h (scan_code _ _ (Nat.le_refl _) _ _ hb), fun _ => rfl⟩
theorem out_bd (l : List UInt8) : (outOf l).at_ ≤ l.length ∧ (outOf l).toks.length + (outOf l).notes.length ≤ l.length ∧ ∀ t ∈ (outOf l).toks, t.frm ≤ l.length ∧ t.to ≤ l.length := by
  unfold outOf
  cases h : chk (l.length + 1) 0 l with
  | some p =>
    have := chk_le _ _ _ _ h
    refine ⟨by simp only; omega, by simp, by simp⟩
  | none =>
    have hb := Jsn.scan_bd l.length l (Nat.le_refl _)
    cases hs : Jsn.scan l with
    | ok T N =>
      have := hb.2 T N hs
      exact ⟨Nat.zero_le _, this.1, this.2⟩
    | bad e n => exact ⟨hb.1 e n hs, by simp, by simp⟩
theorem out_empty {l : List UInt8} (h : (outOf l).code ≠ 0) : (outOf l).toks = [] ∧ (outOf l).notes = [] := by
  unfold outOf at *
  cases hc : chk (l.length + 1) 0 l with
  | some p => exact ⟨rfl, rfl⟩
  | none =>
    rw [hc] at h
    cases hs : Jsn.scan l with
    | ok T N => rw [hs] at h; exact absurd rfl h
    | bad e n => exact ⟨rfl, rfl⟩
end Go.Proofs.YtjfkiomegacpeaaDoor
