/-
  Sound UTF-8, cut at an ASCII byte.
-/
import Derived.Test.YtjfkiomegacpeaaDoorChk
import Derived.Lib.TrimAscii
namespace Go.Proofs.YtjfkiomegacpeaaDoor
open Go.RowKit
/-! ### Sound text cut at an ASCII byte -/
theorem decodeL_app (l : List UInt8) (h : l ≠ []) (c : UInt8) (hc : c.toNat < 128) (r : List UInt8) : Lib.decodeL (l ++ c :: r) = Lib.decodeL l := by
  have hc2 : ¬(c.toNat / 64 = 2) := by omega
  rw [Lib.decodeL_N, Lib.decodeL_N]
  match l, h with
  | [a], _ => simp [Lib.decodeN, hc2]
  | [a, b], _ => simp [Lib.decodeN, hc2]
  | [a, b, d], _ => simp [Lib.decodeN, hc2]
  | a :: b :: d :: e :: t, _ =>
    have h1 : 1 < t.length + (r.length + 1) + 1 + 1 + 1 + 1 := by omega
    have h2 : 2 < t.length + (r.length + 1) + 1 + 1 + 1 + 1 := by omega
    have h3 : 3 < t.length + (r.length + 1) + 1 + 1 + 1 + 1 := by omega
    have g1 : 1 < t.length + 1 + 1 + 1 + 1 := by omega
    have g2 : 2 < t.length + 1 + 1 + 1 + 1 := by omega
    have g3 : 3 < t.length + 1 + 1 + 1 + 1 := by omega
    simp only [List.cons_append, List.length_cons, List.length_append, List.getD_cons_zero, List.getD_cons_succ, Lib.decodeN, h1, h2, h3, g1, g2, g3]
theorem decodeL_wid (l : List UInt8) (h : l ≠ []) : 1 ≤ (Lib.decodeL l).2 ∧ (Lib.decodeL l).2 ≤ l.length := by
  refine ⟨Lib.decodeL_width l, ?_⟩
  rw [Lib.decodeL_N]
  have : 1 ≤ l.length := by cases l; exact absurd rfl h; simp
  unfold Lib.decodeN
  repeat' split
  all_goals (first | (simp only; omega) | omega)
/-- Sound UTF-8. -/
def Snd (l : List UInt8) : Prop := chk (l.length + 1) 0 l = none
theorem chk_fuel : ∀ (n f g p q : Nat) (l : List UInt8), l.length ≤ n → l.length < f → l.length < g → (chk f p l = none ↔ chk g q l = none)
  | _, 0, _, _, _, _, _, h, _ => by omega
  | _, _ + 1, 0, _, _, _, _, _, h => by omega
  | _, f + 1, g + 1, p, q, [], _, _, _ => by simp [chk]
  | 0, _ + 1, _ + 1, _, _, c :: r, hn, _, _ => by simp at hn
  | n + 1, f + 1, g + 1, p, q, c :: r, hn, hf, hg => by
    have hw := decodeL_wid (c :: r) (by simp)
    unfold chk
    by_cases he : (Lib.decodeL (c :: r)).1 = 65533 ∧ (Lib.decodeL (c :: r)).2 = 1
    · rw [if_pos he, if_pos he]
      simp
    · rw [if_neg he, if_neg he]
      exact chk_fuel n f g _ _ _ (by rw [List.length_drop]; omega) (by rw [List.length_drop]; omega) (by rw [List.length_drop]; omega)
theorem snd_cons (l : List UInt8) (h : l ≠ []) : Snd l ↔ ¬((Lib.decodeL l).1 = 65533 ∧ (Lib.decodeL l).2 = 1) ∧ Snd (l.drop (Lib.decodeL l).2) := by
  have hw := decodeL_wid l h
  cases l with
  | nil => exact absurd rfl h
  | cons c r =>
    unfold Snd
    conv => lhs; unfold chk
    by_cases he : (Lib.decodeL (c :: r)).1 = 65533 ∧ (Lib.decodeL (c :: r)).2 = 1
    · rw [if_pos he]
      simp [he]
    · rw [if_neg he]
      simp only [he, not_false_eq_true, true_and]
      exact chk_fuel (c :: r).length _ _ _ _ _ (by rw [List.length_drop]; omega) (by rw [List.length_drop]; omega) (by rw [List.length_drop]; omega)
theorem snd_nil : Snd [] := rfl
theorem snd_ascii (c : UInt8) (hc : c.toNat < 128) (r : List UInt8) : Snd (c :: r) ↔ Snd r := by
  rw [snd_cons _ (by simp), Lib.decodeL_ascii c r hc]
  simp only [List.drop_succ_cons, List.drop_zero]
  exact ⟨fun h => h.2, fun h => ⟨fun e => by omega, h⟩⟩
theorem snd_cut : ∀ (n : Nat) (l : List UInt8) (c : UInt8) (r : List UInt8), l.length ≤ n → c.toNat < 128 → (Snd (l ++ c :: r) ↔ Snd l ∧ Snd r)
  | n, [], c, r, _, hc => by
    rw [List.nil_append, snd_ascii c hc]
    exact ⟨fun h => ⟨snd_nil, h⟩, fun h => h.2⟩
  | 0, a :: l, _, _, hn, _ => by simp at hn
  | n + 1, a :: l, c, r, hn, hc => by
    have hw := decodeL_wid (a :: l) (by simp)
    rw [snd_cons (a :: l ++ c :: r) (by simp), snd_cons (a :: l) (by simp), decodeL_app (a :: l) (by simp) c hc, List.drop_append_of_le_length hw.2,
      snd_cut n _ c r (by rw [List.length_drop]; omega) hc, and_assoc]
theorem snd_app (l : List UInt8) (c : UInt8) (r : List UInt8) (hc : c.toNat < 128) : Snd (l ++ c :: r) ↔ Snd l ∧ Snd r := snd_cut l.length l c r (Nat.le_refl _) hc
end Go.Proofs.YtjfkiomegacpeaaDoor
