/-
  Clean text: no rune below 32, none that is 127 or 65533. Sound UTF-8 without control characters. A range over a string's world.
-/
import Derived.Test.YtdhbljbfjdlcdaaDoorUtf
import Derived.Test.YtdhbljbfjdlcdaaDoorTom7
import Derived.Lib.IndexLaws
import Derived.Lib.OthersKept
namespace Go.Proofs.YtdhbljbfjdlcdaaDoor
open Go.RowKit
theorem app_lst (a b : ByteArray) : (a ++ b).data.toList = a.data.toList ++ b.data.toList := by
  rw [ByteArray.data_append]
  simp
def cleanL : Nat → List UInt8 → Bool
  | 0, _ => true
  | _ + 1, [] => true
  | f + 1, c :: r => if (Lib.decodeL (c :: r)).1 < 32 ∨ (Lib.decodeL (c :: r)).1 = 127 ∨ (Lib.decodeL (c :: r)).1 = 65533 then false else cleanL f ((c :: r).drop (Lib.decodeL (c :: r)).2)
theorem clean_round (f p : Nat) (L : List UInt8) (h : p < L.length) (R K : Nat) (hd : Lib.decodeL (L.drop p) = (R, K)) : cleanL (f + 1) (L.drop p) = if R < 32 ∨ R = 127 ∨ R = 65533 then false else cleanL f (L.drop (p + K)) := by
  have e : L.drop p = L[p] :: L.drop (p + 1) := List.drop_eq_getElem_cons h
  rw [← List.drop_drop]
  generalize L.drop p = l at *
  subst e
  conv => lhs; unfold cleanL
  rw [hd]
theorem clean_cons (f : Nat) (l : List UInt8) (h : l ≠ []) (hc : cleanL (f + 1) l = true) : ¬((Lib.decodeL l).1 < 32 ∨ (Lib.decodeL l).1 = 127 ∨ (Lib.decodeL l).1 = 65533) ∧ cleanL f (l.drop (Lib.decodeL l).2) = true := by
  cases l with
  | nil => exact absurd rfl h
  | cons c r =>
    unfold cleanL at hc
    by_cases he : (Lib.decodeL (c :: r)).1 < 32 ∨ (Lib.decodeL (c :: r)).1 = 127 ∨ (Lib.decodeL (c :: r)).1 = 65533
    · rw [if_pos he] at hc
      simp at hc
    · rw [if_neg he] at hc
      exact ⟨he, hc⟩
theorem clean_snd : ∀ (f : Nat) (l : List UInt8), l.length < f → cleanL f l = true → Snd l
  | 0, _, h, _ => by omega
  | f + 1, l, hf, hc => by
    by_cases h : l = []
    · subst h; exact snd_nil
    · have hw := decodeL_wid l h
      have h2 := clean_cons f l h hc
      exact (snd_cons l h).2 ⟨fun e => h2.1 (Or.inr (Or.inr e.1)), clean_snd f _ (by rw [List.length_drop]; omega) h2.2⟩
theorem decodeL_one (c : UInt8) (hc : c.toNat < 128) (r : List UInt8) : Lib.decodeL (c :: r) = (c.toNat, 1) := by
  rw [Lib.decodeL_N]
  have h0 : c.toNat / 128 = 0 := by omega
  simp [Lib.decodeN, hc]
theorem clean_ctrl : ∀ (f : Nat) (l : List UInt8), l.length < f → cleanL f l = true → ∀ c ∈ l, Tom.control c = false
  | 0, _, h, _, _, _ => by omega
  | f + 1, l, hf, hc, c, hm => by
    by_cases hlt : c.toNat < 128
    · have hl0 : l ≠ [] := by rintro rfl; simp at hm
      have hw := decodeL_wid l hl0
      have h2 := clean_cons f l hl0 hc
      obtain ⟨l1, r, rfl⟩ := List.append_of_mem hm
      cases l1 with
      | nil =>
        rw [List.nil_append, decodeL_one c hlt] at h2
        simp only at h2
        have g1 : ¬ c < 32 := by rw [UInt8.lt_iff_toNat_lt]; show ¬ c.toNat < 32; omega
        have g2 : c ≠ 127 := by rintro rfl; exact h2.1 (Or.inr (Or.inl rfl))
        simp [Tom.control, g1, g2]
      | cons a l1 =>
        rw [decodeL_app (a :: l1) (by simp) c hlt r] at h2 hw
        have hw1 := decodeL_wid (a :: l1) (by simp)
        rw [List.drop_append_of_le_length hw1.2] at h2
        exact clean_ctrl f _ (by simp only [List.length_append, List.length_cons, List.length_drop] at *; omega) h2.2 c (by simp)
    · have g1 : ¬ c < 32 := by rw [UInt8.lt_iff_toNat_lt]; show ¬ c.toNat < 32; omega
      have g2 : c ≠ 127 := by rintro rfl; exact hlt (by decide)
      simp [Tom.control, g1, g2]
theorem not_in (l : List UInt8) (c : UInt8) (h : decide (0 ≤ Lib.indexByte l c) = false) : c ∉ l := by
  have h1 := Lib.indexByte_ge l c
  have h2 := Lib.indexByte_none (l := l) (c := c) (by have := of_decide_eq_false h; omega)
  intro hm
  obtain ⟨k, hk⟩ := List.getElem?_of_mem hm
  exact h2 k hk
theorem fair_all (l : List UInt8) (f : Nat) (hf : l.length < f) (hc : cleanL f l = true) (h1 : 34 ∉ l) (h2 : 39 ∉ l) (h3 : 92 ∉ l) : ∀ c ∈ l, Tom.fair c = true := by
  intro c hm
  have e1 : c ≠ 34 := by rintro rfl; exact h1 hm
  have e2 : c ≠ 39 := by rintro rfl; exact h2 hm
  have e3 : c ≠ 92 := by rintro rfl; exact h3 hm
  simp [Tom.fair, clean_ctrl f l hf hc c hm, e1, e2, e3]
/-- 'next' of a range over a string. -/
theorem next_any {P : Program} (w : World) (s : ByteArray) (pos : Nat) (ty : TypeId) (h : pos < s.size) :
    (Instr.next (.pointer (some ⟨w.heap.size, 0, none⟩)) true ty).run P (w.iter s pos) = .ok (.tuple #[.bool true, .int .i64 pos, .int .i32 (Utf8.decode s pos).1]) (w.iter s (pos + (Utf8.decode s pos).2)) := by
  rw [Lib.run_next_any_at _ _ s pos ty (World.iter_heap w s pos) h]
  congr 1
  exact World.iter_set w s pos _
end Go.Proofs.YtdhbljbfjdlcdaaDoor
