/-
  JsonlexTexts: true at every row of scalars and every style.
-/
import Derived.Test.YtjfkiomegacpeaaDoorJwr
namespace Go.Proofs.YtjfkiomegacpeaaDoor
open Go.RowKit
theorem u8n (n : Nat) (h : n < 256) : (UInt8.ofNat n).toNat = n := by simp [UInt8.toNat_ofNat', Nat.mod_eq_of_lt h]
theorem dec_enc2 (r : Nat) (l : List UInt8) (h1 : 128 ≤ r) (h2 : r < 2048) : Lib.decodeL (UInt8.ofNat (192 + r / 64) :: UInt8.ofNat (128 + r % 64) :: l) = (r, 2) := by
  rw [Lib.decodeL_N]
  simp only [List.getD_cons_zero, List.getD_cons_succ, List.length_cons]
  rw [u8n _ (by omega), u8n _ (by omega)]
  unfold Lib.decodeN
  rw [if_neg (by omega), if_pos (by omega), if_pos (by omega)]
  congr 1
  omega
theorem dec_enc3 (r : Nat) (l : List UInt8) (h1 : 2048 ≤ r) (h2 : r < 65536) (h3 : r < 55296 ∨ 57343 < r) : Lib.decodeL (UInt8.ofNat (224 + r / 4096) :: UInt8.ofNat (128 + r / 64 % 64) :: UInt8.ofNat (128 + r % 64) :: l) = (r, 3) := by
  rw [Lib.decodeL_N]
  simp only [List.getD_cons_zero, List.getD_cons_succ, List.length_cons]
  rw [u8n _ (by omega), u8n _ (by omega), u8n _ (by omega)]
  have e : (224 + r / 4096) % 16 * 4096 + (128 + r / 64 % 64) % 64 * 64 + (128 + r % 64) % 64 = r := by omega
  unfold Lib.decodeN
  rw [if_neg (by omega), if_neg (by omega), if_pos (by omega), e, if_pos (by omega)]
theorem dec_enc4 (r : Nat) (l : List UInt8) (h1 : 65536 ≤ r) (h2 : r ≤ 1114111) : Lib.decodeL (UInt8.ofNat (240 + r / 262144) :: UInt8.ofNat (128 + r / 4096 % 64) :: UInt8.ofNat (128 + r / 64 % 64) :: UInt8.ofNat (128 + r % 64) :: l) = (r, 4) := by
  rw [Lib.decodeL_N]
  simp only [List.getD_cons_zero, List.getD_cons_succ, List.length_cons]
  rw [u8n _ (by omega), u8n _ (by omega), u8n _ (by omega), u8n _ (by omega)]
  have e : (240 + r / 262144) % 8 * 262144 + (128 + r / 4096 % 64) % 64 * 4096 + (128 + r / 64 % 64) % 64 * 64 + (128 + r % 64) % 64 = r := by omega
  unfold Lib.decodeN
  rw [if_neg (by omega), if_neg (by omega), if_neg (by omega), if_pos (by omega), e, if_pos (by omega)]
theorem snd_enc (r : Nat) (hr : Jsn.scalar r) (l : List UInt8) : Snd (Jsn.enc r ++ l) ↔ Snd l := by
  obtain ⟨h1, h2⟩ := hr
  unfold Jsn.enc
  by_cases c1 : r < 128
  · rw [if_pos c1]
    exact snd_ascii _ (by rw [u8n _ (by omega)]; exact c1) l
  · rw [if_neg c1]
    by_cases c2 : r < 2048
    · rw [if_pos c2]
      have := dec_enc2 r l (by omega) c2
      simp only [List.cons_append, List.nil_append]
      rw [snd_cons _ (by simp), this]
      exact ⟨fun h => h.2, fun h => ⟨fun e => by simp at e, h⟩⟩
    · rw [if_neg c2]
      by_cases c3 : r < 65536
      · rw [if_pos c3]
        have := dec_enc3 r l (by omega) c3 h1
        simp only [List.cons_append, List.nil_append]
        rw [snd_cons _ (by simp), this]
        exact ⟨fun h => h.2, fun h => ⟨fun e => by simp at e, h⟩⟩
      · rw [if_neg c3]
        have := dec_enc4 r l (by omega) h2
        simp only [List.cons_append, List.nil_append]
        rw [snd_cons _ (by simp), this]
        exact ⟨fun h => h.2, fun h => ⟨fun e => by simp at e, h⟩⟩
theorem snd_low : ∀ (a l : List UInt8), (∀ c ∈ a, c.toNat < 128) → (Snd (a ++ l) ↔ Snd l)
  | [], _, _ => Iff.rfl
  | c :: a, l, h => by
    rw [List.cons_append, snd_ascii c (h c List.mem_cons_self)]
    exact snd_low a l (fun d hd => h d (List.mem_cons_of_mem _ hd))
theorem hex4_low (up : Bool) (n : Nat) : ∀ c ∈ Jsn.hex4 up n, c.toNat < 128 := by
  have h : ∀ up : Bool, ∀ d, d < 16 → (Jsn.hexd up d).toNat < 128 := by decide
  intro c hc
  unfold Jsn.hex4 at hc
  simp only [List.mem_cons, List.not_mem_nil, or_false] at hc
  rcases hc with rfl | rfl | rfl | rfl
  all_goals exact h up _ (Nat.mod_lt _ (by decide))
theorem snd_wr (r how : Nat) (hr : Jsn.scalar r) (l : List UInt8) : Snd (Jsn.wr r how ++ l) ↔ Snd l := by
  unfold Jsn.wr
  split
  · exact snd_enc r hr l
  · split
    · exact snd_low _ l (by decide)
    · split
      · rw [List.cons_append, snd_ascii 92 (by decide)]
        exact snd_enc r hr l
      · split
        · refine snd_low _ l (fun c hc => ?_)
          simp only [List.cons_append, List.nil_append, List.mem_cons, List.mem_append] at hc
          rcases hc with rfl | rfl | hc | rfl | rfl | hc
          all_goals first | decide | exact hex4_low _ _ _ hc
        · refine snd_low _ l (fun c hc => ?_)
          simp only [List.cons_append, List.nil_append, List.mem_cons] at hc
          rcases hc with rfl | rfl | hc
          all_goals first | decide | exact hex4_low _ _ _ hc
theorem snd_wrs : ∀ (L : List (Nat × Nat)) (l : List UInt8), (∀ x ∈ L, Jsn.scalar x.1) → (Snd (Jsn.wrs L ++ l) ↔ Snd l)
  | [], _, _ => Iff.rfl
  | x :: L, l, h => by
    have e : Jsn.wrs (x :: L) = Jsn.wr x.1 x.2 ++ Jsn.wrs L := List.flatMap_cons
    rw [e, List.append_assoc, snd_wr _ _ (h x List.mem_cons_self)]
    exact snd_wrs L l (fun y hy => h y (List.mem_cons_of_mem _ hy))
theorem pairs_scal (rs st : List Nat) (h : ∀ r ∈ rs, Jsn.scalar r) : ∀ x ∈ pairs rs st, Jsn.scalar x.1 := by
  intro x hx
  unfold pairs at hx
  obtain ⟨i, hi, rfl⟩ := List.mem_map.1 hx
  rw [List.mem_range] at hi
  simp only
  rw [List.getD_eq_getElem?_getD, List.getElem?_eq_getElem hi]
  exact h _ (List.getElem_mem _)
theorem pairs_encs (rs st : List Nat) : Jsn.encs (pairs rs st) = rs.flatMap Jsn.enc := by
  have h : (pairs rs st).map (·.1) = rs := by
    apply List.ext_getElem
    · rw [List.length_map, pairs_len]
    · intro i h1 h2
      rw [List.getElem_map]
      unfold pairs
      rw [List.getElem_map, List.getElem_range]
      simp only
      rw [List.getD_eq_getElem?_getD, List.getElem?_eq_getElem h2]
      rfl
  unfold Jsn.encs
  conv => rhs; rw [← h, List.flatMap_map]
theorem out_texts (rs st : List Nat) (h : ∀ r ∈ rs, Jsn.scalar r) : outOf (34 :: (Jsn.wrs (pairs rs st) ++ [34])) = ⟨[⟨2, 0, (Jsn.wrs (pairs rs st)).length + 2, rs.flatMap Jsn.enc⟩], [], 0, 0⟩ := by
  have hs := pairs_scal rs st h
  refine outOf_mk ?_ ?_
  · rw [snd_ascii 34 (by decide), snd_wrs _ _ hs]
    rfl
  · rw [Jsn.scan_wrs _ hs, pairs_encs]
end Go.Proofs.YtjfkiomegacpeaaDoor
