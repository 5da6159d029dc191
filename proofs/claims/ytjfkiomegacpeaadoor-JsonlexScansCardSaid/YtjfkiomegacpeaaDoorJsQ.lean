/-
  Runes of sound text and the rest of a JSON string.
-/
import Derived.Test.YtjfkiomegacpeaaDoorBldJ
import Derived.Test.YtjfkiomegacpeaaDoorJsG
import Derived.Test.YtjfkiomegacpeaaDoorUtf
import Derived.Lib.QuoteLoop
import Derived.Lib.MapLaws
namespace Jsn
theorem quo_step (f a : Nat) (out : List UInt8) (c : UInt8) (r : List UInt8) (hf : (c :: r).length ≤ f) : quo f a out (c :: r) =
    if c == 34 then .ok out (a + 1)
    else if c < 32 then .bad 4 a
    else if c == 92 then match escape (c :: r) with
      | .ok x n => quo f (a + n) (out ++ enc x) ((c :: r).drop n)
      | .bad e => .bad e a
    else quo f (a + 1) (out ++ [c]) r := by
  rw [List.length_cons] at hf
  obtain ⟨f, rfl⟩ : ∃ f', f = f' + 1 := ⟨f - 1, by omega⟩
  conv => lhs; unfold quo
  split
  · rfl
  · split
    · rfl
    · split
      · rename_i h92
        cases he : escape (c :: r) with
        | ok x m =>
          simp only
          have hb := escape_bd (c :: r) (by rw [beq_iff_eq] at h92; simp [h92]) x m he
          rw [List.length_cons] at hb
          exact quo_fuel f (f + 1) _ _ _ (by rw [List.length_drop, List.length_cons]; omega) (by rw [List.length_drop, List.length_cons]; omega)
        | bad e => rfl
      · exact quo_fuel f (f + 1) _ _ _ (by omega) (by omega)
theorem escape_code (l : List UInt8) (e : Nat) (h : escape l = .bad e) : e = 4 ∨ e = 11 := by
  unfold escape at h
  repeat' split at h
  all_goals first
    | (simp only [Esc.bad.injEq] at h; omega)
    | simp at h
theorem quo_high (f : Nat) (rest : List UInt8) : ∀ (bytes : List UInt8) (a : Nat) (out : List UInt8), (∀ c ∈ bytes, 128 ≤ c.toNat) → (bytes ++ rest).length ≤ f → quo f a out (bytes ++ rest) = quo f (a + bytes.length) (out ++ bytes) rest
  | [], a, out, _, _ => by simp
  | c :: b, a, out, hb, hf => by
    have hc := hb c (by simp)
    have n1 : (c == 34) = false := beq_eq_false_iff_ne.2 (by rintro rfl; exact absurd hc (by decide))
    have n2 : ¬ c < 32 := by rw [UInt8.lt_iff_toNat_lt]; show ¬ c.toNat < 32; omega
    have n3 : (c == 92) = false := beq_eq_false_iff_ne.2 (by rintro rfl; exact absurd hc (by decide))
    rw [List.cons_append, quo_step f a out c (b ++ rest) hf, n1, n3, if_neg n2]
    simp only [Bool.false_eq_true, if_false]
    rw [quo_high f rest b (a + 1) (out ++ [c]) (fun d hd => hb d (by simp [hd])) (by simp only [List.cons_append, List.length_cons] at hf; omega)]
    simp [Nat.add_assoc, Nat.add_comm 1]
theorem enc_high (R : Nat) (h1 : 128 ≤ R) (h2 : R ≤ 1114111) : ∀ c ∈ enc R, 128 ≤ c.toNat := by
  have e : ∀ n, n < 256 → (UInt8.ofNat n).toNat = n := fun n h => by simp [UInt8.toNat_ofNat', Nat.mod_eq_of_lt h]
  unfold enc
  rw [if_neg (by omega)]
  intro c hc
  split at hc
  · simp only [List.mem_cons, List.not_mem_nil, or_false] at hc
    rcases hc with rfl | rfl <;> rw [e _ (by omega)] <;> omega
  · split at hc
    · simp only [List.mem_cons, List.not_mem_nil, or_false] at hc
      rcases hc with rfl | rfl | rfl <;> rw [e _ (by omega)] <;> omega
    · simp only [List.mem_cons, List.not_mem_nil, or_false] at hc
      rcases hc with rfl | rfl | rfl | rfl <;> rw [e _ (by omega)] <;> omega
end Jsn
namespace Go.Proofs.YtjfkiomegacpeaaDoor
open Go.RowKit
theorem rune_scal (l : List UInt8) : ((Lib.decodeL l).1 < 55296 ∨ 57343 < (Lib.decodeL l).1) ∧ (Lib.decodeL l).1 ≤ 1114111 := by
  have h := Lib.rune_valid (⟨l.toArray⟩ : ByteArray)
  have e := Lib.decodeL_drop (⟨l.toArray⟩ : ByteArray) 0
  rw [List.drop_zero] at e
  rw [← e] at h
  unfold Lib.validRune at h
  have h := of_decide_eq_true h
  have h2 : (⟨l.toArray⟩ : ByteArray).data.toList = l := rfl
  rw [h2] at h
  omega
theorem byteVals_inj {a b : List UInt8} (h : byteVals a = byteVals b) : a = b := by
  unfold byteVals at h
  refine List.map_inj_right (fun x y hxy => ?_) |>.1 h
  simp only [Value.int.injEq, true_and] at hxy
  exact UInt8.toNat_inj.1 (by omega)
theorem rune_enc (l : List UInt8) (hne : l ≠ []) (hv : ¬ ((Lib.decodeL l).1 = 65533 ∧ (Lib.decodeL l).2 = 1)) : Jsn.enc (Lib.decodeL l).1 = l.take (Lib.decodeL l).2 := by
  have h := Lib.encode_decode l hne hv
  have hs := rune_scal l
  refine byteVals_inj ?_
  rw [← rune_cells _ hs.1 hs.2, ← h, ← Lib.byteCells_encodeRune]
  rfl
theorem rune_len (l : List UInt8) (hne : l ≠ []) (hv : ¬ ((Lib.decodeL l).1 = 65533 ∧ (Lib.decodeL l).2 = 1)) : Lib.runeLen ((Lib.decodeL l).1 : Int) = ((Lib.decodeL l).2 : Int) := by
  by_cases h : (Lib.decodeL l).1 = 65533
  · have he := rune_enc l hne hv
    have hw := decodeL_wid l hne
    have h3 := congrArg List.length he
    rw [h, List.length_take, Nat.min_eq_left hw.2] at h3
    rw [h, ← h3]
    rfl
  · exact Lib.runeLen_decode l h
/-- A rune that is not ASCII: its bytes are high. -/
theorem rune_high (c : UInt8) (r : List UInt8) (hc : 128 ≤ c.toNat) (hv : ¬ ((Lib.decodeL (c :: r)).1 = 65533 ∧ (Lib.decodeL (c :: r)).2 = 1)) : 128 ≤ (Lib.decodeL (c :: r)).1 ∧ ∀ d ∈ (c :: r).take (Lib.decodeL (c :: r)).2, 128 ≤ d.toNat := by
  have he := rune_enc (c :: r) (by simp) hv
  have hs := rune_scal (c :: r)
  have hw := decodeL_wid (c :: r) (by simp)
  have h1 : 128 ≤ (Lib.decodeL (c :: r)).1 := by
    by_cases h : 128 ≤ (Lib.decodeL (c :: r)).1
    · exact h
    · exfalso
      have e1 : Jsn.enc (Lib.decodeL (c :: r)).1 = [UInt8.ofNat (Lib.decodeL (c :: r)).1] := by unfold Jsn.enc; rw [if_pos (by omega)]
      rw [e1] at he
      obtain ⟨k, hk⟩ : ∃ k, (Lib.decodeL (c :: r)).2 = k + 1 := ⟨(Lib.decodeL (c :: r)).2 - 1, by omega⟩
      rw [hk, List.take_succ_cons] at he
      injection he with he _
      have h9 := u8_ofNat (Lib.decodeL (c :: r)).1 (by omega)
      have : c.toNat = (Lib.decodeL (c :: r)).1 := (congrArg UInt8.toNat he).symm.trans h9
      omega
  refine ⟨h1, ?_⟩
  rw [← he]
  exact Jsn.enc_high _ h1 hs.2
theorem decodeL_one (c : UInt8) (hc : c.toNat < 128) (r : List UInt8) : Lib.decodeL (c :: r) = (c.toNat, 1) := by
  rw [Lib.decodeL_N]
  simp [Lib.decodeN, hc]
theorem quo_rune (f a : Nat) (out : List UInt8) (c : UInt8) (r : List UInt8) (hf : (c :: r).length ≤ f) (hv : ¬ ((Lib.decodeL (c :: r)).1 = 65533 ∧ (Lib.decodeL (c :: r)).2 = 1)) (h1 : c ≠ 34) (h2 : ¬ c < 32) (h3 : c ≠ 92) :
    Jsn.quo f a out (c :: r) = Jsn.quo f (a + (Lib.decodeL (c :: r)).2) (out ++ Jsn.enc (Lib.decodeL (c :: r)).1) ((c :: r).drop (Lib.decodeL (c :: r)).2) ∧ 32 ≤ (Lib.decodeL (c :: r)).1 ∧ (Lib.decodeL (c :: r)).1 ≠ 34 ∧ (Lib.decodeL (c :: r)).1 ≠ 92 := by
  by_cases hc : c.toNat < 128
  · rw [decodeL_one c hc r]
    simp only
    refine ⟨?_, ?_, ?_, ?_⟩
    · have e : Jsn.enc c.toNat = [c] := by unfold Jsn.enc; rw [if_pos hc, UInt8.ofNat_toNat]
      rw [e, Jsn.quo_step f a out c r hf, beq_eq_false_iff_ne.2 h1, beq_eq_false_iff_ne.2 h3, if_neg h2]
      rfl
    · rw [UInt8.lt_iff_toNat_lt] at h2
      have : ¬ c.toNat < 32 := h2
      omega
    · exact fun e => h1 (UInt8.toNat_inj.1 e)
    · exact fun e => h3 (UInt8.toNat_inj.1 e)
  · have hh := rune_high c r (by omega) hv
    have hw := decodeL_wid (c :: r) (by simp)
    refine ⟨?_, by omega, by omega, by omega⟩
    rw [rune_enc (c :: r) (by simp) hv]
    have e : c :: r = (c :: r).take (Lib.decodeL (c :: r)).2 ++ (c :: r).drop (Lib.decodeL (c :: r)).2 := (List.take_append_drop _ _).symm
    generalize (Lib.decodeL (c :: r)).2 = K at *
    have hq := Jsn.quo_high f ((c :: r).drop K) ((c :: r).take K) a out hh.2 (by rw [← e]; exact hf)
    rw [← e, List.length_take, Nat.min_eq_left hw.2] at hq
    exact hq
theorem Bld.keep {w w' : World} {base b : Nat} {l : List UInt8} (h : Bld w base b l) (hb : Below w.heap.size w w') : Bld w' base b l := by
  obtain ⟨hB, p, v, hp, hk, hown⟩ := h
  exact ⟨hB, p, v, hp, hk.below hb hk.lt, hown.below hb fun k hk => (World.ownsRow.lt hown k hk).2⟩
def RetU (w : World) : Jsn.Q → Go.Ending → World → Prop
  | .ok t n, e, w' => e = .returned (.tuple #[.string ⟨t.toArray⟩, .int .i64 (n : Int), .int .i64 0]) ∧ Below w.heap.size w w'
  | .bad c n, e, w' => e = .returned (.tuple #[.string ⟨#[]⟩, .int .i64 (n : Int), .int .i64 (c : Int)]) ∧ Below w.heap.size w w'
theorem RetU.okI {w w' : World} {t : List UInt8} {n : Nat} {N : Int} (hn : N = n) (hb : Below w.heap.size w w') : RetU w (.ok t n) (.returned (.tuple #[.string ⟨t.toArray⟩, .int .i64 N, .int .i64 0])) w' := by
  subst hn; exact ⟨rfl, hb⟩
theorem RetU.badI {w w' : World} {c n : Nat} {C N : Int} (hc : C = c) (hn : N = n) (hb : Below w.heap.size w w') : RetU w (.bad c n) (.returned (.tuple #[.string ⟨#[]⟩, .int .i64 N, .int .i64 C])) w' := by
  subst hc hn; exact ⟨rfl, hb⟩
/-- A builder stays one while an iterator moves on. -/
theorem Bld.iterAt {w : World} {base b : Nat} {l : List UInt8} (h : Bld w base b l) {k : Nat} {s : ByteArray} {pos : Nat} (hk : w.heap[k]? = some (.stringIter s pos)) (pos' : Nat) : Bld (w.iterAt k s pos') base b l := by
  obtain ⟨hB, p, v, hp, hb, hown⟩ := h
  have hne : b ≠ k := by
    rintro rfl
    unfold Blk at hb
    rw [hb] at hk
    simp at hk
  refine ⟨hB, p, v, hp, ?_, hown.1, ?_⟩
  · unfold Blk at *
    rw [Lib.iterAt_other w k b s pos' hne]
    exact hb
  · rcases hown.2 with hn | ⟨g, cap, cur, rfl, hbg, hg, r⟩
    · exact Or.inl hn
    · refine Or.inr ⟨g, cap, cur, rfl, hbg, ?_, r⟩
      have hgk : g ≠ k := by
        rintro rfl
        rw [hg] at hk
        simp at hk
      rw [Lib.iterAt_other w k g s pos' hgk]
      exact hg
end Go.Proofs.YtjfkiomegacpeaaDoor
