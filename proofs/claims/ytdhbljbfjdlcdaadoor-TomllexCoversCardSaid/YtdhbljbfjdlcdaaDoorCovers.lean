/-
  TomllexCovers: true at every source.
-/
import Derived.Test.YtdhbljbfjdlcdaaDoorOut
import Derived.Test.YtdhbljbfjdlcdaaDoorSortC
import Derived.Test.YtdhbljbfjdlcdaaDoorTom8
import Derived.Shelf.Strings.SlTrimAscii
namespace Go.Proofs.YtdhbljbfjdlcdaaDoor
open Go.RowKit
def mk2 (x : Nat × Nat) : P2 := (⟨x.1 % 2048, Nat.mod_lt _ (by decide)⟩, ⟨x.2 % 2048, Nat.mod_lt _ (by decide)⟩)
def back2 (x : P2) : Nat × Nat := (x.1.val, x.2.val)
theorem back_mk (x : Nat × Nat) (h1 : x.1 < 2048) (h2 : x.2 < 2048) : back2 (mk2 x) = x := by
  unfold back2 mk2
  simp only [Nat.mod_eq_of_lt h1, Nat.mod_eq_of_lt h2]
theorem enc_mk (x : Nat × Nat) (h1 : x.1 < 2048) (h2 : x.2 < 2048) : enc2 (mk2 x) = [.int .i64 (x.1 : Int), .int .i64 (x.2 : Int)] := by
  unfold enc2 mk2
  simp only [Nat.mod_eq_of_lt h1, Nat.mod_eq_of_lt h2]
def OwnP (w : World) (base : Nat) (v : Value) (l : List P2) : Prop := w.ownsRow base 43 2 v l.length (l.flatMap enc2)
theorem OwnP.keep {w w' : World} {base : Nat} {v : Value} {l : List P2} (h : OwnP w base v l) (hb : Below w.heap.size w w') : w'.ownsRow base 43 2 v l.length (l.flatMap enc2) := OwnR.keep h hb
theorem OwnP.snoc {w : World} {base : Nat} {v : Value} {l : List P2} {x : P2} (h : w.ownsRow base 43 2 v (l.length + 1) (l.flatMap enc2 ++ enc2 x)) : OwnP w base v (l ++ [x]) := by
  unfold OwnP
  rw [List.length_append, List.flatMap_append]
  simpa using h
theorem pairRowE : ElemRow Tryd.prog 42 43 (.agg #[.int .i64 0, .int .i64 0]) 2 16 := ⟨Tryd.underlying42, by kernel_rfl, rfl, by decide⟩
theorem pair_ok (a b : Int) : ∀ u ∈ [Value.int .i64 a, .int .i64 b], u.oneCell' = true := by
  intro u hu
  simp only [List.mem_cons, List.not_mem_nil, or_false] at hu
  rcases hu with rfl | rfl <;> rfl
/-- Note k of a row. -/
theorem RowAt.note {w : World} {ao : Option Addr} {n : Nat} {ts : List Tom.Note} (h : RowAt w 3 ao n (ts.flatMap noteCells)) (k : Nat) (t : Tom.Note) (hk : k < n) (ht : ts[k]? = some t) : ∃ g, ao = some ⟨g, 0, none⟩ ∧ g < w.heap.size ∧ w.cell? ⟨g, k * 3, none⟩ = some (.int .i64 (t.frm : Int)) ∧ w.cell? ⟨g, k * 3 + 1, none⟩ = some (.int .i64 (t.to : Int)) ∧ w.cell? ⟨g, k * 3 + 2, none⟩ = some (.string ⟨t.text.toArray⟩) := by
  obtain ⟨g, h1, h2, h3⟩ := h (by omega)
  have e := fun j hj => flat_get noteCells 3 noteCells_len ts k j t ht hj
  exact ⟨g, h1, h2, (h3 (k * 3 + 0) (by omega)).trans (e 0 (by omega)), (h3 (k * 3 + 1) (by omega)).trans (e 1 (by omega)), (h3 (k * 3 + 2) (by omega)).trans (e 2 (by omega))⟩
theorem trim_blank (s : ByteArray) (a b : Nat) (h : Tom.blanks s.data.toList a b) (hb : b ≤ s.size) (w : World) (hs : s.size ≤ 1000) :
    Calls Tryd.prog 16 #[.string (s.extract a b), .string ⟨#[32, 9]⟩] w fun e w' => e = .returned (.string ⟨#[]⟩) ∧ Below w.heap.size w w' := by
  have hz : (s.extract a b).size ≤ s.size := by rw [ByteArray.size_extract]; omega
  have := Any.strings_Trim_laid Tryd.lays160 (by kernel_rfl) (s.extract a b) ⟨#[32, 9]⟩ w (by omega) (by decide) (by
    intro j b hb
    match j, hb with
    | 0, hb => cases hb; decide
    | 1, hb => cases hb; decide)
  refine this.mono ?_
  rintro e w' ⟨rfl, hbw⟩
  refine ⟨?_, hbw⟩
  have hl : (s.extract a b).data.toList = (s.data.toList.take b).drop a := by
    have := ext_part s a (b - a)
    by_cases hab : a ≤ b
    · rw [show a + (b - a) = b by omega] at this
      rw [this, List.take_drop, show a + (b - a) = b by omega]
    · have h0 : (s.extract a b).size = 0 := by rw [ByteArray.size_extract]; omega
      rw [← size_toList] at h0
      rw [List.eq_nil_of_length_eq_zero h0, List.drop_of_length_le (by rw [List.length_take, size_toList]; omega)]
  have ha : ∀ c ∈ (s.extract a b).data.toList, ([32, 9] : List UInt8).contains c = true := by
    intro c hc
    rw [hl] at hc
    have h2 := h c hc
    unfold Tom.blank at h2
    simp only [Bool.or_eq_true, beq_iff_eq] at h2
    rcases h2 with rfl | rfl <;> decide
  have hdw : ∀ l : List UInt8, (∀ c ∈ l, ([32, 9] : List UInt8).contains c = true) → l.dropWhile (([32, 9] : List UInt8).contains ·) = [] := by
    intro l
    induction l with
    | nil => intro _; rfl
    | cons a l ih =>
      intro h
      rw [List.dropWhile_cons, if_pos (h a (by simp))]
      exact ih fun c hc => h c (by simp [hc])
  have hall : ∀ l : List UInt8, (∀ c ∈ l, ([32, 9] : List UInt8).contains c = true) → Lib.trimS l [32, 9] = [] := by
    intro l hl
    have e1 : Lib.trimRightS l [32, 9] = [] := by
      unfold Lib.trimRightS
      rw [hdw _ (fun c hc => hl c (List.mem_reverse.1 hc))]
      rfl
    unfold Lib.trimS
    rw [e1]
    rfl
  rw [show (⟨#[32, 9]⟩ : ByteArray).data.toList = [32, 9] from rfl, hall _ ha]
/-- Spans from a place on, or the end. -/
def CovR (l : List UInt8) (a : Nat) (M : List (Nat × Nat)) : Prop := (M = [] ∧ a = l.length) ∨ Tom.Cov l a M
theorem cov_le (l : List UInt8) : ∀ (M : List (Nat × Nat)) (a : Nat), Tom.Cov l a M → a ≤ l.length
  | [], _, h => h.elim
  | [x], a, h => by have := h.1; have := h.2.1; omega
  | x :: y :: M, a, h => by
    have := cov_le l (y :: M) x.2 h.2.2.2
    have := h.1
    have := h.2.1
    omega
theorem cov_step {l : List UInt8} {a : Nat} {x : Nat × Nat} {M : List (Nat × Nat)} (h : CovR l a (x :: M)) : a ≤ x.1 ∧ x.1 ≤ x.2 ∧ x.2 ≤ l.length ∧ Tom.blanks l a x.1 ∧ CovR l x.2 M := by
  rcases h with ⟨h, _⟩ | h
  · simp at h
  · match M, h with
    | [], h => exact ⟨h.1, by have := h.2.1; have := h.2.2.1; omega, by have := h.2.2.1; omega, h.2.2.2, Or.inl ⟨rfl, h.2.2.1⟩⟩
    | y :: M, h => exact ⟨h.1, Nat.le_of_lt h.2.1, cov_le l _ _ h.2.2.2, h.2.2.1, Or.inr h.2.2.2⟩
theorem sorted_cell {w : World} {g : Nat} {d : Array P2} {M : List (Nat × Nat)} (h : Go.Sort.HoldsK enc2 2 w g 0 d) (hM : d.toList.map back2 = M) (i : Nat) (x : Nat × Nat) (hx : M[i]? = some x) : w.cell? ⟨g, i * 2, none⟩ = some (.int .i64 (x.1 : Int)) ∧ w.cell? ⟨g, i * 2 + 1, none⟩ = some (.int .i64 (x.2 : Int)) := by
  subst hM
  rw [List.getElem?_map] at hx
  have hi : i < d.size := by
    by_cases hi : i < d.size
    · exact hi
    · rw [List.getElem?_eq_none (by simpa using hi)] at hx
      simp at hx
  rw [List.getElem?_eq_getElem (by simpa using hi)] at hx
  simp only [Option.map_some, Option.some.injEq] at hx
  subst hx
  have := holds_cell h i hi
  simpa [back2] using this
end Go.Proofs.YtdhbljbfjdlcdaaDoor
