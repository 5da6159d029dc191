/-
  tomllex.Scan at every source, in one form; the rows that it hands back, kept.
-/
import Derived.Test.YtdhbljbfjdlcdaaDoorAwake
import Derived.Test.YtdhbljbfjdlcdaaDoorTom4
import Derived.Test.YtdhbljbfjdlcdaaDoorUtf
namespace Go.Proofs.YtdhbljbfjdlcdaaDoor
open Go.RowKit
/-- What Scan answers: tokens, comments, the offset and the number of an error. -/
structure Out where
  toks : List Tom.T
  notes : List Tom.Note
  at_ : Nat
  code : Nat
def outOf (l : List UInt8) : Out :=
  match chk (l.length + 1) 0 l with
  | some p => ⟨[], [], p, 11⟩
  | none => match Tom.scan l with
    | .ok T N => ⟨T, N, 0, 0⟩
    | .bad n => ⟨[], [], n, 4⟩
def RetO (w : World) (o : Out) (e : Go.Ending) (w' : World) : Prop := (∃ tv nv, e = .returned (.tuple #[tv, nv, .int .i64 (o.at_ : Int), .int .i64 (o.code : Int)]) ∧ OwnTok w' w.heap.size tv o.toks ∧ OwnNote w' w.heap.size nv o.notes) ∧ Below w.heap.size w w'
theorem scan_out (s : ByteArray) (w : World) (hs : s.size ≤ 65536) (hT : Lib.Utf8Tabs (Tryd.lays197_ren.g 3) (Tryd.lays197_ren.g 4) w) :
    Calls Tryd.prog 9 #[.string s] w (RetO w (outOf s.data.toList)) := by
  unfold outOf
  rw [size_toList]
  cases h : chk (s.size + 1) 0 s.data.toList with
  | some p =>
    exact (scan_text s w hs hT p h).mono fun e w' ⟨he, hb⟩ => ⟨⟨_, _, he, World.ownsRow_nil _ _ _ _, World.ownsRow_nil _ _ _ _⟩, hb⟩
  | none =>
    have hg := scan_good s w hs hT h
    simp only
    cases h2 : Tom.scan s.data.toList with
    | ok T N =>
      rw [h2] at hg
      exact hg.mono fun e w' h => h
    | bad n =>
      rw [h2] at hg
      exact hg.mono fun e w' ⟨he, hb⟩ => ⟨⟨_, _, he, World.ownsRow_nil _ _ _ _, World.ownsRow_nil _ _ _ _⟩, hb⟩
theorem outOf_ok {l : List UInt8} (h : (outOf l).code = 0) : ∃ T N, Snd l ∧ Tom.scan l = .ok T N ∧ outOf l = ⟨T, N, 0, 0⟩ := by
  unfold outOf at *
  cases hc : chk (l.length + 1) 0 l with
  | some p => rw [hc] at h; simp at h
  | none =>
    rw [hc] at h
    simp only at h ⊢
    cases hs : Tom.scan l with
    | ok T N => exact ⟨T, N, hc, rfl, rfl⟩
    | bad n => rw [hs] at h; simp at h
theorem outOf_mk {l : List UInt8} {T : List Tom.T} {N : List Tom.Note} (h1 : Snd l) (h2 : Tom.scan l = .ok T N) : outOf l = ⟨T, N, 0, 0⟩ := by
  unfold outOf
  unfold Snd at h1
  rw [h1, h2]
/-- Rows that are read: the address, the number of elements, what stands there. -/
def RowAt (w : World) (size : Nat) (ao : Option Addr) (n : Nat) (xs : List Value) : Prop := 0 < n → ∃ g, ao = some ⟨g, 0, none⟩ ∧ g < w.heap.size ∧ ∀ k, k < n * size → w.cell? ⟨g, k, none⟩ = xs[k]?
theorem RowAt.keep {w w' : World} {size : Nat} {ao : Option Addr} {n : Nat} {xs : List Value} (h : RowAt w size ao n xs) (hb : Below w.heap.size w w') : RowAt w' size ao n xs := by
  intro hn
  obtain ⟨g, h1, h2, h3⟩ := h hn
  exact ⟨g, h1, Nat.lt_of_lt_of_le h2 hb.size, fun k hk => by rw [hb.cell (p := ⟨g, k, none⟩) h2]; exact h3 k hk⟩
theorem row_at {w : World} {base n size : Nat} {e : TypeId} {v : Value} {xs : List Value} (h : w.ownsRow base e size v n xs) : ∃ ao cap, v = .slice ao n cap ∧ n ≤ cap ∧ RowAt w size ao n xs := by
  have hh := h
  rcases h.2 with ⟨hv, h0⟩ | ⟨g, cap, cur, hv, hbg, hg, hnc, r⟩
  · subst h0
    exact ⟨none, 0, hv, Nat.le_refl _, fun h => absurd h (Nat.lt_irrefl 0)⟩
  · subst hv
    exact ⟨some ⟨g, 0, none⟩, cap, rfl, hnc, fun _ => ⟨g, rfl, (hh.lt g rfl).2, fun k hk => World.ownsRow.cellAt hh k hk⟩⟩
/-- Token k of a row. -/
theorem RowAt.tok {w : World} {ao : Option Addr} {n : Nat} {ts : List Tom.T} (h : RowAt w 4 ao n (ts.flatMap tokCells)) (k : Nat) (t : Tom.T) (hk : k < n) (ht : ts[k]? = some t) : ∃ g, ao = some ⟨g, 0, none⟩ ∧ g < w.heap.size ∧ w.cell? ⟨g, k * 4, none⟩ = some (.int .i64 (t.kind : Int)) ∧ w.cell? ⟨g, k * 4 + 1, none⟩ = some (.int .i64 (t.frm : Int)) ∧ w.cell? ⟨g, k * 4 + 2, none⟩ = some (.int .i64 (t.to : Int)) ∧ w.cell? ⟨g, k * 4 + 3, none⟩ = some (.string ⟨t.text.toArray⟩) := by
  obtain ⟨g, h1, h2, h3⟩ := h (by omega)
  have e := fun j hj => flat_get tokCells 4 tokCells_len ts k j t ht hj
  exact ⟨g, h1, h2, (h3 (k * 4 + 0) (by omega)).trans (e 0 (by omega)), (h3 (k * 4 + 1) (by omega)).trans (e 1 (by omega)), (h3 (k * 4 + 2) (by omega)).trans (e 2 (by omega)), (h3 (k * 4 + 3) (by omega)).trans (e 3 (by omega))⟩
end Go.Proofs.YtdhbljbfjdlcdaaDoor
