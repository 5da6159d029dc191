/-
  The law's own comparison of tokens, at equal lists.
-/
import Derived.Test.YtdhbljbfjdlcdaaDoorScan2
namespace Go.Proofs.YtdhbljbfjdlcdaaDoor
open Go.RowKit
/-- v is a slice of n elements of 'size' cells each that reads as xs. -/
def RowR (w : World) (size : Nat) (v : Value) (n : Nat) (xs : List Value) : Prop := ∃ ao cap, v = .slice ao n cap ∧ n ≤ cap ∧ (0 < n → ∃ g, ao = some ⟨g, 0, none⟩ ∧ ∀ k, k < n * size → w.cell? ⟨g, k, none⟩ = xs[k]?)
theorem row_form {w : World} {base n size : Nat} {e : TypeId} {v : Value} {xs : List Value} (h : w.ownsRow base e size v n xs) : RowR w size v n xs := by
  have hh := h
  rcases h.2 with ⟨hv, h0⟩ | ⟨g, cap, cur, hv, hbg, hg, hnc, r⟩
  · subst h0
    exact ⟨none, 0, hv, Nat.le_refl _, fun h => absurd h (Nat.lt_irrefl 0)⟩
  · subst hv
    exact ⟨some ⟨g, 0, none⟩, cap, rfl, hnc, fun _ => ⟨g, rfl, fun k hk => World.ownsRow.cellAt hh k hk⟩⟩
theorem flat_get {α : Type} (f : α → List Value) (m : Nat) (hf : ∀ a, (f a).length = m) : ∀ (l : List α) (i j : Nat) (a : α), l[i]? = some a → j < m → (l.flatMap f)[i * m + j]? = (f a)[j]?
  | [], i, j, a, h, _ => by simp at h
  | b :: l, 0, j, a, h, hj => by
    simp at h
    subst h
    rw [List.flatMap_cons, Nat.zero_mul, Nat.zero_add, List.getElem?_append_left (by rw [hf]; exact hj)]
  | b :: l, i + 1, j, a, h, hj => by
    rw [List.flatMap_cons, List.getElem?_append_right (by rw [hf, Nat.succ_mul]; omega), hf]
    have e : (i + 1) * m + j - m = i * m + j := by rw [Nat.succ_mul]; omega
    rw [e]
    exact flat_get f m hf l i j a (by simpa using h) hj
theorem tokCells_len (t : Tom.T) : (tokCells t).length = 4 := rfl
theorem noteCells_len (t : Tom.Note) : (noteCells t).length = 3 := rfl
set_option maxRecDepth 100000 in
set_option maxHeartbeats 4000000 in
theorem same_yes (w : World) (v1 v2 : Value) (ts : List Tom.T) (h1 : RowR w 4 v1 ts.length (ts.flatMap tokCells)) (h2 : RowR w 4 v2 ts.length (ts.flatMap tokCells)) (hl : ts.length ≤ 1099511627) :
    Calls Tryd.prog 11 #[v1, v2] w fun e w' => e = .returned (.bool true) ∧ Below w.heap.size w w' := by
  obtain ⟨a1, c1, rfl, hc1, F1⟩ := h1
  obtain ⟨a2, c2, rfl, hc2, F2⟩ := h2
  have hget := fun i j (t : Tom.T) (h : ts[i]? = some t) (hj : j < 4) => flat_get tokCells 4 tokCells_len ts i j t h hj
  obtain ⟨n, hn⟩ : ∃ n, n = ts.length := ⟨_, rfl⟩
  rw [← hn] at hc1 hc2 F1 F2 hl ⊢
  have hex : ∀ i, i < n → ∃ t, ts[i]? = some t := fun i hi => ⟨_, List.getElem?_eq_getElem (by omega)⟩
  have HG := Lib.hid hget
  have HX := Lib.hid hex
  have HF1 := Lib.hid F1
  have HF2 := Lib.hid F2
  clear hget hex F1 F2 hn
  go_enter Tryd.func11, Tryd.ntmps11
  go_wp2
  go_loopg [13] n (fun g i wr => ∃ k : Nat, k + g = n ∧ i = .int .i64 k ∧ ∃ q, wr = w.drewN q)
  case atStart => exact ⟨0, by omega, rfl, 0, rfl⟩
  case round =>
    obtain ⟨k, hg, rfl, q, rfl⟩ := hrel
    by_cases hk : k < n
    · obtain ⟨ga, rfl, G1⟩ := HF1.out (by omega)
      obtain ⟨gb, rfl, G2⟩ := HF2.out (by omega)
      obtain ⟨t, ht⟩ := HX.out k hk
      have e0 := HG.out k 0 t ht (by omega)
      have e1 := HG.out k 1 t ht (by omega)
      have e2 := HG.out k 2 t ht (by omega)
      have e3 := HG.out k 3 t ht (by omega)
      have a0 := (G1 (k * 4 + 0) (by omega)).trans e0
      have a1 := (G1 (k * 4 + 1) (by omega)).trans e1
      have a2 := (G1 (k * 4 + 2) (by omega)).trans e2
      have a3 := (G1 (k * 4 + 3) (by omega)).trans e3
      have b0 := (G2 (k * 4 + 0) (by omega)).trans e0
      have b1 := (G2 (k * 4 + 1) (by omega)).trans e1
      have b2 := (G2 (k * 4 + 2) (by omega)).trans e2
      have b3 := (G2 (k * 4 + 3) (by omega)).trans e3
      clear e0 e1 e2 e3 G1 G2 HF1 HF2 HG ht
      simp only [tokCells, List.getElem?_cons_zero, List.getElem?_cons_succ, Nat.add_zero] at a0 a1 a2 a3 b0 b1 b2 b3
      go_wp2
      go_quiet (fail)
      go_wp2
      go_roundg (n - (k + 1))
      case measure => omega
      case rel => exact ⟨k + 1, by omega, by go_num, _, rfl⟩
    · go_wp2
      go_ret
      exact ⟨rfl, drewN_below (Below.refl _ _) _⟩
set_option maxRecDepth 100000 in
set_option maxHeartbeats 4000000 in
theorem notes_yes (w : World) (v1 v2 : Value) (ts : List Tom.Note) (h1 : RowR w 3 v1 ts.length (ts.flatMap noteCells)) (h2 : RowR w 3 v2 ts.length (ts.flatMap noteCells)) (hl : ts.length ≤ 1099511627) :
    Calls Tryd.prog 12 #[v1, v2] w fun e w' => e = .returned (.bool true) ∧ Below w.heap.size w w' := by
  obtain ⟨a1, c1, rfl, hc1, F1⟩ := h1
  obtain ⟨a2, c2, rfl, hc2, F2⟩ := h2
  have hget := fun i j (t : Tom.Note) (h : ts[i]? = some t) (hj : j < 3) => flat_get noteCells 3 noteCells_len ts i j t h hj
  obtain ⟨n, hn⟩ : ∃ n, n = ts.length := ⟨_, rfl⟩
  rw [← hn] at hc1 hc2 F1 F2 hl ⊢
  have hex : ∀ i, i < n → ∃ t, ts[i]? = some t := fun i hi => ⟨_, List.getElem?_eq_getElem (by omega)⟩
  have HG := Lib.hid hget
  have HX := Lib.hid hex
  have HF1 := Lib.hid F1
  have HF2 := Lib.hid F2
  clear hget hex F1 F2 hn
  go_enter Tryd.func12, Tryd.ntmps12
  go_wp2
  go_loopg [13] n (fun g i wr => ∃ k : Nat, k + g = n ∧ i = .int .i64 k ∧ ∃ q, wr = w.drewN q)
  case atStart => exact ⟨0, by omega, rfl, 0, rfl⟩
  case round =>
    obtain ⟨k, hg, rfl, q, rfl⟩ := hrel
    by_cases hk : k < n
    · obtain ⟨ga, rfl, G1⟩ := HF1.out (by omega)
      obtain ⟨gb, rfl, G2⟩ := HF2.out (by omega)
      obtain ⟨t, ht⟩ := HX.out k hk
      have e0 := HG.out k 0 t ht (by omega)
      have e1 := HG.out k 1 t ht (by omega)
      have e2 := HG.out k 2 t ht (by omega)
      have a0 := (G1 (k * 3 + 0) (by omega)).trans e0
      have a1 := (G1 (k * 3 + 1) (by omega)).trans e1
      have a2 := (G1 (k * 3 + 2) (by omega)).trans e2
      have b0 := (G2 (k * 3 + 0) (by omega)).trans e0
      have b1 := (G2 (k * 3 + 1) (by omega)).trans e1
      have b2 := (G2 (k * 3 + 2) (by omega)).trans e2
      clear e0 e1 e2 G1 G2 HF1 HF2 HG ht
      simp only [noteCells, List.getElem?_cons_zero, List.getElem?_cons_succ, Nat.add_zero] at a0 a1 a2 b0 b1 b2
      go_wp2
      go_quiet (fail)
      go_wp2
      go_roundg (n - (k + 1))
      case measure => omega
      case rel => exact ⟨k + 1, by omega, by go_num, _, rfl⟩
    · go_wp2
      go_ret
      exact ⟨rfl, drewN_below (Below.refl _ _) _⟩
end Go.Proofs.YtdhbljbfjdlcdaaDoor
