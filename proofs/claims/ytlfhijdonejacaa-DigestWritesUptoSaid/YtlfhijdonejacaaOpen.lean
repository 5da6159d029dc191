/-
  A slice of strings that came in, as the walks take it; its bulk.
-/
import Derived.Test.YtlfhijdonejacaaSha7
import Derived.Test.YtlfhijdonejacaaRows
import Derived.SliceStrings
namespace Go.Proofs.Ytlfhijdonejacaa
open Go.RowKit Go.ChangeShapes
theorem strRow_opened {W : World} {x : Addr} {len cap : Nat} {ss : List ByteArray} (hlen : len ≤ ss.length) (hl : len ≤ cap)
    (hcell : ∀ i, i < ss.length → W.cell? (x.add i) = some (.string (ss.getD i ByteArray.empty))) : StrRow W W.heap.size (.slice (some x) len cap) (ss.take len) := by
  have e : (ss.take len).length = len := by rw [List.length_take, Nat.min_eq_left hlen]
  refine ⟨some x, cap, by rw [e], by rw [e]; exact hl, fun hne => ?_⟩
  have h0 : 0 < ss.length := by
    cases ss with
    | nil => simp at hne
    | cons a l => simp
  have c0 : W.cell? x = some (.string (ss.getD 0 ByteArray.empty)) := hcell 0 h0
  obtain ⟨b, o, sp⟩ := x
  have hb : b < W.heap.size := by
    by_cases h : b < W.heap.size
    · exact h
    · have : W.heap[b]? = none := by simp; omega
      simp [World.cell?, this] at c0
  cases sp with
  | some k => exact absurd c0 (by unfold World.cell?; split <;> simp)
  | none =>
    refine ⟨b, o, rfl, hb, fun j s hs => ?_⟩
    obtain ⟨hj, hjs⟩ := List.getElem?_eq_some_iff.1 hs
    rw [e] at hj
    have hadd : (⟨b, o, none⟩ : Addr).add j = ⟨b, o + j, none⟩ := by unfold Addr.add; split <;> simp_all
    rw [← hadd, hcell j (by omega)]
    rw [List.getElem_take] at hjs
    rw [List.getD_eq_getElem?_getD, List.getElem?_eq_getElem (by omega)]
    simp only [Option.getD_some, hjs]
theorem bulk_part {H : Type} {d : DataW H} {l : List (DataW H)} (h : d ∈ l) : Rows.uptoBulk d ≤ Rows.uptoBulkAll l := by
  induction l with
  | nil => cases h
  | cons x r ih =>
    simp only [Rows.uptoBulkAll]
    rcases List.mem_cons.1 h with rfl | h
    · omega
    · have := ih h; omega
theorem bulk_strs {H : Type} (l : List ByteArray) : (catL l).length + l.length ≤ Rows.uptoBulkAll (strs (H := H) l) := by
  induction l with
  | nil => exact Nat.zero_le _
  | cons s l ih =>
    have e : strs (H := H) (s :: l) = .lit (.string s.data.toList) :: strs l := rfl
    have e2 : catL (s :: l) = s.data.toList ++ catL l := by simp [catL]
    rw [e, e2]
    simp only [Rows.uptoBulkAll, Rows.uptoBulk, List.length_append, List.length_cons]
    omega
theorem bulk_slice {H : Type} (l r : List (DataW H)) : Rows.uptoBulkAll l ≤ Rows.uptoBulk (.slice l r) := by
  simp only [Rows.uptoBulk]
  omega
theorem bulk_string {H : Type} (b : List UInt8) : b.length ≤ Rows.uptoBulk (DataW.lit (H := H) (.string b)) := by
  simp only [Rows.uptoBulk]
  omega
theorem bulk_bound {H : Type} {l : List (DataW H)} (hk : Rows.uptoSmall H l = true) : Rows.uptoBulkAll l ≤ 1048576 := of_decide_eq_true hk
end Go.Proofs.Ytlfhijdonejacaa
