/-
  A slice of integers that came in, as the walks take it.
-/
import Derived.Test.YtjfkiomegacpeaaDoorJwr
import Derived.SliceStrings
import Derived.OpenShut
namespace Go.Proofs.YtjfkiomegacpeaaDoor
open Go.ChangeShapes Go.WideShapes Go.RowKit
theorem open_intsR {H : Type} {enc : TypeId × Value → H} {P : Program} {W : World} {base : Nat} {t e : TypeId} {k : IntKind} {v : Value} {d : DataW H} {p : List MemPlace}
    (ht : P.underlying t = some (.slice e)) (he : P.underlying e = some (.int k)) (hc : P.cellsOf e = 1) (hval : Value.okWide P W .any base t v) (h : DataW.Trod enc P W 0 (fun _ => true) true t v d p) :
    ∃ l : List Int, IntsR W k v l ∧ (∀ n ∈ l, (Lit.int k n).wf = true) ∧ (l = [] ∨ ∃ sp, d = .slice (lits k l) sp) := by
  obtain ⟨a0, len0, cap0, rfl⟩ := okWide_slice ht hval
  obtain ⟨fuel, hf⟩ := h
  rcases open_ints ht he hc hf with ⟨hcs, hx⟩ | ⟨x, len, cap, zs, hcs, _, hl, hm, hz, hx, hcell, hws⟩
  · simp [Value.cells] at hcs
    obtain ⟨rfl, rfl, rfl⟩ := hcs
    exact ⟨[], ⟨none, 0, rfl, Nat.le_refl _, fun h => absurd rfl h⟩, by simp, .inl rfl⟩
  · simp [Value.cells] at hcs
    obtain ⟨rfl, rfl, rfl⟩ := hcs
    have hlen : len0 ≤ zs.length := by rw [hz]; split <;> omega
    have e1 : (zs.take len0).length = len0 := by rw [List.length_take, Nat.min_eq_left hlen]
    have hd : d = .slice (lits k (zs.take len0)) (lits k (zs.drop len0)) := congrArg Prod.fst hx
    refine ⟨zs.take len0, ⟨some x, cap0, by rw [e1], by rw [e1]; exact hl, fun hne => ?_⟩, fun n hn => hws n (List.mem_of_mem_take hn), .inr ⟨_, hd⟩⟩
    have h0 : 0 < zs.length := by
      cases zs with
      | nil => simp at hne
      | cons a l => simp
    have c0 := hcell 0 h0
    have ha0 : x.add 0 = x := by unfold Addr.add; split <;> simp_all
    rw [ha0] at c0
    obtain ⟨b, o, sp⟩ := x
    have hb : b < W.heap.size := by
      by_cases h : b < W.heap.size
      · exact h
      · have : W.heap[b]? = none := by simp; omega
        simp [World.cell?, this] at c0
    cases sp with
    | some k => exact absurd c0 (by unfold World.cell?; split <;> simp)
    | none =>
      refine ⟨b, o, rfl, hb, fun j s hs => ?_⟩
      obtain ⟨hj, hjs⟩ := List.getElem?_eq_some_iff.1 hs
      rw [e1] at hj
      have hadd : (⟨b, o, none⟩ : Addr).add j = ⟨b, o + j, none⟩ := by unfold Addr.add; split <;> simp_all
      rw [← hadd, hcell j (by omega)]
      rw [List.getElem_take] at hjs
      rw [List.getD_eq_getElem?_getD, List.getElem?_eq_getElem (by omega)]
      simp only [Option.getD_some, hjs]
theorem lits_len {H : Type} (k : IntKind) (l : List Int) : (lits (H := H) k l).length = l.length := by simp [lits]
end Go.Proofs.YtjfkiomegacpeaaDoor
