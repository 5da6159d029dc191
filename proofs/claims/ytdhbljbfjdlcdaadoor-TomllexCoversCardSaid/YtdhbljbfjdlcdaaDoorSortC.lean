/-
  slices.SortFunc over pairs of small numbers, by the first: its contract at this dump.
-/
import Derived.Test.YtdhbljbfjdlcdaaDoorSortL
import Derived.Test.YtdhbljbfjdlcdaaDoorSame
namespace Go.Proofs.YtdhbljbfjdlcdaaDoor
open Go.RowKit Go.Shelf
abbrev P2 := Fin 2048 × Fin 2048
def enc2 (x : P2) : List Value := [.int .i64 (x.1.val : Int), .int .i64 (x.2.val : Int)]
def cf2 (x y : P2) : Int := (x.1.val : Int) - y.1.val
theorem enc2_len (x : P2) : (enc2 x).length = 2 := rfl
set_option maxRecDepth 100000 in
set_option maxHeartbeats 4000000 in
theorem closure_go (a b c d : Nat) (ha : a < 2048) (hc : c < 2048) (W : World) : Calls Tryd.prog 15 #[.agg #[.int .i64 a, .int .i64 b], .agg #[.int .i64 c, .int .i64 d]] W fun e w' => e = .returned (.int .i64 ((a : Int) - c)) ∧ ∃ q os', w' = Go.Sort.grow (W.drewN q) os' := by
  go_enter Tryd.func15, Tryd.ntmps15
  go_wp2
  go_ret
  exact ⟨rfl, 0, _, by rw [Go.Sort.alloc_eq_grow, Go.Sort.alloc_eq_grow, Go.Sort.grow_grow]; rfl⟩
theorem closure2 (x y : P2) (W : World) : Calls Tryd.prog 15 #[.agg (enc2 x).toArray, .agg (enc2 y).toArray] W fun e w' => e = .returned (.int .i64 (cf2 x y)) ∧ ∃ q os', w' = Go.Sort.grow (W.drewN q) os' :=
  closure_go x.1.val x.2.val y.1.val y.2.val x.1.isLt y.1.isLt W
theorem lt2 (x y : P2) : Go.Proofs.ltOf cf2 x y = decide (x.1.val < y.1.val) := by
  unfold Go.Proofs.ltOf cf2
  by_cases h : x.1.val < y.1.val
  · rw [decide_eq_true h, decide_eq_true (by omega)]
  · rw [decide_eq_false h, decide_eq_false (by omega)]
theorem swo2 : Go.Sort.SWO (Go.Proofs.ltOf cf2) where
  irrefl x := by rw [lt2]; simp
  trans x y z h1 h2 := by rw [lt2] at *; simp at *; omega
  ntrans x y z h1 h2 := by rw [lt2] at *; simp at *; omega
theorem below_sorted {α : Type} [Inhabited α] {enc : α → List Value} {k B : Nat} {w : World} {blk off n : Nat} {dk : Array α} {os : Array Obj} (hB : B ≤ blk) (hw : B ≤ w.heap.size) : Below B w (Go.Proofs.sortWorldK enc k w blk off n dk os) := by
  refine ⟨rfl, rfl, rfl, Go.Proofs.size_sortWorldK_c enc k w blk off n dk os, ?_⟩
  intro i hi
  unfold Go.Proofs.sortWorldK Go.Sort.grow Go.Sort.putRowK Go.Sort.putRow Go.Sort.mapBlock Go.Sort.ahead
  show (w.heap.modify blk _ ++ os)[i]? = w.heap[i]?
  rw [Array.getElem?_append_left (by rw [Array.size_modify]; omega), Array.getElem?_modify, if_neg (by omega)]
set_option maxRecDepth 100000 in
theorem sort2 (w : World) (g cap : Nat) (d : Array P2) (hH : Go.Sort.HoldsK enc2 2 w g 0 d) (hg : g < w.heap.size) (hs : d.size < 4611686018427387904) :
    Calls Tryd.prog 14 #[.slice (some ⟨g, 0, none⟩) d.size cap, .func (.func 15) #[] #[]] w fun e w' =>
      e = .returned (.tuple #[]) ∧ ∃ d' : Array P2, d'.size = d.size ∧ d'.toList.Perm d.toList ∧ d'.toList.Pairwise (fun x y => x.1.val ≤ y.1.val) ∧ Go.Sort.HoldsK enc2 2 w' g 0 d' ∧ Below g w w' := by
  have eg : ∀ args w, (callFunc 15 args).run Tryd.prog w = .ok (.enter 15 args) w := enters_of Tryd.func15 (by kernel_rfl) rfl
  have hcon := Go.Proofs.AnyQ.slices_SortFunc Tryd.sortS 2 Tryd.isAgg43 Tryd.sizeOf43 enc2 enc2_len (fun x v hv => by simp [enc2] at hv; rcases hv with rfl | rfl <;> rfl) cf2 swo2 15 #[] g 0 cap d w eg (fun _ _ _ _ x y => closure2 x y _) hH hg hs
  change Calls Tryd.prog 14 _ _ _ at hcon
  refine hcon.mono ?_
  rintro e w' ⟨rfl, d', n, os, hp, hso, rfl⟩
  have hsz : d'.size = d.size := hp.1
  refine ⟨rfl, d', hsz, ?_, ?_, Go.Proofs.holdsK_sortWorldK_c enc2 2 w g 0 d d' n os hH hg hsz, below_sorted (Nat.le_refl _) (Nat.le_of_lt hg)⟩
  · have h := hp.2.2
    have e1 : d.extract 0 d.size = d := Array.extract_size
    have e2 : d'.extract 0 d.size = d' := by rw [← hsz]; exact Array.extract_size
    rwa [e1, e2] at h
  · rw [List.pairwise_iff_getElem]
    intro i j hi hj hij
    have h := hso i j (Nat.zero_le _) hij (by simpa [hsz] using hj)
    rw [lt2] at h
    have hi' : i < d'.size := by simpa using hi
    have hj' : j < d'.size := by simpa using hj
    rw [getElem!_pos d' j hj', getElem!_pos d' i hi'] at h
    have := of_decide_eq_false h
    simp only [Array.getElem_toList]
    omega
theorem flat_len {α : Type} (f : α → List Value) (m : Nat) (hf : ∀ a, (f a).length = m) : ∀ l : List α, (l.flatMap f).length = l.length * m
  | [] => by simp
  | a :: l => by rw [List.flatMap_cons, List.length_append, hf, flat_len f m hf l, List.length_cons, Nat.add_mul, Nat.one_mul, Nat.add_comm]
theorem holds_own {w : World} {base n g cap : Nat} {T : TypeId} (d : Array P2) (h : w.ownsRow base T 2 (.slice (some ⟨g, 0, none⟩) n cap) n (d.toList.flatMap enc2)) : Go.Sort.HoldsK enc2 2 w g 0 d := by
  have hn : n = d.size := by
    have := h.1
    rw [flat_len enc2 2 enc2_len] at this
    simp at this
    omega
  intro j hj
  rw [Go.Sort.size_flatK] at hj
  have hc := World.ownsRow.cellAt h j (by omega)
  have hi : j / 2 < d.size := by omega
  have hf := flat_get enc2 2 enc2_len d.toList (j / 2) (j % 2) d[j / 2] (by simp [hi]) (by omega)
  rw [show j / 2 * 2 + j % 2 = j by omega] at hf
  rw [Nat.zero_add, hc, hf, Go.Sort.get_flatK _ _ _ _ hj, getElem!_pos d (j / 2) hi]
  refine ⟨?_, ?_⟩
  · rw [getElem!_pos (enc2 d[j / 2]) (j % 2) (by rw [enc2_len]; omega)]
    simp
  · rcases h.2 with ⟨h0, _⟩ | ⟨g', cap', cur, h0, _, hb, _⟩
    · simp at h0
    · simp only [Value.slice.injEq, Option.some.injEq, Addr.mk.injEq, and_true] at h0
      obtain ⟨rfl, _⟩ := h0
      unfold World.frozen?
      simp only
      rw [hb]
      simp
theorem holds_cell {w : World} {g : Nat} {d : Array P2} (h : Go.Sort.HoldsK enc2 2 w g 0 d) (i : Nat) (hi : i < d.size) : w.cell? ⟨g, i * 2, none⟩ = some (.int .i64 (d[i].1.val : Int)) ∧ w.cell? ⟨g, i * 2 + 1, none⟩ = some (.int .i64 (d[i].2.val : Int)) := by
  have h0 := (Go.Sort.HoldsK.cell h hi (c := 0) (by decide)).1
  have h1 := (Go.Sort.HoldsK.cell h hi (c := 1) (by decide)).1
  rw [getElem!_pos d i hi] at h0 h1
  rw [Nat.zero_add] at h0 h1
  exact ⟨h0, h1⟩
end Go.Proofs.YtdhbljbfjdlcdaaDoor
