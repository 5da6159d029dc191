/-
  More laws of the walk: a region that draws its order, step by step: allocations, calls and stores among each other.
-/
import Derived.Test.YtlfhijdonejacaaKit4
namespace Go.Proofs.Ytlfhijdonejacaa
open Go.RowKit
/-- The world behind some steps: below W's end nothing has turned; the blocks of L lie as told. -/
def St (T : TypeId) (W : World) (L : List (Nat × Array Value)) (w : World) : Prop :=
  Below W.heap.size W w ∧ (L.map (·.1)).Nodup ∧ ∀ x ∈ L, W.heap.size ≤ x.1 ∧ Blk w x.1 T x.2
theorem St.step {T : TypeId} {W w w' : World} {L : List (Nat × Array Value)} (h : St T W L w) (hb : Below w.heap.size w w') : St T W L w' :=
  ⟨h.1.trans (hb.mono h.1.size), h.2.1, fun x hx => ⟨(h.2.2 x hx).1, (h.2.2 x hx).2.below hb (h.2.2 x hx).2.lt⟩⟩
theorem St.alloc {T : TypeId} {W w : World} {L : List (Nat × Array Value)} (h : St T W L w) (cs : Array Value) : St T W ((w.heap.size, cs) :: L) (w.alloc (.cells cs T)) := by
  have h1 := h.step (below_alloc (.cells cs T))
  refine ⟨h1.1, List.nodup_cons.2 ⟨fun hm => ?_, h.2.1⟩, fun x hx => ?_⟩
  · obtain ⟨x, hx, he⟩ := List.mem_map.1 hm
    have := (h.2.2 x hx).2.lt
    simp only at he
    omega
  · rcases List.mem_cons.1 hx with rfl | hx
    · exact ⟨h.1.size, Blk.new _ _ _⟩
    · exact h1.2.2 x hx
theorem St.store {T : TypeId} {W w : World} {L : List (Nat × Array Value)} (h : St T W L w) (g : Nat) (old cs : Array Value) (hg : (g, old) ∈ L) :
    St T W (L.map fun x => if x.1 = g then (g, cs) else x) (w.setRow g cs) := by
  have hgb := h.2.2 _ hg
  refine ⟨setRow_below h.1 hgb.1 cs, ?_, fun x hx => ?_⟩
  · have e : (L.map fun x => if x.1 = g then (g, cs) else x).map (·.1) = L.map (·.1) := by
      rw [List.map_map]
      refine List.map_congr_left fun x _ => ?_
      simp only [Function.comp]
      split
      · rename_i h; exact h.symm
      · rfl
    rw [e]
    exact h.2.1
  · obtain ⟨y, hy, rfl⟩ := List.mem_map.1 hx
    split
    · exact ⟨hgb.1, hgb.2.row cs⟩
    · rename_i hne
      exact ⟨(h.2.2 y hy).1, (h.2.2 y hy).2.row_other hne cs⟩
section
variable {P : Program} {w : World} {ops : Array Oper} {o : Oper} {a : Act} {K : Act → World → Prop} {Q : Exit → Act → World → Prop} {i : Nat}
theorem op_wp (hi : ops[i]? = some o) (hg : o.guard = none) (h : o.wp P a w K Q) : wpOp P ops Q i K a w := by
  unfold wpOp
  simp only [hi]
  rw [if_pos (by simp [Region.wanted, hg])]
  exact .inl h
theorem op_alloc (hi : ops[i]? = some o) (hg : o.guard = none) (t : TypeId) (hop : o.op = .alloc t) (cs : Array Value) (hz : (P.info? t).bind (·.zero) = some (.agg cs))
    (h : K (a.put o.dst (.pointer (some ⟨w.heap.size, 0, none⟩))) (w.alloc (.cells cs t))) : wpOp P ops Q i K a w := by
  refine op_wp hi hg ?_
  cases hi : P.info? t with
  | none => simp [hi] at hz
  | some i =>
    have hz' : i.zero = some (.agg cs) := by simpa [hi] using hz
    unfold Oper.wp execOp
    simp only [hop]
    have : (Instr.alloc t true (.tuple #[])).run P w = .ok (.pointer (some ⟨w.heap.size, 0, none⟩)) (w.alloc (.cells cs t)) := by
      simp [Instr.alloc, zeroValue, typeInfo, hi, hz', newVar, newRow, newObj, Value.cells]; rfl
    simp only [Sem.run_bind, this, Result.andThen_ok]
    exact h
theorem op_call (hi : ops[i]? = some o) (hg : o.guard = none) (c : Call) (ho : o.op = .call c) (f : FuncId) (hf : c.callee = .value (.func f)) (hcf : ∀ args w, (callFunc f args).run P w = .ok (.enter f args) w)
    (args : Array Value) (hargs0 : (c.args.toList.map a.eval).toArray = args) (h : Calls P f args w fun e w' => ∃ v, e = .returned v ∧ K (a.put o.dst v) w') : wpOp P ops Q i K a w := by
  refine op_wp hi hg ?_
  have hargs : c.args.map a.eval = args := by
    rw [← hargs0]
    apply Array.ext'
    simp
  have hr : (execOp a.eval o).run P w = .ok (.enter f args) w := by
    have e : a.eval (.func f) = .func (.func f) #[] #[] := rfl
    have := hcf args w
    unfold execOp
    simp [ho, resolve, hf, e, Deferred.ofValue, invoke, hargs, this]
  unfold Oper.wp
  rw [hr]
  refine h.mono ?_
  rintro e w' ⟨v, rfl, hk⟩
  exact hk
theorem op_store (hi : ops[i]? = some o) (hgd : o.guard = none) (ty : TypeId) (x y : Operand) (ho : o.op = .store ty x y) (hd : o.dst = none)
    (g n : Nat) (c v : Nat → Value) (t : TypeId) (hs : (P.info? ty).map (·.size) = some n) (h1 : ∀ j, j < n → (v j).oneCell' = true)
    (hx : a.eval x = .pointer (some ⟨g, 0, none⟩)) (hy : a.eval y = .agg (rowOf n v)) (hg : Blk w g t (rowOf n c)) (h : K a (w.setRow g (rowOf n v))) : wpOp P ops Q i K a w := by
  refine op_wp hi hgd ?_
  have hrun := run_storeVar_seg (P := P) g 0 t ty n n c v hg hs (by omega) h1
  rw [seg_all] at hrun
  unfold Oper.wp execOp
  simp only [ho, hx, hy, Instr.storeAt, Instr.sureAddr, Sem.run_bind, Sem.run_pure, Result.andThen_ok, hrun]
  show K (a.put o.dst _) _
  rw [hd]
  exact h
theorem yields_load {S : World → Prop} (hgd : o.guard = none) (ty : TypeId) (x : Operand) (ho : o.op = .load ty x) (g n : Nat) (c : Nat → Value) (t : TypeId) (d : TypeDesc) (hu : P.underlying ty = some d)
    (hd : (match d with | .struct _ | .array _ _ => true | _ => false) = true) (hi : (P.info? ty).map (·.size) = some n) (hx : a.eval x = .pointer (some ⟨g, 0, none⟩)) (hS : ∀ w, S w → Blk w g t (rowOf n c)) :
    YieldsIf P ops S o (.agg (rowOf n c)) a := by
  refine .inl ⟨by simp [Region.wanted, hgd], fun w h => ?_⟩
  have := run_loadVar_seg (P := P) g 0 t ty n n c d (hS w h) hu hd hi (by omega)
  simp only [Nat.zero_add] at this
  unfold execOp
  simp only [ho, hx, Instr.loadAt, Instr.sureAddr, Sem.run_bind, Sem.run_pure, Result.andThen_ok, this]
theorem yields_move {S : World → Prop} (hgd : o.guard = none) (x : Operand) (ho : o.op = .move x) (v : Value) (hx : a.eval x = v) : YieldsIf P ops S o v a := by
  refine .inl ⟨by simp [Region.wanted, hgd], fun w _ => ?_⟩
  unfold execOp
  simp [ho, hx]
end
theorem St.three {T : TypeId} {W x : World} {pB pA G : Nat} {z cG : Array Value} (h : St T W [(pB, z), (pA, z), (G, cG)] x) :
    pB ≠ pA ∧ pB ≠ G ∧ pA ≠ G ∧ Blk x pB T z ∧ Blk x pA T z ∧ Blk x G T cG ∧ W.heap.size ≤ pB ∧ W.heap.size ≤ pA ∧ W.heap.size ≤ G ∧ Below W.heap.size W x := by
  obtain ⟨hb, hn, h⟩ := h
  simp at hn
  exact ⟨hn.1.1, hn.1.2, hn.2, (h (pB, z) (by simp)).2, (h (pA, z) (by simp)).2, (h (G, cG) (by simp)).2, (h (pB, z) (by simp)).1, (h (pA, z) (by simp)).1, (h (G, cG) (by simp)).1, hb⟩
theorem wpAnyH_setQ {P : Program} {md : Region.Mode} {ops : Array Oper} {Q : Exit → Act → World → Prop} {S : World → Prop} {f : Nat} {l : Array Bool} {a : Act} {w : World}
    (h : ∀ Q', Q' = Q → wpAnyH P md ops Q' S f l a w) : wpAnyH P md ops Q S f l a w := h Q rfl
end Go.Proofs.Ytlfhijdonejacaa
