/-
  More laws of the walk: steps of a region that draws its order.
-/
import Derived.Test.YtlfhijdonejacaaDoorKit3
import Derived.Test.YtlfhijdonejacaaDoorSha7
import Derived.Deep.RegionHeldLaw
namespace Go.Proofs.YtlfhijdonejacaaDoor
open Go.RowKit
section
variable {P : Program} {w : World} {ops : Array Oper} {rest : List Oper} {o : Oper} {a : Act} {K : Act → World → Prop} {Q : Exit → Act → World → Prop} {E : Prop}
theorem step_own_string (hw : Region.wanted o (yielded ops a.tmps) = true) (src dst : TypeId) (x : Operand) (ho : o.op = .convert src dst x) (e : TypeId) (hs : P.underlying src = some (.slice e)) (he : P.underlying e = some (.int .u8)) (hd : P.underlying dst = some .string)
    (base : Nat) (v : Value) (l : List UInt8) (hx : a.eval x = v) (hown : OwnB w base e v l) (h : K (a.put o.dst (.string ⟨l.toArray⟩)) w) : if Region.wanted o (yielded ops a.tmps) = true then Oper.wp P o a w K Q else E := by
  rw [if_pos hw]
  unfold Oper.wp execOp
  simp only [ho, hx, Sem.run_bind, run_own_string src dst e hs he hd base v l hown, Result.andThen_ok]
  exact h
end
section
variable {P : Program} {w : World} {ops : Array Oper} {rest : List Oper} {o : Oper} {a : Act} {Q : Exit → Act → World → Prop}
/-- 'wpList_plain' for an operation behind a guard that holds. -/
theorem wpList_wanted (hw : Region.wanted o (yielded ops a.tmps) = true) (h : ∀ K : Act → World → Prop, (∀ a w, wpList P ops Q rest a w → K a w) → o.wp P a w K Q) : wpList P ops Q (o :: rest) a w :=
  wpList_step fun K hK => by simp only [hw, if_true]; exact h K hK
theorem wpList_load_all_g (ty : TypeId) (x : Operand) (ho : o.op = .load ty x)
    (g n : Nat) (c : Nat → Value) (t : TypeId) (d : TypeDesc) (hu : P.underlying ty = some d) (hd : (match d with | .struct _ | .array _ _ => true | _ => false) = true)
    (hi : (P.info? ty).map (·.size) = some n) (hw : Region.wanted o (yielded ops a.tmps) = true) (hx : a.eval x = .pointer (some ⟨g, 0, none⟩)) (hg : Blk w g t (rowOf n c))
    (h : wpList P ops Q rest (a.put o.dst (.agg (rowOf n c))) w) : wpList P ops Q (o :: rest) a w := by
  refine wpList_wanted hw fun K hK => ?_
  have := run_loadVar_seg (P := P) g 0 t ty n n c d hg hu hd hi (by omega)
  simp only [Nat.zero_add] at this
  unfold Oper.wp execOp
  simp only [ho, hx, Instr.loadAt, Instr.sureAddr, Sem.run_bind, Sem.run_pure, Result.andThen_ok, this]
  exact hK _ _ h
end
theorem keepB {w w' : World} {W : World} {base : Nat} {e : TypeId} {v : Value} {l : List UInt8} (hb : Below w.heap.size w w') (h : OwnB w base e v l ∧ Below W.heap.size W w) : OwnB w' base e v l ∧ Below W.heap.size W w' :=
  ⟨h.1.below hb fun k hk => (World.ownsRow.lt h.1 k hk).2, h.2.trans (hb.mono h.2.size)⟩
theorem keepP {w w' W : World} {B g : Nat} {T : TypeId} {v : Value} {l : List ByteArray} {cs : Array Value} (hb : Below w.heap.size w w') (h : StrRow w B v l ∧ Blk w g T cs ∧ Below B W w) (hB : B ≤ W.heap.size) :
    StrRow w' B v l ∧ Blk w' g T cs ∧ Below B W w' := by
  have hs : B ≤ w.heap.size := by have := h.2.2.size; omega
  exact ⟨h.1.below hb hs, h.2.1.below hb h.2.1.lt, h.2.2.trans (hb.mono hs)⟩
theorem StrRow.mono {w : World} {B C : Nat} {v : Value} {l : List ByteArray} (h : StrRow w B v l) (hBC : B ≤ C) : StrRow w C v l := by
  obtain ⟨p, c, rfl, hc, h⟩ := h
  refine ⟨p, c, rfl, hc, fun hne => ?_⟩
  obtain ⟨g, o, rfl, hg, hcell⟩ := h hne
  exact ⟨g, o, rfl, by omega, hcell⟩
end Go.Proofs.YtlfhijdonejacaaDoor
