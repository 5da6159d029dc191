/-
  More laws of the walk: steps of a region that draws its order.
-/
import Derived.Test.YtlfhijdonejacaaKit3
import Derived.Deep.RegionHeldLaw
namespace Go.Proofs.Ytlfhijdonejacaa
open Go.RowKit
section
variable {P : Program} {w : World} {ops : Array Oper} {rest : List Oper} {o : Oper} {a : Act} {K : Act → World → Prop} {Q : Exit → Act → World → Prop} {E : Prop}
theorem step_own_string (hw : Region.wanted o (yielded ops a.tmps) = true) (src dst : TypeId) (x : Operand) (ho : o.op = .convert src dst x) (e : TypeId) (hs : P.underlying src = some (.slice e)) (he : P.underlying e = some (.int .u8)) (hd : P.underlying dst = some .string)
    (base : Nat) (v : Value) (l : List UInt8) (hx : a.eval x = v) (hown : OwnB w base e v l) (h : K (a.put o.dst (.string ⟨l.toArray⟩)) w) : if Region.wanted o (yielded ops a.tmps) = true then Oper.wp P o a w K Q else E := by
  rw [if_pos hw]
  unfold Oper.wp execOp
  simp only [ho, hx, Sem.run_bind, run_own_string src dst e hs he hd base v l hown, Result.andThen_ok]
  exact h
end
theorem keepB {w w' : World} {W : World} {base : Nat} {e : TypeId} {v : Value} {l : List UInt8} (hb : Below w.heap.size w w') (h : OwnB w base e v l ∧ Below W.heap.size W w) : OwnB w' base e v l ∧ Below W.heap.size W w' :=
  ⟨h.1.below hb fun k hk => (World.ownsRow.lt h.1 k hk).2, h.2.trans (hb.mono h.2.size)⟩
end Go.Proofs.Ytlfhijdonejacaa
