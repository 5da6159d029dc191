/-
  More laws of the walk: make, strings read by index.
-/
import Derived.Test.YtjfkiomegacpeaaDoorKit
namespace Go.Proofs.YtjfkiomegacpeaaDoor
open Go.RowKit
section
variable {P : Program} {w : World} {ops : Array Oper} {rest : List Oper} {o : Oper} {a : Act} {Q : Exit → Act → World → Prop}
/-- 'make([]byte, 0, n)'. -/
theorem wpList_make_bytes (hgd : o.guard = none) (l c : Operand) (t : TypeId) (ho : o.op = .makeSlice t l c) (e : TypeId) (hE : ElemRow P t e (.int .u8 0) 1 1)
    (base : Nat) (kl kc : IntKind) (C : Int) (n : Nat) (hl : a.eval l = .int kl 0) (hc : a.eval c = .int kc C) (hC : C = (n : Int)) (hn : n ≤ 281474976710656) (hb : base ≤ w.heap.size)
    (h : ∀ w', OwnB w' base e (.slice (some ⟨w.heap.size, 0, none⟩) 0 n) [] → w.grownBy w' none → Below w.heap.size w w' → wpList P ops Q rest (a.put o.dst (.slice (some ⟨w.heap.size, 0, none⟩) 0 n)) w') :
    wpList P ops Q (o :: rest) a w := by
  obtain ⟨i, hi, hz, hsz, hby⟩ := info_parts hE.row
  exact wpList_make_own w hgd l c t ho base e i _ 1 hE.slice hi hz hsz kl kc C n hl hc hC (by rw [hby]; omega) (by unfold maxLen; omega) hb
    (fun w' h1 h2 => h w' h1 h2 ((Below.refl _ w).grown h2 (Nat.le_refl _) (fun k hk => by cases hk)))
/-- 's[i]', s a string. -/
theorem wpList_index_str (hgd : o.guard = none) (ty : TypeId) (x ix : Operand) (ho : o.op = .index ty x ix) (hu : P.underlying ty = some .string) (s : ByteArray) (k : IntKind) (i : Int)
    (hx : a.eval x = .string s) (hix : a.eval ix = .int k i) (h0 : 0 ≤ i) (h1 : i < s.size)
    (h : wpList P ops Q rest (a.put o.dst (.int .u8 (byteAt s.data.toList i.toNat))) w) : wpList P ops Q (o :: rest) a w := by
  refine wpList_plain hgd fun K hK => ?_
  have hj : i.toNat < s.size := by omega
  have hget : s[i.toNat]? = some (s.data.toList.getD i.toNat 0) := by
    rw [getElem?_pos s i.toNat hj]
    have h2 : i.toNat < s.data.toList.length := by rw [size_toList]; exact hj
    rw [List.getD_eq_getElem?_getD, List.getElem?_eq_getElem h2]
    rfl
  have hrun : (Instr.index ty (.string s) (.int k i)).run P w = .ok (.int .u8 (byteAt s.data.toList i.toNat)) w := by
    unfold byteAt
    simp only [Instr.index, asIntOf, Sem.run_bind, Sem.run_pure, Result.andThen_ok, run_underlying hu]
    simp only [h0, if_true, hget]
    rfl
  unfold Oper.wp execOp
  simp only [ho, hx, hix, Sem.run_bind, hrun, Result.andThen_ok, Sem.run_pure]
  exact hK _ _ h
/-- 'a[i]', a an array by value, its cells integers. -/
theorem wpList_index_arr (hgd : o.guard = none) (ty : TypeId) (x ix : Operand) (ho : o.op = .index ty x ix) (ek : IntKind) (n : Nat) (f : Nat → Int) (e : TypeId) (hu : P.underlying ty = some (.array n e))
    (he : P.underlying e = some (.int ek)) (hsz : (P.info? e).map (·.size) = some 1) (k : IntKind) (i : Nat)
    (hx : a.eval x = .agg (arrOf ek n f)) (hix : a.eval ix = .int k i) (h1 : i < n)
    (h : wpList P ops Q rest (a.put o.dst (.int ek (f i))) w) : wpList P ops Q (o :: rest) a w := by
  refine wpList_plain hgd fun K hK => ?_
  have hrun : (Instr.index ty (.agg (arrOf ek n f)) (.int k i)).run P w = .ok (.int ek (f i)) w := by
    have hc : (0 : Int) ≤ (i : Int) ∧ (i : Int) < (n : Int) := by omega
    obtain ⟨inf, hi, hz⟩ := Option.map_eq_some_iff.1 hsz
    simp only [Instr.index, asIntOf, Sem.run_bind, Sem.run_pure, Result.andThen_ok, run_underlying hu, hc, and_self, if_true, run_sizeOf w hi, part, isAgg, run_underlying he]
    have hce : P.cellsOf e = 1 := by simp [Program.cellsOf, hi, hz]
    simp [arr_get _ _ _ _ h1, go_sem, hce]
  unfold Oper.wp execOp
  simp only [ho, hx, hix, Sem.run_bind, hrun, Result.andThen_ok, Sem.run_pure]
  exact hK _ _ h
end
theorem OwnB.alloc {w : World} {base : Nat} {e : TypeId} {v : Value} {l : List UInt8} (h : OwnB w base e v l) (o : Obj) : OwnB (w.alloc o) base e v l :=
  h.below (below_alloc o) fun k hk => (World.ownsRow.lt h k hk).2
theorem cell_one (w : World) (v : Value) (T : TypeId) : (w.alloc (.cells #[v] T)).cell? ⟨w.heap.size, 0, none⟩ = some v := (Blk.at_ (Blk.new w T #[v]) 0).trans rfl
end Go.Proofs.YtjfkiomegacpeaaDoor
