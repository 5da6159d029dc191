/-
  More laws of the walk: a row of bytes that began as '[]byte(s)'.
-/
import Derived.Test.YtjfkiomegacpeaaDoorKit2
import Derived.Lib.ConvBytes
namespace Go.Proofs.YtjfkiomegacpeaaDoor
open Go.RowKit
/-- v is a slice of bytes, not nil, of the call's own (blocks from base on), and holds l; a mark may lie behind its row. -/
def OwnZ (w : World) (base : Nat) (e : TypeId) (v : Value) (l : List UInt8) : Prop :=
  ∃ g cap cur fz, v = .slice (some ⟨g, 0, none⟩) l.length cap ∧ base ≤ g ∧ w.heap[g]? = some (.cells cur e fz) ∧ (fz.2 ≤ 0 ∨ cap ≤ fz.1) ∧ l.length ≤ cap ∧ cap ≤ maxLen ∧ cur.size = cap ∧ cur.toList.take l.length = byteVals l
theorem OwnZ.lt {w : World} {base : Nat} {e : TypeId} {v : Value} {l : List UInt8} (h : OwnZ w base e v l) : ∀ k, v.ownBlock = some k → base ≤ k ∧ k < w.heap.size := by
  obtain ⟨g, cap, cur, fz, rfl, hb, hg, _⟩ := h
  intro k hk
  obtain rfl : g = k := by simpa [Value.ownBlock] using hk
  exact ⟨hb, (Array.getElem?_eq_some_iff.1 hg).1⟩
theorem OwnZ.same {w w' : World} {base : Nat} {e : TypeId} {v : Value} {l : List UInt8} (h : OwnZ w base e v l) (hb : ∀ k, v.ownBlock = some k → w'.heap[k]? = w.heap[k]?) : OwnZ w' base e v l := by
  obtain ⟨g, cap, cur, fz, rfl, hbg, hg, r⟩ := h
  exact ⟨g, cap, cur, fz, rfl, hbg, by rw [hb g rfl]; exact hg, r⟩
theorem OwnZ.below {w w' : World} {base B : Nat} {e : TypeId} {v : Value} {l : List UInt8} (h : OwnZ w base e v l) (hb : Below B w w') (hlt : w.heap.size ≤ B) : OwnZ w' base e v l :=
  h.same fun k hk => hb.block k (Nat.lt_of_lt_of_le (h.lt k hk).2 hlt)
theorem OwnZ.alloc {w : World} {base : Nat} {e : TypeId} {v : Value} {l : List UInt8} (h : OwnZ w base e v l) (o : Obj) : OwnZ (w.alloc o) base e v l :=
  h.below (below_alloc o) (Nat.le_refl _)
theorem OwnZ.cell {w : World} {base : Nat} {e : TypeId} {g n cap : Nat} {l : List UInt8} (h : OwnZ w base e (.slice (some ⟨g, 0, none⟩) n cap) l) {j : Nat} (hj : j < l.length) : w.cell? ⟨g, j, none⟩ = some (.int .u8 (byteAt l j)) := by
  obtain ⟨g', cap', cur, fz, hv, _, hg, _, _, _, _, htake⟩ := h
  simp only [Value.slice.injEq, Option.some.injEq, Addr.mk.injEq, and_true] at hv
  obtain ⟨rfl, _, _⟩ := hv
  rw [cell_of_row w g j cur e fz hg]
  have h1 : (byteVals l)[j]? = cur[j]? := by
    rw [← htake, List.getElem?_take, if_pos hj]
    simp
  rw [← h1]
  unfold byteVals byteAt
  rw [List.getElem?_map, List.getElem?_eq_getElem hj, List.getD_eq_getElem?_getD, List.getElem?_eq_getElem hj]
  rfl
theorem OwnZ.other {w : World} {base b : Nat} {e T : TypeId} {v : Value} {l : List UInt8} {cs : Array Value} (h : OwnZ w base e v l) (hb : Blk w b T cs) (hT : T ≠ e) (c : Array Value) : OwnZ (w.setRow b c) base e v l := by
  refine h.same fun k hk => setRow_other w b k c ?_
  rintro rfl
  obtain ⟨g, cap, cur, fz, rfl, _, hg, _⟩ := h
  obtain rfl : g = k := by simpa [Value.ownBlock] using hk
  unfold Blk at hb
  rw [hg] at hb
  simp only [Option.some.injEq, Obj.cells.injEq] at hb
  exact hT hb.2.1.symm
theorem take_set_succ {α : Type} (c : List α) (n : Nat) (x : α) (h : n < c.length) : (c.set n x).take (n + 1) = c.take n ++ [x] := by
  rw [List.take_add_one, List.getElem?_set_self h, List.take_set_of_le (Nat.le_refl n)]
  rfl
section
variable {P : Program} {w : World} {ops : Array Oper} {rest : List Oper} {o : Oper} {a : Act} {Q : Exit → Act → World → Prop}
/-- '[]byte(s)'. -/
theorem wpList_bytes_string (hgd : o.guard = none) (src dst : TypeId) (x : Operand) (ho : o.op = .convert src dst x) (e : TypeId) (hs : P.underlying src = some .string) (hd : P.underlying dst = some (.slice e)) (he : P.underlying e = some (.int .u8))
    (s : ByteArray) (base : Nat) (hx : a.eval x = .string s) (hsz : s.size ≤ maxLen) (hb : base ≤ w.heap.size)
    (h : ∀ v w', OwnZ w' base e v s.data.toList → Below w.heap.size w w' → wpList P ops Q rest (a.put o.dst v) w') : wpList P ops Q (o :: rest) a w := by
  refine wpList_plain hgd fun K hK => ?_
  unfold Oper.wp execOp
  simp only [ho, hx, Sem.run_bind, Lib.run_convert_string_bytes w src dst e s hs hd he, Result.andThen_ok]
  refine hK _ _ (h _ _ ?_ ?_)
  · have hge := grownCap_ge w s.size 0 e
    have hsize : (Lib.bytesCells w e s).size = grownCap w s.size 0 e := by
      unfold Lib.bytesCells
      rw [Array.size_append, Array.size_map, Array.size_replicate]
      show s.size + _ = _
      omega
    refine ⟨w.heap.size, grownCap w s.size 0 e, _, _, by rw [size_toList], hb, Lib.bytesWorld_at_new w e s, .inr (Nat.le_of_eq hsize.symm), by rw [size_toList]; exact hge, grownCap_le_maxLen w s.size 0 e hsz, hsize, ?_⟩
    unfold Lib.bytesCells byteVals
    rw [Array.toList_append, Array.toList_map, List.take_left' (by rw [List.length_map])]
  · exact ⟨rfl, rfl, rfl, by rw [Lib.bytesWorld_size]; omega, fun k hk => Lib.bytesWorld_at_old w e s k hk⟩
theorem run_push_z (t ty e : TypeId) (hE : ElemRow P t e (.int .u8 0) 1 1) (base : Nat) (v : Value) (l : List UInt8) (g c : Nat) (b : UInt8)
    (hown : OwnZ w base e v l) (hc : w.cell? ⟨g, 0, none⟩ = some (.int .u8 (b.toNat : Int))) (hn : l.length < 140737488355328) (hbase : base ≤ w.heap.size) :
    ∃ v' w', (Builtin.append_ #[t, t] ty #[v, .slice (some ⟨g, 0, none⟩) 1 c]).run P w = .ok v' w' ∧ OwnZ w' base e v' (l ++ [b]) ∧ Below base w w' := by
  obtain ⟨i, hi, hz, hsz, hby⟩ := info_parts hE.row
  obtain ⟨g0, cap, cur, fz, rfl, hbg, hg, hfz, hnc, hcm, hcs, htake⟩ := hown
  have hnews : ∀ j u, [Value.int .u8 (b.toNat : Int)][j]? = some u → w.cell? ((⟨g, 0, none⟩ : Addr).add j) = some u := by
    intro j u hu
    match j, hu with
    | 0, hu => simp at hu; subst hu; exact hc
  by_cases hroom : l.length + 1 ≤ cap
  · have hf := run_firstCells_some (P := P) w i.size 1 ⟨g, 0, none⟩ 1 c [Value.int .u8 (b.toNat : Int)] (by rw [hsz]; rfl) hnews
    rw [hsz] at hf
    have hcell : w.cell? ⟨g0, l.length, none⟩ = some cur[l.length] := by simp [World.cell?, hg]
    have hfro : w.frozen? ⟨g0, l.length, none⟩ = false := by
      obtain ⟨lo, hi'⟩ := fz
      simp only [World.frozen?, hg, Bool.and_eq_false_iff, decide_eq_false_iff_not]
      simp only at hfz
      omega
    have hst : (storeCells ⟨g0, l.length, none⟩ [Value.int .u8 (b.toNat : Int)] 0).run P w = .ok () (w.setRow g0 (cur.setIfInBounds l.length (.int .u8 (b.toNat : Int)))) := by
      simp only [storeCells, Sem.run_bind]
      have : (⟨g0, l.length, none⟩ : Addr).add 0 = ⟨g0, l.length, none⟩ := rfl
      rw [this, run_store P w _ _ _ rfl, hcell]
      simp [hfro, setCell_eq_setRow w g0 l.length cur e fz _ hg]
    refine ⟨.slice (some ⟨g0, 0, none⟩) (l.length + 1) cap, w.setRow g0 (cur.setIfInBounds l.length (.int .u8 (b.toNat : Int))), ?_, ?_, setRow_below (Below.refl _ _) hbg _⟩
    · simp [Builtin.append_, run_underlying hE.slice, sizeOf, typeInfo, hi, Builtin.lenOf, hroom, hf, Addr.add_lit, hsz, hst]
    · refine ⟨g0, cap, _, fz, by rw [List.length_append]; rfl, hbg, setRow_heap w g0 cur _ e _ hg, hfz, by rw [List.length_append]; exact hroom, hcm, by simp [hcs], ?_⟩
      rw [Array.toList_setIfInBounds, List.length_append]
      show List.take (l.length + 1) _ = _
      rw [take_set_succ _ _ _ (by simp; omega), htake]
      unfold byteVals
      rw [List.map_append]
      rfl
  · have holds : ∀ j u, (byteVals l)[j]? = some u → w.cell? ((⟨g0, 0, none⟩ : Addr).add j) = some u := by
      intro j u hu
      have hadd : (⟨g0, 0, none⟩ : Addr).add j = ⟨g0, j, none⟩ := by unfold Addr.add; split <;> simp_all
      rw [hadd, cell_of_row w g0 j cur e fz hg, ← hu, ← htake, List.getElem?_take]
      have hj : j < l.length := by
        have h1 := (List.getElem?_eq_some_iff.1 hu).1
        simpa [byteVals] using h1
      rw [if_pos hj]
      simp
    have hl : (byteVals l).length = l.length := by simp [byteVals]
    have hr := run_append_grow (P := P) w t ty e i _ hE.slice hi hz ⟨g0, 0, none⟩ l.length cap (byteVals l) (by rw [hl, hsz, Nat.mul_one]) holds ⟨g, 0, none⟩ 1 c [Value.int .u8 (b.toNat : Int)] (by rw [hsz]; rfl) hnews (by omega) (by omega) (growslice_fits (by omega) (by rw [hby]; omega))
    refine ⟨_, _, hr, ?_, (Below.refl _ _).drew.alloc hbase _⟩
    have hge := grownCap_ge w (l.length + 1) cap e
    have hcm' : grownCap w (l.length + 1) cap e ≤ maxLen := grownCap_le_maxLen w (l.length + 1) cap e (by unfold maxLen; omega)
    refine ⟨w.heap.size, _, _, (0, 0), by rw [List.length_append]; rfl, hbase, heap_alloc_new w.drew _, .inl (Nat.le_refl _), by rw [List.length_append]; exact hge, hcm', ?_, ?_⟩
    · simp only [Array.size_append, List.size_toArray, size_zeroCells, hl]
      show l.length + 1 + _ * 1 = _
      omega
    · simp only [Array.toList_append, List.append_assoc]
      rw [← List.append_assoc, List.take_left' (by simp [hl])]
      unfold byteVals
      rw [List.map_append]
      rfl
theorem wpList_push_z (hgd : o.guard = none) (s x : Operand) (t : TypeId) (ho : o.op = .call { callee := .builtin .append, args := #[s, x], argTypes := #[t, t] })
    (e : TypeId) (hE : ElemRow P t e (.int .u8 0) 1 1) (base : Nat) (v : Value) (l : List UInt8) (g c : Nat) (b : UInt8)
    (hs : a.eval s = v) (hx : a.eval x = .slice (some ⟨g, 0, none⟩) 1 c) (hown : OwnZ w base e v l) (hc : w.cell? ⟨g, 0, none⟩ = some (.int .u8 (b.toNat : Int)))
    (hn : l.length < 140737488355328) (hbase : base ≤ w.heap.size)
    (h : ∀ v' w', OwnZ w' base e v' (l ++ [b]) → Below base w w' → wpList P ops Q rest (a.put o.dst v') w') : wpList P ops Q (o :: rest) a w := by
  refine wpList_plain hgd fun K hK => ?_
  obtain ⟨v', w', hrun, h1, h2⟩ := run_push_z t o.type e hE base v l g c b hown hc hn hbase
  unfold Oper.wp
  simp [execOp, ho, resolve, invoke, builtin, hs, hx, hrun, Result.andThen]
  exact hK _ _ (h v' w' h1 h2)
section
theorem quiet_add_int {C : World → Prop} {R : Act → Prop} (hgd : o.guard = none) (t t' : TypeId) (x y : Operand) (ho : o.op = .binOp .add t x y t') (k : IntKind) (n m : Int) (hx : a.eval x = .int k n) (hy : a.eval y = .int k m)
    (r : Int) (hr : k.wrap (n + m) = r) (hk : wpQuiet P ops C R rest (a.put o.dst (.int k r))) : wpQuiet P ops C R (o :: rest) a := by
  subst hr
  refine quiet_of_run hgd _ (fun w _ => ?_) hk
  have h1 : (binOp .add t (.int k n) (.int k m)).run P w = .ok (.int k (k.wrap (n + m))) w := by simp [binOp, go_sem]
  unfold execOp
  simp [ho, hx, hy, eqGuard, h1]
theorem run_slice_lo_hi (ty e : TypeId) (hu : P.underlying ty = some (.slice e)) (hs : (P.info? e).map (·.size) = some 1) (g off n cap l h : Nat) (hl : l ≤ h) (hh : h ≤ cap) (hlc : l < cap) (w : World) :
    (Instr.sliceAt ty (.slice (some ⟨g, off, none⟩) n cap) (some (.int .i64 l)) (some (.int .i64 h)) none).run P w = .ok (.slice (some ⟨g, off + l, none⟩) (h - l) (cap - l)) w := by
  cases hq : P.info? e with
  | none => simp [hq] at hs
  | some i =>
    have hi : i.size = 1 := by simpa [hq] using hs
    have h1 : ¬ cap = l := by omega
    have h3 : (⟨g, off, none⟩ : Addr).add l = ⟨g, off + l, none⟩ := by unfold Addr.add; split <;> simp_all
    simp [Instr.sliceAt, Instr.slice, run_underlying hu, Instr.sureAddr, Instr.sliceBounds, Instr.sliceBound, asIntOf, sizeOf, typeInfo, hq, hi, h1, h3, hl, hh]
theorem quiet_slice_lo_hi {C : World → Prop} {R : Act → Prop} (hgd : o.guard = none) (ty : TypeId) (x lo hi : Operand) (ho : o.op = .slice ty x (some lo) (some hi) none) (e : TypeId) (hu : P.underlying ty = some (.slice e)) (hs : (P.info? e).map (·.size) = some 1)
    (g off n cap l h : Nat) (hl : l ≤ h) (hh : h ≤ cap) (hlc : l < cap) (hx : a.eval x = .slice (some ⟨g, off, none⟩) n cap) (hlo : a.eval lo = .int .i64 l) (hhi : a.eval hi = .int .i64 h)
    (hk : wpQuiet P ops C R rest (a.put o.dst (.slice (some ⟨g, off + l, none⟩) (h - l) (cap - l)))) : wpQuiet P ops C R (o :: rest) a := by
  refine quiet_of_run hgd _ (fun w _ => ?_) hk
  unfold execOp
  simp only [ho, hx, hlo, hhi, Option.map_none, Option.map_some, Sem.run_bind, run_slice_lo_hi ty e hu hs g off n cap l h hl hh hlc w, Result.andThen_ok, Sem.run_pure]
theorem wpList_str_add (hgd : o.guard = none) (t t' : TypeId) (x y : Operand) (ho : o.op = .binOp .add t x y t') (s1 s2 : ByteArray) (hx : a.eval x = .string s1) (hy : a.eval y = .string s2)
    (h : s1.size + s2.size ≤ 9223372036854775807) (hk : wpList P ops Q rest (a.put o.dst (.string (s1 ++ s2))) w) : wpList P ops Q (o :: rest) a w := by
  refine wpList_plain hgd fun K hK => ?_
  have hrun : (execOp a.eval o).run P w = .ok (.value (.string (s1 ++ s2))) w := by
    unfold execOp
    simp [ho, hx, hy, eqGuard, binOp, run_string_add_sum w s1 s2 h]
  unfold Oper.wp
  rw [hrun]
  exact hK _ _ hk
end
end
end Go.Proofs.YtjfkiomegacpeaaDoor
