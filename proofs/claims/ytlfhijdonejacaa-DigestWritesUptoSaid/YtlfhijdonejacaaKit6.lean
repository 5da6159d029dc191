/-
  More laws of the walk: '[]T{x}', T a struct whose value lies in one name.
-/
import Derived.Test.YtlfhijdonejacaaKit5
namespace Go.Proofs.Ytlfhijdonejacaa
open Go.RowKit
theorem fold_fill (l : List Value) (k : Nat) (cells : Array Value) (h : k + l.length ≤ cells.size) :
    (l.zipIdx k).foldl (fun (cs : Array Value) (x : Value × Nat) => cs.setIfInBounds (0 + x.2) x.1) cells = (cells.toList.take k ++ l ++ cells.toList.drop (k + l.length)).toArray := by
  induction l generalizing k cells with
  | nil => simp
  | cons v l ih =>
    rw [List.zipIdx_cons, List.foldl_cons, ih (k + 1) _ (by simp at h ⊢; omega)]
    have := list_seg_step cells.toList k v l (by simp at h ⊢; omega)
    simpa [Array.toList_setIfInBounds, Nat.add_assoc] using this
theorem run_buildSlice_one {P : Program} {w : World} (t e : TypeId) (ht : P.underlying t = some (.slice e)) (z cs : Array Value) (size : Nat) (hs : (P.info? e).map (·.size) = some size) (hz : (P.info? e).bind (·.zero) = some (.agg z))
    (hcs : cs.size = size) (h0 : 0 < size) (hmax : size ≤ 16777216) : (Instr.buildSlice t 1 #[(0, .agg cs)]).run P w = .ok (.slice (some ⟨w.heap.size, 0, none⟩) 1 1) (w.alloc (.cells cs e)) := by
  cases hi : P.info? e with
  | none => simp [hi] at hs
  | some i =>
    have hi1 : i.size = size := by simpa [hi] using hs
    have hi2 : i.zero = some (.agg z) := by simpa [hi] using hz
    have hf : Instr.fill (fun i => some (i * size, size)) ((Array.range (1 * size)).map (z[· % z.size]!)) [(0, Value.agg cs)] = some cs := by
      unfold Instr.fill
      simp only [Value.cells, Nat.zero_mul, Nat.zero_add, Nat.one_mul, Array.size_map, Array.size_range]
      rw [if_neg (by simp [hcs])]
      unfold Instr.fill
      have hfold := fold_fill cs.toList 0 ((Array.range size).map (z[· % z.size]!)) (by simp [hcs])
      have e : Array.foldl (fun (cs : Array Value) (x : Value × Nat) => cs.setIfInBounds x.snd x.fst) (Array.map (fun x => z[x % z.size]!) (Array.range size)) cs.zipIdx = cs := by
        rw [← Array.foldl_toList, Array.toList_zipIdx]
        simp only [Nat.zero_add] at hfold
        rw [hfold, List.drop_of_length_le (by simp [hcs])]
        simp
      rw [e]
    simp [Instr.buildSlice, run_underlying ht, sizeOf, typeInfo, hi, hi1, zeroValue, hi2, newRow, newObj]
    have h1 : ¬ 16777216 < size := by omega
    have h2 : ¬ size = 0 := by omega
    simp only [Nat.one_mul] at hf
    simp only [h1, h2, if_false, Value.cells, hf]
    simp [go_sem]
    rfl
section
variable {P : Program} {w : World} {ops : Array Oper} {rest : List Oper} {o : Oper} {a : Act} {Q : Exit → Act → World → Prop}
theorem wpList_buildSlice_one (hgd : o.guard = none) (t : TypeId) (x : Operand) (ho : o.op = .buildSlice t 1 #[(0, x)]) (e : TypeId) (ht : P.underlying t = some (.slice e)) (z cs : Array Value) (size : Nat)
    (hs : (P.info? e).map (·.size) = some size) (hz : (P.info? e).bind (·.zero) = some (.agg z)) (hx : a.eval x = .agg cs) (hcs : cs.size = size) (h0 : 0 < size) (hmax : size ≤ 16777216)
    (h : wpList P ops Q rest (a.put o.dst (.slice (some ⟨w.heap.size, 0, none⟩) 1 1)) (w.alloc (.cells cs e))) : wpList P ops Q (o :: rest) a w := by
  refine wpList_plain hgd fun K hK => ?_
  have hrun := run_buildSlice_one (P := P) (w := w) t e ht z cs size hs hz hcs h0 hmax
  unfold Oper.wp execOp
  simp [ho, hx, hrun, Result.andThen]
  exact hK _ _ h
/-- A struct or an array out of a place of a block, its cells known one by one. -/
theorem run_loadVar_cells (ty : TypeId) (d : TypeDesc) (hu : P.underlying ty = some d) (hd : (match d with | .struct _ | .array _ _ => true | _ => false) = true) (n : Nat) (hi : (P.info? ty).map (·.size) = some n)
    (g off : Nat) (c : Nat → Value) (hc : ∀ j, j < n → w.cell? ⟨g, off + j, none⟩ = some (c j)) : (loadVar ty ⟨g, off, none⟩).run P w = .ok (.agg (rowOf n c)) w := by
  have hl : (loadCells ⟨g, off, none⟩ (rowOf n c).toList.length).run P w = .ok (rowOf n c).toList.toArray w :=
    run_loadCells_list (P := P) w ⟨g, off, none⟩ (rowOf n c).toList (fun j v hv => by
      have hj : j < n := by
        have h1 := (List.getElem?_eq_some_iff.1 hv).1
        simpa [row_size] using h1
      have hadd : (⟨g, off, none⟩ : Addr).add j = ⟨g, off + j, none⟩ := by unfold Addr.add; split <;> simp_all
      rw [hadd, hc j hj]
      have h2 := row_get n c j hj
      simp at hv
      rw [← hv]
      simpa using h2.symm)
  cases hq : P.info? ty with
  | none => simp [hq] at hi
  | some i =>
    have hs : i.size = n := by simpa [hq] using hi
    have hagg : (isAgg ty).run P w = .ok true w := by
      unfold isAgg
      rw [Sem.run_bind, run_underlying hu w]
      cases d <;> simp_all
    simp only [Array.length_toList, Array.toArray_toList, row_size] at hl
    simp [loadVar, Sem.run_bind, hagg, sizeOf, typeInfo, hq, hs, hl]
end
/-- n rows of m cells each. -/
def rowsOf (m : Nat) (cc : Nat → Nat → Value) (n : Nat) : List Value := (List.range n).flatMap fun j => (rowOf m (cc j)).toList
theorem rowsOf_succ (m : Nat) (cc : Nat → Nat → Value) (n : Nat) : rowsOf m cc (n + 1) = rowsOf m cc n ++ (rowOf m (cc n)).toList := by
  simp [rowsOf, List.range_succ]
theorem rowsOf_length (m : Nat) (cc : Nat → Nat → Value) (n : Nat) : (rowsOf m cc n).length = n * m := by
  induction n with
  | zero => simp [rowsOf]
  | succ n ih => rw [rowsOf_succ, List.length_append, ih, Array.length_toList, row_size, Nat.succ_mul]
theorem rowsOf_congr (m : Nat) (cc dd : Nat → Nat → Value) (n : Nat) (h : ∀ j, j < n → cc j = dd j) : rowsOf m cc n = rowsOf m dd n := by
  induction n with
  | zero => rfl
  | succ n ih => rw [rowsOf_succ, rowsOf_succ, ih (fun j hj => h j (by omega)), h n (by omega)]
theorem rowsOf_get (m : Nat) (cc : Nat → Nat → Value) (n j i : Nat) (hj : j < n) (hi : i < m) : (rowsOf m cc n)[j * m + i]? = some (cc j i) := by
  induction n with
  | zero => omega
  | succ n ih =>
    rw [rowsOf_succ]
    by_cases h : j < n
    · have hlt : j * m + i < n * m := by
        have : (j + 1) * m ≤ n * m := Nat.mul_le_mul_right m h
        rw [Nat.succ_mul] at this
        omega
      rw [List.getElem?_append_left (by rw [rowsOf_length]; exact hlt)]
      exact ih h
    · obtain rfl : j = n := by omega
      rw [List.getElem?_append_right (by rw [rowsOf_length]; omega), rowsOf_length, Nat.add_sub_cancel_left]
      have := row_get m (cc j) i hi
      simpa using this
/-- v is a slice of n structs of m cells each, of the call's own. -/
def OwnS (w : World) (base : Nat) (e : TypeId) (m : Nat) (v : Value) (n : Nat) (cc : Nat → Nat → Value) : Prop := w.ownsRow base e m v n (rowsOf m cc n)
theorem OwnS.form {w : World} {base : Nat} {e : TypeId} {m n : Nat} {v : Value} {cc : Nat → Nat → Value} (h : OwnS w base e m v n cc) (hn : 0 < n) :
    ∃ g cap, v = .slice (some ⟨g, 0, none⟩) n cap ∧ n ≤ cap ∧ base ≤ g ∧ g < w.heap.size := by
  rcases h.2 with ⟨_, h0⟩ | ⟨g, cap, cur, rfl, hb, hg, hnc, _⟩
  · omega
  · exact ⟨g, cap, rfl, hnc, hb, (Array.getElem?_eq_some_iff.1 hg).1⟩
theorem OwnS.cell {w : World} {base : Nat} {e : TypeId} {m n g cap : Nat} {cc : Nat → Nat → Value} (h : OwnS w base e m (.slice (some ⟨g, 0, none⟩) n cap) n cc) (j i : Nat) (hj : j < n) (hi : i < m) :
    w.cell? ⟨g, j * m + i, none⟩ = some (cc j i) := by
  have hlt : j * m + i < n * m := by
    have : (j + 1) * m ≤ n * m := Nat.mul_le_mul_right m hj
    rw [Nat.succ_mul] at this
    omega
  rw [World.ownsRow.cellAt h (j * m + i) hlt, rowsOf_get m cc n j i hj hi]
theorem OwnS.below {w w' : World} {base B : Nat} {e : TypeId} {m n : Nat} {v : Value} {cc : Nat → Nat → Value} (h : OwnS w base e m v n cc) (hb : Below B w w') (hB : w.heap.size ≤ B) : OwnS w' base e m v n cc := by
  refine ⟨h.1, ?_⟩
  rcases h.2 with hn | ⟨g, cap, cur, rfl, hbg, hg, r⟩
  · exact Or.inl hn
  · exact Or.inr ⟨g, cap, cur, rfl, hbg, by rw [hb.block g (by have := (Array.getElem?_eq_some_iff.1 hg).1; omega)]; exact hg, r⟩
section
variable {P : Program} {w : World} {ops : Array Oper} {rest : List Oper} {o : Oper} {a : Act} {Q : Exit → Act → World → Prop}
theorem wpList_load_cells (hgd : o.guard = none) (ty : TypeId) (x : Operand) (ho : o.op = .load ty x) (d : TypeDesc) (hu : P.underlying ty = some d) (hd : (match d with | .struct _ | .array _ _ => true | _ => false) = true)
    (n : Nat) (hi : (P.info? ty).map (·.size) = some n) (g off : Nat) (c : Nat → Value) (hx : a.eval x = .pointer (some ⟨g, off, none⟩)) (hc : ∀ j, j < n → w.cell? ⟨g, off + j, none⟩ = some (c j))
    (h : wpList P ops Q rest (a.put o.dst (.agg (rowOf n c))) w) : wpList P ops Q (o :: rest) a w := by
  refine wpList_plain hgd fun K hK => ?_
  unfold Oper.wp execOp
  simp only [ho, hx, Instr.loadAt, Instr.sureAddr, Sem.run_bind, Sem.run_pure, Result.andThen_ok, run_loadVar_cells ty d hu hd n hi g off c hc]
  exact hK _ _ h
theorem wpList_push_struct (hgd : o.guard = none) (s x : Operand) (t : TypeId) (ho : o.op = .call { callee := .builtin .append, args := #[s, x], argTypes := #[t, t] })
    (e : TypeId) (z : Value) (size bytes : Nat) (hE : ElemRow P t e z size bytes) (base : Nat) (v : Value) (n : Nat) (cc : Nat → Nat → Value) (g c : Nat) (T : TypeId) (cs : Nat → Value)
    (hs : a.eval s = v) (hx : a.eval x = .slice (some ⟨g, 0, none⟩) 1 c) (hown : OwnS w base e size v n cc) (hg : Blk w g T (rowOf size cs)) (h1 : ∀ j, j < size → (cs j).oneCell' = true)
    (hbytes : (n + 1) * bytes ≤ 140737488355328) (hn : n < 140737488355328) (hbase : base ≤ w.heap.size)
    (h : ∀ v' w', OwnS w' base e size v' (n + 1) (fun j => if j = n then cs else cc j) → Below base w w' → wpList P ops Q rest (a.put o.dst v') w') : wpList P ops Q (o :: rest) a w := by
  refine wpList_append_one hgd s x t ho e z size bytes hE base v n (rowsOf size cc n) g c (rowOf size cs).toList hs hx hown (by rw [Array.length_toList, row_size]) (fun j u hu => ?_) (row_one size cs h1) hbytes hn hbase (fun v' w' h2 _ h4 => h v' w' ?_ h4)
  · rw [hg.at_ j]
    simpa using hu
  · unfold OwnS
    rw [rowsOf_succ, if_pos rfl, rowsOf_congr size _ cc n (fun j hj => if_neg (by omega))]
    exact h2
end
end Go.Proofs.Ytlfhijdonejacaa
