/-
  More laws of the walk: strings read by index in a region that draws; several bytes appended at once; slices of integers of the call's own.
-/
import Derived.Test.YtjfkiomegacpeaaDoorKit3
import Derived.Deep.RegionLaw
import Derived.Deep.AppendLies
import Derived.Deep.RegionHeldLaw
namespace Go.Proofs.YtjfkiomegacpeaaDoor
open Go.RowKit
/-! ### A string's bytes as the walk's tests have them -/
theorem bytes_loop (s : ByteArray) : ∀ (n i : Nat) (r : List UInt8), s.size - i = n → ByteArray.toList.loop s i r = r.reverse ++ s.data.toList.drop i
  | 0, i, r, h => by
    unfold ByteArray.toList.loop
    rw [if_neg (by omega), List.drop_of_length_le (by rw [Array.length_toList]; show s.size ≤ i; omega), List.append_nil]
  | n + 1, i, r, h => by
    unfold ByteArray.toList.loop
    have hi : i < s.data.toList.length := by rw [Array.length_toList]; show i < s.size; omega
    rw [if_pos (by omega), bytes_loop s n (i + 1) _ (by omega), List.drop_eq_getElem_cons hi]
    have hg : s.get! i = s.data.toList[i] := by
      have hi2 : i < s.data.size := by rw [Array.length_toList] at hi; exact hi
      show s.data[i]! = _
      rw [getElem!_pos s.data i hi2]
      simp
    rw [hg]
    simp
theorem toList_eq (s : ByteArray) : s.toList = s.data.toList := by
  unfold ByteArray.toList
  rw [bytes_loop s _ 0 [] rfl]
  simp
theorem str_ne {a b : ByteArray} (h : a ≠ b) : (a.toList == b.toList) = false := by
  rw [beq_eq_false_iff_ne, toList_eq, toList_eq]
  intro e
  exact h (by cases a; cases b; congr; exact Array.toList_inj.1 e)
section
variable {P : Program} {ops : Array Oper} {C : World → Prop} {R : Act → Prop} {rest : List Oper} {o : Oper} {a : Act}
theorem run_index_str {w : World} (ty : TypeId) (hu : P.underlying ty = some .string) (s : ByteArray) (k : IntKind) (i : Int) (h0 : 0 ≤ i) (h1 : i < s.size) :
    (Instr.index ty (.string s) (.int k i)).run P w = .ok (.int .u8 (byteAt s.data.toList i.toNat)) w := by
  have hj : i.toNat < s.size := by omega
  have hget : s[i.toNat]? = some (s.data.toList.getD i.toNat 0) := by
    rw [getElem?_pos s i.toNat hj]
    have h2 : i.toNat < s.data.toList.length := by rw [size_toList]; exact hj
    rw [List.getD_eq_getElem?_getD, List.getElem?_eq_getElem h2]
    rfl
  unfold byteAt
  simp only [Instr.index, asIntOf, Sem.run_bind, Sem.run_pure, Result.andThen_ok, run_underlying hu]
  simp only [h0, if_true, hget]
  rfl
/-- 's[i]', s a string, in a quiet region. -/
theorem quiet_index_str (hgd : o.guard = none) (ty : TypeId) (x ix : Operand) (ho : o.op = .index ty x ix) (hu : P.underlying ty = some .string) (s : ByteArray) (k : IntKind) (i : Int)
    (hx : a.eval x = .string s) (hix : a.eval ix = .int k i) (h0 : 0 ≤ i) (h1 : i < s.size)
    (h : wpQuiet P ops C R rest (a.put o.dst (.int .u8 (byteAt s.data.toList i.toNat)))) : wpQuiet P ops C R (o :: rest) a := by
  refine quiet_of_run hgd _ (fun w _ => ?_) h
  unfold execOp
  simp only [ho, hx, hix, Sem.run_bind, run_index_str ty hu s k i h0 h1, Result.andThen_ok, Sem.run_pure]
end
section
variable {P : Program} {w : World} {ops : Array Oper} {rest : List Oper} {o : Oper} {a : Act} {Q : Exit → Act → World → Prop}
/-- 'out = append(out, x, y ..)': the operands lie in a block of their own. -/
theorem wpList_append_many (hgd : o.guard = none) (s x : Operand) (t : TypeId) (ho : o.op = .call { callee := .builtin .append, args := #[s, x], argTypes := #[t, t] })
    (e : TypeId) (z : Value) (size bytes : Nat) (hE : ElemRow P t e z size bytes) (base : Nat) (v : Value) (n : Nat) (xs : List Value) (g m c : Nat) (news : List Value)
    (hs : a.eval s = v) (hx : a.eval x = .slice (some ⟨g, 0, none⟩) m c) (hown : w.ownsRow base e size v n xs)
    (hl : news.length = m * size) (hnews : ∀ j u, news[j]? = some u → w.cell? ⟨g, j, none⟩ = some u) (h1 : ∀ u ∈ news, u.oneCell' = true)
    (hbytes : (n + m) * bytes ≤ 140737488355328) (hn : n + m ≤ 140737488355328) (hbase : base ≤ w.heap.size)
    (h : ∀ v' w', w'.ownsRow base e size v' (n + m) (xs ++ news) → w.grownBy w' v.ownBlock → Below base w w' → wpList P ops Q rest (a.put o.dst v') w') : wpList P ops Q (o :: rest) a w := by
  obtain ⟨i, hi, hz, hsz, hby⟩ := info_parts hE.row
  refine wpList_append_own w hgd s x t ho base e i z size bytes hE.slice hi hz hsz hby hE.cells hE.pos v n xs hs hown ⟨g, 0, none⟩ m c news hx hl (fun j u hu => ?_) h1 (by unfold maxLen; omega) hbytes hbase (fun v' w' h2 h3 _ => h v' w' h2 h3 ?_)
  · have hadd : (⟨g, 0, none⟩ : Addr).add j = ⟨g, j, none⟩ := by unfold Addr.add; split <;> simp_all
    rw [hadd]
    exact hnews j u hu
  · exact (Below.refl base w).grown h3 hbase fun k hk => (hown.lt k hk).1
theorem wpList_push_two (hgd : o.guard = none) (s x : Operand) (t : TypeId) (ho : o.op = .call { callee := .builtin .append, args := #[s, x], argTypes := #[t, t] })
    (e : TypeId) (hE : ElemRow P t e (.int .u8 0) 1 1) (base : Nat) (v : Value) (l : List UInt8) (g c : Nat) (b d : UInt8)
    (hs : a.eval s = v) (hx : a.eval x = .slice (some ⟨g, 0, none⟩) 2 c) (hown : OwnB w base e v l) (hc : w.cell? ⟨g, 0, none⟩ = some (.int .u8 (b.toNat : Int))) (hd : w.cell? ⟨g, 1, none⟩ = some (.int .u8 (d.toNat : Int)))
    (hn : l.length + 2 ≤ 140737488355328) (hbase : base ≤ w.heap.size)
    (h : ∀ v' w', OwnB w' base e v' (l ++ [b, d]) → Below base w w' → wpList P ops Q rest (a.put o.dst v') w') : wpList P ops Q (o :: rest) a w :=
  wpList_append_many hgd s x t ho e _ 1 1 hE base v l.length (byteVals l) g 2 c [.int .u8 (b.toNat : Int), .int .u8 (d.toNat : Int)] hs hx hown rfl
    (fun j u hu => by
      match j, hu with
      | 0, hu => simp at hu; subst hu; exact hc
      | 1, hu => simp at hu; subst hu; exact hd)
    (fun u hu => by simp at hu; rcases hu with rfl | rfl <;> rfl) (by omega) hn hbase (fun v' w' h2 _ h4 => h v' w' (by unfold OwnB byteVals; rw [List.length_append, List.map_append]; exact h2) h4)
end
section
variable {P : Program} {w : World} {o : Oper} {a : Act} {K : Act → World → Prop} {Q : Exit → Act → World → Prop} {E : Prop}
/-- The same as a step of a region that draws its order. -/
theorem step_push_two {ops : Array Oper} (hgd : o.guard = none) (s x : Operand) (t : TypeId) (ho : o.op = .call { callee := .builtin .append, args := #[s, x], argTypes := #[t, t] })
    (e : TypeId) (hE : ElemRow P t e (.int .u8 0) 1 1) (base : Nat) (v : Value) (l : List UInt8) (g c : Nat) (b d : UInt8)
    (hs : a.eval s = v) (hx : a.eval x = .slice (some ⟨g, 0, none⟩) 2 c) (hown : OwnB w base e v l) (hc : w.cell? ⟨g, 0, none⟩ = some (.int .u8 (b.toNat : Int))) (hd : w.cell? ⟨g, 1, none⟩ = some (.int .u8 (d.toNat : Int)))
    (hn : l.length + 2 ≤ 140737488355328) (hbase : base ≤ w.heap.size)
    (h : ∀ v' w', OwnB w' base e v' (l ++ [b, d]) → Below base w w' → K (a.put o.dst v') w') : if Region.wanted o (yielded ops a.tmps) = true then Oper.wp P o a w K Q else E := by
  obtain ⟨i, hi, hz, hsz, hby⟩ := info_parts hE.row
  refine step_append_lies w hgd s x t ho base e i _ 1 1 hE.slice hi hz hsz hby hE.cells hE.pos v l.length (byteVals l) hs hown ⟨g, 0, none⟩ 2 c [.int .u8 (b.toNat : Int), .int .u8 (d.toNat : Int)] hx rfl (fun j u hu => ?_)
    (fun u hu => by simp at hu; rcases hu with rfl | rfl <;> rfl) (by decide) (by unfold maxLen; omega) (by omega) hbase w.heap.size rfl
    (fun g' cap w' h1 h2 _ _ => h _ w' (by unfold OwnB byteVals; rw [List.length_append, List.map_append]; exact h1) ((Below.refl base w).grown h2 hbase fun k hk => (World.ownsRow.lt hown k hk).1))
  have hadd : (⟨g, 0, none⟩ : Addr).add j = ⟨g, j, none⟩ := by unfold Addr.add; split <;> simp_all
  rw [hadd]
  match j, hu with
  | 0, hu => simp at hu; subst hu; exact hc
  | 1, hu => simp at hu; subst hu; exact hd
end
theorem ownsRow_full {w : World} {base g n : Nat} {e : TypeId} {xs : List Value} (h : w.ownsRow base e 1 (.slice (some ⟨g, 0, none⟩) n n) n xs) : Blk w g e xs.toArray ∧ base ≤ g := by
  rcases h.2 with ⟨h1, _⟩ | ⟨g', cap, cur, h1, hb, hg, _, _, hcs, htake⟩
  · cases h1
  · simp only [Value.slice.injEq, Option.some.injEq, Addr.mk.injEq, and_true, true_and] at h1
    obtain ⟨rfl, rfl⟩ := h1
    refine ⟨?_, hb⟩
    unfold Blk
    rw [hg, ← htake, List.take_of_length_le (by rw [Array.length_toList]; omega)]
section
variable {P : Program} {w : World} {ops : Array Oper} {rest : List Oper} {o : Oper} {a : Act} {Q : Exit → Act → World → Prop}
/-- 'make([]byte, n)'. -/
theorem wpList_make_full_bytes (hgd : o.guard = none) (l c : Operand) (t : TypeId) (ho : o.op = .makeSlice t l c) (e : TypeId) (hE : ElemRow P t e (.int .u8 0) 1 1)
    (kl kc : IntKind) (L C : Int) (n : Nat) (hl : a.eval l = .int kl L) (hc : a.eval c = .int kc C) (hL : L = (n : Int)) (hC : C = (n : Int)) (hn : n ≤ 281474976710656)
    (h : ∀ w', Blk w' w.heap.size e (arrOf .u8 n fun _ => 0) → Below w.heap.size w w' → wpList P ops Q rest (a.put o.dst (.slice (some ⟨w.heap.size, 0, none⟩) n n)) w') :
    wpList P ops Q (o :: rest) a w := by
  obtain ⟨i, hi, hz, hsz, hby⟩ := info_parts hE.row
  refine wpList_make_full w hgd l c t ho w.heap.size e i _ 1 hE.slice hi hz hsz kl kc L C n hl hc hL hC (by rw [hby]; omega) (by unfold maxLen; omega) (Nat.le_refl _)
    (fun w' h1 h2 => h w' ?_ ((Below.refl _ w).grown h2 (Nat.le_refl _) (fun k hk => by cases hk)))
  have h3 := (ownsRow_full h1).1
  rw [Array.toArray_toList] at h3
  have e2 : madeCells (Value.cells (.int .u8 0)) (n * 1) = arrOf .u8 n fun _ => 0 := by
    rw [Nat.mul_one]
    unfold madeCells arrOf
    apply Array.ext
    · simp
    · intro i h1 h2
      simp [Value.cells, Nat.mod_one]
  rw [e2] at h3
  exact h3
/-- 'string(b)', b the whole of a block of bytes. -/
theorem wpList_blk_string (hgd : o.guard = none) (src dst : TypeId) (x : Operand) (ho : o.op = .convert src dst x) (e : TypeId) (hs : P.underlying src = some (.slice e)) (he : P.underlying e = some (.int .u8)) (hd : P.underlying dst = some .string)
    (g n cap : Nat) (T : TypeId) (l : List UInt8) (hx : a.eval x = .slice (some ⟨g, 0, none⟩) n cap) (hn : l.length = n) (hg : Blk w g T (arrOf .u8 n (byteAt l)))
    (h : wpList P ops Q rest (a.put o.dst (.string ⟨l.toArray⟩)) w) : wpList P ops Q (o :: rest) a w := by
  refine wpList_plain hgd fun K hK => ?_
  subst hn
  have hrun := run_cells_string (P := P) (w := w) src dst e hs he hd g 0 cap l (fun j hj => by rw [Nat.zero_add]; exact hg.cell hj)
  unfold Oper.wp execOp
  simp only [ho, hx, Sem.run_bind, hrun, Result.andThen_ok]
  exact hK _ _ h
end
/-! ### Slices of integers of the call's own -/
def natVals (l : List Nat) : List Value := l.map fun b : Nat => .int .i64 (b : Int)
/-- A row of another element type is kept by an append. -/
theorem ownsRow_grown {w w' : World} {base base' size size' n n' : Nat} {e e' : TypeId} {v v' : Value} {xs xs' : List Value} (h : w.ownsRow base e size v n xs) (h' : w.ownsRow base' e' size' v' n' xs') (he : e ≠ e')
    (hg : w.grownBy w' v'.ownBlock) : w'.ownsRow base e size v n xs := by
  refine ⟨h.1, ?_⟩
  rcases h.2 with hn | ⟨g, cap, cur, rfl, hbg, hgq, r⟩
  · exact Or.inl hn
  · refine Or.inr ⟨g, cap, cur, rfl, hbg, ?_, r⟩
    rw [hg.block g (Array.getElem?_eq_some_iff.1 hgq).1 (fun hk => ?_)]
    · exact hgq
    · rcases h'.2 with ⟨rfl, _⟩ | ⟨g', cap', cur', rfl, _, hgq', _⟩
      · simp [Value.ownBlock] at hk
      · obtain rfl : g = g' := by simpa [Value.ownBlock] using hk
        rw [hgq] at hgq'
        simp only [Option.some.injEq, Obj.cells.injEq] at hgq'
        exact he hgq'.2.1
theorem Blk.grownB {w w' : World} {b base size n : Nat} {T e : TypeId} {cs : Array Value} {v : Value} {xs : List Value} (h : Blk w b T cs) (h' : w.ownsRow base e size v n xs) (he : T ≠ e) (hg : w.grownBy w' v.ownBlock) : Blk w' b T cs := by
  refine h.grown hg fun k hk hbk => ?_
  subst hbk
  rcases h'.2 with ⟨rfl, _⟩ | ⟨g', cap', cur', rfl, _, hgq', _⟩
  · simp [Value.ownBlock] at hk
  · obtain rfl : g' = b := by simpa [Value.ownBlock] using hk
    unfold Blk at h
    rw [h] at hgq'
    simp only [Option.some.injEq, Obj.cells.injEq] at hgq'
    exact he hgq'.2.1
/-- v is a slice of ints of the call's own (blocks from base on) and holds l. -/
def OwnN (w : World) (base : Nat) (e : TypeId) (v : Value) (l : List Nat) : Prop := w.ownsRow base e 1 v l.length (natVals l)
theorem OwnN.nil (w : World) (base : Nat) (e : TypeId) : OwnN w base e (.slice none 0 0) [] := World.ownsRow_nil _ _ _ _
theorem OwnN.below {w w' : World} {base B : Nat} {e : TypeId} {v : Value} {l : List Nat} (h : OwnN w base e v l) (hb : Below B w w') (hlt : ∀ k, v.ownBlock = some k → k < B) : OwnN w' base e v l := by
  refine ⟨h.1, ?_⟩
  rcases h.2 with hn | ⟨g, cap, cur, rfl, hbg, hg, r⟩
  · exact Or.inl hn
  · exact Or.inr ⟨g, cap, cur, rfl, hbg, by rw [hb.block g (hlt g rfl)]; exact hg, r⟩
theorem OwnN.lt {w : World} {base : Nat} {e : TypeId} {v : Value} {l : List Nat} (h : OwnN w base e v l) : ∀ k, v.ownBlock = some k → base ≤ k ∧ k < w.heap.size := fun k hk => World.ownsRow.lt h k hk
theorem OwnN.keep {w w' : World} {base : Nat} {e : TypeId} {v : Value} {l : List Nat} (h : OwnN w base e v l) (hb : Below w.heap.size w w') : OwnN w' base e v l := h.below hb fun k hk => (h.lt k hk).2
theorem OwnN.alloc {w : World} {base : Nat} {e : TypeId} {v : Value} {l : List Nat} (h : OwnN w base e v l) (o : Obj) : OwnN (w.alloc o) base e v l := h.keep (below_alloc o)
theorem OwnN.form {w : World} {base : Nat} {e : TypeId} {v : Value} {l : List Nat} (h : OwnN w base e v l) : (v = .slice none 0 0 ∧ l = []) ∨ ∃ g cap, v = .slice (some ⟨g, 0, none⟩) l.length cap ∧ l.length ≤ cap ∧ base ≤ g ∧ g < w.heap.size := by
  rcases h.2 with ⟨h1, h0⟩ | ⟨g, cap, cur, rfl, hb, hg, hnc, _⟩
  · exact .inl ⟨h1, List.eq_nil_of_length_eq_zero h0⟩
  · exact .inr ⟨g, cap, rfl, hnc, hb, (Array.getElem?_eq_some_iff.1 hg).1⟩
theorem OwnN.cell {w : World} {base : Nat} {e : TypeId} {g n cap : Nat} {l : List Nat} (h : OwnN w base e (.slice (some ⟨g, 0, none⟩) n cap) l) (j : Nat) (hj : j < l.length) : w.cell? ⟨g, j, none⟩ = some (.int .i64 (l.getD j 0 : Nat)) := by
  have hn : n = l.length := by
    rcases h.2 with ⟨h1, _⟩ | ⟨g', cap', cur, h1, _⟩
    · cases h1
    · simp only [Value.slice.injEq] at h1; exact h1.2.1
  subst hn
  rw [World.ownsRow.cellAt h j (by omega)]
  unfold natVals
  rw [List.getElem?_map, List.getElem?_eq_getElem hj, List.getD_eq_getElem?_getD, List.getElem?_eq_getElem hj]
  rfl
theorem OwnB.form {w : World} {base : Nat} {e : TypeId} {v : Value} {l : List UInt8} (h : OwnB w base e v l) : (v = .slice none 0 0 ∧ l = []) ∨ ∃ g cap, v = .slice (some ⟨g, 0, none⟩) l.length cap ∧ l.length ≤ cap ∧ base ≤ g ∧ g < w.heap.size := by
  rcases h.2 with ⟨h1, h0⟩ | ⟨g, cap, cur, rfl, hb, hg, hnc, _⟩
  · exact .inl ⟨h1, List.eq_nil_of_length_eq_zero h0⟩
  · exact .inr ⟨g, cap, rfl, hnc, hb, (Array.getElem?_eq_some_iff.1 hg).1⟩
theorem OwnB.keep {w w' : World} {base : Nat} {e : TypeId} {v : Value} {l : List UInt8} (h : OwnB w base e v l) (hb : Below w.heap.size w w') : OwnB w' base e v l := h.below hb fun k hk => (World.ownsRow.lt h k hk).2
section
variable {P : Program} {w : World} {ops : Array Oper} {rest : List Oper} {o : Oper} {a : Act} {Q : Exit → Act → World → Prop}
theorem wpList_push_nat (hgd : o.guard = none) (s x : Operand) (t : TypeId) (ho : o.op = .call { callee := .builtin .append, args := #[s, x], argTypes := #[t, t] })
    (e : TypeId) (hE : ElemRow P t e (.int .i64 0) 1 8) (base : Nat) (v : Value) (l : List Nat) (g c : Nat) (b : Nat)
    (hs : a.eval s = v) (hx : a.eval x = .slice (some ⟨g, 0, none⟩) 1 c) (hown : OwnN w base e v l) (hc : w.cell? ⟨g, 0, none⟩ = some (.int .i64 (b : Int)))
    (hn : l.length < 1099511627776) (hbase : base ≤ w.heap.size)
    (h : ∀ v' w', OwnN w' base e v' (l ++ [b]) → Below base w w' → wpList P ops Q rest (a.put o.dst v') w') : wpList P ops Q (o :: rest) a w :=
  wpList_append_one hgd s x t ho e _ 1 8 hE base v l.length (natVals l) g c [.int .i64 (b : Int)] hs hx hown rfl
    (fun j u hu => by
      match j, hu with
      | 0, hu => simp at hu; subst hu; exact hc)
    (fun u hu => by simp at hu; subst hu; rfl) (by omega) (by omega) hbase (fun v' w' h2 _ h4 => h v' w' (by unfold OwnN natVals; rw [List.length_append, List.map_append]; exact h2) h4)
end
end Go.Proofs.YtjfkiomegacpeaaDoor
