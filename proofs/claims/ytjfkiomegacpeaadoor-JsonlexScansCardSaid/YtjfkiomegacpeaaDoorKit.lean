/-
  General lemmas on worlds, blocks of cells and arrays of integers. No program stands in it.
-/
import Derived.WalkKit
import Derived.Deep.QuietTactic
import Derived.BigQuiet
import Derived.StillTailTactics
namespace Go.Proofs.YtjfkiomegacpeaaDoor
open Go.RowKit

/-! ### Arrays of integers, as a function -/
def arrOf (k : IntKind) (n : Nat) (f : Nat → Int) : Array Value := ((List.range n).map fun j => .int k (f j)).toArray
def upd (f : Nat → Int) (i : Nat) (v : Int) : Nat → Int := fun j => if j = i then v else f j
theorem upd_same (f : Nat → Int) (i : Nat) (v : Int) : upd f i v i = v := by simp [upd]
theorem upd_ne (f : Nat → Int) (i j : Nat) (v : Int) (h : j ≠ i) : upd f i v j = f j := by simp [upd, h]
theorem arr_get (k : IntKind) (n : Nat) (f : Nat → Int) (j : Nat) (h : j < n) : (arrOf k n f)[j]? = some (.int k (f j)) := by
  simp [arrOf, h]
theorem arr_size (k : IntKind) (n : Nat) (f : Nat → Int) : (arrOf k n f).size = n := by simp [arrOf]
theorem arr_congr (k : IntKind) (n : Nat) (f g : Nat → Int) (h : ∀ j, j < n → f j = g j) : arrOf k n f = arrOf k n g := by
  unfold arrOf
  congr 1
  exact List.map_congr_left fun j hj => by rw [h j (by simpa using hj)]
theorem arr_set (k : IntKind) (n : Nat) (f : Nat → Int) (i : Nat) (v : Int) : (arrOf k n f).setIfInBounds i (.int k v) = arrOf k n (upd f i v) := by
  apply Array.ext
  · simp [arr_size]
  · intro j h1 h2
    simp only [Array.size_setIfInBounds, arr_size] at h1
    have e1 := arr_get k n (upd f i v) j h1
    have e2 := arr_get k n f j h1
    have hj : j < (arrOf k n f).size := by simpa [arr_size] using h1
    have hj' : j < (arrOf k n (upd f i v)).size := by simpa [arr_size] using h1
    rw [Array.getElem?_eq_getElem hj'] at e1
    rw [Array.getElem?_eq_getElem hj] at e2
    rw [Option.some.inj e1, Array.getElem_setIfInBounds hj]
    by_cases h : i = j
    · simp [h, upd]
    · have h' : j ≠ i := fun e => h e.symm
      simp only [h, h', upd, if_false]; exact Option.some.inj e2
theorem arr_one (k : IntKind) (n : Nat) (f : Nat → Int) : (arrOf k n f).all (·.oneCell') = true := by
  rw [Array.all_eq_true_iff_forall_mem]
  intro v hv
  simp only [arrOf, List.mem_toArray, List.mem_map] at hv
  obtain ⟨j, _, rfl⟩ := hv
  rfl

/-! ### Blocks -/
/-- Block b of w holds the cells cs (of a variable of type T) and is not frozen. -/
def Blk (w : World) (b : Nat) (T : TypeId) (cs : Array Value) : Prop := w.heap[b]? = some (.cells cs T (0, 0))
namespace Blk
variable {w w' : World} {b g : Nat} {T : TypeId} {cs old : Array Value} {k : IntKind} {n : Nat} {f : Nat → Int}
theorem lt (h : Blk w b T cs) : b < w.heap.size := (Array.getElem?_eq_some_iff.1 h).1
theorem cell (h : Blk w b T (arrOf k n f)) {j : Nat} (hj : j < n) : w.cell? ⟨b, j, none⟩ = some (.int k (f j)) := by
  rw [cell_of_row w b j _ _ _ h, arr_get _ _ _ _ hj]
theorem at_ (h : Blk w b T cs) (j : Nat) : w.cell? ⟨b, j, none⟩ = cs[j]? := cell_of_row w b j _ _ _ h
theorem free (h : Blk w b T cs) (j : Nat) : w.frozen? ⟨b, j, none⟩ = false := frozen_of_row w b j _ _ h
theorem new (w : World) (T : TypeId) (cs : Array Value) : Blk (w.alloc (.cells cs T)) w.heap.size T cs := heap_alloc_new w _
theorem alloc (h : Blk w b T cs) (o : Obj) : Blk (w.alloc o) b T cs := (heap_alloc_old w o (lt h)).trans h
theorem row (h : Blk w g T old) (cs : Array Value) : Blk (w.setRow g cs) g T cs := setRow_heap w g old cs T _ h
theorem row_other (h : Blk w b T cs) {g : Nat} (hb : b ≠ g) (c : Array Value) : Blk (w.setRow g c) b T cs := (setRow_other w g b c hb).trans h
theorem set (h : Blk w g T (arrOf k n f)) (i : Nat) (v : Int) : Blk (w.setCell ⟨g, i, none⟩ (.int k v)) g T (arrOf k n (upd f i v)) := by
  have := heap_setCell_same w g i _ T (.int k v) h
  rw [arr_set] at this
  exact this
theorem put (h : Blk w g T cs) (i : Nat) (v : Value) : Blk (w.setCell ⟨g, i, none⟩ v) g T (cs.setIfInBounds i v) := heap_setCell_same w g i _ T v h
theorem set_other (h : Blk w b T cs) {a : Addr} (hb : b ≠ a.block) (v : Value) : Blk (w.setCell a v) b T cs := (heap_setCell_other w a b v hb).trans h
theorem below {B : Nat} (h : Blk w b T cs) (hb : Below B w w') (hB : b < B) : Blk w' b T cs := (hb.block b hB).trans h
end Blk
theorem setRow_below {B g : Nat} {w0 w : World} (hb : Below B w0 w) (hBg : B ≤ g) (cs : Array Value) : Below B w0 (w.setRow g cs) :=
  hb.trans ⟨rfl, rfl, rfl, by simp, fun k hk => setRow_other w g k cs (by omega)⟩
theorem drewN_below {B : Nat} {a w : World} (h : Below B a w) (n : Nat) : Below B a (w.drewN n) := h.trans ⟨rfl, rfl, rfl, Nat.le_refl _, fun _ _ => rfl⟩
theorem below_alloc {w : World} (o : Obj) : Below w.heap.size w (w.alloc o) := (Below.refl _ _).alloc (Nat.le_refl _) o
theorem below_drewN (w : World) (n : Nat) : Below w.heap.size w (w.drewN n) := drewN_below (Below.refl _ _) n

/-! ### Laws of the walk -/
section
variable {P : Program} {ops : Array Oper} {rest : List Oper} {o : Oper} {a : Act} {w : World} {Q : Exit → Act → World → Prop}
/-- 'var x T', T an array or a struct: the new block's cells under a name. -/
theorem wpList_alloc_sym (hg : o.guard = none) (t : TypeId) (hop : o.op = .alloc t) (cs : Array Value) (hz : (P.info? t).bind (·.zero) = some (.agg cs))
    (h : wpList P ops Q rest (a.put o.dst (.pointer (some ⟨w.heap.size, 0, none⟩))) (w.alloc (.cells cs t))) : wpList P ops Q (o :: rest) a w := by
  refine wpList_plain hg fun K hK => ?_
  cases hi : P.info? t with
  | none => simp [hi] at hz
  | some i =>
    have hz' : i.zero = some (.agg cs) := by simpa [hi] using hz
    unfold Oper.wp execOp
    simp only [hop]
    have : (Instr.alloc t true (.tuple #[])).run P w = .ok (.pointer (some ⟨w.heap.size, 0, none⟩)) (w.alloc (.cells cs t)) := by
      simp [Instr.alloc, zeroValue, typeInfo, hi, hz', newVar, newRow, newObj, Value.cells]; rfl
    simp only [Sem.run_bind, this, Result.andThen_ok]
    exact hK _ _ h
/-- A struct or an array of constants and slots: its cells under a name. -/
theorem wpList_build_sym (hg : o.guard = none) (t : TypeId) (parts : Array (Nat × Operand)) (ho : o.op = .build t parts)
    (cs : Array Value) (hb : P.built t (parts.map fun (i, x) => (i, a.eval x)).toList = some cs)
    (h : wpList P ops Q rest (a.put o.dst (.agg cs)) w) : wpList P ops Q (o :: rest) a w :=
  wpList_build hg t parts ho (by rw [hb]; rfl) (by rw [hb]; exact h)
/-- A whole array is stored into a variable of its own block. -/
theorem wpList_store_arr (hgd : o.guard = none) (ty : TypeId) (x y : Operand) (ho : o.op = .store ty x y) (hd : o.dst = none)
    (g : Nat) (k : IntKind) (n : Nat) (f : Nat → Int) (t : TypeId) (old : Array Value) (hi : (P.info? ty).map (·.size) = some n)
    (hx : a.eval x = .pointer (some ⟨g, 0, none⟩)) (hy : a.eval y = .agg (arrOf k n f))
    (hg : Blk w g t old) (hold : old.size = n)
    (h : wpList P ops Q rest a (w.setRow g (arrOf k n f))) : wpList P ops Q (o :: rest) a w :=
  wpList_store_row hgd ty x y ho g _ hx hy t old hg (by rw [hi, arr_size]) (by rw [hold, arr_size]) (arr_one _ _ _) (by rw [hd]; exact h)
/-- A whole array is loaded. -/
theorem wpList_load_arr (hgd : o.guard = none) (ty : TypeId) (x : Operand) (ho : o.op = .load ty x)
    (g : Nat) (k : IntKind) (n : Nat) (f : Nat → Int) (t : TypeId) (e : TypeId) (hu : P.underlying ty = some (.array n e)) (hi : (P.info? ty).map (·.size) = some n)
    (hx : a.eval x = .pointer (some ⟨g, 0, none⟩)) (hg : Blk w g t (arrOf k n f))
    (h : wpList P ops Q rest (a.put o.dst (.agg (arrOf k n f))) w) : wpList P ops Q (o :: rest) a w :=
  wpList_load_row hgd ty x ho g hx t (arrOf k n f) _ _ hg hu rfl (by rw [hi, arr_size]) h
/-- The one result is an array in a block of its own. -/
theorem results_arr {fn : Func} {p : Tmp} {ty : TypeId} (h : fn.results = #[.cell p ty]) (tmps : Array Value) (w : World) (g : Nat) (t : TypeId) (k : IntKind) (n : Nat) (f : Nat → Int) (e : TypeId)
    (hu : P.underlying ty = some (.array n e)) (hi : (P.info? ty).map (·.size) = some n) (hp : tmps.getD p undef = .pointer (some ⟨g, 0, none⟩)) (hg : Blk w g t (arrOf k n f)) :
    (results fn tmps).run P w = .ok (.agg (arrOf k n f)) w :=
  results_cell_row h tmps w g t _ _ _ hp hg hu rfl (by rw [hi, arr_size])
end

/-! ### A region that draws its order: reads and computes, then stores at its end -/
theorem still_of_quiet {P : Program} {ops : Array Oper} {w : World} {Q : Act → Prop} : ∀ (l : List Oper) (a : Act), wpQuiet P ops (fun w' => w' = w) Q l a → wpStill P ops w Q l a
  | [], _, h => h
  | o :: l, a, h => by
    unfold wpQuiet at h
    unfold wpStill
    by_cases hw : Region.wanted o (yielded ops a.tmps) = true
    · rw [if_pos hw] at h ⊢
      obtain ⟨v, h1, h2⟩ := h
      have h3 := h1 w rfl
      have h4 := still_of_quiet l _ h2
      unfold Oper.quietAt at h3
      unfold Oper.still
      generalize (execOp a.eval o).run P w = r at *
      cases r with
      | ok n w' =>
        cases n <;> simp only [Oper.quietUpon] at h3 <;> simp only [Oper.stillUpon]
        case value u => obtain ⟨e1, e2⟩ := h3; subst e2; exact ⟨e1, h4⟩
        case skip => obtain ⟨e1, e2⟩ := h3; subst e2; exact ⟨e1, h4⟩
        case enter f args => obtain ⟨e1, hc⟩ := h3; exact ⟨e1, v, hc, h4⟩
      | halt x w' => simp only [Oper.quietUpon] at h3
    · rw [if_neg hw] at h ⊢
      exact still_of_quiet l _ h
theorem wp_region_quiet_tail {P : Program} {id : Nat} {Q : Exit → Act → World → Prop} {a : Act} {w : World} {l : List Oper} (n : Nat) (hm : P.follows .mixedOrders = true) (hB : Region.lexTailB .any l.toArray n = true)
    (h : wpQuiet P l.toArray (fun w' => w' = w.drew) (fun a' => wpList P l.toArray Q (l.drop n) a' w.drew) (l.take n) a) : (Code.region id l.toArray true).wp P Q a w :=
  wp_region_still_tail n hm hB (still_of_quiet _ _ h)
/-- The same, the whole region quiet at one world. -/
theorem wp_region_quiet_one {P : Program} {id : Nat} {Q : Exit → Act → World → Prop} {a : Act} {w : World} {l : List Oper} (hm : P.follows .mixedOrders = true) (hB : Region.lexB .any l.toArray = true)
    (h : wpQuiet P l.toArray (fun w' => w' = w.drew) (fun a' => Q .normal a' w.drew) l a) : (Code.region id l.toArray true).wp P Q a w :=
  wp_region_still_lit hm hB (still_of_quiet _ _ h)
/-! The same over a class of worlds: the head may hold calls that make memory, as long as what they hand back is known and the class is kept. -/
section
variable {P : Program} {ops : Array Oper} {md : Region.Mode} {C : World → Prop}
/-- Whatever order is picked for the first f operations, all of them below n; L holds behind them. -/
def headAll (P : Program) (md : Region.Mode) (ops : Array Oper) (C : World → Prop) (n : Nat) (L : Array Bool → Act → Prop) : Nat → Array Bool → Act → Prop
  | 0, listed, a => L listed a
  | f + 1, listed, a => Region.ready md ops listed ≠ [] ∧ ∀ i ∈ Region.ready md ops listed, i < n ∧ qOp P ops C i (headAll P md ops C n L f (listed.setIfInBounds i true)) a
theorem any_of_head {n g : Nat} {L : Array Bool → Act → Prop} {Q' : Exit → Act → World → Prop} (hL : ∀ listed a w, C w → L listed a → wpAny P md ops Q' g listed a w) :
    ∀ (f : Nat) (listed : Array Bool) (a : Act) (w : World), C w → headAll P md ops C n L f listed a → wpAny P md ops Q' (f + g) listed a w
  | 0, listed, a, w, hw, h => by rw [Nat.zero_add]; exact hL _ _ _ hw h
  | f + 1, listed, a, w, hw, h => by
    rw [Nat.succ_add_eq_add_succ, Nat.add_succ]
    exact ⟨fun h0 => absurd h0 h.1, fun i hi => wpOp_of_qOp hw (fun a' w' hw' h' => any_of_head hL f _ a' w' hw' h') (h.2 i hi).2⟩
theorem head_first {n i : Nat} {oi : Oper} {v : Value} {L : Array Bool → Act → Prop} (hi : ops[i]? = some oi) (hsel : ∀ (j : Nat) (o : Oper) cs b, ops[j]? = some o → o.op ≠ .select cs b)
    (hs : Region.sinkB md ops n = true) (hc : Region.chainB md ops n = true) (hn : n < ops.size) (hin : i < n) (hdone : ∀ listed a, L listed a → ∀ j ∈ Region.ready md ops listed, n ≤ j) :
    ∀ (f : Nat) (listed : Array Bool) (a : Act), HeadInv md ops n listed →
      (∀ j oj, ops[j]? = some oj → j ≠ i → listed.getD j true = false → (∀ e ∈ oj.after, Region.binds md e = true → e.on ≠ i) → oi.apart ops oj = true) →
      i ∈ Region.ready md ops listed → YieldsIn P ops C oi v a → headAll P md ops C n L f (listed.setIfInBounds i true) (a.put oi.dst v) → headAll P md ops C n L (f + 1) listed a := by
  intro f
  induction f with
  | zero =>
    intro listed a inv _ hr hy H
    have hun := (mem_ready.1 hr).1
    refine ⟨List.ne_nil_of_mem hr, fun j hj => ?_⟩
    have hjn : j < n := Nat.lt_of_not_le fun h => tail_waits hs hc hn inv _ i rfl hin hun j h hj
    by_cases hji : j = i
    · subst hji; exact ⟨hjn, hy.qOp hi H⟩
    · have := hdone _ _ H j (ready_mono hj hji)
      omega
  | succ f ih =>
    intro listed a inv hfree hr hy H
    have hun := (mem_ready.1 hr).1
    refine ⟨List.ne_nil_of_mem hr, fun j hj => ?_⟩
    have hjn : j < n := Nat.lt_of_not_le fun h => tail_waits hs hc hn inv _ i rfl hin hun j h hj
    refine ⟨hjn, ?_⟩
    by_cases hji : j = i
    · subst hji; exact hy.qOp hi H
    · have h1 := (H.2 j (ready_mono hj hji)).2
      obtain ⟨hjun, oj, hoj, hall⟩ := mem_ready.1 hj
      have hnot : ∀ e ∈ oj.after, Region.binds md e = true → e.on ≠ i := fun e he hb heq => by
        have h1 := hall e he hb
        rw [heq, getD_both hun] at h1
        cases h1
      refine qOp_mono (fun a' h3 => ih (listed.setIfInBounds j true) a' (inv.set hj hjn) ?_ (ready_mono hr (Ne.symm hji)) h3.1 (by rw [Array.setIfInBounds_comm _ _ hji]; exact h3.2))
        (qOp_put hoj (hfree j oj hoj hji hjun hnot) (fun cs b => hsel i oi cs b hi) (fun cs b => hsel j oj cs b hoj) hy h1)
      intro k ok hk hki hkun hno
      refine hfree k ok hk hki ?_ hno
      by_cases hjk : j = k
      · subst hjk; exact hjun
      · rwa [getD_set_ne true hjk] at hkun
theorem head_lex {n g : Nat} {Lq : Act → Prop} (hsel : Region.noSelect ops = true) (hs : Region.sinkB md ops n = true) (hc : Region.chainB md ops n = true) (hn : n < ops.size) :
    ∀ (l : List Oper) (k : Nat) (listed : Array Bool) (a : Act), (∀ j, j < l.length → l[j]? = ops[k + j]?) → k + l.length = n → HeadInv md ops n listed →
    Region.lexHead md ops g l.length k listed = true → wpQuiet P ops C Lq l a →
    headAll P md ops C n (fun listed' a' => Region.seqB md ops g n listed' = true ∧ Lq a') l.length listed a
  | [], k, listed, a, _, hk, _, hB, h => by
    obtain rfl : k = n := by simpa using hk
    exact ⟨by simpa [Region.lexHead] using hB, h⟩
  | o :: l, k, listed, a, hl, hk, inv, hB, h => by
    have h0 : ops[k]? = some o := by simpa using (hl 0 (by simp)).symm
    simp only [List.length_cons, Region.lexHead, Bool.and_eq_true] at hB
    simp only [List.length_cons] at hk
    have hr : k ∈ Region.ready md ops listed := by simpa using hB.1.1
    have hq : qOp P ops C k (wpQuiet P ops C Lq l) a := by unfold qOp; simp only [h0]; exact h
    obtain ⟨v, hy, hK⟩ := yieldsIn_of_qOp h0 hq
    refine head_first h0 (Region.noSelect_spec hsel) hs hc hn (by omega) (fun listed' a' hL => seqB_ready hL.1) l.length listed a inv (Region.free_spec h0 hB.1.2) hr hy ?_
    exact head_lex hsel hs hc hn l (k + 1) _ _ (fun j hj => by have := hl (j + 1) (by simp; omega); simpa [Nat.add_assoc, Nat.add_comm 1 j] using this) (by omega) (inv.set hr (by omega)) hB.2 hK
/-- A region that draws its order: the first n operations are quiet in a class of worlds, the rest waits for them and runs in the text's order. -/
theorem wp_region_class_tail {id : Nat} {Q : Exit → Act → World → Prop} {a : Act} {w : World} {l : List Oper} (C : World → Prop) (n : Nat) (hm : P.follows .mixedOrders = true) (hB : Region.lexTailB .any l.toArray n = true)
    (hC : C w.drew) (h : wpQuiet P l.toArray C (fun a' => ∀ w', C w' → wpList P l.toArray Q (l.drop n) a' w') (l.take n) a) : (Code.region id l.toArray true).wp P Q a w := by
  simp only [Region.lexTailB, Bool.and_eq_true, decide_eq_true_eq] at hB
  have hn' : n < l.length := by simpa using hB.1.1.1.2
  have htl : (l.take n).length = n := by simp; omega
  have hdl : (l.drop n).length = l.toArray.size - n := by simp
  have inv0 : HeadInv .any l.toArray n (Array.replicate l.toArray.size false) :=
    ⟨by simp, fun j oj _ hl => (by rw [getD_replicate_false] at hl; cases hl), fun t _ ht => getD_in (by simpa using ht) (getD_replicate_false _ _)⟩
  have hhead := head_lex (md := .any) (g := l.toArray.size - n) hB.1.1.1.1 hB.1.1.2 hB.1.2 hB.1.1.1.2 (l.take n) 0 _ a
    (fun j hj => by rw [htl] at hj; simp [hj]) (by rw [htl]; omega) inv0 (by rw [htl]; exact hB.2) h
  refine wp_region_any hm ?_
  have hsz : l.toArray.size = (l.take n).length + (l.toArray.size - n) := by rw [htl]; simp; omega
  have hres := any_of_head (Q' := Q) (g := l.toArray.size - n) (fun listed' a' w' hw' (hL : Region.seqB .any l.toArray (l.toArray.size - n) n listed' = true ∧ ∀ w', C w' → wpList P l.toArray Q (l.drop n) a' w') => by
    have := wpAny_of_seq (P := P) (Q' := Q) (md := .any) (l.drop n) n listed' a' w' (fun j => by simp [List.getElem?_drop]) (by rw [hdl]; exact hL.1) (hL.2 w' hw')
    rwa [hdl] at this) _ _ _ _ hC hhead
  rw [← hsz] at hres
  exact hres
end
/-- A quiet callee met in the world 'w.drewN (a + n)' (behind an earlier draw). -/
theorem quiet_at {P : Program} {f : FuncId} {args : Array Value} {w : World} {a n : Nat} {v : Value}
    (h : Calls P f args (w.drewN (a + n)) fun e w' => e = .returned v ∧ ∃ m, w' = (w.drewN (a + n)).drewN m) : Calls P f args (w.drewN (a + n)) fun e w'' => e = .returned v ∧ ∃ m, w'' = w.drewN (a + m) :=
  h.mono fun _ _ ⟨he, m, hm⟩ => ⟨he, n + m, by rw [hm, World.drewN_drewN, Nat.add_assoc]⟩

/-! ### Rows of cells, as a function -/
/-- The byte at a place of a list of bytes; 0 behind its end. -/
def byteAt (l : List UInt8) (j : Nat) : Int := ((l.getD j 0).toNat : Int)
theorem size_toList (s : ByteArray) : s.data.toList.length = s.size := Array.length_toList
theorem byteAt_bd (l : List UInt8) (j : Nat) : 0 ≤ byteAt l j ∧ byteAt l j < 256 := by
  unfold byteAt
  have := (l.getD j 0).toNat_lt
  omega
def rowOf (n : Nat) (c : Nat → Value) : Array Value := ((List.range n).map c).toArray
theorem arr_row (k : IntKind) (n : Nat) (f : Nat → Int) : arrOf k n f = rowOf n (fun j => .int k (f j)) := rfl
theorem row_size (n : Nat) (c : Nat → Value) : (rowOf n c).size = n := by simp [rowOf]
theorem row_get (n : Nat) (c : Nat → Value) (j : Nat) (h : j < n) : (rowOf n c)[j]? = some (c j) := by simp [rowOf, h]
theorem row_congr (n : Nat) (c d : Nat → Value) (h : ∀ j, j < n → c j = d j) : rowOf n c = rowOf n d := by
  unfold rowOf
  congr 1
  exact List.map_congr_left fun j hj => h j (by simpa using hj)
theorem row_ext (n : Nat) (c : Nat → Value) (l : List Value) (hl : l.length = n) (h : ∀ j, j < n → l[j]? = some (c j)) : l.toArray = rowOf n c := by
  unfold rowOf
  congr 1
  apply List.ext_getElem?
  intro j
  by_cases hj : j < n
  · rw [h j hj]; simp [hj]
  · rw [List.getElem?_eq_none (by omega), List.getElem?_eq_none (by simp; omega)]
/-- The cells from o on, m of them, replaced. -/
def seg (c : Nat → Value) (o m : Nat) (v : Nat → Value) : Nat → Value := fun j => if o ≤ j ∧ j < o + m then v (j - o) else c j
theorem row_splice (n o m : Nat) (c v : Nat → Value) (h : o + m ≤ n) :
    ((rowOf n c).toList.take o ++ (rowOf m v).toList ++ (rowOf n c).toList.drop (o + m)).toArray = rowOf n (seg c o m v) := by
  apply row_ext
  · simp [rowOf]; omega
  · intro j hj
    have e : ∀ i, i < n → (rowOf n c).toList[i]? = some (c i) := fun i hi => by simpa using row_get n c i hi
    have e' : ∀ i, i < m → (rowOf m v).toList[i]? = some (v i) := fun i hi => by simpa using row_get m v i hi
    have hl : (rowOf n c).toList.length = n := by simp [rowOf]
    have hl' : (rowOf m v).toList.length = m := by simp [rowOf]
    unfold seg
    by_cases h1 : j < o
    · rw [if_neg (by omega), List.append_assoc, List.getElem?_append_left (by simp [hl]; omega), List.getElem?_take, if_pos h1, e j hj]
    · by_cases h2 : j < o + m
      · rw [if_pos ⟨by omega, h2⟩, List.append_assoc, List.getElem?_append_right (by simp [hl]; omega), List.getElem?_append_left (by simp [hl, hl']; omega)]
        rw [show j - (List.take o (rowOf n c).toList).length = j - o by simp [hl]; omega]
        exact e' _ (by omega)
      · rw [if_neg (by omega), List.getElem?_append_right (by simp [hl, hl']; omega), List.getElem?_drop]
        rw [show o + m + (j - (List.take o (rowOf n c).toList ++ (rowOf m v).toList).length) = j by simp [hl, hl']; omega]
        exact e j hj
theorem row_put (n i : Nat) (c : Nat → Value) (v : Value) (h : i < n) : (rowOf n c).setIfInBounds i v = rowOf n (seg c i 1 (fun _ => v)) := by
  have := row_splice n i 1 c (fun _ => v) (by omega)
  rw [← this]
  have e1 : (rowOf 1 fun _ => v).toList = [v] := rfl
  rw [e1]
  apply Array.ext'
  simp only [Array.toList_setIfInBounds]
  rw [List.set_eq_take_append_cons_drop, if_pos (by simpa [rowOf] using h)]
  simp
theorem seg_all (n : Nat) (c v : Nat → Value) : rowOf n (seg c 0 n v) = rowOf n v :=
  row_congr _ _ _ fun j hj => by unfold seg; rw [if_pos ⟨by omega, by omega⟩]; rfl
theorem row_one (n : Nat) (c : Nat → Value) (h : ∀ j, j < n → (c j).oneCell' = true) : ∀ v ∈ (rowOf n c).toList, v.oneCell' = true := by
  intro v hv
  simp only [rowOf, List.mem_map, List.mem_range] at hv
  obtain ⟨j, hj, rfl⟩ := hv
  exact h j hj
namespace Blk
variable {w w' : World} {b g : Nat} {T : TypeId} {n : Nat} {c : Nat → Value}
theorem get (h : Blk w b T (rowOf n c)) {j : Nat} (hj : j < n) : w.cell? ⟨b, j, none⟩ = some (c j) := by
  rw [cell_of_row w b j _ _ _ h, row_get _ _ _ hj]
theorem put1 (h : Blk w g T (rowOf n c)) {i : Nat} (hi : i < n) (v : Value) : Blk (w.setCell ⟨g, i, none⟩ v) g T (rowOf n (seg c i 1 (fun _ => v))) := by
  have := heap_setCell_same w g i _ T v h
  rw [row_put n i c v hi] at this
  exact this
end Blk
section
variable {P : Program} {w : World}
theorem run_loadVar_seg (g o : Nat) (t ty : TypeId) (n m : Nat) (c : Nat → Value) (d : TypeDesc) (hg : Blk w g t (rowOf n c))
    (hu : P.underlying ty = some d) (hd : (match d with | .struct _ | .array _ _ => true | _ => false) = true) (hi : (P.info? ty).map (·.size) = some m) (hm : o + m ≤ n) :
    (loadVar ty ⟨g, o, none⟩).run P w = .ok (.agg (rowOf m fun j => c (o + j))) w := by
  have hl : (loadCells ⟨g, o, none⟩ (rowOf m fun j => c (o + j)).toList.length).run P w = .ok (rowOf m fun j => c (o + j)).toList.toArray w :=
    run_loadCells_list (P := P) w ⟨g, o, none⟩ (rowOf m fun j => c (o + j)).toList (fun j v hv => by
      have hj : j < m := by
        have h0 := (List.getElem?_eq_some_iff.1 hv).1
        have h2 : (rowOf m fun j => c (o + j)).toList.length = m := by simp [rowOf]
        omega
      have hadd : (⟨g, o, none⟩ : Addr).add j = ⟨g, o + j, none⟩ := by unfold Addr.add; split <;> simp_all
      rw [hadd, hg.get (by omega)]
      have := row_get m (fun j => c (o + j)) j hj
      rw [← this]
      simpa using hv)
  cases hq : P.info? ty with
  | none => simp [hq] at hi
  | some i =>
    have hs : i.size = m := by simpa [hq] using hi
    have hagg : (isAgg ty).run P w = .ok true w := by
      unfold isAgg
      rw [Sem.run_bind, run_underlying hu w]
      cases d <;> simp_all
    simp only [Array.length_toList, Array.toArray_toList, row_size] at hl
    simp [loadVar, Sem.run_bind, hagg, sizeOf, typeInfo, hq, hs, hl]
theorem run_storeVar_seg (g o : Nat) (t ty : TypeId) (n m : Nat) (c v : Nat → Value) (hg : Blk w g t (rowOf n c)) (hi : (P.info? ty).map (·.size) = some m)
    (hm : o + m ≤ n) (h1 : ∀ j, j < m → (v j).oneCell' = true) :
    (storeVar ty ⟨g, o, none⟩ (.agg (rowOf m v))).run P w = .ok () (w.setRow g (rowOf n (seg c o m v))) := by
  have hl' : (rowOf m v).toList.length = m := by simp [rowOf]
  have := run_storeCells_at P g o t (rowOf m v).toList 0 _ w hg (by rw [hl', row_size]; omega) (row_one m v h1)
  simp only [Nat.add_zero, hl'] at this
  rw [row_splice n o m c v hm] at this
  cases hq : P.info? ty with
  | none => simp [hq] at hi
  | some i =>
    have hs : i.size = m := by simpa [hq] using hi
    simp [storeVar, sizeOf, typeInfo, hq, Value.cells, hs, row_size, this]
variable {ops : Array Oper} {rest : List Oper} {o : Oper} {a : Act} {Q : Exit → Act → World → Prop}
/-- A part of a block (an array or a struct in a field) is loaded whole. -/
theorem wpList_load_seg (hgd : o.guard = none) (ty : TypeId) (x : Operand) (ho : o.op = .load ty x)
    (g off n m : Nat) (c : Nat → Value) (t : TypeId) (d : TypeDesc) (hu : P.underlying ty = some d) (hd : (match d with | .struct _ | .array _ _ => true | _ => false) = true)
    (hi : (P.info? ty).map (·.size) = some m) (hm : off + m ≤ n) (hx : a.eval x = .pointer (some ⟨g, off, none⟩)) (hg : Blk w g t (rowOf n c))
    (h : wpList P ops Q rest (a.put o.dst (.agg (rowOf m fun j => c (off + j)))) w) : wpList P ops Q (o :: rest) a w := by
  refine wpList_plain hgd fun K hK => ?_
  unfold Oper.wp execOp
  simp only [ho, hx, Instr.loadAt, Instr.sureAddr, Sem.run_bind, Sem.run_pure, Result.andThen_ok, run_loadVar_seg g off t ty n m c d hg hu hd hi hm]
  exact hK _ _ h
/-- An array or a struct is stored into a part of a block. -/
theorem wpList_store_seg (hgd : o.guard = none) (ty : TypeId) (x y : Operand) (ho : o.op = .store ty x y) (hd : o.dst = none)
    (g off n m : Nat) (c v : Nat → Value) (t : TypeId) (hi : (P.info? ty).map (·.size) = some m) (hm : off + m ≤ n) (h1 : ∀ j, j < m → (v j).oneCell' = true)
    (hx : a.eval x = .pointer (some ⟨g, off, none⟩)) (hy : a.eval y = .agg (rowOf m v)) (hg : Blk w g t (rowOf n c))
    (h : wpList P ops Q rest a (w.setRow g (rowOf n (seg c off m v)))) : wpList P ops Q (o :: rest) a w := by
  refine wpList_plain hgd fun K hK => ?_
  unfold Oper.wp execOp
  simp only [ho, hx, hy, Instr.storeAt, Instr.sureAddr, Sem.run_bind, Sem.run_pure, Result.andThen_ok, run_storeVar_seg g off t ty n m c v hg hi hm h1]
  exact hK _ _ (by rw [hd]; exact h)
/-- The same, the whole of a block. -/
theorem wpList_store_all (hgd : o.guard = none) (ty : TypeId) (x y : Operand) (ho : o.op = .store ty x y) (hd : o.dst = none)
    (g n : Nat) (c v : Nat → Value) (t : TypeId) (hi : (P.info? ty).map (·.size) = some n) (h1 : ∀ j, j < n → (v j).oneCell' = true)
    (hx : a.eval x = .pointer (some ⟨g, 0, none⟩)) (hy : a.eval y = .agg (rowOf n v)) (hg : Blk w g t (rowOf n c))
    (h : wpList P ops Q rest a (w.setRow g (rowOf n v))) : wpList P ops Q (o :: rest) a w :=
  wpList_store_seg hgd ty x y ho hd g 0 n n c v t hi (by omega) h1 hx hy hg (by rw [seg_all]; exact h)
/-- 'arr[l:]', arr an array in a block. -/
theorem wpList_slice_arr_lo (hgd : o.guard = none) (ty : TypeId) (x lo : Operand) (ho : o.op = .slice ty x (some lo) none none)
    (n : Nat) (e : TypeId) (hu : P.underlying ty = some (.array n e)) (hs : (P.info? e).map (·.size) = some 1) (g off l : Nat) (hl : l < n)
    (hx : a.eval x = .pointer (some ⟨g, off, none⟩)) (hlo : a.eval lo = .int .i64 l)
    (h : wpList P ops Q rest (a.put o.dst (.slice (some ⟨g, off + l, none⟩) (n - l) (n - l))) w) : wpList P ops Q (o :: rest) a w := by
  refine wpList_plain hgd fun K hK => ?_
  cases hq : P.info? e with
  | none => simp [hq] at hs
  | some i =>
    have hi : i.size = 1 := by simpa [hq] using hs
    have hrun : (Instr.sliceAt ty (.pointer (some ⟨g, off, none⟩)) (some (.int .i64 l)) none none).run P w = .ok (.slice (some ⟨g, off + l, none⟩) (n - l) (n - l)) w := by
      have h1 : ¬ n = l := by omega
      have h4 : ¬ n < l := by omega
      have h2 : (0 : Int) ≤ l ∧ (l : Int) ≤ n := by omega
      have h3 : (⟨g, off, none⟩ : Addr).add l = ⟨g, off + l, none⟩ := by unfold Addr.add; split <;> simp_all
      simp [Instr.sliceAt, run_underlying hu, Instr.sureAddr, Instr.sliceBounds, Instr.sliceBound, asIntOf, sizeOf, typeInfo, hq, hi, h1, h2, h3, h4]
    unfold Oper.wp execOp
    simp only [ho, hx, hlo, Option.map_some, Option.map_none, Sem.run_bind, Sem.run_pure, hrun, Result.andThen_ok]
    exact hK _ _ h
/-- 'copy(dst, s)', s a string, dst within a block. -/
theorem run_copy_str (dT sT ty elem : TypeId) (g off n dLen dCap : Nat) (s : ByteArray) (c : Nat → Value) (t : TypeId)
    (hu : P.underlying dT = some (.slice elem)) (hs : (P.info? elem).map (·.size) = some 1) (hg : Blk w g t (rowOf n c)) (hfit : off + min s.size dLen ≤ n) :
    (Builtin.copy_ #[dT, sT] ty #[.slice (some ⟨g, off, none⟩) dLen dCap, .string s]).run P w =
      .ok (.int .i64 (min s.size dLen : Nat)) (w.setRow g (rowOf n (seg c off (min s.size dLen) (fun j => .int .u8 (byteAt s.data.toList j))))) := by
  have hsz : s.data.toList.length = s.size := Array.length_toList
  have hv : (List.take (min s.size dLen) (s.data.toList.map fun b : UInt8 => Value.int .u8 (b.toNat : Int))) = (rowOf (min s.size dLen) (fun j => Value.int .u8 (byteAt s.data.toList j))).toList := by
    apply List.ext_getElem?
    intro j
    by_cases hj : j < min s.size dLen
    · have h1 : (rowOf (min s.size dLen) (fun j => Value.int .u8 (byteAt s.data.toList j))).toList[j]? = some (.int .u8 (byteAt s.data.toList j)) := by
        simpa using row_get (min s.size dLen) (fun j => Value.int .u8 (byteAt s.data.toList j)) j hj
      rw [h1, List.getElem?_take, if_pos hj, List.getElem?_map]
      have h2 : j < s.data.toList.length := by omega
      rw [List.getElem?_eq_getElem h2]
      unfold byteAt
      rw [List.getD_eq_getElem?_getD, List.getElem?_eq_getElem h2]
      rfl
    · rw [List.getElem?_eq_none (by simp; omega), List.getElem?_eq_none (by simp [rowOf]; omega)]
  have hst := run_storeCells_at P g off t (rowOf (min s.size dLen) (fun j => Value.int .u8 (byteAt s.data.toList j))).toList 0 _ w hg (by simp [rowOf] at hfit ⊢; omega) (row_one _ _ fun _ _ => rfl)
  have hl' : (rowOf (min s.size dLen) (fun j => Value.int .u8 (byteAt s.data.toList j))).toList.length = min s.size dLen := by simp [rowOf]
  simp only [Nat.add_zero, hl'] at hst
  rw [row_splice n off _ c _ hfit] at hst
  cases hq : P.info? elem with
  | none => simp [hq] at hs
  | some i =>
    have hi : i.size = 1 := by simpa [hq] using hs
    have e : Nat.min s.size dLen = min s.size dLen := rfl
    simp only [Builtin.copy_, List.getElem?_toArray, List.getElem?_cons_zero, List.getElem?_cons_succ, Sem.run_bind, run_underlying hu, Result.andThen_ok, Builtin.lenOf, Sem.run_pure, sizeOf, typeInfo, e]
    simp [hq, Builtin.firstCells, hv, hst, goInt]
theorem wpList_copy_str (hgd : o.guard = none) (d x : Operand) (dT sT : TypeId) (ho : o.op = .call { callee := .builtin .copy, args := #[d, x], argTypes := #[dT, sT] })
    (elem : TypeId) (hu : P.underlying dT = some (.slice elem)) (hs : (P.info? elem).map (·.size) = some 1)
    (g off n dLen dCap : Nat) (s : ByteArray) (c : Nat → Value) (t : TypeId) (hd : a.eval d = .slice (some ⟨g, off, none⟩) dLen dCap) (hx : a.eval x = .string s)
    (hg : Blk w g t (rowOf n c)) (hfit : off + min s.size dLen ≤ n)
    (h : wpList P ops Q rest (a.put o.dst (.int .i64 (min s.size dLen : Nat))) (w.setRow g (rowOf n (seg c off (min s.size dLen) (fun j => .int .u8 (byteAt s.data.toList j)))))) : wpList P ops Q (o :: rest) a w := by
  refine wpList_plain hgd fun K hK => ?_
  have hrun := run_copy_str (P := P) (w := w) dT sT o.type elem g off n dLen dCap s c t hu hs hg hfit
  unfold Oper.wp
  simp [execOp, ho, resolve, invoke, builtin, hd, hx, hrun, Result.andThen]
  exact hK _ _ h
/-- The one result is an array or a struct in a block of its own. -/
theorem results_row {fn : Func} {p : Tmp} {ty : TypeId} (h : fn.results = #[.cell p ty]) (tmps : Array Value) (g : Nat) (t : TypeId) (n : Nat) (c : Nat → Value) (d : TypeDesc)
    (hu : P.underlying ty = some d) (hd : (match d with | .struct _ | .array _ _ => true | _ => false) = true) (hi : (P.info? ty).map (·.size) = some n) (hp : tmps.getD p undef = .pointer (some ⟨g, 0, none⟩)) (hg : Blk w g t (rowOf n c)) :
    (results fn tmps).run P w = .ok (.agg (rowOf n c)) w :=
  results_cell_row h tmps w g t _ _ _ hp hg hu hd (by rw [hi, row_size])
end
/-! ### Steps of a quiet walk over a class of worlds -/
section
variable {P : Program} {ops : Array Oper} {C : World → Prop} {Q : Act → Prop} {rest : List Oper} {o : Oper} {a : Act}
theorem quiet_of_run (hg : o.guard = none) (v : Value) (h : ∀ w, C w → (execOp a.eval o).run P w = .ok (.value v) w) (hk : wpQuiet P ops C Q rest (a.put o.dst v)) : wpQuiet P ops C Q (o :: rest) a := by
  refine wpQuiet_step fun K hK => ?_
  rw [if_pos (by simp [Region.wanted, hg])]
  refine ⟨v, fun w hw => ?_, hK _ hk⟩
  unfold Oper.quietAt
  rw [h w hw]
  exact ⟨rfl, rfl⟩
/-- A part of a block, loaded whole, the block being kept by the class. -/
theorem quiet_load_seg (hgd : o.guard = none) (ty : TypeId) (x : Operand) (ho : o.op = .load ty x)
    (g off n m : Nat) (c : Nat → Value) (t : TypeId) (d : TypeDesc) (hu : P.underlying ty = some d) (hd : (match d with | .struct _ | .array _ _ => true | _ => false) = true)
    (hi : (P.info? ty).map (·.size) = some m) (hm : off + m ≤ n) (hx : a.eval x = .pointer (some ⟨g, off, none⟩)) (hg : ∀ w, C w → Blk w g t (rowOf n c))
    (hk : wpQuiet P ops C Q rest (a.put o.dst (.agg (rowOf m fun j => c (off + j))))) : wpQuiet P ops C Q (o :: rest) a := by
  refine quiet_of_run hgd _ (fun w hw => ?_) hk
  unfold execOp
  simp only [ho, hx, Instr.loadAt, Instr.sureAddr, Sem.run_bind, Sem.run_pure, Result.andThen_ok, run_loadVar_seg g off t ty n m c d (hg w hw) hu hd hi hm]
/-- A cell that the class keeps. -/
theorem quiet_load_cell (hgd : o.guard = none) (ty : TypeId) (x : Operand) (ho : o.op = .load ty x) (ad : Addr) (v : Value) (hag : (isAgg ty).run P = fun w => .ok false w)
    (hx : a.eval x = .pointer (some ad)) (hc : ∀ w, C w → w.cell? ad = some v) (hk : wpQuiet P ops C Q rest (a.put o.dst v)) : wpQuiet P ops C Q (o :: rest) a := by
  refine quiet_of_run hgd _ (fun w hw => ?_) hk
  have h1 : (isAgg ty).run P w = .ok false w := congrFun hag w
  unfold execOp
  simp [ho, hx, Instr.loadAt, Instr.sureAddr, loadVar, h1, hc w hw]
/-- A call whose answer is known in every world of the class, and that keeps the class. -/
theorem quiet_call (hgd : o.guard = none) (c : Call) (ho : o.op = .call c) (f : FuncId) (hf : c.callee = .value (.func f)) (hcf : ∀ args w, (callFunc f args).run P w = .ok (.enter f args) w)
    (args : Array Value) (hargs0 : (c.args.toList.map a.eval).toArray = args) (v : Value) (h : ∀ w, C w → Calls P f args w fun e w' => e = .returned v ∧ C w')
    (hk : wpQuiet P ops C Q rest (a.put o.dst v)) : wpQuiet P ops C Q (o :: rest) a := by
  refine wpQuiet_step fun K hK => ?_
  rw [if_pos (by simp [Region.wanted, hgd])]
  refine ⟨v, fun w hw => ?_, hK _ hk⟩
  have hargs : c.args.map a.eval = args := by
    rw [← hargs0]
    apply Array.ext'
    simp
  have hr : (execOp a.eval o).run P w = .ok (.enter f args) w := by
    have e : a.eval (.func f) = .func (.func f) #[] #[] := rfl
    have := hcf args w
    unfold execOp
    simp [ho, resolve, hf, e, Deferred.ofValue, invoke, hargs, this]
  unfold Oper.quietAt
  rw [hr]
  exact ⟨rfl, h w hw⟩
end
/-! ### Slices of the call's own -/
def byteVals (l : List UInt8) : List Value := l.map fun b => .int .u8 (b.toNat : Int)
/-- v is a slice of bytes of the call's own (blocks from base on) and holds l. -/
def OwnB (w : World) (base : Nat) (e : TypeId) (v : Value) (l : List UInt8) : Prop := w.ownsRow base e 1 v l.length (byteVals l)
theorem OwnB.nil (w : World) (base : Nat) (e : TypeId) : OwnB w base e (.slice none 0 0) [] := World.ownsRow_nil _ _ _ _
/-- The element type's row of the table. -/
structure ElemRow (P : Program) (t e : TypeId) (z : Value) (size bytes : Nat) : Prop where
  slice : P.underlying t = some (.slice e)
  row : (P.info? e).map (fun i => (i.zero, i.size, i.bytes)) = some (some z, size, bytes)
  cells : z.cells.size = size
  pos : 0 < size
section
variable {P : Program} {w : World} {ops : Array Oper} {rest : List Oper} {o : Oper} {a : Act} {Q : Exit → Act → World → Prop}
/-- 'out = append(out, x)': the operand x lies in a block of its own. -/
theorem wpList_append_one (hgd : o.guard = none) (s x : Operand) (t : TypeId) (ho : o.op = .call { callee := .builtin .append, args := #[s, x], argTypes := #[t, t] })
    (e : TypeId) (z : Value) (size bytes : Nat) (hE : ElemRow P t e z size bytes) (base : Nat) (v : Value) (n : Nat) (xs : List Value) (g c : Nat) (news : List Value)
    (hs : a.eval s = v) (hx : a.eval x = .slice (some ⟨g, 0, none⟩) 1 c) (hown : w.ownsRow base e size v n xs)
    (hl : news.length = size) (hnews : ∀ j u, news[j]? = some u → w.cell? ⟨g, j, none⟩ = some u) (h1 : ∀ u ∈ news, u.oneCell' = true)
    (hbytes : (n + 1) * bytes ≤ 140737488355328) (hn : n < 140737488355328) (hbase : base ≤ w.heap.size)
    (h : ∀ v' w', w'.ownsRow base e size v' (n + 1) (xs ++ news) → w.grownBy w' v.ownBlock → Below base w w' → wpList P ops Q rest (a.put o.dst v') w') : wpList P ops Q (o :: rest) a w := by
  obtain ⟨i, hi, hz, hsz, hby⟩ := info_parts hE.row
  refine wpList_append_own w hgd s x t ho base e i z size bytes hE.slice hi hz hsz hby hE.cells hE.pos v n xs hs hown ⟨g, 0, none⟩ 1 c news hx (by rw [hl, Nat.one_mul]) (fun j u hu => ?_) h1 (by unfold maxLen; omega) hbytes hbase (fun v' w' h2 h3 _ => h v' w' h2 h3 ?_)
  · have hadd : (⟨g, 0, none⟩ : Addr).add j = ⟨g, j, none⟩ := by unfold Addr.add; split <;> simp_all
    rw [hadd]
    exact hnews j u hu
  · exact (Below.refl base w).grown h3 hbase fun k hk => (hown.lt k hk).1
theorem wpList_push_byte (hgd : o.guard = none) (s x : Operand) (t : TypeId) (ho : o.op = .call { callee := .builtin .append, args := #[s, x], argTypes := #[t, t] })
    (e : TypeId) (hE : ElemRow P t e (.int .u8 0) 1 1) (base : Nat) (v : Value) (l : List UInt8) (g c : Nat) (b : UInt8)
    (hs : a.eval s = v) (hx : a.eval x = .slice (some ⟨g, 0, none⟩) 1 c) (hown : OwnB w base e v l) (hc : w.cell? ⟨g, 0, none⟩ = some (.int .u8 (b.toNat : Int)))
    (hn : l.length < 140737488355328) (hbase : base ≤ w.heap.size)
    (h : ∀ v' w', OwnB w' base e v' (l ++ [b]) → w.grownBy w' v.ownBlock → Below base w w' → wpList P ops Q rest (a.put o.dst v') w') : wpList P ops Q (o :: rest) a w :=
  wpList_append_one hgd s x t ho e _ 1 1 hE base v l.length (byteVals l) g c [.int .u8 (b.toNat : Int)] hs hx hown rfl
    (fun j u hu => by
      match j, hu with
      | 0, hu => simp at hu; subst hu; exact hc)
    (fun u hu => by simp at hu; subst hu; rfl) (by omega) hn hbase (fun v' w' h2 h3 h4 => h v' w' (by unfold OwnB byteVals; rw [List.length_append, List.map_append]; exact h2) h3 h4)
theorem run_own_string (src dst e : TypeId) (hs : P.underlying src = some (.slice e)) (he : P.underlying e = some (.int .u8)) (hd : P.underlying dst = some .string)
    (base : Nat) (v : Value) (l : List UInt8) (hown : OwnB w base e v l) : (convert src dst v).run P w = .ok (.string ⟨l.toArray⟩) w := by
  rcases hown.2 with ⟨rfl, hn⟩ | ⟨g, cap, cur, rfl, hb, hg, hnc, hcm, hcs, htake⟩
  · obtain rfl : l = [] := List.eq_nil_of_length_eq_zero hn
    exact run_convert_bytes_nil w src e hs he 0 0 dst hd
  · have := run_convert_bytes_arg (P := P) w src e hs he g 0 l.length cap (l.map fun b => (b.toNat : Int)) (by simp) (fun i hi => by
      rw [Nat.zero_add, cell_of_row w g i cur e (0, 0) hg]
      have h1 : (byteVals l)[i]? = cur[i]? := by
        rw [← htake, List.getElem?_take, if_pos (by omega)]
        simp
      rw [← h1]
      unfold byteVals
      rw [List.getElem?_map, List.getElem?_eq_getElem hi, List.getD_eq_getElem?_getD, List.getElem?_map, List.getElem?_eq_getElem hi]
      rfl) dst hd
    rw [this]
    unfold strOfNums
    rw [List.map_map]
    have e2 : (l.map ((fun n : Int => UInt8.ofNat n.toNat) ∘ fun b : UInt8 => (b.toNat : Int))) = l := by
      conv => rhs; rw [← List.map_id l]
      exact List.map_congr_left fun b _ => by simp
    rw [e2]
theorem wpList_own_string (hgd : o.guard = none) (src dst : TypeId) (x : Operand) (ho : o.op = .convert src dst x) (e : TypeId) (hs : P.underlying src = some (.slice e)) (he : P.underlying e = some (.int .u8)) (hd : P.underlying dst = some .string)
    (base : Nat) (v : Value) (l : List UInt8) (hx : a.eval x = v) (hown : OwnB w base e v l)
    (h : wpList P ops Q rest (a.put o.dst (.string ⟨l.toArray⟩)) w) : wpList P ops Q (o :: rest) a w := by
  refine wpList_plain hgd fun K hK => ?_
  unfold Oper.wp execOp
  simp only [ho, hx, Sem.run_bind, run_own_string src dst e hs he hd base v l hown, Result.andThen_ok]
  exact hK _ _ h
end
theorem OwnB.below {w w' : World} {base B : Nat} {e : TypeId} {v : Value} {l : List UInt8} (h : OwnB w base e v l) (hb : Below B w w') (hlt : ∀ k, v.ownBlock = some k → k < B) : OwnB w' base e v l := by
  refine ⟨h.1, ?_⟩
  rcases h.2 with hn | ⟨g, cap, cur, rfl, hbg, hg, r⟩
  · exact Or.inl hn
  · exact Or.inr ⟨g, cap, cur, rfl, hbg, by rw [hb.block g (hlt g rfl)]; exact hg, r⟩
/-- A block that is not the slice's own is kept by an append. -/
theorem Blk.grown {w w' : World} {b : Nat} {T : TypeId} {cs : Array Value} {row : Option Nat} (h : Blk w b T cs) (hg : w.grownBy w' row) (hne : ∀ k, row = some k → b ≠ k) : Blk w' b T cs := by
  show w'.heap[b]? = _
  rw [hg.block b h.lt (fun e => hne b e.symm rfl)]
  exact h
/-- 'string(b)', b's cells known. -/
theorem run_cells_string {P : Program} {w : World} (src dst e : TypeId) (hs : P.underlying src = some (.slice e)) (he : P.underlying e = some (.int .u8)) (hd : P.underlying dst = some .string)
    (g off cap : Nat) (l : List UInt8) (hc : ∀ j, j < l.length → w.cell? ⟨g, off + j, none⟩ = some (.int .u8 (byteAt l j))) : (convert src dst (.slice (some ⟨g, off, none⟩) l.length cap)).run P w = .ok (.string ⟨l.toArray⟩) w := by
  have := run_convert_bytes_arg (P := P) w src e hs he g off l.length cap (l.map fun b => (b.toNat : Int)) (by simp) (fun i hi => by
    rw [hc i hi]
    unfold byteAt
    rw [List.getD_eq_getElem?_getD, List.getElem?_eq_getElem hi, List.getD_eq_getElem?_getD, List.getElem?_map, List.getElem?_eq_getElem hi]
    rfl) dst hd
  rw [this]
  unfold strOfNums
  rw [List.map_map]
  have e2 : (l.map ((fun n : Int => UInt8.ofNat n.toNat) ∘ fun b : UInt8 => (b.toNat : Int))) = l := by
    conv => rhs; rw [← List.map_id l]
    exact List.map_congr_left fun b _ => by simp
  rw [e2]
section
variable {P : Program} {ops : Array Oper} {C : World → Prop} {Q : Act → Prop} {rest : List Oper} {o : Oper} {a : Act}
theorem quiet_cells_string (hgd : o.guard = none) (src dst : TypeId) (x : Operand) (ho : o.op = .convert src dst x) (e : TypeId) (hs : P.underlying src = some (.slice e)) (he : P.underlying e = some (.int .u8)) (hd : P.underlying dst = some .string)
    (g off cap : Nat) (l : List UInt8) (hx : a.eval x = .slice (some ⟨g, off, none⟩) l.length cap) (hc : ∀ w, C w → ∀ j, j < l.length → w.cell? ⟨g, off + j, none⟩ = some (.int .u8 (byteAt l j)))
    (hk : wpQuiet P ops C Q rest (a.put o.dst (.string ⟨l.toArray⟩))) : wpQuiet P ops C Q (o :: rest) a := by
  refine quiet_of_run hgd _ (fun w hw => ?_) hk
  unfold execOp
  simp only [ho, hx, Sem.run_bind, run_cells_string src dst e hs he hd g off cap l (hc w hw), Result.andThen_ok, Sem.run_pure]
/-- 'arr[:]'. -/
theorem run_slice_all {P : Program} {w : World} (ty : TypeId) (n : Nat) (e : TypeId) (hu : P.underlying ty = some (.array n e)) (hs : (P.info? e).isSome = true) (g off : Nat) :
    (Instr.sliceAt ty (.pointer (some ⟨g, off, none⟩)) none none none).run P w = .ok (.slice (some ⟨g, off, none⟩) n n) w := by
  obtain ⟨i, hi⟩ := Option.isSome_iff_exists.1 hs
  have h3 : (⟨g, off, none⟩ : Addr).add 0 = ⟨g, off, none⟩ := rfl
  simp [Instr.sliceAt, run_underlying hu, Instr.sureAddr, Instr.sliceBounds, sizeOf, typeInfo, hi, h3]
theorem quiet_slice_all (hgd : o.guard = none) (ty : TypeId) (x : Operand) (ho : o.op = .slice ty x none none none) (n : Nat) (e : TypeId) (hu : P.underlying ty = some (.array n e)) (hs : (P.info? e).isSome = true)
    (g off : Nat) (hx : a.eval x = .pointer (some ⟨g, off, none⟩)) (hk : wpQuiet P ops C Q rest (a.put o.dst (.slice (some ⟨g, off, none⟩) n n))) : wpQuiet P ops C Q (o :: rest) a := by
  refine quiet_of_run hgd _ (fun w _ => ?_) hk
  unfold execOp
  simp only [ho, hx, Option.map_none, Sem.run_bind, run_slice_all ty n e hu hs g off, Result.andThen_ok, Sem.run_pure]
theorem quiet_str_add (hgd : o.guard = none) (t t' : TypeId) (x y : Operand) (ho : o.op = .binOp .add t x y t') (s1 s2 : ByteArray) (hx : a.eval x = .string s1) (hy : a.eval y = .string s2)
    (h : s1.size + s2.size ≤ 9223372036854775807) (hk : wpQuiet P ops C Q rest (a.put o.dst (.string (s1 ++ s2)))) : wpQuiet P ops C Q (o :: rest) a := by
  refine quiet_of_run hgd _ (fun w _ => ?_) hk
  unfold execOp
  simp [ho, hx, hy, eqGuard, binOp, run_string_add_sum w s1 s2 h]
end
end Go.Proofs.YtjfkiomegacpeaaDoor
