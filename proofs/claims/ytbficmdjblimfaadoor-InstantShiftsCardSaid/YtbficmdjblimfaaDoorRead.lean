/-
  instant.read by its contract.
-/
import Derived.Test.YtbficmdjblimfaaDoorFld
import Derived.Test.YtbficmdjblimfaaDoorIn4
import Derived.Test.YtbficmdjblimfaaDoorKit9
import Derived.Laws.EntriesVeiled
import Derived.Laws.Tables
import Derived.Deep.Cut
import Derived.Deep.CutRange
import Derived.Deep.CutBlock
import Derived.Deep.RegionHeld
namespace Go.Proofs.YtbficmdjblimfaaDoor
open Go.RowKit
def z8 : Nat → Int := fun _ => 0
/-- What the function's variables hold: the text, the result's variable, the moment, the place, the inner function. -/
structure RdS (s : ByteArray) (S R2 M A F : Nat) (w wr : World) (p : Nat) (sh : Int) (f : Nat → Int) (ns z : Int) : Prop where
  S_ : Blk wr S 9 #[.string s]
  R_ : Blk wr R2 47 (momC 0 z8 0 0)
  M_ : Blk wr M 47 (momC sh f ns z)
  A_ : Blk wr A 3 #[.int .i64 (p : Int)]
  F_ : Blk wr F 61 #[numF A S]
  b_ : Below w.heap.size w wr
def RetRd (w : World) (R : Option Ins.M) (e : Go.Ending) (w' : World) : Prop :=
  (match R with
    | some m => e = .returned (.tuple #[momV m, .bool true])
    | none => ∃ (sh : Int) (f : Nat → Int) (ns z : Int), e = .returned (.tuple #[.agg (momC sh f ns z), .bool false])) ∧ Below w.heap.size w w'
section
variable {w : World} {ops : Array Oper} {rest : List Oper} {o : Oper} {a : Act} {Q : Exit → Act → World → Prop}
theorem momRow : (Tryd.prog.info? 47).map (·.size) = some 11 := by kernel_rfl
theorem wpList_load_mom (hgd : o.guard = none) (x : Operand) (ho : o.op = .load 47 x) (g : Nat) (sh : Int) (f : Nat → Int) (ns z : Int) (hx : a.eval x = .pointer (some ⟨g, 0, none⟩)) (hg : Blk w g 47 (momC sh f ns z))
    (h : wpList Tryd.prog ops Q rest (a.put o.dst (.agg (momC sh f ns z))) w) : wpList Tryd.prog ops Q (o :: rest) a w :=
  wpList_load_row hgd _ x ho g hx _ _ _ _ hg Tryd.underlying47 rfl momRow h
theorem wpList_store_mom (hgd : o.guard = none) (x y : Operand) (ho : o.op = .store 47 x y) (hd : o.dst = none) (g : Nat) (sh : Int) (f : Nat → Int) (ns z : Int) (sh2 : Int) (f2 : Nat → Int) (ns2 z2 : Int)
    (hx : a.eval x = .pointer (some ⟨g, 0, none⟩)) (hy : a.eval y = .agg (momC sh2 f2 ns2 z2)) (hg : Blk w g 47 (momC sh f ns z))
    (h : wpList Tryd.prog ops Q rest a (w.setRow g (momC sh2 f2 ns2 z2))) : wpList Tryd.prog ops Q (o :: rest) a w :=
  wpList_store_agg hgd _ x y ho hd g (momC sh f ns z) (momC sh2 f2 ns2 z2) _ momRow rfl (fun j hj => by
    have hj : j < 11 := hj
    obtain rfl | rfl | rfl | rfl | rfl | rfl | rfl | rfl | rfl | rfl | rfl : j = 0 ∨ j = 1 ∨ j = 2 ∨ j = 3 ∨ j = 4 ∨ j = 5 ∨ j = 6 ∨ j = 7 ∨ j = 8 ∨ j = 9 ∨ j = 10 := by omega
    all_goals rfl) hx hy hg h
end
theorem step_load_mom {ops : Array Oper} {w : World} {o : Oper} {a : Act} {K : Act → World → Prop} {Q : Exit → Act → World → Prop} {E : Prop} (hgd : o.guard = none) (x : Operand) (ho : o.op = .load 47 x) (g : Nat) (sh : Int) (f : Nat → Int) (ns z : Int) (hx : a.eval x = .pointer (some ⟨g, 0, none⟩)) (hg : Blk w g 47 (momC sh f ns z))
    (h : K (a.put o.dst (.agg (momC sh f ns z))) w) : if Region.wanted o (yielded ops a.tmps) = true then Oper.wp Tryd.prog o a w K Q else E := by
  rw [if_pos (by simp [Region.wanted, hgd])]
  exact wp_load_row _ x ho g hx _ _ _ _ hg Tryd.underlying47 rfl momRow h
theorem step_store_mom {ops : Array Oper} {w : World} {o : Oper} {a : Act} {K : Act → World → Prop} {Q : Exit → Act → World → Prop} {E : Prop} (hgd : o.guard = none) (x y : Operand) (ho : o.op = .store 47 x y) (hd : o.dst = none) (g : Nat) (sh : Int) (f : Nat → Int) (ns z : Int) (sh2 : Int) (f2 : Nat → Int) (ns2 z2 : Int)
    (hx : a.eval x = .pointer (some ⟨g, 0, none⟩)) (hy : a.eval y = .agg (momC sh2 f2 ns2 z2)) (hg : Blk w g 47 (momC sh f ns z))
    (h : K a (w.setRow g (momC sh2 f2 ns2 z2))) : if Region.wanted o (yielded ops a.tmps) = true then Oper.wp Tryd.prog o a w K Q else E := by
  rw [if_pos (by simp [Region.wanted, hgd])]
  exact wp_store_row _ x y ho g (momC sh2 f2 ns2 z2) hx hy _ _ hg momRow rfl (by simp [momC, Value.oneCell']) (by rw [hd]; exact h)
theorem put11 {W : World} {g : Nat} {sh : Int} {f : Nat → Int} {ns z : Int} (h : Blk W g 47 (momC 0 z8 0 0)) : Blk (((((((((((W.setCell ⟨g, 0, none⟩ (.int .i64 sh)).setCell ⟨g, 1, none⟩ (.int .i64 (f 1))).setCell ⟨g, 2, none⟩ (.int .i64 (f 2))).setCell ⟨g, 3, none⟩ (.int .i64 (f 3))).setCell ⟨g, 4, none⟩ (.int .i64 (f 4))).setCell ⟨g, 5, none⟩ (.int .i64 (f 5))).setCell ⟨g, 6, none⟩ (.int .i64 (f 6))).setCell ⟨g, 7, none⟩ (.int .i64 (f 7))).setCell ⟨g, 8, none⟩ (.int .i64 (f 8))).setCell ⟨g, 9, none⟩ (.int .i64 ns)).setCell ⟨g, 10, none⟩ (.int .u8 z)) g 47 (momC sh f ns z) := by
  have h1 := (((((((((((h.put 0 (.int .i64 sh)).put 1 (.int .i64 (f 1))).put 2 (.int .i64 (f 2))).put 3 (.int .i64 (f 3))).put 4 (.int .i64 (f 4))).put 5 (.int .i64 (f 5))).put 6 (.int .i64 (f 6))).put 7 (.int .i64 (f 7))).put 8 (.int .i64 (f 8))).put 9 (.int .i64 ns)).put 10 (.int .u8 z))
  unfold momC at h1
  simp only [List.setIfInBounds_toArray, List.set_cons_zero, List.set_cons_succ] at h1
  exact h1
theorem blk_drew {W : World} {b : Nat} {T : TypeId} {cs : Array Value} (h : Blk W b T cs) : Blk W.drew b T cs := h
theorem other11 {W : World} {g b : Nat} {T : TypeId} {cs : Array Value} {sh : Int} {f : Nat → Int} {ns z : Int} (h : Blk W b T cs) (hb : b ≠ g) : Blk (((((((((((W.setCell ⟨g, 0, none⟩ (.int .i64 sh)).setCell ⟨g, 1, none⟩ (.int .i64 (f 1))).setCell ⟨g, 2, none⟩ (.int .i64 (f 2))).setCell ⟨g, 3, none⟩ (.int .i64 (f 3))).setCell ⟨g, 4, none⟩ (.int .i64 (f 4))).setCell ⟨g, 5, none⟩ (.int .i64 (f 5))).setCell ⟨g, 6, none⟩ (.int .i64 (f 6))).setCell ⟨g, 7, none⟩ (.int .i64 (f 7))).setCell ⟨g, 8, none⟩ (.int .i64 (f 8))).setCell ⟨g, 9, none⟩ (.int .i64 ns)).setCell ⟨g, 10, none⟩ (.int .u8 z)) b T cs :=
  (((((((((((h.set_other (a := ⟨g, 0, none⟩) hb _).set_other (a := ⟨g, 1, none⟩) hb _).set_other (a := ⟨g, 2, none⟩) hb _).set_other (a := ⟨g, 3, none⟩) hb _).set_other (a := ⟨g, 4, none⟩) hb _).set_other (a := ⟨g, 5, none⟩) hb _).set_other (a := ⟨g, 6, none⟩) hb _).set_other (a := ⟨g, 7, none⟩) hb _).set_other (a := ⟨g, 8, none⟩) hb _).set_other (a := ⟨g, 9, none⟩) hb _).set_other (a := ⟨g, 10, none⟩) hb _)
theorem below11 {B : Nat} {w W : World} {g : Nat} {sh : Int} {f : Nat → Int} {ns z : Int} (hb : Below B w W) (hg : B ≤ g) : Below B w (((((((((((W.setCell ⟨g, 0, none⟩ (.int .i64 sh)).setCell ⟨g, 1, none⟩ (.int .i64 (f 1))).setCell ⟨g, 2, none⟩ (.int .i64 (f 2))).setCell ⟨g, 3, none⟩ (.int .i64 (f 3))).setCell ⟨g, 4, none⟩ (.int .i64 (f 4))).setCell ⟨g, 5, none⟩ (.int .i64 (f 5))).setCell ⟨g, 6, none⟩ (.int .i64 (f 6))).setCell ⟨g, 7, none⟩ (.int .i64 (f 7))).setCell ⟨g, 8, none⟩ (.int .i64 (f 8))).setCell ⟨g, 9, none⟩ (.int .i64 ns)).setCell ⟨g, 10, none⟩ (.int .u8 z)) := (((((((((((hb.setCell (p := ⟨g, 0, none⟩) hg _).setCell (p := ⟨g, 1, none⟩) hg _).setCell (p := ⟨g, 2, none⟩) hg _).setCell (p := ⟨g, 3, none⟩) hg _).setCell (p := ⟨g, 4, none⟩) hg _).setCell (p := ⟨g, 5, none⟩) hg _).setCell (p := ⟨g, 6, none⟩) hg _).setCell (p := ⟨g, 7, none⟩) hg _).setCell (p := ⟨g, 8, none⟩) hg _).setCell (p := ⟨g, 9, none⟩) hg _).setCell (p := ⟨g, 10, none⟩) hg _)
theorem quiet_load_mom {ops : Array Oper} {C : World → Prop} {Q : Act → Prop} {rest : List Oper} {o : Oper} {a : Act} (hgd : o.guard = none) (x : Operand) (ho : o.op = .load 47 x) (g : Nat) (sh : Int) (f : Nat → Int) (ns z : Int) (hx : a.eval x = .pointer (some ⟨g, 0, none⟩))
    (hc : ∀ w, C w → Blk w g 47 (momC sh f ns z)) (hk : wpQuiet Tryd.prog ops C Q rest (a.put o.dst (.agg (momC sh f ns z)))) : wpQuiet Tryd.prog ops C Q (o :: rest) a := by
  refine quiet_of_run hgd _ (fun w hw => ?_) hk
  unfold execOp
  simp only [ho, hx, Instr.loadAt, Instr.sureAddr, Sem.run_bind, Sem.run_pure, Result.andThen_ok, run_loadVar_row w g _ _ _ (0, 0) _ (hc w hw) Tryd.underlying47 rfl momRow]
theorem ret_mom {w wq : World} {R : Option Ins.M} {a : Act} {R2 : Nat} {sh : Int} {f : Nat → Int} {ns z : Int} {b : Bool} (hd : a.defers = []) (hp : a.tmps.getD 2 undef = .pointer (some ⟨R2, 0, none⟩)) (hv : a.tmps.getD 3 undef = .bool b) (hg : Blk wq R2 47 (momC sh f ns z))
    (hpost : RetRd w R (.returned (.tuple #[.agg (momC sh f ns z), .bool b])) wq) : bodyPost Tryd.prog Tryd.f24 (RetRd w R) Exit.ret a wq :=
  bodyPost_ret (results_cell_tmp rfl _ _ R2 47 (momC sh f ns z) _ (.bool b) hp hv hg Tryd.underlying47 rfl momRow) hd hpost
theorem ret_fin {w wq : World} {R : Option Ins.M} {m : Ins.M} {p n : Nat} {sh : Int} {f : Nat → Int} {ns z : Int} (hR : R = if p = n then some m else none) (hm : momV m = .agg (momC sh f ns z)) (hb : Below w.heap.size w wq) :
    RetRd w R (.returned (.tuple #[.agg (momC sh f ns z), .bool ((p : Int) == (n : Int))])) wq := by
  unfold RetRd
  by_cases h : p = n
  · subst h
    rw [if_pos rfl] at hR
    subst hR
    rw [beq_self_eq_true]
    exact ⟨by rw [← hm], hb⟩
  · rw [if_neg h] at hR
    subst hR
    rw [show ((p : Int) == (n : Int)) = false by rw [beq_eq_false_iff_ne]; omega]
    exact ⟨⟨_, _, _, _, rfl⟩, hb⟩
/-- The numbers of a moment. -/
def fvec (y mo d h mi s zh zm : Nat) : Nat → Int := Ins.wrF (Ins.wrF (Ins.wrF z8 1 [y, mo, d]) 4 [h, mi, s]) 7 [zh, zm]
theorem momV_vec (m : Ins.M) : momV m = .agg (momC (shape m : Int) (fvec m.y m.mo m.d m.h m.mi m.s m.zh m.zm) (m.ns : Int) (m.z.toNat : Int)) := rfl
theorem at_byte (s : ByteArray) (p : Nat) (c : UInt8) (h : p < s.size) : Ins.isAt s.data.toList p c = (s[p] == c) := by
  unfold Ins.isAt
  rw [List.getElem?_eq_getElem (by rw [size_toList]; exact h)]
  rfl
theorem at_none (s : ByteArray) (p : Nat) (c : UInt8) (h : ¬ p < s.size) : Ins.isAt s.data.toList p c = false := by
  unfold Ins.isAt
  rw [List.getElem?_eq_none (by rw [size_toList]; omega)]
  rfl
theorem alloc_sz (w : World) (o : Obj) : (w.alloc o).heap.size = w.heap.size + 1 := by
  show (w.heap.push o).size = _
  simp
theorem blk5 (w : World) (T1 T2 T3 T4 T5 : TypeId) (c1 c2 c3 c4 c5 : Array Value) :
    Blk (((((w.alloc (.cells c1 T1)).alloc (.cells c2 T2)).alloc (.cells c3 T3)).alloc (.cells c4 T4)).alloc (.cells c5 T5)) w.heap.size T1 c1 ∧
    Blk (((((w.alloc (.cells c1 T1)).alloc (.cells c2 T2)).alloc (.cells c3 T3)).alloc (.cells c4 T4)).alloc (.cells c5 T5)) (w.heap.size + 1) T2 c2 ∧
    Blk (((((w.alloc (.cells c1 T1)).alloc (.cells c2 T2)).alloc (.cells c3 T3)).alloc (.cells c4 T4)).alloc (.cells c5 T5)) (w.heap.size + 1 + 1) T3 c3 ∧
    Blk (((((w.alloc (.cells c1 T1)).alloc (.cells c2 T2)).alloc (.cells c3 T3)).alloc (.cells c4 T4)).alloc (.cells c5 T5)) (w.heap.size + 1 + 1 + 1) T4 c4 ∧
    Blk (((((w.alloc (.cells c1 T1)).alloc (.cells c2 T2)).alloc (.cells c3 T3)).alloc (.cells c4 T4)).alloc (.cells c5 T5)) (w.heap.size + 1 + 1 + 1 + 1) T5 c5 ∧
    Below w.heap.size w (((((w.alloc (.cells c1 T1)).alloc (.cells c2 T2)).alloc (.cells c3 T3)).alloc (.cells c4 T4)).alloc (.cells c5 T5)) := by
  have b2 := Blk.new (w.alloc (.cells c1 T1)) T2 c2
  have b3 := Blk.new ((w.alloc (.cells c1 T1)).alloc (.cells c2 T2)) T3 c3
  have b4 := Blk.new (((w.alloc (.cells c1 T1)).alloc (.cells c2 T2)).alloc (.cells c3 T3)) T4 c4
  have b5 := Blk.new ((((w.alloc (.cells c1 T1)).alloc (.cells c2 T2)).alloc (.cells c3 T3)).alloc (.cells c4 T4)) T5 c5
  rw [alloc_sz] at b2
  rw [alloc_sz, alloc_sz] at b3
  rw [alloc_sz, alloc_sz, alloc_sz] at b4
  rw [alloc_sz, alloc_sz, alloc_sz, alloc_sz] at b5
  refine ⟨((((Blk.new w T1 c1).alloc _).alloc _).alloc _).alloc _, ((b2.alloc _).alloc _).alloc _, (b3.alloc _).alloc _, b4.alloc _, b5, ?_⟩
  exact (((((Below.refl _ w).alloc (Nat.le_refl _) _).alloc (by rw [alloc_sz]; omega) _).alloc (by rw [alloc_sz, alloc_sz]; omega) _).alloc (by rw [alloc_sz, alloc_sz, alloc_sz]; omega) _).alloc (by rw [alloc_sz, alloc_sz, alloc_sz, alloc_sz]; omega) _
set_option maxRecDepth 100000 in
set_option maxHeartbeats 8000000 in
theorem read_any (s : ByteArray) (w : World) (hs : s.size ≤ 1000000) :
    Calls Tryd.prog 24 #[.string s] w (RetRd w (Ins.read s.data.toList)) := by
  obtain ⟨R, hR⟩ : ∃ R, R = Ins.read s.data.toList := ⟨_, rfl⟩
  rw [← hR]
  have HR := Lib.hid hR
  clear hR
  obtain ⟨k1, k2, k3, k4, k5, k6⟩ := blk5 w 9 47 47 3 61 #[.string s] (momC 0 z8 0 0) (momC 0 z8 0 0) #[.int .i64 0] #[numF (w.heap.size + 1 + 1 + 1) w.heap.size]
  have hrd : RdS s w.heap.size (w.heap.size + 1) (w.heap.size + 1 + 1) (w.heap.size + 1 + 1 + 1) (w.heap.size + 1 + 1 + 1 + 1) w _ 0 0 z8 0 0 := ⟨k1, k2, k3, k4, k5, k6⟩
  clear k1 k2 k3 k4 k5 k6
  unfold momC numF z8 at hrd
  go_enter Tryd.func24, Tryd.ntmps24
  go_upto_region 5 with fail
  generalize (((((w.alloc (.cells #[.string s] 9)).alloc (.cells #[.int .i64 0, .int .i64 0, .int .i64 0, .int .i64 0, .int .i64 0, .int .i64 0, .int .i64 0, .int .i64 0, .int .i64 0, .int .i64 0, .int .u8 0] 47)).alloc (.cells #[.int .i64 0, .int .i64 0, .int .i64 0, .int .i64 0, .int .i64 0, .int .i64 0, .int .i64 0, .int .i64 0, .int .i64 0, .int .i64 0, .int .u8 0] 47)).alloc (.cells #[.int .i64 0] 3)).alloc (.cells #[.func (.func 37) #[] #[.pointer (some ⟨w.heap.size + 1 + 1 + 1, 0, none⟩), .pointer (some ⟨w.heap.size, 0, none⟩)]] 61)) = w1 at *
  have hrd : RdS s w.heap.size (w.heap.size + 1) (w.heap.size + 1 + 1) (w.heap.size + 1 + 1 + 1) (w.heap.size + 1 + 1 + 1 + 1) w w1 0 0 z8 0 0 := hrd
  obtain ⟨F, hF⟩ : ∃ F, F = w.heap.size + 1 + 1 + 1 + 1 := ⟨_, rfl⟩
  rw [← hF] at hrd ⊢
  obtain ⟨A, hA⟩ : ∃ A, A = w.heap.size + 1 + 1 + 1 := ⟨_, rfl⟩
  rw [← hA] at hrd ⊢
  obtain ⟨M, hM⟩ : ∃ M, M = w.heap.size + 1 + 1 := ⟨_, rfl⟩
  rw [← hM] at hrd ⊢
  obtain ⟨R2, hR2⟩ : ∃ R2, R2 = w.heap.size + 1 := ⟨_, rfl⟩
  rw [← hR2] at hrd ⊢
  obtain ⟨S, hS⟩ : ∃ S, S = w.heap.size := ⟨_, rfl⟩
  rw [← hS] at hrd ⊢
  have nSA : S ≠ A := by omega
  have nFA : F ≠ A := by omega
  have nMA : M ≠ A := by omega
  have nRA : R2 ≠ A := by omega
  have nSM : S ≠ M := by omega
  have nFM : F ≠ M := by omega
  have nRM : R2 ≠ M := by omega
  have nSR : S ≠ R2 := by omega
  have nAM : A ≠ M := by omega
  have nMR : M ≠ R2 := by omega
  have nAR : A ≠ R2 := by omega
  have bA : w.heap.size ≤ A := by omega
  have bM : w.heap.size ≤ M := by omega
  have bR : w.heap.size ≤ R2 := by omega
  clear hF hA hM hR2 hS
  obtain ⟨b, hb⟩ : ∃ b, b = (decide (2 < s.size) && !(Ins.isAt s.data.toList 2 58)) := ⟨_, rfl⟩
  have HB := Lib.hid hb
  clear hb
  have HRD := Lib.hid hrd
  have HFL := Lib.hid (fun first sep k q cap a w1 sh f ns z (hq : 1 ≤ q) (hqk : q + k ≤ 9) (hcap : k ≤ cap) (hf1 : 1 ≤ first) (hf : first ≤ 9) (ha : a ≤ s.size) (h : RdS s S R2 M A F w w1 a sh f ns z) =>
    fields_any s first sep k q cap a A S F M w.heap.size w1 sh f ns z bA bM hq hqk hcap hf1 hf ha hs h.A_ h.S_ h.F_ h.M_ nSA nFA nMA nSM nFM)
  have hsz : s.data.toList.length = s.size := size_toList s
  go_cut [18] from 11 to 18 (fun v wx => v = .bool b ∧ w1 = wx)
  case first =>
    have cS : w1.cell? ⟨S, 0, none⟩ = some (.string s) := hrd.S_.at_ 0
    clear hrd HRD HR
    have hb := HB.out
    clear HB
    by_cases h2 : 2 < s.size
    · rw [at_byte s 2 58 h2, decide_eq_true h2, Bool.true_and] at hb
      by_cases h3 : s[2] = 58
      · obtain rfl : b = false := by rw [hb, h3]; rfl
        have c1 : (s[2].toNat : Int) = 58 := by rw [h3]; rfl
        clear hb
        go_wp2_with fail
        go_meet
        case rel => exact ⟨rfl, rfl⟩
      · obtain rfl : b = true := by rw [hb, beq_false_of_ne h3]; rfl
        have c1 : ((s[2].toNat : Int) != 58) = true := by rw [bne_iff_ne]; intro h; exact h3 (UInt8.toNat_inj.1 (by show s[2].toNat = 58; omega))
        clear hb
        go_wp2_with fail
        go_meet
        case rel => exact ⟨rfl, rfl⟩
    · obtain rfl : b = false := by rw [hb, decide_eq_false h2]; rfl
      clear hb
      go_wp2_with fail
      go_meet
      case rel => exact ⟨rfl, rfl⟩
  case rest =>
    obtain ⟨rfl, rfl⟩ := hcut
    clear hrd
    go_upto_if 18 with fail
    go_cut [] from 19 to 43 (fun wx => ∃ (dt : Bool) (y mo d p : Nat), RdS s S R2 M A F w wx p (if dt then 1 else 0) (Ins.wrF z8 1 [y, mo, d]) 0 0 ∧ p ≤ s.size ∧ Hid (R = Ins.rdT s.data.toList dt y mo d p))
    case first =>
      have hrd := HRD.out
      clear HRD
      cases b with
      | false =>
        have hR0 : Ins.read s.data.toList = Ins.rdT s.data.toList false 0 0 0 0 := Ins.read_time (by
          have hb := HB.out
          rw [hsz]
          by_cases h2 : 2 < s.size
          · right
            rw [decide_eq_true h2, Bool.true_and] at hb
            cases h : Ins.isAt s.data.toList 2 58 with
            | true => rfl
            | false => rw [h] at hb; cases hb
          · left; omega)
        have HR2 : Hid (R = Ins.rdT s.data.toList false 0 0 0 0) := Lib.hid (HR.out.trans hR0)
        have hM2 : Blk w1 M 47 (momC 0 (Ins.wrF z8 1 [0, 0, 0]) 0 0) := hrd.M_
        clear HR HB HFL hR0
        go_wp2_with fail
        go_meet
        case rel => exact ⟨false, 0, 0, 0, 0, ⟨hrd.S_, hrd.R_, hM2, hrd.A_, hrd.F_, hrd.b_⟩, Nat.zero_le _, HR2⟩
      | true =>
        have hb := HB.out
        have h2 : 2 < s.size := by
          apply Classical.byContradiction
          intro h
          rw [decide_eq_false h] at hb
          cases hb
        have h58 : Ins.isAt s.data.toList 2 58 = false := by
          rw [decide_eq_true h2, Bool.true_and] at hb
          cases h : Ins.isAt s.data.toList 2 58 with
          | false => rfl
          | true => rw [h] at hb; cases hb
        have hrt := Ins.read_date h58
        rw [hsz] at hrt
        have HC0 := HFL.out 4 45 3 1 8 0 w1 0 z8 0 0 (by decide) (by decide) (by decide) (by decide) (by decide) (Nat.zero_le _) hrd
        have hfd := Ins.fld_date s.data.toList 0
        clear HFL hb h58 HB
        cases hd : Ins.dateAt s.data.toList 0 with
        | none =>
          rw [hd] at hrt hfd
          obtain rfl : R = none := HR.out.trans hrt
          have HC : Hid (Calls Tryd.prog 38 #[.slice (some ⟨M, 1, none⟩) 3 8, .int .i64 4, .int .u8 45, .pointer (some ⟨A, 0, none⟩), .pointer (some ⟨S, 0, none⟩), .pointer (some ⟨F, 0, none⟩)] w1 fun e w' => (e = .returned (.bool false) ∧ ∃ g : Nat → Int, Blk w' M 47 (momC 0 g 0 0)) ∧ Below w.heap.size w1 w' ∧ But2 A M w1 w') := Lib.hid (HC0.mono fun e w' h => by
            unfold RetF at h
            rw [hfd] at h
            exact h)
          have hRr := hrd.R_
          have hbb := hrd.b_
          clear HR hrt hfd HC0 hd hrd
          go_wp2_with (first | (go_at_call 38; with_reducible refine HC.out.mono ?_; rintro e w5 ⟨⟨rfl, g, hM5⟩, hb5, hbut5⟩; have hR5 := hbut5.blk nRA nRM hRr) | ((with_reducible refine wpList_load_mom rfl _ rfl M 0 g 0 0 ?_ hM5 ?_); exact rfl) | ((with_reducible refine wpList_store_mom rfl _ _ rfl rfl R2 0 z8 0 0 0 g 0 0 ?_ ?_ hR5 ?_); exact rfl; exact rfl))
          exact ret_mom rfl rfl rfl (hR5.row _) ⟨⟨_, _, _, _, rfl⟩, setRow_below (hbb.trans hb5) bR _⟩
        | some ymd =>
          obtain ⟨y, mo, d⟩ := ymd
          rw [hd] at hrt hfd
          have hbd := Ins.dateAt_bd hd
          rw [hsz] at hbd
          have hb10 : 10 ≤ s.size := by omega
          have HC : Hid (Calls Tryd.prog 38 #[.slice (some ⟨M, 1, none⟩) 3 8, .int .i64 4, .int .u8 45, .pointer (some ⟨A, 0, none⟩), .pointer (some ⟨S, 0, none⟩), .pointer (some ⟨F, 0, none⟩)] w1 fun e w' => (e = .returned (.bool true) ∧ Blk w' A 3 #[.int .i64 10] ∧ Blk w' M 47 (momC 0 (Ins.wrF z8 1 [y, mo, d]) 0 0)) ∧ Below w.heap.size w1 w' ∧ But2 A M w1 w') := Lib.hid (HC0.mono fun e w' h => by
            unfold RetF at h
            rw [hfd] at h
            exact ⟨⟨h.1.1, h.1.2.1, h.1.2.2.2⟩, h.2⟩)
          have hRr := hrd.R_
          have hSr := hrd.S_
          have hFr := hrd.F_
          have hbb := hrd.b_
          simp only at hrt
          by_cases hl : s.size = 10
          · rw [if_pos hl] at hrt
            obtain rfl : R = some ⟨true, false, y, mo, d, 0, 0, 0, 0, 0, 0, 0⟩ := HR.out.trans hrt
            have hl2 : (10 : Int) = (s.size : Int) := by omega
            have hl3 : ((10 : Int) == (s.size : Int)) = true := by rw [beq_iff_eq]; exact hl2
            have HS := Lib.hid hsz
            clear HR hrt hfd HC0 hd hrd hl hbd hsz hl2 hb10
            go_wp2_with fail
            with_reducible refine HC.out.mono ?_
            rintro e w5 ⟨⟨rfl, hA5, hM5⟩, hb5, hbut5⟩
            have hR5 := hbut5.blk nRA nRM hRr
            have hS5 := hbut5.blk nSA nSM hSr
            have hF5 := hbut5.blk nFA nFM hFr
            have hM6 : Blk (w5.setCell ⟨M, 0, none⟩ (.int .i64 1)) M 47 (momC 1 (Ins.wrF z8 1 [y, mo, d]) 0 0) := hM5.put 0 (.int .i64 1)
            have hR6 : Blk (w5.setCell ⟨M, 0, none⟩ (.int .i64 1)) R2 47 (momC 0 z8 0 0) := hR5.set_other (a := ⟨M, 0, none⟩) nRM _
            have m0 : w5.cell? ⟨M, 0, none⟩ = some (.int .i64 0) := hM5.at_ 0
            have m1 : w5.frozen? ⟨M, 0, none⟩ = false := hM5.free 0
            have a0 : w5.cell? ⟨A, 0, none⟩ = some (.int .i64 10) := hA5.at_ 0
            have a1 : w5.frozen? ⟨A, 0, none⟩ = false := hA5.free 0
            have s0 : w5.cell? ⟨S, 0, none⟩ = some (.string s) := hS5.at_ 0
            go_wp2_with (first | ((with_reducible refine wpList_load_mom rfl _ rfl M 1 (Ins.wrF z8 1 [y, mo, d]) 0 0 ?_ hM6 ?_); exact rfl) | ((with_reducible refine wpList_store_mom rfl _ _ rfl rfl R2 0 z8 0 0 1 (Ins.wrF z8 1 [y, mo, d]) 0 0 ?_ ?_ hR6 ?_); exact rfl; exact rfl))
            exact ret_mom rfl rfl rfl (hR6.row _) ⟨rfl, setRow_below ((hbb.trans hb5).setCell (p := ⟨M, 0, none⟩) bM _) bR _⟩
          · rw [if_neg hl] at hrt
            have h10 : 11 ≤ s.size := by omega
            have hl3 : ((10 : Int) == (s.size : Int)) = false := by rw [beq_eq_false_iff_ne]; omega
            have hi : 10 < s.size := by omega
            rw [at_byte s 10 84 hi, at_byte s 10 32 hi] at hrt
            by_cases t1 : s[10] = 84
            · rw [t1] at hrt
              have HR2 : Hid (R = Ins.rdT s.data.toList true y mo d 11) := Lib.hid (HR.out.trans hrt)
              have c1 : (s[10].toNat : Int) = 84 := by rw [t1]; rfl
              clear HR hrt hfd HC0 hd hrd hl hbd hsz hb10 t1
              go_wp2_with fail
              with_reducible refine HC.out.mono ?_
              rintro e w5 ⟨⟨rfl, hA5, hM5⟩, hb5, hbut5⟩
              have hR5 := hbut5.blk nRA nRM hRr
              have hS5 := hbut5.blk nSA nSM hSr
              have hF5 := hbut5.blk nFA nFM hFr
              have hM6 : Blk (w5.setCell ⟨M, 0, none⟩ (.int .i64 1)) M 47 (momC 1 (Ins.wrF z8 1 [y, mo, d]) 0 0) := hM5.put 0 (.int .i64 1)
              have hR6 : Blk (w5.setCell ⟨M, 0, none⟩ (.int .i64 1)) R2 47 (momC 0 z8 0 0) := hR5.set_other (a := ⟨M, 0, none⟩) nRM _
              have m0 : w5.cell? ⟨M, 0, none⟩ = some (.int .i64 0) := hM5.at_ 0
              have m1 : w5.frozen? ⟨M, 0, none⟩ = false := hM5.free 0
              have a0 : w5.cell? ⟨A, 0, none⟩ = some (.int .i64 10) := hA5.at_ 0
              have a1 : w5.frozen? ⟨A, 0, none⟩ = false := hA5.free 0
              have s0 : w5.cell? ⟨S, 0, none⟩ = some (.string s) := hS5.at_ 0
              go_wp2_with fail
              have hrd6 : RdS s S R2 M A F w ((w5.setCell ⟨M, 0, none⟩ (.int .i64 1)).setCell ⟨A, 0, none⟩ (.int .i64 11)) 11 1 (Ins.wrF z8 1 [y, mo, d]) 0 0 :=
                ⟨(hS5.set_other (a := ⟨M, 0, none⟩) nSM _).set_other (a := ⟨A, 0, none⟩) nSA _, hR6.set_other (a := ⟨A, 0, none⟩) nRA _, hM6.set_other (a := ⟨A, 0, none⟩) nMA _, (hA5.set_other (a := ⟨M, 0, none⟩) nAM _).put 0 (.int .i64 11), (hF5.set_other (a := ⟨M, 0, none⟩) nFM _).set_other (a := ⟨A, 0, none⟩) nFA _, ((hbb.trans hb5).setCell (p := ⟨M, 0, none⟩) bM _).setCell (p := ⟨A, 0, none⟩) bA _⟩
              go_meet
              case rel => exact ⟨true, y, mo, d, 11, hrd6, h10, HR2⟩
            · by_cases t2 : s[10] = 32
              · rw [t2] at hrt
                have HR2 : Hid (R = Ins.rdT s.data.toList true y mo d 11) := Lib.hid (HR.out.trans hrt)
                have c1 : (s[10].toNat : Int) = 32 := by rw [t2]; rfl
                clear HR hrt hfd HC0 hd hrd hl hbd hsz hb10 t1 t2
                go_wp2_with fail
                with_reducible refine HC.out.mono ?_
                rintro e w5 ⟨⟨rfl, hA5, hM5⟩, hb5, hbut5⟩
                have hR5 := hbut5.blk nRA nRM hRr
                have hS5 := hbut5.blk nSA nSM hSr
                have hF5 := hbut5.blk nFA nFM hFr
                have hM6 : Blk (w5.setCell ⟨M, 0, none⟩ (.int .i64 1)) M 47 (momC 1 (Ins.wrF z8 1 [y, mo, d]) 0 0) := hM5.put 0 (.int .i64 1)
                have hR6 : Blk (w5.setCell ⟨M, 0, none⟩ (.int .i64 1)) R2 47 (momC 0 z8 0 0) := hR5.set_other (a := ⟨M, 0, none⟩) nRM _
                have m0 : w5.cell? ⟨M, 0, none⟩ = some (.int .i64 0) := hM5.at_ 0
                have m1 : w5.frozen? ⟨M, 0, none⟩ = false := hM5.free 0
                have a0 : w5.cell? ⟨A, 0, none⟩ = some (.int .i64 10) := hA5.at_ 0
                have a1 : w5.frozen? ⟨A, 0, none⟩ = false := hA5.free 0
                have s0 : w5.cell? ⟨S, 0, none⟩ = some (.string s) := hS5.at_ 0
                go_wp2_with fail
                have hrd6 : RdS s S R2 M A F w ((w5.setCell ⟨M, 0, none⟩ (.int .i64 1)).setCell ⟨A, 0, none⟩ (.int .i64 11)) 11 1 (Ins.wrF z8 1 [y, mo, d]) 0 0 :=
                  ⟨(hS5.set_other (a := ⟨M, 0, none⟩) nSM _).set_other (a := ⟨A, 0, none⟩) nSA _, hR6.set_other (a := ⟨A, 0, none⟩) nRA _, hM6.set_other (a := ⟨A, 0, none⟩) nMA _, (hA5.set_other (a := ⟨M, 0, none⟩) nAM _).put 0 (.int .i64 11), (hF5.set_other (a := ⟨M, 0, none⟩) nFM _).set_other (a := ⟨A, 0, none⟩) nFA _, ((hbb.trans hb5).setCell (p := ⟨M, 0, none⟩) bM _).setCell (p := ⟨A, 0, none⟩) bA _⟩
                go_meet
                case rel => exact ⟨true, y, mo, d, 11, hrd6, h10, HR2⟩
              · rw [beq_false_of_ne t1, beq_false_of_ne t2] at hrt
                obtain rfl : R = none := HR.out.trans hrt
                have c1 : ((s[10].toNat : Int) != 84) = true := by rw [bne_iff_ne]; intro h; exact t1 (UInt8.toNat_inj.1 (by show s[10].toNat = 84; omega))
                have c2 : ((s[10].toNat : Int) != 32) = true := by rw [bne_iff_ne]; intro h; exact t2 (UInt8.toNat_inj.1 (by show s[10].toNat = 32; omega))
                clear HR hrt hfd HC0 hd hrd hl hbd hsz hb10 t1 t2
                go_wp2_with fail
                with_reducible refine HC.out.mono ?_
                rintro e w5 ⟨⟨rfl, hA5, hM5⟩, hb5, hbut5⟩
                have hR5 := hbut5.blk nRA nRM hRr
                have hS5 := hbut5.blk nSA nSM hSr
                have hF5 := hbut5.blk nFA nFM hFr
                have hM6 : Blk (w5.setCell ⟨M, 0, none⟩ (.int .i64 1)) M 47 (momC 1 (Ins.wrF z8 1 [y, mo, d]) 0 0) := hM5.put 0 (.int .i64 1)
                have hR6 : Blk (w5.setCell ⟨M, 0, none⟩ (.int .i64 1)) R2 47 (momC 0 z8 0 0) := hR5.set_other (a := ⟨M, 0, none⟩) nRM _
                have m0 : w5.cell? ⟨M, 0, none⟩ = some (.int .i64 0) := hM5.at_ 0
                have m1 : w5.frozen? ⟨M, 0, none⟩ = false := hM5.free 0
                have a0 : w5.cell? ⟨A, 0, none⟩ = some (.int .i64 10) := hA5.at_ 0
                have a1 : w5.frozen? ⟨A, 0, none⟩ = false := hA5.free 0
                have s0 : w5.cell? ⟨S, 0, none⟩ = some (.string s) := hS5.at_ 0
                go_wp2_with (first | ((with_reducible refine wpList_load_mom rfl _ rfl M 1 (Ins.wrF z8 1 [y, mo, d]) 0 0 ?_ hM6 ?_); exact rfl) | ((with_reducible refine wpList_store_mom rfl _ _ rfl rfl R2 0 z8 0 0 1 (Ins.wrF z8 1 [y, mo, d]) 0 0 ?_ ?_ hR6 ?_); exact rfl; exact rfl))
                exact ret_mom rfl rfl rfl (hR6.row _) ⟨⟨_, _, _, _, rfl⟩, setRow_below ((hbb.trans hb5).setCell (p := ⟨M, 0, none⟩) bM _) bR _⟩
    case rest =>
      obtain ⟨dt, y, mo, d, p, hrd, hp, HR2⟩ := hcut
      clear HR HRD HB
      obtain ⟨sh, hsh⟩ : ∃ sh : Int, sh = if dt then 1 else 0 := ⟨_, rfl⟩
      rw [← hsh] at hrd
      have hsh0 : 0 ≤ sh := by rw [hsh]; cases dt <;> decide
      have hsh1 : sh ≤ 1 := by rw [hsh]; cases dt <;> decide
      have HSH := Lib.hid hsh
      clear hsh
      have HC0 := HFL.out 2 58 3 4 5 p wc sh (Ins.wrF z8 1 [y, mo, d]) 0 0 (by decide) (by decide) (by decide) (by decide) (by decide) hp hrd
      have hfd := Ins.fld_hms s.data.toList p
      have HR3 := HR2.out
      unfold Ins.rdT at HR3
      have hRr := hrd.R_
      have hSr := hrd.S_
      have hFr := hrd.F_
      have hbb := hrd.b_
      cases hh : Ins.hmsAt s.data.toList p with
      | none =>
        rw [hh] at HR3 hfd
        obtain rfl : R = none := HR3
        have HC : Hid (Calls Tryd.prog 38 #[.slice (some ⟨M, 4, none⟩) 3 5, .int .i64 2, .int .u8 58, .pointer (some ⟨A, 0, none⟩), .pointer (some ⟨S, 0, none⟩), .pointer (some ⟨F, 0, none⟩)] wc fun e w' => (e = .returned (.bool false) ∧ ∃ g : Nat → Int, Blk w' M 47 (momC sh g 0 0)) ∧ Below w.heap.size wc w' ∧ But2 A M wc w') := Lib.hid (HC0.mono fun e w' h => by
          unfold RetF at h
          rw [hfd] at h
          exact h)
        clear HFL HSH HC0 hfd HR2 hh hrd hsz
        go_wp2_with fail
        refine HC.out.mono ?_
        rintro e w5 ⟨⟨rfl, g, hM5⟩, hb5, hbut5⟩
        have hR5 := hbut5.blk nRA nRM hRr
        go_wp2_with (first | ((with_reducible refine wpList_load_mom rfl _ rfl M sh g 0 0 ?_ hM5 ?_); exact rfl) | ((with_reducible refine wpList_store_mom rfl _ _ rfl rfl R2 0 z8 0 0 sh g 0 0 ?_ ?_ hR5 ?_); exact rfl; exact rfl))
        exact ret_mom rfl rfl rfl (hR5.row _) ⟨⟨_, _, _, _, rfl⟩, setRow_below (hbb.trans hb5) bR _⟩
      | some hms =>
        obtain ⟨h, mi, sc⟩ := hms
        rw [hh] at HR3 hfd
        have hbd := (Ins.hmsAt_bd hh).2.2.2
        rw [hsz] at hbd
        have HR4 : Hid (R = Ins.fT s.data.toList dt y mo d h mi sc (p + 8)) := Lib.hid HR3
        have HC : Hid (Calls Tryd.prog 38 #[.slice (some ⟨M, 4, none⟩) 3 5, .int .i64 2, .int .u8 58, .pointer (some ⟨A, 0, none⟩), .pointer (some ⟨S, 0, none⟩), .pointer (some ⟨F, 0, none⟩)] wc fun e w' => (e = .returned (.bool true) ∧ Blk w' A 3 #[.int .i64 ((p + 8 : Nat) : Int)] ∧ Blk w' M 47 (momC sh (Ins.wrF (Ins.wrF z8 1 [y, mo, d]) 4 [h, mi, sc]) 0 0)) ∧ Below w.heap.size wc w' ∧ But2 A M wc w') := Lib.hid (HC0.mono fun e w' h => by
          unfold RetF at h
          rw [hfd] at h
          exact ⟨⟨h.1.1, h.1.2.1, h.1.2.2.2⟩, h.2⟩)
        obtain ⟨q, hq⟩ : ∃ q, q = p + 8 := ⟨_, rfl⟩
        rw [← hq] at HR4 HC hbd
        obtain ⟨f, hf⟩ : ∃ f, f = Ins.wrF (Ins.wrF z8 1 [y, mo, d]) 4 [h, mi, sc] := ⟨_, rfl⟩
        rw [← hf] at HC
        have HF := Lib.hid hf
        have HS := Lib.hid hsz
        clear HC0 hfd HR3 HR2 hh hrd hsz hf hq hp
        go_wp2_with fail
        refine HC.out.mono ?_
        rintro e w5 ⟨⟨rfl, hA5, hM5⟩, hb5, hbut5⟩
        have hR5 := hbut5.blk nRA nRM hRr
        have hS5 := hbut5.blk nSA nSM hSr
        have hF5 := hbut5.blk nFA nFM hFr
        have m0 : w5.cell? ⟨M, 0, none⟩ = some (.int .i64 sh) := hM5.at_ 0
        have m1 : w5.frozen? ⟨M, 0, none⟩ = false := hM5.free 0
        have hrd6 : RdS s S R2 M A F w (w5.setCell ⟨M, 0, none⟩ (.int .i64 (sh + 2))) q (sh + 2) f 0 0 :=
          ⟨hS5.set_other (a := ⟨M, 0, none⟩) nSM _, hR5.set_other (a := ⟨M, 0, none⟩) nRM _, hM5.put 0 (.int .i64 (sh + 2)), hA5.set_other (a := ⟨M, 0, none⟩) nAM _, hF5.set_other (a := ⟨M, 0, none⟩) nFM _, (hbb.trans hb5).setCell (p := ⟨M, 0, none⟩) bM _⟩
        have a2 : sh + 2 ≤ 3 := by omega
        go_upto_region 17 with fail
        clear hRr hSr hFr hbb HC hA5 hM5 hR5 hS5 hF5 m0 m1
        generalize w5.setCell ⟨M, 0, none⟩ (.int .i64 (sh + 2)) = w7 at *
        clear hb5 hbut5
        obtain ⟨c, hc⟩ : ∃ c, c = Ins.isAt s.data.toList q 46 := ⟨_, rfl⟩
        have HCC := Lib.hid hc
        clear hc
        have HRD := Lib.hid hrd6
        go_cut [63] from 54 to 63 (fun v wx => v = .bool c ∧ w7 = wx)
        case first =>
          have cS : w7.cell? ⟨S, 0, none⟩ = some (.string s) := hrd6.S_.at_ 0
          have cA : w7.cell? ⟨A, 0, none⟩ = some (.int .i64 (q : Int)) := hrd6.A_.at_ 0
          clear hrd6 HRD HR4 HF HSH HFL
          have hc := HCC.out
          clear HCC
          by_cases h2 : q < s.size
          · rw [at_byte s q 46 h2] at hc
            by_cases h3 : s[q] = 46
            · obtain rfl : c = true := by rw [hc, h3]; rfl
              have c1 : (s[q].toNat : Int) = 46 := by rw [h3]; rfl
              clear hc
              go_wp2_with fail
              go_meet
              case rel => exact ⟨rfl, rfl⟩
            · obtain rfl : c = false := by rw [hc]; exact beq_false_of_ne h3
              have c1 : ((s[q].toNat : Int) == 46) = false := byte_ne 46 h3
              clear hc
              go_wp2_with fail
              go_meet
              case rel => exact ⟨rfl, rfl⟩
          · obtain rfl : c = false := by rw [hc]; exact at_none s q 46 h2
            clear hc
            go_wp2_with fail
            go_meet
            case rel => exact ⟨rfl, rfl⟩
        case rest =>
          obtain ⟨rfl, rfl⟩ := hcut
          clear hrd6
          go_upto_if 63 with fail
          go_cut [8] from 64 to 110 (fun _ wx => ∃ b ns : Nat, RdS s S R2 M A F w wx b (sh + 2) f (ns : Int) 0 ∧ b ≤ s.size ∧ Hid (R = Ins.zT s.data.toList dt y mo d h mi sc ns b))
          case first =>
            have hrd := HRD.out
            clear HRD
            cases c with
            | false =>
              have HR5 : Hid (R = Ins.zT s.data.toList dt y mo d h mi sc 0 q) := Lib.hid (by rw [← Ins.fT_none _ _ _ _ _ _ _ _ _ HCC.out.symm]; exact HR4.out)
              clear HR4 HCC HSH HFL HF
              go_wp2_with fail
              go_meet
              case rel => exact ⟨q, 0, hrd, hbd, HR5⟩
            | true =>
              have hp := HCC.out.symm
              have hql : q < s.size := by
                unfold Ins.isAt at hp
                rw [beq_iff_eq] at hp
                have := (List.getElem?_eq_some_iff.1 hp).1
                rw [size_toList] at this
                exact this
              have hR5 := HR4.out
              rw [Ins.fT_frac _ _ _ _ _ _ _ _ _ hp] at hR5
              obtain ⟨l, hl⟩ : ∃ l, l = s.data.toList.drop (q + 1) := ⟨_, rfl⟩
              rw [← hl] at hR5
              have HL := Lib.hid hl
              have HR5 := Lib.hid hR5
              obtain ⟨r, hr⟩ : ∃ r, r = Ins.run l := ⟨_, rfl⟩
              rw [← hr] at HR5
              have HRr := Lib.hid hr
              clear hR5 hp hl hr HR4 HCC HSH HFL HF
              have cA : w7.cell? ⟨A, 0, none⟩ = some (.int .i64 (q : Int)) := hrd.A_.at_ 0
              have fA : w7.frozen? ⟨A, 0, none⟩ = false := hrd.A_.free 0
              have hrd8 : RdS s S R2 M A F w (w7.setCell ⟨A, 0, none⟩ (.int .i64 ((q : Int) + 1))) (q + 1) (sh + 2) f 0 0 :=
                ⟨hrd.S_.set_other (a := ⟨A, 0, none⟩) nSA _, hrd.R_.set_other (a := ⟨A, 0, none⟩) nRA _, hrd.M_.set_other (a := ⟨A, 0, none⟩) nMA _, hrd.A_.put 0 (.int .i64 ((q : Int) + 1)), hrd.F_.set_other (a := ⟨A, 0, none⟩) nFA _, hrd.b_.setCell (p := ⟨A, 0, none⟩) bA _⟩
              have HV0 : Hid ((0 : Int) = ((Ins.val 0 (l.take 0) : Nat) : Int)) := Lib.hid rfl
              have HM : Hid (∀ n, n < r → n < 9 → ∃ h : q + 1 + n < s.size, Ins.dig s[q + 1 + n] = true ∧ Ins.val 0 (l.take (n + 1)) = 10 * Ins.val 0 (l.take n) + Ins.dv s[q + 1 + n]) := Lib.hid (fun n hn _ => by
                rw [HRr.out] at hn
                obtain ⟨c, h1, h2⟩ := Ins.run_get l n hn
                have hv := Ins.val_snoc l n c h1
                rw [HL.out, List.getElem?_drop] at h1
                obtain ⟨h3, h4⟩ := List.getElem?_eq_some_iff.1 h1
                have h5 : q + 1 + n < s.size := by rw [size_toList] at h3; exact h3
                have h6 : s[q + 1 + n] = c := h4
                exact ⟨h5, by rw [h6]; exact h2, by rw [h6]; exact hv⟩)
              have HE : Hid (∀ h : q + 1 + r < s.size, Ins.dig s[q + 1 + r] = false) := Lib.hid (fun h => by
                refine Ins.run_stop l _ ?_
                rw [← HRr.out, HL.out, List.getElem?_drop, List.getElem?_eq_getElem (by rw [size_toList]; exact h)]
                rfl)
              have HZ : Hid (∀ n, n ≤ 9 → Ins.val 0 (l.take n) < 10 ^ n ∨ r < n) := Lib.hid (fun n _ => by
                by_cases hn : r < n
                · exact .inr hn
                · left
                  have h1 := Ins.val_lt (l.take n) 0 (fun c hc => Ins.run_dig l c (by
                    rw [← HRr.out]
                    obtain ⟨j, hj⟩ : ∃ j, r = n + j := ⟨r - n, by omega⟩
                    rw [hj, List.take_add]
                    exact List.mem_append_left _ hc))
                  rw [List.length_take, Nat.zero_add, Nat.one_mul] at h1
                  exact Nat.lt_of_lt_of_le h1 (Nat.pow_le_pow_right (by decide) (Nat.min_le_left _ _)))
              have HG : Hid (q + 1 + r ≤ s.size) := Lib.hid (by
                have := Ins.run_le l
                rw [HL.out, List.length_drop, size_toList, ← HL.out, ← HRr.out] at this
                omega)
              have hgr := HG.out
              go_upto_block 0 with fail
              generalize w7.setCell ⟨A, 0, none⟩ (.int .i64 ((q : Int) + 1)) = w8 at *
              clear cA fA hrd
              go_cut [8] from 66 to 99 (fun nv wx => ∃ n : Nat, nv = .int .i64 (n : Int) ∧ n = min 9 r ∧ RdS s S R2 M A F w wx (q + 1 + n) (sh + 2) f ((Ins.val 0 (l.take n) : Nat) : Int) 0)
              case first =>
                go_wp2_with fail
                go_loopg [8] 9 (fun g nv wr => ∃ n : Nat, nv = .int .i64 (n : Int) ∧ n + g = 9 ∧ n ≤ r ∧ RdS s S R2 M A F w wr (q + 1 + n) (sh + 2) f ((Ins.val 0 (l.take n) : Nat) : Int) 0)
                case atStart => exact ⟨0, rfl, rfl, Nat.zero_le _, by rw [← HV0.out]; exact hrd8⟩
                case round =>
                  clear HV0 hrd8
                  obtain ⟨n, rfl, hng, hnr, hrd⟩ := hrel
                  have cS : wr.cell? ⟨S, 0, none⟩ = some (.string s) := hrd.S_.at_ 0
                  have cA0 : wr.cell? ⟨A, 0, none⟩ = some (.int .i64 ((q + 1 + n : Nat) : Int)) := hrd.A_.at_ 0
                  have fA : wr.frozen? ⟨A, 0, none⟩ = false := hrd.A_.free 0
                  have cM0 : wr.cell? ⟨M, 9, none⟩ = some (.int .i64 ((Ins.val 0 (l.take n) : Nat) : Int)) := hrd.M_.at_ 9
                  have fM : wr.frozen? ⟨M, 9, none⟩ = false := hrd.M_.free 9
                  obtain ⟨P, hP⟩ : ∃ P, P = q + 1 + n := ⟨_, rfl⟩
                  obtain ⟨V, hV⟩ : ∃ V, V = Ins.val 0 (l.take n) := ⟨_, rfl⟩
                  have hrdP := hrd
                  rw [← hP] at cA0
                  rw [← hP, ← hV] at hrdP
                  rw [← hV] at cM0
                  by_cases h9 : n < 9
                  · have hVb : V < 1000000000 := by
                      rcases HZ.out n (by omega) with h | h
                      · rw [hV]; exact Nat.lt_of_lt_of_le h (Nat.pow_le_pow_right (by decide) (show n ≤ 9 by omega))
                      · omega
                    by_cases hlt : n < r
                    · obtain ⟨hpl, hdg, hvs⟩ := HM.out n hlt h9
                      have hpl2 : P < s.size := by omega
                      have hdg2 : Ins.dig s[P] = true := by simp only [hP]; exact hdg
                      have hvs2 : Ins.val 0 (l.take (n + 1)) = 10 * V + Ins.dv s[P] := by rw [hvs, hV]; simp only [hP]
                      rcases dig_test s[P] with ⟨g0, g1, g2, g3⟩ | ⟨g0, g1⟩ | ⟨g0, g1⟩
                      · have HN : Hid (((Ins.val 0 (l.take (n + 1)) : Nat) : Int) = 10 * (V : Int) + ((s[P].toNat : Int) - 48)) := Lib.hid (by rw [hvs2]; omega)
                        have hPq := Lib.hid hP
                        have e0 : 0 ≤ (s[P].toNat : Int) - 48 := by omega
                        have e1 : (s[P].toNat : Int) - 48 ≤ 9 := by omega
                        obtain ⟨g, rfl⟩ : ∃ g, gk = g + 1 := ⟨gk - 1, by omega⟩
                        clear HM HE HZ HR5 HL HRr HG hdg hvs hdg2 hvs2 g0 g3 hP hV hpl hrd
                        go_upto_region 21 with fail
                        refine wp_region_quiet_tail 10 (by kernel_rfl) (by kernel_rfl) ?_
                        simp only [List.take_succ_cons, List.take_zero, List.drop_succ_cons, List.drop_zero]
                        refine quiet_of_run rfl (.pointer (some ⟨M, 9, none⟩)) (fun w' _ => by kernel_rfl) ?_
                        simp only [Act.put, List.setIfInBounds_toArray, List.set_cons_succ, List.set_cons_zero]
                        refine quiet_load_cell rfl 3 _ rfl ⟨M, 9, none⟩ _ (funext Tryd.isAgg3) rfl (fun w' h => by subst h; exact cM0) ?_
                        simp only [Act.put, List.setIfInBounds_toArray, List.set_cons_succ, List.set_cons_zero]
                        go_big_quiet_step (fail)
                        refine quiet_load_cell rfl 9 _ rfl ⟨S, 0, none⟩ _ (funext Tryd.isAgg9) rfl (fun w' h => by subst h; exact cS) ?_
                        simp only [Act.put, List.setIfInBounds_toArray, List.set_cons_succ, List.set_cons_zero]
                        refine quiet_load_cell rfl 3 _ rfl ⟨A, 0, none⟩ _ (funext Tryd.isAgg3) rfl (fun w' h => by subst h; exact cA0) ?_
                        simp only [Act.put, List.setIfInBounds_toArray, List.set_cons_succ, List.set_cons_zero]
                        go_big_quiet_step (fail)
                        go_big_quiet_step (fail)
                        go_big_quiet_step (fail)
                        go_big_quiet_step (fail)
                        refine quiet_of_run rfl (.pointer (some ⟨M, 9, none⟩)) (fun w' _ => by kernel_rfl) ?_
                        simp only [Act.put, List.setIfInBounds_toArray, List.set_cons_succ, List.set_cons_zero]
                        refine wpQuiet_nil ?_
                        have dM : wr.drew.cell? ⟨M, 9, none⟩ = some (.int .i64 (V : Int)) := cM0
                        have eM : wr.drew.frozen? ⟨M, 9, none⟩ = false := fM
                        have dA : wr.drew.cell? ⟨A, 0, none⟩ = some (.int .i64 (P : Int)) := cA0
                        have eA : wr.drew.frozen? ⟨A, 0, none⟩ = false := fA
                        go_wp2_with fail
                        have hrdN : RdS s S R2 M A F w ((wr.setCell ⟨M, 9, none⟩ (.int .i64 (10 * (V : Int) + ((s[P].toNat : Int) - 48)))).setCell ⟨A, 0, none⟩ (.int .i64 ((P : Int) + 1))) (q + 1 + (n + 1)) (sh + 2) f ((Ins.val 0 (l.take (n + 1)) : Nat) : Int) 0 := by
                          rw [HN.out, show q + 1 + (n + 1) = P + 1 by have := hPq.out; omega]
                          exact ⟨(hrdP.S_.set_other (a := ⟨M, 9, none⟩) nSM _).set_other (a := ⟨A, 0, none⟩) nSA _, (hrdP.R_.set_other (a := ⟨M, 9, none⟩) nRM _).set_other (a := ⟨A, 0, none⟩) nRA _, Blk.set_other (a := ⟨A, 0, none⟩) (hrdP.M_.put 9 _) nMA _, (hrdP.A_.set_other (a := ⟨M, 9, none⟩) nAM _).put 0 (.int .i64 ((P : Int) + 1)), (hrdP.F_.set_other (a := ⟨M, 9, none⟩) nFM _).set_other (a := ⟨A, 0, none⟩) nFA _, (hrdP.b_.setCell (p := ⟨M, 9, none⟩) bM _).setCell (p := ⟨A, 0, none⟩) bA _⟩
                        go_roundg g
                        case measure => omega
                        case rel => exact ⟨n + 1, by go_num, by omega, by omega, ⟨hrdN.S_, hrdN.R_, hrdN.M_, hrdN.A_, hrdN.F_, Below.drew hrdN.b_⟩⟩
                      · rw [hdg2] at g0; cases g0
                      · rw [hdg2] at g0; cases g0
                    · obtain rfl : n = r := by omega
                      have hmin : Hid (n = min 9 n) := Lib.hid (by omega)
                      by_cases hpl : P < s.size
                      · have hdg := HE.out (by omega)
                        have hdg2 : Ins.dig s[P] = false := by simp only [hP]; exact hdg
                        rcases dig_test s[P] with ⟨g0, g1, g2, g3⟩ | ⟨g0, g1⟩ | ⟨g0, g1⟩
                        · rw [hdg2] at g0; cases g0
                        · clear HM HE HZ HR5 HL HRr HG hdg hdg2 g0 hP hV
                          go_wp2_with fail
                          go_meet
                          case rel => exact ⟨n, rfl, hmin.out, hrd⟩
                        · clear HM HE HZ HR5 HL HRr HG hdg hdg2 g0 hP hV
                          go_wp2_with fail
                          go_meet
                          case rel => exact ⟨n, rfl, hmin.out, hrd⟩
                      · clear HM HE HZ HR5 HL HRr HG hP hV
                        go_wp2_with fail
                        go_meet
                        case rel => exact ⟨n, rfl, hmin.out, hrd⟩
                  · have hmin : Hid (n = min 9 r) := Lib.hid (by omega)
                    clear HM HE HZ HR5 HL HRr HG hP hV
                    go_wp2_with fail
                    go_meet
                    case rel => exact ⟨n, rfl, hmin.out, hrd⟩
              case rest =>
                obtain ⟨n, rfl, hn, hrd⟩ := hcut
                have hR6 := HR5.out
                rw [← hn] at hR6
                have hn9 : n ≤ 9 := by omega
                have hnr : n ≤ r := by omega
                have hpe : q + 1 + n ≤ s.size := by omega
                have hvb : Ins.val 0 (l.take n) < 10 ^ n := by
                  rcases HZ.out n hn9 with h | h
                  · exact h
                  · omega
                by_cases h0 : n = 0
                · rw [if_pos h0] at hR6
                  obtain rfl : R = none := hR6
                  subst h0
                  have hM5 := hrd.M_
                  have hR5 := hrd.R_
                  have hb5 := hrd.b_
                  generalize ((Ins.val 0 (l.take 0) : Nat) : Int) = v0 at *
                  clear HR5 HL HRr HM HE HZ HG hn hrd hvb
                  go_wp2_with (first | ((with_reducible refine wpList_load_mom rfl _ rfl M (sh + 2) f v0 0 ?_ hM5 ?_); exact rfl) | ((with_reducible refine wpList_store_mom rfl _ _ rfl rfl R2 0 z8 0 0 (sh + 2) f v0 0 ?_ ?_ hR5 ?_); exact rfl; exact rfl))
                  exact ret_mom rfl rfl rfl (hR5.row _) ⟨⟨_, _, _, _, rfl⟩, setRow_below hb5 bR _⟩
                · rw [if_neg h0] at hR6
                  obtain ⟨V, hV⟩ : ∃ V, V = Ins.val 0 (l.take n) := ⟨_, rfl⟩
                  rw [← hV] at hR6 hrd hvb
                  have hVN : V * 10 ^ (9 - n) ≤ 999999999 := by
                    obtain ⟨j, hj⟩ : ∃ j, n + j = 9 := ⟨9 - n, by omega⟩
                    rw [show 9 - n = j by omega]
                    have h1 : 10 ^ n * 10 ^ j = 1000000000 := by rw [← Nat.pow_add, hj]
                    have h2 := (Nat.mul_lt_mul_right (Nat.pow_pos (n := j) (show 0 < 10 by decide))).2 hvb
                    omega
                  obtain ⟨NS, hNS⟩ : ∃ NS, NS = V * 10 ^ (9 - n) := ⟨_, rfl⟩
                  rw [← hNS] at hR6 hVN
                  have HR7 := Lib.hid hR6
                  have HNS := Lib.hid hNS
                  have h1n : 1 ≤ n := by omega
                  have hnn : ((n : Int) == 0) = false := by rw [beq_eq_false_iff_ne]; omega
                  clear hR6 HR5 HL HRr HM HE HZ HG hn h0 hvb hV hNS hnr
                  go_wp2_with fail
                  go_loopg [8] (9 - n) (fun g nv wr => ∃ m x : Nat, nv = .int .i64 (m : Int) ∧ m + g = 9 ∧ Hid (x * 10 ^ g = NS) ∧ RdS s S R2 M A F w wr (q + 1 + n) (sh + 2) f (x : Int) 0)
                  case atStart => exact ⟨n, V, rfl, by omega, Lib.hid HNS.out.symm, hrd⟩
                  case round =>
                    obtain ⟨m, x, rfl, hmg, HX, hrdx⟩ := hrel
                    have cM : wr.cell? ⟨M, 9, none⟩ = some (.int .i64 (x : Int)) := hrdx.M_.at_ 9
                    have fM : wr.frozen? ⟨M, 9, none⟩ = false := hrdx.M_.free 9
                    have hxb : x ≤ 999999999 := by
                      have h1 := HX.out
                      have h2 : x * 1 ≤ x * 10 ^ gk := Nat.mul_le_mul_left _ (Nat.pow_pos (by decide))
                      omega
                    by_cases hm : m < 9
                    · obtain ⟨g, rfl⟩ : ∃ g, gk = g + 1 := ⟨gk - 1, by omega⟩
                      have HX2 : Hid (x * 10 * 10 ^ g = NS) := Lib.hid (by rw [← HX.out, Nat.pow_succ, Nat.mul_assoc, Nat.mul_comm 10])
                      have hrd2 : RdS s S R2 M A F w (wr.setCell ⟨M, 9, none⟩ (.int .i64 ((x : Int) * 10))) (q + 1 + n) (sh + 2) f ((x * 10 : Nat) : Int) 0 :=
                        ⟨hrdx.S_.set_other (a := ⟨M, 9, none⟩) nSM _, hrdx.R_.set_other (a := ⟨M, 9, none⟩) nRM _, hrdx.M_.put 9 (.int .i64 ((x : Int) * 10)), hrdx.A_.set_other (a := ⟨M, 9, none⟩) nAM _, hrdx.F_.set_other (a := ⟨M, 9, none⟩) nFM _, hrdx.b_.setCell (p := ⟨M, 9, none⟩) bM _⟩
                      clear HX HR7 HNS
                      go_wp2_with fail
                      go_roundg g
                      case measure => omega
                      case rel => exact ⟨m + 1, x * 10, by go_num, by omega, HX2, hrd2⟩
                    · have hx : x = NS := by
                        have h1 := HX.out
                        rw [show gk = 0 by omega, Nat.pow_zero, Nat.mul_one] at h1
                        exact h1
                      subst hx
                      clear HX HNS
                      go_wp2_with fail
                      go_meet
                      case rel => exact ⟨q + 1 + n, x, hrdx, hpe, HR7⟩
          case rest =>
            obtain ⟨b1, ns, hrd, hb1, HR7⟩ := hcut
            clear HRD HR4 HCC hbd
            obtain ⟨c, hc⟩ : ∃ c, c = (decide (b1 < s.size) && dt) := ⟨_, rfl⟩
            have HC := Lib.hid hc
            clear hc
            have HRD := Lib.hid hrd
            go_upto_region 29 with fail
            go_cut [119] from 111 to 119 (fun v wx => v = .bool c ∧ wc = wx)
            case first =>
              have hc := HC.out
              have hsh := HSH.out
              have cS : wc.cell? ⟨S, 0, none⟩ = some (.string s) := hrd.S_.at_ 0
              have cA : wc.cell? ⟨A, 0, none⟩ = some (.int .i64 (b1 : Int)) := hrd.A_.at_ 0
              have m0 : wc.cell? ⟨M, 0, none⟩ = some (.int .i64 (sh + 2)) := hrd.M_.at_ 0
              clear HR7 HFL HSH HF HS hrd HC HRD
              by_cases he : b1 < s.size
              · rw [decide_eq_true he, Bool.true_and] at hc
                subst hc
                cases c with
                | true =>
                  obtain rfl : sh = 1 := hsh
                  go_wp2_with fail
                  go_meet
                  case rel => exact ⟨rfl, rfl⟩
                | false =>
                  obtain rfl : sh = 0 := hsh
                  go_wp2_with fail
                  go_meet
                  case rel => exact ⟨rfl, rfl⟩
              · obtain rfl : c = false := by rw [hc, decide_eq_false he]; rfl
                clear hc hsh
                go_wp2_with fail
                go_meet
                case rel => exact ⟨rfl, rfl⟩
            case rest =>
            obtain ⟨rfl, rfl⟩ := hcut
            clear hrd
            go_upto_if 119 with fail
            go_cut [] from 120 to 149 (fun wx => ∃ (p : Nat) (sh' : Int) (g : Nat → Int) (nv z : Int) (m : Ins.M), RdS s S R2 M A F w wx p sh' g nv z ∧ Hid (R = if p = s.size then some m else none) ∧ Hid (momV m = .agg (momC sh' g nv z)))
            case first =>
              have hrd := HRD.out
              clear HRD
              have hR := HR7.out
              unfold Ins.zT at hR
              rw [HS.out] at hR
              have hsh := HSH.out
              clear HSH HR7
              cases c with
              | false =>
                have HRR : Hid (R = if b1 = s.size then some ⟨dt, true, y, mo, d, h, mi, sc, ns, 0, 0, 0⟩ else none) := Lib.hid (by
                  have hc := HC.out
                  by_cases he : b1 = s.size
                  · rw [if_pos he] at hR ⊢; exact hR
                  · rw [decide_eq_true (show b1 < s.size by omega), Bool.true_and] at hc
                    rw [← hc, if_neg he] at hR
                    rw [if_neg he]
                    exact hR)
                have HMM : Hid (momV ⟨dt, true, y, mo, d, h, mi, sc, ns, 0, 0, 0⟩ = .agg (momC (sh + 2) f (ns : Int) 0)) := Lib.hid (by rw [HF.out, hsh]; cases dt <;> rfl)
                clear hR HF HS HC hsh HFL
                go_wp2_with fail
                go_meet
                case rel => exact ⟨b1, sh + 2, _, _, _, _, hrd, HRR, HMM⟩
              | true =>
                have hc := HC.out
                rw [eq_comm, Bool.and_eq_true, decide_eq_true_eq] at hc
                obtain ⟨hbl, rfl⟩ := hc
                obtain rfl : sh = 1 := hsh
                clear hsh0 hsh1 a2 HC
                simp only [if_true] at hR
                have cS : wc.cell? ⟨S, 0, none⟩ = some (.string s) := hrd.S_.at_ 0
                have cA : wc.cell? ⟨A, 0, none⟩ = some (.int .i64 (b1 : Int)) := hrd.A_.at_ 0
                · rw [if_neg (by omega)] at hR
                  have hget : s.data.toList[b1]? = some s[b1] := List.getElem?_eq_getElem (by rw [size_toList]; exact hbl)
                  have fA : wc.frozen? ⟨A, 0, none⟩ = false := hrd.A_.free 0
                  have m10 : wc.cell? ⟨M, 10, none⟩ = some (.int .u8 0) := hrd.M_.at_ 10
                  have f10 : wc.frozen? ⟨M, 10, none⟩ = false := hrd.M_.free 10
                  by_cases z1 : s[b1] = 90
                  · rw [z1] at hget
                    rw [Ins.zone_z _ _ hget] at hR
                    have HRR : Hid (R = if b1 + 1 = s.size then some ⟨true, true, y, mo, d, h, mi, sc, ns, 90, 0, 0⟩ else none) := Lib.hid hR
                    have HMM : Hid (momV ⟨true, true, y, mo, d, h, mi, sc, ns, 90, 0, 0⟩ = .agg (momC 3 f (ns : Int) 90)) := Lib.hid (by rw [HF.out]; rfl)
                    have c1 : (s[b1].toNat : Int) = 90 := by rw [z1]; rfl
                    clear z1 hget HFL HF HS hR
                    have hrd2 : RdS s S R2 M A F w ((wc.setCell ⟨M, 10, none⟩ (.int .u8 90)).setCell ⟨A, 0, none⟩ (.int .i64 ((b1 : Int) + 1))) (b1 + 1) 3 f (ns : Int) 90 :=
                      ⟨(hrd.S_.set_other (a := ⟨M, 10, none⟩) nSM _).set_other (a := ⟨A, 0, none⟩) nSA _, (hrd.R_.set_other (a := ⟨M, 10, none⟩) nRM _).set_other (a := ⟨A, 0, none⟩) nRA _, Blk.set_other (a := ⟨A, 0, none⟩) (hrd.M_.put 10 (.int .u8 90)) nMA _, (hrd.A_.set_other (a := ⟨M, 10, none⟩) nAM _).put 0 (.int .i64 ((b1 : Int) + 1)), (hrd.F_.set_other (a := ⟨M, 10, none⟩) nFM _).set_other (a := ⟨A, 0, none⟩) nFA _, (hrd.b_.setCell (p := ⟨M, 10, none⟩) bM _).setCell (p := ⟨A, 0, none⟩) bA _⟩
                    clear hrd
                    go_upto_region 32 with fail
                    clear cS cA fA m10 f10
                    generalize (wc.setCell ⟨M, 10, none⟩ (.int .u8 90)).setCell ⟨A, 0, none⟩ (.int .i64 ((b1 : Int) + 1)) = w7 at *
                    have m10 : w7.cell? ⟨M, 10, none⟩ = some (.int .u8 90) := hrd2.M_.at_ 10
                    have hRd : Blk w7 R2 47 (momC 0 z8 0 0) := hrd2.R_
                    have hMd : Blk w7 M 47 (momC 3 f (ns : Int) 90) := hrd2.M_
                    have cS : w7.cell? ⟨S, 0, none⟩ = some (.string s) := hrd2.S_.at_ 0
                    have cA : w7.cell? ⟨A, 0, none⟩ = some (.int .i64 ((b1 : Int) + 1)) := hrd2.A_.at_ 0
                    have hBd := hrd2.b_
                    have x0 : w7.cell? ⟨M, 0, none⟩ = some (.int .i64 3) := hMd.at_ 0
                    have y0 : w7.cell? ⟨R2, 0, none⟩ = some (.int .i64 0) := hRd.at_ 0
                    have v0 : w7.frozen? ⟨R2, 0, none⟩ = false := hRd.free 0
                    have x1 : w7.cell? ⟨M, 1, none⟩ = some (.int .i64 (f 1)) := hMd.at_ 1
                    have y1 : w7.cell? ⟨R2, 1, none⟩ = some (.int .i64 0) := hRd.at_ 1
                    have v1 : w7.frozen? ⟨R2, 1, none⟩ = false := hRd.free 1
                    have x2 : w7.cell? ⟨M, 2, none⟩ = some (.int .i64 (f 2)) := hMd.at_ 2
                    have y2 : w7.cell? ⟨R2, 2, none⟩ = some (.int .i64 0) := hRd.at_ 2
                    have v2 : w7.frozen? ⟨R2, 2, none⟩ = false := hRd.free 2
                    have x3 : w7.cell? ⟨M, 3, none⟩ = some (.int .i64 (f 3)) := hMd.at_ 3
                    have y3 : w7.cell? ⟨R2, 3, none⟩ = some (.int .i64 0) := hRd.at_ 3
                    have v3 : w7.frozen? ⟨R2, 3, none⟩ = false := hRd.free 3
                    have x4 : w7.cell? ⟨M, 4, none⟩ = some (.int .i64 (f 4)) := hMd.at_ 4
                    have y4 : w7.cell? ⟨R2, 4, none⟩ = some (.int .i64 0) := hRd.at_ 4
                    have v4 : w7.frozen? ⟨R2, 4, none⟩ = false := hRd.free 4
                    have x5 : w7.cell? ⟨M, 5, none⟩ = some (.int .i64 (f 5)) := hMd.at_ 5
                    have y5 : w7.cell? ⟨R2, 5, none⟩ = some (.int .i64 0) := hRd.at_ 5
                    have v5 : w7.frozen? ⟨R2, 5, none⟩ = false := hRd.free 5
                    have x6 : w7.cell? ⟨M, 6, none⟩ = some (.int .i64 (f 6)) := hMd.at_ 6
                    have y6 : w7.cell? ⟨R2, 6, none⟩ = some (.int .i64 0) := hRd.at_ 6
                    have v6 : w7.frozen? ⟨R2, 6, none⟩ = false := hRd.free 6
                    have x7 : w7.cell? ⟨M, 7, none⟩ = some (.int .i64 (f 7)) := hMd.at_ 7
                    have y7 : w7.cell? ⟨R2, 7, none⟩ = some (.int .i64 0) := hRd.at_ 7
                    have v7 : w7.frozen? ⟨R2, 7, none⟩ = false := hRd.free 7
                    have x8 : w7.cell? ⟨M, 8, none⟩ = some (.int .i64 (f 8)) := hMd.at_ 8
                    have y8 : w7.cell? ⟨R2, 8, none⟩ = some (.int .i64 0) := hRd.at_ 8
                    have v8 : w7.frozen? ⟨R2, 8, none⟩ = false := hRd.free 8
                    have x9 : w7.cell? ⟨M, 9, none⟩ = some (.int .i64 (ns : Int)) := hMd.at_ 9
                    have y9 : w7.cell? ⟨R2, 9, none⟩ = some (.int .i64 0) := hRd.at_ 9
                    have v9 : w7.frozen? ⟨R2, 9, none⟩ = false := hRd.free 9
                    have x10 : w7.cell? ⟨M, 10, none⟩ = some (.int .u8 90) := hMd.at_ 10
                    have y10 : w7.cell? ⟨R2, 10, none⟩ = some (.int .u8 0) := hRd.at_ 10
                    have v10 : w7.frozen? ⟨R2, 10, none⟩ = false := hRd.free 10
                    have q1 : ∀ j, (((((((((((((w7.setCell ⟨R2, 0, none⟩ (.int .i64 3)).setCell ⟨R2, 1, none⟩ (.int .i64 (f 1))).setCell ⟨R2, 2, none⟩ (.int .i64 (f 2))).setCell ⟨R2, 3, none⟩ (.int .i64 (f 3))).setCell ⟨R2, 4, none⟩ (.int .i64 (f 4))).setCell ⟨R2, 5, none⟩ (.int .i64 (f 5))).setCell ⟨R2, 6, none⟩ (.int .i64 (f 6))).setCell ⟨R2, 7, none⟩ (.int .i64 (f 7))).setCell ⟨R2, 8, none⟩ (.int .i64 (f 8))).setCell ⟨R2, 9, none⟩ (.int .i64 (ns : Int))).setCell ⟨R2, 10, none⟩ (.int .u8 90))).drew).cell? ⟨M, j, none⟩ = (momC 3 f (ns : Int) 90)[j]? := fun j => (blk_drew (other11 (W := w7) hMd nMR)).at_ j
                    have q2 : (((((((((((((w7.setCell ⟨R2, 0, none⟩ (.int .i64 3)).setCell ⟨R2, 1, none⟩ (.int .i64 (f 1))).setCell ⟨R2, 2, none⟩ (.int .i64 (f 2))).setCell ⟨R2, 3, none⟩ (.int .i64 (f 3))).setCell ⟨R2, 4, none⟩ (.int .i64 (f 4))).setCell ⟨R2, 5, none⟩ (.int .i64 (f 5))).setCell ⟨R2, 6, none⟩ (.int .i64 (f 6))).setCell ⟨R2, 7, none⟩ (.int .i64 (f 7))).setCell ⟨R2, 8, none⟩ (.int .i64 (f 8))).setCell ⟨R2, 9, none⟩ (.int .i64 (ns : Int))).setCell ⟨R2, 10, none⟩ (.int .u8 90))).drew).cell? ⟨A, 0, none⟩ = some (.int .i64 ((b1 : Int) + 1)) := (blk_drew (other11 (W := w7) hrd2.A_ nAR)).at_ 0
                    have q3 : (((((((((((((w7.setCell ⟨R2, 0, none⟩ (.int .i64 3)).setCell ⟨R2, 1, none⟩ (.int .i64 (f 1))).setCell ⟨R2, 2, none⟩ (.int .i64 (f 2))).setCell ⟨R2, 3, none⟩ (.int .i64 (f 3))).setCell ⟨R2, 4, none⟩ (.int .i64 (f 4))).setCell ⟨R2, 5, none⟩ (.int .i64 (f 5))).setCell ⟨R2, 6, none⟩ (.int .i64 (f 6))).setCell ⟨R2, 7, none⟩ (.int .i64 (f 7))).setCell ⟨R2, 8, none⟩ (.int .i64 (f 8))).setCell ⟨R2, 9, none⟩ (.int .i64 (ns : Int))).setCell ⟨R2, 10, none⟩ (.int .u8 90))).drew).cell? ⟨S, 0, none⟩ = some (.string s) := (blk_drew (other11 (W := w7) hrd2.S_ nSR)).at_ 0
                    have HD : Hid (w7.drew.cell? ⟨M, 0, none⟩ = some (.int .i64 3) ∧ w7.drew.cell? ⟨M, 1, none⟩ = some (.int .i64 (f 1)) ∧ w7.drew.cell? ⟨M, 2, none⟩ = some (.int .i64 (f 2)) ∧ w7.drew.cell? ⟨M, 3, none⟩ = some (.int .i64 (f 3)) ∧ w7.drew.cell? ⟨M, 4, none⟩ = some (.int .i64 (f 4)) ∧ w7.drew.cell? ⟨M, 5, none⟩ = some (.int .i64 (f 5)) ∧ w7.drew.cell? ⟨M, 6, none⟩ = some (.int .i64 (f 6)) ∧ w7.drew.cell? ⟨M, 7, none⟩ = some (.int .i64 (f 7)) ∧ w7.drew.cell? ⟨M, 8, none⟩ = some (.int .i64 (f 8)) ∧ w7.drew.cell? ⟨M, 9, none⟩ = some (.int .i64 (ns : Int)) ∧ w7.drew.cell? ⟨M, 10, none⟩ = some (.int .u8 90) ∧ w7.drew.cell? ⟨A, 0, none⟩ = some (.int .i64 ((b1 : Int) + 1)) ∧ w7.drew.cell? ⟨S, 0, none⟩ = some (.string s)) := Lib.hid ⟨x0, x1, x2, x3, x4, x5, x6, x7, x8, x9, x10, cA, cS⟩
                    have HP : Hid (((((((((((((w7.setCell ⟨R2, 0, none⟩ (.int .i64 3)).setCell ⟨R2, 1, none⟩ (.int .i64 (f 1))).setCell ⟨R2, 2, none⟩ (.int .i64 (f 2))).setCell ⟨R2, 3, none⟩ (.int .i64 (f 3))).setCell ⟨R2, 4, none⟩ (.int .i64 (f 4))).setCell ⟨R2, 5, none⟩ (.int .i64 (f 5))).setCell ⟨R2, 6, none⟩ (.int .i64 (f 6))).setCell ⟨R2, 7, none⟩ (.int .i64 (f 7))).setCell ⟨R2, 8, none⟩ (.int .i64 (f 8))).setCell ⟨R2, 9, none⟩ (.int .i64 (ns : Int))).setCell ⟨R2, 10, none⟩ (.int .u8 90))).drew.cell? ⟨M, 0, none⟩ = some (.int .i64 3) ∧ ((((((((((((w7.setCell ⟨R2, 0, none⟩ (.int .i64 3)).setCell ⟨R2, 1, none⟩ (.int .i64 (f 1))).setCell ⟨R2, 2, none⟩ (.int .i64 (f 2))).setCell ⟨R2, 3, none⟩ (.int .i64 (f 3))).setCell ⟨R2, 4, none⟩ (.int .i64 (f 4))).setCell ⟨R2, 5, none⟩ (.int .i64 (f 5))).setCell ⟨R2, 6, none⟩ (.int .i64 (f 6))).setCell ⟨R2, 7, none⟩ (.int .i64 (f 7))).setCell ⟨R2, 8, none⟩ (.int .i64 (f 8))).setCell ⟨R2, 9, none⟩ (.int .i64 (ns : Int))).setCell ⟨R2, 10, none⟩ (.int .u8 90))).drew.cell? ⟨M, 1, none⟩ = some (.int .i64 (f 1)) ∧ ((((((((((((w7.setCell ⟨R2, 0, none⟩ (.int .i64 3)).setCell ⟨R2, 1, none⟩ (.int .i64 (f 1))).setCell ⟨R2, 2, none⟩ (.int .i64 (f 2))).setCell ⟨R2, 3, none⟩ (.int .i64 (f 3))).setCell ⟨R2, 4, none⟩ (.int .i64 (f 4))).setCell ⟨R2, 5, none⟩ (.int .i64 (f 5))).setCell ⟨R2, 6, none⟩ (.int .i64 (f 6))).setCell ⟨R2, 7, none⟩ (.int .i64 (f 7))).setCell ⟨R2, 8, none⟩ (.int .i64 (f 8))).setCell ⟨R2, 9, none⟩ (.int .i64 (ns : Int))).setCell ⟨R2, 10, none⟩ (.int .u8 90))).drew.cell? ⟨M, 2, none⟩ = some (.int .i64 (f 2)) ∧ ((((((((((((w7.setCell ⟨R2, 0, none⟩ (.int .i64 3)).setCell ⟨R2, 1, none⟩ (.int .i64 (f 1))).setCell ⟨R2, 2, none⟩ (.int .i64 (f 2))).setCell ⟨R2, 3, none⟩ (.int .i64 (f 3))).setCell ⟨R2, 4, none⟩ (.int .i64 (f 4))).setCell ⟨R2, 5, none⟩ (.int .i64 (f 5))).setCell ⟨R2, 6, none⟩ (.int .i64 (f 6))).setCell ⟨R2, 7, none⟩ (.int .i64 (f 7))).setCell ⟨R2, 8, none⟩ (.int .i64 (f 8))).setCell ⟨R2, 9, none⟩ (.int .i64 (ns : Int))).setCell ⟨R2, 10, none⟩ (.int .u8 90))).drew.cell? ⟨M, 3, none⟩ = some (.int .i64 (f 3)) ∧ ((((((((((((w7.setCell ⟨R2, 0, none⟩ (.int .i64 3)).setCell ⟨R2, 1, none⟩ (.int .i64 (f 1))).setCell ⟨R2, 2, none⟩ (.int .i64 (f 2))).setCell ⟨R2, 3, none⟩ (.int .i64 (f 3))).setCell ⟨R2, 4, none⟩ (.int .i64 (f 4))).setCell ⟨R2, 5, none⟩ (.int .i64 (f 5))).setCell ⟨R2, 6, none⟩ (.int .i64 (f 6))).setCell ⟨R2, 7, none⟩ (.int .i64 (f 7))).setCell ⟨R2, 8, none⟩ (.int .i64 (f 8))).setCell ⟨R2, 9, none⟩ (.int .i64 (ns : Int))).setCell ⟨R2, 10, none⟩ (.int .u8 90))).drew.cell? ⟨M, 4, none⟩ = some (.int .i64 (f 4)) ∧ ((((((((((((w7.setCell ⟨R2, 0, none⟩ (.int .i64 3)).setCell ⟨R2, 1, none⟩ (.int .i64 (f 1))).setCell ⟨R2, 2, none⟩ (.int .i64 (f 2))).setCell ⟨R2, 3, none⟩ (.int .i64 (f 3))).setCell ⟨R2, 4, none⟩ (.int .i64 (f 4))).setCell ⟨R2, 5, none⟩ (.int .i64 (f 5))).setCell ⟨R2, 6, none⟩ (.int .i64 (f 6))).setCell ⟨R2, 7, none⟩ (.int .i64 (f 7))).setCell ⟨R2, 8, none⟩ (.int .i64 (f 8))).setCell ⟨R2, 9, none⟩ (.int .i64 (ns : Int))).setCell ⟨R2, 10, none⟩ (.int .u8 90))).drew.cell? ⟨M, 5, none⟩ = some (.int .i64 (f 5)) ∧ ((((((((((((w7.setCell ⟨R2, 0, none⟩ (.int .i64 3)).setCell ⟨R2, 1, none⟩ (.int .i64 (f 1))).setCell ⟨R2, 2, none⟩ (.int .i64 (f 2))).setCell ⟨R2, 3, none⟩ (.int .i64 (f 3))).setCell ⟨R2, 4, none⟩ (.int .i64 (f 4))).setCell ⟨R2, 5, none⟩ (.int .i64 (f 5))).setCell ⟨R2, 6, none⟩ (.int .i64 (f 6))).setCell ⟨R2, 7, none⟩ (.int .i64 (f 7))).setCell ⟨R2, 8, none⟩ (.int .i64 (f 8))).setCell ⟨R2, 9, none⟩ (.int .i64 (ns : Int))).setCell ⟨R2, 10, none⟩ (.int .u8 90))).drew.cell? ⟨M, 6, none⟩ = some (.int .i64 (f 6)) ∧ ((((((((((((w7.setCell ⟨R2, 0, none⟩ (.int .i64 3)).setCell ⟨R2, 1, none⟩ (.int .i64 (f 1))).setCell ⟨R2, 2, none⟩ (.int .i64 (f 2))).setCell ⟨R2, 3, none⟩ (.int .i64 (f 3))).setCell ⟨R2, 4, none⟩ (.int .i64 (f 4))).setCell ⟨R2, 5, none⟩ (.int .i64 (f 5))).setCell ⟨R2, 6, none⟩ (.int .i64 (f 6))).setCell ⟨R2, 7, none⟩ (.int .i64 (f 7))).setCell ⟨R2, 8, none⟩ (.int .i64 (f 8))).setCell ⟨R2, 9, none⟩ (.int .i64 (ns : Int))).setCell ⟨R2, 10, none⟩ (.int .u8 90))).drew.cell? ⟨M, 7, none⟩ = some (.int .i64 (f 7)) ∧ ((((((((((((w7.setCell ⟨R2, 0, none⟩ (.int .i64 3)).setCell ⟨R2, 1, none⟩ (.int .i64 (f 1))).setCell ⟨R2, 2, none⟩ (.int .i64 (f 2))).setCell ⟨R2, 3, none⟩ (.int .i64 (f 3))).setCell ⟨R2, 4, none⟩ (.int .i64 (f 4))).setCell ⟨R2, 5, none⟩ (.int .i64 (f 5))).setCell ⟨R2, 6, none⟩ (.int .i64 (f 6))).setCell ⟨R2, 7, none⟩ (.int .i64 (f 7))).setCell ⟨R2, 8, none⟩ (.int .i64 (f 8))).setCell ⟨R2, 9, none⟩ (.int .i64 (ns : Int))).setCell ⟨R2, 10, none⟩ (.int .u8 90))).drew.cell? ⟨M, 8, none⟩ = some (.int .i64 (f 8)) ∧ ((((((((((((w7.setCell ⟨R2, 0, none⟩ (.int .i64 3)).setCell ⟨R2, 1, none⟩ (.int .i64 (f 1))).setCell ⟨R2, 2, none⟩ (.int .i64 (f 2))).setCell ⟨R2, 3, none⟩ (.int .i64 (f 3))).setCell ⟨R2, 4, none⟩ (.int .i64 (f 4))).setCell ⟨R2, 5, none⟩ (.int .i64 (f 5))).setCell ⟨R2, 6, none⟩ (.int .i64 (f 6))).setCell ⟨R2, 7, none⟩ (.int .i64 (f 7))).setCell ⟨R2, 8, none⟩ (.int .i64 (f 8))).setCell ⟨R2, 9, none⟩ (.int .i64 (ns : Int))).setCell ⟨R2, 10, none⟩ (.int .u8 90))).drew.cell? ⟨M, 9, none⟩ = some (.int .i64 (ns : Int)) ∧ ((((((((((((w7.setCell ⟨R2, 0, none⟩ (.int .i64 3)).setCell ⟨R2, 1, none⟩ (.int .i64 (f 1))).setCell ⟨R2, 2, none⟩ (.int .i64 (f 2))).setCell ⟨R2, 3, none⟩ (.int .i64 (f 3))).setCell ⟨R2, 4, none⟩ (.int .i64 (f 4))).setCell ⟨R2, 5, none⟩ (.int .i64 (f 5))).setCell ⟨R2, 6, none⟩ (.int .i64 (f 6))).setCell ⟨R2, 7, none⟩ (.int .i64 (f 7))).setCell ⟨R2, 8, none⟩ (.int .i64 (f 8))).setCell ⟨R2, 9, none⟩ (.int .i64 (ns : Int))).setCell ⟨R2, 10, none⟩ (.int .u8 90))).drew.cell? ⟨M, 10, none⟩ = some (.int .u8 90) ∧ ((((((((((((w7.setCell ⟨R2, 0, none⟩ (.int .i64 3)).setCell ⟨R2, 1, none⟩ (.int .i64 (f 1))).setCell ⟨R2, 2, none⟩ (.int .i64 (f 2))).setCell ⟨R2, 3, none⟩ (.int .i64 (f 3))).setCell ⟨R2, 4, none⟩ (.int .i64 (f 4))).setCell ⟨R2, 5, none⟩ (.int .i64 (f 5))).setCell ⟨R2, 6, none⟩ (.int .i64 (f 6))).setCell ⟨R2, 7, none⟩ (.int .i64 (f 7))).setCell ⟨R2, 8, none⟩ (.int .i64 (f 8))).setCell ⟨R2, 9, none⟩ (.int .i64 (ns : Int))).setCell ⟨R2, 10, none⟩ (.int .u8 90))).drew.cell? ⟨A, 0, none⟩ = some (.int .i64 ((b1 : Int) + 1)) ∧ ((((((((((((w7.setCell ⟨R2, 0, none⟩ (.int .i64 3)).setCell ⟨R2, 1, none⟩ (.int .i64 (f 1))).setCell ⟨R2, 2, none⟩ (.int .i64 (f 2))).setCell ⟨R2, 3, none⟩ (.int .i64 (f 3))).setCell ⟨R2, 4, none⟩ (.int .i64 (f 4))).setCell ⟨R2, 5, none⟩ (.int .i64 (f 5))).setCell ⟨R2, 6, none⟩ (.int .i64 (f 6))).setCell ⟨R2, 7, none⟩ (.int .i64 (f 7))).setCell ⟨R2, 8, none⟩ (.int .i64 (f 8))).setCell ⟨R2, 9, none⟩ (.int .i64 (ns : Int))).setCell ⟨R2, 10, none⟩ (.int .u8 90))).drew.cell? ⟨S, 0, none⟩ = some (.string s)) := Lib.hid ⟨q1 0, q1 1, q1 2, q1 3, q1 4, q1 5, q1 6, q1 7, q1 8, q1 9, q1 10, q2, q3⟩
                    clear q1 q2 q3
                    clear hrd2
                    go_wp2_with fail
                    go_region_held (fun w2 => w2.cell? ⟨M, 0, none⟩ = some (.int .i64 3) ∧ w2.cell? ⟨M, 1, none⟩ = some (.int .i64 (f 1)) ∧ w2.cell? ⟨M, 2, none⟩ = some (.int .i64 (f 2)) ∧ w2.cell? ⟨M, 3, none⟩ = some (.int .i64 (f 3)) ∧ w2.cell? ⟨M, 4, none⟩ = some (.int .i64 (f 4)) ∧ w2.cell? ⟨M, 5, none⟩ = some (.int .i64 (f 5)) ∧ w2.cell? ⟨M, 6, none⟩ = some (.int .i64 (f 6)) ∧ w2.cell? ⟨M, 7, none⟩ = some (.int .i64 (f 7)) ∧ w2.cell? ⟨M, 8, none⟩ = some (.int .i64 (f 8)) ∧ w2.cell? ⟨M, 9, none⟩ = some (.int .i64 (ns : Int)) ∧ w2.cell? ⟨M, 10, none⟩ = some (.int .u8 90) ∧ w2.cell? ⟨A, 0, none⟩ = some (.int .i64 ((b1 : Int) + 1)) ∧ w2.cell? ⟨S, 0, none⟩ = some (.string s)) (first | with_reducible exact HD.out | with_reducible exact HP.out) (fail)
                    go_wp2_with fail
                    refine ret_mom (sh := 3) (f := f) (ns := (ns : Int)) (z := 90) rfl rfl rfl (blk_drew (put11 hRd)) ?_
                    exact ret_fin HRR.out HMM.out (Below.drew (below11 hBd bR))
                  · by_cases z2 : s[b1] = 43
                    · have c1 : (s[b1].toNat : Int) = 43 := by rw [z2]; rfl
                      have hzs := Ins.zone_sign _ _ _ hget (by rw [z2]; decide)
                      rw [hzs, z2] at hR
                      clear hzs hget z1 z2
                      have hrd2 : RdS s S R2 M A F w ((wc.setCell ⟨M, 10, none⟩ (.int .u8 43)).setCell ⟨A, 0, none⟩ (.int .i64 ((b1 : Int) + 1))) (b1 + 1) 3 f (ns : Int) 43 :=
                        ⟨(hrd.S_.set_other (a := ⟨M, 10, none⟩) nSM _).set_other (a := ⟨A, 0, none⟩) nSA _, (hrd.R_.set_other (a := ⟨M, 10, none⟩) nRM _).set_other (a := ⟨A, 0, none⟩) nRA _, Blk.set_other (a := ⟨A, 0, none⟩) (hrd.M_.put 10 (.int .u8 43)) nMA _, (hrd.A_.set_other (a := ⟨M, 10, none⟩) nAM _).put 0 (.int .i64 ((b1 : Int) + 1)), (hrd.F_.set_other (a := ⟨M, 10, none⟩) nFM _).set_other (a := ⟨A, 0, none⟩) nFA _, (hrd.b_.setCell (p := ⟨M, 10, none⟩) bM _).setCell (p := ⟨A, 0, none⟩) bA _⟩
                      clear hrd
                      go_upto_region 32 with fail
                      clear cS cA fA m10 f10
                      generalize (wc.setCell ⟨M, 10, none⟩ (.int .u8 43)).setCell ⟨A, 0, none⟩ (.int .i64 ((b1 : Int) + 1)) = w7 at *
                      have m10 : w7.cell? ⟨M, 10, none⟩ = some (.int .u8 43) := hrd2.M_.at_ 10
                      have HC0 := HFL.out 2 58 2 7 2 (b1 + 1) w7 3 f (ns : Int) 43 (by decide) (by decide) (by decide) (by decide) (by decide) (by omega) hrd2
                      cases hq : Ins.fldR s.data.toList 2 58 2 0 (b1 + 1) with
                      | none =>
                        rw [hq] at hR
                        obtain rfl : R = none := hR
                        have HC : Hid (Calls Tryd.prog 38 #[.slice (some ⟨M, 7, none⟩) 2 2, .int .i64 2, .int .u8 58, .pointer (some ⟨A, 0, none⟩), .pointer (some ⟨S, 0, none⟩), .pointer (some ⟨F, 0, none⟩)] w7 fun e w' => (e = .returned (.bool false) ∧ ∃ g : Nat → Int, Blk w' M 47 (momC 3 g (ns : Int) 43)) ∧ Below w.heap.size w7 w' ∧ But2 A M w7 w') := Lib.hid (HC0.mono fun e w' h => by
                          unfold RetF at h
                          rw [hq] at h
                          exact h)
                        have hRr := hrd2.R_
                        have hFr := hrd2.F_
                        have hbb := hrd2.b_
                        have cF : w7.cell? ⟨F, 0, none⟩ = some (.func (.func 37) #[] #[.pointer (some ⟨A, 0, none⟩), .pointer (some ⟨S, 0, none⟩)]) := hFr.at_ 0
                        clear HC0 HFL hrd2 hq HS HF
                        go_wp2_with (first | (go_at_call 38; with_reducible refine HC.out.mono ?_; rintro e w5 ⟨⟨rfl, g, hM5⟩, hb5, hbut5⟩; have hR5 := hbut5.blk nRA nRM hRr) | ((with_reducible refine wpList_load_mom rfl _ rfl M 3 g (ns : Int) 43 ?_ hM5 ?_); exact rfl) | ((with_reducible refine wpList_store_mom rfl _ _ rfl rfl R2 0 z8 0 0 3 g (ns : Int) 43 ?_ ?_ hR5 ?_); exact rfl; exact rfl))
                        exact ret_mom rfl rfl rfl (hR5.row _) ⟨⟨_, _, _, _, rfl⟩, setRow_below (hbb.trans hb5) bR _⟩
                      | some pq =>
                        rw [hq] at hR
                        have hl2 := Ins.fldR_len hq
                        obtain ⟨vs, q2⟩ := pq
                        obtain ⟨zh, zm, rfl⟩ : ∃ zh zm, vs = [zh, zm] := by
                          match vs, hl2 with
                          | [x, y], _ => exact ⟨x, y, rfl⟩
                        simp only [Option.map_some] at hR
                        have HC : Hid (Calls Tryd.prog 38 #[.slice (some ⟨M, 7, none⟩) 2 2, .int .i64 2, .int .u8 58, .pointer (some ⟨A, 0, none⟩), .pointer (some ⟨S, 0, none⟩), .pointer (some ⟨F, 0, none⟩)] w7 fun e w' => (e = .returned (.bool true) ∧ Blk w' A 3 #[.int .i64 (q2 : Int)] ∧ q2 ≤ s.size ∧ Blk w' M 47 (momC 3 (Ins.wrF f 7 [zh, zm]) (ns : Int) 43)) ∧ Below w.heap.size w7 w' ∧ But2 A M w7 w') := Lib.hid (HC0.mono fun e w' h => by
                          unfold RetF at h
                          rw [hq] at h
                          exact h)
                        have HRR : Hid (R = if q2 = s.size then some ⟨true, true, y, mo, d, h, mi, sc, ns, 43, zh, zm⟩ else none) := Lib.hid hR
                        have HMM : Hid (momV ⟨true, true, y, mo, d, h, mi, sc, ns, 43, zh, zm⟩ = .agg (momC 3 (Ins.wrF f 7 [zh, zm]) (ns : Int) 43)) := Lib.hid (by rw [HF.out]; rfl)
                        have hSr := hrd2.S_
                        have hRr := hrd2.R_
                        have hFr := hrd2.F_
                        have hbb := hrd2.b_
                        have cF : w7.cell? ⟨F, 0, none⟩ = some (.func (.func 37) #[] #[.pointer (some ⟨A, 0, none⟩), .pointer (some ⟨S, 0, none⟩)]) := hFr.at_ 0
                        clear HC0 HFL hrd2 hq HF HS hR hl2
                        go_wp2_with (first | (go_at_call 38; with_reducible refine HC.out.mono ?_; rintro e w5 ⟨⟨rfl, hA5, hq5, hM5⟩, hb5, hbut5⟩))
                        have hR5 := hbut5.blk nRA nRM hRr
                        have hS5 := hbut5.blk nSA nSM hSr
                        have hF5 := hbut5.blk nFA nFM hFr
                        go_meet
                        case rel => exact ⟨q2, 3, _, _, _, _, ⟨hS5, hR5, hM5, hA5, hF5, hbb.trans hb5⟩, HRR, HMM⟩
                    · by_cases z3 : s[b1] = 45
                      · have c1 : (s[b1].toNat : Int) = 45 := by rw [z3]; rfl
                        have hzs := Ins.zone_sign _ _ _ hget (by rw [z3]; decide)
                        rw [hzs, z3] at hR
                        clear hzs hget z1 z2 z3
                        have hrd2 : RdS s S R2 M A F w ((wc.setCell ⟨M, 10, none⟩ (.int .u8 45)).setCell ⟨A, 0, none⟩ (.int .i64 ((b1 : Int) + 1))) (b1 + 1) 3 f (ns : Int) 45 :=
                          ⟨(hrd.S_.set_other (a := ⟨M, 10, none⟩) nSM _).set_other (a := ⟨A, 0, none⟩) nSA _, (hrd.R_.set_other (a := ⟨M, 10, none⟩) nRM _).set_other (a := ⟨A, 0, none⟩) nRA _, Blk.set_other (a := ⟨A, 0, none⟩) (hrd.M_.put 10 (.int .u8 45)) nMA _, (hrd.A_.set_other (a := ⟨M, 10, none⟩) nAM _).put 0 (.int .i64 ((b1 : Int) + 1)), (hrd.F_.set_other (a := ⟨M, 10, none⟩) nFM _).set_other (a := ⟨A, 0, none⟩) nFA _, (hrd.b_.setCell (p := ⟨M, 10, none⟩) bM _).setCell (p := ⟨A, 0, none⟩) bA _⟩
                        clear hrd
                        go_upto_region 32 with fail
                        clear cS cA fA m10 f10
                        generalize (wc.setCell ⟨M, 10, none⟩ (.int .u8 45)).setCell ⟨A, 0, none⟩ (.int .i64 ((b1 : Int) + 1)) = w7 at *
                        have m10 : w7.cell? ⟨M, 10, none⟩ = some (.int .u8 45) := hrd2.M_.at_ 10
                        have HC0 := HFL.out 2 58 2 7 2 (b1 + 1) w7 3 f (ns : Int) 45 (by decide) (by decide) (by decide) (by decide) (by decide) (by omega) hrd2
                        cases hq : Ins.fldR s.data.toList 2 58 2 0 (b1 + 1) with
                        | none =>
                          rw [hq] at hR
                          obtain rfl : R = none := hR
                          have HC : Hid (Calls Tryd.prog 38 #[.slice (some ⟨M, 7, none⟩) 2 2, .int .i64 2, .int .u8 58, .pointer (some ⟨A, 0, none⟩), .pointer (some ⟨S, 0, none⟩), .pointer (some ⟨F, 0, none⟩)] w7 fun e w' => (e = .returned (.bool false) ∧ ∃ g : Nat → Int, Blk w' M 47 (momC 3 g (ns : Int) 45)) ∧ Below w.heap.size w7 w' ∧ But2 A M w7 w') := Lib.hid (HC0.mono fun e w' h => by
                            unfold RetF at h
                            rw [hq] at h
                            exact h)
                          have hRr := hrd2.R_
                          have hFr := hrd2.F_
                          have hbb := hrd2.b_
                          have cF : w7.cell? ⟨F, 0, none⟩ = some (.func (.func 37) #[] #[.pointer (some ⟨A, 0, none⟩), .pointer (some ⟨S, 0, none⟩)]) := hFr.at_ 0
                          clear HC0 HFL hrd2 hq HS HF
                          go_wp2_with (first | (go_at_call 38; with_reducible refine HC.out.mono ?_; rintro e w5 ⟨⟨rfl, g, hM5⟩, hb5, hbut5⟩; have hR5 := hbut5.blk nRA nRM hRr) | ((with_reducible refine wpList_load_mom rfl _ rfl M 3 g (ns : Int) 45 ?_ hM5 ?_); exact rfl) | ((with_reducible refine wpList_store_mom rfl _ _ rfl rfl R2 0 z8 0 0 3 g (ns : Int) 45 ?_ ?_ hR5 ?_); exact rfl; exact rfl))
                          exact ret_mom rfl rfl rfl (hR5.row _) ⟨⟨_, _, _, _, rfl⟩, setRow_below (hbb.trans hb5) bR _⟩
                        | some pq =>
                          rw [hq] at hR
                          have hl2 := Ins.fldR_len hq
                          obtain ⟨vs, q2⟩ := pq
                          obtain ⟨zh, zm, rfl⟩ : ∃ zh zm, vs = [zh, zm] := by
                            match vs, hl2 with
                            | [x, y], _ => exact ⟨x, y, rfl⟩
                          simp only [Option.map_some] at hR
                          have HC : Hid (Calls Tryd.prog 38 #[.slice (some ⟨M, 7, none⟩) 2 2, .int .i64 2, .int .u8 58, .pointer (some ⟨A, 0, none⟩), .pointer (some ⟨S, 0, none⟩), .pointer (some ⟨F, 0, none⟩)] w7 fun e w' => (e = .returned (.bool true) ∧ Blk w' A 3 #[.int .i64 (q2 : Int)] ∧ q2 ≤ s.size ∧ Blk w' M 47 (momC 3 (Ins.wrF f 7 [zh, zm]) (ns : Int) 45)) ∧ Below w.heap.size w7 w' ∧ But2 A M w7 w') := Lib.hid (HC0.mono fun e w' h => by
                            unfold RetF at h
                            rw [hq] at h
                            exact h)
                          have HRR : Hid (R = if q2 = s.size then some ⟨true, true, y, mo, d, h, mi, sc, ns, 45, zh, zm⟩ else none) := Lib.hid hR
                          have HMM : Hid (momV ⟨true, true, y, mo, d, h, mi, sc, ns, 45, zh, zm⟩ = .agg (momC 3 (Ins.wrF f 7 [zh, zm]) (ns : Int) 45)) := Lib.hid (by rw [HF.out]; rfl)
                          have hSr := hrd2.S_
                          have hRr := hrd2.R_
                          have hFr := hrd2.F_
                          have hbb := hrd2.b_
                          have cF : w7.cell? ⟨F, 0, none⟩ = some (.func (.func 37) #[] #[.pointer (some ⟨A, 0, none⟩), .pointer (some ⟨S, 0, none⟩)]) := hFr.at_ 0
                          clear HC0 HFL hrd2 hq HF HS hR hl2
                          go_wp2_with (first | (go_at_call 38; with_reducible refine HC.out.mono ?_; rintro e w5 ⟨⟨rfl, hA5, hq5, hM5⟩, hb5, hbut5⟩))
                          have hR5 := hbut5.blk nRA nRM hRr
                          have hS5 := hbut5.blk nSA nSM hSr
                          have hF5 := hbut5.blk nFA nFM hFr
                          go_meet
                          case rel => exact ⟨q2, 3, _, _, _, _, ⟨hS5, hR5, hM5, hA5, hF5, hbb.trans hb5⟩, HRR, HMM⟩
                      · rw [Ins.zone_else _ _ _ hget z1 z2 z3] at hR
                        obtain rfl : R = none := hR
                        have c1 : ((s[b1].toNat : Int) == 90) = false := byte_ne 90 z1
                        have c2 : ((s[b1].toNat : Int) != 43) = true := by unfold bne; rw [show ((s[b1].toNat : Int) == 43) = false from byte_ne 43 z2]; rfl
                        have c3 : ((s[b1].toNat : Int) != 45) = true := by unfold bne; rw [show ((s[b1].toNat : Int) == 45) = false from byte_ne 45 z3]; rfl
                        clear z1 z2 z3 hget HFL HF HS
                        have hrd2 : RdS s S R2 M A F w ((wc.setCell ⟨M, 10, none⟩ (.int .u8 (s[b1].toNat : Int))).setCell ⟨A, 0, none⟩ (.int .i64 ((b1 : Int) + 1))) (b1 + 1) 3 f (ns : Int) (s[b1].toNat : Int) :=
                          ⟨(hrd.S_.set_other (a := ⟨M, 10, none⟩) nSM _).set_other (a := ⟨A, 0, none⟩) nSA _, (hrd.R_.set_other (a := ⟨M, 10, none⟩) nRM _).set_other (a := ⟨A, 0, none⟩) nRA _, Blk.set_other (a := ⟨A, 0, none⟩) (hrd.M_.put 10 (.int .u8 (s[b1].toNat : Int))) nMA _, (hrd.A_.set_other (a := ⟨M, 10, none⟩) nAM _).put 0 (.int .i64 ((b1 : Int) + 1)), (hrd.F_.set_other (a := ⟨M, 10, none⟩) nFM _).set_other (a := ⟨A, 0, none⟩) nFA _, (hrd.b_.setCell (p := ⟨M, 10, none⟩) bM _).setCell (p := ⟨A, 0, none⟩) bA _⟩
                        clear hrd
                        go_upto_region 32 with fail
                        clear cS cA fA m10 f10
                        generalize (wc.setCell ⟨M, 10, none⟩ (.int .u8 (s[b1].toNat : Int))).setCell ⟨A, 0, none⟩ (.int .i64 ((b1 : Int) + 1)) = w7 at *
                        have m10 : w7.cell? ⟨M, 10, none⟩ = some (.int .u8 (s[b1].toNat : Int)) := hrd2.M_.at_ 10
                        have hRr := hrd2.R_
                        have hMr := hrd2.M_
                        have hbb := hrd2.b_
                        clear hrd2
                        go_wp2_with (first | ((with_reducible refine wpList_load_mom rfl _ rfl M 3 f (ns : Int) (s[b1].toNat : Int) ?_ hMr ?_); exact rfl) | ((with_reducible refine wpList_store_mom rfl _ _ rfl rfl R2 0 z8 0 0 3 f (ns : Int) (s[b1].toNat : Int) ?_ ?_ hRr ?_); exact rfl; exact rfl))
                        exact ret_mom rfl rfl rfl (hRr.row _) ⟨⟨_, _, _, _, rfl⟩, setRow_below hbb bR _⟩
            case rest =>
              clear HR7 HSH HS HF HFL hsh0 hsh1 a2 HRD HC hb1
              obtain ⟨p, sh', g, nv, z, m, hrd2, HRR, HMM⟩ := hcut
              have hRd : Blk wc R2 47 (momC 0 z8 0 0) := hrd2.R_
              have hMd : Blk wc M 47 (momC sh' g nv z) := hrd2.M_
              have cS : wc.cell? ⟨S, 0, none⟩ = some (.string s) := hrd2.S_.at_ 0
              have cA : wc.cell? ⟨A, 0, none⟩ = some (.int .i64 (p : Int)) := hrd2.A_.at_ 0
              have hBd := hrd2.b_
              have x0 : wc.cell? ⟨M, 0, none⟩ = some (.int .i64 sh') := hMd.at_ 0
              have y0 : wc.cell? ⟨R2, 0, none⟩ = some (.int .i64 0) := hRd.at_ 0
              have v0 : wc.frozen? ⟨R2, 0, none⟩ = false := hRd.free 0
              have x1 : wc.cell? ⟨M, 1, none⟩ = some (.int .i64 (g 1)) := hMd.at_ 1
              have y1 : wc.cell? ⟨R2, 1, none⟩ = some (.int .i64 0) := hRd.at_ 1
              have v1 : wc.frozen? ⟨R2, 1, none⟩ = false := hRd.free 1
              have x2 : wc.cell? ⟨M, 2, none⟩ = some (.int .i64 (g 2)) := hMd.at_ 2
              have y2 : wc.cell? ⟨R2, 2, none⟩ = some (.int .i64 0) := hRd.at_ 2
              have v2 : wc.frozen? ⟨R2, 2, none⟩ = false := hRd.free 2
              have x3 : wc.cell? ⟨M, 3, none⟩ = some (.int .i64 (g 3)) := hMd.at_ 3
              have y3 : wc.cell? ⟨R2, 3, none⟩ = some (.int .i64 0) := hRd.at_ 3
              have v3 : wc.frozen? ⟨R2, 3, none⟩ = false := hRd.free 3
              have x4 : wc.cell? ⟨M, 4, none⟩ = some (.int .i64 (g 4)) := hMd.at_ 4
              have y4 : wc.cell? ⟨R2, 4, none⟩ = some (.int .i64 0) := hRd.at_ 4
              have v4 : wc.frozen? ⟨R2, 4, none⟩ = false := hRd.free 4
              have x5 : wc.cell? ⟨M, 5, none⟩ = some (.int .i64 (g 5)) := hMd.at_ 5
              have y5 : wc.cell? ⟨R2, 5, none⟩ = some (.int .i64 0) := hRd.at_ 5
              have v5 : wc.frozen? ⟨R2, 5, none⟩ = false := hRd.free 5
              have x6 : wc.cell? ⟨M, 6, none⟩ = some (.int .i64 (g 6)) := hMd.at_ 6
              have y6 : wc.cell? ⟨R2, 6, none⟩ = some (.int .i64 0) := hRd.at_ 6
              have v6 : wc.frozen? ⟨R2, 6, none⟩ = false := hRd.free 6
              have x7 : wc.cell? ⟨M, 7, none⟩ = some (.int .i64 (g 7)) := hMd.at_ 7
              have y7 : wc.cell? ⟨R2, 7, none⟩ = some (.int .i64 0) := hRd.at_ 7
              have v7 : wc.frozen? ⟨R2, 7, none⟩ = false := hRd.free 7
              have x8 : wc.cell? ⟨M, 8, none⟩ = some (.int .i64 (g 8)) := hMd.at_ 8
              have y8 : wc.cell? ⟨R2, 8, none⟩ = some (.int .i64 0) := hRd.at_ 8
              have v8 : wc.frozen? ⟨R2, 8, none⟩ = false := hRd.free 8
              have x9 : wc.cell? ⟨M, 9, none⟩ = some (.int .i64 nv) := hMd.at_ 9
              have y9 : wc.cell? ⟨R2, 9, none⟩ = some (.int .i64 0) := hRd.at_ 9
              have v9 : wc.frozen? ⟨R2, 9, none⟩ = false := hRd.free 9
              have x10 : wc.cell? ⟨M, 10, none⟩ = some (.int .u8 z) := hMd.at_ 10
              have y10 : wc.cell? ⟨R2, 10, none⟩ = some (.int .u8 0) := hRd.at_ 10
              have v10 : wc.frozen? ⟨R2, 10, none⟩ = false := hRd.free 10
              have q1 : ∀ j, (((((((((((((wc.setCell ⟨R2, 0, none⟩ (.int .i64 sh')).setCell ⟨R2, 1, none⟩ (.int .i64 (g 1))).setCell ⟨R2, 2, none⟩ (.int .i64 (g 2))).setCell ⟨R2, 3, none⟩ (.int .i64 (g 3))).setCell ⟨R2, 4, none⟩ (.int .i64 (g 4))).setCell ⟨R2, 5, none⟩ (.int .i64 (g 5))).setCell ⟨R2, 6, none⟩ (.int .i64 (g 6))).setCell ⟨R2, 7, none⟩ (.int .i64 (g 7))).setCell ⟨R2, 8, none⟩ (.int .i64 (g 8))).setCell ⟨R2, 9, none⟩ (.int .i64 nv)).setCell ⟨R2, 10, none⟩ (.int .u8 z))).drew).cell? ⟨M, j, none⟩ = (momC sh' g nv z)[j]? := fun j => (blk_drew (other11 (W := wc) hMd nMR)).at_ j
              have q2 : (((((((((((((wc.setCell ⟨R2, 0, none⟩ (.int .i64 sh')).setCell ⟨R2, 1, none⟩ (.int .i64 (g 1))).setCell ⟨R2, 2, none⟩ (.int .i64 (g 2))).setCell ⟨R2, 3, none⟩ (.int .i64 (g 3))).setCell ⟨R2, 4, none⟩ (.int .i64 (g 4))).setCell ⟨R2, 5, none⟩ (.int .i64 (g 5))).setCell ⟨R2, 6, none⟩ (.int .i64 (g 6))).setCell ⟨R2, 7, none⟩ (.int .i64 (g 7))).setCell ⟨R2, 8, none⟩ (.int .i64 (g 8))).setCell ⟨R2, 9, none⟩ (.int .i64 nv)).setCell ⟨R2, 10, none⟩ (.int .u8 z))).drew).cell? ⟨A, 0, none⟩ = some (.int .i64 (p : Int)) := (blk_drew (other11 (W := wc) hrd2.A_ nAR)).at_ 0
              have q3 : (((((((((((((wc.setCell ⟨R2, 0, none⟩ (.int .i64 sh')).setCell ⟨R2, 1, none⟩ (.int .i64 (g 1))).setCell ⟨R2, 2, none⟩ (.int .i64 (g 2))).setCell ⟨R2, 3, none⟩ (.int .i64 (g 3))).setCell ⟨R2, 4, none⟩ (.int .i64 (g 4))).setCell ⟨R2, 5, none⟩ (.int .i64 (g 5))).setCell ⟨R2, 6, none⟩ (.int .i64 (g 6))).setCell ⟨R2, 7, none⟩ (.int .i64 (g 7))).setCell ⟨R2, 8, none⟩ (.int .i64 (g 8))).setCell ⟨R2, 9, none⟩ (.int .i64 nv)).setCell ⟨R2, 10, none⟩ (.int .u8 z))).drew).cell? ⟨S, 0, none⟩ = some (.string s) := (blk_drew (other11 (W := wc) hrd2.S_ nSR)).at_ 0
              have HD : Hid (wc.drew.cell? ⟨M, 0, none⟩ = some (.int .i64 sh') ∧ wc.drew.cell? ⟨M, 1, none⟩ = some (.int .i64 (g 1)) ∧ wc.drew.cell? ⟨M, 2, none⟩ = some (.int .i64 (g 2)) ∧ wc.drew.cell? ⟨M, 3, none⟩ = some (.int .i64 (g 3)) ∧ wc.drew.cell? ⟨M, 4, none⟩ = some (.int .i64 (g 4)) ∧ wc.drew.cell? ⟨M, 5, none⟩ = some (.int .i64 (g 5)) ∧ wc.drew.cell? ⟨M, 6, none⟩ = some (.int .i64 (g 6)) ∧ wc.drew.cell? ⟨M, 7, none⟩ = some (.int .i64 (g 7)) ∧ wc.drew.cell? ⟨M, 8, none⟩ = some (.int .i64 (g 8)) ∧ wc.drew.cell? ⟨M, 9, none⟩ = some (.int .i64 nv) ∧ wc.drew.cell? ⟨M, 10, none⟩ = some (.int .u8 z) ∧ wc.drew.cell? ⟨A, 0, none⟩ = some (.int .i64 (p : Int)) ∧ wc.drew.cell? ⟨S, 0, none⟩ = some (.string s)) := Lib.hid ⟨x0, x1, x2, x3, x4, x5, x6, x7, x8, x9, x10, cA, cS⟩
              have HP : Hid (((((((((((((wc.setCell ⟨R2, 0, none⟩ (.int .i64 sh')).setCell ⟨R2, 1, none⟩ (.int .i64 (g 1))).setCell ⟨R2, 2, none⟩ (.int .i64 (g 2))).setCell ⟨R2, 3, none⟩ (.int .i64 (g 3))).setCell ⟨R2, 4, none⟩ (.int .i64 (g 4))).setCell ⟨R2, 5, none⟩ (.int .i64 (g 5))).setCell ⟨R2, 6, none⟩ (.int .i64 (g 6))).setCell ⟨R2, 7, none⟩ (.int .i64 (g 7))).setCell ⟨R2, 8, none⟩ (.int .i64 (g 8))).setCell ⟨R2, 9, none⟩ (.int .i64 nv)).setCell ⟨R2, 10, none⟩ (.int .u8 z))).drew.cell? ⟨M, 0, none⟩ = some (.int .i64 sh') ∧ ((((((((((((wc.setCell ⟨R2, 0, none⟩ (.int .i64 sh')).setCell ⟨R2, 1, none⟩ (.int .i64 (g 1))).setCell ⟨R2, 2, none⟩ (.int .i64 (g 2))).setCell ⟨R2, 3, none⟩ (.int .i64 (g 3))).setCell ⟨R2, 4, none⟩ (.int .i64 (g 4))).setCell ⟨R2, 5, none⟩ (.int .i64 (g 5))).setCell ⟨R2, 6, none⟩ (.int .i64 (g 6))).setCell ⟨R2, 7, none⟩ (.int .i64 (g 7))).setCell ⟨R2, 8, none⟩ (.int .i64 (g 8))).setCell ⟨R2, 9, none⟩ (.int .i64 nv)).setCell ⟨R2, 10, none⟩ (.int .u8 z))).drew.cell? ⟨M, 1, none⟩ = some (.int .i64 (g 1)) ∧ ((((((((((((wc.setCell ⟨R2, 0, none⟩ (.int .i64 sh')).setCell ⟨R2, 1, none⟩ (.int .i64 (g 1))).setCell ⟨R2, 2, none⟩ (.int .i64 (g 2))).setCell ⟨R2, 3, none⟩ (.int .i64 (g 3))).setCell ⟨R2, 4, none⟩ (.int .i64 (g 4))).setCell ⟨R2, 5, none⟩ (.int .i64 (g 5))).setCell ⟨R2, 6, none⟩ (.int .i64 (g 6))).setCell ⟨R2, 7, none⟩ (.int .i64 (g 7))).setCell ⟨R2, 8, none⟩ (.int .i64 (g 8))).setCell ⟨R2, 9, none⟩ (.int .i64 nv)).setCell ⟨R2, 10, none⟩ (.int .u8 z))).drew.cell? ⟨M, 2, none⟩ = some (.int .i64 (g 2)) ∧ ((((((((((((wc.setCell ⟨R2, 0, none⟩ (.int .i64 sh')).setCell ⟨R2, 1, none⟩ (.int .i64 (g 1))).setCell ⟨R2, 2, none⟩ (.int .i64 (g 2))).setCell ⟨R2, 3, none⟩ (.int .i64 (g 3))).setCell ⟨R2, 4, none⟩ (.int .i64 (g 4))).setCell ⟨R2, 5, none⟩ (.int .i64 (g 5))).setCell ⟨R2, 6, none⟩ (.int .i64 (g 6))).setCell ⟨R2, 7, none⟩ (.int .i64 (g 7))).setCell ⟨R2, 8, none⟩ (.int .i64 (g 8))).setCell ⟨R2, 9, none⟩ (.int .i64 nv)).setCell ⟨R2, 10, none⟩ (.int .u8 z))).drew.cell? ⟨M, 3, none⟩ = some (.int .i64 (g 3)) ∧ ((((((((((((wc.setCell ⟨R2, 0, none⟩ (.int .i64 sh')).setCell ⟨R2, 1, none⟩ (.int .i64 (g 1))).setCell ⟨R2, 2, none⟩ (.int .i64 (g 2))).setCell ⟨R2, 3, none⟩ (.int .i64 (g 3))).setCell ⟨R2, 4, none⟩ (.int .i64 (g 4))).setCell ⟨R2, 5, none⟩ (.int .i64 (g 5))).setCell ⟨R2, 6, none⟩ (.int .i64 (g 6))).setCell ⟨R2, 7, none⟩ (.int .i64 (g 7))).setCell ⟨R2, 8, none⟩ (.int .i64 (g 8))).setCell ⟨R2, 9, none⟩ (.int .i64 nv)).setCell ⟨R2, 10, none⟩ (.int .u8 z))).drew.cell? ⟨M, 4, none⟩ = some (.int .i64 (g 4)) ∧ ((((((((((((wc.setCell ⟨R2, 0, none⟩ (.int .i64 sh')).setCell ⟨R2, 1, none⟩ (.int .i64 (g 1))).setCell ⟨R2, 2, none⟩ (.int .i64 (g 2))).setCell ⟨R2, 3, none⟩ (.int .i64 (g 3))).setCell ⟨R2, 4, none⟩ (.int .i64 (g 4))).setCell ⟨R2, 5, none⟩ (.int .i64 (g 5))).setCell ⟨R2, 6, none⟩ (.int .i64 (g 6))).setCell ⟨R2, 7, none⟩ (.int .i64 (g 7))).setCell ⟨R2, 8, none⟩ (.int .i64 (g 8))).setCell ⟨R2, 9, none⟩ (.int .i64 nv)).setCell ⟨R2, 10, none⟩ (.int .u8 z))).drew.cell? ⟨M, 5, none⟩ = some (.int .i64 (g 5)) ∧ ((((((((((((wc.setCell ⟨R2, 0, none⟩ (.int .i64 sh')).setCell ⟨R2, 1, none⟩ (.int .i64 (g 1))).setCell ⟨R2, 2, none⟩ (.int .i64 (g 2))).setCell ⟨R2, 3, none⟩ (.int .i64 (g 3))).setCell ⟨R2, 4, none⟩ (.int .i64 (g 4))).setCell ⟨R2, 5, none⟩ (.int .i64 (g 5))).setCell ⟨R2, 6, none⟩ (.int .i64 (g 6))).setCell ⟨R2, 7, none⟩ (.int .i64 (g 7))).setCell ⟨R2, 8, none⟩ (.int .i64 (g 8))).setCell ⟨R2, 9, none⟩ (.int .i64 nv)).setCell ⟨R2, 10, none⟩ (.int .u8 z))).drew.cell? ⟨M, 6, none⟩ = some (.int .i64 (g 6)) ∧ ((((((((((((wc.setCell ⟨R2, 0, none⟩ (.int .i64 sh')).setCell ⟨R2, 1, none⟩ (.int .i64 (g 1))).setCell ⟨R2, 2, none⟩ (.int .i64 (g 2))).setCell ⟨R2, 3, none⟩ (.int .i64 (g 3))).setCell ⟨R2, 4, none⟩ (.int .i64 (g 4))).setCell ⟨R2, 5, none⟩ (.int .i64 (g 5))).setCell ⟨R2, 6, none⟩ (.int .i64 (g 6))).setCell ⟨R2, 7, none⟩ (.int .i64 (g 7))).setCell ⟨R2, 8, none⟩ (.int .i64 (g 8))).setCell ⟨R2, 9, none⟩ (.int .i64 nv)).setCell ⟨R2, 10, none⟩ (.int .u8 z))).drew.cell? ⟨M, 7, none⟩ = some (.int .i64 (g 7)) ∧ ((((((((((((wc.setCell ⟨R2, 0, none⟩ (.int .i64 sh')).setCell ⟨R2, 1, none⟩ (.int .i64 (g 1))).setCell ⟨R2, 2, none⟩ (.int .i64 (g 2))).setCell ⟨R2, 3, none⟩ (.int .i64 (g 3))).setCell ⟨R2, 4, none⟩ (.int .i64 (g 4))).setCell ⟨R2, 5, none⟩ (.int .i64 (g 5))).setCell ⟨R2, 6, none⟩ (.int .i64 (g 6))).setCell ⟨R2, 7, none⟩ (.int .i64 (g 7))).setCell ⟨R2, 8, none⟩ (.int .i64 (g 8))).setCell ⟨R2, 9, none⟩ (.int .i64 nv)).setCell ⟨R2, 10, none⟩ (.int .u8 z))).drew.cell? ⟨M, 8, none⟩ = some (.int .i64 (g 8)) ∧ ((((((((((((wc.setCell ⟨R2, 0, none⟩ (.int .i64 sh')).setCell ⟨R2, 1, none⟩ (.int .i64 (g 1))).setCell ⟨R2, 2, none⟩ (.int .i64 (g 2))).setCell ⟨R2, 3, none⟩ (.int .i64 (g 3))).setCell ⟨R2, 4, none⟩ (.int .i64 (g 4))).setCell ⟨R2, 5, none⟩ (.int .i64 (g 5))).setCell ⟨R2, 6, none⟩ (.int .i64 (g 6))).setCell ⟨R2, 7, none⟩ (.int .i64 (g 7))).setCell ⟨R2, 8, none⟩ (.int .i64 (g 8))).setCell ⟨R2, 9, none⟩ (.int .i64 nv)).setCell ⟨R2, 10, none⟩ (.int .u8 z))).drew.cell? ⟨M, 9, none⟩ = some (.int .i64 nv) ∧ ((((((((((((wc.setCell ⟨R2, 0, none⟩ (.int .i64 sh')).setCell ⟨R2, 1, none⟩ (.int .i64 (g 1))).setCell ⟨R2, 2, none⟩ (.int .i64 (g 2))).setCell ⟨R2, 3, none⟩ (.int .i64 (g 3))).setCell ⟨R2, 4, none⟩ (.int .i64 (g 4))).setCell ⟨R2, 5, none⟩ (.int .i64 (g 5))).setCell ⟨R2, 6, none⟩ (.int .i64 (g 6))).setCell ⟨R2, 7, none⟩ (.int .i64 (g 7))).setCell ⟨R2, 8, none⟩ (.int .i64 (g 8))).setCell ⟨R2, 9, none⟩ (.int .i64 nv)).setCell ⟨R2, 10, none⟩ (.int .u8 z))).drew.cell? ⟨M, 10, none⟩ = some (.int .u8 z) ∧ ((((((((((((wc.setCell ⟨R2, 0, none⟩ (.int .i64 sh')).setCell ⟨R2, 1, none⟩ (.int .i64 (g 1))).setCell ⟨R2, 2, none⟩ (.int .i64 (g 2))).setCell ⟨R2, 3, none⟩ (.int .i64 (g 3))).setCell ⟨R2, 4, none⟩ (.int .i64 (g 4))).setCell ⟨R2, 5, none⟩ (.int .i64 (g 5))).setCell ⟨R2, 6, none⟩ (.int .i64 (g 6))).setCell ⟨R2, 7, none⟩ (.int .i64 (g 7))).setCell ⟨R2, 8, none⟩ (.int .i64 (g 8))).setCell ⟨R2, 9, none⟩ (.int .i64 nv)).setCell ⟨R2, 10, none⟩ (.int .u8 z))).drew.cell? ⟨A, 0, none⟩ = some (.int .i64 (p : Int)) ∧ ((((((((((((wc.setCell ⟨R2, 0, none⟩ (.int .i64 sh')).setCell ⟨R2, 1, none⟩ (.int .i64 (g 1))).setCell ⟨R2, 2, none⟩ (.int .i64 (g 2))).setCell ⟨R2, 3, none⟩ (.int .i64 (g 3))).setCell ⟨R2, 4, none⟩ (.int .i64 (g 4))).setCell ⟨R2, 5, none⟩ (.int .i64 (g 5))).setCell ⟨R2, 6, none⟩ (.int .i64 (g 6))).setCell ⟨R2, 7, none⟩ (.int .i64 (g 7))).setCell ⟨R2, 8, none⟩ (.int .i64 (g 8))).setCell ⟨R2, 9, none⟩ (.int .i64 nv)).setCell ⟨R2, 10, none⟩ (.int .u8 z))).drew.cell? ⟨S, 0, none⟩ = some (.string s)) := Lib.hid ⟨q1 0, q1 1, q1 2, q1 3, q1 4, q1 5, q1 6, q1 7, q1 8, q1 9, q1 10, q2, q3⟩
              clear q1 q2 q3
              clear hrd2
              go_wp2_with fail
              go_region_held (fun w2 => w2.cell? ⟨M, 0, none⟩ = some (.int .i64 sh') ∧ w2.cell? ⟨M, 1, none⟩ = some (.int .i64 (g 1)) ∧ w2.cell? ⟨M, 2, none⟩ = some (.int .i64 (g 2)) ∧ w2.cell? ⟨M, 3, none⟩ = some (.int .i64 (g 3)) ∧ w2.cell? ⟨M, 4, none⟩ = some (.int .i64 (g 4)) ∧ w2.cell? ⟨M, 5, none⟩ = some (.int .i64 (g 5)) ∧ w2.cell? ⟨M, 6, none⟩ = some (.int .i64 (g 6)) ∧ w2.cell? ⟨M, 7, none⟩ = some (.int .i64 (g 7)) ∧ w2.cell? ⟨M, 8, none⟩ = some (.int .i64 (g 8)) ∧ w2.cell? ⟨M, 9, none⟩ = some (.int .i64 nv) ∧ w2.cell? ⟨M, 10, none⟩ = some (.int .u8 z) ∧ w2.cell? ⟨A, 0, none⟩ = some (.int .i64 (p : Int)) ∧ w2.cell? ⟨S, 0, none⟩ = some (.string s)) (first | with_reducible exact HD.out | with_reducible exact HP.out) (fail)
              go_wp2_with fail
              refine ret_mom (sh := sh') (f := g) (ns := nv) (z := z) rfl rfl rfl (blk_drew (put11 hRd)) ?_
              exact ret_fin HRR.out HMM.out (Below.drew (below11 hBd bR))
end Go.Proofs.YtbficmdjblimfaaDoor
