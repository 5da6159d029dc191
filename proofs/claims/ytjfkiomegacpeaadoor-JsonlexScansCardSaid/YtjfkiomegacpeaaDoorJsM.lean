/-
  jsonlex.meanings by its contract; the form of escape's.
-/
import Derived.Test.YtjfkiomegacpeaaDoorJsU
import Derived.Test.YtjfkiomegacpeaaDoorKit2
import Derived.Deep.RegionHeldLaw
namespace Go.Proofs.YtjfkiomegacpeaaDoor
open Go.RowKit
def meanF (j : Nat) : Int := (Jsn.meaning (UInt8.ofNat j) : Nat)
theorem zeroU256 : (Tryd.prog.info? 89).bind (·.zero) = some (.agg (arrOf .u8 256 fun _ => 0)) := by kernel_rfl
theorem sizeU256 : (Tryd.prog.info? 89).map (·.size) = some 256 := by kernel_rfl
theorem underU256 : Tryd.prog.underlying 89 = some (.array 256 5) := Tryd.underlying89
set_option maxRecDepth 100000 in
set_option maxHeartbeats 400000 in
theorem meanings_any (w : World) :
    Calls Tryd.prog 58 #[] w fun e w' => e = .returned (.agg (arrOf .u8 256 meanF)) ∧ Below w.heap.size w w' := by
  go_enter Tryd.func58, Tryd.ntmps58
  go_wp2_with (first | (with_reducible refine wpList_alloc_sym rfl 89 rfl _ zeroU256 ?_) | ((with_reducible refine wpList_build_sym rfl 89 _ rfl (arrOf .u8 256 meanF) ?_ ?_); kernel_rfl) | ((with_reducible refine wpList_store_arr rfl 89 (.tmp 0) (.tmp 1) rfl rfl w.heap.size .u8 256 meanF 89 _ sizeU256 ?_ ?_ (Blk.new _ _ _) (arr_size _ _ _) ?_); exact rfl; exact rfl))
  exact bodyPost_ret (results_arr rfl _ _ w.heap.size 89 .u8 256 meanF 5 underU256 sizeU256 rfl (Blk.row (Blk.new _ _ _) _)) rfl ⟨rfl, setRow_below (below_alloc _) (Nat.le_refl _) _⟩
theorem mean_index (c : UInt8) (w : World) : (Instr.index 89 (.agg (arrOf .u8 256 meanF)) (.int .u8 (c.toNat : Int))).run Tryd.prog w = .ok (.int .u8 (Jsn.meaning c : Nat)) w := by
  have hlt := c.toNat_lt
  have hc : (0 : Int) ≤ (c.toNat : Int) ∧ (c.toNat : Int) < ((256 : Nat) : Int) := by omega
  have hsz : (Tryd.prog.info? 5).map (·.size) = some 1 := by kernel_rfl
  obtain ⟨inf, hi, hz⟩ := Option.map_eq_some_iff.1 hsz
  simp only [Instr.index, asIntOf, Sem.run_bind, Sem.run_pure, Result.andThen_ok, run_underlying underU256, hc, and_self, if_true, run_sizeOf w hi, part, isAgg, run_underlying Tryd.underlying5]
  have hce : Tryd.prog.cellsOf 5 = 1 := by simp [Program.cellsOf, hi, hz]
  have hm : meanF c.toNat = (Jsn.meaning c : Nat) := by unfold meanF; rw [UInt8.ofNat_toNat]
  simp [arr_get .u8 256 meanF c.toNat hlt, go_sem, hce, hm]
theorem keepW {w w' W : World} (hb : Below w.heap.size w w') (h : Below W.heap.size W w) : Below W.heap.size W w' := h.trans (hb.mono h.size)
theorem keepW2 {w1 w' W : World} (h : Below W.heap.size W w1) (hb : Below w1.drew.heap.size w1.drew w') : Below W.heap.size W w' := h.drew.trans (hb.mono h.size)
def RetQ (w : World) : Jsn.Esc → Go.Ending → World → Prop
  | .ok x n, e, w' => e = .returned (.tuple #[.int .i32 (x : Int), .int .i64 (n : Int), .int .i64 0]) ∧ Below w.heap.size w w'
  | .bad c, e, w' => e = .returned (.tuple #[.int .i32 0, .int .i64 0, .int .i64 (c : Int)]) ∧ Below w.heap.size w w'
theorem RetQ.okI {w w' : World} {x n : Nat} {X N : Int} (hx : X = x) (hn : N = n) (hb : Below w.heap.size w w') : RetQ w (.ok x n) (.returned (.tuple #[.int .i32 X, .int .i64 N, .int .i64 0])) w' := by
  subst hx hn; exact ⟨rfl, hb⟩
theorem RetQ.badI {w w' : World} {c : Nat} {C : Int} (hc : C = c) (hb : Below w.heap.size w w') : RetQ w (.bad c) (.returned (.tuple #[.int .i32 0, .int .i64 0, .int .i64 C])) w' := by
  subst hc; exact ⟨rfl, hb⟩
end Go.Proofs.YtjfkiomegacpeaaDoor
