/-
  ref04's Norm by its contract: it returns a number.
-/
import Derived.Test.YtjfkiomegacpeaaDoorJnA
import Derived.Test.YtjfkiomegacpeaaDoorJsN
import Derived.BigQuiet
import Derived.Deep.RegionLaw
import Derived.Deep.Cut
import Derived.Deep.CutBlock
namespace Go.Proofs.YtjfkiomegacpeaaDoor
open Go.RowKit
/-- A row of small numbers that can be read. -/
def RdI (w : World) (ao : Option Addr) (n : Nat) : Prop := 0 < n → ∃ g, ao = some ⟨g, 0, none⟩ ∧ g < w.heap.size ∧ ∀ j, j < n → ∃ x : Nat, w.cell? ⟨g, j, none⟩ = some (.int .i64 (x : Int)) ∧ x ≤ 9
theorem RdI.keep {w w' : World} {ao : Option Addr} {n : Nat} (h : RdI w ao n) (hb : Below w.heap.size w w') : RdI w' ao n := fun h0 => by
  obtain ⟨g, rfl, hg, hc⟩ := h h0
  refine ⟨g, rfl, Nat.lt_of_lt_of_le hg hb.size, fun j hj => ?_⟩
  obtain ⟨x, hx, h9⟩ := hc j hj
  exact ⟨x, (hb.cell (p := ⟨g, j, none⟩) hg).trans hx, h9⟩
theorem OwnN.rd {w : World} {base : Nat} {v : Value} {l : List Nat} (h : OwnN w base 3 v l) (h9 : ∀ x ∈ l, x ≤ 9) : ∃ ao cap, v = .slice ao l.length cap ∧ l.length ≤ cap ∧ RdI w ao l.length := by
  rcases h.form with ⟨rfl, rfl⟩ | ⟨g, cap, rfl, hcap, _, hg⟩
  · exact ⟨none, 0, rfl, Nat.le_refl _, fun h => absurd h (Nat.lt_irrefl 0)⟩
  · refine ⟨_, cap, rfl, hcap, fun _ => ⟨g, rfl, hg, fun j hj => ⟨_, h.cell j hj, ?_⟩⟩⟩
    rw [List.getD_eq_getElem?_getD, List.getElem?_eq_getElem hj]
    exact h9 _ (List.getElem_mem _)
theorem OwnN.setCell {w : World} {base : Nat} {e : TypeId} {v : Value} {l : List Nat} (h : OwnN w base e v l) (a : Addr) (x : Value) (hne : ∀ k, v.ownBlock = some k → k ≠ a.block) : OwnN (w.setCell a x) base e v l := by
  refine ⟨h.1, ?_⟩
  rcases h.2 with hn | ⟨g, cap, cur, rfl, hbg, hg, r⟩
  · exact Or.inl hn
  · exact Or.inr ⟨g, cap, cur, rfl, hbg, by rw [heap_setCell_other w a g x (hne g rfl)]; exact hg, r⟩
theorem OwnN.allocD {w : World} {base : Nat} {e : TypeId} {v : Value} {l : List Nat} (h : OwnN w base e v l) (o : Obj) : OwnN (w.alloc o).drew base e v l := OwnN.alloc h o
theorem OwnN.slc {w : World} {base : Nat} {e : TypeId} {v : Value} {l : List Nat} (h : OwnN w base e v l) : ∃ ao n cap, v = .slice ao n cap := by
  rcases h.form with ⟨h, _⟩ | ⟨_, _, h, _⟩
  · exact ⟨_, _, _, h⟩
  · exact ⟨_, _, _, h⟩
theorem step_push_nat {P : Program} {w : World} {o : Oper} {a : Act} {K : Act → World → Prop} {Q : Exit → Act → World → Prop} {E : Prop} {ops : Array Oper} (hgd : o.guard = none) (s x : Operand) (t : TypeId) (ho : o.op = .call { callee := .builtin .append, args := #[s, x], argTypes := #[t, t] })
    (e : TypeId) (hE : ElemRow P t e (.int .i64 0) 1 8) (base : Nat) (v : Value) (l : List Nat) (g c : Nat) (b : Nat)
    (hs : a.eval s = v) (hx : a.eval x = .slice (some ⟨g, 0, none⟩) 1 c) (hown : OwnN w base e v l) (hc : w.cell? ⟨g, 0, none⟩ = some (.int .i64 (b : Int)))
    (hn : l.length < 1099511627776) (hbase : base ≤ w.heap.size)
    (h : ∀ v' w', OwnN w' base e v' (l ++ [b]) → Below base w w' → K (a.put o.dst v') w') : if Region.wanted o (yielded ops a.tmps) = true then Oper.wp P o a w K Q else E := by
  obtain ⟨i, hi, hz, hsz, hby⟩ := info_parts hE.row
  refine step_append_lies w hgd s x t ho base e i _ 1 8 hE.slice hi hz hsz hby hE.cells hE.pos v l.length (natVals l) hs hown ⟨g, 0, none⟩ 1 c [.int .i64 (b : Int)] hx rfl (fun j u hu => ?_)
    (fun u hu => by simp at hu; subst hu; rfl) (by decide) (by unfold maxLen; omega) (by omega) hbase w.heap.size rfl
    (fun g' cap w' h1 h2 _ _ => h _ w' (by unfold OwnN natVals; rw [List.length_append, List.map_append]; exact h1) ((Below.refl base w).grown h2 hbase fun k hk => (World.ownsRow.lt hown k hk).1))
  have hadd : (⟨g, 0, none⟩ : Addr).add j = ⟨g, j, none⟩ := by unfold Addr.add; split <;> simp_all
  rw [hadd]
  match j, hu with
  | 0, hu => simp at hu; subst hu; exact hc
def RetNr (w : World) (e : Go.Ending) (w' : World) : Prop := (∃ (neg : Bool) (v : Value) (x : Int), e = .returned (.agg #[.bool neg, v, .int .i64 x]) ∧ v.oneCell' = true) ∧ Below w.heap.size w w'
theorem rnumRow : (Tryd.prog.info? 46).map (·.size) = some 3 := by kernel_rfl
abbrev zD : Array Value := #[.bool false, .slice none 0 0, .int .i64 0]
theorem wpList_load_D {w : World} {ops : Array Oper} {rest : List Oper} {o : Oper} {a : Act} {Q : Exit → Act → World → Prop} (hgd : o.guard = none) (x : Operand) (ho : o.op = .load 46 x) (g : Nat) (v0 v1 v2 : Value) (hx : a.eval x = .pointer (some ⟨g, 0, none⟩)) (hg : Blk w g 46 #[v0, v1, v2])
    (h : wpList Tryd.prog ops Q rest (a.put o.dst (.agg #[v0, v1, v2])) w) : wpList Tryd.prog ops Q (o :: rest) a w :=
  wpList_load_row hgd _ x ho g hx _ _ _ _ hg Tryd.underlying46 rfl rnumRow h
set_option maxRecDepth 100000 in
set_option maxHeartbeats 4000000 in
theorem rnorm_any (neg : Bool) (ao : Option Addr) (n cap : Nat) (x : Int) (w : World) (hn : n ≤ 1000000) (_hc : n ≤ cap) (hr : RdI w ao n) (h0 : -1099512627776 ≤ x) (h1 : x ≤ 1099512627776) :
    Calls Tryd.prog 26 #[.bool neg, .slice ao n cap, .int .i64 x] w (RetNr w) := by
  go_enter Tryd.func26, Tryd.ntmps26
  go_wp2
  have hr1 := hr.keep (below_alloc (.cells zD 46))
  have hb1 := below_alloc (w := w) (.cells zD 46)
  have hN1 : Blk (w.alloc (.cells zD 46)) w.heap.size 46 zD := Blk.new _ _ _
  unfold zD at hr1 hb1 hN1
  generalize w.alloc (.cells #[.bool false, .slice none 0 0, .int .i64 0] 46) = w1 at *
  clear hr
  have HR := Lib.hid hr1
  clear hr1
  go_loopg [7] n (fun gg v wr => ∃ f : Nat, f + gg = n ∧ v = .int .i64 f ∧ w1 = wr)
  case atStart => exact ⟨0, by omega, rfl, rfl⟩
  case round =>
    obtain ⟨f, hf, rfl, rfl⟩ := hrel
    have hcs : (f < n ∧ ∃ g, ao = some ⟨g, 0, none⟩ ∧ w1.cell? ⟨g, f, none⟩ = some (.int .i64 0)) ∨ (f < n ∧ ∃ g, ao = some ⟨g, 0, none⟩ ∧ ∃ y : Nat, w1.cell? ⟨g, f, none⟩ = some (.int .i64 y) ∧ ((y : Int) == 0) = false) ∨ f = n := by
      by_cases hlt : f < n
      · obtain ⟨g, hg, _, hcl⟩ := HR.out (by omega)
        obtain ⟨y, hy, _⟩ := hcl f hlt
        by_cases hz : y = 0
        · subst hz; exact .inl ⟨hlt, g, hg, hy⟩
        · exact .inr (.inl ⟨hlt, g, hg, y, hy, by rw [beq_eq_false_iff_ne]; omega⟩)
      · exact .inr (.inr (by omega))
    rcases hcs with ⟨hlt, g, rfl, hy⟩ | ⟨hlt, g1, rfl, y, hy, hz⟩ | hfn
    · go_wp2
      go_roundg (n - (f + 1))
      case measure => omega
      case rel => exact ⟨f + 1, by omega, by go_num, rfl⟩
    rotate_left
    · replace hfn : ¬ (f : Int) < (n : Int) := by omega
      go_wp2
      go_loopg [8, 2] (n - f) (fun gg tv ev wr => ∃ (t : Nat) (x2 : Int), t ≤ f + gg ∧ f + gg ≤ t ∧ t ≤ n ∧ tv = .int .i64 t ∧ ev = .int .i64 x2 ∧ x ≤ x2 ∧ x2 + t ≤ x + n ∧ w1 = wr)
      case atStart => exact ⟨n, x, by omega, by omega, Nat.le_refl _, rfl, rfl, by omega, by omega, rfl⟩
      case round =>
        obtain ⟨t, x2, ht1, ht2, htn, rfl, rfl, hx1, hx2, rfl⟩ := hrel
        have hcs : (f < t ∧ ∃ g, ao = some ⟨g, 0, none⟩ ∧ w1.cell? ⟨g, t - 1, none⟩ = some (.int .i64 0)) ∨ (f < t ∧ ∃ g, ao = some ⟨g, 0, none⟩ ∧ ∃ y : Nat, w1.cell? ⟨g, t - 1, none⟩ = some (.int .i64 y) ∧ ((y : Int) == 0) = false) ∨ t = f := by
          by_cases hlt : f < t
          · obtain ⟨g, hg, _, hcl⟩ := HR.out (by omega)
            obtain ⟨y, hy, _⟩ := hcl (t - 1) (by omega)
            by_cases hz : y = 0
            · subst hz; exact .inl ⟨hlt, g, hg, hy⟩
            · exact .inr (.inl ⟨hlt, g, hg, y, hy, by rw [beq_eq_false_iff_ne]; omega⟩)
          · exact .inr (.inr (by omega))
        rcases hcs with ⟨hlt, g, hg, hy⟩ | ⟨hlt, g, hg, y, hy, hz⟩ | hfn
        · exact absurd hlt (by omega)
        · exact absurd hlt (by omega)
        · subst hfn
          have hlt : ¬ (t : Int) < (t : Int) := by omega
          go_wp2_with ((with_reducible refine wpList_store_three rfl 46 (.tmp 6) (.tmp 43) rfl rfl w.heap.size (.bool false) (.slice none 0 0) (.int .i64 0) (.bool false) (.slice none 0 0) (.int .i64 0) 46 rnumRow (one_bool _) (one_slice _ _ _) (one_int _ _) ?_ ?_ hN1 ?_); exact rfl; exact rfl)
          refine bodyPost_ret (v := .agg #[.bool false, .slice none 0 0, .int .i64 0]) (by exact results_cell_row rfl _ _ w.heap.size 46 #[.bool false, .slice none 0 0, .int .i64 0] _ _ rfl (hN1.row _) Tryd.underlying46 rfl rnumRow) rfl ?_
          exact ⟨⟨false, _, 0, rfl, rfl⟩, setRow_below hb1 (Nat.le_refl _) _⟩
    · go_wp2
      clear hy hz
      go_loopg [8, 2] (n - f) (fun gg tv ev wr => ∃ (t : Nat) (x2 : Int), t ≤ f + gg ∧ f + gg ≤ t ∧ t ≤ n ∧ tv = .int .i64 t ∧ ev = .int .i64 x2 ∧ x ≤ x2 ∧ x2 + t ≤ x + n ∧ w1 = wr)
      case atStart => exact ⟨n, x, by omega, by omega, Nat.le_refl _, rfl, rfl, by omega, by omega, rfl⟩
      case round =>
        obtain ⟨t, x2, ht1, ht2, htn, rfl, rfl, hx1, hx2, rfl⟩ := hrel
        have hcs : (f < t ∧ ∃ g, (some ⟨g1, 0, none⟩ : Option Addr) = some ⟨g, 0, none⟩ ∧ w1.cell? ⟨g, t - 1, none⟩ = some (.int .i64 0)) ∨ (f < t ∧ ∃ g, (some ⟨g1, 0, none⟩ : Option Addr) = some ⟨g, 0, none⟩ ∧ ∃ y : Nat, w1.cell? ⟨g, t - 1, none⟩ = some (.int .i64 y) ∧ ((y : Int) == 0) = false) ∨ t = f := by
          by_cases hlt : f < t
          · obtain ⟨g, hg, _, hcl⟩ := HR.out (by omega)
            obtain ⟨y, hy, _⟩ := hcl (t - 1) (by omega)
            by_cases hz : y = 0
            · subst hz; exact .inl ⟨hlt, g, hg, hy⟩
            · exact .inr (.inl ⟨hlt, g, hg, y, hy, by rw [beq_eq_false_iff_ne]; omega⟩)
          · exact .inr (.inr (by omega))
        rcases hcs with ⟨hlt, g, hg, hy⟩ | ⟨hlt, g, hg, y, hy, hz⟩ | hfn
        · obtain ⟨t, rfl⟩ : ∃ u, t = u + 1 := ⟨t - 1, by omega⟩
          rw [Nat.add_sub_cancel] at hy
          cases hg
          go_wp2
          go_roundg (t - f)
          case measure => omega
          case rel => exact ⟨t, x2 + 1, by omega, by omega, by omega, by go_num, by go_num, by omega, by omega, rfl⟩
        · obtain ⟨t, rfl⟩ : ∃ u, t = u + 1 := ⟨t - 1, by omega⟩
          rw [Nat.add_sub_cancel] at hy
          cases hg
          have hne : ((f : Int) == ((t + 1 : Nat) : Int)) = false := by rw [beq_eq_false_iff_ne]; omega
          have hB9 := Blk.new w1 46 zD
          unfold zD at hB9
          go_wp2_with ((with_reducible refine wpList_store_three rfl 46 (.tmp 9) (.tmp 46) rfl rfl w1.heap.size (.bool false) (.slice none 0 0) (.int .i64 0) (.bool neg) (.slice none 0 0) (.int .i64 x2) 46 rnumRow (one_bool _) (one_slice _ _ _) (one_int _ _) ?_ ?_ hB9 ?_); exact rfl; exact rfl)
          have hR1 : RdI w1 (some ⟨g1, 0, none⟩) n := HR.out
          have hW9 : Below w1.heap.size w1 ((w1.alloc (.cells #[.bool false, .slice none 0 0, .int .i64 0] 46)).setRow w1.heap.size #[.bool neg, .slice none 0 0, .int .i64 x2]) := setRow_below (below_alloc _) (Nat.le_refl _) _
          have hB := hB9.row #[.bool neg, .slice none 0 0, .int .i64 x2]
          generalize (w1.alloc (.cells #[.bool false, .slice none 0 0, .int .i64 0] 46)).setRow w1.heap.size #[.bool neg, .slice none 0 0, .int .i64 x2] = w2 at *
          have HR1 := Lib.hid hR1
          have hN1l := hN1.lt
          clear hR1 hB9 HR hne hy hz
          generalize ((f : Int) == (t : Int) + 1) = bq
          go_loopg [10] (t + 1 - f) (fun gg iv wr => ∃ (i : Nat) (v : Value) (l : List Nat), i + gg = t + 1 ∧ iv = .int .i64 i ∧ f ≤ i ∧ l.length ≤ i ∧ Blk wr w1.heap.size 46 #[.bool neg, v, .int .i64 x2] ∧ OwnN wr (w1.heap.size + 1) 3 v l ∧ Below w1.heap.size w1 wr)
          case atStart => exact ⟨f, _, [], by omega, rfl, Nat.le_refl _, Nat.zero_le _, hB, OwnN.nil _ _ _, hW9⟩
          case round =>
            clear hB hW9
            obtain ⟨i, v, l, hi, rfl, hfi, hli, hB, hown, hW⟩ := hrel
            have hlt2 := hB.lt
            by_cases hit : i < t + 1
            · obtain ⟨g2, hg2, hg2l, hcl⟩ := (RdI.keep HR1.out hW) (by omega)
              obtain ⟨y, hyc, hy9⟩ := hcl i (by omega)
              cases hg2
              have c1 : wr.cell? ⟨w1.heap.size, 1, none⟩ = some v := hB.at_ 1
              clear hcl
              go_upto_region 13 with fail
              have k1 : (0 : Int) ≤ (i : Int) := by omega
              have k2 : (i : Int) < (n : Int) := by omega
              have k3 : i < n := by omega
              go_region_law ((refine step_push_nat rfl (.tmp 54) (.tmp 59) 44 rfl 3 intRow (w1.heap.size + 1) v l wr.heap.size 1 y ?_ ?_ ?_ ?_ ?_ ?_ ?_); exact rfl; exact rfl; (first | exact OwnN.alloc (w := wr.drew) hown _ | exact OwnN.alloc hown _ | exact OwnN.allocD hown _); (first | exact one_new wr.drew _ _ 0 _ rfl | exact one_new _ _ _ 0 _ rfl); omega; (have h9 : w1.heap.size + 1 ≤ wr.heap.size := hlt2; show _ ≤ (wr.drew.alloc _).heap.size; simp only [World.size_alloc]; show _ ≤ wr.heap.size + 1; omega); intro v' w4 hown4 hb4; obtain ⟨ao4, n4, cap4, rfl⟩ := hown4.slc; have hB4 : Blk w4 w1.heap.size 46 #[.bool neg, v, .int .i64 x2] := (by first | exact Blk.below (Blk.alloc (w := wr.drew) hB _) hb4 (Nat.lt_succ_self _) | exact Blk.below (Blk.alloc hB _) hb4 (Nat.lt_succ_self _)); have hW4 : Below w1.heap.size w1 w4 := (by first | exact (hW.drew.alloc (Nat.le_of_lt hlt2) _).trans (hb4.mono (Nat.le_succ _)) | exact (hW.alloc (Nat.le_of_lt hlt2) _).drew.trans (hb4.mono (Nat.le_succ _))); have c4 : w4.cell? ⟨w1.heap.size, 1, none⟩ = some v := hB4.at_ 1; have f4 := hB4.free 1; clear hb4)
              all_goals
                go_wp2
                go_roundg (t + 1 - (i + 1))
                case measure => omega
                case rel => exact ⟨i + 1, _, l ++ [y], by omega, by go_num, by omega, by rw [List.length_append]; simp only [List.length_singleton]; omega, hB4.put 1 _, hown4.setCell _ _ (fun k hk => by have := (hown4.lt k hk).1; show k ≠ w1.heap.size; omega), hW4.setCell (Nat.le_refl _) _⟩
            · have hv1 : v.oneCell' = true := by
                rcases hown.form with ⟨rfl, _⟩ | ⟨_, _, rfl, _⟩ <;> rfl
              have hNr := hN1.below hW hN1l
              have hbw := hb1.trans (hW.mono hb1.size)
              go_wp2_with (first | ((with_reducible refine wpList_load_D rfl (.tmp 9) rfl w1.heap.size _ _ _ ?_ hB ?_); exact rfl) | ((with_reducible refine wpList_store_three rfl 46 (.tmp 6) (.tmp 62) rfl rfl w.heap.size (.bool false) (.slice none 0 0) (.int .i64 0) (.bool neg) v (.int .i64 x2) 46 rnumRow (one_bool _) hv1 (one_int _ _) ?_ ?_ hNr ?_); exact rfl; exact rfl))
              refine bodyPost_ret (v := .agg #[.bool neg, v, .int .i64 x2]) (by exact results_cell_row rfl _ _ w.heap.size 46 #[.bool neg, v, .int .i64 x2] _ _ rfl (hNr.row _) Tryd.underlying46 rfl rnumRow) rfl ?_
              exact ⟨⟨neg, _, x2, rfl, hv1⟩, setRow_below hbw (Nat.le_refl _) _⟩
        · subst hfn
          have hlt : ¬ (t : Int) < (t : Int) := by omega
          go_wp2_with ((with_reducible refine wpList_store_three rfl 46 (.tmp 6) (.tmp 43) rfl rfl w.heap.size (.bool false) (.slice none 0 0) (.int .i64 0) (.bool false) (.slice none 0 0) (.int .i64 0) 46 rnumRow (one_bool _) (one_slice _ _ _) (one_int _ _) ?_ ?_ hN1 ?_); exact rfl; exact rfl)
          refine bodyPost_ret (v := .agg #[.bool false, .slice none 0 0, .int .i64 0]) (by exact results_cell_row rfl _ _ w.heap.size 46 #[.bool false, .slice none 0 0, .int .i64 0] _ _ rfl (hN1.row _) Tryd.underlying46 rfl rnumRow) rfl ?_
          exact ⟨⟨false, _, 0, rfl, rfl⟩, setRow_below hb1 (Nat.le_refl _) _⟩
end Go.Proofs.YtjfkiomegacpeaaDoor
