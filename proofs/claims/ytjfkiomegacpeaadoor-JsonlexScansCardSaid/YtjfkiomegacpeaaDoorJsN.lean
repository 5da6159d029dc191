/-
  decimal.norm by its contract: what it hands back can be read.
-/
import Derived.Test.YtjfkiomegacpeaaDoorJsD
import Derived.Laws.CopyOwn
namespace Go.Proofs.YtjfkiomegacpeaaDoor
open Go.RowKit
/-- A slice of n bytes that can be read: its cells lie in the block g from off on. -/
def RdB (w : World) (ao : Option Addr) (n : Nat) : Prop := 0 < n → ∃ g off, ao = some ⟨g, off, none⟩ ∧ g < w.heap.size ∧ ∀ j, j < n → ∃ v : Int, w.cell? ⟨g, off + j, none⟩ = some (.int .u8 v) ∧ 0 ≤ v ∧ v ≤ 255
theorem RdB.keep {w w' : World} {ao : Option Addr} {n : Nat} (h : RdB w ao n) (hb : Below w.heap.size w w') : RdB w' ao n := by
  intro hn
  obtain ⟨g, off, h1, h2, h3⟩ := h hn
  refine ⟨g, off, h1, Nat.lt_of_lt_of_le h2 hb.size, fun j hj => ?_⟩
  obtain ⟨v, h4, h5⟩ := h3 j hj
  exact ⟨v, by rw [hb.cell (p := ⟨g, off + j, none⟩) h2]; exact h4, h5⟩
theorem RdB.zero (w : World) (ao : Option Addr) : RdB w ao 0 := fun h => absurd h (Nat.lt_irrefl 0)
theorem RdB.blk {w : World} {g n : Nat} {f : Nat → Int} (h : Blk w g 5 (arrOf .u8 n f)) (hf : ∀ j, 0 ≤ f j ∧ f j ≤ 255) : RdB w (some ⟨g, 0, none⟩) n := fun _ =>
  ⟨g, 0, rfl, h.lt, fun j hj => ⟨f j, by rw [Nat.zero_add]; exact h.cell (j := j) hj, hf j⟩⟩
theorem RdB.tail {w : World} {g off n : Nat} (h : RdB w (some ⟨g, off, none⟩) (n + 1)) : RdB w (some ⟨g, off + 1, none⟩) n := by
  intro hn
  obtain ⟨g', off', h1, h2, h3⟩ := h (by omega)
  simp only [Option.some.injEq, Addr.mk.injEq, and_true] at h1
  obtain ⟨rfl, rfl⟩ := h1
  exact ⟨g, off + 1, rfl, h2, fun j hj => by have := h3 (j + 1) (by omega); rwa [show off + (j + 1) = off + 1 + j by omega] at this⟩
theorem RdB.init {w : World} {ao : Option Addr} {n m : Nat} (h : RdB w ao n) (hm : m ≤ n) : RdB w ao m := by
  intro hn
  obtain ⟨g, off, h1, h2, h3⟩ := h (by omega)
  exact ⟨g, off, h1, h2, fun j hj => h3 j (by omega)⟩
theorem RdB.fn {w : World} {g off n : Nat} (h : RdB w (some ⟨g, off, none⟩) n) (hn : 0 < n) : ∃ f : Nat → Int, (∀ j, j < n → w.cell? ⟨g, off + j, none⟩ = some (.int .u8 (f j))) ∧ ∀ j, 0 ≤ f j ∧ f j ≤ 255 := by
  obtain ⟨g', off', h1, h2, h3⟩ := h hn
  simp only [Option.some.injEq, Addr.mk.injEq, and_true] at h1
  obtain ⟨rfl, rfl⟩ := h1
  have h4 : ∀ j, ∃ v : Int, (j < n → w.cell? ⟨g, off + j, none⟩ = some (.int .u8 v)) ∧ 0 ≤ v ∧ v ≤ 255 := fun j => by
    by_cases hj : j < n
    · obtain ⟨v, h5, h6⟩ := h3 j hj
      exact ⟨v, fun _ => h5, h6⟩
    · exact ⟨0, fun h => absurd h hj, by omega⟩
  exact ⟨fun j => (h4 j).choose, fun j hj => (h4 j).choose_spec.1 hj, fun j => (h4 j).choose_spec.2⟩
theorem RdB.row {w : World} {g n : Nat} (h : RdB w (some ⟨g, 0, none⟩) n) {b : Nat} (cs : Array Value) (hb : b ≠ g) : RdB (w.setRow b cs) (some ⟨g, 0, none⟩) n := by
  intro hn
  obtain ⟨g', off', h1, h2, h3⟩ := h hn
  simp only [Option.some.injEq, Addr.mk.injEq, and_true] at h1
  obtain ⟨rfl, rfl⟩ := h1
  refine ⟨g, 0, rfl, by simpa [World.setRow] using h2, fun j hj => ?_⟩
  obtain ⟨v, h4, h5⟩ := h3 j hj
  refine ⟨v, ?_, h5⟩
  rw [World.cell?_of_block (setRow_other w b g cs (Ne.symm hb))]
  exact h4
theorem arr_ones (n : Nat) (f : Nat → Int) : ∀ v ∈ (arrOf .u8 n f).toList, v.oneCell' = true := by
  intro v hv
  simp only [arrOf, List.mem_map] at hv
  obtain ⟨j, _, rfl⟩ := hv
  rfl
theorem splice_full {α : Type} (L cs : List α) (h : L.length = cs.length) : splice L 0 cs = cs := by
  simp [splice, h]
theorem num_ones (neg : Bool) (ao : Option Addr) (k cap : Nat) (x : Int) : ∀ j, j < (#[Value.bool neg, .slice ao k cap, .int .i64 x]).size → ((#[Value.bool neg, .slice ao k cap, .int .i64 x]).getD j undef).oneCell' = true := fun j hj => by
  match j, hj with
  | 0, _ => rfl
  | 1, _ => rfl
  | 2, _ => rfl
section
variable {P : Program} {ops : Array Oper} {Q : Exit → Act → World → Prop} {rest : List Oper} {o : Oper} {a : Act} {w : World}
/-- A struct of three cells is stored into its block. -/
theorem wpList_store_three (hgd : o.guard = none) (ty : TypeId) (x y : Operand) (ho : o.op = .store ty x y) (hd : o.dst = none)
    (g : Nat) (z0 z1 z2 v0 v1 v2 : Value) (t : TypeId) (hi : (P.info? ty).map (·.size) = some 3) (h0 : v0.oneCell' = true) (h1 : v1.oneCell' = true) (h2 : v2.oneCell' = true)
    (hx : a.eval x = .pointer (some ⟨g, 0, none⟩)) (hy : a.eval y = .agg #[v0, v1, v2]) (hg : Blk w g t #[z0, z1, z2])
    (h : wpList P ops Q rest a (w.setRow g #[v0, v1, v2])) : wpList P ops Q (o :: rest) a w :=
  wpList_store_agg hgd ty x y ho hd g #[z0, z1, z2] #[v0, v1, v2] t hi rfl (fun j hj => by
    match j, hj with
    | 0, _ => exact h0
    | 1, _ => exact h1
    | 2, _ => exact h2) hx hy hg h
end
theorem one_bool (b : Bool) : (Value.bool b).oneCell' = true := rfl
theorem one_slice (ao : Option Addr) (n c : Nat) : (Value.slice ao n c).oneCell' = true := rfl
/-- What norm hands back. -/
def RetN (w : World) (n : Nat) (lo hi : Int) (e : Go.Ending) (w' : World) : Prop :=
  (∃ (neg : Bool) (ao : Option Addr) (k cap : Nat) (x : Int), e = .returned (.agg #[.bool neg, .slice ao k cap, .int .i64 x]) ∧ k ≤ n ∧ k ≤ cap ∧ RdB w' ao k ∧ (lo ≤ x ∧ x ≤ hi ∨ x = 0)) ∧ Below w.heap.size w w'
theorem numRow : (Tryd.prog.info? 99).map (·.size) = some 3 := by kernel_rfl
set_option maxRecDepth 100000 in
set_option maxHeartbeats 4000000 in
theorem dnorm_any (neg : Bool) (g n cap : Nat) (x : Int) (w : World) (hn : n ≤ 65536) (hc : n ≤ cap) (hr : RdB w (some ⟨g, 0, none⟩) n) (h0 : -1099512627776 ≤ x) (h1 : x ≤ 1099512627776) :
    Calls Tryd.prog 70 #[.bool neg, .slice (some ⟨g, 0, none⟩) n cap, .int .i64 x] w (RetN w n x (x + n)) := by
  go_enter Tryd.func70, Tryd.ntmps70
  go_wp2
  have hr1 := hr.keep (below_alloc (.cells #[.bool false, .slice none 0 0, .int .i64 0] 99))
  have hb1 := below_alloc (w := w) (.cells #[.bool false, .slice none 0 0, .int .i64 0] 99)
  have hN1 : Blk (w.alloc (.cells #[.bool false, .slice none 0 0, .int .i64 0] 99)) w.heap.size 99 #[.bool false, .slice none 0 0, .int .i64 0] := Blk.new _ _ _
  generalize w.alloc (.cells #[.bool false, .slice none 0 0, .int .i64 0] 99) = w1 at *
  clear hr
  go_loopg [1] n (fun gg v wr => ∃ (ao : Option Addr) (m cp : Nat), m = gg ∧ v = .slice ao m cp ∧ m ≤ n ∧ m ≤ cp ∧ RdB w1 ao m ∧ w1 = wr)
  case atStart => exact ⟨_, n, cap, rfl, rfl, Nat.le_refl _, hc, hr1, rfl⟩
  case round =>
    obtain ⟨ao, m, cp, rfl, rfl, hmn, hmc, hrd, rfl⟩ := hrel
    by_cases hm : 0 < m
    · obtain ⟨g', off, rfl, hg', hcl⟩ := hrd hm
      obtain ⟨m, rfl⟩ : ∃ m', m = m' + 1 := ⟨m - 1, by omega⟩
      obtain ⟨v, hv, hv0, hv1⟩ := hcl 0 (by omega)
      rw [Nat.add_zero] at hv
      by_cases hz : v = 0
      · subst hz
        clear hcl
        go_wp2
        · obtain rfl : m = 0 := by omega
          go_roundg 0
          case measure => omega
          case rel => exact ⟨_, 0, _, rfl, rfl, by omega, by omega, RdB.zero _ _, rfl⟩
        · go_roundg m
          case measure => omega
          case rel => exact ⟨_, m, _, rfl, rfl, by omega, by omega, hrd.tail, rfl⟩
      · have hz2 : (v == 0) = false := beq_eq_false_iff_ne.2 hz
        clear hz hcl
        go_wp2
        clear hv hv0 hv1 hz2
        go_loopg [1, 2] (m + 1) (fun gg v e wr => ∃ (ao : Option Addr) (m2 cp : Nat) (x2 : Int), m2 = gg ∧ v = .slice ao m2 cp ∧ e = .int .i64 x2 ∧ m2 ≤ m + 1 ∧ m2 ≤ cp ∧ x ≤ x2 ∧ x2 + m2 ≤ x + (m + 1 : Nat) ∧ RdB w1 ao m2 ∧ w1 = wr)
        case atStart => exact ⟨_, m + 1, cp, x, rfl, rfl, rfl, Nat.le_refl _, hmc, by omega, by omega, hrd, rfl⟩
        case round =>
          clear hmc hrd
          obtain ⟨ao, m2, cp, x2, rfl, rfl, rfl, hm2, hmc, hx1, hx2, hrd, rfl⟩ := hrel
          by_cases hm : 0 < m2
          · obtain ⟨g', off, rfl, hg', hcl⟩ := hrd hm
            obtain ⟨m2, rfl⟩ : ∃ m', m2 = m' + 1 := ⟨m2 - 1, by omega⟩
            obtain ⟨v, hv, hv0, hv1⟩ := hcl m2 (by omega)
            by_cases hz : v = 0
            · subst hz
              clear hcl
              go_wp2
              go_roundg m2
              case measure => omega
              case rel => exact ⟨_, m2, _, x2 + 1, rfl, rfl, by go_num, by omega, by omega, by omega, by omega, hrd.init (by omega), rfl⟩
            · have hz2 : (v == 0) = false := beq_eq_false_iff_ne.2 hz
              clear hz
              obtain ⟨f, hf1, hf2⟩ := RdB.fn hrd hm
              clear hcl
              go_wp2_with ((with_reducible refine wpList_make_full_bytes rfl (.tmp 43) (.tmp 43) 39 rfl 5 byteRowJ .i64 .i64 _ _ (m2 + 1) ?_ ?_ rfl rfl ?_ ?_); exact rfl; exact rfl; omega)
              intro w3 hB3 hb3
              have hsrc : ∀ (j : Nat) v, (arrOf .u8 (m2 + 1) f).toList[j]? = some v → w3.cell? ((⟨g', off, none⟩ : Addr).add j) = some v := fun j v h => by
                rw [show (⟨g', off, none⟩ : Addr).add j = ⟨g', off + j, none⟩ by simp [Addr.add]]
                have hj : j < m2 + 1 := by
                  have := (List.getElem?_eq_some_iff.1 h).1
                  rwa [Array.length_toList, arr_size] at this
                have h2 := arr_get .u8 (m2 + 1) f j hj
                rw [Array.getElem?_toList, h2] at h
                rw [hb3.cell (p := ⟨g', off + j, none⟩) hg', hf1 j hj]
                exact h
              have HSR := Lib.hid hsrc
              have HF2 := Lib.hid hf2
              have hN3 := hN1.below hb3 hN1.lt
              have hb13 : Below w.heap.size w w3 := hb1.trans (hb3.mono hb1.size)
              clear hv hv0 hv1 hz2 hf1 hf2 hrd hsrc
              go_wp2_with ((with_reducible refine wpList_copy_splice rfl (.tmp 45) (.tmp 46) 39 39 rfl 5 Tryd.underlying39 (by kernel_rfl) (some ⟨w1.heap.size, 0, none⟩) (some ⟨g', off, none⟩) (m2 + 1) (m2 + 1) (m2 + 1) cp ?_ ?_ w1.heap.size 0 (arrOf .u8 (m2 + 1) fun _ => 0).toList 5 ?_ (arrOf .u8 (m2 + 1) f).toList ?_ ?_ ?_ ?_ w1.heap.size w3 (Below.refl _ _) (Nat.le_refl _) ?_); exact rfl; exact rfl; exact hB3; (rw [Array.length_toList, arr_size]; exact (Nat.min_self _).symm); exact fun _ => ⟨rfl, _, rfl, HSR.out⟩; (rw [Array.length_toList, Array.length_toList, arr_size, arr_size]; omega); exact arr_ones _ _)
              intro w5 hB5 hb5
              have hB5 : Blk w5 w1.heap.size 5 (arrOf .u8 (m2 + 1) f) := by
                have h := hB5.out
                rw [splice_full _ _ (by rw [Array.length_toList, Array.length_toList, arr_size, arr_size])] at h
                exact h
              have hN5 := hN3.below hb5 (by have := hb1.size; have := hN1.lt; omega)
              have hb15 : Below w.heap.size w w5 := hb13.trans (hb5.mono hb1.size)
              clear HSR hB3 hb3
              go_wp2_with ((with_reducible refine wpList_store_three rfl 99 (.tmp 6) (.tmp 51) rfl rfl w.heap.size (.bool false) (.slice none 0 0) (.int .i64 0) (.bool neg) (.slice (some ⟨w1.heap.size, 0, none⟩) (m2 + 1) (m2 + 1)) (.int .i64 x2) 99 numRow (one_bool _) (one_slice _ _ _) (one_int _ _) ?_ ?_ hN5 ?_); exact rfl; exact rfl)
              refine bodyPost_ret (v := .agg #[.bool neg, .slice (some ⟨w1.heap.size, 0, none⟩) (m2 + 1) (m2 + 1), .int .i64 x2]) (by exact results_cell_row rfl _ _ w.heap.size 99 #[.bool neg, .slice (some ⟨w1.heap.size, 0, none⟩) (m2 + 1) (m2 + 1), .int .i64 x2] _ _ rfl (hN5.row _) Tryd.underlying99 rfl numRow) rfl ?_
              exact ⟨⟨neg, _, _, _, x2, rfl, by omega, Nat.le_refl _, (RdB.blk hB5 HF2.out).row _ (by have := hb1.size; have := hN1.lt; omega), Or.inl ⟨hx1, by omega⟩⟩, setRow_below hb15 (Nat.le_refl _) _⟩
          · obtain rfl : m2 = 0 := by omega
            go_wp2_with ((with_reducible refine wpList_store_three rfl 99 (.tmp 6) (.tmp 41) rfl rfl w.heap.size (.bool false) (.slice none 0 0) (.int .i64 0) (.bool false) (.slice none 0 0) (.int .i64 0) 99 numRow (one_bool _) (one_slice _ _ _) (one_int _ _) ?_ ?_ hN1 ?_); exact rfl; exact rfl)
            refine bodyPost_ret (v := .agg #[.bool false, .slice none 0 0, .int .i64 0]) (by exact results_cell_row rfl _ _ w.heap.size 99 #[.bool false, .slice none 0 0, .int .i64 0] _ _ rfl (hN1.row _) Tryd.underlying99 rfl numRow) rfl ?_
            exact ⟨⟨false, none, 0, 0, 0, rfl, Nat.zero_le _, Nat.le_refl _, RdB.zero _ _, Or.inr rfl⟩, setRow_below hb1 (Nat.le_refl _) _⟩
    · obtain rfl : m = 0 := by omega
      go_wp2
      go_loopg [1, 2] 0 (fun gg v e wr => ∃ (ao : Option Addr) (m2 cp : Nat) (x2 : Int), m2 = gg ∧ v = .slice ao m2 cp ∧ e = .int .i64 x2 ∧ m2 ≤ 0 ∧ m2 ≤ cp ∧ x ≤ x2 ∧ x2 + m2 ≤ x + (0 : Nat) ∧ RdB w1 ao m2 ∧ w1 = wr)
      case atStart => exact ⟨_, 0, cp, x, rfl, rfl, rfl, Nat.le_refl _, hmc, by omega, by omega, hrd, rfl⟩
      case round =>
        clear hmc hrd
        obtain ⟨ao, m2, cp, x2, rfl, rfl, rfl, hm2, hmc, hx1, hx2, hrd, rfl⟩ := hrel
        by_cases hm : 0 < m2
        · exact absurd hm (by omega)
        · obtain rfl : m2 = 0 := by omega
          go_wp2_with ((with_reducible refine wpList_store_three rfl 99 (.tmp 6) (.tmp 41) rfl rfl w.heap.size (.bool false) (.slice none 0 0) (.int .i64 0) (.bool false) (.slice none 0 0) (.int .i64 0) 99 numRow (one_bool _) (one_slice _ _ _) (one_int _ _) ?_ ?_ hN1 ?_); exact rfl; exact rfl)
          refine bodyPost_ret (v := .agg #[.bool false, .slice none 0 0, .int .i64 0]) (by exact results_cell_row rfl _ _ w.heap.size 99 #[.bool false, .slice none 0 0, .int .i64 0] _ _ rfl (hN1.row _) Tryd.underlying99 rfl numRow) rfl ?_
          exact ⟨⟨false, none, 0, 0, 0, rfl, Nat.zero_le _, Nat.le_refl _, RdB.zero _ _, Or.inr rfl⟩, setRow_below hb1 (Nat.le_refl _) _⟩
end Go.Proofs.YtjfkiomegacpeaaDoor
