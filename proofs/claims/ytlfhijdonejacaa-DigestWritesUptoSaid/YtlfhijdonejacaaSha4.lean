/-
  The reference's turn, K, words and block by their contracts: the same functions as the program's.
-/
import Derived.Test.YtlfhijdonejacaaSha3
namespace Go.Proofs.Ytlfhijdonejacaa
open Go.RowKit
theorem rturn_any (x n : Int) (w : World) (_hx : 0 ≤ x ∧ x < 4294967296) (hn : 0 < n) (hn' : n < 32) :
    Calls Try.prog 26 #[.int .u32 x, .int .i64 n] w fun e w' => e = .returned (.int .u32 (rotr x n)) ∧ ∃ n, w' = w.drewN n := by
  go_enter Try.func26, Try.ntmps26
  go_wp2
  go_quiet (fail)
  go_wp2
  go_ret
  exact ⟨rfl, _, rfl⟩
set_option maxRecDepth 100000 in
set_option maxHeartbeats 400000 in
theorem rK_any (w : World)  :
    Calls Try.prog 25 #[] w fun e w' => e = .returned (.agg (arrOf .u32 64 kAt)) ∧ Below w.heap.size w w' := by
  go_enter Try.func25, Try.ntmps25
  go_wp2_with (first | (with_reducible refine wpList_alloc_sym rfl 56 rfl _ zeroW ?_) | ((with_reducible refine wpList_build_sym rfl 56 _ rfl (arrOf .u32 64 kAt) ?_ ?_); kernel_rfl) | ((with_reducible refine wpList_store_arr rfl 56 (.tmp 0) (.tmp 1) rfl rfl w.heap.size .u32 64 kAt 56 _ sizeW ?_ ?_ (Blk.new _ _ _) (arr_size _ _ _) ?_); exact rfl; exact rfl))
  exact bodyPost_ret (results_arr rfl _ _ w.heap.size 56 .u32 64 kAt 28 underW sizeW rfl (Blk.row (Blk.new _ _ _) _)) rfl ⟨rfl, setRow_below (below_alloc _) (Nat.le_refl _) _⟩
/-- A word of the schedule behind k bytes. -/
def wAcc (b : Nat → Int) (t : Nat) : Nat → Int
  | 0 => 0
  | k + 1 => 256 * wAcc b t k % 4294967296 + b (4 * t + k)
theorem or_add (a b : Int) (i : Nat) (ha : 0 ≤ a) (hb : 0 ≤ b) (hb' : b < 2 ^ i) (h : a * 2 ^ i + b < 4294967296) : bits .or .u32 (a * 2 ^ i) b = a * 2 ^ i + b := by
  have hp : (0 : Int) < 2 ^ i := Int.pow_pos (by decide)
  have hm : 0 ≤ a * 2 ^ i := Int.mul_nonneg ha (by omega)
  rw [u32_or _ _ hm (by omega) hb (by omega)]
  obtain ⟨x, rfl⟩ := Int.eq_ofNat_of_zero_le ha
  obtain ⟨y, rfl⟩ := Int.eq_ofNat_of_zero_le hb
  have e : ((x : Int) * 2 ^ i) = ((2 ^ i * x : Nat) : Int) := by rw [Int.natCast_mul, Int.natCast_pow, Int.mul_comm]; rfl
  rw [e]
  have hy : y < 2 ^ i := by
    have : (y : Int) < ((2 ^ i : Nat) : Int) := by rw [Int.natCast_pow]; exact hb'
    omega
  simp only [Int.toNat_natCast]
  rw [← Nat.two_pow_add_eq_or_of_lt hy]
  omega
theorem wordAt_acc (b : Nat → Int) (hb : ∀ i, 0 ≤ b i ∧ b i < 256) (t : Nat) : wAcc b t 4 = wordAt b t := by
  have h0 := hb (4 * t)
  have h1 := hb (4 * t + 1)
  have h2 := hb (4 * t + 2)
  have h3 := hb (4 * t + 3)
  unfold wordAt
  simp only [wAcc, Nat.add_zero]
  generalize b (4 * t) = x0 at *
  generalize b (4 * t + 1) = x1 at *
  generalize b (4 * t + 2) = x2 at *
  generalize b (4 * t + 3) = x3 at *
  have e1 : bits .or .u32 (x0 * 16777216) (x1 * 65536) = x0 * 16777216 + x1 * 65536 := by
    have := or_add x0 (x1 * 65536) 24 (by omega) (by omega) (by omega) (by omega)
    simpa using this
  have e2 : bits .or .u32 (x0 * 16777216 + x1 * 65536) (x2 * 256) = x0 * 16777216 + x1 * 65536 + x2 * 256 := by
    have := or_add (x0 * 256 + x1) (x2 * 256) 16 (by omega) (by omega) (by omega) (by omega)
    have ee : (x0 * 256 + x1) * 2 ^ 16 = x0 * 16777216 + x1 * 65536 := by omega
    rwa [ee] at this
  have e3 : bits .or .u32 (x0 * 16777216 + x1 * 65536 + x2 * 256) x3 = x0 * 16777216 + x1 * 65536 + x2 * 256 + x3 := by
    have := or_add (x0 * 65536 + x1 * 256 + x2) x3 8 (by omega) (by omega) (by omega) (by omega)
    have ee : (x0 * 65536 + x1 * 256 + x2) * 2 ^ 8 = x0 * 16777216 + x1 * 65536 + x2 * 256 := by omega
    rwa [ee] at this
  rw [e1, e2, e3]
  omega
theorem w16_zero (b : Nat → Int) (t j : Nat) (h : t ≤ j) : w16 b t j = 0 := by
  induction t with
  | zero => rfl
  | succ t ih =>
    unfold w16
    rw [upd_ne _ _ _ _ (by omega)]
    exact ih (by omega)
theorem upd_self (f : Nat → Int) (i : Nat) : upd f i (f i) = f := by
  funext j
  unfold upd
  split
  · rename_i h; rw [h]
  · rfl
theorem upd_upd (f : Nat → Int) (i : Nat) (x y : Int) : upd (upd f i x) i y = upd f i y := by
  funext j
  unfold upd
  split <;> rfl
theorem wAcc_bd (b : Nat → Int) (hb : ∀ i, 0 ≤ b i ∧ b i < 256) (t k : Nat) : 0 ≤ wAcc b t k ∧ wAcc b t k < 4294967296 := by
  cases k with
  | zero => simp [wAcc]
  | succ k => have := hb (4 * t + k); unfold wAcc; omega
set_option maxRecDepth 100000 in
set_option maxHeartbeats 4000000 in
theorem rwords_any (b : Nat → Int) (gb off cap : Nat) (w : World) (hb : ∀ i, 0 ≤ b i ∧ b i < 256) (hg : gb < w.heap.size) (hc : ∀ j, j < 64 → w.cell? ⟨gb, off + j, none⟩ = some (.int .u8 (b j))) :
    Calls Try.prog 24 #[.slice (some ⟨gb, off, none⟩) 64 cap] w fun e w' => e = .returned (.agg (arrOf .u32 64 (sched b 48))) ∧ Below w.heap.size w w' := by
  go_enter Try.func24, Try.ntmps24
  go_wp2_with (with_reducible refine wpList_alloc_sym rfl 56 rfl _ zeroW ?_)
  have hR0 : Blk ((w.alloc (.cells (arrOf .u32 64 fun _ => 0) 56)).alloc (.cells (arrOf .u32 64 fun _ => 0) 56)) w.heap.size 56 (arrOf .u32 64 fun _ => 0) := (Blk.new _ _ _).alloc _
  have hW0 : Blk ((w.alloc (.cells (arrOf .u32 64 fun _ => 0) 56)).alloc (.cells (arrOf .u32 64 fun _ => 0) 56)) (w.heap.size + 1) 56 (arrOf .u32 64 (w16 b 0)) := by
    have := Blk.new (w.alloc (.cells (arrOf .u32 64 fun _ => 0) 56)) 56 (arrOf .u32 64 fun _ => 0)
    simp only [World.size_alloc] at this
    exact this
  have hb0 : Below w.heap.size w ((w.alloc (.cells (arrOf .u32 64 fun _ => 0) 56)).alloc (.cells (arrOf .u32 64 fun _ => 0) 56)) := (below_alloc _).alloc (by simp) _
  generalize (w.alloc (.cells (arrOf .u32 64 fun _ => 0) 56)).alloc (.cells (arrOf .u32 64 fun _ => 0) 56) = w1 at hR0 hW0 hb0 ⊢
  go_loopw [4] (fun i wr => ∃ t : Nat, t ≤ 16 ∧ i = .int .i64 t ∧ Blk wr (w.heap.size + 1) 56 (arrOf .u32 64 (w16 b t)) ∧ Blk wr w.heap.size 56 (arrOf .u32 64 fun _ => 0) ∧ Below w.heap.size w wr) (fun i _ => 16 - (intOf i).toNat)
  case atStart => exact ⟨0, by omega, rfl, hW0, hR0, hb0⟩
  case round =>
    clear hR0 hW0 hb0
    obtain ⟨t, ht, rfl, hW, hR, hbel⟩ := hrel
    by_cases hlt : t < 16
    · go_wp2_with fail
      obtain ⟨wo, rfl⟩ : ∃ wo : World, wo = wr := ⟨_, rfl⟩
      go_loopw [5] (fun i wr => ∃ k : Nat, k ≤ 4 ∧ i = .int .i64 k ∧ Blk wr (w.heap.size + 1) 56 (arrOf .u32 64 (upd (w16 b t) t (wAcc b t k))) ∧ Blk wr w.heap.size 56 (arrOf .u32 64 fun _ => 0) ∧ Below w.heap.size w wr) (fun i _ => 4 - (intOf i).toNat)
      case atStart =>
        refine ⟨0, by omega, rfl, ?_, hR, hbel⟩
        have : upd (w16 b t) t (wAcc b t 0) = w16 b t := by
          have h := upd_self (w16 b t) t
          rw [w16_zero b t t (Nat.le_refl _)] at h
          exact h
        rw [this]
        exact hW
      case round =>
        clear hW hR hbel
        obtain ⟨k, hk, rfl, hW, hR, hbel⟩ := hrel
        by_cases hlt4 : k < 4
        · have cw := hW.cell (j := t) (by omega)
          rw [upd_same] at cw
          have fw := hW.free t
          have cb : wr.cell? ⟨gb, off + (4 * t + k), none⟩ = some (.int .u8 (b (4 * t + k))) := (hbel.cell (p := ⟨gb, off + (4 * t + k), none⟩) hg).trans (hc _ (by omega))
          have b0 := hb (4 * t + k)
          have b1 := wAcc_bd b hb t k
          clear hb hc
          go_wp2_with fail
          refine wp_region_quiet_tail 15 (by kernel_rfl) (by kernel_rfl) ?_
          simp only [List.take_succ_cons, List.take_zero, List.drop_succ_cons, List.drop_zero]
          repeat (go_big_quiet_step (fail))
          refine wpQuiet_nil ?_
          go_wp2
          go_roundw
          case rel => exact ⟨k + 1, by omega, by go_num, by have h2 := hW.set t (256 * wAcc b t k % 4294967296 + b (4 * t + k)); rw [upd_upd] at h2; exact h2, hR.set_other (a := ⟨w.heap.size + 1, t, none⟩) (by show w.heap.size ≠ w.heap.size + 1; omega) _, (hbel.setCell (p := ⟨w.heap.size + 1, t, none⟩) (by show _ ≤ w.heap.size + 1; omega) _).drew⟩
          case measure => simp [intOf]; omega
        · have hk4 : k = 4 := by omega
          rw [hk4, wordAt_acc b hb t] at hW
          clear hk4
          go_wp2_with fail
          go_roundw
          case rel => exact ⟨t + 1, by omega, by go_num, hW, hR, hbel⟩
          case measure => simp [intOf]; omega
    · have ht16 : t = 16 := by omega
      rw [ht16] at hW
      clear ht16
      go_wp2_with fail
      obtain ⟨wo, rfl⟩ : ∃ wo : World, wo = wr := ⟨_, rfl⟩
      go_loopw [6] (fun i wr => ∃ j : Nat, j ≤ 48 ∧ i = .int .i64 (↑j + 16) ∧ Blk wr (w.heap.size + 1) 56 (arrOf .u32 64 (sched b j)) ∧ Blk wr w.heap.size 56 (arrOf .u32 64 fun _ => 0) ∧ Below w.heap.size w wr) (fun i _ => 64 - (intOf i).toNat)
      case atStart => exact ⟨0, by omega, rfl, hW, hR, hbel⟩
      case round =>
        clear hW hR hbel
        obtain ⟨j, hj, rfl, hW, hR, hbel⟩ := hrel
        by_cases hlt : j < 48
        · have c0 := hW.cell (j := j) (by omega)
          have c1 := hW.cell (j := j + 1) (by omega)
          have c9 := hW.cell (j := j + 9) (by omega)
          have c14 := hW.cell (j := j + 14) (by omega)
          have c16 := hW.cell (j := j + 16) (by omega)
          have f16 := hW.free (j + 16)
          have b0 := sched_bd b j j
          have b1 := sched_bd b j (j + 1)
          have b9 := sched_bd b j (j + 9)
          have b14 := sched_bd b j (j + 14)
          clear hb hc
          go_wp2_with fail
          go_quiet ((go_at_call 26; exact Calls.quiet_of (rturn_any _ _ _ (by omega) (by omega) (by omega))))
          go_wp2_with fail
          go_quiet ((go_at_call 26; exact quiet_at (rturn_any _ _ _ (by omega) (by omega) (by omega))))
          go_wp2_with fail
          refine wp_region_quiet_tail 15 (by kernel_rfl) (by kernel_rfl) ?_
          simp only [List.take_succ_cons, List.take_zero, List.drop_succ_cons, List.drop_zero]
          repeat (go_big_quiet_step (fail))
          refine wpQuiet_nil ?_
          go_wp2
          go_roundw
          case rel =>
            exact ⟨j + 1, by omega, by go_num, Blk.set (w := wr.drewN _) hW (j + 16) _, Blk.set_other (w := wr.drewN _) hR (by show w.heap.size ≠ w.heap.size + 1; omega) _, (drewN_below hbel _).setCell (p := ⟨w.heap.size + 1, j + 16, none⟩) (by show _ ≤ w.heap.size + 1; omega) _⟩
          case measure => simp [intOf]; omega
        · have hj48 : j = 48 := by omega
          rw [hj48] at hW
          clear hj48
          go_wp2_with (first | ((with_reducible refine wpList_load_arr rfl 56 (.tmp 3) rfl (w.heap.size + 1) .u32 64 (sched b 48) 56 28 underW sizeW ?_ hW ?_); exact rfl) | ((with_reducible refine wpList_store_arr rfl 56 (.tmp 2) (.tmp 85) rfl rfl w.heap.size .u32 64 (sched b 48) 56 (arrOf .u32 64 fun _ => 0) sizeW ?_ ?_ hR (arr_size _ _ _) ?_); exact rfl; exact rfl))
          exact bodyPost_ret (results_arr rfl _ _ w.heap.size 56 .u32 64 (sched b 48) 28 underW sizeW rfl (hR.row _)) rfl ⟨rfl, setRow_below hbel (Nat.le_refl _) _⟩
set_option maxRecDepth 100000 in
set_option maxHeartbeats 4000000 in
theorem rblock_any (g0 b : Nat → Int) (gb off cap : Nat) (w : World) (hb : ∀ i, 0 ≤ b i ∧ b i < 256) (hh : ∀ i, 0 ≤ g0 i ∧ g0 i < 4294967296) (hg : gb < w.heap.size) (hc : ∀ j, j < 64 → w.cell? ⟨gb, off + j, none⟩ = some (.int .u8 (b j))) :
    Calls Try.prog 16 #[.agg (arrOf .u32 8 g0), .slice (some ⟨gb, off, none⟩) 64 cap] w fun e w' => e = .returned (.agg (arrOf .u32 8 (shaBlock g0 b))) ∧ Below w.heap.size w w' := by
  go_enter Try.func16, Try.ntmps16
  go_wp2_with (with_reducible refine wpList_alloc_sym rfl 29 rfl _ zeroH ?_)
  have hA0 : Below w.heap.size w ((w.alloc (.cells (arrOf .u32 8 g0) 29)).alloc (.cells (arrOf .u32 8 fun _ => 0) 29)) := (below_alloc _).alloc (by simp) _
  refine (rwords_any b gb off cap _ hb (by simp; omega) (fun j hj => (hA0.cell (p := ⟨gb, off + j, none⟩) hg).trans (hc j hj))).mono ?_
  rintro e w1 ⟨rfl, hb1⟩
  have hs1 := hb1.size
  simp only [World.size_alloc] at hs1
  have hH0 : Blk w1 w.heap.size 29 (arrOf .u32 8 g0) := ((Blk.new w 29 (arrOf .u32 8 g0)).alloc _).below hb1 (by simp; omega)
  have hR0 : Blk w1 (w.heap.size + 1) 29 (arrOf .u32 8 fun _ => 0) := by
    have := (Blk.new (w.alloc (.cells (arrOf .u32 8 g0) 29)) 29 (arrOf .u32 8 fun _ => 0)).below hb1 (by simp)
    simpa using this
  have hbw : Below w.heap.size w w1 := hA0.trans (hb1.mono (by simp; omega))
  clear hb1 hA0 hc
  go_wp2_with fail
  refine (rK_any _).mono ?_
  rintro e w2 ⟨rfl, hb2⟩
  have hs2 := hb2.size
  have hH1 := hH0.below hb2 (by omega)
  have hR1 := hR0.below hb2 (by omega)
  have hbw2 : Below w.heap.size w w2 := hbw.trans (hb2.mono (by omega))
  clear hb2 hH0 hR0 hbw
  have hk0 : ∀ c, Blk (((w2.alloc (.cells (arrOf .u32 64 fun _ => 0) 56)).alloc (.cells (arrOf .u32 64 fun _ => 0) 56)).setRow w2.heap.size c) (w2.heap.size + 1) 56 (arrOf .u32 64 fun _ => 0) := by
    intro c
    have := Blk.new (w2.alloc (.cells (arrOf .u32 64 fun _ => 0) 56)) 56 (arrOf .u32 64 fun _ => 0)
    simp only [World.size_alloc] at this
    exact this.row_other (by omega) c
  have hw0 : Blk ((w2.alloc (.cells (arrOf .u32 64 fun _ => 0) 56)).alloc (.cells (arrOf .u32 64 fun _ => 0) 56)) w2.heap.size 56 (arrOf .u32 64 fun _ => 0) := (Blk.new _ _ _).alloc _
  have hh0 : Blk ((w2.alloc (.cells (arrOf .u32 64 fun _ => 0) 56)).alloc (.cells (arrOf .u32 64 fun _ => 0) 56)) w.heap.size 29 (arrOf .u32 8 g0) := (hH1.alloc _).alloc _
  have hr0 : Blk ((w2.alloc (.cells (arrOf .u32 64 fun _ => 0) 56)).alloc (.cells (arrOf .u32 64 fun _ => 0) 56)) (w.heap.size + 1) 29 (arrOf .u32 8 fun _ => 0) := (hR1.alloc _).alloc _
  have hb0 : Below w.heap.size w ((w2.alloc (.cells (arrOf .u32 64 fun _ => 0) 56)).alloc (.cells (arrOf .u32 64 fun _ => 0) 56)) := (hbw2.alloc (by omega) _).alloc (by simp; omega) _
  have hz0 : ((w2.alloc (.cells (arrOf .u32 64 fun _ => 0) 56)).alloc (.cells (arrOf .u32 64 fun _ => 0) 56)).heap.size = w2.heap.size + 2 := by simp
  go_wp2_with (first | ((with_reducible refine wpList_alloc_sym rfl 56 rfl _ zeroW ?_); try simp only [World.size_alloc]) | ((with_reducible refine wpList_store_arr rfl 56 (.tmp 5) (.tmp 15) rfl rfl w2.heap.size .u32 64 (sched b 48) 56 (arrOf .u32 64 fun _ => 0) sizeW ?_ ?_ ?_ (arr_size _ _ _) ?_); exact rfl; exact rfl; exact hw0) | ((with_reducible refine wpList_store_arr rfl 56 (.tmp 6) (.tmp 16) rfl rfl (w2.heap.size + 1) .u32 64 kAt 56 (arrOf .u32 64 fun _ => 0) sizeW ?_ ?_ ?_ (arr_size _ _ _) ?_); exact rfl; exact rfl; exact hk0 _; (have hH := (hh0.row_other (show w.heap.size ≠ w2.heap.size by omega) (arrOf .u32 64 (sched b 48))).row_other (show w.heap.size ≠ w2.heap.size + 1 by omega) (arrOf .u32 64 kAt)); (have hR := (hr0.row_other (show w.heap.size + 1 ≠ w2.heap.size by omega) (arrOf .u32 64 (sched b 48))).row_other (show w.heap.size + 1 ≠ w2.heap.size + 1 by omega) (arrOf .u32 64 kAt)); (have hK := (hk0 (arrOf .u32 64 (sched b 48))).row (arrOf .u32 64 kAt)); (have hW := (hw0.row (arrOf .u32 64 (sched b 48))).row_other (show w2.heap.size ≠ w2.heap.size + 1 by omega) (arrOf .u32 64 kAt)); (have hbel := setRow_below (setRow_below hb0 (show w.heap.size ≤ w2.heap.size by omega) (arrOf .u32 64 (sched b 48))) (show w.heap.size ≤ w2.heap.size + 1 by omega) (arrOf .u32 64 kAt)); (have hz : w2.heap.size + 2 ≤ ((((w2.alloc (.cells (arrOf .u32 64 fun _ => 0) 56)).alloc (.cells (arrOf .u32 64 fun _ => 0) 56)).setRow w2.heap.size (arrOf .u32 64 (sched b 48))).setRow (w2.heap.size + 1) (arrOf .u32 64 kAt)).heap.size := by simp); generalize ((((w2.alloc (.cells (arrOf .u32 64 fun _ => 0) 56)).alloc (.cells (arrOf .u32 64 fun _ => 0) 56)).setRow w2.heap.size (arrOf .u32 64 (sched b 48))).setRow (w2.heap.size + 1) (arrOf .u32 64 kAt)) = w3 at hH hR hK hW hbel hz ⊢; clear hk0 hw0 hh0 hr0 hb0 hz0) | ((with_reducible refine wpList_load_arr rfl 29 (.tmp 2) rfl w.heap.size .u32 8 g0 29 28 underH sizeH ?_ hH ?_); exact rfl) | (with_reducible refine wpList_alloc_sym rfl 29 rfl _ zeroH ?_) | ((with_reducible refine wpList_store_arr rfl 29 (.tmp 7) (.tmp 17) rfl rfl w3.heap.size .u32 8 g0 29 (arrOf .u32 8 fun _ => 0) sizeH ?_ ?_ ?_ (arr_size _ _ _) ?_); exact rfl; exact rfl; exact Blk.new _ _ _))
  have hlH := hH.lt
  have hV3 : Blk ((w3.alloc (.cells (arrOf .u32 8 fun _ => 0) 29)).setRow w3.heap.size (arrOf .u32 8 g0)) w3.heap.size 29 (arrOf .u32 8 g0) := (Blk.new _ _ _).row _
  have hW3 : Blk ((w3.alloc (.cells (arrOf .u32 8 fun _ => 0) 29)).setRow w3.heap.size (arrOf .u32 8 g0)) w2.heap.size 56 (arrOf .u32 64 (sched b 48)) := (hW.alloc _).row_other (by omega) _
  have hK3 : Blk ((w3.alloc (.cells (arrOf .u32 8 fun _ => 0) 29)).setRow w3.heap.size (arrOf .u32 8 g0)) (w2.heap.size + 1) 56 (arrOf .u32 64 kAt) := (hK.alloc _).row_other (by omega) _
  have hH3 : Blk ((w3.alloc (.cells (arrOf .u32 8 fun _ => 0) 29)).setRow w3.heap.size (arrOf .u32 8 g0)) w.heap.size 29 (arrOf .u32 8 g0) := (hH.alloc _).row_other (by omega) _
  have hR3 : Blk ((w3.alloc (.cells (arrOf .u32 8 fun _ => 0) 29)).setRow w3.heap.size (arrOf .u32 8 g0)) (w.heap.size + 1) 29 (arrOf .u32 8 fun _ => 0) := (hR.alloc _).row_other (by omega) _
  have hbel3 : Below w.heap.size w ((w3.alloc (.cells (arrOf .u32 8 fun _ => 0) 29)).setRow w3.heap.size (arrOf .u32 8 g0)) := setRow_below (hbel.alloc (by omega) _) (by omega) _
  generalize ((w3.alloc (.cells (arrOf .u32 8 fun _ => 0) 29)).setRow w3.heap.size (arrOf .u32 8 g0)) = w4 at hV3 hW3 hK3 hH3 hR3 hbel3 ⊢
  have hNw : w.heap.size + 2 ≤ w2.heap.size := by omega
  have hVw : w2.heap.size + 2 ≤ w3.heap.size := by omega
  clear hz hlH hs1 hs2 hH1 hR1 hbw2
  generalize w3.heap.size = V at *
  generalize w2.heap.size = N at *
  clear hW hK hH hR hbel
  go_loopw [8] (fun i wr => ∃ k : Nat, k ≤ 64 ∧ i = .int .i64 k ∧ Blk wr V 29 (arrOf .u32 8 (vAt kAt (sched b 48) g0 k)) ∧ Blk wr N 56 (arrOf .u32 64 (sched b 48)) ∧ Blk wr (N + 1) 56 (arrOf .u32 64 kAt) ∧ Blk wr w.heap.size 29 (arrOf .u32 8 g0) ∧ Blk wr (w.heap.size + 1) 29 (arrOf .u32 8 fun _ => 0) ∧ Below w.heap.size w wr) (fun i _ => 64 - (intOf i).toNat)
  case atStart => exact ⟨0, by omega, rfl, hV3, hW3, hK3, hH3, hR3, hbel3⟩
  case round =>
    clear hV3 hW3 hK3 hH3 hR3 hbel3
    obtain ⟨i, hi, rfl, hV, hW, hK, hH, hR, hbel⟩ := hrel
    by_cases hlt : i < 64
    · have v0 := hV.cell (j := 0) (by omega)
      have v1 := hV.cell (j := 1) (by omega)
      have v2 := hV.cell (j := 2) (by omega)
      have v3 := hV.cell (j := 3) (by omega)
      have v4 := hV.cell (j := 4) (by omega)
      have v5 := hV.cell (j := 5) (by omega)
      have v6 := hV.cell (j := 6) (by omega)
      have v7 := hV.cell (j := 7) (by omega)
      have ck := hK.cell (j := i) (by omega)
      have cw := hW.cell (j := i) (by omega)
      have hvb := fun j => vAt_bd kAt (sched b 48) g0 hh i j
      have b0 := hvb 0
      have b1 := hvb 1
      have b2 := hvb 2
      have b3 := hvb 3
      have b4 := hvb 4
      have b5 := hvb 5
      have b6 := hvb 6
      have b7 := hvb 7
      have bk := kAt_bd i
      have bw := sched_bd b 48 i
      generalize hf : vAt kAt (sched b 48) g0 i = f at *
      have HF : Hid (vAt kAt (sched b 48) g0 i = f) := hf
      clear hf
      clear hvb hb hh
      go_wp2_with fail
      go_quiet ((go_at_call 26; exact Calls.quiet_of (rturn_any _ _ _ (by omega) (by omega) (by omega))))
      go_wp2_with fail
      go_quiet (fail)
      go_wp2_with fail
      go_quiet ((go_at_call 26; exact quiet_at (rturn_any _ _ _ (by omega) (by omega) (by omega))))
      go_wp2_with (first | ((with_reducible refine wpList_build_sym rfl 29 _ rfl (arrOf .u32 8 (vStep (kAt i) (sched b 48 i) f)) ?_ ?_); kernel_rfl) | ((with_reducible refine wpList_store_arr rfl 29 (.tmp 7) (.tmp 107) rfl rfl V .u32 8 (vStep (kAt i) (sched b 48 i) f) 29 (arrOf .u32 8 f) sizeH ?_ ?_ ?_ (arr_size _ _ _) ?_); exact rfl; exact rfl; exact hV))
      go_roundw
      case rel =>
        refine ⟨i + 1, by omega, by go_num, ?_, Blk.row_other (w := wr.drewN _) hW (by omega) _, Blk.row_other (w := wr.drewN _) hK (by omega) _, Blk.row_other (w := wr.drewN _) hH (by omega) _, Blk.row_other (w := wr.drewN _) hR (by omega) _, setRow_below (drewN_below hbel _) (by omega) _⟩
        show Blk _ V 29 (arrOf .u32 8 (vStep (kAt i) (sched b 48 i) (vAt kAt (sched b 48) g0 i)))
        rw [HF.out]
        exact Blk.row (w := wr.drewN _) hV _
      case measure => simp [intOf]; omega
    · have hi64 : i = 64 := by omega
      rw [hi64] at hV
      clear hi64
      go_wp2_with fail
      obtain ⟨wo, rfl⟩ : ∃ wo : World, wo = wr := ⟨_, rfl⟩
      go_loopw [13] (fun i wr => ∃ k : Nat, k ≤ 8 ∧ i = .int .i64 k ∧ Blk wr w.heap.size 29 (arrOf .u32 8 (addAt g0 (vAt kAt (sched b 48) g0 64) k)) ∧ Blk wr V 29 (arrOf .u32 8 (vAt kAt (sched b 48) g0 64)) ∧ Blk wr (w.heap.size + 1) 29 (arrOf .u32 8 fun _ => 0) ∧ Below w.heap.size w wr) (fun i _ => 8 - (intOf i).toNat)
      case atStart => exact ⟨0, by omega, rfl, hH, hV, hR, hbel⟩
      case round =>
        clear hW hK hH hR hbel hV
        obtain ⟨n, hn, rfl, hH, hV, hR, hbel⟩ := hrel
        by_cases hlt : n < 8
        · have c0 := hH.cell (j := n) (by omega)
          have f0 := hH.free n
          have c1 := hV.cell (j := n) (by omega)
          clear hb hh
          go_wp2_with fail
          refine wp_region_quiet_tail 9 (by kernel_rfl) (by kernel_rfl) ?_
          simp only [List.take_succ_cons, List.take_zero, List.drop_succ_cons, List.drop_zero]
          repeat (go_big_quiet_step (fail))
          refine wpQuiet_nil ?_
          go_wp2
          go_roundw
          case rel => exact ⟨n + 1, by omega, by go_num, hH.set n _, hV.set_other (by show V ≠ w.heap.size; omega) _, hR.set_other (by show _ ≠ w.heap.size; omega) _, (hbel.setCell (p := ⟨w.heap.size, n, none⟩) (by show _ ≤ w.heap.size; omega) _).drew⟩
          case measure => simp [intOf]; omega
        · have hn8 : n = 8 := by omega
          rw [hn8] at hH
          clear hn8
          go_wp2_with (first | ((with_reducible refine wpList_load_arr rfl 29 (.tmp 2) rfl w.heap.size .u32 8 (addAt g0 (vAt kAt (sched b 48) g0 64) 8) 29 28 underH sizeH ?_ hH ?_); exact rfl) | ((with_reducible refine wpList_store_arr rfl 29 (.tmp 4) (.tmp 121) rfl rfl (w.heap.size + 1) .u32 8 (addAt g0 (vAt kAt (sched b 48) g0 64) 8) 29 (arrOf .u32 8 fun _ => 0) sizeH ?_ ?_ hR (arr_size _ _ _) ?_); exact rfl; exact rfl))
          exact bodyPost_ret (results_arr rfl _ _ (w.heap.size + 1) 29 .u32 8 (addAt g0 (vAt kAt (sched b 48) g0 64) 8) 28 underH sizeH rfl (hR.row _)) rfl ⟨rfl, setRow_below hbel (by omega) _⟩
end Go.Proofs.Ytlfhijdonejacaa
