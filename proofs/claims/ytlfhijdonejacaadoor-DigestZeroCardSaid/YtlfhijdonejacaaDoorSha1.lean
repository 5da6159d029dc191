import Derived.Test.YtlfhijdonejacaaDoorSha0
namespace Go.Proofs.YtlfhijdonejacaaDoor
open Go.RowKit
def rotr (x n : Int) : Int := bits BinOp.or IntKind.u32 (x / 2 ^ n.toNat) (x * 2 ^ (32 - n).toNat % 4294967296)
theorem turn_any (x n : Int) (w : World) (_hx : 0 ≤ x ∧ x < 4294967296) (hn : 0 < n) (hn' : n < 32) :
    Calls Tryd.prog 23 #[.int .u32 x, .int .i64 n] w fun e w' => e = .returned (.int .u32 (rotr x n)) ∧ ∃ n, w' = w.drewN n := by
  go_enter Tryd.func23, Tryd.ntmps23
  go_wp2
  go_quiet (fail)
  go_wp2
  go_ret
  exact ⟨rfl, _, rfl⟩
theorem u32_bd (n : Int) : 0 ≤ IntKind.u32.wrap n ∧ IntKind.u32.wrap n < 4294967296 := by
  rw [IntKind.wrap_u32']; omega
theorem bits_bd (op : BinOp) (x y : Int) : 0 ≤ bits op .u32 x y ∧ bits op .u32 x y < 4294967296 := by
  unfold bits
  split <;> first | exact u32_bd _ | (constructor <;> decide)
theorem rotr_bd (x n : Int) : 0 ≤ rotr x n ∧ rotr x n < 4294967296 := bits_bd _ _ _
def wordAt (b : Nat → Int) (i : Nat) : Int := bits .or .u32 (bits .or .u32 (bits .or .u32 (b (4 * i) * 16777216) (b (4 * i + 1) * 65536)) (b (4 * i + 2) * 256)) (b (4 * i + 3))
def w16 (b : Nat → Int) : Nat → (Nat → Int)
  | 0 => fun _ => 0
  | k + 1 => upd (w16 b k) k (wordAt b k)
def sig0 (x : Int) : Int := bits .xor .u32 (bits .xor .u32 (rotr x 7) (rotr x 18)) (x / 8)
def sig1 (x : Int) : Int := bits .xor .u32 (bits .xor .u32 (rotr x 17) (rotr x 19)) (x / 1024)
def schedAt (f : Nat → Int) (k : Nat) : Int := (f k + sig0 (f (k + 1)) + f (k + 9) + sig1 (f (k + 14))) % 4294967296
def sched (b : Nat → Int) : Nat → (Nat → Int)
  | 0 => w16 b 16
  | k + 1 => upd (sched b k) (k + 16) (schedAt (sched b k) k)
theorem upd_bd (f : Nat → Int) (i : Nat) (v : Int) (M : Int) (hf : ∀ j, 0 ≤ f j ∧ f j < M) (hv : 0 ≤ v ∧ v < M) (j : Nat) : 0 ≤ upd f i v j ∧ upd f i v j < M := by
  unfold upd
  split
  · exact hv
  · exact hf j
theorem w16_bd (b : Nat → Int) (k : Nat) : ∀ j, 0 ≤ w16 b k j ∧ w16 b k j < 4294967296 := by
  induction k with
  | zero => intro j; simp [w16]
  | succ k ih => intro j; exact upd_bd _ _ _ _ ih (bits_bd _ _ _) j
theorem sched_bd (b : Nat → Int) (k : Nat) : ∀ j, 0 ≤ sched b k j ∧ sched b k j < 4294967296 := by
  induction k with
  | zero => exact w16_bd b 16
  | succ k ih => intro j; exact upd_bd _ _ _ _ ih (by unfold schedAt; omega) j
def bS1 (e : Int) : Int := bits .xor .u32 (bits .xor .u32 (rotr e 6) (rotr e 11)) (rotr e 25)
def bS0 (a : Int) : Int := bits .xor .u32 (bits .xor .u32 (rotr a 2) (rotr a 13)) (rotr a 22)
def bCh (e f g : Int) : Int := bits .xor .u32 (bits .and .u32 e f) (bits .and .u32 (bits .xor .u32 IntKind.u32.max e) g)
def bMaj (a b c : Int) : Int := bits .xor .u32 (bits .xor .u32 (bits .and .u32 a b) (bits .and .u32 a c)) (bits .and .u32 b c)
def tX (k w : Int) (v : Nat → Int) : Int := (v 7 + bS1 (v 4) + bCh (v 4) (v 5) (v 6) + k + w) % 4294967296
def tY (v : Nat → Int) : Int := (bS0 (v 0) + bMaj (v 0) (v 1) (v 2)) % 4294967296
def vStep (k w : Int) (v : Nat → Int) : Nat → Int := fun j => [(tX k w v + tY v) % 4294967296, v 0, v 1, v 2, (v 3 + tX k w v) % 4294967296, v 4, v 5, v 6].getD j 0
def addAt (h v : Nat → Int) : Nat → (Nat → Int)
  | 0 => h
  | k + 1 => upd (addAt h v k) k ((addAt h v k k + v k) % 4294967296)
def vAt (K w : Nat → Int) (h : Nat → Int) : Nat → (Nat → Int)
  | 0 => h
  | i + 1 => vStep (K i) (w i) (vAt K w h i)
def shaBlock (h b : Nat → Int) : Nat → Int := addAt h (vAt kAt (sched b 48) h 64) 8
theorem list_bd (M : Int) (hM : 0 < M) : ∀ (l : List Int), (∀ x ∈ l, 0 ≤ x ∧ x < M) → ∀ j, 0 ≤ l.getD j 0 ∧ l.getD j 0 < M := by
  intro l hl j
  rw [List.getD_eq_getElem?_getD]
  cases h : l[j]? with
  | none => simp; exact hM
  | some x => simpa using hl x (List.mem_of_getElem? h)
theorem kAt_bd (i : Nat) : 0 ≤ kAt i ∧ kAt i < 4294967296 :=
  list_bd _ (by decide) kList (by decide) i
theorem hAt_bd (i : Nat) : 0 ≤ hAt i ∧ hAt i < 4294967296 :=
  list_bd _ (by decide) hList (by decide) i
theorem vAt_bd (K w : Nat → Int) (h : Nat → Int) (hh : ∀ i, 0 ≤ h i ∧ h i < 4294967296) (k : Nat) : ∀ j, 0 ≤ vAt K w h k j ∧ vAt K w h k j < 4294967296 := by
  induction k with
  | zero => exact hh
  | succ k ih =>
    refine fun j => list_bd _ (by decide) _ ?_ j
    intro x hx
    simp only [List.mem_cons, List.not_mem_nil, or_false] at hx
    rcases hx with rfl | rfl | rfl | rfl | rfl | rfl | rfl | rfl
    · omega
    · exact ih 0
    · exact ih 1
    · exact ih 2
    · omega
    · exact ih 4
    · exact ih 5
    · exact ih 6
theorem addAt_bd (h v : Nat → Int) (hh : ∀ i, 0 ≤ h i ∧ h i < 4294967296) (k : Nat) : ∀ j, 0 ≤ addAt h v k j ∧ addAt h v k j < 4294967296 := by
  induction k with
  | zero => exact hh
  | succ k ih => intro j; exact upd_bd _ _ _ _ ih (by omega) j
theorem shaBlock_bd (h b : Nat → Int) (hh : ∀ i, 0 ≤ h i ∧ h i < 4294967296) : ∀ j, 0 ≤ shaBlock h b j ∧ shaBlock h b j < 4294967296 := addAt_bd _ _ hh 8
set_option maxRecDepth 100000 in
set_option maxHeartbeats 4000000 in
theorem block_any (g0 b : Nat → Int) (w : World) (hbd : ∀ i, 0 ≤ b i ∧ b i < 256) (hh : ∀ i, 0 ≤ g0 i ∧ g0 i < 4294967296) :
    Calls Tryd.prog 11 #[.agg (arrOf .u32 8 g0), .agg (arrOf .u8 64 b)] w fun e w' => e = .returned (.agg (arrOf .u32 8 (shaBlock g0 b))) ∧ Below w.heap.size w w' := by
  go_enter Tryd.func11, Tryd.ntmps11
  go_wp2_with (first | (with_reducible refine wpList_alloc_sym rfl 24 rfl _ zeroH ?_) | (with_reducible refine wpList_alloc_sym rfl 49 rfl _ zeroW ?_))
  refine (rounds_any _).mono ?_
  rintro e w1 ⟨rfl, hb1⟩
  have hs1 := hb1.size
  simp only [World.size_alloc] at hs1
  go_wp2_with (first | (with_reducible refine wpList_alloc_sym rfl 24 rfl _ zeroH ?_) | (with_reducible refine wpList_alloc_sym rfl 49 rfl _ zeroW ?_) |  ((with_reducible refine wpList_store_arr rfl 49 (.tmp 5) (.tmp 20) rfl rfl w1.heap.size .u32 64 kAt 49 _ sizeW ?_ ?_ (Blk.new _ _ _) (arr_size _ _ _) ?_); exact rfl; exact rfl))
  have hH0 : Blk w1 w.heap.size 24 (arrOf .u32 8 g0) := (((Blk.new w 24 (arrOf .u32 8 g0)).alloc _).alloc _).below hb1 (by simp; omega)
  have hB0 : Blk w1 (w.heap.size + 1) 26 (arrOf .u8 64 b) := by
    have := ((Blk.new (w.alloc (.cells (arrOf .u32 8 g0) 24)) 26 (arrOf .u8 64 b)).alloc (.cells (arrOf .u32 8 fun _ => 0) 24)).below hb1 (by simp)
    simpa using this
  have hR0 : Blk w1 (w.heap.size + 2) 24 (arrOf .u32 8 fun _ => 0) := by
    have := (Blk.new ((w.alloc (.cells (arrOf .u32 8 g0) 24)).alloc (.cells (arrOf .u8 64 b) 26)) 24 (arrOf .u32 8 fun _ => 0)).below hb1 (by simp)
    simpa using this
  have hbw : Below w.heap.size w w1 := ((((Below.refl _ w).alloc (by simp) _).alloc (by simp) _).alloc (by simp; omega) _).trans (hb1.mono (by simp; omega))
  clear hb1
  have hk0 := (Blk.new w1 49 (arrOf .u32 64 fun _ => 0)).row (arrOf .u32 64 kAt)
  generalize hw2 : (w1.alloc (.cells (arrOf .u32 64 fun _ => 0) 49)).setRow w1.heap.size (arrOf .u32 64 kAt) = w2 at hk0 ⊢
  have hs2 : w2.heap.size = w1.heap.size + 1 := by rw [← hw2]; simp
  have hH1 : Blk w2 w.heap.size 24 (arrOf .u32 8 g0) := by rw [← hw2]; exact (hH0.alloc _).row_other (by omega) _
  have hB1 : Blk w2 (w.heap.size + 1) 26 (arrOf .u8 64 b) := by rw [← hw2]; exact (hB0.alloc _).row_other (by omega) _
  have hR1 : Blk w2 (w.heap.size + 2) 24 (arrOf .u32 8 fun _ => 0) := by rw [← hw2]; exact (hR0.alloc _).row_other (by omega) _
  have hbw2 : Below w.heap.size w w2 := by rw [← hw2]; exact setRow_below (hbw.alloc (by omega) _) (by omega) _
  clear hw2 hH0 hB0 hR0 hbw
  generalize w1.heap.size = N at *
  clear w1
  go_loopw [21] (fun i wr => ∃ k : Nat, k ≤ 16 ∧ i = .int .i64 k ∧ Blk wr (N + 1) 49 (arrOf .u32 64 (w16 b k)) ∧ Blk wr N 49 (arrOf .u32 64 kAt) ∧ Blk wr w.heap.size 24 (arrOf .u32 8 g0) ∧ Blk wr (w.heap.size + 1) 26 (arrOf .u8 64 b) ∧ Blk wr (w.heap.size + 2) 24 (arrOf .u32 8 fun _ => 0) ∧ Below w.heap.size w wr) (fun i _ => 16 - (intOf i).toNat)
  case atStart =>
    refine ⟨0, by omega, rfl, ?_, hk0.alloc _, hH1.alloc _, hB1.alloc _, hR1.alloc _, hbw2.alloc (by omega) _⟩
    have := Blk.new w2 49 (arrOf .u32 64 fun _ => 0)
    rw [hs2] at this
    exact this
  case round =>
    obtain ⟨k, hk, rfl, hW, hK, hH, hB, hR, hbel⟩ := hrel
    clear hk0 hH1 hB1 hR1 hbw2
    by_cases hlt : k < 16
    · have c0 := hB.cell (j := 4 * k) (by omega)
      have c1 := hB.cell (j := 4 * k + 1) (by omega)
      have c2 := hB.cell (j := 4 * k + 2) (by omega)
      have c3 := hB.cell (j := 4 * k + 3) (by omega)
      have cw := hW.cell (j := k) (by omega)
      have fw := hW.free k
      have b0 := hbd (4 * k)
      have b1 := hbd (4 * k + 1)
      have b2 := hbd (4 * k + 2)
      have b3 := hbd (4 * k + 3)
      clear hbd
      go_wp2
      refine wp_region_quiet_tail 31 (by kernel_rfl) (by kernel_rfl) ?_
      simp only [List.take_succ_cons, List.take_zero, List.drop_succ_cons, List.drop_zero]
      repeat (go_big_quiet_step (fail))
      refine wpQuiet_nil ?_
      go_wp2
      go_roundw
      case rel =>
        exact ⟨k + 1, by omega, by go_num, hW.set k _, hK.set_other (by show N ≠ N + 1; omega) _, hH.set_other (by show _ ≠ N + 1; omega) _, hB.set_other (by show _ ≠ N + 1; omega) _, hR.set_other (by show _ ≠ N + 1; omega) _, (hbel.setCell (p := ⟨N + 1, k, none⟩) (by show _ ≤ N + 1; omega) _).drew⟩
      case measure => simp [intOf]; omega
    · have hk16 : k = 16 := by omega
      rw [hk16] at hW
      clear hk16
      go_wp2
      go_loopw [56] (fun i wr => ∃ k : Nat, k ≤ 48 ∧ i = .int .i64 k ∧ Blk wr (N + 1) 49 (arrOf .u32 64 (sched b k)) ∧ Blk wr N 49 (arrOf .u32 64 kAt) ∧ Blk wr w.heap.size 24 (arrOf .u32 8 g0) ∧ Blk wr (w.heap.size + 2) 24 (arrOf .u32 8 fun _ => 0) ∧ Below w.heap.size w wr) (fun i _ => 48 - (intOf i).toNat)
      case atStart => exact ⟨0, by omega, rfl, hW, hK, hH, hR, hbel⟩
      case round =>
        clear hW hK hH hB hR hbel
        obtain ⟨j, hj, rfl, hW, hK, hH, hR, hbel⟩ := hrel
        by_cases hlt : j < 48
        · have c0 := hW.cell (j := j) (by omega)
          have c1 := hW.cell (j := j + 1) (by omega)
          have c9 := hW.cell (j := j + 9) (by omega)
          have c14 := hW.cell (j := j + 14) (by omega)
          have c16 := hW.cell (j := j + 16) (by omega)
          have f16 := hW.free (j + 16)
          have b0 := sched_bd b j j
          have b1 := sched_bd b j (j + 1)
          have b9 := sched_bd b j (j + 9)
          have b14 := sched_bd b j (j + 14)
          clear hbd
          go_wp2_with fail
          refine wp_region_quiet_one (by kernel_rfl) (by kernel_rfl) ?_
          repeat (go_big_quiet_step (fail))
          refine wpQuiet_nil ?_
          go_wp2_with (go_at_call 23; refine (turn_any _ _ _ (by omega) (by omega) (by omega)).mono ?_; rintro e w' ⟨rfl, n', rfl⟩)
          refine wp_region_quiet_tail 15 (by kernel_rfl) (by kernel_rfl) ?_
          simp only [List.take_succ_cons, List.take_zero, List.drop_succ_cons, List.drop_zero]
          repeat (go_big_quiet_step (fail))
          refine wpQuiet_nil ?_
          go_wp2
          go_roundw
          case rel =>
            exact ⟨j + 1, by omega, by go_num, Blk.set (w := wr.drewN _) hW (j + 16) _, Blk.set_other (w := wr.drewN _) hK (by show N ≠ N + 1; omega) _, Blk.set_other (w := wr.drewN _) hH (by show _ ≠ N + 1; omega) _, Blk.set_other (w := wr.drewN _) hR (by show _ ≠ N + 1; omega) _, (drewN_below hbel _).setCell (p := ⟨N + 1, j + 16, none⟩) (by show _ ≤ N + 1; omega) _⟩
          case measure => simp [intOf]; omega
        · have hj48 : j = 48 := by omega
          rw [hj48] at hW
          clear hj48
          go_wp2_with (first | ((with_reducible refine wpList_load_arr rfl 24 (.tmp 2) rfl w.heap.size .u32 8 g0 24 23 underH sizeH ?_ hH ?_); exact rfl) | (with_reducible refine wpList_alloc_sym rfl 24 rfl _ zeroH ?_) |  ((with_reducible refine wpList_store_arr rfl 24 (.tmp 13) (.tmp 99) rfl rfl wr.heap.size .u32 8 g0 24 _ sizeH ?_ ?_ (Blk.new _ _ _) (arr_size _ _ _) ?_); exact rfl; exact rfl))
          have hlN := hW.lt
          have hV3 := (Blk.new wr 24 (arrOf .u32 8 fun _ => 0)).row (arrOf .u32 8 g0)
          have hW3 : Blk ((wr.alloc (.cells (arrOf .u32 8 fun _ => 0) 24)).setRow wr.heap.size (arrOf .u32 8 g0)) (N + 1) 49 (arrOf .u32 64 (sched b 48)) := (hW.alloc _).row_other (by omega) _
          have hK3 : Blk ((wr.alloc (.cells (arrOf .u32 8 fun _ => 0) 24)).setRow wr.heap.size (arrOf .u32 8 g0)) N 49 (arrOf .u32 64 kAt) := (hK.alloc _).row_other (by omega) _
          have hH3 : Blk ((wr.alloc (.cells (arrOf .u32 8 fun _ => 0) 24)).setRow wr.heap.size (arrOf .u32 8 g0)) w.heap.size 24 (arrOf .u32 8 g0) := (hH.alloc _).row_other (by omega) _
          have hR3 : Blk ((wr.alloc (.cells (arrOf .u32 8 fun _ => 0) 24)).setRow wr.heap.size (arrOf .u32 8 g0)) (w.heap.size + 2) 24 (arrOf .u32 8 fun _ => 0) := (hR.alloc _).row_other (by omega) _
          have hbel3 : Below w.heap.size w ((wr.alloc (.cells (arrOf .u32 8 fun _ => 0) 24)).setRow wr.heap.size (arrOf .u32 8 g0)) := setRow_below (hbel.alloc (by omega) _) (by omega) _
          generalize (wr.alloc (.cells (arrOf .u32 8 fun _ => 0) 24)).setRow wr.heap.size (arrOf .u32 8 g0) = w3 at *
          generalize wr.heap.size = V at *
          clear hW hK hH hR hbel
          go_loopw [100] (fun i wr => ∃ k : Nat, k ≤ 64 ∧ i = .int .i64 k ∧ Blk wr V 24 (arrOf .u32 8 (vAt kAt (sched b 48) g0 k)) ∧ Blk wr (N + 1) 49 (arrOf .u32 64 (sched b 48)) ∧ Blk wr N 49 (arrOf .u32 64 kAt) ∧ Blk wr w.heap.size 24 (arrOf .u32 8 g0) ∧ Blk wr (w.heap.size + 2) 24 (arrOf .u32 8 fun _ => 0) ∧ Below w.heap.size w wr) (fun i _ => 64 - (intOf i).toNat)
          case atStart => exact ⟨0, by omega, rfl, hV3, hW3, hK3, hH3, hR3, hbel3⟩
          case round =>
            clear hV3 hW3 hK3 hH3 hR3 hbel3
            obtain ⟨i, hi, rfl, hV, hW, hK, hH, hR, hbel⟩ := hrel
            by_cases hlt : i < 64
            · have v0 := hV.cell (j := 0) (by omega)
              have v1 := hV.cell (j := 1) (by omega)
              have v2 := hV.cell (j := 2) (by omega)
              have v3 := hV.cell (j := 3) (by omega)
              have v4 := hV.cell (j := 4) (by omega)
              have v5 := hV.cell (j := 5) (by omega)
              have v6 := hV.cell (j := 6) (by omega)
              have v7 := hV.cell (j := 7) (by omega)
              have ck := hK.cell (j := i) (by omega)
              have cw := hW.cell (j := i) (by omega)
              have hvb := fun j => vAt_bd kAt (sched b 48) g0 hh i j
              have b0 := hvb 0
              have b1 := hvb 1
              have b2 := hvb 2
              have b3 := hvb 3
              have b4 := hvb 4
              have b5 := hvb 5
              have b6 := hvb 6
              have b7 := hvb 7
              have bk := kAt_bd i
              have bw := sched_bd b 48 i
              generalize hf : vAt kAt (sched b 48) g0 i = f at *
              have HF : Hid (vAt kAt (sched b 48) g0 i = f) := hf
              clear hf
              clear hvb hbd hh
              go_wp2_with fail
              refine wp_region_quiet_one (by kernel_rfl) (by kernel_rfl) ?_
              repeat (go_big_quiet_step (fail))
              refine wpQuiet_nil ?_
              go_wp2_with fail
              go_quiet ((go_at_call 23; exact quiet_at (turn_any _ _ _ (by omega) (by omega) (by omega))))
              go_wp2_with fail
              go_quiet ((go_at_call 23; exact quiet_at (turn_any _ _ _ (by omega) (by omega) (by omega))))
              go_wp2_with (first | ((with_reducible refine wpList_build_sym rfl 24 _ rfl (arrOf .u32 8 (vStep (kAt i) (sched b 48 i) f)) ?_ ?_); kernel_rfl) | ((with_reducible refine wpList_store_arr rfl 24 (.tmp 13) (.tmp 180) rfl rfl V .u32 8 (vStep (kAt i) (sched b 48 i) f) 24 (arrOf .u32 8 f) sizeH ?_ ?_ ?_ (arr_size _ _ _) ?_); exact rfl; exact rfl; exact hV))
              go_roundw
              case rel =>
                refine ⟨i + 1, by omega, by go_num, ?_, Blk.row_other (w := wr.drewN _) hW (by omega) _, Blk.row_other (w := wr.drewN _) hK (by omega) _, Blk.row_other (w := wr.drewN _) hH (by omega) _, Blk.row_other (w := wr.drewN _) hR (by omega) _, setRow_below (drewN_below hbel _) (by omega) _⟩
                show Blk _ V 24 (arrOf .u32 8 (vStep (kAt i) (sched b 48 i) (vAt kAt (sched b 48) g0 i)))
                rw [HF.out]
                exact Blk.row (w := wr.drewN _) hV _
              case measure => simp [intOf]; omega
            · have hi64 : i = 64 := by omega
              rw [hi64] at hV
              clear hi64
              go_wp2_with fail
              go_loopw [182] (fun i wr => ∃ k : Nat, k ≤ 8 ∧ i = .int .i64 k ∧ Blk wr w.heap.size 24 (arrOf .u32 8 (addAt g0 (vAt kAt (sched b 48) g0 64) k)) ∧ Blk wr V 24 (arrOf .u32 8 (vAt kAt (sched b 48) g0 64)) ∧ Blk wr (w.heap.size + 2) 24 (arrOf .u32 8 fun _ => 0) ∧ Below w.heap.size w wr) (fun i _ => 8 - (intOf i).toNat)
              case atStart => exact ⟨0, by omega, rfl, hH, hV, hR, hbel⟩
              case round =>
                clear hW hK hH hR hbel hV
                obtain ⟨n, hn, rfl, hH, hV, hR, hbel⟩ := hrel
                by_cases hlt : n < 8
                · have c0 := hH.cell (j := n) (by omega)
                  have f0 := hH.free n
                  have c1 := hV.cell (j := n) (by omega)
                  clear hbd hh
                  go_wp2_with fail
                  refine wp_region_quiet_tail 8 (by kernel_rfl) (by kernel_rfl) ?_
                  simp only [List.take_succ_cons, List.take_zero, List.drop_succ_cons, List.drop_zero]
                  repeat (go_big_quiet_step (fail))
                  refine wpQuiet_nil ?_
                  go_wp2
                  go_roundw
                  case rel => exact ⟨n + 1, by omega, by go_num, hH.set n _, hV.set_other (by show V ≠ w.heap.size; omega) _, hR.set_other (by show _ ≠ w.heap.size; omega) _, (hbel.setCell (p := ⟨w.heap.size, n, none⟩) (by show _ ≤ w.heap.size; omega) _).drew⟩
                  case measure => simp [intOf]; omega
                · have hn8 : n = 8 := by omega
                  rw [hn8] at hH
                  clear hn8
                  go_wp2_with (first | ((with_reducible refine wpList_load_arr rfl 24 (.tmp 2) rfl w.heap.size .u32 8 (addAt g0 (vAt kAt (sched b 48) g0 64) 8) 24 23 underH sizeH ?_ hH ?_); exact rfl) | ((with_reducible refine wpList_store_arr rfl 24 (.tmp 4) (.tmp 194) rfl rfl (w.heap.size + 1 + 1) .u32 8 (addAt g0 (vAt kAt (sched b 48) g0 64) 8) 24 (arrOf .u32 8 fun _ => 0) sizeH ?_ ?_ hR (arr_size _ _ _) ?_); exact rfl; exact rfl))
                  exact bodyPost_ret (results_arr rfl _ _ (w.heap.size + 1 + 1) 24 .u32 8 (addAt g0 (vAt kAt (sched b 48) g0 64) 8) 23 underH sizeH rfl (hR.row _)) rfl ⟨rfl, setRow_below hbel (by omega) _⟩
end Go.Proofs.YtlfhijdonejacaaDoor
