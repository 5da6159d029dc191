/-
  Hash.Sum by its contract: the digest of the bytes written so far.
-/
import Derived.Test.YtlfhijdonejacaaDoorSha5
import Derived.Test.YtlfhijdonejacaaDoorShelf
import Derived.Test.YtlfhijdonejacaaDoorKit2
namespace Go.Proofs.YtlfhijdonejacaaDoor
open Go.RowKit
theorem zero47 : (Tryd.prog.info? 39).bind (·.zero) = some (.agg (arrOf .u8 8 fun _ => 0)) := by kernel_rfl
theorem size47 : (Tryd.prog.info? 39).map (·.size) = some 8 := by kernel_rfl
theorem byteRow : ElemRow Tryd.prog 36 5 (.int .u8 0) 1 1 := ⟨by kernel_rfl, by kernel_rfl, rfl, by decide⟩
theorem hash_open (L : List UInt8) (v : Value) (h : HashOf L v) : ∃ c, v = .agg (rowOf 74 c) ∧ c 9 = .int .u64 L.length ∧ ∀ j, (c j).oneCell' = true := by
  rcases h with ⟨tl, _, rfl⟩ | ⟨rfl, rfl⟩
  · exact ⟨_, rfl, rfl, hcell_one _ _ _ _⟩
  · exact ⟨_, rfl, rfl, hcell_one _ _ _ _⟩
theorem hash_words (M : List UInt8) (c : Nat → Value) (hM : M ≠ []) (h : HashOf M (.agg (rowOf 74 c))) : (rowOf 8 fun j => c (1 + j)) = arrOf .u32 8 (wordsN M (M.length / 64)) := by
  rcases h with ⟨tl, _, h⟩ | ⟨h0, _⟩
  · have h1 : rowOf 74 c = rowOf 74 (hcell true (wordsN M (M.length / 64)) M.length tl) := Value.agg.inj h
    rw [← hcell_get_words true (wordsN M (M.length / 64)) M.length tl]
    refine row_congr _ _ _ fun j hj => ?_
    have e1 := row_get 74 c (1 + j) (by omega)
    rw [h1, row_get _ _ _ (by omega)] at e1
    exact (Option.some.inj e1).symm
  · exact absurd h0 hM
theorem div_pow_bd (x : Int) (h0 : 0 ≤ x) (j : Nat) : 0 ≤ x / 2 ^ j ∧ x / 2 ^ j ≤ x := by
  have hp : (0 : Int) < 2 ^ j := Int.pow_pos (by decide)
  exact ⟨Int.ediv_nonneg h0 (by omega), Int.ediv_le_self _ h0⟩
theorem nib_bits (x : Int) (h0 : 0 ≤ x) (h1 : x < 4294967296) (m : Nat) : bits .and .u32 (x / 2 ^ (28 - 4 * m)) 15 = (nibble x m : Int) := by
  have h := div_pow_bd x h0 (28 - 4 * m)
  rw [u32_and _ _ h.1 (by omega) (by decide) (by decide)]
  unfold nibble
  have e : (15 : Int).toNat = 2 ^ 4 - 1 := rfl
  rw [e, Nat.and_two_pow_sub_one_eq_mod]
theorem hexWord_take (x : Int) (m : Nat) (hm : m < 8) : (hexWord x).take (m + 1) = (hexWord x).take m ++ [hexDigits.getD (nibble x m) 0] := by
  rw [List.take_add_one]
  congr 1
  unfold hexWord
  simp [hm]
set_option maxRecDepth 100000 in
set_option maxHeartbeats 4000000 in
theorem hsum_any (L : List UInt8) (v : Value) (w : World) (hL : L.length < 288230376151711744) (hv : HashOf L v) :
    Calls Tryd.prog 6 #[v] w fun e w' => e = .returned (.string ⟨(sha L).toArray⟩) ∧ Below w.heap.size w w' := by
  obtain ⟨c, rfl, hc9, hc1⟩ := hash_open L v hv
  go_enter Tryd.func6, Tryd.ntmps6
  have hB0 := Blk.new w 28 (rowOf 74 c)
  have c9 := hB0.get (j := 9) (by omega)
  rw [hc9] at c9
  go_wp2_with fail
  have hz : (119 - (L.length : Int) % 64) % 64 = ((zerosOf L.length : Nat) : Int) := by unfold zerosOf; omega
  rw [hz]
  refine wp_region_class_tail (fun w' => Blk w' w.heap.size 28 (rowOf 74 c) ∧ Below w.heap.size w w') 4 (by kernel_rfl) (by kernel_rfl) ⟨hB0, (below_alloc _).drew⟩ ?_
  simp only [List.take_succ_cons, List.take_zero, List.drop_succ_cons, List.drop_zero]
  refine quiet_load_seg rfl 28 (.tmp 1) rfl w.heap.size 0 74 74 c 28 _ Tryd.underlying28 rfl size33 (by omega) rfl (fun w h => h.1) ?_
  simp only [Act.put, List.setIfInBounds_toArray, List.set_cons_succ, List.set_cons_zero, Nat.zero_add]
  go_big_quiet_step (fail)
  refine quiet_call rfl _ rfl 12 rfl (fun _ _ => by kernel_rfl) #[.string ⟨#[0]⟩, .int .i64 (zerosOf L.length)] rfl (.string ⟨(Lib.repeatL (⟨#[0]⟩ : ByteArray).data.toList (zerosOf L.length)).toArray⟩) (fun w' h => ?_) ?_
  · refine (Tryd.strings_Repeat ⟨#[0]⟩ (zerosOf L.length) w' (by unfold zerosOf; omega) (by unfold zerosOf; show 1 * _ ≤ _; omega)).mono ?_
    rintro e w2 ⟨rfl, hb2⟩
    have := h.1.lt
    exact ⟨rfl, h.1.below hb2 this, h.2.trans (hb2.mono (by omega))⟩
  simp only [Act.put, List.setIfInBounds_toArray, List.set_cons_succ, List.set_cons_zero]
  refine quiet_str_add rfl 9 9 _ _ rfl ⟨#[128]⟩ _ rfl rfl (by show 1 + (Array.size (List.toArray _)) ≤ _; rw [List.size_toArray, Lib.repeatL_length]; unfold zerosOf; show 1 + _ * 1 ≤ _; omega) ?_
  simp only [Act.put, List.setIfInBounds_toArray, List.set_cons_succ, List.set_cons_zero]
  refine wpQuiet_nil ?_
  rintro w1 ⟨hB1, hb1⟩
  go_wp2_with fail
  refine (write_any L (.agg (rowOf 74 c)) (padMid L) w1 (by rw [padMid_size]; unfold zerosOf; omega) hv).mono ?_
  rintro e w2 ⟨v2, rfl, hv2, hb2⟩
  obtain ⟨c2, rfl, hc29, hc21⟩ := hash_open _ _ hv2
  have hB2 : Blk w2 w.heap.size 28 (rowOf 74 c) := hB1.below hb2 hB1.lt
  have hb2w : Below w.heap.size w w2 := hb1.trans (hb2.mono (by have := hb1.size; omega))
  clear hc9 hc1 hc29 c9 hB0 hb2 hB1 hb1
  go_wp2_with (first
    | ((with_reducible refine wpList_store_all rfl 28 (.tmp 1) (.tmp 24) rfl rfl w.heap.size 74 c c2 28 size33 (fun j _ => hc21 j) ?_ ?_ ?_ ?_); exact rfl; exact rfl; exact hB2)
    | (with_reducible refine wpList_alloc_sym rfl 39 rfl _ zero47 ?_))
  have hB3 : Blk ((w2.setRow w.heap.size (rowOf 74 c2)).alloc (.cells (arrOf .u8 8 fun _ => 0) 39)) w.heap.size 28 (rowOf 74 c2) := (hB2.row _).alloc _
  have hN3 := Blk.new (w2.setRow w.heap.size (rowOf 74 c2)) 39 (arrOf .u8 8 fun _ => 0)
  have hb3 : Below w.heap.size w ((w2.setRow w.heap.size (rowOf 74 c2)).alloc (.cells (arrOf .u8 8 fun _ => 0) 39)) := (setRow_below hb2w (Nat.le_refl _) _).alloc (by have := hb2w.size; simpa using this) _
  simp only [setRow_size] at hN3
  have hlt := hB2.lt
  generalize (w2.setRow w.heap.size (rowOf 74 c2)).alloc (.cells (arrOf .u8 8 fun _ => 0) 39) = w3 at hB3 hN3 hb3 ⊢
  clear hB2 hb2w
  try simp only [setRow_size]
  generalize w2.heap.size = N at *
  clear w2
  go_loopw [25] (fun i wr => ∃ k : Nat, k ≤ 8 ∧ i = .int .i64 k ∧ Blk wr N 39 (arrOf .u8 8 (lenAt (8 * L.length) k)) ∧ Blk wr w.heap.size 28 (rowOf 74 c2) ∧ Below w.heap.size w wr) (fun i _ => 8 - (intOf i).toNat)
  case atStart => exact ⟨0, by omega, rfl, hN3, hB3, hb3⟩
  case round =>
    clear hN3 hB3 hb3
    obtain ⟨k, hk, rfl, hN, hB, hb⟩ := hrel
    by_cases hlt8 : k < 8
    · have cn := hN.cell (j := k) (by omega)
      have fn := hN.free k
      go_wp2_with fail
      go_roundw
      case rel =>
        refine ⟨k + 1, by omega, by go_num, ?_, hB.set_other (a := ⟨N, k, none⟩) (by show w.heap.size ≠ N; omega) _, hb.setCell (p := ⟨N, k, none⟩) (by show w.heap.size ≤ N; omega) _⟩
        have h2 := hN.set k (byteAt (be64 (8 * L.length)) k)
        rw [lenAt_step, ← be64_val _ _ hlt8] at h2
        exact h2
      case measure => simp [intOf]; omega
    · have hk8 : k = 8 := by omega
      rw [hk8] at hN
      clear hk8
      go_wp2_with fail
      refine wp_region_class_tail (fun w' => Blk w' w.heap.size 28 (rowOf 74 c2) ∧ Blk w' N 39 (arrOf .u8 8 (lenAt (8 * L.length) 8)) ∧ Below w.heap.size w w') 3 (by kernel_rfl) (by kernel_rfl) ⟨hB, hN, hb.drew⟩ ?_
      simp only [List.take_succ_cons, List.take_zero, List.drop_succ_cons, List.drop_zero]
      refine quiet_load_seg rfl 28 (.tmp 1) rfl w.heap.size 0 74 74 c2 28 _ Tryd.underlying28 rfl size33 (by omega) rfl (fun w h => h.1) ?_
      simp only [Act.put, List.setIfInBounds_toArray, List.set_cons_succ, List.set_cons_zero, Nat.zero_add]
      refine quiet_slice_all rfl 39 _ rfl 8 5 (by kernel_rfl) (by kernel_rfl) N 0 rfl ?_
      simp only [Act.put, List.setIfInBounds_toArray, List.set_cons_succ, List.set_cons_zero]
      refine quiet_cells_string rfl 36 9 _ rfl 5 under26 (by kernel_rfl) (by kernel_rfl) N 0 8 (be64 (8 * L.length)) rfl (fun w' h j hj => ?_) ?_
      · have := h.2.1.cell (j := j) hj
        rw [Nat.zero_add, this]
        unfold lenAt
        rw [if_pos (show j < 8 from hj)]
      simp only [Act.put, List.setIfInBounds_toArray, List.set_cons_succ, List.set_cons_zero]
      refine wpQuiet_nil ?_
      rintro w1 ⟨hB1, hN1, hb1⟩
      go_wp2_with fail
      refine (write_any (L ++ (padMid L).data.toList) (.agg (rowOf 74 c2)) ⟨(be64 (8 * L.length)).toArray⟩ w1 (by rw [List.length_append, size_toList, padMid_size]; show _ + (List.toArray _).size < _; rw [List.size_toArray, be64_length]; unfold zerosOf; omega) hv2).mono ?_
      rintro e w2 ⟨v3, rfl, hv3, hb2⟩
      rw [padded_eq] at hv3
      have hB2 : Blk w2 w.heap.size 28 (rowOf 74 c2) := hB1.below hb2 hB1.lt
      have hb2w : Below w.heap.size w w2 := hb1.trans (hb2.mono (by have := hb1.size; omega))
      clear hb2 hB1 hb1 hB hN hN1 hb
      obtain ⟨c3, rfl, _, hc31⟩ := hash_open _ _ hv3
      have hw := hash_words _ c3 (by intro h0; have := padded_length L; rw [h0] at this; simp at this; omega) hv3
      clear hv3 hv2 hv
      have hG : w.heap.size ≤ w2.heap.size := by have := hB2.lt; omega
      have hb3 := setRow_below hb2w (Nat.le_refl _) (rowOf 74 c3)
      have hz3 : (w2.setRow w.heap.size (rowOf 74 c3)).heap.size = w2.heap.size := setRow_size _ _ _
      go_wp2_with (first
        | ((with_reducible refine wpList_store_all rfl 28 (.tmp 1) (.tmp 40) rfl rfl w.heap.size 74 c2 c3 28 size33 (fun j _ => hc31 j) ?_ ?_ ?_ ?_); exact rfl; exact rfl; exact hB2)
        | ((with_reducible refine wpList_make_bytes rfl _ _ 36 rfl 5 byteRow w2.heap.size .i64 .i64 64 64 ?_ ?_ ?_ (by omega) ?_ ?_); exact rfl; exact rfl; exact rfl; exact Nat.le_of_eq hz3.symm; rw [hz3]))
      intro w4 hown hgrow hbel
      have hb4 := hb3.trans (hbel.mono hG)
      have hsz4 : w2.heap.size ≤ w4.heap.size := by have := hbel.size; omega
      have hB4 : Blk w4 w.heap.size 28 (rowOf 74 c3) := (hB2.row _).below hbel hB2.lt
      clear hgrow hbel hb3 hB2 hb2w hz3
      generalize w2.heap.size = G at *
      clear w2
      have hwb := wordsN_bd (padded L) ((padded L).length / 64)
      generalize hwd : wordsN (padded L) ((padded L).length / 64) = wd at *
      go_wp2_with ((with_reducible refine wpList_load_seg rfl 24 (.tmp 42) rfl w.heap.size 1 74 8 c3 28 _ underH rfl sizeH (by omega) ?_ ?_ ?_); exact rfl; exact hB4; rw [hw])
      go_loopw [44, 7] (fun i v wr => ∃ k : Nat, k ≤ 8 ∧ i = .int .i64 k ∧ OwnB wr G 5 v (hexOf wd k) ∧ G ≤ wr.heap.size ∧ Below w.heap.size w wr) (fun i _ _ => 8 - (intOf i).toNat)
      case atStart => exact ⟨0, by omega, rfl, hown, hsz4, hb4⟩
      case round =>
        clear hown hsz4 hb4
        obtain ⟨k, hk, rfl, hown, hsz, hb⟩ := hrel
        by_cases hlt8 : k < 8
        · obtain ⟨wo, rfl⟩ : ∃ wo : World, wo = wr := ⟨_, rfl⟩
          go_wp2_with ((with_reducible refine wpList_index_arr rfl 24 _ _ rfl .u32 8 wd 23 underH (by kernel_rfl) (by kernel_rfl) .i64 k ?_ ?_ hlt8 ?_); exact rfl; exact rfl)
          go_loopw [47, 7] (fun i v wr => ∃ m : Nat, m ≤ 8 ∧ i = .int .i64 m ∧ OwnB wr G 5 v (hexOf wd k ++ (hexWord (wd k)).take m) ∧ G ≤ wr.heap.size ∧ Below w.heap.size w wr) (fun i _ _ => 8 - (intOf i).toNat)
          case atStart => exact ⟨0, by omega, rfl, by rw [List.take_zero, List.append_nil]; exact hown, hsz, hb⟩
          case round =>
            clear hown hsz hb
            obtain ⟨m, hm, rfl, hown, hsz, hb⟩ := hrel
            by_cases hm8 : m < 8
            · have hw0 := hwb k
              have hnb := nib_bits (wd k) hw0.1 hw0.2 m
              have hnl : nibble (wd k) m < 16 := Nat.mod_lt _ (by decide)
              go_wp2_with (first
                | ((with_reducible refine wpList_index_str rfl 9 _ _ rfl (by kernel_rfl) ⟨#[48, 49, 50, 51, 52, 53, 54, 55, 56, 57, 97, 98, 99, 100, 101, 102]⟩ .u32 (nibble (wd k) m) ?_ ?_ ?_ ?_ ?_); exact rfl; (first | exact rfl | exact congrArg (Value.int .u32) hnb); omega; (show (nibble (wd k) m : Int) < 16); omega)
                | ((with_reducible refine wpList_push_byte rfl _ _ 36 rfl 5 byteRow G _ _ wr.heap.size 1 (hexDigits.getD (nibble (wd k) m) 0) ?_ ?_ (OwnB.alloc hown _) ?_ ?_ ?_ ?_); exact rfl; exact rfl; exact cell_one _ _ _; (simp only [List.length_append, hexOf_length, List.length_take, hexWord_length]; omega); (simp only [World.size_alloc]; omega)))
              intro v5 w5 hown5 hgr5 hb5
              have hb6 : Below w.heap.size w w5 := hb.trans (((below_alloc _).mono (by omega)).trans (hb5.mono hG))
              have hsz6 : G ≤ w5.heap.size := by have := hb5.size; simp only [World.size_alloc] at this; omega
              go_wp2_with fail
              go_roundw
              case rel =>
                refine ⟨m + 1, by omega, by go_num, ?_, hsz6, hb6⟩
                rw [hexWord_take _ _ hm8, List.getD_eq_getElem?_getD]
                exact hown5
              case measure => simp [intOf]; omega
            · have hm88 : m = 8 := by omega
              rw [hm88] at hown
              clear hm88
              go_wp2_with fail
              go_roundw
              case rel =>
                refine ⟨k + 1, by omega, by go_num, ?_, hsz, hb⟩
                rw [hexOf_succ]
                rw [List.take_of_length_le (by rw [hexWord_length]; exact Nat.le_refl _)] at hown
                exact hown
              case measure => simp [intOf]; omega
        · have hk8 : k = 8 := by omega
          rw [hk8] at hown
          clear hk8
          go_wp2_with ((with_reducible refine wpList_own_string rfl 36 9 _ rfl 5 under26 (by kernel_rfl) (by kernel_rfl) G _ _ ?_ hown ?_); exact rfl)
          go_ret
          exact ⟨by rw [show sha L = hexOf wd 8 by rw [← hwd]; rfl]; rfl, hb⟩
end Go.Proofs.YtlfhijdonejacaaDoor
