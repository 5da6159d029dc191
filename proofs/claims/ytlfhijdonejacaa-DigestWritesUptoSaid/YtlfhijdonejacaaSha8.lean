/-
  The reference's Sum.
-/
import Derived.Test.YtlfhijdonejacaaSha4
import Derived.Test.YtlfhijdonejacaaSha6
import Derived.Test.YtlfhijdonejacaaKit3
namespace Go.Proofs.Ytlfhijdonejacaa
open Go.RowKit
/-- The bytes, 128, j zeros. -/
def padZ (L : List UInt8) (j : Nat) : List UInt8 := L ++ (128 :: List.replicate j 0)
theorem padZ_length (L : List UInt8) (j : Nat) : (padZ L j).length = L.length + 1 + j := by simp [padZ]; omega
theorem padZ_succ (L : List UInt8) (j : Nat) : padZ L (j + 1) = padZ L j ++ [0] := by
  unfold padZ
  rw [List.replicate_succ']
  simp
theorem padZ_be (L : List UInt8) : padZ L (zerosOf L.length) ++ be64 (8 * L.length) = padded L := rfl
theorem be64_take (n k : Nat) (h : k < 8) : (be64 n).take (k + 1) = (be64 n).take k ++ [UInt8.ofNat (n / 2 ^ (56 - 8 * k) % 256)] := by
  rw [List.take_add_one]
  congr 1
  unfold be64
  simp [h]
theorem dig_extract : ∀ d, d < 16 → (⟨#[48, 49, 50, 51, 52, 53, 54, 55, 56, 57, 97, 98, 99, 100, 101, 102]⟩ : ByteArray).extract d (d + 1) = ⟨#[hexDigits.getD d 0]⟩ := by decide +kernel
theorem dig_at (x : Int) (h0 : 0 ≤ x) (m : Nat) (pre : List UInt8) : (⟨pre.toArray⟩ : ByteArray) ++ (⟨#[48, 49, 50, 51, 52, 53, 54, 55, 56, 57, 97, 98, 99, 100, 101, 102]⟩ : ByteArray).extract ((x / 2 ^ (28 - 4 * m)).tmod 16).toNat (((x / 2 ^ (28 - 4 * m)).tmod 16 + 1)).toNat =
    ⟨(pre ++ [hexDigits.getD (nibble x m) 0]).toArray⟩ := by
  have h := (div_pow_bd x h0 (28 - 4 * m)).1
  have hn : nibble x m < 16 := Nat.mod_lt _ (by decide)
  have e : (x / 2 ^ (28 - 4 * m)).tmod 16 = (nibble x m : Int) := by
    rw [Int.tmod_eq_emod_of_nonneg h]
    unfold nibble
    omega
  have e2 : (((nibble x m : Nat) : Int) + 1) = ((nibble x m + 1 : Nat) : Int) := by omega
  rw [e, e2, Int.toNat_natCast, Int.toNat_natCast, dig_extract _ hn]
  apply ByteArray.ext
  rw [ByteArray.data_append]
  simp
theorem tmod_bd (y : Int) (h : 0 ≤ y) : 0 ≤ y.tmod 16 ∧ y.tmod 16 < 16 := by
  rw [Int.tmod_eq_emod_of_nonneg h]
  omega
def lenV : Value → Nat | .slice _ n _ => n | _ => 0
theorem OwnZ.form {w : World} {base : Nat} {e : TypeId} {v : Value} {l : List UInt8} (h : OwnZ w base e v l) : ∃ g cap, v = .slice (some ⟨g, 0, none⟩) l.length cap ∧ l.length ≤ cap ∧ cap ≤ maxLen := by
  obtain ⟨g, cap, _, _, rfl, _, _, _, h1, h2, _⟩ := h
  exact ⟨g, cap, rfl, h1, h2⟩
set_option maxRecDepth 100000 in
set_option maxHeartbeats 4000000 in
theorem rsum_any (s : ByteArray) (w : World) (hL : s.size < 1048576) :
    Calls Try.prog 10 #[.string s] w fun e w' => e = .returned (.string ⟨(sha s.data.toList).toArray⟩) ∧ Below w.heap.size w w' := by
  go_enter Try.func10, Try.ntmps10
  go_wp2_with (with_reducible refine wpList_bytes_string rfl 9 26 (.tmp 12) rfl 5 (by kernel_rfl) under26 (by kernel_rfl) s w.heap.size rfl (by unfold maxLen; omega) (Nat.le_refl _) ?_)
  intro v1 w1 hown1 hb1
  have hs1 := hb1.size
  generalize hLs : s.data.toList = L at *
  have hLen : L.length = s.size := by rw [← hLs, size_toList]
  go_wp2_with ((with_reducible refine wpList_push_z rfl _ _ 26 rfl 5 byteRow w.heap.size _ _ w1.heap.size 1 128 ?_ ?_ (OwnZ.alloc hown1 _) ?_ ?_ ?_ ?_); exact rfl; exact rfl; exact cell_one _ _ _; omega; (simp only [World.size_alloc]; omega))
  intro v2 w2 hown2 hb2
  have hb2w : Below w.heap.size w w2 := (hb1.alloc hs1 _).trans hb2
  clear hown1 hb1 hb2 hs1
  have HL := Lib.hid hLen
  clear hLen
  have hLb : L.length < 1048576 := by have h1 := HL.out; omega
  go_wp2_with fail
  go_loopw [3] (fun v wr => ∃ j : Nat, j ≤ zerosOf L.length ∧ OwnZ wr w.heap.size 5 v (padZ L j) ∧ Below w.heap.size w wr) (fun v _ => (L.length + 1 + zerosOf L.length) - lenV v)
  case atStart => exact ⟨0, by omega, hown2, hb2w⟩
  case round =>
    clear hown2 hb2w
    obtain ⟨j, hj, hown, hb⟩ := hrel
    have hlen := padZ_length L j
    have hzl : zerosOf L.length < 64 := Nat.mod_lt _ (by decide)
    by_cases hlt : j < zerosOf L.length
    · obtain ⟨g, cap, rfl, hcap, hcm⟩ := hown.form
      have hmod : ((padZ L j).length : Int) % 64 ≠ 56 := by rw [hlen]; unfold zerosOf at hlt; omega
      go_wp2_with ((with_reducible refine wpList_push_z rfl _ _ 26 rfl 5 byteRow w.heap.size _ _ wr.heap.size 1 0 ?_ ?_ (OwnZ.alloc hown _) ?_ ?_ ?_ ?_); exact rfl; exact rfl; exact cell_one _ _ _; omega; (simp only [World.size_alloc]; have := hb.size; omega))
      intro v5 w5 hown5 hb5
      have hb6 : Below w.heap.size w w5 := (hb.alloc hb.size _).trans hb5
      rw [← padZ_succ] at hown5
      have hlen5 := padZ_length L (j + 1)
      obtain ⟨g5, cap5, rfl, _, _⟩ := hown5.form
      go_wp2_with fail
      go_roundw
      case rel => exact ⟨j + 1, by omega, hown5, hb6⟩
      case measure => simp only [lenV]; omega
    · have hjj : j = zerosOf L.length := by omega
      rw [hjj] at hown hlen
      clear hjj
      obtain ⟨g, cap, rfl, hcap, hcm⟩ := hown.form
      have hmod : ((padZ L (zerosOf L.length)).length : Int) % 64 = 56 := by rw [hlen]; unfold zerosOf; omega
      go_wp2_with fail
      generalize (((L.length : Int) + 1 + (zerosOf L.length : Int)) % 64 != 56) = b19
      go_loopw [5, 3] (fun i v wr => ∃ k : Nat, k ≤ 8 ∧ i = .int .i64 (7 - k) ∧ OwnZ wr w.heap.size 5 v (padZ L (zerosOf L.length) ++ (be64 (8 * L.length)).take k) ∧ Below w.heap.size w wr) (fun i _ _ => (intOf i + 1).toNat)
      case atStart => exact ⟨0, by omega, rfl, by rw [List.take_zero, List.append_nil]; exact hown, hb⟩
      case round =>
        clear hown hb hcap hcm hmod
        obtain ⟨k, hk, rfl, hown, hb⟩ := hrel
        have hlen2 : (padZ L (zerosOf L.length) ++ (be64 (8 * L.length)).take k).length < 140737488355328 := by
          rw [List.length_append, List.length_take, be64_length, hlen]; omega
        clear hlen
        by_cases hlt : k < 8
        · have hbyte : (s.size : Int) * 8 / 2 ^ (8 * (7 - k)) % 256 = ((UInt8.ofNat (8 * L.length / 2 ^ (56 - 8 * k) % 256)).toNat : Int) := by
            have e : 8 * (7 - k) = 56 - 8 * k := by omega
            rw [e, be64_val _ _ hlt, be64_at _ _ hlt, ← HL.out, UInt8.toNat_ofNat']
            simp
          have HB := Lib.hid hbyte
          clear hbyte
          go_wp2_with ((with_reducible refine wpList_push_z rfl _ _ 26 rfl 5 byteRow w.heap.size _ _ wr.heap.size 1 (UInt8.ofNat (8 * L.length / 2 ^ (56 - 8 * k) % 256)) ?_ ?_ (OwnZ.alloc hown _) ?_ ?_ ?_ ?_); exact rfl; exact rfl; (rw [← HB.out]; exact cell_one _ _ _); exact hlen2; (simp only [World.size_alloc]; have := hb.size; omega))
          intro v5 w5 hown5 hb5
          have hb6 : Below w.heap.size w w5 := (hb.alloc hb.size _).trans hb5
          rw [← be64_take _ _ hlt] at hown5
          go_wp2_with fail
          go_roundw
          case rel => exact ⟨k + 1, by omega, by go_num, hown5, hb6⟩
          case measure => simp [intOf]; omega
        · have hk8 : k = 8 := by omega
          rw [hk8, List.take_of_length_le (by rw [be64_length]; exact Nat.le_refl _), padZ_be] at hown
          clear hk8 hlen2
          have hpm := padded_mod L
          have hpl : (padded L).length < 140737488355328 := by rw [padded_length]; omega
          obtain ⟨gm, capm, rfl, hcap, hcm⟩ := hown.form
          go_wp2_with (first | (with_reducible refine wpList_alloc_sym rfl 29 rfl _ zeroH ?_) | ((with_reducible refine wpList_build_sym rfl 29 _ rfl (arrOf .u32 8 hAt) ?_ ?_); kernel_rfl) | ((with_reducible refine wpList_store_arr rfl 29 (.tmp 6) (.tmp 39) rfl rfl wr.heap.size .u32 8 hAt 29 _ sizeH ?_ ?_ (Blk.new _ _ _) (arr_size _ _ _) ?_); exact rfl; exact rfl))
          have hB := (Blk.new wr 29 (arrOf .u32 8 fun _ => 0)).row (arrOf .u32 8 hAt)
          have hm3 := (hown.alloc (.cells (arrOf .u32 8 fun _ => 0) 29)).other (Blk.new wr 29 (arrOf .u32 8 fun _ => 0)) (by decide) (arrOf .u32 8 hAt)
          have hb3 := setRow_below (hb.alloc hb.size (.cells (arrOf .u32 8 fun _ => 0) 29)) hb.size (arrOf .u32 8 hAt)
          have hG := hb.size
          generalize (wr.alloc (.cells (arrOf .u32 8 fun _ => 0) 29)).setRow wr.heap.size (arrOf .u32 8 hAt) = w3 at hB hm3 hb3 ⊢
          generalize wr.heap.size = H at *
          clear hown hb
          go_loopw [7] (fun i wr => ∃ q : Nat, 64 * q ≤ (padded L).length ∧ i = .int .i64 (64 * q) ∧ OwnZ wr w.heap.size 5 (.slice (some ⟨gm, 0, none⟩) (padded L).length capm) (padded L) ∧ Blk wr H 29 (arrOf .u32 8 (wordsN (padded L) q)) ∧ Below w.heap.size w wr) (fun i _ => (padded L).length - (intOf i).toNat)
          case atStart => exact ⟨0, by omega, rfl, hm3, hB, hb3⟩
          case round =>
            clear hm3 hB hb3
            obtain ⟨q, hq, rfl, hm, hB, hb⟩ := hrel
            by_cases hlt : 64 * q < (padded L).length
            · have hq64 : 64 * q + 64 ≤ (padded L).length := by omega
              have hc1 : 64 * q + 64 ≤ capm := Nat.le_trans hq64 hcap
              have hc2 : 64 * q < capm := Nat.lt_of_lt_of_le hlt hcap
              go_wp2_with fail
              refine wp_region_class_tail (fun w' => OwnZ w' w.heap.size 5 (.slice (some ⟨gm, 0, none⟩) (padded L).length capm) (padded L) ∧ Blk w' H 29 (arrOf .u32 8 (wordsN (padded L) q)) ∧ Below w.heap.size w w') 7 (by kernel_rfl) (by kernel_rfl) ⟨hm, hB, hb.drew⟩ ?_
              simp only [List.take_succ_cons, List.take_zero, List.drop_succ_cons, List.drop_zero]
              refine quiet_load_seg rfl 29 (.tmp 6) rfl H 0 8 8 (fun j => .int .u32 (wordsN (padded L) q j)) 29 _ underH rfl sizeH (by omega) rfl (fun w h => h.2.1) ?_
              simp only [Act.put, List.setIfInBounds_toArray, List.set_cons_succ, List.set_cons_zero, Nat.zero_add]
              go_big_quiet_step (fail)
              go_big_quiet_step (fail)
              go_big_quiet_step (fail)
              refine quiet_add_int rfl 3 3 _ _ rfl .i64 (64 * (q : Int)) 64 rfl rfl (64 * (q : Int) + 64) (by rw [IntKind.wrap_i64]; omega) ?_
              simp only [Act.put, List.setIfInBounds_toArray, List.set_cons_succ, List.set_cons_zero]
              refine quiet_slice_lo_hi rfl 26 _ _ _ rfl 5 under26 (by kernel_rfl) gm 0 (padded L).length capm (64 * q) (64 * q + 64) (Nat.le_add_right _ _) hc1 hc2 rfl (by go_num) (by go_num) ?_
              simp only [Act.put, List.setIfInBounds_toArray, List.set_cons_succ, List.set_cons_zero, Nat.zero_add, Nat.add_sub_cancel_left]
              refine quiet_call rfl _ rfl 16 rfl (fun _ _ => by kernel_rfl) #[.agg (arrOf .u32 8 (wordsN (padded L) q)), .slice (some ⟨gm, 64 * q, none⟩) 64 (capm - 64 * q)] rfl (.agg (arrOf .u32 8 (wordsN (padded L) (q + 1)))) (fun w' h => ?_) ?_
              · have hgm : gm < w'.heap.size := (h.1.lt gm rfl).2
                refine (rblock_any (wordsN (padded L) q) (fun j => byteAt (padded L) (64 * q + j)) gm (64 * q) (capm - 64 * q) w' (fun i => byteAt_bd _ _) (wordsN_bd _ _) hgm (fun j hj => h.1.cell (by omega))).mono ?_
                rintro e w2 ⟨rfl, hb2⟩
                exact ⟨rfl, h.1.below hb2 (Nat.le_refl _), h.2.1.below hb2 h.2.1.lt, h.2.2.trans (hb2.mono h.2.2.size)⟩
              simp only [Act.put, List.setIfInBounds_toArray, List.set_cons_succ, List.set_cons_zero]
              refine wpQuiet_nil ?_
              rintro w4 ⟨hm4, hB4, hb4⟩
              clear hm hB hb
              go_wp2_with ((with_reducible refine wpList_store_arr rfl 29 (.tmp 6) (.tmp 52) rfl rfl H .u32 8 (wordsN (padded L) (q + 1)) 29 _ sizeH ?_ ?_ hB4 (arr_size _ _ _) ?_); exact rfl; exact rfl)
              go_roundw
              case rel => exact ⟨q + 1, by omega, by go_num, hm4.other hB4 (by decide) _, hB4.row _, setRow_below hb4 hG _⟩
              case measure => simp [intOf]; omega
            · have hqq : q = (padded L).length / 64 := by omega
              have hwb := wordsN_bd (padded L) q
              have hW : shaWords L = wordsN (padded L) q := by rw [hqq]; rfl
              have HW := Lib.hid hW
              clear hW hqq hm hq hpl hpm hcap hcm
              generalize wordsN (padded L) q = wd at *
              go_wp2_with fail
              go_loopw [9, 8] (fun i v wr => ∃ k : Nat, k ≤ 8 ∧ i = .int .i64 k ∧ v = .string ⟨(hexOf wd k).toArray⟩ ∧ Blk wr H 29 (arrOf .u32 8 wd) ∧ Below w.heap.size w wr) (fun i _ _ => 8 - (intOf i).toNat)
              case atStart => exact ⟨0, by omega, rfl, rfl, hB, hb⟩
              case round =>
                clear hB hb
                obtain ⟨k, hk, rfl, rfl, hB, hb⟩ := hrel
                by_cases hlt8 : k < 8
                · have hck := hB.cell (j := k) hlt8
                  go_wp2_with fail
                  generalize decide ((k : Int) < 8) = b54
                  go_loopw [10, 8] (fun i v wr => ∃ m : Nat, m ≤ 8 ∧ i = .int .i64 (28 - 4 * m) ∧ v = .string ⟨(hexOf wd k ++ (hexWord (wd k)).take m).toArray⟩ ∧ Blk wr H 29 (arrOf .u32 8 wd) ∧ Below w.heap.size w wr) (fun i _ _ => (intOf i + 4).toNat)
                  case atStart => exact ⟨0, by omega, rfl, by rw [List.take_zero, List.append_nil], hB, hb⟩
                  case round =>
                    clear hB hb hck
                    obtain ⟨m, hm, rfl, rfl, hB, hb⟩ := hrel
                    by_cases hm8 : m < 8
                    · have hck := hB.cell (j := k) hlt8
                      have hw0 := hwb k
                      have hadd : (⟨(hexOf wd k ++ (hexWord (wd k)).take m).toArray⟩ : ByteArray).size + ((⟨#[48, 49, 50, 51, 52, 53, 54, 55, 56, 57, 97, 98, 99, 100, 101, 102]⟩ : ByteArray).extract ((wd k / 2 ^ (28 - 4 * m)).tmod 16).toNat (((wd k / 2 ^ (28 - 4 * m)).tmod 16 + 1)).toNat).size ≤ 9223372036854775807 := by
                        rw [ByteArray.size_extract]
                        show (List.toArray _).size + (min _ (16 : Nat) - _) ≤ _
                        rw [List.size_toArray, List.length_append, hexOf_length, List.length_take, hexWord_length]
                        omega
                      obtain ⟨hd1, hd2⟩ := tmod_bd _ (div_pow_bd (wd k) hw0.1 (28 - 4 * m)).1
                      go_wp2_with ((with_reducible refine wpList_str_add rfl 9 9 _ _ rfl ⟨(hexOf wd k ++ (hexWord (wd k)).take m).toArray⟩ ((⟨#[48, 49, 50, 51, 52, 53, 54, 55, 56, 57, 97, 98, 99, 100, 101, 102]⟩ : ByteArray).extract ((wd k / 2 ^ (28 - 4 * m)).tmod 16).toNat (((wd k / 2 ^ (28 - 4 * m)).tmod 16 + 1)).toNat) ?_ ?_ ?_ ?_); exact rfl; exact rfl; exact hadd)
                      go_roundw
                      case rel =>
                        refine ⟨m + 1, by omega, by go_num, ?_, hB, hb⟩
                        rw [hexWord_take _ _ hm8, ← List.append_assoc]
                        exact congrArg Value.string (dig_at _ hw0.1 m _)
                      case measure => simp [intOf]; omega
                    · have hmm : m = 8 := by omega
                      rw [hmm, List.take_of_length_le (by rw [hexWord_length]; exact Nat.le_refl _), ← hexOf_succ]
                      have hm0 : ¬ (0 ≤ 28 - 4 * (m : Int)) := by omega
                      clear hmm
                      go_wp2_with fail
                      go_roundw
                      case rel => exact ⟨k + 1, by omega, by go_num, rfl, hB, hb⟩
                      case measure => simp [intOf]; omega
                · have hk8 : k = 8 := by omega
                  rw [hk8]
                  have hk0 : ¬ k < 8 := by omega
                  clear hk8
                  go_wp2_with fail
                  go_ret
                  rw [hLs, show sha L = hexOf wd 8 by rw [← HW.out]; rfl]
                  exact ⟨rfl, hb⟩
end Go.Proofs.Ytlfhijdonejacaa
