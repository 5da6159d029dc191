/-
  armor.Unbase64 by its contract; strings.TrimRight's contract is a hypothesis here.
-/
import Derived.Test.YtjhmfcmcgibgmaaDoorArmW
namespace Go.Proofs.YtjhmfcmcgibgmaaDoor
open Go.RowKit
def sixT : List UInt8 := [65, 66, 67, 68, 69, 70, 71, 72, 73, 74, 75, 76, 77, 78, 79, 80, 81, 82, 83, 84, 85, 86, 87, 88, 89, 90, 97, 98, 99, 100, 101, 102, 103, 104, 105, 106, 107, 108, 109, 110, 111, 112, 113, 114, 115, 116, 117, 118, 119, 120, 121, 122, 48, 49, 50, 51, 52, 53, 54, 55, 56, 57, 43, 47]
theorem valF_six (c : UInt8) : valF sixT 64 c.toNat = Arm.idx Arm.sixD c := Arm.vals_six c
/-- strings.TrimRight at "=". -/
def TrimsPad : Prop := ∀ (s : ByteArray) (w : World), s.size ≤ 1048576 → Calls Tryd.prog 24 #[.string s, .string ⟨#[61]⟩] w fun e w' => e = .returned (.string ⟨(Arm.trimP s.data.toList).toArray⟩) ∧ w = w'
def b64Of : Option (Nat × Nat × List UInt8) → List UInt8 × Int | none => ([], 3) | some st => if st.1 ≠ 0 then ([], 3) else (st.2.2, 0)
theorem trimP_le (l : List UInt8) : (Arm.trimP l).length ≤ l.length := by
  unfold Arm.trimP
  rw [List.length_reverse]
  have := (List.dropWhile_sublist (· == (61 : UInt8)) (l := l.reverse)).length_le
  simpa using this
theorem and_mask (n : Nat) (j : Nat) (hn : n < 4096) (hj : j ≤ 12) : bits .and .i64 (n : Int) (2 ^ j - 1) = ((n % 2 ^ j : Nat) : Int) := by
  rw [bits_mask .i64 12 (by decide) (fun x h0 h1 => by rw [IntKind.wrap_i64]; omega) j hj (n : Int) (by omega) (by omega)]
  simp
set_option maxRecDepth 100000 in
set_option maxHeartbeats 4000000 in
theorem unb64_any (hT : TrimsPad) (s : ByteArray) (w : World) (hs : s.size ≤ 1048576) :
    Calls Tryd.prog 13 #[.string s] w (RetP w (Arm.unb64P s.data.toList)) := by
  have HT := Lib.hid hT
  clear hT
  by_cases hodd : s.size % 4 = 0
  · have hodd2 : (s.size : Int) % 4 = 0 := by omega
    have htl := trimP_le s.data.toList
    rw [size_toList] at htl
    have hP : Arm.unb64P s.data.toList = if 2 < s.size - (Arm.trimP s.data.toList).length then ([], 3) else b64Of (Arm.unFold (0, 0, []) (Arm.trimP s.data.toList)) := by
      unfold Arm.unb64P
      rw [size_toList, if_neg (by omega)]
      split
      · rfl
      · cases Arm.unFold (0, 0, []) (Arm.trimP s.data.toList) <;> rfl
    rw [hP]
    have hTT := fun w' => HT.out s w' hs
    obtain ⟨t, ht⟩ : ∃ t : ByteArray, t = ⟨(Arm.trimP s.data.toList).toArray⟩ := ⟨_, rfl⟩
    have htd : Arm.trimP s.data.toList = t.data.toList := by rw [ht]
    rw [← ht] at hTT
    rw [htd, size_toList] at htl ⊢
    have HTT := Lib.hid hTT
    clear hP hTT ht htd hodd
    by_cases hpad : 2 < s.size - t.size
    · rw [if_pos hpad]
      have hpad2 : 2 < (s.size : Int) - t.size := by omega
      go_enter Tryd.func13, Tryd.ntmps13
      go_wp2_with fail
      refine (values_any ⟨#[65, 66, 67, 68, 69, 70, 71, 72, 73, 74, 75, 76, 77, 78, 79, 80, 81, 82, 83, 84, 85, 86, 87, 88, 89, 90, 97, 98, 99, 100, 101, 102, 103, 104, 105, 106, 107, 108, 109, 110, 111, 112, 113, 114, 115, 116, 117, 118, 119, 120, 121, 122, 48, 49, 50, 51, 52, 53, 54, 55, 56, 57, 43, 47]⟩ w (by decide)).mono ?_
      rintro e w1 ⟨rfl, hb1⟩
      go_wp2_with (first
        | (with_reducible refine wpList_alloc_sym rfl 38 rfl _ zeroI256 ?_)
        | ((with_reducible refine wpList_store_arr rfl 38 (.tmp 4) (.tmp 16) rfl rfl w1.heap.size .i64 256 (valF sixT 64) 38 _ sizeI256 ?_ ?_ (Blk.new _ _ _) (arr_size _ _ _) ?_); exact rfl; exact rfl)
        | (go_at_call 24; refine (HTT.out _).mono ?_; rintro e w3 ⟨rfl, rfl⟩))
      go_ret2
      exact ⟨rfl, setRow_below (hb1.alloc hb1.size (.cells (arrOf .i64 256 fun _ => 0) 38)) hb1.size (arrOf .i64 256 (valF sixT 64))⟩
    · rw [if_neg hpad]
      have hpad2 : ¬ 2 < (s.size : Int) - t.size := by omega
      go_enter Tryd.func13, Tryd.ntmps13
      go_wp2_with fail
      refine (values_any ⟨#[65, 66, 67, 68, 69, 70, 71, 72, 73, 74, 75, 76, 77, 78, 79, 80, 81, 82, 83, 84, 85, 86, 87, 88, 89, 90, 97, 98, 99, 100, 101, 102, 103, 104, 105, 106, 107, 108, 109, 110, 111, 112, 113, 114, 115, 116, 117, 118, 119, 120, 121, 122, 48, 49, 50, 51, 52, 53, 54, 55, 56, 57, 43, 47]⟩ w (by decide)).mono ?_
      rintro e w1 ⟨rfl, hb1⟩
      go_wp2_with (first
        | (with_reducible refine wpList_alloc_sym rfl 38 rfl _ zeroI256 ?_)
        | ((with_reducible refine wpList_store_arr rfl 38 (.tmp 4) (.tmp 16) rfl rfl w1.heap.size .i64 256 (valF sixT 64) 38 _ sizeI256 ?_ ?_ (Blk.new _ _ _) (arr_size _ _ _) ?_); exact rfl; exact rfl)
        | (go_at_call 24; refine (HTT.out _).mono ?_; rintro e w3 ⟨rfl, rfl⟩))
      have hV := (Blk.new w1 38 (arrOf .i64 256 fun _ => 0)).row (arrOf .i64 256 (valF sixT 64))
      have hb2 := setRow_below (hb1.alloc hb1.size (.cells (arrOf .i64 256 fun _ => 0) 38)) hb1.size (arrOf .i64 256 (valF sixT 64))
      generalize (w1.alloc (.cells (arrOf .i64 256 fun _ => 0) 38)).setRow w1.heap.size (arrOf .i64 256 (valF sixT 64)) = w2 at hV hb2 ⊢
      have hG := hb1.size
      generalize w1.heap.size = G at *
      clear hb1 HTT HT hodd2 hpad
      generalize decide (2 < (s.size : Int) - t.size) = b25
      generalize (s.size : Int) - t.size = q23
      go_loopw [28, 7, 8, 9] (fun i v x y wr => ∃ (k bt : Nat) (hv : Int) (out : List UInt8), k ≤ t.size ∧ i = .int .i64 k ∧ x = .int .i64 bt ∧ y = .int .i64 hv ∧ ((hv = 0 ∧ bt = 0) ∨ (hv = 2 ∧ bt < 4) ∨ (hv = 4 ∧ bt < 16) ∨ (hv = 6 ∧ bt < 64)) ∧ out.length ≤ k ∧ Hid (Arm.unFold (0, 0, []) t.data.toList = Arm.unFold (bt, hv.toNat, out) (t.data.toList.drop k)) ∧ OwnB wr w.heap.size 5 v out ∧ Blk wr G 38 (arrOf .i64 256 (valF sixT 64)) ∧ Below w.heap.size w wr) (fun i _ _ _ _ => t.size - (intOf i).toNat)
      case atStart => exact ⟨0, 0, 0, [], by omega, rfl, rfl, rfl, .inl ⟨rfl, rfl⟩, by simp, Lib.hid rfl, OwnB.nil _ _ _, hV, hb2⟩
      case round =>
        clear hV hb2
        obtain ⟨k, bt, hv, out, hk, rfl, rfl, rfl, hst, hol, hgo, hown, hV, hb⟩ := hrel
        by_cases hlt : k < t.size
        · have hbd := byteAt_bd t.data.toList k
          have cA := hV.cell (j := (t.data.toList.getD k 0).toNat) (t.data.toList.getD k 0).toNat_lt
          rw [valF_six] at cA
          have hix := Arm.idx_six (t.data.toList.getD k 0)
          have hgo2 := hgo.out
          rw [List.drop_eq_getElem_cons (by rw [size_toList]; exact hlt), Arm.unFold] at hgo2
          have hce : t.data.toList[k]'(by rw [size_toList]; exact hlt) = t.data.toList.getD k 0 := by rw [List.getD_eq_getElem?_getD, List.getElem?_eq_getElem (by rw [size_toList]; exact hlt)]; rfl
          rw [hce] at hgo2
          have hba : (byteAt t.data.toList k).toNat = (t.data.toList.getD k 0).toNat := by unfold byteAt; rw [Int.toNat_natCast]
          rw [← hba] at cA
          generalize Arm.idx Arm.sixD (t.data.toList.getD k 0) = x at *
          clear hgo hce hba
          by_cases hx0 : x < 0
          · rw [if_pos hx0] at hgo2
            have HG := Lib.hid hgo2
            clear hgo2 hix hst
            go_wp2_with ((with_reducible refine wpList_index_str rfl 9 _ _ rfl Tryd.underlying9 t .i64 k ?_ ?_ ?_ ?_ ?_); exact rfl; exact rfl; omega; omega; simp only [Int.toNat_natCast])
            go_ret2
            exact ⟨by rw [HG.out]; rfl, hb⟩
          · rw [if_neg hx0] at hgo2
            obtain ⟨y, rfl⟩ : ∃ y : Nat, x = (y : Int) := ⟨x.toNat, by omega⟩
            have hy : (y : Int) < 64 := by omega
            rw [Int.toNat_natCast] at hgo2
            rcases hst with ⟨rfl, rfl⟩ | ⟨rfl, hbt⟩ | ⟨rfl, hbt⟩ | ⟨rfl, hbt⟩
            · rw [show Int.toNat 0 = 0 from rfl, Arm.step0] at hgo2
              have HG := Lib.hid hgo2
              clear hgo2 hix
              go_wp2_with ((with_reducible refine wpList_index_str rfl 9 _ _ rfl Tryd.underlying9 t .i64 k ?_ ?_ ?_ ?_ ?_); exact rfl; exact rfl; omega; omega; simp only [Int.toNat_natCast])
              go_roundw
              case rel => exact ⟨k + 1, y, 6, out, by omega, by go_num, by go_num, rfl, by omega, by omega, HG, hown, hV, hb⟩
              case measure => simp [intOf]; omega
            · have hyb : y < 64 := by omega
              rw [show Int.toNat 2 = 2 from rfl, Arm.step2] at hgo2
              have hc : ((UInt8.ofNat ((bt * 64 + y))).toNat : Int) = ((bt : Int) * 64 + y) := by rw [Arm.ofNat_lt _ (by omega)]; omega
              have hand : bits .and .i64 ((bt : Int) * 64 + y) 0 = ((0 : Nat) : Int) := by
                have h0 := and_mask (bt * 64 + y) 0 (by omega) (by omega)
                rw [Int.natCast_add, Int.natCast_mul] at h0
                exact h0.trans (by rw [Nat.mod_one])
              generalize UInt8.ofNat ((bt * 64 + y)) = c at *
              have hn1 : 0 ≤ (bt : Int) * 64 + y ∧ (bt : Int) * 64 + y < 256 := by omega
              have HG := Lib.hid hgo2
              have HC := Lib.hid hc
              clear hgo2 hix hc
              go_wp2_with (first
                | ((with_reducible refine wpList_index_str rfl 9 _ _ rfl Tryd.underlying9 t .i64 k ?_ ?_ ?_ ?_ ?_); exact rfl; exact rfl; omega; omega; simp only [Int.toNat_natCast])
                | ((with_reducible refine wpList_push_byte rfl _ _ 40 rfl 5 byteRow w.heap.size _ _ wr.heap.size 1 c ?_ ?_ (OwnB.alloc hown _) ?_ ?_ ?_ ?_); exact rfl; exact rfl; (rw [HC.out]; exact cell_one _ _ _); omega; (simp only [World.size_alloc]; have := hb.size; omega)))
              intro v5 w5 hown5 hgr hb5
              have hb6 : Below w.heap.size w w5 := (hb.alloc hb.size _).trans hb5
              have hV5 := (hV.alloc _).grownB (OwnB.alloc hown _) (by decide) hgr
              go_wp2_with fail
              go_roundw
              case rel => exact ⟨k + 1, 0, 0, out ++ [c], by omega, by go_num, rfl, rfl, by omega, by rw [List.length_append]; exact Nat.succ_le_succ hol, HG, hown5, hV5, hb6⟩
              case measure => simp [intOf]; omega
            · have hyb : y < 64 := by omega
              rw [show Int.toNat 4 = 4 from rfl, Arm.step4] at hgo2
              have hc : ((UInt8.ofNat ((bt * 64 + y) / 4)).toNat : Int) = ((bt : Int) * 64 + y) / 4 := by rw [Arm.ofNat_lt _ (by omega)]; omega
              have hand : bits .and .i64 ((bt : Int) * 64 + y) 3 = (((bt * 64 + y) % 4 : Nat) : Int) := by
                have h0 := and_mask (bt * 64 + y) 2 (by omega) (by omega)
                rw [Int.natCast_add, Int.natCast_mul] at h0
                exact h0
              generalize UInt8.ofNat ((bt * 64 + y) / 4) = c at *
              have hn1 : 0 ≤ (bt : Int) * 64 + y ∧ (bt : Int) * 64 + y < 1024 := by omega
              obtain ⟨b2, hb2⟩ : ∃ b2, b2 = (bt * 64 + y) % 4 := ⟨_, rfl⟩
              rw [← hb2] at hand hgo2
              have hb3 : b2 < 4 := by omega
              have HG := Lib.hid hgo2
              have HC := Lib.hid hc
              clear hgo2 hix hc hb2
              go_wp2_with (first
                | ((with_reducible refine wpList_index_str rfl 9 _ _ rfl Tryd.underlying9 t .i64 k ?_ ?_ ?_ ?_ ?_); exact rfl; exact rfl; omega; omega; simp only [Int.toNat_natCast])
                | ((with_reducible refine wpList_push_byte rfl _ _ 40 rfl 5 byteRow w.heap.size _ _ wr.heap.size 1 c ?_ ?_ (OwnB.alloc hown _) ?_ ?_ ?_ ?_); exact rfl; exact rfl; (rw [HC.out]; exact cell_one _ _ _); omega; (simp only [World.size_alloc]; have := hb.size; omega)))
              intro v5 w5 hown5 hgr hb5
              have hb6 : Below w.heap.size w w5 := (hb.alloc hb.size _).trans hb5
              have hV5 := (hV.alloc _).grownB (OwnB.alloc hown _) (by decide) hgr
              go_wp2_with fail
              go_roundw
              case rel => exact ⟨k + 1, b2, 2, out ++ [c], by omega, by go_num, rfl, rfl, by omega, by rw [List.length_append]; exact Nat.succ_le_succ hol, HG, hown5, hV5, hb6⟩
              case measure => simp [intOf]; omega
            · have hyb : y < 64 := by omega
              rw [show Int.toNat 6 = 6 from rfl, Arm.step6] at hgo2
              have hc : ((UInt8.ofNat ((bt * 64 + y) / 16)).toNat : Int) = ((bt : Int) * 64 + y) / 16 := by rw [Arm.ofNat_lt _ (by omega)]; omega
              have hand : bits .and .i64 ((bt : Int) * 64 + y) 15 = (((bt * 64 + y) % 16 : Nat) : Int) := by
                have h0 := and_mask (bt * 64 + y) 4 (by omega) (by omega)
                rw [Int.natCast_add, Int.natCast_mul] at h0
                exact h0
              generalize UInt8.ofNat ((bt * 64 + y) / 16) = c at *
              have hn1 : 0 ≤ (bt : Int) * 64 + y ∧ (bt : Int) * 64 + y < 4096 := by omega
              obtain ⟨b2, hb2⟩ : ∃ b2, b2 = (bt * 64 + y) % 16 := ⟨_, rfl⟩
              rw [← hb2] at hand hgo2
              have hb3 : b2 < 16 := by omega
              have HG := Lib.hid hgo2
              have HC := Lib.hid hc
              clear hgo2 hix hc hb2
              go_wp2_with (first
                | ((with_reducible refine wpList_index_str rfl 9 _ _ rfl Tryd.underlying9 t .i64 k ?_ ?_ ?_ ?_ ?_); exact rfl; exact rfl; omega; omega; simp only [Int.toNat_natCast])
                | ((with_reducible refine wpList_push_byte rfl _ _ 40 rfl 5 byteRow w.heap.size _ _ wr.heap.size 1 c ?_ ?_ (OwnB.alloc hown _) ?_ ?_ ?_ ?_); exact rfl; exact rfl; (rw [HC.out]; exact cell_one _ _ _); omega; (simp only [World.size_alloc]; have := hb.size; omega)))
              intro v5 w5 hown5 hgr hb5
              have hb6 : Below w.heap.size w w5 := (hb.alloc hb.size _).trans hb5
              have hV5 := (hV.alloc _).grownB (OwnB.alloc hown _) (by decide) hgr
              go_wp2_with fail
              go_roundw
              case rel => exact ⟨k + 1, b2, 4, out ++ [c], by omega, by go_num, rfl, rfl, by omega, by rw [List.length_append]; exact Nat.succ_le_succ hol, HG, hown5, hV5, hb6⟩
              case measure => simp [intOf]; omega
        · have hgo2 := hgo.out
          rw [List.drop_of_length_le (by rw [size_toList]; omega), Arm.unFold] at hgo2
          by_cases hb0 : bt = 0
          · subst hb0
            have hR : b64Of (Arm.unFold (0, 0, []) t.data.toList) = (out, 0) := by rw [hgo2]; rfl
            have HR := Lib.hid hR
            clear hR hgo2 hgo hst
            go_wp2_with ((with_reducible refine wpList_own_string rfl 40 9 _ rfl 5 Tryd.underlying40 (by kernel_rfl) (by kernel_rfl) w.heap.size _ _ ?_ hown ?_); exact rfl)
            go_ret2
            exact ⟨by rw [HR.out]; rfl, hb⟩
          · have hR : b64Of (Arm.unFold (0, 0, []) t.data.toList) = ([], 3) := by rw [hgo2]; unfold b64Of; exact if_pos hb0
            have HR := Lib.hid hR
            have hb1 : (bt : Int) ≠ 0 := by omega
            clear hR hgo2 hgo hst
            go_wp2_with fail
            go_ret2
            exact ⟨by rw [HR.out]; rfl, hb⟩
  · have hP : Arm.unb64P s.data.toList = ([], 3) := by
      unfold Arm.unb64P
      rw [size_toList, if_pos (by omega)]
    rw [hP]
    have hodd2 : (s.size : Int) % 4 ≠ 0 := by omega
    clear hP hodd
    go_enter Tryd.func13, Tryd.ntmps13
    go_wp2_with fail
    go_ret2
    exact ⟨rfl, Below.refl _ _⟩
end Go.Proofs.YtjhmfcmcgibgmaaDoor
