/-
  armor.Unhex by its contract.
-/
import Derived.Test.YtjhmfcmcgibgmaaDoorArmU
import Derived.IntWalk
namespace Go.Proofs.YtjhmfcmcgibgmaaDoor
open Go.RowKit
def hexOf : Option (List UInt8) → List UInt8 × Int | some t => (t, 0) | none => ([], 3)
theorem valF_hex (c : UInt8) : valF [48, 49, 50, 51, 52, 53, 54, 55, 56, 57, 97, 98, 99, 100, 101, 102] 16 c.toNat = Arm.idx Arm.hexD c := Arm.vals_hex c
def RetP (w : World) (p : List UInt8 × Int) (e : Ending) (w' : World) : Prop := e = .returned (pairOf p) ∧ Below w.heap.size w w'
theorem byteAt_push (acc : List UInt8) (k : Nat) (b : UInt8) (h : acc.length = k) (n : Nat) : arrOf .u8 n (upd (byteAt acc) k (b.toNat : Int)) = arrOf .u8 n (byteAt (acc ++ [b])) := by
  refine arr_congr _ _ _ _ fun j _ => ?_
  unfold upd byteAt
  by_cases e : j = k
  · subst e
    rw [if_pos rfl, ← h, List.getD_eq_getElem?_getD, List.getElem?_append_right (Nat.le_refl _)]
    simp
  · rw [if_neg e, List.getD_eq_getElem?_getD, List.getD_eq_getElem?_getD]
    by_cases h2 : j < acc.length
    · rw [List.getElem?_append_left h2]
    · rw [List.getElem?_eq_none (by omega), List.getElem?_eq_none (by rw [List.length_append]; simp; omega)]
theorem drop_two (l : List UInt8) (k : Nat) (h : 2 * k + 1 < l.length) : l.drop (2 * k) = l[2 * k] :: l[2 * k + 1] :: l.drop (2 * (k + 1)) := by
  rw [List.drop_eq_getElem_cons (by omega), List.drop_eq_getElem_cons (by omega)]
  rfl
set_option maxRecDepth 100000 in
set_option maxHeartbeats 4000000 in
theorem unhex_any (s : ByteArray) (w : World) (hs : s.size ≤ 1048576) :
    Calls Tryd.prog 11 #[.string s] w (RetP w (Arm.unhexP s.data.toList)) := by
  by_cases hodd : s.size % 2 = 0
  · have hP : Arm.unhexP s.data.toList = hexOf (Arm.unhexGo s.data.toList) := by
      unfold Arm.unhexP
      rw [size_toList, if_neg (by omega)]
      cases Arm.unhexGo s.data.toList <;> rfl
    rw [hP]
    obtain ⟨N, hN⟩ : ∃ N, s.size = 2 * N := ⟨s.size / 2, by omega⟩
    have hN1 : s.size ≤ 2 * N ∧ 2 * N ≤ s.size := by omega
    have hodd2 : (s.size : Int) % 2 = 0 := by omega
    have hhalf : (s.size : Int) / 2 = (N : Int) := by omega
    clear hodd hN hP
    go_enter Tryd.func11, Tryd.ntmps11
    go_wp2_with fail
    refine (values_any ⟨#[48, 49, 50, 51, 52, 53, 54, 55, 56, 57, 97, 98, 99, 100, 101, 102]⟩ w (by decide)).mono ?_
    rintro e w1 ⟨rfl, hb1⟩
    go_wp2_with (first
      | (with_reducible refine wpList_alloc_sym rfl 38 rfl _ zeroI256 ?_)
      | ((with_reducible refine wpList_store_arr rfl 38 (.tmp 4) (.tmp 13) rfl rfl w1.heap.size .i64 256 (valF [48, 49, 50, 51, 52, 53, 54, 55, 56, 57, 97, 98, 99, 100, 101, 102] 16) 38 _ sizeI256 ?_ ?_ (Blk.new _ _ _) (arr_size _ _ _) ?_); exact rfl; exact rfl)
      | ((with_reducible refine wpList_make_full_bytes rfl _ _ 40 rfl 5 byteRow .i64 .i64 N N N ?_ ?_ rfl rfl ?_ ?_); exact rfl; exact rfl; omega))
    have hV := (Blk.new w1 38 (arrOf .i64 256 fun _ => 0)).row (arrOf .i64 256 (valF [48, 49, 50, 51, 52, 53, 54, 55, 56, 57, 97, 98, 99, 100, 101, 102] 16))
    have hb2 := setRow_below (hb1.alloc hb1.size (.cells (arrOf .i64 256 fun _ => 0) 38)) hb1.size (arrOf .i64 256 (valF [48, 49, 50, 51, 52, 53, 54, 55, 56, 57, 97, 98, 99, 100, 101, 102] 16))
    have hG := hb1.size
    have hz : ((w1.alloc (.cells (arrOf .i64 256 fun _ => 0) 38)).setRow w1.heap.size (arrOf .i64 256 (valF [48, 49, 50, 51, 52, 53, 54, 55, 56, 57, 97, 98, 99, 100, 101, 102] 16))).heap.size = w1.heap.size + 1 := by rw [setRow_size, World.size_alloc]
    generalize (w1.alloc (.cells (arrOf .i64 256 fun _ => 0) 38)).setRow w1.heap.size (arrOf .i64 256 (valF [48, 49, 50, 51, 52, 53, 54, 55, 56, 57, 97, 98, 99, 100, 101, 102] 16)) = w2 at hV hb2 hz ⊢
    generalize w1.heap.size = G at *
    clear hb1
    intro w3 hB3 hb3
    have hV3 := hV.below hb3 (by omega)
    have hb4 := hb2.trans (hb3.mono (by omega))
    clear hb3 hV hb2 hodd2 hhalf hz
    rw [show (arrOf .u8 N fun _ => 0) = arrOf .u8 N (byteAt []) from arr_congr .u8 N _ _ (fun j _ => rfl)] at hB3
    go_wp2_with fail
    go_loopw [20] (fun i wr => ∃ (k : Nat) (acc : List UInt8), k ≤ N ∧ i = .int .i64 k ∧ acc.length = k ∧ Hid (Arm.unhexGo s.data.toList = (Arm.unhexGo (s.data.toList.drop (2 * k))).map (acc ++ ·)) ∧ Blk wr (G + 1) 5 (arrOf .u8 N (byteAt acc)) ∧ Blk wr G 38 (arrOf .i64 256 (valF [48, 49, 50, 51, 52, 53, 54, 55, 56, 57, 97, 98, 99, 100, 101, 102] 16)) ∧ Below w.heap.size w wr) (fun i _ => N - (intOf i).toNat)
    case atStart => exact ⟨0, [], by omega, rfl, rfl, Lib.hid (by rw [Nat.mul_zero, List.drop_zero]; simp), hB3, hV3, hb4⟩
    case round =>
      clear hB3 hV3 hb4
      obtain ⟨k, acc, hk, rfl, hacc, hgo, hB, hV, hb⟩ := hrel
      have HA := Lib.hid hacc
      clear hacc
      by_cases hlt : k < N
      · have h1 : 2 * k < s.size := by omega
        have h2 : 2 * k + 1 < s.size := by omega
        have cA := hV.cell (j := s[2 * k].toNat) s[2 * k].toNat_lt
        have cB := hV.cell (j := s[2 * k + 1].toNat) s[2 * k + 1].toNat_lt
        rw [valF_hex] at cA cB
        have hd : s.data.toList.drop (2 * k) = s[2 * k] :: s[2 * k + 1] :: s.data.toList.drop (2 * (k + 1)) := drop_two s.data.toList k (by rw [size_toList]; omega)
        have HD := Lib.hid hd
        clear hd
        have cK := hB.cell (j := k) hlt
        have fK := hB.free k
        go_wp2_with fail
        have e1 : IntKind.i64.wrap (2 * (k : Int)) = 2 * (k : Int) := IntWalk.i64_in _ (by omega)
        have e2 : IntKind.i64.wrap (2 * (k : Int) + 1) = 2 * (k : Int) + 1 := IntWalk.i64_in _ (by omega)
        have e3 : 0 ≤ 2 * (k : Int) := by omega
        have e4 : 0 ≤ 2 * (k : Int) + 1 := by omega
        have e5 : 2 * (k : Int) < s.size := by omega
        have e6 : 2 * (k : Int) + 1 < s.size := by omega
        have e7 : (2 * (k : Int)).toNat = 2 * k := by omega
        have e8 : (2 * (k : Int) + 1).toNat = 2 * k + 1 := by omega
        have e9 : (s[2 * k].toNat : Int) < 256 := by have := s[2 * k].toNat_lt; omega
        have e10 : (s[2 * k + 1].toNat : Int) < 256 := by have := s[2 * k + 1].toNat_lt; omega
        go_quiet (fail)
        generalize s[2 * k] = ca at *
        generalize s[2 * k + 1] = cb at *
        clear e1 e2 e3 e4 e5 e6 e7 e8 e9 e10 h1 h2 cA cB
        have hx := Arm.idx_hex ca
        have hy := Arm.idx_hex cb
        have hgo2 := hgo.out
        rw [HD.out, Arm.unhexGo] at hgo2
        generalize Arm.idx Arm.hexD ca = x at *
        generalize Arm.idx Arm.hexD cb = y at *
        by_cases hx0 : x < 0
        · rw [if_pos (.inl hx0)] at hgo2
          have HG := Lib.hid hgo2
          clear hgo2 hx hy hgo HD
          go_wp2_with fail
          go_ret2
          exact ⟨by rw [HG.out]; rfl, hb.trans (drewN_below (Below.refl _ _) _)⟩
        by_cases hy0 : y < 0
        · rw [if_pos (.inr hy0)] at hgo2
          have HG := Lib.hid hgo2
          have hx1 : 0 ≤ x := by omega
          clear hgo2 hx hy hgo HD
          go_wp2_with fail
          go_ret2
          exact ⟨by rw [HG.out]; rfl, hb.trans (drewN_below (Below.refl _ _) _)⟩
        · rw [if_neg (by omega)] at hgo2
          have hx1 : 0 ≤ x ∧ x < 16 := by omega
          have hy1 : 0 ≤ y ∧ y < 16 := by omega
          have hv : ((UInt8.ofNat (16 * x + y).toNat).toNat : Int) = 16 * x + y := by rw [Arm.ofNat_lt _ (by omega)]; omega
          have hset := (show Blk (wr.drewN nq) (G + 1) 5 (arrOf .u8 N (byteAt acc)) from hB).set k (16 * x + y)
          rw [show upd (byteAt acc) k (16 * x + y) = upd (byteAt acc) k ((UInt8.ofNat (16 * x + y).toNat).toNat : Int) by rw [hv], byteAt_push acc k _ HA.out] at hset
          have HV := Lib.hid hv
          have HG := Lib.hid hgo2
          clear hgo2 hx hy hgo HD hv
          go_wp2_with fail
          go_roundw
          case rel =>
            refine ⟨k + 1, acc ++ [UInt8.ofNat (16 * x + y).toNat], by omega, by go_num, by rw [List.length_append, HA.out]; rfl, ?_, hset, ?_, ?_⟩
            · refine Lib.hid ?_
              rw [HG.out, Option.map_map]
              congr 1
              funext t
              simp [Function.comp]
            · exact (show Blk (wr.drewN nq) G 38 _ from hV).set_other (a := ⟨G + 1, k, none⟩) (by show G ≠ G + 1; omega) _
            · exact (hb.trans (drewN_below (Below.refl _ _) nq)).setCell (p := ⟨G + 1, k, none⟩) (by show w.heap.size ≤ G + 1; omega) _
          case measure => simp [intOf]; omega
      · have hkN : k = N := by omega
        have hgo2 := hgo.out
        rw [List.drop_of_length_le (by rw [size_toList]; omega)] at hgo2
        have hgo3 : Arm.unhexGo s.data.toList = some acc := by rw [hgo2]; simp [Arm.unhexGo]
        have HG := Lib.hid hgo3
        have HK := Lib.hid hkN
        clear hgo2 hgo hgo3 hkN
        go_wp2_with ((with_reducible refine wpList_blk_string rfl 40 9 _ rfl 5 Tryd.underlying40 (by kernel_rfl) (by kernel_rfl) (G + 1) N N 5 acc ?_ ?_ hB ?_); exact rfl; exact HA.out.trans HK.out)
        go_ret2
        exact ⟨by rw [HG.out]; rfl, hb⟩
  · have hP : Arm.unhexP s.data.toList = ([], 3) := by
      unfold Arm.unhexP
      rw [size_toList, if_pos (by omega)]
    rw [hP]
    have hodd2 : (s.size : Int) % 2 ≠ 0 := by omega
    clear hP hodd
    go_enter Tryd.func11, Tryd.ntmps11
    go_wp2_with fail
    go_ret2
    exact ⟨rfl, Below.refl _ _⟩
end Go.Proofs.YtjhmfcmcgibgmaaDoor
