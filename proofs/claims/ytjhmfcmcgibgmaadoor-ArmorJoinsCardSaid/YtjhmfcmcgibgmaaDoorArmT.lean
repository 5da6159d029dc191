/-
  The reference's index and unpack by their contracts.
-/
import Derived.Test.YtjhmfcmcgibgmaaDoorArmS
namespace Go.Proofs.YtjhmfcmcgibgmaaDoor
open Go.RowKit
set_option maxRecDepth 100000 in
set_option maxHeartbeats 4000000 in
theorem index_any (s : ByteArray) (c : UInt8) (w : World) (hs : s.size ≤ 1048576) :
    Calls Tryd.prog 28 #[.string s, .int .u8 (c.toNat : Int)] w fun e w' => e = .returned (.int .i64 (Arm.idx s.data.toList c)) ∧ w = w' := by
  have hc := c.toNat_lt
  go_enter Tryd.func28, Tryd.ntmps28
  go_wp2_with fail
  go_loop [5] (fun i => ∃ k : Nat, k ≤ s.size ∧ i = .int .i64 k ∧ Hid (∀ j, j < k → s.data.toList.getD j 0 ≠ c)) (fun i => s.size - (intOf i).toNat)
  case atStart => exact ⟨0, by omega, rfl, Lib.hid (fun j hj => by omega)⟩
  case round =>
    obtain ⟨k, hk, rfl, hne⟩ := hrel
    by_cases hlt : k < s.size
    · have hbd := byteAt_bd s.data.toList k
      by_cases he : byteAt s.data.toList k = (c.toNat : Int)
      · have hcc : s.data.toList.getD k 0 = c := by
          unfold byteAt at he
          exact UInt8.toNat_inj.1 (by omega)
        have hidx : Arm.idx s.data.toList c = (k : Int) := Arm.idx_hit _ _ k (by rw [size_toList]; exact hlt) hcc hne.out
        have HI := Lib.hid hidx
        have heq : (byteAt s.data.toList k == (c.toNat : Int)) = true := by simpa using he
        clear hidx hcc he
        go_wp2_with ((with_reducible refine wpList_index_str rfl 9 _ _ rfl Tryd.underlying9 s .i64 k ?_ ?_ ?_ ?_ ?_); exact rfl; exact rfl; omega; omega; simp only [Int.toNat_natCast])
        go_ret
        exact ⟨by rw [HI.out]; rfl, rfl⟩
      · have hcc : s.data.toList.getD k 0 ≠ c := fun e => he (by unfold byteAt; rw [e])
        have hn2 : Hid (∀ j, j < k + 1 → s.data.toList.getD j 0 ≠ c) := Lib.hid fun j hj => by
          by_cases h : j = k
          · rw [h]; exact hcc
          · exact hne.out j (by omega)
        have heq : (byteAt s.data.toList k == (c.toNat : Int)) = false := by simpa using he
        clear hcc he hne
        go_wp2_with ((with_reducible refine wpList_index_str rfl 9 _ _ rfl Tryd.underlying9 s .i64 k ?_ ?_ ?_ ?_ ?_); exact rfl; exact rfl; omega; omega; simp only [Int.toNat_natCast])
        go_round
        case rel => exact ⟨k + 1, by omega, by go_num, hn2⟩
        case measure => simp [intOf]; omega
    · have hidx : Arm.idx s.data.toList c = -1 := Arm.idx_none _ _ (fun j hj => hne.out j (by rw [size_toList] at hj; omega))
      have HI := Lib.hid hidx
      clear hidx
      go_wp2_with fail
      go_ret
      exact ⟨by rw [HI.out]; rfl, rfl⟩
theorem unbits_le (al : List UInt8) (ea : Nat) (l : List UInt8) : (Arm.unbits al ea l).length ≤ ea * l.length := by
  induction l with
  | nil => exact Nat.zero_le _
  | cons c l ih =>
    rw [Arm.unbits_cons, List.length_append, List.length_cons, Nat.mul_succ]
    split
    · simp only [List.length_nil]; omega
    · rw [Arm.bitsV_length]; omega
theorem unbits_bit (al : List UInt8) (ea : Nat) (l : List UInt8) (j : Nat) : (Arm.unbits al ea l).getD j 0 ≤ 1 := by
  have h : ∀ x ∈ Arm.unbits al ea l, x ≤ 1 := by
    intro x hx
    unfold Arm.unbits at hx
    obtain ⟨c, _, hc⟩ := List.mem_flatMap.1 hx
    split at hc
    · simp at hc
    · unfold Arm.bitsV at hc
      obtain ⟨i, _, rfl⟩ := List.mem_map.1 hc
      omega
  rw [List.getD_eq_getElem?_getD]
  cases hx : (Arm.unbits al ea l)[j]? with
  | none => simp
  | some x => exact h x (List.mem_of_getElem? hx)
theorem unbits_take (al : List UInt8) (ea : Nat) (l : List UInt8) (k : Nat) (h : k < l.length) : Arm.unbits al ea (l.take (k + 1)) = Arm.unbits al ea (l.take k) ++ (if Arm.idx al (l.getD k 0) < 0 then [] else Arm.bitsV ea (Arm.idx al (l.getD k 0)).toNat) := by
  rw [List.take_succ_eq_append_getElem h]
  unfold Arm.unbits
  rw [List.flatMap_append, List.getD_eq_getElem?_getD, List.getElem?_eq_getElem h]
  simp
theorem idx_bd (al : List UInt8) (c : UInt8) : -1 ≤ Arm.idx al c ∧ Arm.idx al c < al.length + 1 := by
  unfold Arm.idx
  split
  · rename_i i hi
    have := (List.findIdx?_eq_some_iff_getElem.1 hi).1
    omega
  · omega
theorem bitsV_take4 (v m : Nat) (hm : m < 4) : (Arm.bitsV 4 v).take (m + 1) = (Arm.bitsV 4 v).take m ++ [v / (8 / 2 ^ m) % 2] := by
  rw [List.take_add_one]
  congr 1
  unfold Arm.bitsV
  have e : 8 / 2 ^ m = 2 ^ (4 - 1 - m) := by
    match m, hm with
    | 0, _ => rfl | 1, _ => rfl | 2, _ => rfl | 3, _ => rfl
  simp [hm, e]
theorem pw4 (m : Nat) (hm : m < 4) : 0 < 8 / 2 ^ m ∧ 8 / 2 ^ m ≤ 8 := by
  match m, hm with
  | 0, _ => decide | 1, _ => decide | 2, _ => decide | 3, _ => decide
set_option maxRecDepth 100000 in
set_option maxHeartbeats 4000000 in
theorem unpack4_any (s al : ByteArray) (w : World) (hs : s.size ≤ 1048576) (hal : al.size ≤ 1024) :
    Calls Tryd.prog 23 #[.string s, .string al, .int .i64 4] w fun e w' => e = .returned (.string ⟨(Arm.unpack al.data.toList 4 s.data.toList).toArray⟩) ∧ Below w.heap.size w w' := by
  go_enter Tryd.func23, Tryd.ntmps23
  go_wp2_with fail
  go_loopw [8, 7] (fun i v wr => ∃ k : Nat, k ≤ s.size ∧ i = .int .i64 k ∧ OwnN wr w.heap.size 3 v (Arm.unbits al.data.toList 4 (s.data.toList.take k)) ∧ Below w.heap.size w wr) (fun i _ _ => s.size - (intOf i).toNat)
  case atStart => exact ⟨0, by omega, rfl, OwnN.nil _ _ _, Below.refl _ _⟩
  case round =>
    obtain ⟨k, hk, rfl, hown, hb⟩ := hrel
    have hll := unbits_le al.data.toList 4 (s.data.toList.take k)
    rw [List.length_take, size_toList] at hll
    by_cases hlt : k < s.size
    · have hbd := byteAt_bd s.data.toList k
      have hnext := unbits_take al.data.toList 4 s.data.toList k (by rw [size_toList]; exact hlt)
      obtain ⟨wo, rfl⟩ : ∃ wo : World, wo = wr := ⟨_, rfl⟩
      obtain ⟨x, hx⟩ : ∃ x, x = Arm.idx al.data.toList (s.data.toList.getD k 0) := ⟨_, rfl⟩
      have hx1 := idx_bd al.data.toList (s.data.toList.getD k 0)
      rw [size_toList] at hx1
      rw [← hx] at hnext hx1
      have HX := Lib.hid hx
      clear hx
      obtain ⟨L, hL⟩ : ∃ L, L = Arm.unbits al.data.toList 4 (s.data.toList.take k) := ⟨_, rfl⟩
      rw [← hL] at hnext hown hll
      clear hL
      by_cases hneg : x < 0
      · rw [if_pos hneg, List.append_nil] at hnext
        have HN := Lib.hid hnext
        clear hnext
        go_wp2_with (first
          | ((with_reducible refine wpList_index_str rfl 9 _ _ rfl Tryd.underlying9 s .i64 k ?_ ?_ ?_ ?_ ?_); exact rfl; exact rfl; omega; omega; simp only [Int.toNat_natCast])
          | (go_at_call 28; refine (index_any al (s.data.toList.getD k 0) _ (by omega)).mono ?_; rintro e w2 ⟨rfl, rfl⟩; rw [← HX.out]))
        go_roundw
        case rel => exact ⟨k + 1, by omega, by go_num, by rw [HN.out]; exact hown, hb⟩
        case measure => simp [intOf]; omega
      · obtain ⟨y, rfl⟩ : ∃ y : Nat, x = (y : Int) := ⟨x.toNat, by omega⟩
        rw [if_neg hneg, Int.toNat_natCast] at hnext
        have hyb : (y : Int) ≤ 1025 := by omega
        have HN := Lib.hid hnext
        clear hnext
        go_wp2_with (first
          | ((with_reducible refine wpList_index_str rfl 9 _ _ rfl Tryd.underlying9 s .i64 k ?_ ?_ ?_ ?_ ?_); exact rfl; exact rfl; omega; omega; simp only [Int.toNat_natCast])
          | (go_at_call 28; refine (index_any al (s.data.toList.getD k 0) _ (by omega)).mono ?_; rintro e w2 ⟨rfl, rfl⟩; rw [← HX.out]))
        go_loopw [10, 7] (fun i v wr => ∃ m : Nat, m ≤ 4 ∧ i = .int .i64 (8 / 2 ^ m : Nat) ∧ OwnN wr w.heap.size 3 v (L ++ (Arm.bitsV 4 y).take m) ∧ Below w.heap.size w wr) (fun i _ _ => (intOf i).toNat)
        case atStart => exact ⟨0, by omega, rfl, by rw [List.take_zero, List.append_nil]; exact hown, hb⟩
        case round =>
          clear hown hb
          obtain ⟨m, hm, rfl, hown, hb⟩ := hrel
          by_cases hm8 : m < 4
          · have hp := pw4 m hm8
            have hh := half_pow 8 m
            have hstep := bitsV_take4 y m hm8
            have hq : (y : Int) / ((8 / 2 ^ m : Nat) : Int) % 2 = ((y / (8 / 2 ^ m) % 2 : Nat) : Int) := by simp
            have hlt3 : (L ++ (Arm.bitsV 4 y).take m).length < 1099511627776 := by
              rw [List.length_append, List.length_take, Arm.bitsV_length]; omega
            obtain ⟨P2, hP2⟩ : ∃ P2, P2 = 8 / 2 ^ (m + 1) := ⟨_, rfl⟩
            have HP2 := Lib.hid hP2
            rw [← hP2] at hh
            clear hP2
            generalize 8 / 2 ^ m = P at *
            have hh2 : ((P : Int)) / 2 = (P2 : Int) := by omega
            generalize y / P % 2 = x at hq hstep
            obtain ⟨M, hM⟩ : ∃ M, M = L ++ (Arm.bitsV 4 y).take m := ⟨_, rfl⟩
            rw [← hM] at hown hlt3
            have hyq : 0 ≤ (y : Int) / (P : Int) ∧ (y : Int) / (P : Int) ≤ 1025 := ⟨Int.ediv_nonneg (by omega) (by omega), Int.le_trans (Int.ediv_le_self _ (by omega)) hyb⟩
            have HQ := Lib.hid hq
            have HH := Lib.hid hh2
            have HS := Lib.hid hstep
            have HM := Lib.hid hM
            clear hq hh hh2 hstep hM hll
            go_wp2_with ((with_reducible refine wpList_push_nat rfl _ _ 44 rfl 3 intRow w.heap.size _ _ wr.heap.size 1 x ?_ ?_ (OwnN.alloc hown _) ?_ ?_ ?_ ?_); exact rfl; exact rfl; (rw [← HQ.out]; exact cell_one _ _ _); exact hlt3; (simp only [World.size_alloc]; have := hb.size; omega))
            intro v5 w5 hown5 hb5
            have hb6 : Below w.heap.size w w5 := (hb.alloc hb.size _).trans hb5
            go_wp2_with fail
            go_roundw
            case rel => exact ⟨m + 1, by omega, by rw [HH.out, HP2.out], by rw [HS.out, ← List.append_assoc, ← HM.out]; exact hown5, hb6⟩
            case measure => simp [intOf]; omega
          · have h8 : m = 4 := by omega
            rw [h8, List.take_of_length_le (l := Arm.bitsV 4 _) (by rw [Arm.bitsV_length]; exact Nat.le_refl _), ← HN.out] at hown
            have hz : (((8 / 2 ^ m : Nat) : Int)) = 0 := by rw [h8]; rfl
            rw [hz]
            clear h8 hz hll
            go_wp2_with fail
            go_roundw
            case rel => exact ⟨k + 1, by omega, by go_num, hown, hb⟩
            case measure => simp [intOf]; omega
    · have hk8 : k = s.size := by omega
      rw [hk8, ← size_toList, List.take_length] at hown
      have hu : Arm.unpack al.data.toList 4 s.data.toList = Arm.chars UInt8.ofNat (Arm.unbits al.data.toList 4 s.data.toList) 8 ((Arm.unbits al.data.toList 4 s.data.toList).length / 8) := rfl
      have hle := unbits_bit al.data.toList 4 s.data.toList
      have hll2 := unbits_le al.data.toList 4 s.data.toList
      rw [size_toList] at hll2
      obtain ⟨b, hb0⟩ : ∃ b, b = Arm.unbits al.data.toList 4 s.data.toList := ⟨_, rfl⟩
      rw [← hb0] at hown hu hle hll2
      have HU := Lib.hid hu
      have HLE := Lib.hid hle
      clear hk8 hll hb0 hu hle
      go_wp2_with fail
      generalize decide ((k : Int) < ↑s.size) = b16
      have hB := hown
      go_loopw [12, 11] (fun i v wr => ∃ j : Nat, j ≤ b.length / 8 ∧ i = .int .i64 (8 * j : Nat) ∧ OwnB wr w.heap.size 5 v (Arm.chars UInt8.ofNat b 8 j) ∧ OwnN wr w.heap.size 3 u7 b ∧ Below w.heap.size w wr) (fun i _ _ => b.length - (intOf i).toNat)
      case atStart => exact ⟨0, by omega, rfl, OwnB.nil _ _ _, hB, hb⟩
      case round =>
        clear hB hb hown
        obtain ⟨j, hj, rfl, hown, hB, hb⟩ := hrel
        rcases hB.form with ⟨rfl, h0⟩ | ⟨g, cap, rfl, hcap, hg, hgl⟩
        · obtain rfl : j = 0 := by rw [h0] at hj; simpa using hj
          have hu := HU.out
          rw [h0] at hu
          have HU2 := Lib.hid (hu.trans (show _ = Arm.chars UInt8.ofNat b 8 0 from rfl))
          clear hu h0
          go_wp2_with ((with_reducible refine wpList_own_string rfl 40 9 _ rfl 5 Tryd.underlying40 (by kernel_rfl) (by kernel_rfl) w.heap.size _ _ ?_ hown ?_); exact rfl)
          go_ret
          exact ⟨by rw [HU2.out]; rfl, hb⟩
        by_cases hlt2 : j < b.length / 8
        · have hn := numN_lt b (8 * j) HLE.out 8
          have hlt3 : (Arm.chars UInt8.ofNat b 8 j).length < 140737488355328 := by rw [chars_len]; omega
          have hsucc := Arm.chars_succ UInt8.ofNat b 8 j
          have hc : ((UInt8.ofNat (Arm.numN b (8 * j) 8)).toNat : Int) = (Arm.numN b (8 * j) 8 : Int) := by rw [Arm.ofNat_lt _ (by omega)]
          obtain ⟨L, hL⟩ : ∃ L, L = Arm.chars UInt8.ofNat b 8 j := ⟨_, rfl⟩
          rw [← hL] at hown hlt3 hsucc
          have HS := Lib.hid hsucc
          have HC := Lib.hid hc
          have hlt4 : 8 * j + 8 ≤ b.length := by omega
          clear hsucc hL hc
          go_wp2_with (first
            | (go_at_call 26; refine (number_any b _ w.heap.size (8 * j) 8 _ hB HLE.out (by omega) (by omega) (by omega)).mono ?_; rintro e w2 ⟨rfl, rfl⟩)
            | ((with_reducible refine wpList_push_byte rfl _ _ 40 rfl 5 byteRow w.heap.size _ _ wr.heap.size 1 (UInt8.ofNat (Arm.numN b (8 * j) 8)) ?_ ?_ (OwnB.alloc hown _) ?_ ?_ ?_ ?_); exact rfl; exact rfl; (rw [HC.out]; exact cell_one _ _ _); exact hlt3; (simp only [World.size_alloc]; have := hb.size; omega)))
          intro v5 w5 hown5 hgr hb5
          have hB5 : OwnN w5 w.heap.size 3 (.slice (some ⟨g, 0, none⟩) b.length cap) b := ownsRow_grown (OwnN.alloc hB _) (OwnB.alloc hown _) (by decide) hgr
          rw [← HS.out] at hown5
          have hb6 : Below w.heap.size w w5 := (hb.alloc hb.size _).trans hb5
          go_wp2_with fail
          go_roundw
          case rel => exact ⟨j + 1, by omega, by go_num, hown5, hB5, hb6⟩
          case measure => simp [intOf]; omega
        · have hl3 : b.length < 8 * j + 8 := by omega
          have hj2 : j = b.length / 8 := by omega
          have hu := HU.out
          rw [← hj2] at hu
          have HU2 := Lib.hid hu
          clear hu hj2
          go_wp2_with ((with_reducible refine wpList_own_string rfl 40 9 _ rfl 5 Tryd.underlying40 (by kernel_rfl) (by kernel_rfl) w.heap.size _ _ ?_ hown ?_); exact rfl)
          go_ret
          exact ⟨by rw [HU2.out]; rfl, hb⟩
theorem bitsV_take6 (v m : Nat) (hm : m < 6) : (Arm.bitsV 6 v).take (m + 1) = (Arm.bitsV 6 v).take m ++ [v / (32 / 2 ^ m) % 2] := by
  rw [List.take_add_one]
  congr 1
  unfold Arm.bitsV
  have e : 32 / 2 ^ m = 2 ^ (6 - 1 - m) := by
    match m, hm with
    | 0, _ => rfl | 1, _ => rfl | 2, _ => rfl | 3, _ => rfl | 4, _ => rfl | 5, _ => rfl
  simp [hm, e]
theorem pw6 (m : Nat) (hm : m < 6) : 0 < 32 / 2 ^ m ∧ 32 / 2 ^ m ≤ 32 := by
  match m, hm with
  | 0, _ => decide | 1, _ => decide | 2, _ => decide | 3, _ => decide | 4, _ => decide | 5, _ => decide
set_option maxRecDepth 100000 in
set_option maxHeartbeats 4000000 in
theorem unpack6_any (s al : ByteArray) (w : World) (hs : s.size ≤ 1048576) (hal : al.size ≤ 1024) :
    Calls Tryd.prog 23 #[.string s, .string al, .int .i64 6] w fun e w' => e = .returned (.string ⟨(Arm.unpack al.data.toList 6 s.data.toList).toArray⟩) ∧ Below w.heap.size w w' := by
  go_enter Tryd.func23, Tryd.ntmps23
  go_wp2_with fail
  go_loopw [8, 7] (fun i v wr => ∃ k : Nat, k ≤ s.size ∧ i = .int .i64 k ∧ OwnN wr w.heap.size 3 v (Arm.unbits al.data.toList 6 (s.data.toList.take k)) ∧ Below w.heap.size w wr) (fun i _ _ => s.size - (intOf i).toNat)
  case atStart => exact ⟨0, by omega, rfl, OwnN.nil _ _ _, Below.refl _ _⟩
  case round =>
    obtain ⟨k, hk, rfl, hown, hb⟩ := hrel
    have hll := unbits_le al.data.toList 6 (s.data.toList.take k)
    rw [List.length_take, size_toList] at hll
    by_cases hlt : k < s.size
    · have hbd := byteAt_bd s.data.toList k
      have hnext := unbits_take al.data.toList 6 s.data.toList k (by rw [size_toList]; exact hlt)
      obtain ⟨wo, rfl⟩ : ∃ wo : World, wo = wr := ⟨_, rfl⟩
      obtain ⟨x, hx⟩ : ∃ x, x = Arm.idx al.data.toList (s.data.toList.getD k 0) := ⟨_, rfl⟩
      have hx1 := idx_bd al.data.toList (s.data.toList.getD k 0)
      rw [size_toList] at hx1
      rw [← hx] at hnext hx1
      have HX := Lib.hid hx
      clear hx
      obtain ⟨L, hL⟩ : ∃ L, L = Arm.unbits al.data.toList 6 (s.data.toList.take k) := ⟨_, rfl⟩
      rw [← hL] at hnext hown hll
      clear hL
      by_cases hneg : x < 0
      · rw [if_pos hneg, List.append_nil] at hnext
        have HN := Lib.hid hnext
        clear hnext
        go_wp2_with (first
          | ((with_reducible refine wpList_index_str rfl 9 _ _ rfl Tryd.underlying9 s .i64 k ?_ ?_ ?_ ?_ ?_); exact rfl; exact rfl; omega; omega; simp only [Int.toNat_natCast])
          | (go_at_call 28; refine (index_any al (s.data.toList.getD k 0) _ (by omega)).mono ?_; rintro e w2 ⟨rfl, rfl⟩; rw [← HX.out]))
        go_roundw
        case rel => exact ⟨k + 1, by omega, by go_num, by rw [HN.out]; exact hown, hb⟩
        case measure => simp [intOf]; omega
      · obtain ⟨y, rfl⟩ : ∃ y : Nat, x = (y : Int) := ⟨x.toNat, by omega⟩
        rw [if_neg hneg, Int.toNat_natCast] at hnext
        have hyb : (y : Int) ≤ 1025 := by omega
        have HN := Lib.hid hnext
        clear hnext
        go_wp2_with (first
          | ((with_reducible refine wpList_index_str rfl 9 _ _ rfl Tryd.underlying9 s .i64 k ?_ ?_ ?_ ?_ ?_); exact rfl; exact rfl; omega; omega; simp only [Int.toNat_natCast])
          | (go_at_call 28; refine (index_any al (s.data.toList.getD k 0) _ (by omega)).mono ?_; rintro e w2 ⟨rfl, rfl⟩; rw [← HX.out]))
        go_loopw [10, 7] (fun i v wr => ∃ m : Nat, m ≤ 6 ∧ i = .int .i64 (32 / 2 ^ m : Nat) ∧ OwnN wr w.heap.size 3 v (L ++ (Arm.bitsV 6 y).take m) ∧ Below w.heap.size w wr) (fun i _ _ => (intOf i).toNat)
        case atStart => exact ⟨0, by omega, rfl, by rw [List.take_zero, List.append_nil]; exact hown, hb⟩
        case round =>
          clear hown hb
          obtain ⟨m, hm, rfl, hown, hb⟩ := hrel
          by_cases hm8 : m < 6
          · have hp := pw6 m hm8
            have hh := half_pow 32 m
            have hstep := bitsV_take6 y m hm8
            have hq : (y : Int) / ((32 / 2 ^ m : Nat) : Int) % 2 = ((y / (32 / 2 ^ m) % 2 : Nat) : Int) := by simp
            have hlt3 : (L ++ (Arm.bitsV 6 y).take m).length < 1099511627776 := by
              rw [List.length_append, List.length_take, Arm.bitsV_length]; omega
            obtain ⟨P2, hP2⟩ : ∃ P2, P2 = 32 / 2 ^ (m + 1) := ⟨_, rfl⟩
            have HP2 := Lib.hid hP2
            rw [← hP2] at hh
            clear hP2
            generalize 32 / 2 ^ m = P at *
            have hh2 : ((P : Int)) / 2 = (P2 : Int) := by omega
            generalize y / P % 2 = x at hq hstep
            obtain ⟨M, hM⟩ : ∃ M, M = L ++ (Arm.bitsV 6 y).take m := ⟨_, rfl⟩
            rw [← hM] at hown hlt3
            have hyq : 0 ≤ (y : Int) / (P : Int) ∧ (y : Int) / (P : Int) ≤ 1025 := ⟨Int.ediv_nonneg (by omega) (by omega), Int.le_trans (Int.ediv_le_self _ (by omega)) hyb⟩
            have HQ := Lib.hid hq
            have HH := Lib.hid hh2
            have HS := Lib.hid hstep
            have HM := Lib.hid hM
            clear hq hh hh2 hstep hM hll
            go_wp2_with ((with_reducible refine wpList_push_nat rfl _ _ 44 rfl 3 intRow w.heap.size _ _ wr.heap.size 1 x ?_ ?_ (OwnN.alloc hown _) ?_ ?_ ?_ ?_); exact rfl; exact rfl; (rw [← HQ.out]; exact cell_one _ _ _); exact hlt3; (simp only [World.size_alloc]; have := hb.size; omega))
            intro v5 w5 hown5 hb5
            have hb6 : Below w.heap.size w w5 := (hb.alloc hb.size _).trans hb5
            go_wp2_with fail
            go_roundw
            case rel => exact ⟨m + 1, by omega, by rw [HH.out, HP2.out], by rw [HS.out, ← List.append_assoc, ← HM.out]; exact hown5, hb6⟩
            case measure => simp [intOf]; omega
          · have h8 : m = 6 := by omega
            rw [h8, List.take_of_length_le (l := Arm.bitsV 6 _) (by rw [Arm.bitsV_length]; exact Nat.le_refl _), ← HN.out] at hown
            have hz : (((32 / 2 ^ m : Nat) : Int)) = 0 := by rw [h8]; rfl
            rw [hz]
            clear h8 hz hll
            go_wp2_with fail
            go_roundw
            case rel => exact ⟨k + 1, by omega, by go_num, hown, hb⟩
            case measure => simp [intOf]; omega
    · have hk8 : k = s.size := by omega
      rw [hk8, ← size_toList, List.take_length] at hown
      have hu : Arm.unpack al.data.toList 6 s.data.toList = Arm.chars UInt8.ofNat (Arm.unbits al.data.toList 6 s.data.toList) 8 ((Arm.unbits al.data.toList 6 s.data.toList).length / 8) := rfl
      have hle := unbits_bit al.data.toList 6 s.data.toList
      have hll2 := unbits_le al.data.toList 6 s.data.toList
      rw [size_toList] at hll2
      obtain ⟨b, hb0⟩ : ∃ b, b = Arm.unbits al.data.toList 6 s.data.toList := ⟨_, rfl⟩
      rw [← hb0] at hown hu hle hll2
      have HU := Lib.hid hu
      have HLE := Lib.hid hle
      clear hk8 hll hb0 hu hle
      go_wp2_with fail
      generalize decide ((k : Int) < ↑s.size) = b16
      have hB := hown
      go_loopw [12, 11] (fun i v wr => ∃ j : Nat, j ≤ b.length / 8 ∧ i = .int .i64 (8 * j : Nat) ∧ OwnB wr w.heap.size 5 v (Arm.chars UInt8.ofNat b 8 j) ∧ OwnN wr w.heap.size 3 u7 b ∧ Below w.heap.size w wr) (fun i _ _ => b.length - (intOf i).toNat)
      case atStart => exact ⟨0, by omega, rfl, OwnB.nil _ _ _, hB, hb⟩
      case round =>
        clear hB hb hown
        obtain ⟨j, hj, rfl, hown, hB, hb⟩ := hrel
        rcases hB.form with ⟨rfl, h0⟩ | ⟨g, cap, rfl, hcap, hg, hgl⟩
        · obtain rfl : j = 0 := by rw [h0] at hj; simpa using hj
          have hu := HU.out
          rw [h0] at hu
          have HU2 := Lib.hid (hu.trans (show _ = Arm.chars UInt8.ofNat b 8 0 from rfl))
          clear hu h0
          go_wp2_with ((with_reducible refine wpList_own_string rfl 40 9 _ rfl 5 Tryd.underlying40 (by kernel_rfl) (by kernel_rfl) w.heap.size _ _ ?_ hown ?_); exact rfl)
          go_ret
          exact ⟨by rw [HU2.out]; rfl, hb⟩
        by_cases hlt2 : j < b.length / 8
        · have hn := numN_lt b (8 * j) HLE.out 8
          have hlt3 : (Arm.chars UInt8.ofNat b 8 j).length < 140737488355328 := by rw [chars_len]; omega
          have hsucc := Arm.chars_succ UInt8.ofNat b 8 j
          have hc : ((UInt8.ofNat (Arm.numN b (8 * j) 8)).toNat : Int) = (Arm.numN b (8 * j) 8 : Int) := by rw [Arm.ofNat_lt _ (by omega)]
          obtain ⟨L, hL⟩ : ∃ L, L = Arm.chars UInt8.ofNat b 8 j := ⟨_, rfl⟩
          rw [← hL] at hown hlt3 hsucc
          have HS := Lib.hid hsucc
          have HC := Lib.hid hc
          have hlt4 : 8 * j + 8 ≤ b.length := by omega
          clear hsucc hL hc
          go_wp2_with (first
            | (go_at_call 26; refine (number_any b _ w.heap.size (8 * j) 8 _ hB HLE.out (by omega) (by omega) (by omega)).mono ?_; rintro e w2 ⟨rfl, rfl⟩)
            | ((with_reducible refine wpList_push_byte rfl _ _ 40 rfl 5 byteRow w.heap.size _ _ wr.heap.size 1 (UInt8.ofNat (Arm.numN b (8 * j) 8)) ?_ ?_ (OwnB.alloc hown _) ?_ ?_ ?_ ?_); exact rfl; exact rfl; (rw [HC.out]; exact cell_one _ _ _); exact hlt3; (simp only [World.size_alloc]; have := hb.size; omega)))
          intro v5 w5 hown5 hgr hb5
          have hB5 : OwnN w5 w.heap.size 3 (.slice (some ⟨g, 0, none⟩) b.length cap) b := ownsRow_grown (OwnN.alloc hB _) (OwnB.alloc hown _) (by decide) hgr
          rw [← HS.out] at hown5
          have hb6 : Below w.heap.size w w5 := (hb.alloc hb.size _).trans hb5
          go_wp2_with fail
          go_roundw
          case rel => exact ⟨j + 1, by omega, by go_num, hown5, hB5, hb6⟩
          case measure => simp [intOf]; omega
        · have hl3 : b.length < 8 * j + 8 := by omega
          have hj2 : j = b.length / 8 := by omega
          have hu := HU.out
          rw [← hj2] at hu
          have HU2 := Lib.hid hu
          clear hu hj2
          go_wp2_with ((with_reducible refine wpList_own_string rfl 40 9 _ rfl 5 Tryd.underlying40 (by kernel_rfl) (by kernel_rfl) w.heap.size _ _ ?_ hown ?_); exact rfl)
          go_ret
          exact ⟨by rw [HU2.out]; rfl, hb⟩
def pairOf (p : List UInt8 × Int) : Value := .tuple #[.string ⟨p.1.toArray⟩, .int .i64 p.2]
theorem mk_toList (s : ByteArray) (l : List UInt8) (h : l = s.data.toList) : (⟨l.toArray⟩ : ByteArray) = s := by
  subst h
  cases s
  simp
end Go.Proofs.YtjhmfcmcgibgmaaDoor
