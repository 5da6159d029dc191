/-
  The reference's Hex, Base64 and index by their contracts.
-/
import Derived.Test.YtjhmfcmcgibgmaaDoorArmR
namespace Go.Proofs.YtjhmfcmcgibgmaaDoor
open Go.RowKit
theorem bitsL_le (l : List UInt8) (j : Nat) : (Arm.bitsL l).getD j 0 ≤ 1 := by
  induction l generalizing j with
  | nil => simp [Arm.bitsL]
  | cons c l ih =>
    rw [Arm.bitsL_cons, List.getD_eq_getElem?_getD]
    by_cases h : j < 8
    · rw [List.getElem?_append_left (by rw [Arm.bitsV_length]; exact h)]
      unfold Arm.bitsV
      rw [List.getElem?_map, List.getElem?_range h]
      show _ % 2 ≤ 1
      omega
    · rw [List.getElem?_append_right (by rw [Arm.bitsV_length]; omega), ← List.getD_eq_getElem?_getD]
      exact ih _
theorem hexL_bits' (s : ByteArray) : Arm.chars Arm.hexC (Arm.bitsL s.data.toList) 4 (2 * s.size) = Arm.hexL s.data.toList := by rw [← size_toList]; exact Arm.hexL_bits _
theorem chars_len (al : Nat → UInt8) (b : List Nat) (n m : Nat) : (Arm.chars al b n m).length = m := by simp [Arm.chars]
set_option maxRecDepth 100000 in
set_option maxHeartbeats 4000000 in
theorem rhex_any (s : ByteArray) (w : World) (hs : s.size ≤ 1048576) :
    Calls Tryd.prog 16 #[.string s] w fun e w' => e = .returned (.string ⟨(Arm.hexL s.data.toList).toArray⟩) ∧ Below w.heap.size w w' := by
  go_enter Tryd.func16, Tryd.ntmps16
  go_wp2_with (go_at_call 25; refine (bits_any _ _ hs).mono ?_; rintro e w1 ⟨v1, rfl, hB, hb1⟩)
  have hbits := hexL_bits' s
  have hle := bitsL_le s.data.toList
  have hlen := Arm.bitsL_length s.data.toList
  rw [size_toList] at hlen
  generalize Arm.bitsL s.data.toList = b at *
  have HX := Lib.hid hbits
  have HLE := Lib.hid hle
  have HLEN := Lib.hid hlen
  have hl1 : b.length ≤ 8388608 := by omega
  have hl2 : (b.length : Int) = 8 * s.size := by omega
  clear hbits hle hlen hl2
  go_wp2_with fail
  go_loopw [5, 4] (fun i v wr => ∃ j : Nat, j ≤ 2 * s.size ∧ i = .int .i64 (4 * j : Nat) ∧ OwnB wr w.heap.size 5 v (Arm.chars Arm.hexC b 4 j) ∧ OwnN wr w.heap.size 3 v1 b ∧ Below w.heap.size w wr) (fun i _ _ => 8 * s.size - (intOf i).toNat)
  case atStart => exact ⟨0, by omega, rfl, OwnB.nil _ _ _, hB, hb1⟩
  case round =>
    clear hB hb1
    obtain ⟨j, hj, rfl, hown, hB, hb⟩ := hrel
    have hl2 := HLEN.out
    rcases hB.form with ⟨rfl, h0⟩ | ⟨g, cap, rfl, hcap, hg, hgl⟩
    · have hs0 : s.size = 0 := by rw [h0] at hl2; simp only [List.length_nil] at hl2; omega
      obtain rfl : j = 0 := by omega
      have hx := HX.out
      rw [hs0] at hx
      have HX2 := Lib.hid hx
      clear hl2 h0 hs0 hx
      go_wp2_with ((with_reducible refine wpList_own_string rfl 40 9 _ rfl 5 Tryd.underlying40 (by kernel_rfl) (by kernel_rfl) w.heap.size _ _ ?_ hown ?_); exact rfl)
      go_ret
      exact ⟨by rw [← HX2.out]; rfl, hb⟩
    by_cases hlt : j < 2 * s.size
    · have hn := numN_lt b (4 * j) HLE.out 4
      have hlt3 : (Arm.chars Arm.hexC b 4 j).length < 140737488355328 := by rw [chars_len]; omega
      have hsucc := Arm.chars_succ Arm.hexC b 4 j
      obtain ⟨L, hL⟩ : ∃ L, L = Arm.chars Arm.hexC b 4 j := ⟨_, rfl⟩
      rw [← hL] at hown hlt3 hsucc
      have HS := Lib.hid hsucc
      clear hsucc hL
      have hlt4 : 4 * j < b.length := by omega
      clear hl2
      go_wp2_with (first
        | (go_at_call 26; refine (number_any b _ w.heap.size (4 * j) 4 _ hB HLE.out (by omega) (by omega) (by omega)).mono ?_; rintro e w2 ⟨rfl, rfl⟩)
        | ((with_reducible refine wpList_index_str rfl 9 _ _ rfl Tryd.underlying9 ⟨#[48, 49, 50, 51, 52, 53, 54, 55, 56, 57, 97, 98, 99, 100, 101, 102]⟩ .i64 (Arm.numN b (4 * j) 4 : Nat) ?_ ?_ ?_ ?_ ?_); exact rfl; exact rfl; omega; (show (_ : Int) < 16; omega); simp only [Int.toNat_natCast])
        | ((with_reducible refine wpList_push_byte rfl _ _ 40 rfl 5 byteRow w.heap.size _ _ wr.heap.size 1 (Arm.hexC (Arm.numN b (4 * j) 4)) ?_ ?_ (OwnB.alloc hown _) ?_ ?_ ?_ ?_); exact rfl; exact rfl; exact cell_one _ _ _; exact hlt3; (simp only [World.size_alloc]; have := hb.size; omega)))
      intro v5 w5 hown5 hgr hb5
      have hB5 : OwnN w5 w.heap.size 3 (.slice (some ⟨g, 0, none⟩) b.length cap) b := ownsRow_grown (OwnN.alloc hB _) (OwnB.alloc hown _) (by decide) hgr
      rw [← HS.out] at hown5
      have hb6 : Below w.heap.size w w5 := (hb.alloc hb.size _).trans hb5
      go_wp2_with fail
      go_roundw
      case rel => exact ⟨j + 1, by omega, by go_num, hown5, hB5, hb6⟩
      case measure => simp [intOf]; omega
    · have hj2 : j = 2 * s.size := by omega
      rw [hj2, HX.out] at hown
      have hl3 : (b.length : Int) = 4 * j := by omega
      clear hl2 hj2
      go_wp2_with ((with_reducible refine wpList_own_string rfl 40 9 _ rfl 5 Tryd.underlying40 (by kernel_rfl) (by kernel_rfl) w.heap.size _ _ ?_ hown ?_); exact rfl)
      go_ret
      exact ⟨rfl, hb⟩
theorem b64_bits (s : ByteArray) : Arm.chars Arm.sixC (Arm.bitsL s.data.toList) 6 ((8 * s.size + 5) / 6) ++ List.replicate ((4 - (Arm.chars Arm.sixC (Arm.bitsL s.data.toList) 6 ((8 * s.size + 5) / 6)).length % 4) % 4) 61 = Arm.b64R s.data.toList := by
  rw [chars_len]
  unfold Arm.b64R
  rw [size_toList]
def lenV : Value → Nat | .slice _ n _ => n | _ => 0
set_option maxRecDepth 100000 in
set_option maxHeartbeats 4000000 in
theorem rb64_any (s : ByteArray) (w : World) (hs : s.size ≤ 1048576) :
    Calls Tryd.prog 18 #[.string s] w fun e w' => e = .returned (.string ⟨(Arm.b64R s.data.toList).toArray⟩) ∧ Below w.heap.size w w' := by
  go_enter Tryd.func18, Tryd.ntmps18
  go_wp2_with (go_at_call 25; refine (bits_any _ _ hs).mono ?_; rintro e w1 ⟨v1, rfl, hB, hb1⟩)
  have hbits := b64_bits s
  have hle := bitsL_le s.data.toList
  have hlen := Arm.bitsL_length s.data.toList
  rw [size_toList] at hlen
  generalize Arm.bitsL s.data.toList = b at *
  have HX := Lib.hid hbits
  have HLE := Lib.hid hle
  have HLEN := Lib.hid hlen
  have hl1 : b.length ≤ 8388608 := by omega
  have hl2 : (b.length : Int) = 8 * s.size := by omega
  clear hbits hle hlen hl2
  go_wp2_with fail
  go_loopw [5, 4] (fun i v wr => ∃ j : Nat, j ≤ (8 * s.size + 5) / 6 ∧ i = .int .i64 (6 * j : Nat) ∧ OwnB wr w.heap.size 5 v (Arm.chars Arm.sixC b 6 j) ∧ OwnN wr w.heap.size 3 v1 b ∧ Below w.heap.size w wr) (fun i _ _ => 8 * s.size + 5 - (intOf i).toNat)
  case atStart => exact ⟨0, by omega, rfl, OwnB.nil _ _ _, hB, hb1⟩
  case round =>
    clear hB hb1
    obtain ⟨j, hj, rfl, hown, hB, hb⟩ := hrel
    have hl2 := HLEN.out
    rcases hB.form with ⟨rfl, h0⟩ | ⟨g, cap, rfl, hcap, hg, hgl⟩
    · have hs0 : s.size = 0 := by rw [h0] at hl2; simp only [List.length_nil] at hl2; omega
      obtain rfl : j = 0 := by omega
      have hJ : (Arm.chars Arm.sixC b 6 ((8 * s.size + 5) / 6)).length ≤ (8 * s.size + 5) / 6 ∧ (8 * s.size + 5) / 6 ≤ (Arm.chars Arm.sixC b 6 ((8 * s.size + 5) / 6)).length := by rw [chars_len]; exact ⟨Nat.le_refl _, Nat.le_refl _⟩
      have hx := HX.out
      obtain ⟨L, hL⟩ : ∃ L, L = Arm.chars Arm.sixC b 6 ((8 * s.size + 5) / 6) := ⟨_, rfl⟩
      have hjj : 0 = (8 * s.size + 5) / 6 := by omega
      rw [← hL] at hx
      rw [← hL] at hJ
      rw [hjj, ← hL] at hown
      clear hl2 h0 hs0
      have HXX := Lib.hid hx
      clear hx hL hjj
      go_wp2_with fail
      generalize ((6 * 0 : Nat) : Int) = i5
      go_loopw [4] (fun v wr => ∃ q : Nat, q ≤ (4 - L.length % 4) % 4 ∧ OwnB wr w.heap.size 5 v (L ++ List.replicate q 61) ∧ Below w.heap.size w wr) (fun v _ => L.length + 4 - lenV v)
      case atStart => exact ⟨0, by omega, by rw [List.replicate_zero, List.append_nil]; exact hown, hb⟩
      case round =>
        clear hown hb hB
        obtain ⟨q, hq, hown, hb⟩ := hrel
        have hlen : (L ++ List.replicate q (61 : UInt8)).length = L.length + q := by rw [List.length_append, List.length_replicate]
        have hsucc : L ++ List.replicate q (61 : UInt8) ++ [61] = L ++ List.replicate (q + 1) 61 := by rw [List.append_assoc, ← List.replicate_succ']
        have hqq : q = (4 - L.length % 4) % 4 → L ++ List.replicate q (61 : UInt8) = Arm.b64R s.data.toList := fun h => by rw [h]; exact HXX.out
        obtain ⟨M, hM⟩ : ∃ M, M = L ++ List.replicate q (61 : UInt8) := ⟨_, rfl⟩
        rw [← hM] at hown hlen hsucc hqq
        have HS := Lib.hid hsucc
        have HQ := Lib.hid hqq
        clear hsucc hM hqq
        have hMl : M.length ≤ 16777216 := by omega
        rcases hown.form with ⟨rfl, h0⟩ | ⟨g2, cap2, rfl, hcap2, hg2, hgl2⟩
        · have hM0 : M.length = 0 := by rw [h0]; rfl
          have hq0 : q = (4 - L.length % 4) % 4 := by omega
          have hf := HQ.out hq0
          rw [hf] at hown
          clear hM0 h0 hq0 hf hlen
          go_wp2_with ((with_reducible refine wpList_own_string rfl 40 9 _ rfl 5 Tryd.underlying40 (by kernel_rfl) (by kernel_rfl) w.heap.size _ _ ?_ hown ?_); exact rfl)
          go_ret
          exact ⟨rfl, hb⟩
        by_cases hlt2 : q < (4 - L.length % 4) % 4
        · have hmod : (M.length : Int) % 4 ≠ 0 := by omega
          have hlen1 : M.length ≤ L.length + q ∧ L.length + q ≤ M.length := by omega
          clear hlen
          go_wp2_with ((with_reducible refine wpList_push_byte rfl _ _ 40 rfl 5 byteRow w.heap.size _ _ wr.heap.size 1 61 ?_ ?_ (OwnB.alloc hown _) ?_ ?_ ?_ ?_); exact rfl; exact rfl; exact cell_one _ _ _; omega; (simp only [World.size_alloc]; have := hb.size; omega))
          intro v5 w5 hown5 _ hb5
          have hb6 : Below w.heap.size w w5 := (hb.alloc hb.size _).trans hb5
          rw [HS.out] at hown5
          have hl5 : (L ++ List.replicate (q + 1) (61 : UInt8)).length = L.length + (q + 1) := by rw [List.length_append, List.length_replicate]
          obtain ⟨g5, c5, rfl⟩ : ∃ g5 c5, v5 = .slice (some ⟨g5, 0, none⟩) (L.length + (q + 1)) c5 := by
            rcases hown5.form with ⟨_, h0⟩ | ⟨g5, c5, h5, _⟩
            · rw [h0] at hl5; simp only [List.length_nil] at hl5; omega
            · exact ⟨g5, c5, by rw [h5, hl5]⟩
          clear hl5
          go_wp2_with fail
          go_roundw
          case rel => exact ⟨q + 1, by omega, hown5, hb6⟩
          case measure => simp only [lenV]; omega
        · have hmod : (M.length : Int) % 4 = 0 := by omega
          have hf := HQ.out (by omega)
          have HF := Lib.hid hf
          clear hlen hf
          go_wp2_with ((with_reducible refine wpList_own_string rfl 40 9 _ rfl 5 Tryd.underlying40 (by kernel_rfl) (by kernel_rfl) w.heap.size _ _ ?_ hown ?_); exact rfl)
          go_ret
          exact ⟨by rw [← HF.out]; rfl, hb⟩
    by_cases hlt : j < (8 * s.size + 5) / 6
    · have hn := numN_lt b (6 * j) HLE.out 6
      have hlt3 : (Arm.chars Arm.sixC b 6 j).length < 140737488355328 := by rw [chars_len]; omega
      have hsucc := Arm.chars_succ Arm.sixC b 6 j
      obtain ⟨L, hL⟩ : ∃ L, L = Arm.chars Arm.sixC b 6 j := ⟨_, rfl⟩
      rw [← hL] at hown hlt3 hsucc
      have HS := Lib.hid hsucc
      clear hsucc hL
      have hlt4 : 6 * j < b.length := by omega
      clear hl2
      go_wp2_with (first
        | (go_at_call 26; refine (number_any b _ w.heap.size (6 * j) 6 _ hB HLE.out (by omega) (by omega) (by omega)).mono ?_; rintro e w2 ⟨rfl, rfl⟩)
        | ((with_reducible refine wpList_index_str rfl 9 _ _ rfl Tryd.underlying9 ⟨#[65, 66, 67, 68, 69, 70, 71, 72, 73, 74, 75, 76, 77, 78, 79, 80, 81, 82, 83, 84, 85, 86, 87, 88, 89, 90, 97, 98, 99, 100, 101, 102, 103, 104, 105, 106, 107, 108, 109, 110, 111, 112, 113, 114, 115, 116, 117, 118, 119, 120, 121, 122, 48, 49, 50, 51, 52, 53, 54, 55, 56, 57, 43, 47]⟩ .i64 (Arm.numN b (6 * j) 6 : Nat) ?_ ?_ ?_ ?_ ?_); exact rfl; exact rfl; omega; (show (_ : Int) < 64; omega); simp only [Int.toNat_natCast])
        | ((with_reducible refine wpList_push_byte rfl _ _ 40 rfl 5 byteRow w.heap.size _ _ wr.heap.size 1 (Arm.sixC (Arm.numN b (6 * j) 6)) ?_ ?_ (OwnB.alloc hown _) ?_ ?_ ?_ ?_); exact rfl; exact rfl; exact cell_one _ _ _; exact hlt3; (simp only [World.size_alloc]; have := hb.size; omega)))
      intro v5 w5 hown5 hgr hb5
      have hB5 : OwnN w5 w.heap.size 3 (.slice (some ⟨g, 0, none⟩) b.length cap) b := ownsRow_grown (OwnN.alloc hB _) (OwnB.alloc hown _) (by decide) hgr
      rw [← HS.out] at hown5
      have hb6 : Below w.heap.size w w5 := (hb.alloc hb.size _).trans hb5
      go_wp2_with fail
      go_roundw
      case rel => exact ⟨j + 1, by omega, by go_num, hown5, hB5, hb6⟩
      case measure => simp [intOf]; omega
    · have hl3 : (b.length : Int) ≤ 6 * j := by omega
      have hJ : (Arm.chars Arm.sixC b 6 ((8 * s.size + 5) / 6)).length ≤ (8 * s.size + 5) / 6 ∧ (8 * s.size + 5) / 6 ≤ (Arm.chars Arm.sixC b 6 ((8 * s.size + 5) / 6)).length := by rw [chars_len]; exact ⟨Nat.le_refl _, Nat.le_refl _⟩
      have hx := HX.out
      obtain ⟨L, hL⟩ : ∃ L, L = Arm.chars Arm.sixC b 6 ((8 * s.size + 5) / 6) := ⟨_, rfl⟩
      have hjj : j = (8 * s.size + 5) / 6 := by omega
      rw [← hL] at hx
      rw [← hL] at hJ
      rw [hjj, ← hL] at hown
      clear hl2
      have HXX := Lib.hid hx
      clear hx hL hjj
      go_wp2_with fail
      generalize ((6 * j : Nat) : Int) = i5
      go_loopw [4] (fun v wr => ∃ q : Nat, q ≤ (4 - L.length % 4) % 4 ∧ OwnB wr w.heap.size 5 v (L ++ List.replicate q 61) ∧ Below w.heap.size w wr) (fun v _ => L.length + 4 - lenV v)
      case atStart => exact ⟨0, by omega, by rw [List.replicate_zero, List.append_nil]; exact hown, hb⟩
      case round =>
        clear hown hb hB
        obtain ⟨q, hq, hown, hb⟩ := hrel
        have hlen : (L ++ List.replicate q (61 : UInt8)).length = L.length + q := by rw [List.length_append, List.length_replicate]
        have hsucc : L ++ List.replicate q (61 : UInt8) ++ [61] = L ++ List.replicate (q + 1) 61 := by rw [List.append_assoc, ← List.replicate_succ']
        have hqq : q = (4 - L.length % 4) % 4 → L ++ List.replicate q (61 : UInt8) = Arm.b64R s.data.toList := fun h => by rw [h]; exact HXX.out
        obtain ⟨M, hM⟩ : ∃ M, M = L ++ List.replicate q (61 : UInt8) := ⟨_, rfl⟩
        rw [← hM] at hown hlen hsucc hqq
        have HS := Lib.hid hsucc
        have HQ := Lib.hid hqq
        clear hsucc hM hqq
        have hMl : M.length ≤ 16777216 := by omega
        rcases hown.form with ⟨rfl, h0⟩ | ⟨g2, cap2, rfl, hcap2, hg2, hgl2⟩
        · have hM0 : M.length = 0 := by rw [h0]; rfl
          have hq0 : q = (4 - L.length % 4) % 4 := by omega
          have hf := HQ.out hq0
          rw [hf] at hown
          clear hM0 h0 hq0 hf hlen
          go_wp2_with ((with_reducible refine wpList_own_string rfl 40 9 _ rfl 5 Tryd.underlying40 (by kernel_rfl) (by kernel_rfl) w.heap.size _ _ ?_ hown ?_); exact rfl)
          go_ret
          exact ⟨rfl, hb⟩
        by_cases hlt2 : q < (4 - L.length % 4) % 4
        · have hmod : (M.length : Int) % 4 ≠ 0 := by omega
          have hlen1 : M.length ≤ L.length + q ∧ L.length + q ≤ M.length := by omega
          clear hlen
          go_wp2_with ((with_reducible refine wpList_push_byte rfl _ _ 40 rfl 5 byteRow w.heap.size _ _ wr.heap.size 1 61 ?_ ?_ (OwnB.alloc hown _) ?_ ?_ ?_ ?_); exact rfl; exact rfl; exact cell_one _ _ _; omega; (simp only [World.size_alloc]; have := hb.size; omega))
          intro v5 w5 hown5 _ hb5
          have hb6 : Below w.heap.size w w5 := (hb.alloc hb.size _).trans hb5
          rw [HS.out] at hown5
          have hl5 : (L ++ List.replicate (q + 1) (61 : UInt8)).length = L.length + (q + 1) := by rw [List.length_append, List.length_replicate]
          obtain ⟨g5, c5, rfl⟩ : ∃ g5 c5, v5 = .slice (some ⟨g5, 0, none⟩) (L.length + (q + 1)) c5 := by
            rcases hown5.form with ⟨_, h0⟩ | ⟨g5, c5, h5, _⟩
            · rw [h0] at hl5; simp only [List.length_nil] at hl5; omega
            · exact ⟨g5, c5, by rw [h5, hl5]⟩
          clear hl5
          go_wp2_with fail
          go_roundw
          case rel => exact ⟨q + 1, by omega, hown5, hb6⟩
          case measure => simp only [lenV]; omega
        · have hmod : (M.length : Int) % 4 = 0 := by omega
          have hf := HQ.out (by omega)
          have HF := Lib.hid hf
          clear hlen hf
          go_wp2_with ((with_reducible refine wpList_own_string rfl 40 9 _ rfl 5 Tryd.underlying40 (by kernel_rfl) (by kernel_rfl) w.heap.size _ _ ?_ hown ?_); exact rfl)
          go_ret
          exact ⟨by rw [← HF.out]; rfl, hb⟩
end Go.Proofs.YtjhmfcmcgibgmaaDoor
