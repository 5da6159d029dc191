/-
  The reference's bits, number and index by their contracts.
-/
import Derived.Test.YtjhmfcmcgibgmaaDoorArmH
import Derived.Lib.Hide
namespace Go.Proofs.YtjhmfcmcgibgmaaDoor
open Go.RowKit
def RetN (w : World) (l : List Nat) (e : Ending) (w' : World) : Prop := ∃ v, e = .returned v ∧ OwnN w' w.heap.size 3 v l ∧ Below w.heap.size w w'
theorem bitsV_take (v m : Nat) (hm : m < 8) : (Arm.bitsV 8 v).take (m + 1) = (Arm.bitsV 8 v).take m ++ [v / (128 / 2 ^ m) % 2] := by
  rw [List.take_add_one]
  congr 1
  unfold Arm.bitsV
  have e : 128 / 2 ^ m = 2 ^ (8 - 1 - m) := by
    match m, hm with
    | 0, _ => rfl | 1, _ => rfl | 2, _ => rfl | 3, _ => rfl | 4, _ => rfl | 5, _ => rfl | 6, _ => rfl | 7, _ => rfl
  simp [hm, e]
theorem half_pow (a m : Nat) : a / 2 ^ m / 2 = a / 2 ^ (m + 1) := by rw [Nat.div_div_eq_div_mul, Nat.pow_succ]
theorem bitsL_take (l : List UInt8) (k : Nat) (h : k < l.length) : Arm.bitsL (l.take (k + 1)) = Arm.bitsL (l.take k) ++ Arm.bitsV 8 (l.getD k 0).toNat := by
  rw [List.take_succ_eq_append_getElem h]
  unfold Arm.bitsL
  rw [List.flatMap_append, List.getD_eq_getElem?_getD, List.getElem?_eq_getElem h]
  simp
theorem p128 (m : Nat) (hm : m < 8) : 0 < 128 / 2 ^ m ∧ 128 / 2 ^ m ≤ 128 := by
  match m, hm with
  | 0, _ => decide | 1, _ => decide | 2, _ => decide | 3, _ => decide | 4, _ => decide | 5, _ => decide | 6, _ => decide | 7, _ => decide
set_option maxRecDepth 100000 in
set_option maxHeartbeats 4000000 in
theorem bits_any (s : ByteArray) (w : World) (hs : s.size ≤ 1048576) :
    Calls Tryd.prog 25 #[.string s] w (RetN w (Arm.bitsL s.data.toList)) := by
  go_enter Tryd.func25, Tryd.ntmps25
  go_wp2_with fail
  go_loopw [4, 3] (fun i v wr => ∃ k : Nat, k ≤ s.size ∧ i = .int .i64 k ∧ OwnN wr w.heap.size 3 v (Arm.bitsL (s.data.toList.take k)) ∧ Below w.heap.size w wr) (fun i _ _ => s.size - (intOf i).toNat)
  case atStart => exact ⟨0, by omega, rfl, OwnN.nil _ _ _, Below.refl _ _⟩
  case round =>
    obtain ⟨k, hk, rfl, hown, hb⟩ := hrel
    have hll : (Arm.bitsL (s.data.toList.take k)).length ≤ 8388608 := by rw [Arm.bitsL_length, List.length_take, size_toList]; omega
    by_cases hlt : k < s.size
    · have hbd := byteAt_bd s.data.toList k
      obtain ⟨wo, rfl⟩ : ∃ wo : World, wo = wr := ⟨_, rfl⟩
      go_wp2_with ((with_reducible refine wpList_index_str rfl 9 _ _ rfl Tryd.underlying9 s .i64 k ?_ ?_ ?_ ?_ ?_); exact rfl; exact rfl; omega; omega; simp only [Int.toNat_natCast])
      go_loopw [6, 3] (fun i v wr => ∃ m : Nat, m ≤ 8 ∧ i = .int .i64 (128 / 2 ^ m : Nat) ∧ OwnN wr w.heap.size 3 v (Arm.bitsL (s.data.toList.take k) ++ (Arm.bitsV 8 (s.data.toList.getD k 0).toNat).take m) ∧ Below w.heap.size w wr) (fun i _ _ => (intOf i).toNat)
      case atStart => exact ⟨0, by omega, rfl, by rw [List.take_zero, List.append_nil]; exact hown, hb⟩
      case round =>
        clear hown hb
        obtain ⟨m, hm, rfl, hown, hb⟩ := hrel
        by_cases hm8 : m < 8
        · have hp := p128 m hm8
          have hh := half_pow 128 m
          have hstep := bitsV_take (s.data.toList.getD k 0).toNat m hm8
          have hq : byteAt s.data.toList k / ((128 / 2 ^ m : Nat) : Int) % 2 = (((s.data.toList.getD k 0).toNat / (128 / 2 ^ m) % 2 : Nat) : Int) := by unfold byteAt; simp
          have hlt3 : (Arm.bitsL (s.data.toList.take k) ++ (Arm.bitsV 8 (s.data.toList.getD k 0).toNat).take m).length < 1099511627776 := by
            rw [List.length_append, List.length_take, Arm.bitsV_length]; omega
          obtain ⟨P2, hP2⟩ : ∃ P2, P2 = 128 / 2 ^ (m + 1) := ⟨_, rfl⟩
          have HP2 := Lib.hid hP2
          rw [← hP2] at hh
          clear hP2
          generalize 128 / 2 ^ m = P at *
          have hh2 : ((P : Int)) / 2 = (P2 : Int) := by omega
          generalize (s.data.toList.getD k 0).toNat / P % 2 = x at hq hstep
          obtain ⟨L, hL⟩ : ∃ L, L = Arm.bitsL (s.data.toList.take k) ++ (Arm.bitsV 8 (s.data.toList.getD k 0).toNat).take m := ⟨_, rfl⟩
          rw [← hL] at hown hlt3
          have HQ := Lib.hid hq
          have HH := Lib.hid hh2
          have HS := Lib.hid hstep
          have HL := Lib.hid hL
          clear hq hh hh2 hstep hll hL
          go_wp2_with ((with_reducible refine wpList_push_nat rfl _ _ 44 rfl 3 intRow w.heap.size _ _ wr.heap.size 1 x ?_ ?_ (OwnN.alloc hown _) ?_ ?_ ?_ ?_); exact rfl; exact rfl; (rw [← HQ.out]; exact cell_one _ _ _); exact hlt3; (simp only [World.size_alloc]; have := hb.size; omega))
          intro v5 w5 hown5 hb5
          have hb6 : Below w.heap.size w w5 := (hb.alloc hb.size _).trans hb5
          go_wp2_with fail
          go_roundw
          case rel => exact ⟨m + 1, by omega, by rw [HH.out, HP2.out], by rw [HS.out, ← List.append_assoc, ← HL.out]; exact hown5, hb6⟩
          case measure => simp [intOf]; omega
        · have h8 : m = 8 := by omega
          rw [h8, List.take_of_length_le (l := Arm.bitsV 8 _) (by rw [Arm.bitsV_length]; exact Nat.le_refl _), ← bitsL_take _ _ (by rw [size_toList]; exact hlt)] at hown
          have hz : (((128 / 2 ^ m : Nat) : Int)) = 0 := by rw [h8]; rfl
          rw [hz]
          clear h8 hz hll
          go_wp2_with fail
          go_roundw
          case rel => exact ⟨k + 1, by omega, by go_num, hown, hb⟩
          case measure => simp [intOf]; omega
    · have hk8 : k = s.size := by omega
      rw [hk8, ← size_toList, List.take_length] at hown
      clear hk8 hll
      go_wp2_with fail
      go_ret
      exact ⟨_, rfl, hown, hb⟩
theorem numN_lt (b : List Nat) (p : Nat) (h1 : ∀ j, b.getD j 0 ≤ 1) (n : Nat) : Arm.numN b p n < 2 ^ n := by
  induction n with
  | zero => exact Nat.lt_succ_self 0
  | succ n ih => have := h1 (p + n); rw [Nat.pow_succ]; unfold Arm.numN; omega
set_option maxRecDepth 100000 in
set_option maxHeartbeats 4000000 in
theorem number_any (b : List Nat) (v : Value) (B p n : Nat) (w : World) (hown : OwnN w B 3 v b) (h1 : ∀ j, b.getD j 0 ≤ 1) (hn : n ≤ 8) (hp : p ≤ 1099511627776) (hl : b.length ≤ 1099511627776) :
    Calls Tryd.prog 26 #[v, .int .i64 p, .int .i64 n] w fun e w' => e = .returned (.int .i64 (Arm.numN b p n : Nat)) ∧ w = w' := by
  have H1 := Lib.hid h1
  clear h1
  rcases hown.form with ⟨rfl, rfl⟩ | ⟨g, cap, rfl, hcap, hg, hgl⟩
  all_goals
    go_enter Tryd.func26, Tryd.ntmps26
    go_wp2_with fail
  · go_loop [8, 7] (fun i x => ∃ j : Nat, j ≤ n ∧ i = .int .i64 (p + j : Nat) ∧ x = .int .i64 (Arm.numN [] p j : Nat)) (fun i _ => p + n - (intOf i).toNat)
    case atStart => exact ⟨0, by omega, rfl, rfl⟩
    case round =>
      obtain ⟨j, hj, rfl, rfl⟩ := hrel
      have hN : Arm.numN [] p j < 256 := by have h := numN_lt [] p H1.out j; have h2 := Nat.pow_le_pow_right (n := 2) (by decide) (show j ≤ 8 by omega); omega
      have hN2 : 2 * Arm.numN [] p j + 0 = Arm.numN [] p (j + 1) := rfl
      have HN := Lib.hid hN2
      clear hN2
      by_cases hlt : j < n
      · go_wp2_with fail
        go_round
        case rel => exact ⟨j + 1, by omega, by go_num, by rw [← HN.out]; go_num⟩
        case measure => simp [intOf]; omega
      · have hjn : j = n := by omega
        subst hjn
        go_wp2_with fail
        go_ret
        exact ⟨rfl, rfl⟩
  · go_loop [8, 7] (fun i x => ∃ j : Nat, j ≤ n ∧ i = .int .i64 (p + j : Nat) ∧ x = .int .i64 (Arm.numN b p j : Nat)) (fun i _ => p + n - (intOf i).toNat)
    case atStart => exact ⟨0, by omega, rfl, rfl⟩
    case round =>
      obtain ⟨j, hj, rfl, rfl⟩ := hrel
      have hN : Arm.numN b p j < 256 := by have h := numN_lt b p H1.out j; have h2 := Nat.pow_le_pow_right (n := 2) (by decide) (show j ≤ 8 by omega); omega
      have hN2 : 2 * Arm.numN b p j + b.getD (p + j) 0 = Arm.numN b p (j + 1) := rfl
      have hb1 := H1.out (p + j)
      have HN := Lib.hid hN2
      clear hN2
      by_cases hlt : j < n
      · by_cases hin : p + j < b.length
        · have hc := hown.cell _ hin
          have e : b.getD (p + j) 0 = b[p + j] := by rw [List.getD_eq_getElem?_getD, List.getElem?_eq_getElem hin]; rfl
          rw [e] at hc hb1
          have HE := Lib.hid e
          clear e
          go_wp2_with fail
          go_round
          case rel => exact ⟨j + 1, by omega, by go_num, by rw [← HN.out, HE.out]; go_num⟩
          case measure => simp [intOf]; omega
        · have hz : b.getD (p + j) 0 = 0 := by rw [List.getD_eq_getElem?_getD, List.getElem?_eq_none (by omega)]; rfl
          have HZ := Lib.hid hz
          clear hz
          go_wp2_with fail
          go_round
          case rel => exact ⟨j + 1, by omega, by go_num, by rw [← HN.out, HZ.out]; go_num⟩
          case measure => simp [intOf]; omega
      · have hjn : j = n := by omega
        subst hjn
        go_wp2_with fail
        go_ret
        exact ⟨rfl, rfl⟩
end Go.Proofs.YtjhmfcmcgibgmaaDoor
