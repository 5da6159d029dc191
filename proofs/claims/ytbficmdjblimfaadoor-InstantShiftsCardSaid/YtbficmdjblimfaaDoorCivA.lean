/-
  civil and the reference's calendar by their contracts: Leap, length, first.
-/
import Derived.Test.YtbficmdjblimfaaDoorIn2
import Derived.Test.YtbficmdjblimfaaDoorKit8
import Derived.Test.YtbficmdjblimfaaDoorChecked
import Derived.Deep.LoopGhost
import Derived.Outline
import Derived.Lib.Hide
namespace Go.Proofs.YtbficmdjblimfaaDoor
open Go.RowKit
theorem tm (n k : Nat) : ((n : Int)).tmod (k : Int) = ((n % k : Nat) : Int) := by rw [Int.tmod_eq_emod_of_nonneg (by omega)]; rfl
theorem td (n k : Nat) : ((n : Int)).tdiv (k : Int) = ((n / k : Nat) : Int) := by rw [Int.tdiv_eq_ediv_of_nonneg (by omega)]; rfl
theorem leap_any (y : Nat) (hy : y ≤ 1000000) (w : World) :
    Calls Tryd.prog 52 #[.int .i64 (y : Int)] w fun e w' => e = .returned (.bool (Ins.leap y)) ∧ w = w' := by
  obtain ⟨b, hb⟩ : ∃ b, b = Ins.leap y := ⟨_, rfl⟩
  rw [← hb]
  unfold Ins.leap at hb
  have HB := Lib.hid hb
  clear hb
  go_enter Tryd.func52, Tryd.ntmps52
  go_wp2_with fail
  all_goals go_ret
  all_goals refine ⟨congrArg (fun x => Go.Ending.returned (Value.bool x)) ?_, rfl⟩
  all_goals rw [HB.out, Bool.eq_iff_iff]
  all_goals simp only [Bool.and_eq_true, Bool.or_eq_true, beq_iff_eq, bne_iff_ne, ne_eq, true_iff, false_iff, Bool.false_eq_true]
  all_goals omega
theorem rleap_any (y : Nat) (hy : y ≤ 1000000) (w : World) :
    Calls Tryd.prog 45 #[.int .i64 (y : Int)] w fun e w' => e = .returned (.bool (Ins.leap y)) ∧ w = w' := by
  obtain ⟨b, hb⟩ : ∃ b, b = Ins.leap y := ⟨_, rfl⟩
  rw [← hb]
  unfold Ins.leap at hb
  have HB := Lib.hid hb
  clear hb
  go_enter Tryd.func45, Tryd.ntmps45
  go_wp2_with fail
  all_goals go_ret
  all_goals refine ⟨congrArg (fun x => Go.Ending.returned (Value.bool x)) ?_, rfl⟩
  all_goals rw [HB.out, Bool.eq_iff_iff]
  all_goals simp only [Bool.and_eq_true, Bool.or_eq_true, beq_iff_eq, bne_iff_ne, ne_eq, true_iff, false_iff, Bool.false_eq_true]
  all_goals omega
theorem first_any (y : Nat) (hy : y ≤ 1000000) (w : World) :
    Calls Tryd.prog 43 #[.int .i64 (y : Int)] w fun e w' => e = .returned (.int .i64 (Ins.first y : Int)) ∧ w = w' := by
  obtain ⟨b, hb⟩ : ∃ b, b = Ins.first y := ⟨_, rfl⟩
  rw [← hb]
  unfold Ins.first at hb
  have HB := Lib.hid hb
  clear hb
  go_enter Tryd.func43, Tryd.ntmps43
  go_wp2_with fail
  go_ret
  refine ⟨congrArg (fun x => Go.Ending.returned (Value.int .i64 x)) ?_, rfl⟩
  rw [HB.out]
  omega
set_option maxHeartbeats 2000000 in
theorem length_any (y m : Nat) (hy : y ≤ 1000000) (h1 : 1 ≤ m) (h2 : m ≤ 12) (w : World) :
    Calls Tryd.prog 44 #[.int .i64 (y : Int), .int .i64 (m : Int)] w fun e w' => e = .returned (.int .i64 (Ins.mlen y m : Int)) ∧ Below w.heap.size w w' := by
  have HL := Lib.hid (fun w1 => leap_any y hy w1)
  obtain ⟨b, hb⟩ : ∃ b, b = Ins.leap y := ⟨_, rfl⟩
  unfold Ins.mlen
  rw [← hb] at HL ⊢
  clear hb
  obtain rfl | rfl | rfl | rfl | rfl | rfl | rfl | rfl | rfl | rfl | rfl | rfl : m = 1 ∨ m = 2 ∨ m = 3 ∨ m = 4 ∨ m = 5 ∨ m = 6 ∨ m = 7 ∨ m = 8 ∨ m = 9 ∨ m = 10 ∨ m = 11 ∨ m = 12 := by omega
  case inr.inl =>
    cases b with
    | false =>
      go_enter Tryd.func44, Tryd.ntmps44
      go_wp2_with (go_at_call 52; refine (HL.out _).mono ?_; rintro e w3 ⟨rfl, rfl⟩)
      go_ret
      exact ⟨rfl, below_alloc _⟩
    | true =>
      go_enter Tryd.func44, Tryd.ntmps44
      go_wp2_with (go_at_call 52; refine (HL.out _).mono ?_; rintro e w3 ⟨rfl, rfl⟩)
      go_ret
      exact ⟨rfl, below_alloc _⟩
  all_goals clear HL h1 h2
  all_goals go_enter Tryd.func44, Tryd.ntmps44
  all_goals go_wp2_with fail
  all_goals go_ret
  all_goals exact ⟨rfl, below_alloc _⟩
set_option maxHeartbeats 2000000 in
theorem month_any (y m : Nat) (hy : y ≤ 1000000) (h1 : 1 ≤ m) (h2 : m ≤ 12) (w : World) :
    Calls Tryd.prog 36 #[.int .i64 (y : Int), .int .i64 (m : Int)] w fun e w' => e = .returned (.int .i64 (Ins.mlen y m : Int)) ∧ w = w' := by
  have HL := Lib.hid (fun w1 => rleap_any y hy w1)
  obtain ⟨b, hb⟩ : ∃ b, b = Ins.leap y := ⟨_, rfl⟩
  unfold Ins.mlen
  rw [← hb] at HL ⊢
  clear hb
  obtain rfl | rfl | rfl | rfl | rfl | rfl | rfl | rfl | rfl | rfl | rfl | rfl : m = 1 ∨ m = 2 ∨ m = 3 ∨ m = 4 ∨ m = 5 ∨ m = 6 ∨ m = 7 ∨ m = 8 ∨ m = 9 ∨ m = 10 ∨ m = 11 ∨ m = 12 := by omega
  case inr.inl =>
    cases b with
    | false =>
      go_enter Tryd.func36, Tryd.ntmps36
      go_wp2_with (go_at_call 45; refine (HL.out _).mono ?_; rintro e w3 ⟨rfl, rfl⟩)
      go_ret
      exact ⟨rfl, rfl⟩
    | true =>
      go_enter Tryd.func36, Tryd.ntmps36
      go_wp2_with (go_at_call 45; refine (HL.out _).mono ?_; rintro e w3 ⟨rfl, rfl⟩)
      go_ret
      exact ⟨rfl, rfl⟩
  all_goals clear HL h1 h2
  all_goals go_enter Tryd.func36, Tryd.ntmps36
  all_goals go_wp2_with fail
  all_goals go_ret
  all_goals exact ⟨rfl, rfl⟩
end Go.Proofs.YtbficmdjblimfaaDoor
