/-
  The reference's Unhex and Unbase64 by their contracts.
-/
import Derived.Test.YtjhmfcmcgibgmaaDoorArmT
namespace Go.Proofs.YtjhmfcmcgibgmaaDoor
open Go.RowKit
set_option maxRecDepth 100000 in
set_option maxHeartbeats 1000000 in
theorem runhex_any (s : ByteArray) (w : World) (hs : s.size ≤ 65536) :
    Calls Tryd.prog 12 #[.string s] w fun e w' => e = .returned (pairOf (Arm.unhexP s.data.toList)) ∧ Below w.heap.size w w' := by
  rw [Arm.unhex_law]
  have hul := unbits_le Arm.hexD 4 s.data.toList
  rw [size_toList] at hul
  have hus : (Arm.unpack Arm.hexD 4 s.data.toList).length ≤ 1048576 := by unfold Arm.unpack; rw [chars_len]; omega
  have hun := fun w' => unpack4_any s ⟨#[48, 49, 50, 51, 52, 53, 54, 55, 56, 57, 97, 98, 99, 100, 101, 102]⟩ w' (by omega) (by decide)
  rw [show (⟨#[48, 49, 50, 51, 52, 53, 54, 55, 56, 57, 97, 98, 99, 100, 101, 102]⟩ : ByteArray).data.toList = Arm.hexD from rfl] at hun
  generalize Arm.unpack Arm.hexD 4 s.data.toList = u at *
  have HUN := Lib.hid hun
  clear hun hul
  have hcon := fun w' => rhex_any ⟨u.toArray⟩ w' (by show u.toArray.size ≤ _; rw [List.size_toArray]; exact hus)
  rw [show (⟨u.toArray⟩ : ByteArray).data.toList = u from rfl] at hcon
  skip
  by_cases h : Arm.hexL u = s.data.toList
  · rw [if_neg (fun hn => hn h)]
    have e := mk_toList s _ h
    rw [e] at hcon
    have HC := Lib.hid hcon
    clear hcon e h
    go_enter Tryd.func12, Tryd.ntmps12
    go_wp2_with (first
      | (go_at_call 23; refine (HUN.out _).mono ?_; rintro e w1 ⟨rfl, hb1⟩)
      | (go_at_call 16; refine (HC.out _).mono ?_; rintro e w2 ⟨rfl, hb2⟩))
    go_ret2
    exact ⟨rfl, hb1.trans (hb2.mono hb1.size)⟩
  · rw [if_pos h]
    generalize hr : (⟨(Arm.hexL u).toArray⟩ : ByteArray) = r at hcon
    have hne : r ≠ s := fun e => h (by rw [← e, ← hr])
    have hne2 : (r.toList == s.toList) = false := str_ne hne
    have HC := Lib.hid hcon
    clear hcon hr h
    go_enter Tryd.func12, Tryd.ntmps12
    go_wp2_with (first
      | (go_at_call 23; refine (HUN.out _).mono ?_; rintro e w1 ⟨rfl, hb1⟩)
      | (go_at_call 16; refine (HC.out _).mono ?_; rintro e w2 ⟨rfl, hb2⟩))
    go_ret2
    exact ⟨rfl, hb1.trans (hb2.mono hb1.size)⟩
set_option maxRecDepth 100000 in
set_option maxHeartbeats 1000000 in
theorem runb64_any (s : ByteArray) (w : World) (hs : s.size ≤ 65536) :
    Calls Tryd.prog 14 #[.string s] w fun e w' => e = .returned (pairOf (Arm.unb64P s.data.toList)) ∧ Below w.heap.size w w' := by
  rw [Arm.unb64_law]
  have hul := unbits_le Arm.sixD 6 s.data.toList
  rw [size_toList] at hul
  have hus : (Arm.unpack Arm.sixD 6 s.data.toList).length ≤ 1048576 := by unfold Arm.unpack; rw [chars_len]; omega
  have hun := fun w' => unpack6_any s ⟨#[65, 66, 67, 68, 69, 70, 71, 72, 73, 74, 75, 76, 77, 78, 79, 80, 81, 82, 83, 84, 85, 86, 87, 88, 89, 90, 97, 98, 99, 100, 101, 102, 103, 104, 105, 106, 107, 108, 109, 110, 111, 112, 113, 114, 115, 116, 117, 118, 119, 120, 121, 122, 48, 49, 50, 51, 52, 53, 54, 55, 56, 57, 43, 47]⟩ w' (by omega) (by decide)
  rw [show (⟨#[65, 66, 67, 68, 69, 70, 71, 72, 73, 74, 75, 76, 77, 78, 79, 80, 81, 82, 83, 84, 85, 86, 87, 88, 89, 90, 97, 98, 99, 100, 101, 102, 103, 104, 105, 106, 107, 108, 109, 110, 111, 112, 113, 114, 115, 116, 117, 118, 119, 120, 121, 122, 48, 49, 50, 51, 52, 53, 54, 55, 56, 57, 43, 47]⟩ : ByteArray).data.toList = Arm.sixD from rfl] at hun
  generalize Arm.unpack Arm.sixD 6 s.data.toList = u at *
  have HUN := Lib.hid hun
  clear hun hul
  have hcon := fun w' => rb64_any ⟨u.toArray⟩ w' (by show u.toArray.size ≤ _; rw [List.size_toArray]; exact hus)
  rw [show (⟨u.toArray⟩ : ByteArray).data.toList = u from rfl] at hcon
  rw [Arm.b64R_eq] at hcon
  by_cases h : Arm.b64 u = s.data.toList
  · rw [if_neg (fun hn => hn h)]
    have e := mk_toList s _ h
    rw [e] at hcon
    have HC := Lib.hid hcon
    clear hcon e h
    go_enter Tryd.func14, Tryd.ntmps14
    go_wp2_with (first
      | (go_at_call 23; refine (HUN.out _).mono ?_; rintro e w1 ⟨rfl, hb1⟩)
      | (go_at_call 18; refine (HC.out _).mono ?_; rintro e w2 ⟨rfl, hb2⟩))
    go_ret2
    exact ⟨rfl, hb1.trans (hb2.mono hb1.size)⟩
  · rw [if_pos h]
    generalize hr : (⟨(Arm.b64 u).toArray⟩ : ByteArray) = r at hcon
    have hne : r ≠ s := fun e => h (by rw [← e, ← hr])
    have hne2 : (r.toList == s.toList) = false := str_ne hne
    have HC := Lib.hid hcon
    clear hcon hr h
    go_enter Tryd.func14, Tryd.ntmps14
    go_wp2_with (first
      | (go_at_call 23; refine (HUN.out _).mono ?_; rintro e w1 ⟨rfl, hb1⟩)
      | (go_at_call 18; refine (HC.out _).mono ?_; rintro e w2 ⟨rfl, hb2⟩))
    go_ret2
    exact ⟨rfl, hb1.trans (hb2.mono hb1.size)⟩
end Go.Proofs.YtjhmfcmcgibgmaaDoor
