/-
  ArmorHex, ArmorBase, ArmorLengths: true at every string.
-/
import Derived.Test.YtjhmfcmcgibgmaaDoorArmM
import Derived.Test.YtjhmfcmcgibgmaaDoorArmB
namespace Go.Proofs.YtjhmfcmcgibgmaaDoor
open Go.RowKit
theorem mk_list (l : List UInt8) : (⟨l.toArray⟩ : ByteArray).data.toList = l := rfl
theorem unhex_ret (s : ByteArray) (w : World) (hs : s.size ≤ 1048576) : Calls Tryd.prog 11 #[.string s] w fun e w' => e = .returned (pairOf (Arm.unhexP s.data.toList)) ∧ Below w.heap.size w w' := unhex_any s w hs
theorem unb64_ret (s : ByteArray) (w : World) (hs : s.size ≤ 1048576) : Calls Tryd.prog 13 #[.string s] w fun e w' => e = .returned (pairOf (Arm.unb64P s.data.toList)) ∧ Below w.heap.size w w' := unb64_any trims s w hs
set_option maxRecDepth 100000 in
set_option maxHeartbeats 4000000 in
theorem armorHex_any (s : ByteArray) (w : World) :
    Calls Tryd.prog 5 #[.string s] w fun e w' => e = .returned (.bool true) ∧ Below w.heap.size w w' := by
  by_cases hs : s.size ≤ 1000
  · have hback : (⟨s.data.toList.toArray⟩ : ByteArray) = s := mk_toList s _ rfl
    have hE := fun w' => hex_any s w' (by omega)
    have hR := fun w' => rhex_any s w' (by omega)
    skip
    have hlen : (Arm.hexL s.data.toList).length ≤ 4096 := by rw [Arm.hexL_length, size_toList]; omega
    have hD := fun w' => unhex_ret ⟨(Arm.hexL s.data.toList).toArray⟩ w' (by show (List.toArray _).size ≤ _; rw [List.size_toArray]; omega)
    rw [mk_list, Arm.unhexP_hex] at hD
    unfold pairOf at hD
    simp only [hback] at hD
    generalize (⟨(Arm.hexL s.data.toList).toArray⟩ : ByteArray) = r at *
    have HE := Lib.hid hE
    have HR := Lib.hid hR
    have HD := Lib.hid hD
    clear hE hR hD hback hlen
    go_enter Tryd.func5, Tryd.ntmps5
    go_wp2_with fail
    refine (awake_any w).mono ?_
    rintro e w1 ⟨rfl, hb1⟩
    go_wp2_with fail
    refine (HE.out w1).mono ?_
    rintro e w2 ⟨rfl, hb2⟩
    have hb := hb1.trans (hb2.mono hb1.size)
    clear hb1 hb2
    go_wp2_with fail
    refine (HD.out w2).mono ?_
    rintro e w3 ⟨rfl, hb3⟩
    replace hb := hb.trans (hb3.mono hb.size)
    clear hb3
    go_wp2_with fail
    refine (HE.out w3).mono ?_
    rintro e w4 ⟨rfl, hb4⟩
    replace hb := hb.trans (hb4.mono hb.size)
    clear hb4
    go_wp2_with fail
    refine (HR.out w4).mono ?_
    rintro e w5 ⟨rfl, hb5⟩
    replace hb := hb.trans (hb5.mono hb.size)
    clear hb5
    go_wp2_with fail
    go_ret
    exact ⟨rfl, hb⟩
  · go_enter Tryd.func5, Tryd.ntmps5
    go_wp2_with fail
    refine (awake_any w).mono ?_
    rintro e w1 ⟨rfl, hb1⟩
    go_wp2_with fail
    go_ret
    exact ⟨rfl, hb1⟩
set_option maxRecDepth 100000 in
set_option maxHeartbeats 4000000 in
theorem armorBase_any (s : ByteArray) (w : World) :
    Calls Tryd.prog 6 #[.string s] w fun e w' => e = .returned (.bool true) ∧ Below w.heap.size w w' := by
  by_cases hs : s.size ≤ 1000
  · have hback : (⟨s.data.toList.toArray⟩ : ByteArray) = s := mk_toList s _ rfl
    have hE := fun w' => b64_any s w' (by omega)
    have hR := fun w' => rb64_any s w' (by omega)
    rw [Arm.b64R_eq] at hR
    have hlen : (Arm.b64 s.data.toList).length ≤ 4096 := by rw [Arm.b64_length, size_toList]; omega
    have hD := fun w' => unb64_ret ⟨(Arm.b64 s.data.toList).toArray⟩ w' (by show (List.toArray _).size ≤ _; rw [List.size_toArray]; omega)
    rw [mk_list, Arm.unb64P_b64] at hD
    unfold pairOf at hD
    simp only [hback] at hD
    generalize (⟨(Arm.b64 s.data.toList).toArray⟩ : ByteArray) = r at *
    have HE := Lib.hid hE
    have HR := Lib.hid hR
    have HD := Lib.hid hD
    clear hE hR hD hback hlen
    go_enter Tryd.func6, Tryd.ntmps6
    go_wp2_with fail
    refine (awake_any w).mono ?_
    rintro e w1 ⟨rfl, hb1⟩
    go_wp2_with fail
    refine (HE.out w1).mono ?_
    rintro e w2 ⟨rfl, hb2⟩
    have hb := hb1.trans (hb2.mono hb1.size)
    clear hb1 hb2
    go_wp2_with fail
    refine (HD.out w2).mono ?_
    rintro e w3 ⟨rfl, hb3⟩
    replace hb := hb.trans (hb3.mono hb.size)
    clear hb3
    go_wp2_with fail
    refine (HE.out w3).mono ?_
    rintro e w4 ⟨rfl, hb4⟩
    replace hb := hb.trans (hb4.mono hb.size)
    clear hb4
    go_wp2_with fail
    refine (HR.out w4).mono ?_
    rintro e w5 ⟨rfl, hb5⟩
    replace hb := hb.trans (hb5.mono hb.size)
    clear hb5
    go_wp2_with fail
    go_ret
    exact ⟨rfl, hb⟩
  · go_enter Tryd.func6, Tryd.ntmps6
    go_wp2_with fail
    refine (awake_any w).mono ?_
    rintro e w1 ⟨rfl, hb1⟩
    go_wp2_with fail
    go_ret
    exact ⟨rfl, hb1⟩
set_option maxRecDepth 100000 in
set_option maxHeartbeats 4000000 in
theorem armorLengths_any (s : ByteArray) (w : World) :
    Calls Tryd.prog 7 #[.string s] w fun e w' => e = .returned (.bool true) ∧ Below w.heap.size w w' := by
  by_cases hs : s.size ≤ 1000
  · have hE := fun w' => hex_any s w' (by omega)
    have hR := fun w' => b64_any s w' (by omega)
    have h1 : (⟨(Arm.hexL s.data.toList).toArray⟩ : ByteArray).size = 2 * s.size := by show (List.toArray _).size = _; rw [List.size_toArray, Arm.hexL_length, size_toList]
    have h2 : (⟨(Arm.b64 s.data.toList).toArray⟩ : ByteArray).size = (s.size + 2) / 3 * 4 := by show (List.toArray _).size = _; rw [List.size_toArray, Arm.b64_length, size_toList]
    generalize (⟨(Arm.hexL s.data.toList).toArray⟩ : ByteArray) = r at *
    generalize (⟨(Arm.b64 s.data.toList).toArray⟩ : ByteArray) = t at *
    have HE := Lib.hid hE
    have HR := Lib.hid hR
    have g1 : ((r.size : Int) == 2 * (s.size : Int)) = true := by rw [beq_iff_eq]; omega
    have g2 : ((t.size : Int) == ((s.size : Int) + 2) / 3 * 4) = true := by rw [beq_iff_eq]; omega
    have h1b : r.size ≤ 2000 := by omega
    have h2b : t.size ≤ 2000 := by omega
    clear hE hR h1 h2
    go_enter Tryd.func7, Tryd.ntmps7
    go_wp2_with fail
    refine (awake_any w).mono ?_
    rintro e w1 ⟨rfl, hb1⟩
    go_wp2_with fail
    refine (HE.out w1).mono ?_
    rintro e w2 ⟨rfl, hb2⟩
    have hb := hb1.trans (hb2.mono hb1.size)
    clear hb1 hb2
    go_wp2_with fail
    refine (HR.out w2).mono ?_
    rintro e w3 ⟨rfl, hb3⟩
    replace hb := hb.trans (hb3.mono hb.size)
    clear hb3
    go_wp2_with fail
    go_ret
    exact ⟨rfl, hb⟩
  · go_enter Tryd.func7, Tryd.ntmps7
    go_wp2_with fail
    refine (awake_any w).mono ?_
    rintro e w1 ⟨rfl, hb1⟩
    go_wp2_with fail
    go_ret
    exact ⟨rfl, hb1⟩
end Go.Proofs.YtjhmfcmcgibgmaaDoor
