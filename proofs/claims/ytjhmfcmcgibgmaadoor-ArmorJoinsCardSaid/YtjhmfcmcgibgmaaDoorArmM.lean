/-
  ArmorUnhexes, ArmorUnbases: true at every string.
-/
import Derived.Test.YtjhmfcmcgibgmaaDoorArmL
namespace Go.Proofs.YtjhmfcmcgibgmaaDoor
open Go.RowKit
set_option maxRecDepth 100000 in
set_option maxHeartbeats 4000000 in
theorem armorUnhexes_any (s : ByteArray) (w : World) :
    Calls Tryd.prog 3 #[.string s] w fun e w' => e = .returned (.bool true) ∧ Below w.heap.size w w' := by
  by_cases hs : s.size ≤ 1000
  · go_enter Tryd.func3, Tryd.ntmps3
    go_wp2_with fail
    refine (awake_any w).mono ?_
    rintro e w1 ⟨rfl, hb1⟩
    go_wp2_with fail
    refine (unhex_any s w1 (by omega)).mono ?_
    rintro e w2 ⟨rfl, hb2⟩
    unfold pairOf
    have HC := Lib.hid (runhex_any s w2 (by omega))
    unfold pairOf at HC
    generalize (Arm.unhexP s.data.toList).1 = t at *
    generalize (Arm.unhexP s.data.toList).2 = n at *
    have hb := hb1.trans (hb2.mono hb1.size)
    clear hb1 hb2
    go_wp2_with fail
    refine HC.out.mono ?_
    rintro e w3 ⟨rfl, hb3⟩
    have hbb := hb.trans (hb3.mono hb.size)
    clear hb hb3 HC
    go_wp2_with fail
    go_ret
    exact ⟨rfl, hbb⟩
  · go_enter Tryd.func3, Tryd.ntmps3
    go_wp2_with fail
    refine (awake_any w).mono ?_
    rintro e w1 ⟨rfl, hb1⟩
    go_wp2_with fail
    go_ret
    exact ⟨rfl, hb1⟩
set_option maxRecDepth 100000 in
set_option maxHeartbeats 4000000 in
theorem armorUnbases_any (s : ByteArray) (w : World) :
    Calls Tryd.prog 4 #[.string s] w fun e w' => e = .returned (.bool true) ∧ Below w.heap.size w w' := by
  by_cases hs : s.size ≤ 1000
  · go_enter Tryd.func4, Tryd.ntmps4
    go_wp2_with fail
    refine (awake_any w).mono ?_
    rintro e w1 ⟨rfl, hb1⟩
    go_wp2_with fail
    refine (unb64_any trims s w1 (by omega)).mono ?_
    rintro e w2 ⟨rfl, hb2⟩
    unfold pairOf
    have HC := Lib.hid (runb64_any s w2 (by omega))
    unfold pairOf at HC
    generalize (Arm.unb64P s.data.toList).1 = t at *
    generalize (Arm.unb64P s.data.toList).2 = n at *
    have hb := hb1.trans (hb2.mono hb1.size)
    clear hb1 hb2
    go_wp2_with fail
    refine HC.out.mono ?_
    rintro e w3 ⟨rfl, hb3⟩
    have hbb := hb.trans (hb3.mono hb.size)
    clear hb hb3 HC
    go_wp2_with fail
    go_ret
    exact ⟨rfl, hbb⟩
  · go_enter Tryd.func4, Tryd.ntmps4
    go_wp2_with fail
    refine (awake_any w).mono ?_
    rintro e w1 ⟨rfl, hb1⟩
    go_wp2_with fail
    go_ret
    exact ⟨rfl, hb1⟩
end Go.Proofs.YtjhmfcmcgibgmaaDoor
