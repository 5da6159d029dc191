/-
  The chapter's examples: awake.
-/
import Derived.Test.YtjhmfcmcgibgmaaDoorArmF
import Derived.Test.YtjhmfcmcgibgmaaDoorShelf
namespace Go.Proofs.YtjhmfcmcgibgmaaDoor
open Go.RowKit
theorem trims : TrimsPad := by
  intro s w hs
  refine (Tryd.strings_TrimRight_one s 61 (by decide) w (by omega)).mono ?_
  rintro e w' ⟨rfl, rfl⟩
  exact ⟨rfl, rfl⟩
theorem ex_unhex : Arm.unhexP (⟨#[48, 48, 102, 102, 49, 48]⟩ : ByteArray).data.toList = ([0, 255, 16], 0) := by decide +kernel
theorem ex_unb64 : Arm.unb64P (⟨#[84, 87, 69, 61]⟩ : ByteArray).data.toList = ([77, 97], 0) := by decide +kernel
theorem ex_fold : (pieces 2 (⟨#[97, 98, 99, 100, 101]⟩ : ByteArray).data.toList).map bytesOf = [⟨#[97, 98]⟩, ⟨#[99, 100]⟩, ⟨#[101]⟩] := by
  show (pieces 2 [97, 98, 99, 100, 101]).map bytesOf = _
  rw [pieces_cons _ _ (by decide) (by decide)]
  show bytesOf [97, 98] :: (pieces 2 [99, 100, 101]).map bytesOf = _
  rw [pieces_cons _ _ (by decide) (by decide)]
  show bytesOf [97, 98] :: bytesOf [99, 100] :: (pieces 2 [101]).map bytesOf = _
  rw [pieces_cons _ _ (by decide) (by decide)]
  show bytesOf [97, 98] :: bytesOf [99, 100] :: bytesOf [101] :: (pieces 2 []).map bytesOf = _
  rw [pieces_nil]
  rfl
set_option maxRecDepth 100000 in
set_option maxHeartbeats 4000000 in
theorem awake_any (w : World) :
    Calls Tryd.prog 10 #[] w fun e w' => e = .returned (.bool true) ∧ Below w.heap.size w w' := by
  go_enter Tryd.func10, Tryd.ntmps10
  go_wp2_with fail
  refine (unhex_any ⟨#[48, 48, 102, 102, 49, 48]⟩ w (by decide)).mono ?_
  rw [ex_unhex]
  rintro e w1 ⟨rfl, hb1⟩
  unfold pairOf
  go_wp2_with fail
  refine (unb64_any trims ⟨#[84, 87, 69, 61]⟩ w1 (by decide)).mono ?_
  rw [ex_unb64]
  rintro e w2 ⟨rfl, hb2⟩
  unfold pairOf
  go_wp2_with fail
  refine (fold_any ⟨#[97, 98, 99, 100, 101]⟩ 2 w2 (by decide) (by decide) (by decide)).mono ?_
  rw [ex_fold]
  rintro e w3 ⟨v3, rfl, hown, hb3⟩
  rcases hown.form with ⟨_, h0⟩ | ⟨g, cap, rfl, hcap, hg, hgl⟩
  · cases h0
  have c2 := hown.cell 2 ⟨#[101]⟩ rfl
  have hb : Below w.heap.size w w3 := (hb1.trans (hb2.mono hb1.size)).trans (hb3.mono (by have := hb1.size; have := hb2.size; omega))
  clear hown hb1 hb2 hb3 hcap hg hgl
  go_wp2_with fail
  go_ret
  exact ⟨rfl, hb⟩
end Go.Proofs.YtjhmfcmcgibgmaaDoor
