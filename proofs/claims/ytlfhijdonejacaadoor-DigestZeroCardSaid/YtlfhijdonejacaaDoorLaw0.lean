/-
  The chapter's examples: awake.
-/
import Derived.Test.YtlfhijdonejacaaDoorSha7
import Derived.Test.YtlfhijdonejacaaDoorSha9
namespace Go.Proofs.YtlfhijdonejacaaDoor
open Go.RowKit
set_option maxRecDepth 100000 in
set_option maxHeartbeats 4000000 in
theorem awake_any (w : World) :
    Calls Tryd.prog 4 #[] w fun e w' => e = .returned (.bool true) ∧ Below w.heap.size w w' := by
  go_enter Tryd.func4, Tryd.ntmps4
  go_wp2_with fail
  refine (dsum_any [⟨#[97, 98, 99]⟩] _ _ (by decide) (by decide) (StrRow.row w _ [⟨#[97, 98, 99]⟩])).mono ?_
  rintro e w1 ⟨rfl, hb1⟩
  have hb1w : Below w.heap.size w w1 := (below_alloc _).trans (hb1.mono (by simp only [World.size_alloc]; omega))
  rw [show catL [⟨#[97, 98, 99]⟩] = [97, 98, 99] from rfl, sha_abc]
  clear hb1
  go_wp2_with fail
  refine (dsum_any [] _ _ (by decide) (by decide) (StrRow.none w1 _)).mono ?_
  rintro e w2 ⟨rfl, hb2⟩
  have hb2w : Below w.heap.size w w2 := hb1w.trans (hb2.mono hb1w.size)
  rw [show catL [] = [] from rfl, sha_nil]
  clear hb2 hb1w
  go_wp2_with fail
  refine (Tryd.strings_HasPrefix _ _ w2).mono ?_
  rintro e w3 ⟨rfl, rfl⟩
  go_wp2_with fail
  go_ret
  exact ⟨congrArg (fun b => Ending.returned (Value.bool b)) (by decide +kernel), hb2w⟩
end Go.Proofs.YtlfhijdonejacaaDoor
