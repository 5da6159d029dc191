/-
  DigestSums: true at every string.
-/
import Derived.Test.YtlfhijdonejacaaLaw0
import Derived.Test.YtlfhijdonejacaaSha8
namespace Go.Proofs.Ytlfhijdonejacaa
open Go.RowKit
theorem catL_one (s : ByteArray) : catL [s] = s.data.toList := by simp [catL]
set_option maxRecDepth 100000 in
set_option maxHeartbeats 4000000 in
theorem digestSums_any (s : ByteArray) (w : World) :
    Calls Try.prog 3 #[.string s] w fun e w' => e = .returned (.bool true) ∧ Below w.heap.size w w' := by
  by_cases hs : s.size ≤ 2000
  · go_enter Try.func3, Try.ntmps3
    go_wp2_with fail
    refine (awake_any w).mono ?_
    rintro e w1 ⟨rfl, hb1⟩
    go_wp2_with fail
    refine (dsum_any [s] _ _ (by rw [catL_one, size_toList]; omega) (by show 1 < _; decide) (StrRow.row w1 _ [s])).mono ?_
    rintro e w2 ⟨rfl, hb2⟩
    have hb2w : Below w.heap.size w w2 := (hb1.alloc hb1.size _).trans (hb2.mono (by have := hb1.size; simp only [World.size_alloc]; omega))
    rw [catL_one]
    clear hb2 hb1
    go_wp2_with fail
    refine (rsum_any s w2 (by omega)).mono ?_
    rintro e w3 ⟨rfl, hb3⟩
    have hb3w := hb2w.trans (hb3.mono hb2w.size)
    clear hb3 hb2w
    go_wp2_with fail
    go_ret
    exact ⟨rfl, hb3w⟩
  · go_enter Try.func3, Try.ntmps3
    go_wp2_with fail
    refine (awake_any w).mono ?_
    rintro e w1 ⟨rfl, hb1⟩
    go_wp2_with fail
    go_ret
    exact ⟨rfl, hb1⟩
end Go.Proofs.Ytlfhijdonejacaa
