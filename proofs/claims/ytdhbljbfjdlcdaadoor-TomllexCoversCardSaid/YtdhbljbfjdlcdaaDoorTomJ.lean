/-
  Three quotes; the plain law of content, step by step.
-/
import Derived.Test.YtdhbljbfjdlcdaaDoorTomI
import Derived.Test.YtdhbljbfjdlcdaaDoorBlds
namespace Go.Proofs.YtdhbljbfjdlcdaaDoor
open Go.RowKit
/-- strings.Repeat of one sign, three times. -/
theorem repeat3_any (c : UInt8) (w : World) :
    Calls Tryd.prog 41 #[.string ⟨#[c]⟩, .int .i64 3] w fun e w' => e = .returned (.string ⟨#[c, c, c]⟩) ∧ Below w.heap.size w w' :=
  Tryd.strings_Repeat_main ⟨#[c]⟩ 3 w (by decide) (by decide) (by show 1 * 3 ≤ _; decide) (by show 0 < 1; decide)
end Go.Proofs.YtdhbljbfjdlcdaaDoor
