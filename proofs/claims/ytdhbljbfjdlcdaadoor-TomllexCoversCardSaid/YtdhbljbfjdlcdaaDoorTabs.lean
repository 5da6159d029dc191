/-
  The laid tables of unicode/utf8, read as the contracts ask.
-/
import Derived.Test.YtdhbljbfjdlcdaaDoorCards
import Derived.Test.YtdhbljbfjdlcdaaDoorShelf
import Derived.Lib.LaidU8T
namespace Go.Proofs.YtdhbljbfjdlcdaaDoor
open Go.RowKit Go.Lib
theorem acc_data : (Rows.laid_unicode_utf8_acceptRanges : DataW Unit) = acceptData := by kernel_rfl
theorem first_data : Rows.laid_unicode_utf8_first = firstData := by kernel_rfl
set_option maxRecDepth 100000 in
theorem tabs {W : World} (hL : laidMet Tryd.prog [("unicode/utf8.acceptRanges", Rows.laid_unicode_utf8_acceptRanges), ("unicode/utf8.first", Rows.laid_unicode_utf8_first)] W) : Lib.Utf8Tabs (Tryd.lays197_ren.g 3) (Tryd.lays197_ren.g 4) W :=
  utf8Tabs_of_readsT (ρ := Tryd.lays197_ren) { Tryd.lays197 with } ⟨by kernel_rfl, by kernel_rfl, by kernel_rfl, by kernel_rfl, by kernel_rfl, by kernel_rfl, by kernel_rfl⟩
    (first_data ▸ Lib.laidMet.reads hL (.tail _ (.head _))) (acc_data ▸ Lib.laidMet.reads hL (.head _))
end Go.Proofs.YtdhbljbfjdlcdaaDoor
