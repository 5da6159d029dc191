/-
  What the calls find in the world, from the laid tables and the shape.
-/
import Derived.Test.YtjfkiomegacpeaaDoorCards
import Derived.Test.YtjfkiomegacpeaaDoorJsO
import Derived.Lib.LaidU8T
import Derived.Lib.LaidTab
import Derived.Stop.LaidErr
namespace Go.Proofs.YtjfkiomegacpeaaDoor
open Go.RowKit Go.Lib
theorem acc_data : (Rows.laid_unicode_utf8_acceptRanges : DataW Unit) = acceptData := by kernel_rfl
theorem first_data : Rows.laid_unicode_utf8_first = firstData := by kernel_rfl
theorem pow_data : (Rows.laid_internal_strconv_uint64pow10 : DataW Unit) = tabData .u64 pow10Tab := by kernel_rfl
set_option maxRecDepth 100000 in
theorem envJ {W : World} (hL : laidMet Tryd.prog [("math/bits.deBruijn32tab", Rows.laid_math_bits_deBruijn32tab), ("math/bits.deBruijn64tab", Rows.laid_math_bits_deBruijn64tab), ("internal/strconv.uint64pow10", Rows.laid_internal_strconv_uint64pow10), ("unicode/utf8.acceptRanges", Rows.laid_unicode_utf8_acceptRanges), ("unicode/utf8.first", Rows.laid_unicode_utf8_first)] W) (hSh : W.ShapedOpen Tryd.prog) : EnvJ W := by
  refine ⟨?_, ?_, ?_⟩
  · exact utf8Tabs_of_readsT (ρ := Tryd.lays197_ren) { Tryd.lays197 with } ⟨by kernel_rfl, by kernel_rfl, by kernel_rfl, by kernel_rfl, by kernel_rfl, by kernel_rfl, by kernel_rfl⟩
      (first_data ▸ Lib.laidMet.reads hL (.tail _ (.tail _ (.tail _ (.tail _ (.head _)))))) (acc_data ▸ Lib.laidMet.reads hL (.tail _ (.tail _ (.tail _ (.head _)))))
  · have h := hL.tail.tail
    rw [pow_data] at h
    exact tabIs_of_head (P := Tryd.prog) (g := (Tryd.prog.globalNamed "internal/strconv.uint64pow10").getD 0) (t := 120) (e := 114) (n := 20) (by kernel_rfl) (by kernel_rfl) (by kernel_rfl) (by kernel_rfl) (by kernel_rfl) (by kernel_rfl) h
  · exact Tryd.laysM143.s1_3 W hSh
end Go.Proofs.YtjfkiomegacpeaaDoor
