/-
  What the calls find in the world, from the laid tables.
-/
import Derived.Test.YtbficmdjblimfaaDoorCards
import Derived.Test.YtbficmdjblimfaaDoorPad
import Derived.Lib.LaidTab
import Derived.Stop.LaidErr
namespace Go.Proofs.YtbficmdjblimfaaDoor
open Go.RowKit Go.Lib
theorem pow_data : (Rows.laid_internal_strconv_uint64pow10 : DataW Unit) = tabData .u64 pow10Tab := by kernel_rfl
set_option maxRecDepth 100000 in
theorem envI {W : World} (hL : laidMet Tryd.prog [("math/bits.deBruijn32tab", Rows.laid_math_bits_deBruijn32tab), ("math/bits.deBruijn64tab", Rows.laid_math_bits_deBruijn64tab), ("internal/strconv.uint64pow10", Rows.laid_internal_strconv_uint64pow10), ("unicode/utf8.acceptRanges", Rows.laid_unicode_utf8_acceptRanges), ("unicode/utf8.first", Rows.laid_unicode_utf8_first)] W) : EnvI W := by
  have h := hL.tail.tail
  rw [pow_data] at h
  exact tabIs_of_head (P := Tryd.prog) (g := (Tryd.prog.globalNamed "internal/strconv.uint64pow10").getD 0) (t := 118) (e := 102) (n := 20) (by kernel_rfl) (by kernel_rfl) (by kernel_rfl) (by kernel_rfl) (by kernel_rfl) (by kernel_rfl) h
theorem wf64 {n : Int} (h : (Lit.int .i64 n).wf = true) : -9223372036854775808 ≤ n ∧ n ≤ 9223372036854775807 := by
  simpa [Lit.wf, IntKind.min, IntKind.max, IntKind.signed, IntKind.bits] using h
theorem wf8 {n : Int} (h : (Lit.int .u8 n).wf = true) : 0 ≤ n ∧ n ≤ 255 := by
  simpa [Lit.wf, IntKind.min, IntKind.max, IntKind.signed, IntKind.bits] using h
end Go.Proofs.YtbficmdjblimfaaDoor
