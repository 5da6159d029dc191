/-
  NARROWER THAN 'FOR EVERY INPUT', by the rows' own cells (each row's printed sentence says how): JsonlexScans: laid · JsonlexCovers: laid · JsonlexJoins: laid · JsonlexTexts: laid · JsonlexNumbers: laid · JsonlexComments: laid.
  DERIVED. THE GIVEN ROWS OF THIS SEAT. 6 by the template 'for every input the law returns true; each argument reads behind the call as it read before'; 0 by the template 'total and deterministic' (their statements: YtjfkiomegacpeaaDoorTotals.lean).
  GIVEN WITH THE SEED: the statements are not yours to turn. If you find one false, say at which input.
  Laid BY PROGRAM, IN A SANDBOX (cutbox-rows.mjs): the forced cells as the released guide's own fill.sh prints them over the translation ffc364f9b2668d2e… (all of the seat's roots in one cut). By AI agents, Wed Nov 11 2026. No macro, syntax, notation, axiom, sorry.
-/
import Derived.Test.YtjfkiomegacpeaaDoorChecked
import GoSem.PinnedTables
import GoSem.Claim
import GoSem.ClaimJoined
import GoSem.ClaimMapViews
import Derived.JoinedTies
import Derived.KernelRfl
namespace Go.Proofs.YtjfkiomegacpeaaDoor
/- THE CELL 'sum', in the pinned program and in every row, IS THE sha256 OF THE DUMP (.gsa) THAT YtjfkiomegacpeaaDoorProg.lean LOADS. Nothing in Lean hashes anything: it is a label: what it is worth is what the hold of that sum in a sandbox is worth. -/
noncomputable def Tryd.pinned : Pinned := { name := "ytjfkiomegacpeaadoor", sum := "ffc364f9b2668d2e1c03c6204236ba40ab27d766880c0d1bd544d61addec3e18", checked := Tryd.checked }
namespace Rows
def none {H : Type} : Left H := { results := [], args := [] }

/- WHAT THE LISTED PACKAGE-LEVEL VARIABLES READ AS WHEN THE CALL BEGINS. Each datum BY PROGRAM (the guide's laid-datum.mjs) off the statement by which the dump's own 'gosem.cut.vars' lays the variable. In a bare row this is a premise. The card (YtjfkiomegacpeaaDoorCards.lean) ties it to the program's text. -/
def laid_math_bits_deBruijn32tab {H : Type} : DataW H := .agg [.lit (.int .u8 0), .lit (.int .u8 1), .lit (.int .u8 28), .lit (.int .u8 2), .lit (.int .u8 29), .lit (.int .u8 14), .lit (.int .u8 24), .lit (.int .u8 3), .lit (.int .u8 30), .lit (.int .u8 22), .lit (.int .u8 20), .lit (.int .u8 15), .lit (.int .u8 25), .lit (.int .u8 17), .lit (.int .u8 4), .lit (.int .u8 8), .lit (.int .u8 31), .lit (.int .u8 27), .lit (.int .u8 13), .lit (.int .u8 23), .lit (.int .u8 21), .lit (.int .u8 19), .lit (.int .u8 16), .lit (.int .u8 7), .lit (.int .u8 26), .lit (.int .u8 12), .lit (.int .u8 18), .lit (.int .u8 6), .lit (.int .u8 11), .lit (.int .u8 5), .lit (.int .u8 10), .lit (.int .u8 9)]
def laid_math_bits_deBruijn64tab {H : Type} : DataW H := .agg [.lit (.int .u8 0), .lit (.int .u8 1), .lit (.int .u8 56), .lit (.int .u8 2), .lit (.int .u8 57), .lit (.int .u8 49), .lit (.int .u8 28), .lit (.int .u8 3), .lit (.int .u8 61), .lit (.int .u8 58), .lit (.int .u8 42), .lit (.int .u8 50), .lit (.int .u8 38), .lit (.int .u8 29), .lit (.int .u8 17), .lit (.int .u8 4), .lit (.int .u8 62), .lit (.int .u8 47), .lit (.int .u8 59), .lit (.int .u8 36), .lit (.int .u8 45), .lit (.int .u8 43), .lit (.int .u8 51), .lit (.int .u8 22), .lit (.int .u8 53), .lit (.int .u8 39), .lit (.int .u8 33), .lit (.int .u8 30), .lit (.int .u8 24), .lit (.int .u8 18), .lit (.int .u8 12), .lit (.int .u8 5), .lit (.int .u8 63), .lit (.int .u8 55), .lit (.int .u8 48), .lit (.int .u8 27), .lit (.int .u8 60), .lit (.int .u8 41), .lit (.int .u8 37), .lit (.int .u8 16), .lit (.int .u8 46), .lit (.int .u8 35), .lit (.int .u8 44), .lit (.int .u8 21), .lit (.int .u8 52), .lit (.int .u8 32), .lit (.int .u8 23), .lit (.int .u8 11), .lit (.int .u8 54), .lit (.int .u8 26), .lit (.int .u8 40), .lit (.int .u8 15), .lit (.int .u8 34), .lit (.int .u8 20), .lit (.int .u8 31), .lit (.int .u8 10), .lit (.int .u8 25), .lit (.int .u8 14), .lit (.int .u8 19), .lit (.int .u8 9), .lit (.int .u8 13), .lit (.int .u8 8), .lit (.int .u8 7), .lit (.int .u8 6)]
def laid_internal_strconv_uint64pow10 {H : Type} : DataW H := .agg [.lit (.int .u64 1), .lit (.int .u64 10), .lit (.int .u64 100), .lit (.int .u64 1000), .lit (.int .u64 10000), .lit (.int .u64 100000), .lit (.int .u64 1000000), .lit (.int .u64 10000000), .lit (.int .u64 100000000), .lit (.int .u64 1000000000), .lit (.int .u64 10000000000), .lit (.int .u64 100000000000), .lit (.int .u64 1000000000000), .lit (.int .u64 10000000000000), .lit (.int .u64 100000000000000), .lit (.int .u64 1000000000000000), .lit (.int .u64 10000000000000000), .lit (.int .u64 100000000000000000), .lit (.int .u64 1000000000000000000), .lit (.int .u64 10000000000000000000)]
def laid_unicode_utf8_acceptRanges {H : Type} : DataW H := .agg [.agg [.lit (.int .u8 128), .lit (.int .u8 191)], .agg [.lit (.int .u8 160), .lit (.int .u8 191)], .agg [.lit (.int .u8 128), .lit (.int .u8 159)], .agg [.lit (.int .u8 144), .lit (.int .u8 191)], .agg [.lit (.int .u8 128), .lit (.int .u8 143)], .agg [.lit (.int .u8 0), .lit (.int .u8 0)], .agg [.lit (.int .u8 0), .lit (.int .u8 0)], .agg [.lit (.int .u8 0), .lit (.int .u8 0)], .agg [.lit (.int .u8 0), .lit (.int .u8 0)], .agg [.lit (.int .u8 0), .lit (.int .u8 0)], .agg [.lit (.int .u8 0), .lit (.int .u8 0)], .agg [.lit (.int .u8 0), .lit (.int .u8 0)], .agg [.lit (.int .u8 0), .lit (.int .u8 0)], .agg [.lit (.int .u8 0), .lit (.int .u8 0)], .agg [.lit (.int .u8 0), .lit (.int .u8 0)], .agg [.lit (.int .u8 0), .lit (.int .u8 0)]]
/-- One of Go's own tables, pinned by name: the form's constant. -/
def laid_unicode_utf8_first : DataW Unit := Go.Pinned.utf8First

/-- 'rosettalaw21.JsonlexScans': WHATEVER THE INPUT: true; the input reads as it did. -/
def jsonlexScansSpec : ChangeSpec := { name := "jsonlexScans", fn := fun _ => fun
  | [d] => { results := [.lit (.bool true)], args := [d] }
  | _ => none }
def jsonlexScansRow : OpenClaim := { program := "ytjfkiomegacpeaadoor", sum := "ffc364f9b2668d2e1c03c6204236ba40ab27d766880c0d1bd544d61addec3e18", func := "rosetta/rosettalaw21.JsonlexScans", spec := "jsonlexScans", inPlace := ["internal/bytealg.IndexByteString", "internal/bytealg.IndexString", "internal/abi.NoEscape"], named := ["unicode/utf8.first", "unicode/utf8.acceptRanges", "internal/bytealg.MaxLen", "internal/strconv.uint64pow10", "math/bits.deBruijn32tab", "math/bits.deBruijn64tab"], apart := false, laid := [("math/bits.deBruijn32tab", laid_math_bits_deBruijn32tab), ("math/bits.deBruijn64tab", laid_math_bits_deBruijn64tab), ("internal/strconv.uint64pow10", laid_internal_strconv_uint64pow10), ("unicode/utf8.acceptRanges", laid_unicode_utf8_acceptRanges), ("unicode/utf8.first", laid_unicode_utf8_first)] }
def JsonlexScansSaid : Prop := jsonlexScansRow.holds Tryd.pinned (OpenSpec.ofChange jsonlexScansSpec)

/-- ITS FALSE NEIGHBOUR: 'it returns false'. Refute it at one input. -/
def jsonlexScansWrong : ChangeSpec := { name := "jsonlexScans", fn := fun _ => fun
  | [d] => { results := [.lit (.bool false)], args := [d] }
  | _ => none }
def JsonlexScansWrongFalsely : Prop := jsonlexScansRow.holds Tryd.pinned (OpenSpec.ofChange jsonlexScansWrong)

/-- 'rosettalaw21.JsonlexCovers': WHATEVER THE INPUT: true; the input reads as it did. -/
def jsonlexCoversSpec : ChangeSpec := { name := "jsonlexCovers", fn := fun _ => fun
  | [d] => { results := [.lit (.bool true)], args := [d] }
  | _ => none }
def jsonlexCoversRow : OpenClaim := { program := "ytjfkiomegacpeaadoor", sum := "ffc364f9b2668d2e1c03c6204236ba40ab27d766880c0d1bd544d61addec3e18", func := "rosetta/rosettalaw21.JsonlexCovers", spec := "jsonlexCovers", inPlace := ["internal/bytealg.IndexByteString", "internal/bytealg.IndexString", "internal/abi.NoEscape"], named := ["unicode/utf8.first", "unicode/utf8.acceptRanges", "internal/bytealg.MaxLen", "internal/strconv.uint64pow10", "math/bits.deBruijn32tab", "math/bits.deBruijn64tab"], apart := false, laid := [("math/bits.deBruijn32tab", laid_math_bits_deBruijn32tab), ("math/bits.deBruijn64tab", laid_math_bits_deBruijn64tab), ("internal/strconv.uint64pow10", laid_internal_strconv_uint64pow10), ("unicode/utf8.acceptRanges", laid_unicode_utf8_acceptRanges), ("unicode/utf8.first", laid_unicode_utf8_first)] }
def JsonlexCoversSaid : Prop := jsonlexCoversRow.holds Tryd.pinned (OpenSpec.ofChange jsonlexCoversSpec)

/-- ITS FALSE NEIGHBOUR: 'it returns false'. Refute it at one input. -/
def jsonlexCoversWrong : ChangeSpec := { name := "jsonlexCovers", fn := fun _ => fun
  | [d] => { results := [.lit (.bool false)], args := [d] }
  | _ => none }
def JsonlexCoversWrongFalsely : Prop := jsonlexCoversRow.holds Tryd.pinned (OpenSpec.ofChange jsonlexCoversWrong)

/-- 'rosettalaw21.JsonlexJoins': WHATEVER THE INPUT: true; the input reads as it did. -/
def jsonlexJoinsSpec : ChangeSpec := { name := "jsonlexJoins", fn := fun _ => fun
  | [d1, d2] => { results := [.lit (.bool true)], args := [d1, d2] }
  | _ => none }
def jsonlexJoinsRow : OpenClaim := { program := "ytjfkiomegacpeaadoor", sum := "ffc364f9b2668d2e1c03c6204236ba40ab27d766880c0d1bd544d61addec3e18", func := "rosetta/rosettalaw21.JsonlexJoins", spec := "jsonlexJoins", inPlace := ["internal/bytealg.IndexByteString", "internal/bytealg.IndexString", "internal/abi.NoEscape"], named := ["unicode/utf8.first", "unicode/utf8.acceptRanges", "internal/bytealg.MaxLen", "internal/strconv.uint64pow10", "math/bits.deBruijn32tab", "math/bits.deBruijn64tab"], apart := false, laid := [("math/bits.deBruijn32tab", laid_math_bits_deBruijn32tab), ("math/bits.deBruijn64tab", laid_math_bits_deBruijn64tab), ("internal/strconv.uint64pow10", laid_internal_strconv_uint64pow10), ("unicode/utf8.acceptRanges", laid_unicode_utf8_acceptRanges), ("unicode/utf8.first", laid_unicode_utf8_first)] }
def JsonlexJoinsSaid : Prop := jsonlexJoinsRow.holds Tryd.pinned (OpenSpec.ofChange jsonlexJoinsSpec)

/-- ITS FALSE NEIGHBOUR: 'it returns false'. Refute it at one input. -/
def jsonlexJoinsWrong : ChangeSpec := { name := "jsonlexJoins", fn := fun _ => fun
  | [d1, d2] => { results := [.lit (.bool false)], args := [d1, d2] }
  | _ => none }
def JsonlexJoinsWrongFalsely : Prop := jsonlexJoinsRow.holds Tryd.pinned (OpenSpec.ofChange jsonlexJoinsWrong)

/-- 'rosettalaw21.JsonlexTexts': WHATEVER THE INPUT: true; the input reads as it did. -/
def jsonlexTextsSpec : ChangeSpec := { name := "jsonlexTexts", fn := fun _ => fun
  | [d1, d2] => { results := [.lit (.bool true)], args := [d1, d2] }
  | _ => none }
def jsonlexTextsRow : OpenClaim := { program := "ytjfkiomegacpeaadoor", sum := "ffc364f9b2668d2e1c03c6204236ba40ab27d766880c0d1bd544d61addec3e18", func := "rosetta/rosettalaw21.JsonlexTexts", spec := "jsonlexTexts", inPlace := ["internal/bytealg.IndexByteString", "internal/bytealg.IndexString", "internal/abi.NoEscape"], named := ["unicode/utf8.first", "unicode/utf8.acceptRanges", "internal/bytealg.MaxLen", "internal/strconv.uint64pow10", "math/bits.deBruijn32tab", "math/bits.deBruijn64tab"], apart := false, laid := [("math/bits.deBruijn32tab", laid_math_bits_deBruijn32tab), ("math/bits.deBruijn64tab", laid_math_bits_deBruijn64tab), ("internal/strconv.uint64pow10", laid_internal_strconv_uint64pow10), ("unicode/utf8.acceptRanges", laid_unicode_utf8_acceptRanges), ("unicode/utf8.first", laid_unicode_utf8_first)] }
def JsonlexTextsSaid : Prop := jsonlexTextsRow.holds Tryd.pinned (OpenSpec.ofChange jsonlexTextsSpec)

/-- ITS FALSE NEIGHBOUR: 'it returns false'. Refute it at one input. -/
def jsonlexTextsWrong : ChangeSpec := { name := "jsonlexTexts", fn := fun _ => fun
  | [d1, d2] => { results := [.lit (.bool false)], args := [d1, d2] }
  | _ => none }
def JsonlexTextsWrongFalsely : Prop := jsonlexTextsRow.holds Tryd.pinned (OpenSpec.ofChange jsonlexTextsWrong)

/-- 'rosettalaw21.JsonlexNumbers': WHATEVER THE INPUT: true; the input reads as it did. -/
def jsonlexNumbersSpec : ChangeSpec := { name := "jsonlexNumbers", fn := fun _ => fun
  | [d] => { results := [.lit (.bool true)], args := [d] }
  | _ => none }
def jsonlexNumbersRow : OpenClaim := { program := "ytjfkiomegacpeaadoor", sum := "ffc364f9b2668d2e1c03c6204236ba40ab27d766880c0d1bd544d61addec3e18", func := "rosetta/rosettalaw21.JsonlexNumbers", spec := "jsonlexNumbers", inPlace := ["internal/bytealg.IndexByteString", "internal/bytealg.IndexString", "internal/abi.NoEscape"], named := ["unicode/utf8.first", "unicode/utf8.acceptRanges", "internal/bytealg.MaxLen", "internal/strconv.uint64pow10", "math/bits.deBruijn32tab", "math/bits.deBruijn64tab"], apart := false, laid := [("math/bits.deBruijn32tab", laid_math_bits_deBruijn32tab), ("math/bits.deBruijn64tab", laid_math_bits_deBruijn64tab), ("internal/strconv.uint64pow10", laid_internal_strconv_uint64pow10), ("unicode/utf8.acceptRanges", laid_unicode_utf8_acceptRanges), ("unicode/utf8.first", laid_unicode_utf8_first)] }
def JsonlexNumbersSaid : Prop := jsonlexNumbersRow.holds Tryd.pinned (OpenSpec.ofChange jsonlexNumbersSpec)

/-- ITS FALSE NEIGHBOUR: 'it returns false'. Refute it at one input. -/
def jsonlexNumbersWrong : ChangeSpec := { name := "jsonlexNumbers", fn := fun _ => fun
  | [d] => { results := [.lit (.bool false)], args := [d] }
  | _ => none }
def JsonlexNumbersWrongFalsely : Prop := jsonlexNumbersRow.holds Tryd.pinned (OpenSpec.ofChange jsonlexNumbersWrong)

/-- 'rosettalaw21.JsonlexComments': WHATEVER THE INPUT: true; the input reads as it did. -/
def jsonlexCommentsSpec : ChangeSpec := { name := "jsonlexComments", fn := fun _ => fun
  | [d1, d2, d3] => { results := [.lit (.bool true)], args := [d1, d2, d3] }
  | _ => none }
def jsonlexCommentsRow : OpenClaim := { program := "ytjfkiomegacpeaadoor", sum := "ffc364f9b2668d2e1c03c6204236ba40ab27d766880c0d1bd544d61addec3e18", func := "rosetta/rosettalaw21.JsonlexComments", spec := "jsonlexComments", inPlace := ["internal/bytealg.IndexByteString", "internal/bytealg.IndexString", "internal/abi.NoEscape"], named := ["unicode/utf8.first", "unicode/utf8.acceptRanges", "internal/bytealg.MaxLen", "internal/strconv.uint64pow10", "math/bits.deBruijn32tab", "math/bits.deBruijn64tab"], apart := false, laid := [("math/bits.deBruijn32tab", laid_math_bits_deBruijn32tab), ("math/bits.deBruijn64tab", laid_math_bits_deBruijn64tab), ("internal/strconv.uint64pow10", laid_internal_strconv_uint64pow10), ("unicode/utf8.acceptRanges", laid_unicode_utf8_acceptRanges), ("unicode/utf8.first", laid_unicode_utf8_first)] }
def JsonlexCommentsSaid : Prop := jsonlexCommentsRow.holds Tryd.pinned (OpenSpec.ofChange jsonlexCommentsSpec)

/-- ITS FALSE NEIGHBOUR: 'it returns false'. Refute it at one input. -/
def jsonlexCommentsWrong : ChangeSpec := { name := "jsonlexComments", fn := fun _ => fun
  | [d1, d2, d3] => { results := [.lit (.bool false)], args := [d1, d2, d3] }
  | _ => none }
def JsonlexCommentsWrongFalsely : Prop := jsonlexCommentsRow.holds Tryd.pinned (OpenSpec.ofChange jsonlexCommentsWrong)

/- THE SECOND FORM. 'bulk': how many values and letters a reading holds, each counted each time it is reached (what is shared counts as often as it is met; a slice's spare places count too). A statement '..UptoSaid' is the law's where the arguments, and the package variables that the reading takes, are together of bulk at most 1048576: NARROWER than '..Said'. Prove '..Said' where nothing that the law and all that it calls make is longer than what came in: it says more and counts as full. Else prove '..UptoSaid'. A law counts once. -/
mutual
def uptoBulk {H : Type} : DataW H → Nat
  | .lit (.string bytes) => bytes.length + 1
  | .lit _ => 1
  | .nil => 1
  | .ptr d => uptoBulk d + 1
  | .slice elems spare => uptoBulkAll elems + uptoBulkAll spare + 1
  | .agg parts => uptoBulkAll parts + 1
  | .iface _ d => uptoBulk d + 1
  | .map entries => uptoBulkEntries entries + 1
  | .held _ => 1
def uptoBulkAll {H : Type} : List (DataW H) → Nat
  | [] => 0
  | d :: r => uptoBulk d + uptoBulkAll r
def uptoBulkEntries {H : Type} : List (Lit × DataW H) → Nat
  | [] => 0
  | x :: r => uptoBulkEntry x + uptoBulkEntries r
def uptoBulkEntry {H : Type} : Lit × DataW H → Nat
  | (.string bytes, d) => bytes.length + uptoBulk d + 1
  | (_, d) => uptoBulk d + 1
 end
def uptoSmall : (H : Type) → List (DataW H) → Bool := fun _ ds => decide (uptoBulkAll ds ≤ 1048576)
def OpenSpec.upto (s : _root_.Go.ChangeSpec) : _root_.Go.OpenSpec := { _root_.Go.OpenSpec.ofChange s with cond := some uptoSmall }

/-- 'rosettalaw21.JsonlexScans', WHERE WHAT IT READS IS OF BULK AT MOST 1048576: true; the input reads as it did. -/
def jsonlexScansUptoRow : OpenClaim := { program := "ytjfkiomegacpeaadoor", sum := "ffc364f9b2668d2e1c03c6204236ba40ab27d766880c0d1bd544d61addec3e18", func := "rosetta/rosettalaw21.JsonlexScans", spec := "jsonlexScans", inPlace := ["internal/bytealg.IndexByteString", "internal/bytealg.IndexString", "internal/abi.NoEscape"], named := ["unicode/utf8.first", "unicode/utf8.acceptRanges", "internal/bytealg.MaxLen", "internal/strconv.uint64pow10", "math/bits.deBruijn32tab", "math/bits.deBruijn64tab"], apart := false, laid := [("math/bits.deBruijn32tab", laid_math_bits_deBruijn32tab), ("math/bits.deBruijn64tab", laid_math_bits_deBruijn64tab), ("internal/strconv.uint64pow10", laid_internal_strconv_uint64pow10), ("unicode/utf8.acceptRanges", laid_unicode_utf8_acceptRanges), ("unicode/utf8.first", laid_unicode_utf8_first)], narrowed := true }
def JsonlexScansUptoSaid : Prop := jsonlexScansUptoRow.holds Tryd.pinned (OpenSpec.upto jsonlexScansSpec)

/-- 'rosettalaw21.JsonlexCovers', WHERE WHAT IT READS IS OF BULK AT MOST 1048576: true; the input reads as it did. -/
def jsonlexCoversUptoRow : OpenClaim := { program := "ytjfkiomegacpeaadoor", sum := "ffc364f9b2668d2e1c03c6204236ba40ab27d766880c0d1bd544d61addec3e18", func := "rosetta/rosettalaw21.JsonlexCovers", spec := "jsonlexCovers", inPlace := ["internal/bytealg.IndexByteString", "internal/bytealg.IndexString", "internal/abi.NoEscape"], named := ["unicode/utf8.first", "unicode/utf8.acceptRanges", "internal/bytealg.MaxLen", "internal/strconv.uint64pow10", "math/bits.deBruijn32tab", "math/bits.deBruijn64tab"], apart := false, laid := [("math/bits.deBruijn32tab", laid_math_bits_deBruijn32tab), ("math/bits.deBruijn64tab", laid_math_bits_deBruijn64tab), ("internal/strconv.uint64pow10", laid_internal_strconv_uint64pow10), ("unicode/utf8.acceptRanges", laid_unicode_utf8_acceptRanges), ("unicode/utf8.first", laid_unicode_utf8_first)], narrowed := true }
def JsonlexCoversUptoSaid : Prop := jsonlexCoversUptoRow.holds Tryd.pinned (OpenSpec.upto jsonlexCoversSpec)

/-- 'rosettalaw21.JsonlexJoins', WHERE WHAT IT READS IS OF BULK AT MOST 1048576: true; the input reads as it did. -/
def jsonlexJoinsUptoRow : OpenClaim := { program := "ytjfkiomegacpeaadoor", sum := "ffc364f9b2668d2e1c03c6204236ba40ab27d766880c0d1bd544d61addec3e18", func := "rosetta/rosettalaw21.JsonlexJoins", spec := "jsonlexJoins", inPlace := ["internal/bytealg.IndexByteString", "internal/bytealg.IndexString", "internal/abi.NoEscape"], named := ["unicode/utf8.first", "unicode/utf8.acceptRanges", "internal/bytealg.MaxLen", "internal/strconv.uint64pow10", "math/bits.deBruijn32tab", "math/bits.deBruijn64tab"], apart := false, laid := [("math/bits.deBruijn32tab", laid_math_bits_deBruijn32tab), ("math/bits.deBruijn64tab", laid_math_bits_deBruijn64tab), ("internal/strconv.uint64pow10", laid_internal_strconv_uint64pow10), ("unicode/utf8.acceptRanges", laid_unicode_utf8_acceptRanges), ("unicode/utf8.first", laid_unicode_utf8_first)], narrowed := true }
def JsonlexJoinsUptoSaid : Prop := jsonlexJoinsUptoRow.holds Tryd.pinned (OpenSpec.upto jsonlexJoinsSpec)

/-- 'rosettalaw21.JsonlexTexts', WHERE WHAT IT READS IS OF BULK AT MOST 1048576: true; the input reads as it did. -/
def jsonlexTextsUptoRow : OpenClaim := { program := "ytjfkiomegacpeaadoor", sum := "ffc364f9b2668d2e1c03c6204236ba40ab27d766880c0d1bd544d61addec3e18", func := "rosetta/rosettalaw21.JsonlexTexts", spec := "jsonlexTexts", inPlace := ["internal/bytealg.IndexByteString", "internal/bytealg.IndexString", "internal/abi.NoEscape"], named := ["unicode/utf8.first", "unicode/utf8.acceptRanges", "internal/bytealg.MaxLen", "internal/strconv.uint64pow10", "math/bits.deBruijn32tab", "math/bits.deBruijn64tab"], apart := false, laid := [("math/bits.deBruijn32tab", laid_math_bits_deBruijn32tab), ("math/bits.deBruijn64tab", laid_math_bits_deBruijn64tab), ("internal/strconv.uint64pow10", laid_internal_strconv_uint64pow10), ("unicode/utf8.acceptRanges", laid_unicode_utf8_acceptRanges), ("unicode/utf8.first", laid_unicode_utf8_first)], narrowed := true }
def JsonlexTextsUptoSaid : Prop := jsonlexTextsUptoRow.holds Tryd.pinned (OpenSpec.upto jsonlexTextsSpec)

/-- 'rosettalaw21.JsonlexNumbers', WHERE WHAT IT READS IS OF BULK AT MOST 1048576: true; the input reads as it did. -/
def jsonlexNumbersUptoRow : OpenClaim := { program := "ytjfkiomegacpeaadoor", sum := "ffc364f9b2668d2e1c03c6204236ba40ab27d766880c0d1bd544d61addec3e18", func := "rosetta/rosettalaw21.JsonlexNumbers", spec := "jsonlexNumbers", inPlace := ["internal/bytealg.IndexByteString", "internal/bytealg.IndexString", "internal/abi.NoEscape"], named := ["unicode/utf8.first", "unicode/utf8.acceptRanges", "internal/bytealg.MaxLen", "internal/strconv.uint64pow10", "math/bits.deBruijn32tab", "math/bits.deBruijn64tab"], apart := false, laid := [("math/bits.deBruijn32tab", laid_math_bits_deBruijn32tab), ("math/bits.deBruijn64tab", laid_math_bits_deBruijn64tab), ("internal/strconv.uint64pow10", laid_internal_strconv_uint64pow10), ("unicode/utf8.acceptRanges", laid_unicode_utf8_acceptRanges), ("unicode/utf8.first", laid_unicode_utf8_first)], narrowed := true }
def JsonlexNumbersUptoSaid : Prop := jsonlexNumbersUptoRow.holds Tryd.pinned (OpenSpec.upto jsonlexNumbersSpec)

/-- 'rosettalaw21.JsonlexComments', WHERE WHAT IT READS IS OF BULK AT MOST 1048576: true; the input reads as it did. -/
def jsonlexCommentsUptoRow : OpenClaim := { program := "ytjfkiomegacpeaadoor", sum := "ffc364f9b2668d2e1c03c6204236ba40ab27d766880c0d1bd544d61addec3e18", func := "rosetta/rosettalaw21.JsonlexComments", spec := "jsonlexComments", inPlace := ["internal/bytealg.IndexByteString", "internal/bytealg.IndexString", "internal/abi.NoEscape"], named := ["unicode/utf8.first", "unicode/utf8.acceptRanges", "internal/bytealg.MaxLen", "internal/strconv.uint64pow10", "math/bits.deBruijn32tab", "math/bits.deBruijn64tab"], apart := false, laid := [("math/bits.deBruijn32tab", laid_math_bits_deBruijn32tab), ("math/bits.deBruijn64tab", laid_math_bits_deBruijn64tab), ("internal/strconv.uint64pow10", laid_internal_strconv_uint64pow10), ("unicode/utf8.acceptRanges", laid_unicode_utf8_acceptRanges), ("unicode/utf8.first", laid_unicode_utf8_first)], narrowed := true }
def JsonlexCommentsUptoSaid : Prop := jsonlexCommentsUptoRow.holds Tryd.pinned (OpenSpec.upto jsonlexCommentsSpec)

end Rows
end Go.Proofs.YtjfkiomegacpeaaDoor
