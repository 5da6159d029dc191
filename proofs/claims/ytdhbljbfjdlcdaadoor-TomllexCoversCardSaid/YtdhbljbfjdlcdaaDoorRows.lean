/-
  NARROWER THAN 'FOR EVERY INPUT', by the rows' own cells (each row's printed sentence says how): TomllexLines: laid · TomllexJoins: laid · TomllexScans: laid · TomllexQuotes: laid · TomllexCovers: laid.
  DERIVED. THE GIVEN ROWS OF THIS SEAT. 5 by the template 'for every input the law returns true; each argument reads behind the call as it read before'; 0 by the template 'total and deterministic' (their statements: YtdhbljbfjdlcdaaDoorTotals.lean).
  GIVEN WITH THE SEED: the statements are not yours to turn. If you find one false, say at which input.
  Laid BY PROGRAM, IN A SANDBOX (cutbox-rows.mjs): the forced cells as the released guide's own fill.sh prints them over the translation d5ad4adc25340bc6… (all of the seat's roots in one cut). By AI agents, Wed Nov 11 2026. No macro, syntax, notation, axiom, sorry.
-/
import Derived.Test.YtdhbljbfjdlcdaaDoorChecked
import GoSem.PinnedTables
import GoSem.Claim
import GoSem.ClaimJoined
import GoSem.ClaimMapViews
import Derived.JoinedTies
import Derived.KernelRfl
namespace Go.Proofs.YtdhbljbfjdlcdaaDoor
/- THE CELL 'sum', in the pinned program and in every row, IS THE sha256 OF THE DUMP (.gsa) THAT YtdhbljbfjdlcdaaDoorProg.lean LOADS. Nothing in Lean hashes anything: it is a label: what it is worth is what the hold of that sum in a sandbox is worth. -/
noncomputable def Tryd.pinned : Pinned := { name := "ytdhbljbfjdlcdaadoor", sum := "d5ad4adc25340bc614435089bde69d5050c44d79f8f7c517a623c7fb1d81da98", checked := Tryd.checked }
namespace Rows
def none {H : Type} : Left H := { results := [], args := [] }

/- WHAT THE LISTED PACKAGE-LEVEL VARIABLES READ AS WHEN THE CALL BEGINS. Each datum BY PROGRAM (the guide's laid-datum.mjs) off the statement by which the dump's own 'gosem.cut.vars' lays the variable. In a bare row this is a premise. The card (YtdhbljbfjdlcdaaDoorCards.lean) ties it to the program's text. -/
def laid_unicode_utf8_acceptRanges {H : Type} : DataW H := .agg [.agg [.lit (.int .u8 128), .lit (.int .u8 191)], .agg [.lit (.int .u8 160), .lit (.int .u8 191)], .agg [.lit (.int .u8 128), .lit (.int .u8 159)], .agg [.lit (.int .u8 144), .lit (.int .u8 191)], .agg [.lit (.int .u8 128), .lit (.int .u8 143)], .agg [.lit (.int .u8 0), .lit (.int .u8 0)], .agg [.lit (.int .u8 0), .lit (.int .u8 0)], .agg [.lit (.int .u8 0), .lit (.int .u8 0)], .agg [.lit (.int .u8 0), .lit (.int .u8 0)], .agg [.lit (.int .u8 0), .lit (.int .u8 0)], .agg [.lit (.int .u8 0), .lit (.int .u8 0)], .agg [.lit (.int .u8 0), .lit (.int .u8 0)], .agg [.lit (.int .u8 0), .lit (.int .u8 0)], .agg [.lit (.int .u8 0), .lit (.int .u8 0)], .agg [.lit (.int .u8 0), .lit (.int .u8 0)], .agg [.lit (.int .u8 0), .lit (.int .u8 0)]]
/-- One of Go's own tables, pinned by name: the form's constant. -/
def laid_unicode_utf8_first : DataW Unit := Go.Pinned.utf8First

/-- 'rosettalaw24.TomllexLines': WHATEVER THE INPUT: true; the input reads as it did. -/
def tomllexLinesSpec : ChangeSpec := { name := "tomllexLines", fn := fun _ => fun
  | [d1, d2] => { results := [.lit (.bool true)], args := [d1, d2] }
  | _ => none }
def tomllexLinesRow : OpenClaim := { program := "ytdhbljbfjdlcdaadoor", sum := "d5ad4adc25340bc614435089bde69d5050c44d79f8f7c517a623c7fb1d81da98", func := "rosetta/rosettalaw24.TomllexLines", spec := "tomllexLines", inPlace := ["internal/bytealg.IndexByteString", "internal/abi.NoEscape", "internal/bytealg.MakeNoZero"], unfollowed := true, recurses := true, named := ["unicode/utf8.first", "unicode/utf8.acceptRanges"], apart := false, laid := [("unicode/utf8.acceptRanges", laid_unicode_utf8_acceptRanges), ("unicode/utf8.first", laid_unicode_utf8_first)] }
def TomllexLinesSaid : Prop := tomllexLinesRow.holds Tryd.pinned (OpenSpec.ofChange tomllexLinesSpec)

/-- ITS FALSE NEIGHBOUR: 'it returns false'. Refute it at one input. -/
def tomllexLinesWrong : ChangeSpec := { name := "tomllexLines", fn := fun _ => fun
  | [d1, d2] => { results := [.lit (.bool false)], args := [d1, d2] }
  | _ => none }
def TomllexLinesWrongFalsely : Prop := tomllexLinesRow.holds Tryd.pinned (OpenSpec.ofChange tomllexLinesWrong)

/-- 'rosettalaw24.TomllexJoins': WHATEVER THE INPUT: true; the input reads as it did. -/
def tomllexJoinsSpec : ChangeSpec := { name := "tomllexJoins", fn := fun _ => fun
  | [d1, d2] => { results := [.lit (.bool true)], args := [d1, d2] }
  | _ => none }
def tomllexJoinsRow : OpenClaim := { program := "ytdhbljbfjdlcdaadoor", sum := "d5ad4adc25340bc614435089bde69d5050c44d79f8f7c517a623c7fb1d81da98", func := "rosetta/rosettalaw24.TomllexJoins", spec := "tomllexJoins", inPlace := ["internal/bytealg.IndexByteString", "internal/abi.NoEscape", "internal/bytealg.MakeNoZero"], unfollowed := true, recurses := true, named := ["unicode/utf8.first", "unicode/utf8.acceptRanges"], apart := false, laid := [("unicode/utf8.acceptRanges", laid_unicode_utf8_acceptRanges), ("unicode/utf8.first", laid_unicode_utf8_first)] }
def TomllexJoinsSaid : Prop := tomllexJoinsRow.holds Tryd.pinned (OpenSpec.ofChange tomllexJoinsSpec)

/-- ITS FALSE NEIGHBOUR: 'it returns false'. Refute it at one input. -/
def tomllexJoinsWrong : ChangeSpec := { name := "tomllexJoins", fn := fun _ => fun
  | [d1, d2] => { results := [.lit (.bool false)], args := [d1, d2] }
  | _ => none }
def TomllexJoinsWrongFalsely : Prop := tomllexJoinsRow.holds Tryd.pinned (OpenSpec.ofChange tomllexJoinsWrong)

/-- 'rosettalaw24.TomllexScans': WHATEVER THE INPUT: true; the input reads as it did. -/
def tomllexScansSpec : ChangeSpec := { name := "tomllexScans", fn := fun _ => fun
  | [d] => { results := [.lit (.bool true)], args := [d] }
  | _ => none }
def tomllexScansRow : OpenClaim := { program := "ytdhbljbfjdlcdaadoor", sum := "d5ad4adc25340bc614435089bde69d5050c44d79f8f7c517a623c7fb1d81da98", func := "rosetta/rosettalaw24.TomllexScans", spec := "tomllexScans", inPlace := ["internal/bytealg.IndexByteString", "internal/abi.NoEscape", "internal/bytealg.MakeNoZero"], unfollowed := true, recurses := true, named := ["unicode/utf8.first", "unicode/utf8.acceptRanges"], apart := false, laid := [("unicode/utf8.acceptRanges", laid_unicode_utf8_acceptRanges), ("unicode/utf8.first", laid_unicode_utf8_first)] }
def TomllexScansSaid : Prop := tomllexScansRow.holds Tryd.pinned (OpenSpec.ofChange tomllexScansSpec)

/-- ITS FALSE NEIGHBOUR: 'it returns false'. Refute it at one input. -/
def tomllexScansWrong : ChangeSpec := { name := "tomllexScans", fn := fun _ => fun
  | [d] => { results := [.lit (.bool false)], args := [d] }
  | _ => none }
def TomllexScansWrongFalsely : Prop := tomllexScansRow.holds Tryd.pinned (OpenSpec.ofChange tomllexScansWrong)

/-- 'rosettalaw24.TomllexQuotes': WHATEVER THE INPUT: true; the input reads as it did. -/
def tomllexQuotesSpec : ChangeSpec := { name := "tomllexQuotes", fn := fun _ => fun
  | [d] => { results := [.lit (.bool true)], args := [d] }
  | _ => none }
def tomllexQuotesRow : OpenClaim := { program := "ytdhbljbfjdlcdaadoor", sum := "d5ad4adc25340bc614435089bde69d5050c44d79f8f7c517a623c7fb1d81da98", func := "rosetta/rosettalaw24.TomllexQuotes", spec := "tomllexQuotes", inPlace := ["internal/bytealg.IndexByteString", "internal/bytealg.IndexString", "internal/abi.NoEscape", "internal/bytealg.MakeNoZero"], unfollowed := true, recurses := true, named := ["internal/bytealg.MaxLen", "unicode/utf8.first", "unicode/utf8.acceptRanges"], apart := false, laid := [("unicode/utf8.acceptRanges", laid_unicode_utf8_acceptRanges), ("unicode/utf8.first", laid_unicode_utf8_first)] }
def TomllexQuotesSaid : Prop := tomllexQuotesRow.holds Tryd.pinned (OpenSpec.ofChange tomllexQuotesSpec)

/-- ITS FALSE NEIGHBOUR: 'it returns false'. Refute it at one input. -/
def tomllexQuotesWrong : ChangeSpec := { name := "tomllexQuotes", fn := fun _ => fun
  | [d] => { results := [.lit (.bool false)], args := [d] }
  | _ => none }
def TomllexQuotesWrongFalsely : Prop := tomllexQuotesRow.holds Tryd.pinned (OpenSpec.ofChange tomllexQuotesWrong)

/-- 'rosettalaw24.TomllexCovers': WHATEVER THE INPUT: true; the input reads as it did. -/
def tomllexCoversSpec : ChangeSpec := { name := "tomllexCovers", fn := fun _ => fun
  | [d] => { results := [.lit (.bool true)], args := [d] }
  | _ => none }
def tomllexCoversRow : OpenClaim := { program := "ytdhbljbfjdlcdaadoor", sum := "d5ad4adc25340bc614435089bde69d5050c44d79f8f7c517a623c7fb1d81da98", func := "rosetta/rosettalaw24.TomllexCovers", spec := "tomllexCovers", inPlace := ["internal/bytealg.IndexByteString", "internal/abi.NoEscape", "internal/bytealg.MakeNoZero", "internal/bytealg.IndexString"], unfollowed := true, recurses := true, named := ["unicode/utf8.first", "unicode/utf8.acceptRanges", "internal/bytealg.MaxLen"], apart := false, laid := [("unicode/utf8.acceptRanges", laid_unicode_utf8_acceptRanges), ("unicode/utf8.first", laid_unicode_utf8_first)] }
def TomllexCoversSaid : Prop := tomllexCoversRow.holds Tryd.pinned (OpenSpec.ofChange tomllexCoversSpec)

/-- ITS FALSE NEIGHBOUR: 'it returns false'. Refute it at one input. -/
def tomllexCoversWrong : ChangeSpec := { name := "tomllexCovers", fn := fun _ => fun
  | [d] => { results := [.lit (.bool false)], args := [d] }
  | _ => none }
def TomllexCoversWrongFalsely : Prop := tomllexCoversRow.holds Tryd.pinned (OpenSpec.ofChange tomllexCoversWrong)

/- THE SECOND FORM. 'bulk': how many values and letters a reading holds, each counted each time it is reached (what is shared counts as often as it is met; a slice's spare places count too). A statement '..UptoSaid' is the law's where the arguments, and the package variables that the reading takes, are together of bulk at most 1048576: NARROWER than '..Said'. Prove '..Said' where nothing that the law and all that it calls make is longer than what came in: it says more and counts as full. Else prove '..UptoSaid'. A law counts once. -/
mutual
def uptoBulk {H : Type} : DataW H → Nat
  | .lit (.string bytes) => bytes.length + 1
  | .lit _ => 1
  | .nil => 1
  | .ptr d => uptoBulk d + 1
  | .slice elems spare => uptoBulkAll elems + uptoBulkAll spare + 1
  | .agg parts => uptoBulkAll parts + 1
  | .iface _ d => uptoBulk d + 1
  | .map entries => uptoBulkEntries entries + 1
  | .held _ => 1
def uptoBulkAll {H : Type} : List (DataW H) → Nat
  | [] => 0
  | d :: r => uptoBulk d + uptoBulkAll r
def uptoBulkEntries {H : Type} : List (Lit × DataW H) → Nat
  | [] => 0
  | x :: r => uptoBulkEntry x + uptoBulkEntries r
def uptoBulkEntry {H : Type} : Lit × DataW H → Nat
  | (.string bytes, d) => bytes.length + uptoBulk d + 1
  | (_, d) => uptoBulk d + 1
 end
def uptoSmall : (H : Type) → List (DataW H) → Bool := fun _ ds => decide (uptoBulkAll ds ≤ 1048576)
def OpenSpec.upto (s : _root_.Go.ChangeSpec) : _root_.Go.OpenSpec := { _root_.Go.OpenSpec.ofChange s with cond := some uptoSmall }

/-- 'rosettalaw24.TomllexLines', WHERE WHAT IT READS IS OF BULK AT MOST 1048576: true; the input reads as it did. -/
def tomllexLinesUptoRow : OpenClaim := { program := "ytdhbljbfjdlcdaadoor", sum := "d5ad4adc25340bc614435089bde69d5050c44d79f8f7c517a623c7fb1d81da98", func := "rosetta/rosettalaw24.TomllexLines", spec := "tomllexLines", inPlace := ["internal/bytealg.IndexByteString", "internal/abi.NoEscape", "internal/bytealg.MakeNoZero"], unfollowed := true, recurses := true, named := ["unicode/utf8.first", "unicode/utf8.acceptRanges"], apart := false, laid := [("unicode/utf8.acceptRanges", laid_unicode_utf8_acceptRanges), ("unicode/utf8.first", laid_unicode_utf8_first)], narrowed := true }
def TomllexLinesUptoSaid : Prop := tomllexLinesUptoRow.holds Tryd.pinned (OpenSpec.upto tomllexLinesSpec)

/-- 'rosettalaw24.TomllexJoins', WHERE WHAT IT READS IS OF BULK AT MOST 1048576: true; the input reads as it did. -/
def tomllexJoinsUptoRow : OpenClaim := { program := "ytdhbljbfjdlcdaadoor", sum := "d5ad4adc25340bc614435089bde69d5050c44d79f8f7c517a623c7fb1d81da98", func := "rosetta/rosettalaw24.TomllexJoins", spec := "tomllexJoins", inPlace := ["internal/bytealg.IndexByteString", "internal/abi.NoEscape", "internal/bytealg.MakeNoZero"], unfollowed := true, recurses := true, named := ["unicode/utf8.first", "unicode/utf8.acceptRanges"], apart := false, laid := [("unicode/utf8.acceptRanges", laid_unicode_utf8_acceptRanges), ("unicode/utf8.first", laid_unicode_utf8_first)], narrowed := true }
def TomllexJoinsUptoSaid : Prop := tomllexJoinsUptoRow.holds Tryd.pinned (OpenSpec.upto tomllexJoinsSpec)

/-- 'rosettalaw24.TomllexScans', WHERE WHAT IT READS IS OF BULK AT MOST 1048576: true; the input reads as it did. -/
def tomllexScansUptoRow : OpenClaim := { program := "ytdhbljbfjdlcdaadoor", sum := "d5ad4adc25340bc614435089bde69d5050c44d79f8f7c517a623c7fb1d81da98", func := "rosetta/rosettalaw24.TomllexScans", spec := "tomllexScans", inPlace := ["internal/bytealg.IndexByteString", "internal/abi.NoEscape", "internal/bytealg.MakeNoZero"], unfollowed := true, recurses := true, named := ["unicode/utf8.first", "unicode/utf8.acceptRanges"], apart := false, laid := [("unicode/utf8.acceptRanges", laid_unicode_utf8_acceptRanges), ("unicode/utf8.first", laid_unicode_utf8_first)], narrowed := true }
def TomllexScansUptoSaid : Prop := tomllexScansUptoRow.holds Tryd.pinned (OpenSpec.upto tomllexScansSpec)

/-- 'rosettalaw24.TomllexQuotes', WHERE WHAT IT READS IS OF BULK AT MOST 1048576: true; the input reads as it did. -/
def tomllexQuotesUptoRow : OpenClaim := { program := "ytdhbljbfjdlcdaadoor", sum := "d5ad4adc25340bc614435089bde69d5050c44d79f8f7c517a623c7fb1d81da98", func := "rosetta/rosettalaw24.TomllexQuotes", spec := "tomllexQuotes", inPlace := ["internal/bytealg.IndexByteString", "internal/bytealg.IndexString", "internal/abi.NoEscape", "internal/bytealg.MakeNoZero"], unfollowed := true, recurses := true, named := ["internal/bytealg.MaxLen", "unicode/utf8.first", "unicode/utf8.acceptRanges"], apart := false, laid := [("unicode/utf8.acceptRanges", laid_unicode_utf8_acceptRanges), ("unicode/utf8.first", laid_unicode_utf8_first)], narrowed := true }
def TomllexQuotesUptoSaid : Prop := tomllexQuotesUptoRow.holds Tryd.pinned (OpenSpec.upto tomllexQuotesSpec)

/-- 'rosettalaw24.TomllexCovers', WHERE WHAT IT READS IS OF BULK AT MOST 1048576: true; the input reads as it did. -/
def tomllexCoversUptoRow : OpenClaim := { program := "ytdhbljbfjdlcdaadoor", sum := "d5ad4adc25340bc614435089bde69d5050c44d79f8f7c517a623c7fb1d81da98", func := "rosetta/rosettalaw24.TomllexCovers", spec := "tomllexCovers", inPlace := ["internal/bytealg.IndexByteString", "internal/abi.NoEscape", "internal/bytealg.MakeNoZero", "internal/bytealg.IndexString"], unfollowed := true, recurses := true, named := ["unicode/utf8.first", "unicode/utf8.acceptRanges", "internal/bytealg.MaxLen"], apart := false, laid := [("unicode/utf8.acceptRanges", laid_unicode_utf8_acceptRanges), ("unicode/utf8.first", laid_unicode_utf8_first)], narrowed := true }
def TomllexCoversUptoSaid : Prop := tomllexCoversUptoRow.holds Tryd.pinned (OpenSpec.upto tomllexCoversSpec)

end Rows
end Go.Proofs.YtdhbljbfjdlcdaaDoor
