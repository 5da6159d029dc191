/-
  No cell of these rows narrows 'for every input' (looked for: loops, veiled, ifaces, maps, wideKeys, modest, calm, conditions, laid).
  DERIVED. THE GIVEN ROWS OF THIS SEAT. 5 by the template 'for every input the law returns true; each argument reads behind the call as it read before'; 0 by the template 'total and deterministic' (their statements: YtlfhijdonejacaaTotals.lean).
  GIVEN WITH THE SEED: the statements are not yours to turn. If you find one false, say at which input.
  Laid BY PROGRAM, IN A SANDBOX (cutbox-rows.mjs): the forced cells as the released guide's own fill.sh prints them over the translation 1930d5a3dfb6622c… (all of the seat's roots in one cut). By AI agents, Wed Nov 11 2026. No macro, syntax, notation, axiom, sorry.
-/
import Derived.Test.YtlfhijdonejacaaChecked
import GoSem.Claim
import GoSem.ClaimJoined
import GoSem.ClaimMapViews
import Derived.JoinedTies
import Derived.KernelRfl
namespace Go.Proofs.Ytlfhijdonejacaa
/- THE CELL 'sum', in the pinned program and in every row, IS THE sha256 OF THE DUMP (.gsa) THAT YtlfhijdonejacaaProg.lean LOADS. Nothing in Lean hashes anything: it is a label: what it is worth is what the hold of that sum in a sandbox is worth. -/
noncomputable def Try.pinned : Pinned := { name := "ytlfhijdonejacaa", sum := "1930d5a3dfb6622cddd6705920f1ab323b0895569f0bb555c154255bb0144e9b", checked := Try.checked }
namespace Rows
def none {H : Type} : Left H := { results := [], args := [] }

/-- 'rosettalaw09.DigestSums': WHATEVER THE INPUT: true; the input reads as it did. -/
def digestSumsSpec : ChangeSpec := { name := "digestSums", fn := fun _ => fun
  | [d] => { results := [.lit (.bool true)], args := [d] }
  | _ => none }
def digestSumsRow : OpenClaim := { program := "ytlfhijdonejacaa", sum := "1930d5a3dfb6622cddd6705920f1ab323b0895569f0bb555c154255bb0144e9b", func := "rosetta/rosettalaw09.DigestSums", spec := "digestSums", inPlace := ["internal/abi.NoEscape", "internal/bytealg.MakeNoZero"], apart := false }
def DigestSumsSaid : Prop := digestSumsRow.holds Try.pinned (OpenSpec.ofChange digestSumsSpec)

/-- ITS FALSE NEIGHBOUR: 'it returns false'. Refute it at one input. -/
def digestSumsWrong : ChangeSpec := { name := "digestSums", fn := fun _ => fun
  | [d] => { results := [.lit (.bool false)], args := [d] }
  | _ => none }
def DigestSumsWrongFalsely : Prop := digestSumsRow.holds Try.pinned (OpenSpec.ofChange digestSumsWrong)

/-- 'rosettalaw09.DigestEdges': WHATEVER THE INPUT: true; the input reads as it did. -/
def digestEdgesSpec : ChangeSpec := { name := "digestEdges", fn := fun _ => fun
  | [d1, d2, d3] => { results := [.lit (.bool true)], args := [d1, d2, d3] }
  | _ => none }
def digestEdgesRow : OpenClaim := { program := "ytlfhijdonejacaa", sum := "1930d5a3dfb6622cddd6705920f1ab323b0895569f0bb555c154255bb0144e9b", func := "rosetta/rosettalaw09.DigestEdges", spec := "digestEdges", inPlace := ["internal/abi.NoEscape", "internal/bytealg.MakeNoZero"], apart := false }
def DigestEdgesSaid : Prop := digestEdgesRow.holds Try.pinned (OpenSpec.ofChange digestEdgesSpec)

/-- ITS FALSE NEIGHBOUR: 'it returns false'. Refute it at one input. -/
def digestEdgesWrong : ChangeSpec := { name := "digestEdges", fn := fun _ => fun
  | [d1, d2, d3] => { results := [.lit (.bool false)], args := [d1, d2, d3] }
  | _ => none }
def DigestEdgesWrongFalsely : Prop := digestEdgesRow.holds Try.pinned (OpenSpec.ofChange digestEdgesWrong)

/-- 'rosettalaw09.DigestBranches': WHATEVER THE INPUT: true; the input reads as it did. -/
def digestBranchesSpec : ChangeSpec := { name := "digestBranches", fn := fun _ => fun
  | [d1, d2, d3] => { results := [.lit (.bool true)], args := [d1, d2, d3] }
  | _ => none }
def digestBranchesRow : OpenClaim := { program := "ytlfhijdonejacaa", sum := "1930d5a3dfb6622cddd6705920f1ab323b0895569f0bb555c154255bb0144e9b", func := "rosetta/rosettalaw09.DigestBranches", spec := "digestBranches", inPlace := ["internal/abi.NoEscape", "internal/bytealg.MakeNoZero"], apart := false }
def DigestBranchesSaid : Prop := digestBranchesRow.holds Try.pinned (OpenSpec.ofChange digestBranchesSpec)

/-- ITS FALSE NEIGHBOUR: 'it returns false'. Refute it at one input. -/
def digestBranchesWrong : ChangeSpec := { name := "digestBranches", fn := fun _ => fun
  | [d1, d2, d3] => { results := [.lit (.bool false)], args := [d1, d2, d3] }
  | _ => none }
def DigestBranchesWrongFalsely : Prop := digestBranchesRow.holds Try.pinned (OpenSpec.ofChange digestBranchesWrong)

/-- 'rosettalaw09.DigestParts': WHATEVER THE INPUT: true; the input reads as it did. -/
def digestPartsSpec : ChangeSpec := { name := "digestParts", fn := fun _ => fun
  | [d] => { results := [.lit (.bool true)], args := [d] }
  | _ => none }
def digestPartsRow : OpenClaim := { program := "ytlfhijdonejacaa", sum := "1930d5a3dfb6622cddd6705920f1ab323b0895569f0bb555c154255bb0144e9b", func := "rosetta/rosettalaw09.DigestParts", spec := "digestParts", inPlace := ["internal/abi.NoEscape", "internal/bytealg.MakeNoZero"], apart := false }
def DigestPartsSaid : Prop := digestPartsRow.holds Try.pinned (OpenSpec.ofChange digestPartsSpec)

/-- ITS FALSE NEIGHBOUR: 'it returns false'. Refute it at one input. -/
def digestPartsWrong : ChangeSpec := { name := "digestParts", fn := fun _ => fun
  | [d] => { results := [.lit (.bool false)], args := [d] }
  | _ => none }
def DigestPartsWrongFalsely : Prop := digestPartsRow.holds Try.pinned (OpenSpec.ofChange digestPartsWrong)

/-- 'rosettalaw09.DigestWrites': WHATEVER THE INPUT: true; the input reads as it did. -/
def digestWritesSpec : ChangeSpec := { name := "digestWrites", fn := fun _ => fun
  | [d] => { results := [.lit (.bool true)], args := [d] }
  | _ => none }
def digestWritesRow : OpenClaim := { program := "ytlfhijdonejacaa", sum := "1930d5a3dfb6622cddd6705920f1ab323b0895569f0bb555c154255bb0144e9b", func := "rosetta/rosettalaw09.DigestWrites", spec := "digestWrites", inPlace := ["internal/abi.NoEscape", "internal/bytealg.MakeNoZero"], apart := false }
def DigestWritesSaid : Prop := digestWritesRow.holds Try.pinned (OpenSpec.ofChange digestWritesSpec)

/-- ITS FALSE NEIGHBOUR: 'it returns false'. Refute it at one input. -/
def digestWritesWrong : ChangeSpec := { name := "digestWrites", fn := fun _ => fun
  | [d] => { results := [.lit (.bool false)], args := [d] }
  | _ => none }
def DigestWritesWrongFalsely : Prop := digestWritesRow.holds Try.pinned (OpenSpec.ofChange digestWritesWrong)

/- THE SECOND FORM. 'bulk': how many values and letters a reading holds, each counted each time it is reached (what is shared counts as often as it is met; a slice's spare places count too). A statement '..UptoSaid' is the law's where the arguments, and the package variables that the reading takes, are together of bulk at most 1048576: NARROWER than '..Said'. Prove '..Said' where nothing that the law and all that it calls make is longer than what came in: it says more and counts as full. Else prove '..UptoSaid'. A law counts once. -/
mutual
def uptoBulk {H : Type} : DataW H → Nat
  | .lit (.string bytes) => bytes.length + 1
  | .lit _ => 1
  | .nil => 1
  | .ptr d => uptoBulk d + 1
  | .slice elems spare => uptoBulkAll elems + uptoBulkAll spare + 1
  | .agg parts => uptoBulkAll parts + 1
  | .iface _ d => uptoBulk d + 1
  | .map entries => uptoBulkEntries entries + 1
  | .held _ => 1
def uptoBulkAll {H : Type} : List (DataW H) → Nat
  | [] => 0
  | d :: r => uptoBulk d + uptoBulkAll r
def uptoBulkEntries {H : Type} : List (Lit × DataW H) → Nat
  | [] => 0
  | x :: r => uptoBulkEntry x + uptoBulkEntries r
def uptoBulkEntry {H : Type} : Lit × DataW H → Nat
  | (.string bytes, d) => bytes.length + uptoBulk d + 1
  | (_, d) => uptoBulk d + 1
 end
def uptoSmall : (H : Type) → List (DataW H) → Bool := fun _ ds => decide (uptoBulkAll ds ≤ 1048576)
def OpenSpec.upto (s : _root_.Go.ChangeSpec) : _root_.Go.OpenSpec := { _root_.Go.OpenSpec.ofChange s with cond := some uptoSmall }

/-- 'rosettalaw09.DigestSums', WHERE WHAT IT READS IS OF BULK AT MOST 1048576: true; the input reads as it did. -/
def digestSumsUptoRow : OpenClaim := { program := "ytlfhijdonejacaa", sum := "1930d5a3dfb6622cddd6705920f1ab323b0895569f0bb555c154255bb0144e9b", func := "rosetta/rosettalaw09.DigestSums", spec := "digestSums", inPlace := ["internal/abi.NoEscape", "internal/bytealg.MakeNoZero"], apart := false, narrowed := true }
def DigestSumsUptoSaid : Prop := digestSumsUptoRow.holds Try.pinned (OpenSpec.upto digestSumsSpec)

/-- 'rosettalaw09.DigestEdges', WHERE WHAT IT READS IS OF BULK AT MOST 1048576: true; the input reads as it did. -/
def digestEdgesUptoRow : OpenClaim := { program := "ytlfhijdonejacaa", sum := "1930d5a3dfb6622cddd6705920f1ab323b0895569f0bb555c154255bb0144e9b", func := "rosetta/rosettalaw09.DigestEdges", spec := "digestEdges", inPlace := ["internal/abi.NoEscape", "internal/bytealg.MakeNoZero"], apart := false, narrowed := true }
def DigestEdgesUptoSaid : Prop := digestEdgesUptoRow.holds Try.pinned (OpenSpec.upto digestEdgesSpec)

/-- 'rosettalaw09.DigestBranches', WHERE WHAT IT READS IS OF BULK AT MOST 1048576: true; the input reads as it did. -/
def digestBranchesUptoRow : OpenClaim := { program := "ytlfhijdonejacaa", sum := "1930d5a3dfb6622cddd6705920f1ab323b0895569f0bb555c154255bb0144e9b", func := "rosetta/rosettalaw09.DigestBranches", spec := "digestBranches", inPlace := ["internal/abi.NoEscape", "internal/bytealg.MakeNoZero"], apart := false, narrowed := true }
def DigestBranchesUptoSaid : Prop := digestBranchesUptoRow.holds Try.pinned (OpenSpec.upto digestBranchesSpec)

/-- 'rosettalaw09.DigestParts', WHERE WHAT IT READS IS OF BULK AT MOST 1048576: true; the input reads as it did. -/
def digestPartsUptoRow : OpenClaim := { program := "ytlfhijdonejacaa", sum := "1930d5a3dfb6622cddd6705920f1ab323b0895569f0bb555c154255bb0144e9b", func := "rosetta/rosettalaw09.DigestParts", spec := "digestParts", inPlace := ["internal/abi.NoEscape", "internal/bytealg.MakeNoZero"], apart := false, narrowed := true }
def DigestPartsUptoSaid : Prop := digestPartsUptoRow.holds Try.pinned (OpenSpec.upto digestPartsSpec)

/-- 'rosettalaw09.DigestWrites', WHERE WHAT IT READS IS OF BULK AT MOST 1048576: true; the input reads as it did. -/
def digestWritesUptoRow : OpenClaim := { program := "ytlfhijdonejacaa", sum := "1930d5a3dfb6622cddd6705920f1ab323b0895569f0bb555c154255bb0144e9b", func := "rosetta/rosettalaw09.DigestWrites", spec := "digestWrites", inPlace := ["internal/abi.NoEscape", "internal/bytealg.MakeNoZero"], apart := false, narrowed := true }
def DigestWritesUptoSaid : Prop := digestWritesUptoRow.holds Try.pinned (OpenSpec.upto digestWritesSpec)

end Rows
end Go.Proofs.Ytlfhijdonejacaa
