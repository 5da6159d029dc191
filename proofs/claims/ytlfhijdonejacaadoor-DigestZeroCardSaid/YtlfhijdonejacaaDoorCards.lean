/-
  DERIVED. GIVEN WITH THE SEED: THE CARDS: each row of YtlfhijdonejacaaDoorRows.lean that lists a variable, with what it lists TIED to the program's text (the seventh form; the later family's looks); each row that meets fmt, with fmt's text TOLD by the authors' own Lean function (tested against real Go, not proved from fmt's source: count such statements apart). THE CARD IS WHAT COUNTS. Prove the row's statement (the work); the ties are given (YtlfhijdonejacaaDoorTie.lean); close each card by the builder's one call (the guide's Derived/Test/ToyasCard.lean, 'card_holds'). Laid BY PROGRAM, IN A SANDBOX (cutbox-door.mjs). By AI agents, Wed Nov 11 2026. No macro, syntax, notation, axiom, sorry.
-/
import Derived.Test.YtlfhijdonejacaaDoorRows
import GoSem.ClaimSeven
namespace Go.Proofs.YtlfhijdonejacaaDoor
namespace Rows

/-- THE TIED CARD OF 'rosettalaw09.DigestZero'. -/
def digestZeroCard : Claim7 := { stood := { row := digestZeroRow, standIns := [], harness := (true, "e1c6ae7e5766cc607f6acc54419db83a557793c7f76d8da892415abfefc3fb00"), looks := false }, kinds := [], alts := [], laidByText := true, laidKinds := [.data, .pinned], laidTests := true, laidLooks := .later }
def DigestZeroCardSaid : Prop := Claim7.holds Tryd.pinned (.plain (OpenSpec.ofChange digestZeroSpec)) digestZeroCard

/-- THE SECOND FORM's CARD OF 'rosettalaw09.DigestZero'. -/
def digestZeroUptoCard : Claim7 := { stood := { row := digestZeroUptoRow, standIns := [], harness := (true, "e1c6ae7e5766cc607f6acc54419db83a557793c7f76d8da892415abfefc3fb00"), looks := false }, kinds := [], alts := [], laidByText := true, laidKinds := [.data, .pinned], laidTests := true, laidLooks := .later }
def DigestZeroUptoCardSaid : Prop := Claim7.holds Tryd.pinned (.plain (OpenSpec.upto digestZeroSpec)) digestZeroUptoCard
end Rows
end Go.Proofs.YtlfhijdonejacaaDoor
