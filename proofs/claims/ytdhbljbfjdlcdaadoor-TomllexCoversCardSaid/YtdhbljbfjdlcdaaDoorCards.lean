/-
  DERIVED. GIVEN WITH THE SEED: THE CARDS: each row of YtdhbljbfjdlcdaaDoorRows.lean that lists a variable, with what it lists TIED to the program's text (the seventh form; the later family's looks); each row that meets fmt, with fmt's text TOLD by the authors' own Lean function (tested against real Go, not proved from fmt's source: count such statements apart). THE CARD IS WHAT COUNTS. Prove the row's statement (the work); the ties are given (YtdhbljbfjdlcdaaDoorTie.lean); close each card by the builder's one call (the guide's Derived/Test/ToyasCard.lean, 'card_holds'). Laid BY PROGRAM, IN A SANDBOX (cutbox-door.mjs). By AI agents, Wed Nov 11 2026. No macro, syntax, notation, axiom, sorry.
-/
import Derived.Test.YtdhbljbfjdlcdaaDoorRows
import GoSem.ClaimSeven
namespace Go.Proofs.YtdhbljbfjdlcdaaDoor
namespace Rows

/-- THE TIED CARD OF 'rosettalaw24.TomllexLines'. -/
def tomllexLinesCard : Claim7 := { stood := { row := tomllexLinesRow, standIns := [], harness := (true, "0b4cde26701203ad04612fe125eae82e4591562344f833db4f399a6fa981770a"), looks := false }, kinds := [], alts := [], laidByText := true, laidKinds := [.data, .pinned], laidTests := true, laidLooks := .later }
def TomllexLinesCardSaid : Prop := Claim7.holds Tryd.pinned (.plain (OpenSpec.ofChange tomllexLinesSpec)) tomllexLinesCard

/-- THE TIED CARD OF 'rosettalaw24.TomllexJoins'. -/
def tomllexJoinsCard : Claim7 := { stood := { row := tomllexJoinsRow, standIns := [], harness := (true, "0b4cde26701203ad04612fe125eae82e4591562344f833db4f399a6fa981770a"), looks := false }, kinds := [], alts := [], laidByText := true, laidKinds := [.data, .pinned], laidTests := true, laidLooks := .later }
def TomllexJoinsCardSaid : Prop := Claim7.holds Tryd.pinned (.plain (OpenSpec.ofChange tomllexJoinsSpec)) tomllexJoinsCard

/-- THE TIED CARD OF 'rosettalaw24.TomllexScans'. -/
def tomllexScansCard : Claim7 := { stood := { row := tomllexScansRow, standIns := [], harness := (true, "0b4cde26701203ad04612fe125eae82e4591562344f833db4f399a6fa981770a"), looks := false }, kinds := [], alts := [], laidByText := true, laidKinds := [.data, .pinned], laidTests := true, laidLooks := .later }
def TomllexScansCardSaid : Prop := Claim7.holds Tryd.pinned (.plain (OpenSpec.ofChange tomllexScansSpec)) tomllexScansCard

/-- THE TIED CARD OF 'rosettalaw24.TomllexQuotes'. -/
def tomllexQuotesCard : Claim7 := { stood := { row := tomllexQuotesRow, standIns := [], harness := (true, "0b4cde26701203ad04612fe125eae82e4591562344f833db4f399a6fa981770a"), looks := false }, kinds := [], alts := [], laidByText := true, laidKinds := [.data, .pinned], laidTests := true, laidLooks := .later }
def TomllexQuotesCardSaid : Prop := Claim7.holds Tryd.pinned (.plain (OpenSpec.ofChange tomllexQuotesSpec)) tomllexQuotesCard

/-- THE TIED CARD OF 'rosettalaw24.TomllexCovers'. -/
def tomllexCoversCard : Claim7 := { stood := { row := tomllexCoversRow, standIns := [], harness := (true, "0b4cde26701203ad04612fe125eae82e4591562344f833db4f399a6fa981770a"), looks := false }, kinds := [], alts := [], laidByText := true, laidKinds := [.data, .pinned], laidTests := true, laidLooks := .later }
def TomllexCoversCardSaid : Prop := Claim7.holds Tryd.pinned (.plain (OpenSpec.ofChange tomllexCoversSpec)) tomllexCoversCard

/-- THE SECOND FORM's CARD OF 'rosettalaw24.TomllexLines'. -/
def tomllexLinesUptoCard : Claim7 := { stood := { row := tomllexLinesUptoRow, standIns := [], harness := (true, "0b4cde26701203ad04612fe125eae82e4591562344f833db4f399a6fa981770a"), looks := false }, kinds := [], alts := [], laidByText := true, laidKinds := [.data, .pinned], laidTests := true, laidLooks := .later }
def TomllexLinesUptoCardSaid : Prop := Claim7.holds Tryd.pinned (.plain (OpenSpec.upto tomllexLinesSpec)) tomllexLinesUptoCard

/-- THE SECOND FORM's CARD OF 'rosettalaw24.TomllexJoins'. -/
def tomllexJoinsUptoCard : Claim7 := { stood := { row := tomllexJoinsUptoRow, standIns := [], harness := (true, "0b4cde26701203ad04612fe125eae82e4591562344f833db4f399a6fa981770a"), looks := false }, kinds := [], alts := [], laidByText := true, laidKinds := [.data, .pinned], laidTests := true, laidLooks := .later }
def TomllexJoinsUptoCardSaid : Prop := Claim7.holds Tryd.pinned (.plain (OpenSpec.upto tomllexJoinsSpec)) tomllexJoinsUptoCard

/-- THE SECOND FORM's CARD OF 'rosettalaw24.TomllexScans'. -/
def tomllexScansUptoCard : Claim7 := { stood := { row := tomllexScansUptoRow, standIns := [], harness := (true, "0b4cde26701203ad04612fe125eae82e4591562344f833db4f399a6fa981770a"), looks := false }, kinds := [], alts := [], laidByText := true, laidKinds := [.data, .pinned], laidTests := true, laidLooks := .later }
def TomllexScansUptoCardSaid : Prop := Claim7.holds Tryd.pinned (.plain (OpenSpec.upto tomllexScansSpec)) tomllexScansUptoCard

/-- THE SECOND FORM's CARD OF 'rosettalaw24.TomllexQuotes'. -/
def tomllexQuotesUptoCard : Claim7 := { stood := { row := tomllexQuotesUptoRow, standIns := [], harness := (true, "0b4cde26701203ad04612fe125eae82e4591562344f833db4f399a6fa981770a"), looks := false }, kinds := [], alts := [], laidByText := true, laidKinds := [.data, .pinned], laidTests := true, laidLooks := .later }
def TomllexQuotesUptoCardSaid : Prop := Claim7.holds Tryd.pinned (.plain (OpenSpec.upto tomllexQuotesSpec)) tomllexQuotesUptoCard

/-- THE SECOND FORM's CARD OF 'rosettalaw24.TomllexCovers'. -/
def tomllexCoversUptoCard : Claim7 := { stood := { row := tomllexCoversUptoRow, standIns := [], harness := (true, "0b4cde26701203ad04612fe125eae82e4591562344f833db4f399a6fa981770a"), looks := false }, kinds := [], alts := [], laidByText := true, laidKinds := [.data, .pinned], laidTests := true, laidLooks := .later }
def TomllexCoversUptoCardSaid : Prop := Claim7.holds Tryd.pinned (.plain (OpenSpec.upto tomllexCoversSpec)) tomllexCoversUptoCard
end Rows
end Go.Proofs.YtdhbljbfjdlcdaaDoor
