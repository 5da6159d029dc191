/-
  DERIVED. GIVEN WITH THE SEED: THE CARDS: each row of YtjfkiomegacpeaaDoorRows.lean that lists a variable, with what it lists TIED to the program's text (the seventh form; the later family's looks); each row that meets fmt, with fmt's text TOLD by the authors' own Lean function (tested against real Go, not proved from fmt's source: count such statements apart). THE CARD IS WHAT COUNTS. Prove the row's statement (the work); the ties are given (YtjfkiomegacpeaaDoorTie.lean); close each card by the builder's one call (the guide's Derived/Test/ToyasCard.lean, 'card_holds'). Laid BY PROGRAM, IN A SANDBOX (cutbox-door.mjs). By AI agents, Wed Nov 11 2026. No macro, syntax, notation, axiom, sorry.
-/
import Derived.Test.YtjfkiomegacpeaaDoorRows
import GoSem.ClaimSeven
namespace Go.Proofs.YtjfkiomegacpeaaDoor
namespace Rows

/-- THE TIED CARD OF 'rosettalaw21.JsonlexScans'. -/
def jsonlexScansCard : Claim7 := { stood := { row := jsonlexScansRow, standIns := [], harness := (true, "c2e9197cb6fa06ad50268bcc499fc361a86bd05e5a0e444a1c4e498452309a12"), looks := false }, kinds := [], alts := [], laidByText := true, laidKinds := [.data, .data, .data, .data, .pinned], laidTests := true, laidLooks := .later }
def JsonlexScansCardSaid : Prop := Claim7.holds Tryd.pinned (.plain (OpenSpec.ofChange jsonlexScansSpec)) jsonlexScansCard

/-- THE TIED CARD OF 'rosettalaw21.JsonlexCovers'. -/
def jsonlexCoversCard : Claim7 := { stood := { row := jsonlexCoversRow, standIns := [], harness := (true, "c2e9197cb6fa06ad50268bcc499fc361a86bd05e5a0e444a1c4e498452309a12"), looks := false }, kinds := [], alts := [], laidByText := true, laidKinds := [.data, .data, .data, .data, .pinned], laidTests := true, laidLooks := .later }
def JsonlexCoversCardSaid : Prop := Claim7.holds Tryd.pinned (.plain (OpenSpec.ofChange jsonlexCoversSpec)) jsonlexCoversCard

/-- THE TIED CARD OF 'rosettalaw21.JsonlexJoins'. -/
def jsonlexJoinsCard : Claim7 := { stood := { row := jsonlexJoinsRow, standIns := [], harness := (true, "c2e9197cb6fa06ad50268bcc499fc361a86bd05e5a0e444a1c4e498452309a12"), looks := false }, kinds := [], alts := [], laidByText := true, laidKinds := [.data, .data, .data, .data, .pinned], laidTests := true, laidLooks := .later }
def JsonlexJoinsCardSaid : Prop := Claim7.holds Tryd.pinned (.plain (OpenSpec.ofChange jsonlexJoinsSpec)) jsonlexJoinsCard

/-- THE TIED CARD OF 'rosettalaw21.JsonlexTexts'. -/
def jsonlexTextsCard : Claim7 := { stood := { row := jsonlexTextsRow, standIns := [], harness := (true, "c2e9197cb6fa06ad50268bcc499fc361a86bd05e5a0e444a1c4e498452309a12"), looks := false }, kinds := [], alts := [], laidByText := true, laidKinds := [.data, .data, .data, .data, .pinned], laidTests := true, laidLooks := .later }
def JsonlexTextsCardSaid : Prop := Claim7.holds Tryd.pinned (.plain (OpenSpec.ofChange jsonlexTextsSpec)) jsonlexTextsCard

/-- THE TIED CARD OF 'rosettalaw21.JsonlexNumbers'. -/
def jsonlexNumbersCard : Claim7 := { stood := { row := jsonlexNumbersRow, standIns := [], harness := (true, "c2e9197cb6fa06ad50268bcc499fc361a86bd05e5a0e444a1c4e498452309a12"), looks := false }, kinds := [], alts := [], laidByText := true, laidKinds := [.data, .data, .data, .data, .pinned], laidTests := true, laidLooks := .later }
def JsonlexNumbersCardSaid : Prop := Claim7.holds Tryd.pinned (.plain (OpenSpec.ofChange jsonlexNumbersSpec)) jsonlexNumbersCard

/-- THE TIED CARD OF 'rosettalaw21.JsonlexComments'. -/
def jsonlexCommentsCard : Claim7 := { stood := { row := jsonlexCommentsRow, standIns := [], harness := (true, "c2e9197cb6fa06ad50268bcc499fc361a86bd05e5a0e444a1c4e498452309a12"), looks := false }, kinds := [], alts := [], laidByText := true, laidKinds := [.data, .data, .data, .data, .pinned], laidTests := true, laidLooks := .later }
def JsonlexCommentsCardSaid : Prop := Claim7.holds Tryd.pinned (.plain (OpenSpec.ofChange jsonlexCommentsSpec)) jsonlexCommentsCard

/-- THE SECOND FORM's CARD OF 'rosettalaw21.JsonlexScans'. -/
def jsonlexScansUptoCard : Claim7 := { stood := { row := jsonlexScansUptoRow, standIns := [], harness := (true, "c2e9197cb6fa06ad50268bcc499fc361a86bd05e5a0e444a1c4e498452309a12"), looks := false }, kinds := [], alts := [], laidByText := true, laidKinds := [.data, .data, .data, .data, .pinned], laidTests := true, laidLooks := .later }
def JsonlexScansUptoCardSaid : Prop := Claim7.holds Tryd.pinned (.plain (OpenSpec.upto jsonlexScansSpec)) jsonlexScansUptoCard

/-- THE SECOND FORM's CARD OF 'rosettalaw21.JsonlexCovers'. -/
def jsonlexCoversUptoCard : Claim7 := { stood := { row := jsonlexCoversUptoRow, standIns := [], harness := (true, "c2e9197cb6fa06ad50268bcc499fc361a86bd05e5a0e444a1c4e498452309a12"), looks := false }, kinds := [], alts := [], laidByText := true, laidKinds := [.data, .data, .data, .data, .pinned], laidTests := true, laidLooks := .later }
def JsonlexCoversUptoCardSaid : Prop := Claim7.holds Tryd.pinned (.plain (OpenSpec.upto jsonlexCoversSpec)) jsonlexCoversUptoCard

/-- THE SECOND FORM's CARD OF 'rosettalaw21.JsonlexJoins'. -/
def jsonlexJoinsUptoCard : Claim7 := { stood := { row := jsonlexJoinsUptoRow, standIns := [], harness := (true, "c2e9197cb6fa06ad50268bcc499fc361a86bd05e5a0e444a1c4e498452309a12"), looks := false }, kinds := [], alts := [], laidByText := true, laidKinds := [.data, .data, .data, .data, .pinned], laidTests := true, laidLooks := .later }
def JsonlexJoinsUptoCardSaid : Prop := Claim7.holds Tryd.pinned (.plain (OpenSpec.upto jsonlexJoinsSpec)) jsonlexJoinsUptoCard

/-- THE SECOND FORM's CARD OF 'rosettalaw21.JsonlexTexts'. -/
def jsonlexTextsUptoCard : Claim7 := { stood := { row := jsonlexTextsUptoRow, standIns := [], harness := (true, "c2e9197cb6fa06ad50268bcc499fc361a86bd05e5a0e444a1c4e498452309a12"), looks := false }, kinds := [], alts := [], laidByText := true, laidKinds := [.data, .data, .data, .data, .pinned], laidTests := true, laidLooks := .later }
def JsonlexTextsUptoCardSaid : Prop := Claim7.holds Tryd.pinned (.plain (OpenSpec.upto jsonlexTextsSpec)) jsonlexTextsUptoCard

/-- THE SECOND FORM's CARD OF 'rosettalaw21.JsonlexNumbers'. -/
def jsonlexNumbersUptoCard : Claim7 := { stood := { row := jsonlexNumbersUptoRow, standIns := [], harness := (true, "c2e9197cb6fa06ad50268bcc499fc361a86bd05e5a0e444a1c4e498452309a12"), looks := false }, kinds := [], alts := [], laidByText := true, laidKinds := [.data, .data, .data, .data, .pinned], laidTests := true, laidLooks := .later }
def JsonlexNumbersUptoCardSaid : Prop := Claim7.holds Tryd.pinned (.plain (OpenSpec.upto jsonlexNumbersSpec)) jsonlexNumbersUptoCard

/-- THE SECOND FORM's CARD OF 'rosettalaw21.JsonlexComments'. -/
def jsonlexCommentsUptoCard : Claim7 := { stood := { row := jsonlexCommentsUptoRow, standIns := [], harness := (true, "c2e9197cb6fa06ad50268bcc499fc361a86bd05e5a0e444a1c4e498452309a12"), looks := false }, kinds := [], alts := [], laidByText := true, laidKinds := [.data, .data, .data, .data, .pinned], laidTests := true, laidLooks := .later }
def JsonlexCommentsUptoCardSaid : Prop := Claim7.holds Tryd.pinned (.plain (OpenSpec.upto jsonlexCommentsSpec)) jsonlexCommentsUptoCard
end Rows
end Go.Proofs.YtjfkiomegacpeaaDoor
