/-
  DERIVED. GIVEN WITH THE SEED: THE CARDS: each row of YtbficmdjblimfaaDoorRows.lean that lists a variable, with what it lists TIED to the program's text (the seventh form; the later family's looks); each row that meets fmt, with fmt's text TOLD by the authors' own Lean function (tested against real Go, not proved from fmt's source: count such statements apart). THE CARD IS WHAT COUNTS. Prove the row's statement (the work); the ties are given (YtbficmdjblimfaaDoorTie.lean); close each card by the builder's one call (the guide's Derived/Test/ToyasCard.lean, 'card_holds'). Laid BY PROGRAM, IN A SANDBOX (cutbox-door.mjs). By AI agents, Wed Nov 11 2026. No macro, syntax, notation, axiom, sorry.
-/
import Derived.Test.YtbficmdjblimfaaDoorRows
import GoSem.ClaimSeven
namespace Go.Proofs.YtbficmdjblimfaaDoor
namespace Rows

/-- THE TIED CARD OF 'rosettalaw07.InstantReads'. -/
def instantReadsCard : Claim7 := { stood := { row := instantReadsRow, standIns := [], harness := (true, "b7b0582afa7a05f971d2235bd0e7694321861eeaa13ad5d5a1c9dfc791e94b6f"), looks := false }, kinds := [], alts := [], laidByText := true, laidKinds := [.data, .data, .data, .data, .pinned], laidTests := true, laidLooks := .later }
def InstantReadsCardSaid : Prop := Claim7.holds Tryd.pinned (.plain (OpenSpec.ofChange instantReadsSpec)) instantReadsCard

/-- THE TIED CARD OF 'rosettalaw07.InstantLocals'. -/
def instantLocalsCard : Claim7 := { stood := { row := instantLocalsRow, standIns := [], harness := (true, "b7b0582afa7a05f971d2235bd0e7694321861eeaa13ad5d5a1c9dfc791e94b6f"), looks := false }, kinds := [], alts := [], laidByText := true, laidKinds := [.data, .data, .data, .data, .pinned], laidTests := true, laidLooks := .later }
def InstantLocalsCardSaid : Prop := Claim7.holds Tryd.pinned (.plain (OpenSpec.ofChange instantLocalsSpec)) instantLocalsCard

/-- THE TIED CARD OF 'rosettalaw07.InstantCounts'. -/
def instantCountsCard : Claim7 := { stood := { row := instantCountsRow, standIns := [], harness := (true, "b7b0582afa7a05f971d2235bd0e7694321861eeaa13ad5d5a1c9dfc791e94b6f"), looks := false }, kinds := [], alts := [], laidByText := true, laidKinds := [.data, .data, .data, .data, .pinned], laidTests := true, laidLooks := .later }
def InstantCountsCardSaid : Prop := Claim7.holds Tryd.pinned (.plain (OpenSpec.ofChange instantCountsSpec)) instantCountsCard

/-- THE TIED CARD OF 'rosettalaw07.InstantMakes'. -/
def instantMakesCard : Claim7 := { stood := { row := instantMakesRow, standIns := [], harness := (true, "b7b0582afa7a05f971d2235bd0e7694321861eeaa13ad5d5a1c9dfc791e94b6f"), looks := false }, kinds := [], alts := [], laidByText := true, laidKinds := [.data, .data, .data, .data, .pinned], laidTests := true, laidLooks := .later }
def InstantMakesCardSaid : Prop := Claim7.holds Tryd.pinned (.plain (OpenSpec.ofChange instantMakesSpec)) instantMakesCard

/-- THE TIED CARD OF 'rosettalaw07.InstantShifts'. -/
def instantShiftsCard : Claim7 := { stood := { row := instantShiftsRow, standIns := [], harness := (true, "b7b0582afa7a05f971d2235bd0e7694321861eeaa13ad5d5a1c9dfc791e94b6f"), looks := false }, kinds := [], alts := [], laidByText := true, laidKinds := [.data, .data, .data, .data, .pinned], laidTests := true, laidLooks := .later }
def InstantShiftsCardSaid : Prop := Claim7.holds Tryd.pinned (.plain (OpenSpec.ofChange instantShiftsSpec)) instantShiftsCard

/-- THE TIED CARD OF 'rosettalaw07.InstantSettles'. -/
def instantSettlesCard : Claim7 := { stood := { row := instantSettlesRow, standIns := [], harness := (true, "b7b0582afa7a05f971d2235bd0e7694321861eeaa13ad5d5a1c9dfc791e94b6f"), looks := false }, kinds := [], alts := [], laidByText := true, laidKinds := [.data, .data, .data, .data, .pinned], laidTests := true, laidLooks := .later }
def InstantSettlesCardSaid : Prop := Claim7.holds Tryd.pinned (.plain (OpenSpec.ofChange instantSettlesSpec)) instantSettlesCard

/-- THE TIED CARD OF 'rosettalaw07.InstantOrders'. -/
def instantOrdersCard : Claim7 := { stood := { row := instantOrdersRow, standIns := [], harness := (true, "b7b0582afa7a05f971d2235bd0e7694321861eeaa13ad5d5a1c9dfc791e94b6f"), looks := false }, kinds := [], alts := [], laidByText := true, laidKinds := [.data, .data, .data, .data, .pinned], laidTests := true, laidLooks := .later }
def InstantOrdersCardSaid : Prop := Claim7.holds Tryd.pinned (.plain (OpenSpec.ofChange instantOrdersSpec)) instantOrdersCard

/-- THE SECOND FORM's CARD OF 'rosettalaw07.InstantReads'. -/
def instantReadsUptoCard : Claim7 := { stood := { row := instantReadsUptoRow, standIns := [], harness := (true, "b7b0582afa7a05f971d2235bd0e7694321861eeaa13ad5d5a1c9dfc791e94b6f"), looks := false }, kinds := [], alts := [], laidByText := true, laidKinds := [.data, .data, .data, .data, .pinned], laidTests := true, laidLooks := .later }
def InstantReadsUptoCardSaid : Prop := Claim7.holds Tryd.pinned (.plain (OpenSpec.upto instantReadsSpec)) instantReadsUptoCard

/-- THE SECOND FORM's CARD OF 'rosettalaw07.InstantLocals'. -/
def instantLocalsUptoCard : Claim7 := { stood := { row := instantLocalsUptoRow, standIns := [], harness := (true, "b7b0582afa7a05f971d2235bd0e7694321861eeaa13ad5d5a1c9dfc791e94b6f"), looks := false }, kinds := [], alts := [], laidByText := true, laidKinds := [.data, .data, .data, .data, .pinned], laidTests := true, laidLooks := .later }
def InstantLocalsUptoCardSaid : Prop := Claim7.holds Tryd.pinned (.plain (OpenSpec.upto instantLocalsSpec)) instantLocalsUptoCard

/-- THE SECOND FORM's CARD OF 'rosettalaw07.InstantCounts'. -/
def instantCountsUptoCard : Claim7 := { stood := { row := instantCountsUptoRow, standIns := [], harness := (true, "b7b0582afa7a05f971d2235bd0e7694321861eeaa13ad5d5a1c9dfc791e94b6f"), looks := false }, kinds := [], alts := [], laidByText := true, laidKinds := [.data, .data, .data, .data, .pinned], laidTests := true, laidLooks := .later }
def InstantCountsUptoCardSaid : Prop := Claim7.holds Tryd.pinned (.plain (OpenSpec.upto instantCountsSpec)) instantCountsUptoCard

/-- THE SECOND FORM's CARD OF 'rosettalaw07.InstantMakes'. -/
def instantMakesUptoCard : Claim7 := { stood := { row := instantMakesUptoRow, standIns := [], harness := (true, "b7b0582afa7a05f971d2235bd0e7694321861eeaa13ad5d5a1c9dfc791e94b6f"), looks := false }, kinds := [], alts := [], laidByText := true, laidKinds := [.data, .data, .data, .data, .pinned], laidTests := true, laidLooks := .later }
def InstantMakesUptoCardSaid : Prop := Claim7.holds Tryd.pinned (.plain (OpenSpec.upto instantMakesSpec)) instantMakesUptoCard

/-- THE SECOND FORM's CARD OF 'rosettalaw07.InstantShifts'. -/
def instantShiftsUptoCard : Claim7 := { stood := { row := instantShiftsUptoRow, standIns := [], harness := (true, "b7b0582afa7a05f971d2235bd0e7694321861eeaa13ad5d5a1c9dfc791e94b6f"), looks := false }, kinds := [], alts := [], laidByText := true, laidKinds := [.data, .data, .data, .data, .pinned], laidTests := true, laidLooks := .later }
def InstantShiftsUptoCardSaid : Prop := Claim7.holds Tryd.pinned (.plain (OpenSpec.upto instantShiftsSpec)) instantShiftsUptoCard

/-- THE SECOND FORM's CARD OF 'rosettalaw07.InstantSettles'. -/
def instantSettlesUptoCard : Claim7 := { stood := { row := instantSettlesUptoRow, standIns := [], harness := (true, "b7b0582afa7a05f971d2235bd0e7694321861eeaa13ad5d5a1c9dfc791e94b6f"), looks := false }, kinds := [], alts := [], laidByText := true, laidKinds := [.data, .data, .data, .data, .pinned], laidTests := true, laidLooks := .later }
def InstantSettlesUptoCardSaid : Prop := Claim7.holds Tryd.pinned (.plain (OpenSpec.upto instantSettlesSpec)) instantSettlesUptoCard

/-- THE SECOND FORM's CARD OF 'rosettalaw07.InstantOrders'. -/
def instantOrdersUptoCard : Claim7 := { stood := { row := instantOrdersUptoRow, standIns := [], harness := (true, "b7b0582afa7a05f971d2235bd0e7694321861eeaa13ad5d5a1c9dfc791e94b6f"), looks := false }, kinds := [], alts := [], laidByText := true, laidKinds := [.data, .data, .data, .data, .pinned], laidTests := true, laidLooks := .later }
def InstantOrdersUptoCardSaid : Prop := Claim7.holds Tryd.pinned (.plain (OpenSpec.upto instantOrdersSpec)) instantOrdersUptoCard
end Rows
end Go.Proofs.YtbficmdjblimfaaDoor
