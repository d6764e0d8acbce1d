/-
  DERIVED. GIVEN WITH THE SEED: THE CARDS: each row of YtfnncdngfggcjaaGreatDoorRows.lean that lists a variable, with what it lists TIED to the program's text (the seventh form; the later family's looks); each row that meets fmt, with fmt's text TOLD by the authors' own Lean function (tested against real Go, not proved from fmt's source: count such statements apart). THE CARD IS WHAT COUNTS. Prove the row's statement (the work); the ties are given (YtfnncdngfggcjaaGreatDoorTie.lean); close each card by the builder's one call (the guide's Derived/Test/ToyasCard.lean, 'card_holds'). Laid BY PROGRAM, IN A SANDBOX (cutbox-door.mjs). By AI agents, Wed Nov 11 2026. No macro, syntax, notation, axiom, sorry.
-/
import Derived.Test.YtfnncdngfggcjaaGreatDoorRows
import GoSem.ClaimSeven
namespace Go.Proofs.YtfnncdngfggcjaaGreatDoor
namespace Rows

/-- THE TIED CARD OF 'laws.FnNames'. -/
def fnNamesCard : Claim7 := { stood := { row := fnNamesRow, standIns := [], harness := (true, "9bd40e22350e4a523e296dc3a1ec04be31f2e7ff22abf11ec9bf3020fa703534"), looks := true }, kinds := [], alts := [], laidByText := true, laidKinds := [.data, .data], laidTests := true, laidLooks := .later }
def FnNamesCardSaid : Prop := Claim7.holds Tryz.pinned (.plain (OpenSpec.ofChange fnNamesSpec)) fnNamesCard

/-- THE TIED CARD OF 'laws.FnParent'. -/
def fnParentCard : Claim7 := { stood := { row := fnParentRow, standIns := [], harness := (true, "9bd40e22350e4a523e296dc3a1ec04be31f2e7ff22abf11ec9bf3020fa703534"), looks := true }, kinds := [], alts := [], laidByText := true, laidKinds := [.data, .data, .sentinel, .data, .sentinel], laidTests := true, laidLooks := .later }
def FnParentCardSaid : Prop := Claim7.holds Tryz.pinned (.plain (OpenSpec.ofChange fnParentSpec)) fnParentCard

/-- THE TIED CARD OF 'laws.FnChildren'. -/
def fnChildrenCard : Claim7 := { stood := { row := fnChildrenRow, standIns := [], harness := (true, "9bd40e22350e4a523e296dc3a1ec04be31f2e7ff22abf11ec9bf3020fa703534"), looks := true }, kinds := [], alts := [], laidByText := true, laidKinds := [.data, .data, .sentinel, .sentinel], laidTests := true, laidLooks := .later }
def FnChildrenCardSaid : Prop := Claim7.holds Tryz.pinned (.plain (OpenSpec.ofChange fnChildrenSpec)) fnChildrenCard

/-- THE TIED CARD OF 'laws.FnGraves'. -/
def fnGravesCard : Claim7 := { stood := { row := fnGravesRow, standIns := [], harness := (true, "9bd40e22350e4a523e296dc3a1ec04be31f2e7ff22abf11ec9bf3020fa703534"), looks := true }, kinds := [], alts := [], laidByText := true, laidKinds := [.data, .data], laidTests := true, laidLooks := .later }
def FnGravesCardSaid : Prop := Claim7.holds Tryz.pinned (.plain (OpenSpec.ofChange fnGravesSpec)) fnGravesCard

/-- THE TIED CARD OF 'laws.FnLoad'. -/
def fnLoadCard : Claim7 := { stood := { row := fnLoadRow, standIns := [], harness := (true, "9bd40e22350e4a523e296dc3a1ec04be31f2e7ff22abf11ec9bf3020fa703534"), looks := true }, kinds := [], alts := [], laidByText := true, laidKinds := [.data, .data], laidTests := true, laidLooks := .later }
def FnLoadCardSaid : Prop := Claim7.holds Tryz.pinned (.plain (OpenSpec.ofChange fnLoadSpec)) fnLoadCard

/-- THE TIED CARD OF 'laws.FnNumbered'. -/
def fnNumberedCard : Claim7 := { stood := { row := fnNumberedRow, standIns := [], harness := (true, "9bd40e22350e4a523e296dc3a1ec04be31f2e7ff22abf11ec9bf3020fa703534"), looks := true }, kinds := [], alts := [], laidByText := true, laidKinds := [.data, .data, .sentinel, .data, .sentinel], laidTests := true, laidLooks := .later }
def FnNumberedCardSaid : Prop := Claim7.holds Tryz.pinned (.plain (OpenSpec.ofChange fnNumberedSpec)) fnNumberedCard

/-- THE TIED CARD OF 'laws.FnSmall'. -/
def fnSmallCard : Claim7 := { stood := { row := fnSmallRow, standIns := [], harness := (true, "9bd40e22350e4a523e296dc3a1ec04be31f2e7ff22abf11ec9bf3020fa703534"), looks := true }, kinds := [], alts := [], laidByText := true, laidKinds := [.data, .data], laidTests := true, laidLooks := .later }
def FnSmallCardSaid : Prop := Claim7.holds Tryz.pinned (.plain (OpenSpec.ofChange fnSmallSpec)) fnSmallCard

/-- THE TIED CARD OF 'laws.FnTwice'. -/
def fnTwiceCard : Claim7 := { stood := { row := fnTwiceRow, standIns := [], harness := (true, "9bd40e22350e4a523e296dc3a1ec04be31f2e7ff22abf11ec9bf3020fa703534"), looks := true }, kinds := [], alts := [], laidByText := true, laidKinds := [.data, .data, .sentinel, .data, .sentinel], laidTests := true, laidLooks := .later }
def FnTwiceCardSaid : Prop := Claim7.holds Tryz.pinned (.plain (OpenSpec.ofChange fnTwiceSpec)) fnTwiceCard

/-- THE TIED CARD OF 'laws.FnStands'. -/
def fnStandsCard : Claim7 := { stood := { row := fnStandsRow, standIns := [], harness := (true, "9bd40e22350e4a523e296dc3a1ec04be31f2e7ff22abf11ec9bf3020fa703534"), looks := true }, kinds := [], alts := [], laidByText := true, laidKinds := [.data, .data, .sentinel, .data, .sentinel], laidTests := true, laidLooks := .later }
def FnStandsCardSaid : Prop := Claim7.holds Tryz.pinned (.plain (OpenSpec.ofChange fnStandsSpec)) fnStandsCard

/-- THE TIED CARD OF 'laws.FnTruth'. -/
def fnTruthCard : Claim7 := { stood := { row := fnTruthRow, standIns := [], harness := (true, "9bd40e22350e4a523e296dc3a1ec04be31f2e7ff22abf11ec9bf3020fa703534"), looks := true }, kinds := [], alts := [], laidByText := true, laidKinds := [.data, .data, .sentinel, .sentinel], laidTests := true, laidLooks := .later }
def FnTruthCardSaid : Prop := Claim7.holds Tryz.pinned (.plain (OpenSpec.ofChange fnTruthSpec)) fnTruthCard

/-- THE TIED CARD OF 'laws.FnIn'. -/
def fnInCard : Claim7 := { stood := { row := fnInRow, standIns := [], harness := (true, "9bd40e22350e4a523e296dc3a1ec04be31f2e7ff22abf11ec9bf3020fa703534"), looks := true }, kinds := [], alts := [], laidByText := true, laidKinds := [.data, .data, .sentinel, .sentinel], laidTests := true, laidLooks := .later }
def FnInCardSaid : Prop := Claim7.holds Tryz.pinned (.plain (OpenSpec.ofChange fnInSpec)) fnInCard

/-- THE TIED CARD OF 'laws.FnStrings'. -/
def fnStringsCard : Claim7 := { stood := { row := fnStringsRow, standIns := [], harness := (true, "9bd40e22350e4a523e296dc3a1ec04be31f2e7ff22abf11ec9bf3020fa703534"), looks := true }, kinds := [], alts := [], laidByText := true, laidKinds := [.data, .data, .sentinel, .data, .sentinel], laidTests := true, laidLooks := .later }
def FnStringsCardSaid : Prop := Claim7.holds Tryz.pinned (.plain (OpenSpec.ofChange fnStringsSpec)) fnStringsCard

/-- THE SECOND FORM's CARD OF 'laws.FnNames'. -/
def fnNamesUptoCard : Claim7 := { stood := { row := fnNamesUptoRow, standIns := [], harness := (true, "9bd40e22350e4a523e296dc3a1ec04be31f2e7ff22abf11ec9bf3020fa703534"), looks := true }, kinds := [], alts := [], laidByText := true, laidKinds := [.data, .data], laidTests := true, laidLooks := .later }
def FnNamesUptoCardSaid : Prop := Claim7.holds Tryz.pinned (.plain (OpenSpec.upto fnNamesSpec)) fnNamesUptoCard

/-- THE SECOND FORM's CARD OF 'laws.FnParent'. -/
def fnParentUptoCard : Claim7 := { stood := { row := fnParentUptoRow, standIns := [], harness := (true, "9bd40e22350e4a523e296dc3a1ec04be31f2e7ff22abf11ec9bf3020fa703534"), looks := true }, kinds := [], alts := [], laidByText := true, laidKinds := [.data, .data, .sentinel, .data, .sentinel], laidTests := true, laidLooks := .later }
def FnParentUptoCardSaid : Prop := Claim7.holds Tryz.pinned (.plain (OpenSpec.upto fnParentSpec)) fnParentUptoCard

/-- THE SECOND FORM's CARD OF 'laws.FnChildren'. -/
def fnChildrenUptoCard : Claim7 := { stood := { row := fnChildrenUptoRow, standIns := [], harness := (true, "9bd40e22350e4a523e296dc3a1ec04be31f2e7ff22abf11ec9bf3020fa703534"), looks := true }, kinds := [], alts := [], laidByText := true, laidKinds := [.data, .data, .sentinel, .sentinel], laidTests := true, laidLooks := .later }
def FnChildrenUptoCardSaid : Prop := Claim7.holds Tryz.pinned (.plain (OpenSpec.upto fnChildrenSpec)) fnChildrenUptoCard

/-- THE SECOND FORM's CARD OF 'laws.FnGraves'. -/
def fnGravesUptoCard : Claim7 := { stood := { row := fnGravesUptoRow, standIns := [], harness := (true, "9bd40e22350e4a523e296dc3a1ec04be31f2e7ff22abf11ec9bf3020fa703534"), looks := true }, kinds := [], alts := [], laidByText := true, laidKinds := [.data, .data], laidTests := true, laidLooks := .later }
def FnGravesUptoCardSaid : Prop := Claim7.holds Tryz.pinned (.plain (OpenSpec.upto fnGravesSpec)) fnGravesUptoCard

/-- THE SECOND FORM's CARD OF 'laws.FnLoad'. -/
def fnLoadUptoCard : Claim7 := { stood := { row := fnLoadUptoRow, standIns := [], harness := (true, "9bd40e22350e4a523e296dc3a1ec04be31f2e7ff22abf11ec9bf3020fa703534"), looks := true }, kinds := [], alts := [], laidByText := true, laidKinds := [.data, .data], laidTests := true, laidLooks := .later }
def FnLoadUptoCardSaid : Prop := Claim7.holds Tryz.pinned (.plain (OpenSpec.upto fnLoadSpec)) fnLoadUptoCard

/-- THE SECOND FORM's CARD OF 'laws.FnNumbered'. -/
def fnNumberedUptoCard : Claim7 := { stood := { row := fnNumberedUptoRow, standIns := [], harness := (true, "9bd40e22350e4a523e296dc3a1ec04be31f2e7ff22abf11ec9bf3020fa703534"), looks := true }, kinds := [], alts := [], laidByText := true, laidKinds := [.data, .data, .sentinel, .data, .sentinel], laidTests := true, laidLooks := .later }
def FnNumberedUptoCardSaid : Prop := Claim7.holds Tryz.pinned (.plain (OpenSpec.upto fnNumberedSpec)) fnNumberedUptoCard

/-- THE SECOND FORM's CARD OF 'laws.FnSmall'. -/
def fnSmallUptoCard : Claim7 := { stood := { row := fnSmallUptoRow, standIns := [], harness := (true, "9bd40e22350e4a523e296dc3a1ec04be31f2e7ff22abf11ec9bf3020fa703534"), looks := true }, kinds := [], alts := [], laidByText := true, laidKinds := [.data, .data], laidTests := true, laidLooks := .later }
def FnSmallUptoCardSaid : Prop := Claim7.holds Tryz.pinned (.plain (OpenSpec.upto fnSmallSpec)) fnSmallUptoCard

/-- THE SECOND FORM's CARD OF 'laws.FnTwice'. -/
def fnTwiceUptoCard : Claim7 := { stood := { row := fnTwiceUptoRow, standIns := [], harness := (true, "9bd40e22350e4a523e296dc3a1ec04be31f2e7ff22abf11ec9bf3020fa703534"), looks := true }, kinds := [], alts := [], laidByText := true, laidKinds := [.data, .data, .sentinel, .data, .sentinel], laidTests := true, laidLooks := .later }
def FnTwiceUptoCardSaid : Prop := Claim7.holds Tryz.pinned (.plain (OpenSpec.upto fnTwiceSpec)) fnTwiceUptoCard

/-- THE SECOND FORM's CARD OF 'laws.FnStands'. -/
def fnStandsUptoCard : Claim7 := { stood := { row := fnStandsUptoRow, standIns := [], harness := (true, "9bd40e22350e4a523e296dc3a1ec04be31f2e7ff22abf11ec9bf3020fa703534"), looks := true }, kinds := [], alts := [], laidByText := true, laidKinds := [.data, .data, .sentinel, .data, .sentinel], laidTests := true, laidLooks := .later }
def FnStandsUptoCardSaid : Prop := Claim7.holds Tryz.pinned (.plain (OpenSpec.upto fnStandsSpec)) fnStandsUptoCard

/-- THE SECOND FORM's CARD OF 'laws.FnTruth'. -/
def fnTruthUptoCard : Claim7 := { stood := { row := fnTruthUptoRow, standIns := [], harness := (true, "9bd40e22350e4a523e296dc3a1ec04be31f2e7ff22abf11ec9bf3020fa703534"), looks := true }, kinds := [], alts := [], laidByText := true, laidKinds := [.data, .data, .sentinel, .sentinel], laidTests := true, laidLooks := .later }
def FnTruthUptoCardSaid : Prop := Claim7.holds Tryz.pinned (.plain (OpenSpec.upto fnTruthSpec)) fnTruthUptoCard

/-- THE SECOND FORM's CARD OF 'laws.FnIn'. -/
def fnInUptoCard : Claim7 := { stood := { row := fnInUptoRow, standIns := [], harness := (true, "9bd40e22350e4a523e296dc3a1ec04be31f2e7ff22abf11ec9bf3020fa703534"), looks := true }, kinds := [], alts := [], laidByText := true, laidKinds := [.data, .data, .sentinel, .sentinel], laidTests := true, laidLooks := .later }
def FnInUptoCardSaid : Prop := Claim7.holds Tryz.pinned (.plain (OpenSpec.upto fnInSpec)) fnInUptoCard

/-- THE SECOND FORM's CARD OF 'laws.FnStrings'. -/
def fnStringsUptoCard : Claim7 := { stood := { row := fnStringsUptoRow, standIns := [], harness := (true, "9bd40e22350e4a523e296dc3a1ec04be31f2e7ff22abf11ec9bf3020fa703534"), looks := true }, kinds := [], alts := [], laidByText := true, laidKinds := [.data, .data, .sentinel, .data, .sentinel], laidTests := true, laidLooks := .later }
def FnStringsUptoCardSaid : Prop := Claim7.holds Tryz.pinned (.plain (OpenSpec.upto fnStringsSpec)) fnStringsUptoCard
end Rows
end Go.Proofs.YtfnncdngfggcjaaGreatDoor
