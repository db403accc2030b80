/-
  DERIVED. GIVEN WITH THE SEED: THE CARDS: each row of YtoigpackhninoaaGreatDoorRows.lean that lists a variable, with what it lists TIED to the program's text (the seventh form; the later family's looks); each row that meets fmt, with fmt's text TOLD by the authors' own Lean function (tested against real Go, not proved from fmt's source: count such statements apart). THE CARD IS WHAT COUNTS. Prove the row's statement (the work); the ties are given (YtoigpackhninoaaGreatDoorTie.lean); close each card by the builder's one call (the guide's Derived/Test/ToyasCard.lean, 'card_holds'). Laid BY PROGRAM, IN A SANDBOX (cutbox-door.mjs). By AI agents, Wed Nov 11 2026. No macro, syntax, notation, axiom, sorry.
-/
import Derived.Test.YtoigpackhninoaaGreatDoorRows
import GoSem.ClaimSeven
namespace Go.Proofs.YtoigpackhninoaaGreatDoor
namespace Rows

/-- THE TIED CARD OF 'rosettalaw10.GraphChecks'. -/
def graphChecksCard : Claim7 := { stood := { row := graphChecksRow, standIns := [], harness := (true, "d3b1862469b883ffbb3bb63e268bd828b90ded3c43e025a915fe24e2cec11063"), looks := true }, kinds := [], alts := [], laidByText := true, laidKinds := [.data, .data, .data, .data, .sentinel, .sentinel, .pinned], laidTests := true, laidLooks := .later }
def GraphChecksCardSaid : Prop := Claim7.holds Tryz.pinned (.plain (OpenSpec.ofChange graphChecksSpec)) graphChecksCard

/-- THE TIED CARD OF 'rosettalaw10.GraphScalars'. -/
def graphScalarsCard : Claim7 := { stood := { row := graphScalarsRow, standIns := [], harness := (true, "d3b1862469b883ffbb3bb63e268bd828b90ded3c43e025a915fe24e2cec11063"), looks := true }, kinds := [], alts := [], laidByText := true, laidKinds := [.data, .data, .data, .data, .sentinel, .sentinel, .pinned], laidTests := true, laidLooks := .later }
def GraphScalarsCardSaid : Prop := Claim7.holds Tryz.pinned (.plain (OpenSpec.ofChange graphScalarsSpec)) graphScalarsCard

/-- THE TIED CARD OF 'rosettalaw10.GraphLists'. -/
def graphListsCard : Claim7 := { stood := { row := graphListsRow, standIns := [], harness := (true, "d3b1862469b883ffbb3bb63e268bd828b90ded3c43e025a915fe24e2cec11063"), looks := true }, kinds := [], alts := [], laidByText := true, laidKinds := [.data, .data, .data, .data, .sentinel, .sentinel, .pinned], laidTests := true, laidLooks := .later }
def GraphListsCardSaid : Prop := Claim7.holds Tryz.pinned (.plain (OpenSpec.ofChange graphListsSpec)) graphListsCard

/-- THE TIED CARD OF 'rosettalaw10.GraphDepths'. -/
def graphDepthsCard : Claim7 := { stood := { row := graphDepthsRow, standIns := [], harness := (true, "d3b1862469b883ffbb3bb63e268bd828b90ded3c43e025a915fe24e2cec11063"), looks := true }, kinds := [], alts := [], laidByText := true, laidKinds := [.data, .data, .data, .data, .sentinel, .sentinel, .pinned], laidTests := true, laidLooks := .later }
def GraphDepthsCardSaid : Prop := Claim7.holds Tryz.pinned (.plain (OpenSpec.ofChange graphDepthsSpec)) graphDepthsCard

/-- THE TIED CARD OF 'rosettalaw10.GraphLimits'. -/
def graphLimitsCard : Claim7 := { stood := { row := graphLimitsRow, standIns := [], harness := (true, "d3b1862469b883ffbb3bb63e268bd828b90ded3c43e025a915fe24e2cec11063"), looks := true }, kinds := [], alts := [], laidByText := true, laidKinds := [.data, .data, .data, .data, .sentinel, .sentinel, .pinned], laidTests := true, laidLooks := .later }
def GraphLimitsCardSaid : Prop := Claim7.holds Tryz.pinned (.plain (OpenSpec.ofChange graphLimitsSpec)) graphLimitsCard

/-- THE TIED CARD OF 'rosettalaw10.GraphTags'. -/
def graphTagsCard : Claim7 := { stood := { row := graphTagsRow, standIns := [], harness := (true, "d3b1862469b883ffbb3bb63e268bd828b90ded3c43e025a915fe24e2cec11063"), looks := true }, kinds := [], alts := [], laidByText := true, laidKinds := [.data, .data, .data, .data, .sentinel, .sentinel, .pinned], laidTests := true, laidLooks := .later }
def GraphTagsCardSaid : Prop := Claim7.holds Tryz.pinned (.plain (OpenSpec.ofChange graphTagsSpec)) graphTagsCard

/-- THE TIED CARD OF 'rosettalaw10.GraphMaps'. -/
def graphMapsCard : Claim7 := { stood := { row := graphMapsRow, standIns := [], harness := (true, "d3b1862469b883ffbb3bb63e268bd828b90ded3c43e025a915fe24e2cec11063"), looks := true }, kinds := [], alts := [], laidByText := true, laidKinds := [.data, .data, .data, .data, .sentinel, .sentinel, .pinned], laidTests := true, laidLooks := .later }
def GraphMapsCardSaid : Prop := Claim7.holds Tryz.pinned (.plain (OpenSpec.ofChange graphMapsSpec)) graphMapsCard

/-- THE TIED CARD OF 'rosettalaw10.GraphSubs'. -/
def graphSubsCard : Claim7 := { stood := { row := graphSubsRow, standIns := [], harness := (true, "d3b1862469b883ffbb3bb63e268bd828b90ded3c43e025a915fe24e2cec11063"), looks := true }, kinds := [], alts := [], laidByText := true, laidKinds := [.data, .data, .data, .data, .sentinel, .sentinel, .pinned], laidTests := true, laidLooks := .later }
def GraphSubsCardSaid : Prop := Claim7.holds Tryz.pinned (.plain (OpenSpec.ofChange graphSubsSpec)) graphSubsCard

/-- THE TIED CARD OF 'rosettalaw10.GraphReplaces'. -/
def graphReplacesCard : Claim7 := { stood := { row := graphReplacesRow, standIns := [], harness := (true, "d3b1862469b883ffbb3bb63e268bd828b90ded3c43e025a915fe24e2cec11063"), looks := true }, kinds := [], alts := [], laidByText := true, laidKinds := [.data, .data, .data, .data, .sentinel, .sentinel, .pinned], laidTests := true, laidLooks := .later }
def GraphReplacesCardSaid : Prop := Claim7.holds Tryz.pinned (.plain (OpenSpec.ofChange graphReplacesSpec)) graphReplacesCard

/-- THE SECOND FORM's CARD OF 'rosettalaw10.GraphChecks'. -/
def graphChecksUptoCard : Claim7 := { stood := { row := graphChecksUptoRow, standIns := [], harness := (true, "d3b1862469b883ffbb3bb63e268bd828b90ded3c43e025a915fe24e2cec11063"), looks := true }, kinds := [], alts := [], laidByText := true, laidKinds := [.data, .data, .data, .data, .sentinel, .sentinel, .pinned], laidTests := true, laidLooks := .later }
def GraphChecksUptoCardSaid : Prop := Claim7.holds Tryz.pinned (.plain (OpenSpec.upto graphChecksSpec)) graphChecksUptoCard

/-- THE SECOND FORM's CARD OF 'rosettalaw10.GraphScalars'. -/
def graphScalarsUptoCard : Claim7 := { stood := { row := graphScalarsUptoRow, standIns := [], harness := (true, "d3b1862469b883ffbb3bb63e268bd828b90ded3c43e025a915fe24e2cec11063"), looks := true }, kinds := [], alts := [], laidByText := true, laidKinds := [.data, .data, .data, .data, .sentinel, .sentinel, .pinned], laidTests := true, laidLooks := .later }
def GraphScalarsUptoCardSaid : Prop := Claim7.holds Tryz.pinned (.plain (OpenSpec.upto graphScalarsSpec)) graphScalarsUptoCard

/-- THE SECOND FORM's CARD OF 'rosettalaw10.GraphLists'. -/
def graphListsUptoCard : Claim7 := { stood := { row := graphListsUptoRow, standIns := [], harness := (true, "d3b1862469b883ffbb3bb63e268bd828b90ded3c43e025a915fe24e2cec11063"), looks := true }, kinds := [], alts := [], laidByText := true, laidKinds := [.data, .data, .data, .data, .sentinel, .sentinel, .pinned], laidTests := true, laidLooks := .later }
def GraphListsUptoCardSaid : Prop := Claim7.holds Tryz.pinned (.plain (OpenSpec.upto graphListsSpec)) graphListsUptoCard

/-- THE SECOND FORM's CARD OF 'rosettalaw10.GraphDepths'. -/
def graphDepthsUptoCard : Claim7 := { stood := { row := graphDepthsUptoRow, standIns := [], harness := (true, "d3b1862469b883ffbb3bb63e268bd828b90ded3c43e025a915fe24e2cec11063"), looks := true }, kinds := [], alts := [], laidByText := true, laidKinds := [.data, .data, .data, .data, .sentinel, .sentinel, .pinned], laidTests := true, laidLooks := .later }
def GraphDepthsUptoCardSaid : Prop := Claim7.holds Tryz.pinned (.plain (OpenSpec.upto graphDepthsSpec)) graphDepthsUptoCard

/-- THE SECOND FORM's CARD OF 'rosettalaw10.GraphLimits'. -/
def graphLimitsUptoCard : Claim7 := { stood := { row := graphLimitsUptoRow, standIns := [], harness := (true, "d3b1862469b883ffbb3bb63e268bd828b90ded3c43e025a915fe24e2cec11063"), looks := true }, kinds := [], alts := [], laidByText := true, laidKinds := [.data, .data, .data, .data, .sentinel, .sentinel, .pinned], laidTests := true, laidLooks := .later }
def GraphLimitsUptoCardSaid : Prop := Claim7.holds Tryz.pinned (.plain (OpenSpec.upto graphLimitsSpec)) graphLimitsUptoCard

/-- THE SECOND FORM's CARD OF 'rosettalaw10.GraphTags'. -/
def graphTagsUptoCard : Claim7 := { stood := { row := graphTagsUptoRow, standIns := [], harness := (true, "d3b1862469b883ffbb3bb63e268bd828b90ded3c43e025a915fe24e2cec11063"), looks := true }, kinds := [], alts := [], laidByText := true, laidKinds := [.data, .data, .data, .data, .sentinel, .sentinel, .pinned], laidTests := true, laidLooks := .later }
def GraphTagsUptoCardSaid : Prop := Claim7.holds Tryz.pinned (.plain (OpenSpec.upto graphTagsSpec)) graphTagsUptoCard

/-- THE SECOND FORM's CARD OF 'rosettalaw10.GraphMaps'. -/
def graphMapsUptoCard : Claim7 := { stood := { row := graphMapsUptoRow, standIns := [], harness := (true, "d3b1862469b883ffbb3bb63e268bd828b90ded3c43e025a915fe24e2cec11063"), looks := true }, kinds := [], alts := [], laidByText := true, laidKinds := [.data, .data, .data, .data, .sentinel, .sentinel, .pinned], laidTests := true, laidLooks := .later }
def GraphMapsUptoCardSaid : Prop := Claim7.holds Tryz.pinned (.plain (OpenSpec.upto graphMapsSpec)) graphMapsUptoCard

/-- THE SECOND FORM's CARD OF 'rosettalaw10.GraphSubs'. -/
def graphSubsUptoCard : Claim7 := { stood := { row := graphSubsUptoRow, standIns := [], harness := (true, "d3b1862469b883ffbb3bb63e268bd828b90ded3c43e025a915fe24e2cec11063"), looks := true }, kinds := [], alts := [], laidByText := true, laidKinds := [.data, .data, .data, .data, .sentinel, .sentinel, .pinned], laidTests := true, laidLooks := .later }
def GraphSubsUptoCardSaid : Prop := Claim7.holds Tryz.pinned (.plain (OpenSpec.upto graphSubsSpec)) graphSubsUptoCard

/-- THE SECOND FORM's CARD OF 'rosettalaw10.GraphReplaces'. -/
def graphReplacesUptoCard : Claim7 := { stood := { row := graphReplacesUptoRow, standIns := [], harness := (true, "d3b1862469b883ffbb3bb63e268bd828b90ded3c43e025a915fe24e2cec11063"), looks := true }, kinds := [], alts := [], laidByText := true, laidKinds := [.data, .data, .data, .data, .sentinel, .sentinel, .pinned], laidTests := true, laidLooks := .later }
def GraphReplacesUptoCardSaid : Prop := Claim7.holds Tryz.pinned (.plain (OpenSpec.upto graphReplacesSpec)) graphReplacesUptoCard
end Rows
end Go.Proofs.YtoigpackhninoaaGreatDoor
