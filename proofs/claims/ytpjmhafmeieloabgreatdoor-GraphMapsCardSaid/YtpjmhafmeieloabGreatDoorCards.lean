/-
  DERIVED. GIVEN WITH THE SEED: THE CARDS: each row of YtpjmhafmeieloabGreatDoorRows.lean that lists a variable, with what it lists TIED to the program's text (the seventh form; the later family's looks); each row that meets fmt, with fmt's text TOLD by the authors' own Lean function (tested against real Go, not proved from fmt's source: count such statements apart). THE CARD IS WHAT COUNTS. Prove the row's statement (the work); the ties are given (YtpjmhafmeieloabGreatDoorTie.lean); close each card by the builder's one call (the guide's Derived/Test/ToyasCard.lean, 'card_holds'). Laid BY PROGRAM, IN A SANDBOX (cutbox-door.mjs). By AI agents, Wed Nov 11 2026. No macro, syntax, notation, axiom, sorry.
-/
import Derived.Test.YtpjmhafmeieloabGreatDoorRows
import GoSem.ClaimSeven
namespace Go.Proofs.YtpjmhafmeieloabGreatDoor
namespace Rows

/-- THE TIED CARD OF 'rosettalaw10.GraphMaps'. -/
def graphMapsCard : Claim7 := { stood := { row := graphMapsRow, standIns := [], harness := (true, "8146e2d19242ab0d271db69a75c5f0ae2908bf985b86b11c92a86fe3f2494ebc"), looks := true }, kinds := [], alts := [], laidByText := true, laidKinds := [.data, .data, .data, .data, .sentinel, .sentinel, .pinned], laidTests := true, laidLooks := .later }
def GraphMapsCardSaid : Prop := Claim7.holds Tryz.pinned (.plain (OpenSpec.ofChange graphMapsSpec)) graphMapsCard

/-- THE SECOND FORM's CARD OF 'rosettalaw10.GraphMaps'. -/
def graphMapsUptoCard : Claim7 := { stood := { row := graphMapsUptoRow, standIns := [], harness := (true, "8146e2d19242ab0d271db69a75c5f0ae2908bf985b86b11c92a86fe3f2494ebc"), looks := true }, kinds := [], alts := [], laidByText := true, laidKinds := [.data, .data, .data, .data, .sentinel, .sentinel, .pinned], laidTests := true, laidLooks := .later }
def GraphMapsUptoCardSaid : Prop := Claim7.holds Tryz.pinned (.plain (OpenSpec.upto graphMapsSpec)) graphMapsUptoCard
end Rows
end Go.Proofs.YtpjmhafmeieloabGreatDoor
