/-
  DERIVED. GIVEN WITH THE SEED: THE CARDS: each row of YtpgmfihonmoliabGreatDoorRows.lean that lists a variable, with what it lists TIED to the program's text (the seventh form; the later family's looks); each row that meets fmt, with fmt's text TOLD by the authors' own Lean function (tested against real Go, not proved from fmt's source: count such statements apart). THE CARD IS WHAT COUNTS. Prove the row's statement (the work); the ties are given (YtpgmfihonmoliabGreatDoorTie.lean); close each card by the builder's one call (the guide's Derived/Test/ToyasCard.lean, 'card_holds'). Laid BY PROGRAM, IN A SANDBOX (cutbox-door.mjs). By AI agents, Wed Nov 11 2026. No macro, syntax, notation, axiom, sorry.
-/
import Derived.Test.YtpgmfihonmoliabGreatDoorRows
import GoSem.ClaimSeven
namespace Go.Proofs.YtpgmfihonmoliabGreatDoor
namespace Rows

/-- THE TIED CARD OF 'rosettalaw10.GraphReplaces'. -/
def graphReplacesCard : Claim7 := { stood := { row := graphReplacesRow, standIns := [], harness := (true, "938997e71d8544f63f06bd81f6e90cadb0157383426ba6eadccc160d667149a4"), looks := true }, kinds := [], alts := [], laidByText := true, laidKinds := [.data, .data, .data, .data, .sentinel, .sentinel, .pinned], laidTests := true, laidLooks := .later }
def GraphReplacesCardSaid : Prop := Claim7.holds Tryz.pinned (.plain (OpenSpec.ofChange graphReplacesSpec)) graphReplacesCard

/-- THE SECOND FORM's CARD OF 'rosettalaw10.GraphReplaces'. -/
def graphReplacesUptoCard : Claim7 := { stood := { row := graphReplacesUptoRow, standIns := [], harness := (true, "938997e71d8544f63f06bd81f6e90cadb0157383426ba6eadccc160d667149a4"), looks := true }, kinds := [], alts := [], laidByText := true, laidKinds := [.data, .data, .data, .data, .sentinel, .sentinel, .pinned], laidTests := true, laidLooks := .later }
def GraphReplacesUptoCardSaid : Prop := Claim7.holds Tryz.pinned (.plain (OpenSpec.upto graphReplacesSpec)) graphReplacesUptoCard
end Rows
end Go.Proofs.YtpgmfihonmoliabGreatDoor
