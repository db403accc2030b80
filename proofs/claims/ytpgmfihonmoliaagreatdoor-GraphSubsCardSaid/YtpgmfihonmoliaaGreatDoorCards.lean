/-
  DERIVED. GIVEN WITH THE SEED: THE CARDS: each row of YtpgmfihonmoliaaGreatDoorRows.lean that lists a variable, with what it lists TIED to the program's text (the seventh form; the later family's looks); each row that meets fmt, with fmt's text TOLD by the authors' own Lean function (tested against real Go, not proved from fmt's source: count such statements apart). THE CARD IS WHAT COUNTS. Prove the row's statement (the work); the ties are given (YtpgmfihonmoliaaGreatDoorTie.lean); close each card by the builder's one call (the guide's Derived/Test/ToyasCard.lean, 'card_holds'). Laid BY PROGRAM, IN A SANDBOX (cutbox-door.mjs). By AI agents, Wed Nov 11 2026. No macro, syntax, notation, axiom, sorry.
-/
import Derived.Test.YtpgmfihonmoliaaGreatDoorRows
import GoSem.ClaimSeven
namespace Go.Proofs.YtpgmfihonmoliaaGreatDoor
namespace Rows

/-- THE TIED CARD OF 'rosettalaw10.GraphSubs'. -/
def graphSubsCard : Claim7 := { stood := { row := graphSubsRow, standIns := [], harness := (true, "e21c2625548052b9d96502561737ed5198ea11a3279504b4fd1a96ab4460f00d"), looks := true }, kinds := [], alts := [], laidByText := true, laidKinds := [.data, .data, .data, .data, .sentinel, .sentinel, .pinned], laidTests := true, laidLooks := .later }
def GraphSubsCardSaid : Prop := Claim7.holds Tryz.pinned (.plain (OpenSpec.ofChange graphSubsSpec)) graphSubsCard

/-- THE SECOND FORM's CARD OF 'rosettalaw10.GraphSubs'. -/
def graphSubsUptoCard : Claim7 := { stood := { row := graphSubsUptoRow, standIns := [], harness := (true, "e21c2625548052b9d96502561737ed5198ea11a3279504b4fd1a96ab4460f00d"), looks := true }, kinds := [], alts := [], laidByText := true, laidKinds := [.data, .data, .data, .data, .sentinel, .sentinel, .pinned], laidTests := true, laidLooks := .later }
def GraphSubsUptoCardSaid : Prop := Claim7.holds Tryz.pinned (.plain (OpenSpec.upto graphSubsSpec)) graphSubsUptoCard
end Rows
end Go.Proofs.YtpgmfihonmoliaaGreatDoor
