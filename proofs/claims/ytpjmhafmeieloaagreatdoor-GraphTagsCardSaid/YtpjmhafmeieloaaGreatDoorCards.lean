/-
  DERIVED. GIVEN WITH THE SEED: THE CARDS: each row of YtpjmhafmeieloaaGreatDoorRows.lean that lists a variable, with what it lists TIED to the program's text (the seventh form; the later family's looks); each row that meets fmt, with fmt's text TOLD by the authors' own Lean function (tested against real Go, not proved from fmt's source: count such statements apart). THE CARD IS WHAT COUNTS. Prove the row's statement (the work); the ties are given (YtpjmhafmeieloaaGreatDoorTie.lean); close each card by the builder's one call (the guide's Derived/Test/ToyasCard.lean, 'card_holds'). Laid BY PROGRAM, IN A SANDBOX (cutbox-door.mjs). By AI agents, Wed Nov 11 2026. No macro, syntax, notation, axiom, sorry.
-/
import Derived.Test.YtpjmhafmeieloaaGreatDoorRows
import GoSem.ClaimSeven
namespace Go.Proofs.YtpjmhafmeieloaaGreatDoor
namespace Rows

/-- THE TIED CARD OF 'rosettalaw10.GraphTags'. -/
def graphTagsCard : Claim7 := { stood := { row := graphTagsRow, standIns := [], harness := (true, "0330446aa59d6e1a30369c2c527d17a7aee00bc55e8d6e80f48788d62b3fcddf"), looks := true }, kinds := [], alts := [], laidByText := true, laidKinds := [.data, .data, .data, .data, .sentinel, .sentinel, .pinned], laidTests := true, laidLooks := .later }
def GraphTagsCardSaid : Prop := Claim7.holds Tryz.pinned (.plain (OpenSpec.ofChange graphTagsSpec)) graphTagsCard

/-- THE SECOND FORM's CARD OF 'rosettalaw10.GraphTags'. -/
def graphTagsUptoCard : Claim7 := { stood := { row := graphTagsUptoRow, standIns := [], harness := (true, "0330446aa59d6e1a30369c2c527d17a7aee00bc55e8d6e80f48788d62b3fcddf"), looks := true }, kinds := [], alts := [], laidByText := true, laidKinds := [.data, .data, .data, .data, .sentinel, .sentinel, .pinned], laidTests := true, laidLooks := .later }
def GraphTagsUptoCardSaid : Prop := Claim7.holds Tryz.pinned (.plain (OpenSpec.upto graphTagsSpec)) graphTagsUptoCard
end Rows
end Go.Proofs.YtpjmhafmeieloaaGreatDoor
