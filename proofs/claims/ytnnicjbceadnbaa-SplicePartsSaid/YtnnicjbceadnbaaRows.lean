/-
  No cell of these rows narrows 'for every input' (looked for: loops, veiled, ifaces, maps, wideKeys, modest, calm, conditions, laid).
  DERIVED. THE GIVEN ROWS OF THIS SEAT. 7 by the template 'for every input the law returns true; each argument reads behind the call as it read before'; 0 by the template 'total and deterministic' (their statements: YtnnicjbceadnbaaTotals.lean).
  GIVEN WITH THE SEED: the statements are not yours to turn. If you find one false, say at which input.
  Laid BY PROGRAM, IN A SANDBOX (cutbox-rows.mjs): the forced cells as the released guide's own fill.sh prints them over the translation c1fb1b3043649d71… (all of the seat's roots in one cut). By AI agents, Wed Nov 11 2026. No macro, syntax, notation, axiom, sorry.
-/
import Derived.Test.YtnnicjbceadnbaaChecked
import GoSem.Claim
import GoSem.ClaimJoined
import GoSem.ClaimMapViews
import Derived.JoinedTies
import Derived.KernelRfl
namespace Go.Proofs.Ytnnicjbceadnbaa
/- THE CELL 'sum', in the pinned program and in every row, IS THE sha256 OF THE DUMP (.gsa) THAT YtnnicjbceadnbaaProg.lean LOADS. Nothing in Lean hashes anything: it is a label: what it is worth is what the hold of that sum in a sandbox is worth. -/
noncomputable def Try.pinned : Pinned := { name := "ytnnicjbceadnbaa", sum := "c1fb1b3043649d71109599c0eb0d541f8b7c519a7ab609dcc53d1565fa5a95f0", checked := Try.checked }
namespace Rows
def none {H : Type} : Left H := { results := [], args := [] }

/-- 'rosettalaw20.SpliceApplies': WHATEVER THE INPUT: true; the input reads as it did. -/
def spliceAppliesSpec : ChangeSpec := { name := "spliceApplies", fn := fun _ => fun
  | [d1, d2] => { results := [.lit (.bool true)], args := [d1, d2] }
  | _ => none }
def spliceAppliesRow : OpenClaim := { program := "ytnnicjbceadnbaa", sum := "c1fb1b3043649d71109599c0eb0d541f8b7c519a7ab609dcc53d1565fa5a95f0", func := "rosetta/rosettalaw20.SpliceApplies", spec := "spliceApplies", unfollowed := true, recurses := true, apart := false }
def SpliceAppliesSaid : Prop := spliceAppliesRow.holds Try.pinned (OpenSpec.ofChange spliceAppliesSpec)

/-- ITS FALSE NEIGHBOUR: 'it returns false'. Refute it at one input. -/
def spliceAppliesWrong : ChangeSpec := { name := "spliceApplies", fn := fun _ => fun
  | [d1, d2] => { results := [.lit (.bool false)], args := [d1, d2] }
  | _ => none }
def SpliceAppliesWrongFalsely : Prop := spliceAppliesRow.holds Try.pinned (OpenSpec.ofChange spliceAppliesWrong)

/-- 'rosettalaw20.SpliceInverts': WHATEVER THE INPUT: true; the input reads as it did. -/
def spliceInvertsSpec : ChangeSpec := { name := "spliceInverts", fn := fun _ => fun
  | [d1, d2] => { results := [.lit (.bool true)], args := [d1, d2] }
  | _ => none }
def spliceInvertsRow : OpenClaim := { program := "ytnnicjbceadnbaa", sum := "c1fb1b3043649d71109599c0eb0d541f8b7c519a7ab609dcc53d1565fa5a95f0", func := "rosetta/rosettalaw20.SpliceInverts", spec := "spliceInverts", unfollowed := true, recurses := true, apart := false }
def SpliceInvertsSaid : Prop := spliceInvertsRow.holds Try.pinned (OpenSpec.ofChange spliceInvertsSpec)

/-- ITS FALSE NEIGHBOUR: 'it returns false'. Refute it at one input. -/
def spliceInvertsWrong : ChangeSpec := { name := "spliceInverts", fn := fun _ => fun
  | [d1, d2] => { results := [.lit (.bool false)], args := [d1, d2] }
  | _ => none }
def SpliceInvertsWrongFalsely : Prop := spliceInvertsRow.holds Try.pinned (OpenSpec.ofChange spliceInvertsWrong)

/-- 'rosettalaw20.SpliceMoves': WHATEVER THE INPUT: true; the input reads as it did. -/
def spliceMovesSpec : ChangeSpec := { name := "spliceMoves", fn := fun _ => fun
  | [d1, d2, d3] => { results := [.lit (.bool true)], args := [d1, d2, d3] }
  | _ => none }
def spliceMovesRow : OpenClaim := { program := "ytnnicjbceadnbaa", sum := "c1fb1b3043649d71109599c0eb0d541f8b7c519a7ab609dcc53d1565fa5a95f0", func := "rosetta/rosettalaw20.SpliceMoves", spec := "spliceMoves", unfollowed := true, recurses := true, apart := false }
def SpliceMovesSaid : Prop := spliceMovesRow.holds Try.pinned (OpenSpec.ofChange spliceMovesSpec)

/-- ITS FALSE NEIGHBOUR: 'it returns false'. Refute it at one input. -/
def spliceMovesWrong : ChangeSpec := { name := "spliceMoves", fn := fun _ => fun
  | [d1, d2, d3] => { results := [.lit (.bool false)], args := [d1, d2, d3] }
  | _ => none }
def SpliceMovesWrongFalsely : Prop := spliceMovesRow.holds Try.pinned (OpenSpec.ofChange spliceMovesWrong)

/-- 'rosettalaw20.SpliceJoins': WHATEVER THE INPUT: true; the input reads as it did. -/
def spliceJoinsSpec : ChangeSpec := { name := "spliceJoins", fn := fun _ => fun
  | [d1, d2, d3] => { results := [.lit (.bool true)], args := [d1, d2, d3] }
  | _ => none }
def spliceJoinsRow : OpenClaim := { program := "ytnnicjbceadnbaa", sum := "c1fb1b3043649d71109599c0eb0d541f8b7c519a7ab609dcc53d1565fa5a95f0", func := "rosetta/rosettalaw20.SpliceJoins", spec := "spliceJoins", unfollowed := true, recurses := true, apart := false }
def SpliceJoinsSaid : Prop := spliceJoinsRow.holds Try.pinned (OpenSpec.ofChange spliceJoinsSpec)

/-- ITS FALSE NEIGHBOUR: 'it returns false'. Refute it at one input. -/
def spliceJoinsWrong : ChangeSpec := { name := "spliceJoins", fn := fun _ => fun
  | [d1, d2, d3] => { results := [.lit (.bool false)], args := [d1, d2, d3] }
  | _ => none }
def SpliceJoinsWrongFalsely : Prop := spliceJoinsRow.holds Try.pinned (OpenSpec.ofChange spliceJoinsWrong)

/-- 'rosettalaw20.SpliceParts': WHATEVER THE INPUT: true; the input reads as it did. -/
def splicePartsSpec : ChangeSpec := { name := "spliceParts", fn := fun _ => fun
  | [d1, d2, d3] => { results := [.lit (.bool true)], args := [d1, d2, d3] }
  | _ => none }
def splicePartsRow : OpenClaim := { program := "ytnnicjbceadnbaa", sum := "c1fb1b3043649d71109599c0eb0d541f8b7c519a7ab609dcc53d1565fa5a95f0", func := "rosetta/rosettalaw20.SpliceParts", spec := "spliceParts", unfollowed := true, recurses := true, apart := false }
def SplicePartsSaid : Prop := splicePartsRow.holds Try.pinned (OpenSpec.ofChange splicePartsSpec)

/-- ITS FALSE NEIGHBOUR: 'it returns false'. Refute it at one input. -/
def splicePartsWrong : ChangeSpec := { name := "spliceParts", fn := fun _ => fun
  | [d1, d2, d3] => { results := [.lit (.bool false)], args := [d1, d2, d3] }
  | _ => none }
def SplicePartsWrongFalsely : Prop := splicePartsRow.holds Try.pinned (OpenSpec.ofChange splicePartsWrong)

/-- 'rosettalaw20.SpliceComposes': WHATEVER THE INPUT: true; the input reads as it did. -/
def spliceComposesSpec : ChangeSpec := { name := "spliceComposes", fn := fun _ => fun
  | [d1, d2, d3] => { results := [.lit (.bool true)], args := [d1, d2, d3] }
  | _ => none }
def spliceComposesRow : OpenClaim := { program := "ytnnicjbceadnbaa", sum := "c1fb1b3043649d71109599c0eb0d541f8b7c519a7ab609dcc53d1565fa5a95f0", func := "rosetta/rosettalaw20.SpliceComposes", spec := "spliceComposes", unfollowed := true, recurses := true, apart := false }
def SpliceComposesSaid : Prop := spliceComposesRow.holds Try.pinned (OpenSpec.ofChange spliceComposesSpec)

/-- ITS FALSE NEIGHBOUR: 'it returns false'. Refute it at one input. -/
def spliceComposesWrong : ChangeSpec := { name := "spliceComposes", fn := fun _ => fun
  | [d1, d2, d3] => { results := [.lit (.bool false)], args := [d1, d2, d3] }
  | _ => none }
def SpliceComposesWrongFalsely : Prop := spliceComposesRow.holds Try.pinned (OpenSpec.ofChange spliceComposesWrong)

/-- 'rosettalaw20.SpliceAssociates': WHATEVER THE INPUT: true; the input reads as it did. -/
def spliceAssociatesSpec : ChangeSpec := { name := "spliceAssociates", fn := fun _ => fun
  | [d1, d2] => { results := [.lit (.bool true)], args := [d1, d2] }
  | _ => none }
def spliceAssociatesRow : OpenClaim := { program := "ytnnicjbceadnbaa", sum := "c1fb1b3043649d71109599c0eb0d541f8b7c519a7ab609dcc53d1565fa5a95f0", func := "rosetta/rosettalaw20.SpliceAssociates", spec := "spliceAssociates", unfollowed := true, recurses := true, apart := false }
def SpliceAssociatesSaid : Prop := spliceAssociatesRow.holds Try.pinned (OpenSpec.ofChange spliceAssociatesSpec)

/-- ITS FALSE NEIGHBOUR: 'it returns false'. Refute it at one input. -/
def spliceAssociatesWrong : ChangeSpec := { name := "spliceAssociates", fn := fun _ => fun
  | [d1, d2] => { results := [.lit (.bool false)], args := [d1, d2] }
  | _ => none }
def SpliceAssociatesWrongFalsely : Prop := spliceAssociatesRow.holds Try.pinned (OpenSpec.ofChange spliceAssociatesWrong)

/- THE SECOND FORM. 'bulk': how many values and letters a reading holds, each counted each time it is reached (what is shared counts as often as it is met; a slice's spare places count too). A statement '..UptoSaid' is the law's where the arguments, and the package variables that the reading takes, are together of bulk at most 1048576: NARROWER than '..Said'. Prove '..Said' where nothing that the law and all that it calls make is longer than what came in: it says more and counts as full. Else prove '..UptoSaid'. A law counts once. -/
mutual
def uptoBulk {H : Type} : DataW H → Nat
  | .lit (.string bytes) => bytes.length + 1
  | .lit _ => 1
  | .nil => 1
  | .ptr d => uptoBulk d + 1
  | .slice elems spare => uptoBulkAll elems + uptoBulkAll spare + 1
  | .agg parts => uptoBulkAll parts + 1
  | .iface _ d => uptoBulk d + 1
  | .map entries => uptoBulkEntries entries + 1
  | .held _ => 1
def uptoBulkAll {H : Type} : List (DataW H) → Nat
  | [] => 0
  | d :: r => uptoBulk d + uptoBulkAll r
def uptoBulkEntries {H : Type} : List (Lit × DataW H) → Nat
  | [] => 0
  | x :: r => uptoBulkEntry x + uptoBulkEntries r
def uptoBulkEntry {H : Type} : Lit × DataW H → Nat
  | (.string bytes, d) => bytes.length + uptoBulk d + 1
  | (_, d) => uptoBulk d + 1
 end
def uptoSmall : (H : Type) → List (DataW H) → Bool := fun _ ds => decide (uptoBulkAll ds ≤ 1048576)
def OpenSpec.upto (s : _root_.Go.ChangeSpec) : _root_.Go.OpenSpec := { _root_.Go.OpenSpec.ofChange s with cond := some uptoSmall }

/-- 'rosettalaw20.SpliceApplies', WHERE WHAT IT READS IS OF BULK AT MOST 1048576: true; the input reads as it did. -/
def spliceAppliesUptoRow : OpenClaim := { program := "ytnnicjbceadnbaa", sum := "c1fb1b3043649d71109599c0eb0d541f8b7c519a7ab609dcc53d1565fa5a95f0", func := "rosetta/rosettalaw20.SpliceApplies", spec := "spliceApplies", unfollowed := true, recurses := true, apart := false, narrowed := true }
def SpliceAppliesUptoSaid : Prop := spliceAppliesUptoRow.holds Try.pinned (OpenSpec.upto spliceAppliesSpec)

/-- 'rosettalaw20.SpliceInverts', WHERE WHAT IT READS IS OF BULK AT MOST 1048576: true; the input reads as it did. -/
def spliceInvertsUptoRow : OpenClaim := { program := "ytnnicjbceadnbaa", sum := "c1fb1b3043649d71109599c0eb0d541f8b7c519a7ab609dcc53d1565fa5a95f0", func := "rosetta/rosettalaw20.SpliceInverts", spec := "spliceInverts", unfollowed := true, recurses := true, apart := false, narrowed := true }
def SpliceInvertsUptoSaid : Prop := spliceInvertsUptoRow.holds Try.pinned (OpenSpec.upto spliceInvertsSpec)

/-- 'rosettalaw20.SpliceMoves', WHERE WHAT IT READS IS OF BULK AT MOST 1048576: true; the input reads as it did. -/
def spliceMovesUptoRow : OpenClaim := { program := "ytnnicjbceadnbaa", sum := "c1fb1b3043649d71109599c0eb0d541f8b7c519a7ab609dcc53d1565fa5a95f0", func := "rosetta/rosettalaw20.SpliceMoves", spec := "spliceMoves", unfollowed := true, recurses := true, apart := false, narrowed := true }
def SpliceMovesUptoSaid : Prop := spliceMovesUptoRow.holds Try.pinned (OpenSpec.upto spliceMovesSpec)

/-- 'rosettalaw20.SpliceJoins', WHERE WHAT IT READS IS OF BULK AT MOST 1048576: true; the input reads as it did. -/
def spliceJoinsUptoRow : OpenClaim := { program := "ytnnicjbceadnbaa", sum := "c1fb1b3043649d71109599c0eb0d541f8b7c519a7ab609dcc53d1565fa5a95f0", func := "rosetta/rosettalaw20.SpliceJoins", spec := "spliceJoins", unfollowed := true, recurses := true, apart := false, narrowed := true }
def SpliceJoinsUptoSaid : Prop := spliceJoinsUptoRow.holds Try.pinned (OpenSpec.upto spliceJoinsSpec)

/-- 'rosettalaw20.SpliceParts', WHERE WHAT IT READS IS OF BULK AT MOST 1048576: true; the input reads as it did. -/
def splicePartsUptoRow : OpenClaim := { program := "ytnnicjbceadnbaa", sum := "c1fb1b3043649d71109599c0eb0d541f8b7c519a7ab609dcc53d1565fa5a95f0", func := "rosetta/rosettalaw20.SpliceParts", spec := "spliceParts", unfollowed := true, recurses := true, apart := false, narrowed := true }
def SplicePartsUptoSaid : Prop := splicePartsUptoRow.holds Try.pinned (OpenSpec.upto splicePartsSpec)

/-- 'rosettalaw20.SpliceComposes', WHERE WHAT IT READS IS OF BULK AT MOST 1048576: true; the input reads as it did. -/
def spliceComposesUptoRow : OpenClaim := { program := "ytnnicjbceadnbaa", sum := "c1fb1b3043649d71109599c0eb0d541f8b7c519a7ab609dcc53d1565fa5a95f0", func := "rosetta/rosettalaw20.SpliceComposes", spec := "spliceComposes", unfollowed := true, recurses := true, apart := false, narrowed := true }
def SpliceComposesUptoSaid : Prop := spliceComposesUptoRow.holds Try.pinned (OpenSpec.upto spliceComposesSpec)

/-- 'rosettalaw20.SpliceAssociates', WHERE WHAT IT READS IS OF BULK AT MOST 1048576: true; the input reads as it did. -/
def spliceAssociatesUptoRow : OpenClaim := { program := "ytnnicjbceadnbaa", sum := "c1fb1b3043649d71109599c0eb0d541f8b7c519a7ab609dcc53d1565fa5a95f0", func := "rosetta/rosettalaw20.SpliceAssociates", spec := "spliceAssociates", unfollowed := true, recurses := true, apart := false, narrowed := true }
def SpliceAssociatesUptoSaid : Prop := spliceAssociatesUptoRow.holds Try.pinned (OpenSpec.upto spliceAssociatesSpec)

end Rows
end Go.Proofs.Ytnnicjbceadnbaa
