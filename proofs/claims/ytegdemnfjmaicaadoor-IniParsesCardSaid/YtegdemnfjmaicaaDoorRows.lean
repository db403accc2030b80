/-
  NARROWER THAN 'FOR EVERY INPUT', by the rows' own cells (each row's printed sentence says how): IniParses: laid · IniSpaces: laid · IniJoins: laid · IniSpans: laid · IniQuotes: laid · IniNotes: laid.
  DERIVED. THE GIVEN ROWS OF THIS SEAT. 6 by the template 'for every input the law returns true; each argument reads behind the call as it read before'; 0 by the template 'total and deterministic' (their statements: YtegdemnfjmaicaaDoorTotals.lean).
  GIVEN WITH THE SEED: the statements are not yours to turn. If you find one false, say at which input.
  Laid BY PROGRAM, IN A SANDBOX (cutbox-rows.mjs): the forced cells as the released guide's own fill.sh prints them over the translation 9857427781d0071f… (all of the seat's roots in one cut). By AI agents, Wed Nov 11 2026. No macro, syntax, notation, axiom, sorry.
-/
import Derived.Test.YtegdemnfjmaicaaDoorChecked
import GoSem.PinnedTables
import GoSem.Claim
import GoSem.ClaimJoined
import GoSem.ClaimMapViews
import Derived.JoinedTies
import Derived.KernelRfl
namespace Go.Proofs.YtegdemnfjmaicaaDoor
/- THE CELL 'sum', in the pinned program and in every row, IS THE sha256 OF THE DUMP (.gsa) THAT YtegdemnfjmaicaaDoorProg.lean LOADS. Nothing in Lean hashes anything: it is a label: what it is worth is what the hold of that sum in a sandbox is worth. -/
noncomputable def Tryd.pinned : Pinned := { name := "ytegdemnfjmaicaadoor", sum := "9857427781d0071f8140ff714e73879932f8256d615c8210015cd573cdde4ecd", checked := Tryd.checked }
namespace Rows
def none {H : Type} : Left H := { results := [], args := [] }

/- WHAT THE LISTED PACKAGE-LEVEL VARIABLES READ AS WHEN THE CALL BEGINS. Each datum BY PROGRAM (the guide's laid-datum.mjs) off the statement by which the dump's own 'gosem.cut.vars' lays the variable. In a bare row this is a premise. The card (YtegdemnfjmaicaaDoorCards.lean) ties it to the program's text. -/
def laid_unicode_utf8_acceptRanges {H : Type} : DataW H := .agg [.agg [.lit (.int .u8 128), .lit (.int .u8 191)], .agg [.lit (.int .u8 160), .lit (.int .u8 191)], .agg [.lit (.int .u8 128), .lit (.int .u8 159)], .agg [.lit (.int .u8 144), .lit (.int .u8 191)], .agg [.lit (.int .u8 128), .lit (.int .u8 143)], .agg [.lit (.int .u8 0), .lit (.int .u8 0)], .agg [.lit (.int .u8 0), .lit (.int .u8 0)], .agg [.lit (.int .u8 0), .lit (.int .u8 0)], .agg [.lit (.int .u8 0), .lit (.int .u8 0)], .agg [.lit (.int .u8 0), .lit (.int .u8 0)], .agg [.lit (.int .u8 0), .lit (.int .u8 0)], .agg [.lit (.int .u8 0), .lit (.int .u8 0)], .agg [.lit (.int .u8 0), .lit (.int .u8 0)], .agg [.lit (.int .u8 0), .lit (.int .u8 0)], .agg [.lit (.int .u8 0), .lit (.int .u8 0)], .agg [.lit (.int .u8 0), .lit (.int .u8 0)]]
/-- One of Go's own tables, pinned by name: the form's constant. -/
def laid_unicode_utf8_first : DataW Unit := Go.Pinned.utf8First

/-- 'rosettalaw30.IniParses': WHATEVER THE INPUT: true; the input reads as it did. -/
def iniParsesSpec : ChangeSpec := { name := "iniParses", fn := fun _ => fun
  | [d] => { results := [.lit (.bool true)], args := [d] }
  | _ => none }
def iniParsesRow : OpenClaim := { program := "ytegdemnfjmaicaadoor", sum := "9857427781d0071f8140ff714e73879932f8256d615c8210015cd573cdde4ecd", func := "rosetta/rosettalaw30.IniParses", spec := "iniParses", inPlace := ["internal/bytealg.IndexByteString", "internal/abi.NoEscape"], unfollowed := true, recurses := true, named := ["unicode/utf8.first", "unicode/utf8.acceptRanges"], apart := false, laid := [("unicode/utf8.acceptRanges", laid_unicode_utf8_acceptRanges), ("unicode/utf8.first", laid_unicode_utf8_first)] }
def IniParsesSaid : Prop := iniParsesRow.holds Tryd.pinned (OpenSpec.ofChange iniParsesSpec)

/-- ITS FALSE NEIGHBOUR: 'it returns false'. Refute it at one input. -/
def iniParsesWrong : ChangeSpec := { name := "iniParses", fn := fun _ => fun
  | [d] => { results := [.lit (.bool false)], args := [d] }
  | _ => none }
def IniParsesWrongFalsely : Prop := iniParsesRow.holds Tryd.pinned (OpenSpec.ofChange iniParsesWrong)

/-- 'rosettalaw30.IniSpaces': WHATEVER THE INPUT: true; the input reads as it did. -/
def iniSpacesSpec : ChangeSpec := { name := "iniSpaces", fn := fun _ => fun
  | [d1, d2, d3] => { results := [.lit (.bool true)], args := [d1, d2, d3] }
  | _ => none }
def iniSpacesRow : OpenClaim := { program := "ytegdemnfjmaicaadoor", sum := "9857427781d0071f8140ff714e73879932f8256d615c8210015cd573cdde4ecd", func := "rosetta/rosettalaw30.IniSpaces", spec := "iniSpaces", inPlace := ["internal/bytealg.IndexByteString", "internal/abi.NoEscape"], unfollowed := true, recurses := true, named := ["unicode/utf8.first", "unicode/utf8.acceptRanges"], apart := false, laid := [("unicode/utf8.acceptRanges", laid_unicode_utf8_acceptRanges), ("unicode/utf8.first", laid_unicode_utf8_first)] }
def IniSpacesSaid : Prop := iniSpacesRow.holds Tryd.pinned (OpenSpec.ofChange iniSpacesSpec)

/-- ITS FALSE NEIGHBOUR: 'it returns false'. Refute it at one input. -/
def iniSpacesWrong : ChangeSpec := { name := "iniSpaces", fn := fun _ => fun
  | [d1, d2, d3] => { results := [.lit (.bool false)], args := [d1, d2, d3] }
  | _ => none }
def IniSpacesWrongFalsely : Prop := iniSpacesRow.holds Tryd.pinned (OpenSpec.ofChange iniSpacesWrong)

/-- 'rosettalaw30.IniJoins': WHATEVER THE INPUT: true; the input reads as it did. -/
def iniJoinsSpec : ChangeSpec := { name := "iniJoins", fn := fun _ => fun
  | [d1, d2] => { results := [.lit (.bool true)], args := [d1, d2] }
  | _ => none }
def iniJoinsRow : OpenClaim := { program := "ytegdemnfjmaicaadoor", sum := "9857427781d0071f8140ff714e73879932f8256d615c8210015cd573cdde4ecd", func := "rosetta/rosettalaw30.IniJoins", spec := "iniJoins", inPlace := ["internal/bytealg.IndexByteString", "internal/abi.NoEscape"], unfollowed := true, recurses := true, named := ["unicode/utf8.first", "unicode/utf8.acceptRanges"], apart := false, laid := [("unicode/utf8.acceptRanges", laid_unicode_utf8_acceptRanges), ("unicode/utf8.first", laid_unicode_utf8_first)] }
def IniJoinsSaid : Prop := iniJoinsRow.holds Tryd.pinned (OpenSpec.ofChange iniJoinsSpec)

/-- ITS FALSE NEIGHBOUR: 'it returns false'. Refute it at one input. -/
def iniJoinsWrong : ChangeSpec := { name := "iniJoins", fn := fun _ => fun
  | [d1, d2] => { results := [.lit (.bool false)], args := [d1, d2] }
  | _ => none }
def IniJoinsWrongFalsely : Prop := iniJoinsRow.holds Tryd.pinned (OpenSpec.ofChange iniJoinsWrong)

/-- 'rosettalaw30.IniSpans': WHATEVER THE INPUT: true; the input reads as it did. -/
def iniSpansSpec : ChangeSpec := { name := "iniSpans", fn := fun _ => fun
  | [d1, d2] => { results := [.lit (.bool true)], args := [d1, d2] }
  | _ => none }
def iniSpansRow : OpenClaim := { program := "ytegdemnfjmaicaadoor", sum := "9857427781d0071f8140ff714e73879932f8256d615c8210015cd573cdde4ecd", func := "rosetta/rosettalaw30.IniSpans", spec := "iniSpans", inPlace := ["internal/bytealg.IndexByteString", "internal/abi.NoEscape"], unfollowed := true, recurses := true, named := ["unicode/utf8.first", "unicode/utf8.acceptRanges"], apart := false, laid := [("unicode/utf8.acceptRanges", laid_unicode_utf8_acceptRanges), ("unicode/utf8.first", laid_unicode_utf8_first)] }
def IniSpansSaid : Prop := iniSpansRow.holds Tryd.pinned (OpenSpec.ofChange iniSpansSpec)

/-- ITS FALSE NEIGHBOUR: 'it returns false'. Refute it at one input. -/
def iniSpansWrong : ChangeSpec := { name := "iniSpans", fn := fun _ => fun
  | [d1, d2] => { results := [.lit (.bool false)], args := [d1, d2] }
  | _ => none }
def IniSpansWrongFalsely : Prop := iniSpansRow.holds Tryd.pinned (OpenSpec.ofChange iniSpansWrong)

/-- 'rosettalaw30.IniQuotes': WHATEVER THE INPUT: true; the input reads as it did. -/
def iniQuotesSpec : ChangeSpec := { name := "iniQuotes", fn := fun _ => fun
  | [d1, d2] => { results := [.lit (.bool true)], args := [d1, d2] }
  | _ => none }
def iniQuotesRow : OpenClaim := { program := "ytegdemnfjmaicaadoor", sum := "9857427781d0071f8140ff714e73879932f8256d615c8210015cd573cdde4ecd", func := "rosetta/rosettalaw30.IniQuotes", spec := "iniQuotes", inPlace := ["internal/bytealg.IndexByteString", "internal/abi.NoEscape"], unfollowed := true, recurses := true, named := ["unicode/utf8.first", "unicode/utf8.acceptRanges"], apart := false, laid := [("unicode/utf8.acceptRanges", laid_unicode_utf8_acceptRanges), ("unicode/utf8.first", laid_unicode_utf8_first)] }
def IniQuotesSaid : Prop := iniQuotesRow.holds Tryd.pinned (OpenSpec.ofChange iniQuotesSpec)

/-- ITS FALSE NEIGHBOUR: 'it returns false'. Refute it at one input. -/
def iniQuotesWrong : ChangeSpec := { name := "iniQuotes", fn := fun _ => fun
  | [d1, d2] => { results := [.lit (.bool false)], args := [d1, d2] }
  | _ => none }
def IniQuotesWrongFalsely : Prop := iniQuotesRow.holds Tryd.pinned (OpenSpec.ofChange iniQuotesWrong)

/-- 'rosettalaw30.IniNotes': WHATEVER THE INPUT: true; the input reads as it did. -/
def iniNotesSpec : ChangeSpec := { name := "iniNotes", fn := fun _ => fun
  | [d] => { results := [.lit (.bool true)], args := [d] }
  | _ => none }
def iniNotesRow : OpenClaim := { program := "ytegdemnfjmaicaadoor", sum := "9857427781d0071f8140ff714e73879932f8256d615c8210015cd573cdde4ecd", func := "rosetta/rosettalaw30.IniNotes", spec := "iniNotes", inPlace := ["internal/bytealg.IndexByteString", "internal/abi.NoEscape"], unfollowed := true, recurses := true, named := ["unicode/utf8.first", "unicode/utf8.acceptRanges"], apart := false, laid := [("unicode/utf8.acceptRanges", laid_unicode_utf8_acceptRanges), ("unicode/utf8.first", laid_unicode_utf8_first)] }
def IniNotesSaid : Prop := iniNotesRow.holds Tryd.pinned (OpenSpec.ofChange iniNotesSpec)

/-- ITS FALSE NEIGHBOUR: 'it returns false'. Refute it at one input. -/
def iniNotesWrong : ChangeSpec := { name := "iniNotes", fn := fun _ => fun
  | [d] => { results := [.lit (.bool false)], args := [d] }
  | _ => none }
def IniNotesWrongFalsely : Prop := iniNotesRow.holds Tryd.pinned (OpenSpec.ofChange iniNotesWrong)

/- THE SECOND FORM. 'bulk': how many values and letters a reading holds, each counted each time it is reached (what is shared counts as often as it is met; a slice's spare places count too). A statement '..UptoSaid' is the law's where the arguments, and the package variables that the reading takes, are together of bulk at most 1048576: NARROWER than '..Said'. Prove '..Said' where nothing that the law and all that it calls make is longer than what came in: it says more and counts as full. Else prove '..UptoSaid'. A law counts once. -/
mutual
def uptoBulk {H : Type} : DataW H → Nat
  | .lit (.string bytes) => bytes.length + 1
  | .lit _ => 1
  | .nil => 1
  | .ptr d => uptoBulk d + 1
  | .slice elems spare => uptoBulkAll elems + uptoBulkAll spare + 1
  | .agg parts => uptoBulkAll parts + 1
  | .iface _ d => uptoBulk d + 1
  | .map entries => uptoBulkEntries entries + 1
  | .held _ => 1
def uptoBulkAll {H : Type} : List (DataW H) → Nat
  | [] => 0
  | d :: r => uptoBulk d + uptoBulkAll r
def uptoBulkEntries {H : Type} : List (Lit × DataW H) → Nat
  | [] => 0
  | x :: r => uptoBulkEntry x + uptoBulkEntries r
def uptoBulkEntry {H : Type} : Lit × DataW H → Nat
  | (.string bytes, d) => bytes.length + uptoBulk d + 1
  | (_, d) => uptoBulk d + 1
 end
def uptoSmall : (H : Type) → List (DataW H) → Bool := fun _ ds => decide (uptoBulkAll ds ≤ 1048576)
def OpenSpec.upto (s : _root_.Go.ChangeSpec) : _root_.Go.OpenSpec := { _root_.Go.OpenSpec.ofChange s with cond := some uptoSmall }

/-- 'rosettalaw30.IniParses', WHERE WHAT IT READS IS OF BULK AT MOST 1048576: true; the input reads as it did. -/
def iniParsesUptoRow : OpenClaim := { program := "ytegdemnfjmaicaadoor", sum := "9857427781d0071f8140ff714e73879932f8256d615c8210015cd573cdde4ecd", func := "rosetta/rosettalaw30.IniParses", spec := "iniParses", inPlace := ["internal/bytealg.IndexByteString", "internal/abi.NoEscape"], unfollowed := true, recurses := true, named := ["unicode/utf8.first", "unicode/utf8.acceptRanges"], apart := false, laid := [("unicode/utf8.acceptRanges", laid_unicode_utf8_acceptRanges), ("unicode/utf8.first", laid_unicode_utf8_first)], narrowed := true }
def IniParsesUptoSaid : Prop := iniParsesUptoRow.holds Tryd.pinned (OpenSpec.upto iniParsesSpec)

/-- 'rosettalaw30.IniSpaces', WHERE WHAT IT READS IS OF BULK AT MOST 1048576: true; the input reads as it did. -/
def iniSpacesUptoRow : OpenClaim := { program := "ytegdemnfjmaicaadoor", sum := "9857427781d0071f8140ff714e73879932f8256d615c8210015cd573cdde4ecd", func := "rosetta/rosettalaw30.IniSpaces", spec := "iniSpaces", inPlace := ["internal/bytealg.IndexByteString", "internal/abi.NoEscape"], unfollowed := true, recurses := true, named := ["unicode/utf8.first", "unicode/utf8.acceptRanges"], apart := false, laid := [("unicode/utf8.acceptRanges", laid_unicode_utf8_acceptRanges), ("unicode/utf8.first", laid_unicode_utf8_first)], narrowed := true }
def IniSpacesUptoSaid : Prop := iniSpacesUptoRow.holds Tryd.pinned (OpenSpec.upto iniSpacesSpec)

/-- 'rosettalaw30.IniJoins', WHERE WHAT IT READS IS OF BULK AT MOST 1048576: true; the input reads as it did. -/
def iniJoinsUptoRow : OpenClaim := { program := "ytegdemnfjmaicaadoor", sum := "9857427781d0071f8140ff714e73879932f8256d615c8210015cd573cdde4ecd", func := "rosetta/rosettalaw30.IniJoins", spec := "iniJoins", inPlace := ["internal/bytealg.IndexByteString", "internal/abi.NoEscape"], unfollowed := true, recurses := true, named := ["unicode/utf8.first", "unicode/utf8.acceptRanges"], apart := false, laid := [("unicode/utf8.acceptRanges", laid_unicode_utf8_acceptRanges), ("unicode/utf8.first", laid_unicode_utf8_first)], narrowed := true }
def IniJoinsUptoSaid : Prop := iniJoinsUptoRow.holds Tryd.pinned (OpenSpec.upto iniJoinsSpec)

/-- 'rosettalaw30.IniSpans', WHERE WHAT IT READS IS OF BULK AT MOST 1048576: true; the input reads as it did. -/
def iniSpansUptoRow : OpenClaim := { program := "ytegdemnfjmaicaadoor", sum := "9857427781d0071f8140ff714e73879932f8256d615c8210015cd573cdde4ecd", func := "rosetta/rosettalaw30.IniSpans", spec := "iniSpans", inPlace := ["internal/bytealg.IndexByteString", "internal/abi.NoEscape"], unfollowed := true, recurses := true, named := ["unicode/utf8.first", "unicode/utf8.acceptRanges"], apart := false, laid := [("unicode/utf8.acceptRanges", laid_unicode_utf8_acceptRanges), ("unicode/utf8.first", laid_unicode_utf8_first)], narrowed := true }
def IniSpansUptoSaid : Prop := iniSpansUptoRow.holds Tryd.pinned (OpenSpec.upto iniSpansSpec)

/-- 'rosettalaw30.IniQuotes', WHERE WHAT IT READS IS OF BULK AT MOST 1048576: true; the input reads as it did. -/
def iniQuotesUptoRow : OpenClaim := { program := "ytegdemnfjmaicaadoor", sum := "9857427781d0071f8140ff714e73879932f8256d615c8210015cd573cdde4ecd", func := "rosetta/rosettalaw30.IniQuotes", spec := "iniQuotes", inPlace := ["internal/bytealg.IndexByteString", "internal/abi.NoEscape"], unfollowed := true, recurses := true, named := ["unicode/utf8.first", "unicode/utf8.acceptRanges"], apart := false, laid := [("unicode/utf8.acceptRanges", laid_unicode_utf8_acceptRanges), ("unicode/utf8.first", laid_unicode_utf8_first)], narrowed := true }
def IniQuotesUptoSaid : Prop := iniQuotesUptoRow.holds Tryd.pinned (OpenSpec.upto iniQuotesSpec)

/-- 'rosettalaw30.IniNotes', WHERE WHAT IT READS IS OF BULK AT MOST 1048576: true; the input reads as it did. -/
def iniNotesUptoRow : OpenClaim := { program := "ytegdemnfjmaicaadoor", sum := "9857427781d0071f8140ff714e73879932f8256d615c8210015cd573cdde4ecd", func := "rosetta/rosettalaw30.IniNotes", spec := "iniNotes", inPlace := ["internal/bytealg.IndexByteString", "internal/abi.NoEscape"], unfollowed := true, recurses := true, named := ["unicode/utf8.first", "unicode/utf8.acceptRanges"], apart := false, laid := [("unicode/utf8.acceptRanges", laid_unicode_utf8_acceptRanges), ("unicode/utf8.first", laid_unicode_utf8_first)], narrowed := true }
def IniNotesUptoSaid : Prop := iniNotesUptoRow.holds Tryd.pinned (OpenSpec.upto iniNotesSpec)

end Rows
end Go.Proofs.YtegdemnfjmaicaaDoor
