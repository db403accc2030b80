/-
  DERIVED. GIVEN WITH THE SEED: THE CARDS: each row of YtegdemnfjmaicaaDoorRows.lean that lists a variable, with what it lists TIED to the program's text (the seventh form; the later family's looks); each row that meets fmt, with fmt's text TOLD by the authors' own Lean function (tested against real Go, not proved from fmt's source: count such statements apart). THE CARD IS WHAT COUNTS. Prove the row's statement (the work); the ties are given (YtegdemnfjmaicaaDoorTie.lean); close each card by the builder's one call (the guide's Derived/Test/ToyasCard.lean, 'card_holds'). Laid BY PROGRAM, IN A SANDBOX (cutbox-door.mjs). By AI agents, Wed Nov 11 2026. No macro, syntax, notation, axiom, sorry.
-/
import Derived.Test.YtegdemnfjmaicaaDoorRows
import GoSem.ClaimSeven
namespace Go.Proofs.YtegdemnfjmaicaaDoor
namespace Rows

/-- THE TIED CARD OF 'rosettalaw30.IniParses'. -/
def iniParsesCard : Claim7 := { stood := { row := iniParsesRow, standIns := [], harness := (true, "ca9384c7d664c250dbcbc66e83b4d0c8ac99a7fbcc61dd85c89c2cc630d43f77"), looks := false }, kinds := [], alts := [], laidByText := true, laidKinds := [.data, .pinned], laidTests := true, laidLooks := .later }
def IniParsesCardSaid : Prop := Claim7.holds Tryd.pinned (.plain (OpenSpec.ofChange iniParsesSpec)) iniParsesCard

/-- THE TIED CARD OF 'rosettalaw30.IniSpaces'. -/
def iniSpacesCard : Claim7 := { stood := { row := iniSpacesRow, standIns := [], harness := (true, "ca9384c7d664c250dbcbc66e83b4d0c8ac99a7fbcc61dd85c89c2cc630d43f77"), looks := false }, kinds := [], alts := [], laidByText := true, laidKinds := [.data, .pinned], laidTests := true, laidLooks := .later }
def IniSpacesCardSaid : Prop := Claim7.holds Tryd.pinned (.plain (OpenSpec.ofChange iniSpacesSpec)) iniSpacesCard

/-- THE TIED CARD OF 'rosettalaw30.IniJoins'. -/
def iniJoinsCard : Claim7 := { stood := { row := iniJoinsRow, standIns := [], harness := (true, "ca9384c7d664c250dbcbc66e83b4d0c8ac99a7fbcc61dd85c89c2cc630d43f77"), looks := false }, kinds := [], alts := [], laidByText := true, laidKinds := [.data, .pinned], laidTests := true, laidLooks := .later }
def IniJoinsCardSaid : Prop := Claim7.holds Tryd.pinned (.plain (OpenSpec.ofChange iniJoinsSpec)) iniJoinsCard

/-- THE TIED CARD OF 'rosettalaw30.IniSpans'. -/
def iniSpansCard : Claim7 := { stood := { row := iniSpansRow, standIns := [], harness := (true, "ca9384c7d664c250dbcbc66e83b4d0c8ac99a7fbcc61dd85c89c2cc630d43f77"), looks := false }, kinds := [], alts := [], laidByText := true, laidKinds := [.data, .pinned], laidTests := true, laidLooks := .later }
def IniSpansCardSaid : Prop := Claim7.holds Tryd.pinned (.plain (OpenSpec.ofChange iniSpansSpec)) iniSpansCard

/-- THE TIED CARD OF 'rosettalaw30.IniQuotes'. -/
def iniQuotesCard : Claim7 := { stood := { row := iniQuotesRow, standIns := [], harness := (true, "ca9384c7d664c250dbcbc66e83b4d0c8ac99a7fbcc61dd85c89c2cc630d43f77"), looks := false }, kinds := [], alts := [], laidByText := true, laidKinds := [.data, .pinned], laidTests := true, laidLooks := .later }
def IniQuotesCardSaid : Prop := Claim7.holds Tryd.pinned (.plain (OpenSpec.ofChange iniQuotesSpec)) iniQuotesCard

/-- THE TIED CARD OF 'rosettalaw30.IniNotes'. -/
def iniNotesCard : Claim7 := { stood := { row := iniNotesRow, standIns := [], harness := (true, "ca9384c7d664c250dbcbc66e83b4d0c8ac99a7fbcc61dd85c89c2cc630d43f77"), looks := false }, kinds := [], alts := [], laidByText := true, laidKinds := [.data, .pinned], laidTests := true, laidLooks := .later }
def IniNotesCardSaid : Prop := Claim7.holds Tryd.pinned (.plain (OpenSpec.ofChange iniNotesSpec)) iniNotesCard

/-- THE SECOND FORM's CARD OF 'rosettalaw30.IniParses'. -/
def iniParsesUptoCard : Claim7 := { stood := { row := iniParsesUptoRow, standIns := [], harness := (true, "ca9384c7d664c250dbcbc66e83b4d0c8ac99a7fbcc61dd85c89c2cc630d43f77"), looks := false }, kinds := [], alts := [], laidByText := true, laidKinds := [.data, .pinned], laidTests := true, laidLooks := .later }
def IniParsesUptoCardSaid : Prop := Claim7.holds Tryd.pinned (.plain (OpenSpec.upto iniParsesSpec)) iniParsesUptoCard

/-- THE SECOND FORM's CARD OF 'rosettalaw30.IniSpaces'. -/
def iniSpacesUptoCard : Claim7 := { stood := { row := iniSpacesUptoRow, standIns := [], harness := (true, "ca9384c7d664c250dbcbc66e83b4d0c8ac99a7fbcc61dd85c89c2cc630d43f77"), looks := false }, kinds := [], alts := [], laidByText := true, laidKinds := [.data, .pinned], laidTests := true, laidLooks := .later }
def IniSpacesUptoCardSaid : Prop := Claim7.holds Tryd.pinned (.plain (OpenSpec.upto iniSpacesSpec)) iniSpacesUptoCard

/-- THE SECOND FORM's CARD OF 'rosettalaw30.IniJoins'. -/
def iniJoinsUptoCard : Claim7 := { stood := { row := iniJoinsUptoRow, standIns := [], harness := (true, "ca9384c7d664c250dbcbc66e83b4d0c8ac99a7fbcc61dd85c89c2cc630d43f77"), looks := false }, kinds := [], alts := [], laidByText := true, laidKinds := [.data, .pinned], laidTests := true, laidLooks := .later }
def IniJoinsUptoCardSaid : Prop := Claim7.holds Tryd.pinned (.plain (OpenSpec.upto iniJoinsSpec)) iniJoinsUptoCard

/-- THE SECOND FORM's CARD OF 'rosettalaw30.IniSpans'. -/
def iniSpansUptoCard : Claim7 := { stood := { row := iniSpansUptoRow, standIns := [], harness := (true, "ca9384c7d664c250dbcbc66e83b4d0c8ac99a7fbcc61dd85c89c2cc630d43f77"), looks := false }, kinds := [], alts := [], laidByText := true, laidKinds := [.data, .pinned], laidTests := true, laidLooks := .later }
def IniSpansUptoCardSaid : Prop := Claim7.holds Tryd.pinned (.plain (OpenSpec.upto iniSpansSpec)) iniSpansUptoCard

/-- THE SECOND FORM's CARD OF 'rosettalaw30.IniQuotes'. -/
def iniQuotesUptoCard : Claim7 := { stood := { row := iniQuotesUptoRow, standIns := [], harness := (true, "ca9384c7d664c250dbcbc66e83b4d0c8ac99a7fbcc61dd85c89c2cc630d43f77"), looks := false }, kinds := [], alts := [], laidByText := true, laidKinds := [.data, .pinned], laidTests := true, laidLooks := .later }
def IniQuotesUptoCardSaid : Prop := Claim7.holds Tryd.pinned (.plain (OpenSpec.upto iniQuotesSpec)) iniQuotesUptoCard

/-- THE SECOND FORM's CARD OF 'rosettalaw30.IniNotes'. -/
def iniNotesUptoCard : Claim7 := { stood := { row := iniNotesUptoRow, standIns := [], harness := (true, "ca9384c7d664c250dbcbc66e83b4d0c8ac99a7fbcc61dd85c89c2cc630d43f77"), looks := false }, kinds := [], alts := [], laidByText := true, laidKinds := [.data, .pinned], laidTests := true, laidLooks := .later }
def IniNotesUptoCardSaid : Prop := Claim7.holds Tryd.pinned (.plain (OpenSpec.upto iniNotesSpec)) iniNotesUptoCard
end Rows
end Go.Proofs.YtegdemnfjmaicaaDoor
