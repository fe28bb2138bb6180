/-
  DERIVED. GIVEN WITH THE SEED: THE CARDS: each row of YtbdjddgihnmemaaDoorRows.lean that lists a variable, with what it lists TIED to the program's text (the seventh form; the later family's looks); each row that meets fmt, with fmt's text TOLD by the authors' own Lean function (tested against real Go, not proved from fmt's source: count such statements apart). THE CARD IS WHAT COUNTS. Prove the row's statement (the work); the ties are given (YtbdjddgihnmemaaDoorTie.lean); close each card by the builder's one call (the guide's Derived/Test/ToyasCard.lean, 'card_holds'). Laid BY PROGRAM, IN A SANDBOX (cutbox-door.mjs). By AI agents, Wed Nov 11 2026. No macro, syntax, notation, axiom, sorry.
-/
import Derived.Test.YtbdjddgihnmemaaDoorRows
import GoSem.ClaimSeven
namespace Go.Proofs.YtbdjddgihnmemaaDoor
namespace Rows

/-- THE TIED CARD OF 'n001_41.FnConstObjectStringMatchesModel'. -/
def fnConstObjectStringMatchesModelCard : Claim7 := { stood := { row := fnConstObjectStringMatchesModelRow, standIns := [], harness := (true, "23fe04aa303853a229e7c56b7cf5b374cd17f70d9f49d8842f0506bc04def1f6"), looks := false }, kinds := [], alts := [], laidByText := true, laidKinds := [.data, .pinned], laidTests := true, laidLooks := .later }
def FnConstObjectStringMatchesModelCardSaid : Prop := Claim7.holds Tryd.pinned (.plain (OpenSpec.ofChange fnConstObjectStringMatchesModelSpec)) fnConstObjectStringMatchesModelCard

/-- THE TIED CARD OF 'n001_41.FnConstTermToStringIffPrintedAsString'. -/
def fnConstTermToStringIffPrintedAsStringCard : Claim7 := { stood := { row := fnConstTermToStringIffPrintedAsStringRow, standIns := [], harness := (true, "23fe04aa303853a229e7c56b7cf5b374cd17f70d9f49d8842f0506bc04def1f6"), looks := false }, kinds := [], alts := [], laidByText := true, laidKinds := [.data, .pinned], laidTests := true, laidLooks := .later }
def FnConstTermToStringIffPrintedAsStringCardSaid : Prop := Claim7.holds Tryd.pinned (.plain (OpenSpec.ofChange fnConstTermToStringIffPrintedAsStringSpec)) fnConstTermToStringIffPrintedAsStringCard

/-- THE TIED CARD OF 'n001_41.FnConstObjectWriteToAppendsItsString'. -/
def fnConstObjectWriteToAppendsItsStringCard : Claim7 := { stood := { row := fnConstObjectWriteToAppendsItsStringRow, standIns := [], harness := (true, "23fe04aa303853a229e7c56b7cf5b374cd17f70d9f49d8842f0506bc04def1f6"), looks := false }, kinds := [], alts := [], laidByText := true, laidKinds := [.data, .pinned], laidTests := true, laidLooks := .later }
def FnConstObjectWriteToAppendsItsStringCardSaid : Prop := Claim7.holds Tryd.pinned (.plain (OpenSpec.ofChange fnConstObjectWriteToAppendsItsStringSpec)) fnConstObjectWriteToAppendsItsStringCard

/-- THE TIED CARD OF 'n001_41.FnConstObjectWriteToMatchesModel'. -/
def fnConstObjectWriteToMatchesModelCard : Claim7 := { stood := { row := fnConstObjectWriteToMatchesModelRow, standIns := [], harness := (true, "23fe04aa303853a229e7c56b7cf5b374cd17f70d9f49d8842f0506bc04def1f6"), looks := false }, kinds := [], alts := [], laidByText := true, laidKinds := [.data, .pinned], laidTests := true, laidLooks := .later }
def FnConstObjectWriteToMatchesModelCardSaid : Prop := Claim7.holds Tryd.pinned (.plain (OpenSpec.ofChange fnConstObjectWriteToMatchesModelSpec)) fnConstObjectWriteToMatchesModelCard

/-- THE TIED CARD OF 'n001_41.FnConstObjectStringConcat'. -/
def fnConstObjectStringConcatCard : Claim7 := { stood := { row := fnConstObjectStringConcatRow, standIns := [], harness := (true, "23fe04aa303853a229e7c56b7cf5b374cd17f70d9f49d8842f0506bc04def1f6"), looks := false }, kinds := [], alts := [], laidByText := true, laidKinds := [.data, .pinned], laidTests := true, laidLooks := .later }
def FnConstObjectStringConcatCardSaid : Prop := Claim7.holds Tryd.pinned (.plain (OpenSpec.ofChange fnConstObjectStringConcatSpec)) fnConstObjectStringConcatCard

/-- THE SECOND FORM's CARD OF 'n001_41.FnConstObjectStringMatchesModel'. -/
def fnConstObjectStringMatchesModelUptoCard : Claim7 := { stood := { row := fnConstObjectStringMatchesModelUptoRow, standIns := [], harness := (true, "23fe04aa303853a229e7c56b7cf5b374cd17f70d9f49d8842f0506bc04def1f6"), looks := false }, kinds := [], alts := [], laidByText := true, laidKinds := [.data, .pinned], laidTests := true, laidLooks := .later }
def FnConstObjectStringMatchesModelUptoCardSaid : Prop := Claim7.holds Tryd.pinned (.plain (OpenSpec.upto fnConstObjectStringMatchesModelSpec)) fnConstObjectStringMatchesModelUptoCard

/-- THE SECOND FORM's CARD OF 'n001_41.FnConstTermToStringIffPrintedAsString'. -/
def fnConstTermToStringIffPrintedAsStringUptoCard : Claim7 := { stood := { row := fnConstTermToStringIffPrintedAsStringUptoRow, standIns := [], harness := (true, "23fe04aa303853a229e7c56b7cf5b374cd17f70d9f49d8842f0506bc04def1f6"), looks := false }, kinds := [], alts := [], laidByText := true, laidKinds := [.data, .pinned], laidTests := true, laidLooks := .later }
def FnConstTermToStringIffPrintedAsStringUptoCardSaid : Prop := Claim7.holds Tryd.pinned (.plain (OpenSpec.upto fnConstTermToStringIffPrintedAsStringSpec)) fnConstTermToStringIffPrintedAsStringUptoCard

/-- THE SECOND FORM's CARD OF 'n001_41.FnConstObjectWriteToAppendsItsString'. -/
def fnConstObjectWriteToAppendsItsStringUptoCard : Claim7 := { stood := { row := fnConstObjectWriteToAppendsItsStringUptoRow, standIns := [], harness := (true, "23fe04aa303853a229e7c56b7cf5b374cd17f70d9f49d8842f0506bc04def1f6"), looks := false }, kinds := [], alts := [], laidByText := true, laidKinds := [.data, .pinned], laidTests := true, laidLooks := .later }
def FnConstObjectWriteToAppendsItsStringUptoCardSaid : Prop := Claim7.holds Tryd.pinned (.plain (OpenSpec.upto fnConstObjectWriteToAppendsItsStringSpec)) fnConstObjectWriteToAppendsItsStringUptoCard

/-- THE SECOND FORM's CARD OF 'n001_41.FnConstObjectWriteToMatchesModel'. -/
def fnConstObjectWriteToMatchesModelUptoCard : Claim7 := { stood := { row := fnConstObjectWriteToMatchesModelUptoRow, standIns := [], harness := (true, "23fe04aa303853a229e7c56b7cf5b374cd17f70d9f49d8842f0506bc04def1f6"), looks := false }, kinds := [], alts := [], laidByText := true, laidKinds := [.data, .pinned], laidTests := true, laidLooks := .later }
def FnConstObjectWriteToMatchesModelUptoCardSaid : Prop := Claim7.holds Tryd.pinned (.plain (OpenSpec.upto fnConstObjectWriteToMatchesModelSpec)) fnConstObjectWriteToMatchesModelUptoCard

/-- THE SECOND FORM's CARD OF 'n001_41.FnConstObjectStringConcat'. -/
def fnConstObjectStringConcatUptoCard : Claim7 := { stood := { row := fnConstObjectStringConcatUptoRow, standIns := [], harness := (true, "23fe04aa303853a229e7c56b7cf5b374cd17f70d9f49d8842f0506bc04def1f6"), looks := false }, kinds := [], alts := [], laidByText := true, laidKinds := [.data, .pinned], laidTests := true, laidLooks := .later }
def FnConstObjectStringConcatUptoCardSaid : Prop := Claim7.holds Tryd.pinned (.plain (OpenSpec.upto fnConstObjectStringConcatSpec)) fnConstObjectStringConcatUptoCard
end Rows
end Go.Proofs.YtbdjddgihnmemaaDoor
