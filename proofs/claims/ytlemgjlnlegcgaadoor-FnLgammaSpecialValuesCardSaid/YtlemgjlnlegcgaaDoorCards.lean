/-
  DERIVED. GIVEN WITH THE SEED: THE CARDS: each row of YtlemgjlnlegcgaaDoorRows.lean that lists a variable, with what it lists TIED to the program's text (the seventh form; the later family's looks); each row that meets fmt, with fmt's text TOLD by the authors' own Lean function (tested against real Go, not proved from fmt's source: count such statements apart). THE CARD IS WHAT COUNTS. Prove the row's statement (the work); the ties are given (YtlemgjlnlegcgaaDoorTie.lean); close each card by the builder's one call (the guide's Derived/Test/ToyasCard.lean, 'card_holds'). Laid BY PROGRAM, IN A SANDBOX (cutbox-door.mjs). By AI agents, Wed Nov 11 2026. No macro, syntax, notation, axiom, sorry.
-/
import Derived.Test.YtlemgjlnlegcgaaDoorRows
import GoSem.ClaimSeven
namespace Go.Proofs.YtlemgjlnlegcgaaDoor
namespace Rows

/-- THE TIED CARD OF 'n001_54.FnLgammaSignOnPositiveReals'. -/
def fnLgammaSignOnPositiveRealsCard : Claim7 := { stood := { row := fnLgammaSignOnPositiveRealsRow, standIns := [], harness := (true, "c236fed484ace490619038ee39fd1f003f267fd97e10f8b5d8bb98ff22ff75a2"), looks := false }, kinds := [], alts := [], laidByText := true, laidKinds := [.data, .data, .data, .data, .data, .data, .data, .data, .data, .data], laidTests := true, laidLooks := .later }
def FnLgammaSignOnPositiveRealsCardSaid : Prop := Claim7.holds Tryd.pinned (.plain (OpenSpec.ofChange fnLgammaSignOnPositiveRealsSpec)) fnLgammaSignOnPositiveRealsCard

/-- THE TIED CARD OF 'n001_54.FnLgammaSpecialValues'. -/
def fnLgammaSpecialValuesCard : Claim7 := { stood := { row := fnLgammaSpecialValuesRow, standIns := [], harness := (true, "c236fed484ace490619038ee39fd1f003f267fd97e10f8b5d8bb98ff22ff75a2"), looks := false }, kinds := [], alts := [], laidByText := true, laidKinds := [.data, .data, .data, .data, .data, .data, .data, .data, .data, .data], laidTests := true, laidLooks := .later }
def FnLgammaSpecialValuesCardSaid : Prop := Claim7.holds Tryd.pinned (.plain (OpenSpec.ofChange fnLgammaSpecialValuesSpec)) fnLgammaSpecialValuesCard

/-- THE SECOND FORM's CARD OF 'n001_54.FnLgammaSignOnPositiveReals'. -/
def fnLgammaSignOnPositiveRealsUptoCard : Claim7 := { stood := { row := fnLgammaSignOnPositiveRealsUptoRow, standIns := [], harness := (true, "c236fed484ace490619038ee39fd1f003f267fd97e10f8b5d8bb98ff22ff75a2"), looks := false }, kinds := [], alts := [], laidByText := true, laidKinds := [.data, .data, .data, .data, .data, .data, .data, .data, .data, .data], laidTests := true, laidLooks := .later }
def FnLgammaSignOnPositiveRealsUptoCardSaid : Prop := Claim7.holds Tryd.pinned (.plain (OpenSpec.upto fnLgammaSignOnPositiveRealsSpec)) fnLgammaSignOnPositiveRealsUptoCard

/-- THE SECOND FORM's CARD OF 'n001_54.FnLgammaSpecialValues'. -/
def fnLgammaSpecialValuesUptoCard : Claim7 := { stood := { row := fnLgammaSpecialValuesUptoRow, standIns := [], harness := (true, "c236fed484ace490619038ee39fd1f003f267fd97e10f8b5d8bb98ff22ff75a2"), looks := false }, kinds := [], alts := [], laidByText := true, laidKinds := [.data, .data, .data, .data, .data, .data, .data, .data, .data, .data], laidTests := true, laidLooks := .later }
def FnLgammaSpecialValuesUptoCardSaid : Prop := Claim7.holds Tryd.pinned (.plain (OpenSpec.upto fnLgammaSpecialValuesSpec)) fnLgammaSpecialValuesUptoCard
end Rows
end Go.Proofs.YtlemgjlnlegcgaaDoor
