/-
  DERIVED. GIVEN WITH THE SEED: THE CARDS: each row of YtkabnbopakfknaaDoorRows.lean that lists a variable, with what it lists TIED to the program's text (the seventh form; the later family's looks); each row that meets fmt, with fmt's text TOLD by the authors' own Lean function (tested against real Go, not proved from fmt's source: count such statements apart). THE CARD IS WHAT COUNTS. Prove the row's statement (the work); the ties are given (YtkabnbopakfknaaDoorTie.lean); close each card by the builder's one call (the guide's Derived/Test/ToyasCard.lean, 'card_holds'). Laid BY PROGRAM, IN A SANDBOX (cutbox-door.mjs). By AI agents, Wed Nov 11 2026. No macro, syntax, notation, axiom, sorry.
-/
import Derived.Test.YtkabnbopakfknaaDoorRows
import GoSem.ClaimSeven
namespace Go.Proofs.YtkabnbopakfknaaDoor
namespace Rows

/-- THE TIED CARD OF 'n001_51.FnPatternStringDecodesBack'. -/
def fnPatternStringDecodesBackCard : Claim7 := { stood := { row := fnPatternStringDecodesBackRow, standIns := [], harness := (true, "8f888bf2f173243be7f9ff1476688bff728992167f8b7db488c279141093a894"), looks := false }, kinds := [], alts := [], laidByText := true, laidKinds := [.data, .pinned], laidTests := true, laidLooks := .later }
def FnPatternStringDecodesBackCardSaid : Prop := Claim7.holds Tryd.pinned (.plain (OpenSpec.ofChange fnPatternStringDecodesBackSpec)) fnPatternStringDecodesBackCard

/-- THE TIED CARD OF 'n001_51.FnUnaryStringNests'. -/
def fnUnaryStringNestsCard : Claim7 := { stood := { row := fnUnaryStringNestsRow, standIns := [], harness := (true, "8f888bf2f173243be7f9ff1476688bff728992167f8b7db488c279141093a894"), looks := false }, kinds := [], alts := [], laidByText := true, laidKinds := [.data, .pinned], laidTests := true, laidLooks := .later }
def FnUnaryStringNestsCardSaid : Prop := Claim7.holds Tryd.pinned (.plain (OpenSpec.ofChange fnUnaryStringNestsSpec)) fnUnaryStringNestsCard

/-- THE TIED CARD OF 'n001_51.FnUnaryWriteToAgreesWithString'. -/
def fnUnaryWriteToAgreesWithStringCard : Claim7 := { stood := { row := fnUnaryWriteToAgreesWithStringRow, standIns := [], harness := (true, "8f888bf2f173243be7f9ff1476688bff728992167f8b7db488c279141093a894"), looks := false }, kinds := [], alts := [], laidByText := true, laidKinds := [.data, .pinned], laidTests := true, laidLooks := .later }
def FnUnaryWriteToAgreesWithStringCardSaid : Prop := Claim7.holds Tryd.pinned (.plain (OpenSpec.ofChange fnUnaryWriteToAgreesWithStringSpec)) fnUnaryWriteToAgreesWithStringCard

/-- THE SECOND FORM's CARD OF 'n001_51.FnPatternStringDecodesBack'. -/
def fnPatternStringDecodesBackUptoCard : Claim7 := { stood := { row := fnPatternStringDecodesBackUptoRow, standIns := [], harness := (true, "8f888bf2f173243be7f9ff1476688bff728992167f8b7db488c279141093a894"), looks := false }, kinds := [], alts := [], laidByText := true, laidKinds := [.data, .pinned], laidTests := true, laidLooks := .later }
def FnPatternStringDecodesBackUptoCardSaid : Prop := Claim7.holds Tryd.pinned (.plain (OpenSpec.upto fnPatternStringDecodesBackSpec)) fnPatternStringDecodesBackUptoCard

/-- THE SECOND FORM's CARD OF 'n001_51.FnUnaryStringNests'. -/
def fnUnaryStringNestsUptoCard : Claim7 := { stood := { row := fnUnaryStringNestsUptoRow, standIns := [], harness := (true, "8f888bf2f173243be7f9ff1476688bff728992167f8b7db488c279141093a894"), looks := false }, kinds := [], alts := [], laidByText := true, laidKinds := [.data, .pinned], laidTests := true, laidLooks := .later }
def FnUnaryStringNestsUptoCardSaid : Prop := Claim7.holds Tryd.pinned (.plain (OpenSpec.upto fnUnaryStringNestsSpec)) fnUnaryStringNestsUptoCard

/-- THE SECOND FORM's CARD OF 'n001_51.FnUnaryWriteToAgreesWithString'. -/
def fnUnaryWriteToAgreesWithStringUptoCard : Claim7 := { stood := { row := fnUnaryWriteToAgreesWithStringUptoRow, standIns := [], harness := (true, "8f888bf2f173243be7f9ff1476688bff728992167f8b7db488c279141093a894"), looks := false }, kinds := [], alts := [], laidByText := true, laidKinds := [.data, .pinned], laidTests := true, laidLooks := .later }
def FnUnaryWriteToAgreesWithStringUptoCardSaid : Prop := Claim7.holds Tryd.pinned (.plain (OpenSpec.upto fnUnaryWriteToAgreesWithStringSpec)) fnUnaryWriteToAgreesWithStringUptoCard
end Rows
end Go.Proofs.YtkabnbopakfknaaDoor
