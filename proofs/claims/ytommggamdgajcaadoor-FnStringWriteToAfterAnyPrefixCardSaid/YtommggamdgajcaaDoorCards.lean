/-
  DERIVED. GIVEN WITH THE SEED: THE CARDS: each row of YtommggamdgajcaaDoorRows.lean that lists a variable, with what it lists TIED to the program's text (the seventh form; the later family's looks); each row that meets fmt, with fmt's text TOLD by the authors' own Lean function (tested against real Go, not proved from fmt's source: count such statements apart). THE CARD IS WHAT COUNTS. Prove the row's statement (the work); the ties are given (YtommggamdgajcaaDoorTie.lean); close each card by the builder's one call (the guide's Derived/Test/ToyasCard.lean, 'card_holds'). Laid BY PROGRAM, IN A SANDBOX (cutbox-door.mjs). By AI agents, Wed Nov 11 2026. No macro, syntax, notation, axiom, sorry.
-/
import Derived.Test.YtommggamdgajcaaDoorRows
import GoSem.ClaimSeven
namespace Go.Proofs.YtommggamdgajcaaDoor
namespace Rows

/-- THE TIED CARD OF 'n001_49.FnStringLiteralMatchesEscapeModel'. -/
def fnStringLiteralMatchesEscapeModelCard : Claim7 := { stood := { row := fnStringLiteralMatchesEscapeModelRow, standIns := [], harness := (true, "c10d1375fdd20dbbbbe80e4f6e84705836b518373be4ceb831b2d77b8f3c3d73"), looks := false }, kinds := [], alts := [], laidByText := true, laidKinds := [.data, .pinned], laidTests := true, laidLooks := .later }
def FnStringLiteralMatchesEscapeModelCardSaid : Prop := Claim7.holds Tryd.pinned (.plain (OpenSpec.ofChange fnStringLiteralMatchesEscapeModelSpec)) fnStringLiteralMatchesEscapeModelCard

/-- THE TIED CARD OF 'n001_49.FnStringLiteralDecodesBack'. -/
def fnStringLiteralDecodesBackCard : Claim7 := { stood := { row := fnStringLiteralDecodesBackRow, standIns := [], harness := (true, "c10d1375fdd20dbbbbe80e4f6e84705836b518373be4ceb831b2d77b8f3c3d73"), looks := false }, kinds := [], alts := [], laidByText := true, laidKinds := [.data, .pinned], laidTests := true, laidLooks := .later }
def FnStringLiteralDecodesBackCardSaid : Prop := Claim7.holds Tryd.pinned (.plain (OpenSpec.ofChange fnStringLiteralDecodesBackSpec)) fnStringLiteralDecodesBackCard

/-- THE TIED CARD OF 'n001_49.FnFuncWriteToAfterAnyPrefix'. -/
def fnFuncWriteToAfterAnyPrefixCard : Claim7 := { stood := { row := fnFuncWriteToAfterAnyPrefixRow, standIns := [], harness := (true, "c10d1375fdd20dbbbbe80e4f6e84705836b518373be4ceb831b2d77b8f3c3d73"), looks := false }, kinds := [], alts := [], laidByText := true, laidKinds := [.data, .pinned], laidTests := true, laidLooks := .later }
def FnFuncWriteToAfterAnyPrefixCardSaid : Prop := Claim7.holds Tryd.pinned (.plain (OpenSpec.ofChange fnFuncWriteToAfterAnyPrefixSpec)) fnFuncWriteToAfterAnyPrefixCard

/-- THE TIED CARD OF 'n001_49.FnFuncStringNestsInner'. -/
def fnFuncStringNestsInnerCard : Claim7 := { stood := { row := fnFuncStringNestsInnerRow, standIns := [], harness := (true, "c10d1375fdd20dbbbbe80e4f6e84705836b518373be4ceb831b2d77b8f3c3d73"), looks := false }, kinds := [], alts := [], laidByText := true, laidKinds := [.data, .pinned], laidTests := true, laidLooks := .later }
def FnFuncStringNestsInnerCardSaid : Prop := Claim7.holds Tryd.pinned (.plain (OpenSpec.ofChange fnFuncStringNestsInnerSpec)) fnFuncStringNestsInnerCard

/-- THE TIED CARD OF 'n001_49.FnStringInterpolationMatchesModel'. -/
def fnStringInterpolationMatchesModelCard : Claim7 := { stood := { row := fnStringInterpolationMatchesModelRow, standIns := [], harness := (true, "c10d1375fdd20dbbbbe80e4f6e84705836b518373be4ceb831b2d77b8f3c3d73"), looks := false }, kinds := [], alts := [], laidByText := true, laidKinds := [.data, .pinned], laidTests := true, laidLooks := .later }
def FnStringInterpolationMatchesModelCardSaid : Prop := Claim7.holds Tryd.pinned (.plain (OpenSpec.ofChange fnStringInterpolationMatchesModelSpec)) fnStringInterpolationMatchesModelCard

/-- THE TIED CARD OF 'n001_49.FnStringWriteToAfterAnyPrefix'. -/
def fnStringWriteToAfterAnyPrefixCard : Claim7 := { stood := { row := fnStringWriteToAfterAnyPrefixRow, standIns := [], harness := (true, "c10d1375fdd20dbbbbe80e4f6e84705836b518373be4ceb831b2d77b8f3c3d73"), looks := false }, kinds := [], alts := [], laidByText := true, laidKinds := [.data, .pinned], laidTests := true, laidLooks := .later }
def FnStringWriteToAfterAnyPrefixCardSaid : Prop := Claim7.holds Tryd.pinned (.plain (OpenSpec.ofChange fnStringWriteToAfterAnyPrefixSpec)) fnStringWriteToAfterAnyPrefixCard

/-- THE SECOND FORM's CARD OF 'n001_49.FnStringLiteralMatchesEscapeModel'. -/
def fnStringLiteralMatchesEscapeModelUptoCard : Claim7 := { stood := { row := fnStringLiteralMatchesEscapeModelUptoRow, standIns := [], harness := (true, "c10d1375fdd20dbbbbe80e4f6e84705836b518373be4ceb831b2d77b8f3c3d73"), looks := false }, kinds := [], alts := [], laidByText := true, laidKinds := [.data, .pinned], laidTests := true, laidLooks := .later }
def FnStringLiteralMatchesEscapeModelUptoCardSaid : Prop := Claim7.holds Tryd.pinned (.plain (OpenSpec.upto fnStringLiteralMatchesEscapeModelSpec)) fnStringLiteralMatchesEscapeModelUptoCard

/-- THE SECOND FORM's CARD OF 'n001_49.FnStringLiteralDecodesBack'. -/
def fnStringLiteralDecodesBackUptoCard : Claim7 := { stood := { row := fnStringLiteralDecodesBackUptoRow, standIns := [], harness := (true, "c10d1375fdd20dbbbbe80e4f6e84705836b518373be4ceb831b2d77b8f3c3d73"), looks := false }, kinds := [], alts := [], laidByText := true, laidKinds := [.data, .pinned], laidTests := true, laidLooks := .later }
def FnStringLiteralDecodesBackUptoCardSaid : Prop := Claim7.holds Tryd.pinned (.plain (OpenSpec.upto fnStringLiteralDecodesBackSpec)) fnStringLiteralDecodesBackUptoCard

/-- THE SECOND FORM's CARD OF 'n001_49.FnFuncWriteToAfterAnyPrefix'. -/
def fnFuncWriteToAfterAnyPrefixUptoCard : Claim7 := { stood := { row := fnFuncWriteToAfterAnyPrefixUptoRow, standIns := [], harness := (true, "c10d1375fdd20dbbbbe80e4f6e84705836b518373be4ceb831b2d77b8f3c3d73"), looks := false }, kinds := [], alts := [], laidByText := true, laidKinds := [.data, .pinned], laidTests := true, laidLooks := .later }
def FnFuncWriteToAfterAnyPrefixUptoCardSaid : Prop := Claim7.holds Tryd.pinned (.plain (OpenSpec.upto fnFuncWriteToAfterAnyPrefixSpec)) fnFuncWriteToAfterAnyPrefixUptoCard

/-- THE SECOND FORM's CARD OF 'n001_49.FnFuncStringNestsInner'. -/
def fnFuncStringNestsInnerUptoCard : Claim7 := { stood := { row := fnFuncStringNestsInnerUptoRow, standIns := [], harness := (true, "c10d1375fdd20dbbbbe80e4f6e84705836b518373be4ceb831b2d77b8f3c3d73"), looks := false }, kinds := [], alts := [], laidByText := true, laidKinds := [.data, .pinned], laidTests := true, laidLooks := .later }
def FnFuncStringNestsInnerUptoCardSaid : Prop := Claim7.holds Tryd.pinned (.plain (OpenSpec.upto fnFuncStringNestsInnerSpec)) fnFuncStringNestsInnerUptoCard

/-- THE SECOND FORM's CARD OF 'n001_49.FnStringInterpolationMatchesModel'. -/
def fnStringInterpolationMatchesModelUptoCard : Claim7 := { stood := { row := fnStringInterpolationMatchesModelUptoRow, standIns := [], harness := (true, "c10d1375fdd20dbbbbe80e4f6e84705836b518373be4ceb831b2d77b8f3c3d73"), looks := false }, kinds := [], alts := [], laidByText := true, laidKinds := [.data, .pinned], laidTests := true, laidLooks := .later }
def FnStringInterpolationMatchesModelUptoCardSaid : Prop := Claim7.holds Tryd.pinned (.plain (OpenSpec.upto fnStringInterpolationMatchesModelSpec)) fnStringInterpolationMatchesModelUptoCard

/-- THE SECOND FORM's CARD OF 'n001_49.FnStringWriteToAfterAnyPrefix'. -/
def fnStringWriteToAfterAnyPrefixUptoCard : Claim7 := { stood := { row := fnStringWriteToAfterAnyPrefixUptoRow, standIns := [], harness := (true, "c10d1375fdd20dbbbbe80e4f6e84705836b518373be4ceb831b2d77b8f3c3d73"), looks := false }, kinds := [], alts := [], laidByText := true, laidKinds := [.data, .pinned], laidTests := true, laidLooks := .later }
def FnStringWriteToAfterAnyPrefixUptoCardSaid : Prop := Claim7.holds Tryd.pinned (.plain (OpenSpec.upto fnStringWriteToAfterAnyPrefixSpec)) fnStringWriteToAfterAnyPrefixUptoCard
end Rows
end Go.Proofs.YtommggamdgajcaaDoor
