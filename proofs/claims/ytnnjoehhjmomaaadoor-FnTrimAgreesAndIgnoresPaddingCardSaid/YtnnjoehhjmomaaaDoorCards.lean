/-
  DERIVED. GIVEN WITH THE SEED: THE CARDS: each row of YtnnjoehhjmomaaaDoorRows.lean that lists a variable, with what it lists TIED to the program's text (the seventh form; the later family's looks); each row that meets fmt, with fmt's text TOLD by the authors' own Lean function (tested against real Go, not proved from fmt's source: count such statements apart). THE CARD IS WHAT COUNTS. Prove the row's statement (the work); the ties are given (YtnnjoehhjmomaaaDoorTie.lean); close each card by the builder's one call (the guide's Derived/Test/ToyasCard.lean, 'card_holds'). Laid BY PROGRAM, IN A SANDBOX (cutbox-door.mjs). By AI agents, Wed Nov 11 2026. No macro, syntax, notation, axiom, sorry.
-/
import Derived.Test.YtnnjoehhjmomaaaDoorRows
import GoSem.ClaimSeven
namespace Go.Proofs.YtnnjoehhjmomaaaDoor
namespace Rows

/-- THE TIED CARD OF 'n001_31.FnRtrimIdempotentAndPadFree'. -/
def fnRtrimIdempotentAndPadFreeCard : Claim7 := { stood := { row := fnRtrimIdempotentAndPadFreeRow, standIns := [], harness := (true, "11f3ccdabdb7575e42061f6b2631fadd2cf9ff0e78ce2fcf0729fef615408137"), looks := true }, kinds := [], alts := [], laidByText := true, laidKinds := [.data, .listed, .pinned], laidTests := true, laidLooks := .later }
def FnRtrimIdempotentAndPadFreeCardSaid : Prop := Claim7.holds Tryd.pinned (.plain (OpenSpec.ofChange fnRtrimIdempotentAndPadFreeSpec)) fnRtrimIdempotentAndPadFreeCard

/-- THE TIED CARD OF 'n001_31.FnRtrimSpec'. -/
def fnRtrimSpecCard : Claim7 := { stood := { row := fnRtrimSpecRow, standIns := [], harness := (true, "11f3ccdabdb7575e42061f6b2631fadd2cf9ff0e78ce2fcf0729fef615408137"), looks := true }, kinds := [], alts := [], laidByText := true, laidKinds := [.data, .listed, .pinned], laidTests := true, laidLooks := .later }
def FnRtrimSpecCardSaid : Prop := Claim7.holds Tryd.pinned (.plain (OpenSpec.ofChange fnRtrimSpecSpec)) fnRtrimSpecCard

/-- THE TIED CARD OF 'n001_31.FnTrimAgreesAndIgnoresPadding'. -/
def fnTrimAgreesAndIgnoresPaddingCard : Claim7 := { stood := { row := fnTrimAgreesAndIgnoresPaddingRow, standIns := [], harness := (true, "11f3ccdabdb7575e42061f6b2631fadd2cf9ff0e78ce2fcf0729fef615408137"), looks := true }, kinds := [], alts := [], laidByText := true, laidKinds := [.data, .listed, .data, .pinned], laidTests := true, laidLooks := .later }
def FnTrimAgreesAndIgnoresPaddingCardSaid : Prop := Claim7.holds Tryd.pinned (.plain (OpenSpec.ofChange fnTrimAgreesAndIgnoresPaddingSpec)) fnTrimAgreesAndIgnoresPaddingCard

/-- THE TIED CARD OF 'n001_31.FnTrimSpec'. -/
def fnTrimSpecCard : Claim7 := { stood := { row := fnTrimSpecRow, standIns := [], harness := (true, "11f3ccdabdb7575e42061f6b2631fadd2cf9ff0e78ce2fcf0729fef615408137"), looks := true }, kinds := [], alts := [], laidByText := true, laidKinds := [.data, .listed, .data, .pinned], laidTests := true, laidLooks := .later }
def FnTrimSpecCardSaid : Prop := Claim7.holds Tryd.pinned (.plain (OpenSpec.ofChange fnTrimSpecSpec)) fnTrimSpecCard

/-- THE SECOND FORM's CARD OF 'n001_31.FnRtrimIdempotentAndPadFree'. -/
def fnRtrimIdempotentAndPadFreeUptoCard : Claim7 := { stood := { row := fnRtrimIdempotentAndPadFreeUptoRow, standIns := [], harness := (true, "11f3ccdabdb7575e42061f6b2631fadd2cf9ff0e78ce2fcf0729fef615408137"), looks := true }, kinds := [], alts := [], laidByText := true, laidKinds := [.data, .listed, .pinned], laidTests := true, laidLooks := .later }
def FnRtrimIdempotentAndPadFreeUptoCardSaid : Prop := Claim7.holds Tryd.pinned (.plain (OpenSpec.upto fnRtrimIdempotentAndPadFreeSpec)) fnRtrimIdempotentAndPadFreeUptoCard

/-- THE SECOND FORM's CARD OF 'n001_31.FnRtrimSpec'. -/
def fnRtrimSpecUptoCard : Claim7 := { stood := { row := fnRtrimSpecUptoRow, standIns := [], harness := (true, "11f3ccdabdb7575e42061f6b2631fadd2cf9ff0e78ce2fcf0729fef615408137"), looks := true }, kinds := [], alts := [], laidByText := true, laidKinds := [.data, .listed, .pinned], laidTests := true, laidLooks := .later }
def FnRtrimSpecUptoCardSaid : Prop := Claim7.holds Tryd.pinned (.plain (OpenSpec.upto fnRtrimSpecSpec)) fnRtrimSpecUptoCard

/-- THE SECOND FORM's CARD OF 'n001_31.FnTrimAgreesAndIgnoresPadding'. -/
def fnTrimAgreesAndIgnoresPaddingUptoCard : Claim7 := { stood := { row := fnTrimAgreesAndIgnoresPaddingUptoRow, standIns := [], harness := (true, "11f3ccdabdb7575e42061f6b2631fadd2cf9ff0e78ce2fcf0729fef615408137"), looks := true }, kinds := [], alts := [], laidByText := true, laidKinds := [.data, .listed, .data, .pinned], laidTests := true, laidLooks := .later }
def FnTrimAgreesAndIgnoresPaddingUptoCardSaid : Prop := Claim7.holds Tryd.pinned (.plain (OpenSpec.upto fnTrimAgreesAndIgnoresPaddingSpec)) fnTrimAgreesAndIgnoresPaddingUptoCard

/-- THE SECOND FORM's CARD OF 'n001_31.FnTrimSpec'. -/
def fnTrimSpecUptoCard : Claim7 := { stood := { row := fnTrimSpecUptoRow, standIns := [], harness := (true, "11f3ccdabdb7575e42061f6b2631fadd2cf9ff0e78ce2fcf0729fef615408137"), looks := true }, kinds := [], alts := [], laidByText := true, laidKinds := [.data, .listed, .data, .pinned], laidTests := true, laidLooks := .later }
def FnTrimSpecUptoCardSaid : Prop := Claim7.holds Tryd.pinned (.plain (OpenSpec.upto fnTrimSpecSpec)) fnTrimSpecUptoCard
end Rows
end Go.Proofs.YtnnjoehhjmomaaaDoor
