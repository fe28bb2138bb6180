/-
  DERIVED. GIVEN WITH THE SEED: THE CARDS: each row of YthfhfocdbkieoaaDoorRows.lean that lists a variable, with what it lists TIED to the program's text (the seventh form; the later family's looks); each row that meets fmt, with fmt's text TOLD by the authors' own Lean function (tested against real Go, not proved from fmt's source: count such statements apart). THE CARD IS WHAT COUNTS. Prove the row's statement (the work); the ties are given (YthfhfocdbkieoaaDoorTie.lean); close each card by the builder's one call (the guide's Derived/Test/ToyasCard.lean, 'card_holds'). Laid BY PROGRAM, IN A SANDBOX (cutbox-door.mjs). By AI agents, Wed Nov 11 2026. No macro, syntax, notation, axiom, sorry.
-/
import Derived.Test.YthfhfocdbkieoaaDoorRows
import GoSem.ClaimSeven
namespace Go.Proofs.YthfhfocdbkieoaaDoor
namespace Rows

/-- THE TIED CARD OF 'n001_36.FnIndexStringSuffixAgreement'. -/
def fnIndexStringSuffixAgreementCard : Claim7 := { stood := { row := fnIndexStringSuffixAgreementRow, standIns := [], harness := (true, "afffac4ee8bf41aa8466e997f657cda9ff7b7e85822ed108e5259c22cf3325e6"), looks := false }, kinds := [], alts := [], laidByText := true, laidKinds := [.data, .pinned], laidTests := true, laidLooks := .later }
def FnIndexStringSuffixAgreementCardSaid : Prop := Claim7.holds Tryd.pinned (.plain (OpenSpec.ofChange fnIndexStringSuffixAgreementSpec)) fnIndexStringSuffixAgreementCard

/-- THE TIED CARD OF 'n001_36.FnPatternObjectWriteToKeyWins'. -/
def fnPatternObjectWriteToKeyWinsCard : Claim7 := { stood := { row := fnPatternObjectWriteToKeyWinsRow, standIns := [], harness := (true, "afffac4ee8bf41aa8466e997f657cda9ff7b7e85822ed108e5259c22cf3325e6"), looks := false }, kinds := [], alts := [], laidByText := true, laidKinds := [.data, .pinned], laidTests := true, laidLooks := .later }
def FnPatternObjectWriteToKeyWinsCardSaid : Prop := Claim7.holds Tryd.pinned (.plain (OpenSpec.ofChange fnPatternObjectWriteToKeyWinsSpec)) fnPatternObjectWriteToKeyWinsCard

/-- THE TIED CARD OF 'n001_36.FnPatternObjectStringInBraces'. -/
def fnPatternObjectStringInBracesCard : Claim7 := { stood := { row := fnPatternObjectStringInBracesRow, standIns := [], harness := (true, "afffac4ee8bf41aa8466e997f657cda9ff7b7e85822ed108e5259c22cf3325e6"), looks := false }, kinds := [], alts := [], laidByText := true, laidKinds := [.data, .pinned], laidTests := true, laidLooks := .later }
def FnPatternObjectStringInBracesCardSaid : Prop := Claim7.holds Tryd.pinned (.plain (OpenSpec.ofChange fnPatternObjectStringInBracesSpec)) fnPatternObjectStringInBracesCard

/-- THE SECOND FORM's CARD OF 'n001_36.FnIndexStringSuffixAgreement'. -/
def fnIndexStringSuffixAgreementUptoCard : Claim7 := { stood := { row := fnIndexStringSuffixAgreementUptoRow, standIns := [], harness := (true, "afffac4ee8bf41aa8466e997f657cda9ff7b7e85822ed108e5259c22cf3325e6"), looks := false }, kinds := [], alts := [], laidByText := true, laidKinds := [.data, .pinned], laidTests := true, laidLooks := .later }
def FnIndexStringSuffixAgreementUptoCardSaid : Prop := Claim7.holds Tryd.pinned (.plain (OpenSpec.upto fnIndexStringSuffixAgreementSpec)) fnIndexStringSuffixAgreementUptoCard

/-- THE SECOND FORM's CARD OF 'n001_36.FnPatternObjectWriteToKeyWins'. -/
def fnPatternObjectWriteToKeyWinsUptoCard : Claim7 := { stood := { row := fnPatternObjectWriteToKeyWinsUptoRow, standIns := [], harness := (true, "afffac4ee8bf41aa8466e997f657cda9ff7b7e85822ed108e5259c22cf3325e6"), looks := false }, kinds := [], alts := [], laidByText := true, laidKinds := [.data, .pinned], laidTests := true, laidLooks := .later }
def FnPatternObjectWriteToKeyWinsUptoCardSaid : Prop := Claim7.holds Tryd.pinned (.plain (OpenSpec.upto fnPatternObjectWriteToKeyWinsSpec)) fnPatternObjectWriteToKeyWinsUptoCard

/-- THE SECOND FORM's CARD OF 'n001_36.FnPatternObjectStringInBraces'. -/
def fnPatternObjectStringInBracesUptoCard : Claim7 := { stood := { row := fnPatternObjectStringInBracesUptoRow, standIns := [], harness := (true, "afffac4ee8bf41aa8466e997f657cda9ff7b7e85822ed108e5259c22cf3325e6"), looks := false }, kinds := [], alts := [], laidByText := true, laidKinds := [.data, .pinned], laidTests := true, laidLooks := .later }
def FnPatternObjectStringInBracesUptoCardSaid : Prop := Claim7.holds Tryd.pinned (.plain (OpenSpec.upto fnPatternObjectStringInBracesSpec)) fnPatternObjectStringInBracesUptoCard
end Rows
end Go.Proofs.YthfhfocdbkieoaaDoor
