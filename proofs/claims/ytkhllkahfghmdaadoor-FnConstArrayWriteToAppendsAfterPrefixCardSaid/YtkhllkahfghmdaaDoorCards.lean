/-
  DERIVED. GIVEN WITH THE SEED: THE CARDS: each row of YtkhllkahfghmdaaDoorRows.lean that lists a variable, with what it lists TIED to the program's text (the seventh form; the later family's looks); each row that meets fmt, with fmt's text TOLD by the authors' own Lean function (tested against real Go, not proved from fmt's source: count such statements apart). THE CARD IS WHAT COUNTS. Prove the row's statement (the work); the ties are given (YtkhllkahfghmdaaDoorTie.lean); close each card by the builder's one call (the guide's Derived/Test/ToyasCard.lean, 'card_holds'). Laid BY PROGRAM, IN A SANDBOX (cutbox-door.mjs). By AI agents, Wed Nov 11 2026. No macro, syntax, notation, axiom, sorry.
-/
import Derived.Test.YtkhllkahfghmdaaDoorRows
import GoSem.ClaimSeven
namespace Go.Proofs.YtkhllkahfghmdaaDoor
namespace Rows

/-- THE TIED CARD OF 'n001_53.FnConstArrayWriteToAppendsAfterPrefix'. -/
def fnConstArrayWriteToAppendsAfterPrefixCard : Claim7 := { stood := { row := fnConstArrayWriteToAppendsAfterPrefixRow, standIns := [], harness := (true, "88a8119638ba0f2474d3d2c27378cd4a2f2e50efe5c78e205e9db441f0c14efd"), looks := false }, kinds := [], alts := [], laidByText := true, laidKinds := [.data, .pinned], laidTests := true, laidLooks := .later }
def FnConstArrayWriteToAppendsAfterPrefixCardSaid : Prop := Claim7.holds Tryd.pinned (.plain (OpenSpec.ofChange fnConstArrayWriteToAppendsAfterPrefixSpec)) fnConstArrayWriteToAppendsAfterPrefixCard

/-- THE SECOND FORM's CARD OF 'n001_53.FnConstArrayWriteToAppendsAfterPrefix'. -/
def fnConstArrayWriteToAppendsAfterPrefixUptoCard : Claim7 := { stood := { row := fnConstArrayWriteToAppendsAfterPrefixUptoRow, standIns := [], harness := (true, "88a8119638ba0f2474d3d2c27378cd4a2f2e50efe5c78e205e9db441f0c14efd"), looks := false }, kinds := [], alts := [], laidByText := true, laidKinds := [.data, .pinned], laidTests := true, laidLooks := .later }
def FnConstArrayWriteToAppendsAfterPrefixUptoCardSaid : Prop := Claim7.holds Tryd.pinned (.plain (OpenSpec.upto fnConstArrayWriteToAppendsAfterPrefixSpec)) fnConstArrayWriteToAppendsAfterPrefixUptoCard
end Rows
end Go.Proofs.YtkhllkahfghmdaaDoor
