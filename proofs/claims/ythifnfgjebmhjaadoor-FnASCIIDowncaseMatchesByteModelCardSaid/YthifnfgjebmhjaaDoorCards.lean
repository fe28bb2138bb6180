/-
  DERIVED. GIVEN WITH THE SEED: THE CARDS: each row of YthifnfgjebmhjaaDoorRows.lean that lists a variable, with what it lists TIED to the program's text (the seventh form; the later family's looks); each row that meets fmt, with fmt's text TOLD by the authors' own Lean function (tested against real Go, not proved from fmt's source: count such statements apart). THE CARD IS WHAT COUNTS. Prove the row's statement (the work); the ties are given (YthifnfgjebmhjaaDoorTie.lean); close each card by the builder's one call (the guide's Derived/Test/ToyasCard.lean, 'card_holds'). Laid BY PROGRAM, IN A SANDBOX (cutbox-door.mjs). By AI agents, Wed Nov 11 2026. No macro, syntax, notation, axiom, sorry.
-/
import Derived.Test.YthifnfgjebmhjaaDoorRows
import GoSem.ClaimSeven
namespace Go.Proofs.YthifnfgjebmhjaaDoor
namespace Rows

/-- THE TIED CARD OF 'n001_40.FnASCIIDowncaseIdempotentAndAbsorbsUpcase'. -/
def fnASCIIDowncaseIdempotentAndAbsorbsUpcaseCard : Claim7 := { stood := { row := fnASCIIDowncaseIdempotentAndAbsorbsUpcaseRow, standIns := [], harness := (true, "69f906023d701dad61f53040cd3158c856954c105998555bd5e40b035fa0c7a8"), looks := true }, kinds := [], alts := [], laidByText := true, laidKinds := [.data, .pinned], laidTests := true, laidLooks := .later }
def FnASCIIDowncaseIdempotentAndAbsorbsUpcaseCardSaid : Prop := Claim7.holds Tryd.pinned (.plain (OpenSpec.ofChange fnASCIIDowncaseIdempotentAndAbsorbsUpcaseSpec)) fnASCIIDowncaseIdempotentAndAbsorbsUpcaseCard

/-- THE TIED CARD OF 'n001_40.FnASCIIDowncaseMatchesByteModel'. -/
def fnASCIIDowncaseMatchesByteModelCard : Claim7 := { stood := { row := fnASCIIDowncaseMatchesByteModelRow, standIns := [], harness := (true, "69f906023d701dad61f53040cd3158c856954c105998555bd5e40b035fa0c7a8"), looks := true }, kinds := [], alts := [], laidByText := true, laidKinds := [.data, .pinned], laidTests := true, laidLooks := .later }
def FnASCIIDowncaseMatchesByteModelCardSaid : Prop := Claim7.holds Tryd.pinned (.plain (OpenSpec.ofChange fnASCIIDowncaseMatchesByteModelSpec)) fnASCIIDowncaseMatchesByteModelCard

/-- THE SECOND FORM's CARD OF 'n001_40.FnASCIIDowncaseIdempotentAndAbsorbsUpcase'. -/
def fnASCIIDowncaseIdempotentAndAbsorbsUpcaseUptoCard : Claim7 := { stood := { row := fnASCIIDowncaseIdempotentAndAbsorbsUpcaseUptoRow, standIns := [], harness := (true, "69f906023d701dad61f53040cd3158c856954c105998555bd5e40b035fa0c7a8"), looks := true }, kinds := [], alts := [], laidByText := true, laidKinds := [.data, .pinned], laidTests := true, laidLooks := .later }
def FnASCIIDowncaseIdempotentAndAbsorbsUpcaseUptoCardSaid : Prop := Claim7.holds Tryd.pinned (.plain (OpenSpec.upto fnASCIIDowncaseIdempotentAndAbsorbsUpcaseSpec)) fnASCIIDowncaseIdempotentAndAbsorbsUpcaseUptoCard

/-- THE SECOND FORM's CARD OF 'n001_40.FnASCIIDowncaseMatchesByteModel'. -/
def fnASCIIDowncaseMatchesByteModelUptoCard : Claim7 := { stood := { row := fnASCIIDowncaseMatchesByteModelUptoRow, standIns := [], harness := (true, "69f906023d701dad61f53040cd3158c856954c105998555bd5e40b035fa0c7a8"), looks := true }, kinds := [], alts := [], laidByText := true, laidKinds := [.data, .pinned], laidTests := true, laidLooks := .later }
def FnASCIIDowncaseMatchesByteModelUptoCardSaid : Prop := Claim7.holds Tryd.pinned (.plain (OpenSpec.upto fnASCIIDowncaseMatchesByteModelSpec)) fnASCIIDowncaseMatchesByteModelUptoCard
end Rows
end Go.Proofs.YthifnfgjebmhjaaDoor
