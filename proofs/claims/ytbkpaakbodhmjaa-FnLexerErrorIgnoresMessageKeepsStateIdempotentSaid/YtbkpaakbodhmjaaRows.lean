/-
  No cell of these rows narrows 'for every input' (looked for: loops, veiled, ifaces, maps, wideKeys, modest, calm, conditions, laid).
  DERIVED. THE GIVEN ROWS OF THIS SEAT. 7 by the template 'for every input the law returns true; each argument reads behind the call as it read before'; 0 by the template 'total and deterministic' (their statements: YtbkpaakbodhmjaaTotals.lean).
  GIVEN WITH THE SEED: the statements are not yours to turn. If you find one false, say at which input.
  Laid BY PROGRAM, IN A SANDBOX (cutbox-rows.mjs): the forced cells as the released guide's own fill.sh prints them over the translation cc19e2c3855300cf… (all of the seat's roots in one cut). By AI agents, Wed Nov 11 2026. No macro, syntax, notation, axiom, sorry.
-/
import Derived.Test.YtbkpaakbodhmjaaChecked
import GoSem.Claim
import GoSem.ClaimJoined
import GoSem.ClaimMapViews
import Derived.JoinedTies
import Derived.KernelRfl
namespace Go.Proofs.Ytbkpaakbodhmjaa
/- THE CELL 'sum', in the pinned program and in every row, IS THE sha256 OF THE DUMP (.gsa) THAT YtbkpaakbodhmjaaProg.lean LOADS. Nothing in Lean hashes anything: it is a label: what it is worth is what the hold of that sum in a sandbox is worth. -/
noncomputable def Try.pinned : Pinned := { name := "ytbkpaakbodhmjaa", sum := "cc19e2c3855300cf2bb76d0bd3dc9b3faeb61370bc340fa1be4fa5bb6649e0ab", checked := Try.checked }
namespace Rows
def none {H : Type} : Left H := { results := [], args := [] }

/-- 'n001_43.FnIsHexExactlyHexDigits': WHATEVER THE INPUT: true; the input reads as it did. -/
def fnIsHexExactlyHexDigitsSpec : ChangeSpec := { name := "fnIsHexExactlyHexDigits", fn := fun _ => fun
  | [d] => { results := [.lit (.bool true)], args := [d] }
  | _ => none }
def fnIsHexExactlyHexDigitsRow : OpenClaim := { program := "ytbkpaakbodhmjaa", sum := "cc19e2c3855300cf2bb76d0bd3dc9b3faeb61370bc340fa1be4fa5bb6649e0ab", func := "github.com/itchyny/gojq/n001_43.FnIsHexExactlyHexDigits", spec := "fnIsHexExactlyHexDigits", apart := false }
def FnIsHexExactlyHexDigitsSaid : Prop := fnIsHexExactlyHexDigitsRow.holds Try.pinned (OpenSpec.ofChange fnIsHexExactlyHexDigitsSpec)

/-- ITS FALSE NEIGHBOUR: 'it returns false'. Refute it at one input. -/
def fnIsHexExactlyHexDigitsWrong : ChangeSpec := { name := "fnIsHexExactlyHexDigits", fn := fun _ => fun
  | [d] => { results := [.lit (.bool false)], args := [d] }
  | _ => none }
def FnIsHexExactlyHexDigitsWrongFalsely : Prop := fnIsHexExactlyHexDigitsRow.holds Try.pinned (OpenSpec.ofChange fnIsHexExactlyHexDigitsWrong)

/-- 'n001_43.FnIsNumberExactlyDecimalDigits': WHATEVER THE INPUT: true; the input reads as it did. -/
def fnIsNumberExactlyDecimalDigitsSpec : ChangeSpec := { name := "fnIsNumberExactlyDecimalDigits", fn := fun _ => fun
  | [d] => { results := [.lit (.bool true)], args := [d] }
  | _ => none }
def fnIsNumberExactlyDecimalDigitsRow : OpenClaim := { program := "ytbkpaakbodhmjaa", sum := "cc19e2c3855300cf2bb76d0bd3dc9b3faeb61370bc340fa1be4fa5bb6649e0ab", func := "github.com/itchyny/gojq/n001_43.FnIsNumberExactlyDecimalDigits", spec := "fnIsNumberExactlyDecimalDigits", apart := false }
def FnIsNumberExactlyDecimalDigitsSaid : Prop := fnIsNumberExactlyDecimalDigitsRow.holds Try.pinned (OpenSpec.ofChange fnIsNumberExactlyDecimalDigitsSpec)

/-- ITS FALSE NEIGHBOUR: 'it returns false'. Refute it at one input. -/
def fnIsNumberExactlyDecimalDigitsWrong : ChangeSpec := { name := "fnIsNumberExactlyDecimalDigits", fn := fun _ => fun
  | [d] => { results := [.lit (.bool false)], args := [d] }
  | _ => none }
def FnIsNumberExactlyDecimalDigitsWrongFalsely : Prop := fnIsNumberExactlyDecimalDigitsRow.holds Try.pinned (OpenSpec.ofChange fnIsNumberExactlyDecimalDigitsWrong)

/-- 'n001_43.FnIsNumberIsHexThatCannotOpenIdent': WHATEVER THE INPUT: true; the input reads as it did. -/
def fnIsNumberIsHexThatCannotOpenIdentSpec : ChangeSpec := { name := "fnIsNumberIsHexThatCannotOpenIdent", fn := fun _ => fun
  | [d] => { results := [.lit (.bool true)], args := [d] }
  | _ => none }
def fnIsNumberIsHexThatCannotOpenIdentRow : OpenClaim := { program := "ytbkpaakbodhmjaa", sum := "cc19e2c3855300cf2bb76d0bd3dc9b3faeb61370bc340fa1be4fa5bb6649e0ab", func := "github.com/itchyny/gojq/n001_43.FnIsNumberIsHexThatCannotOpenIdent", spec := "fnIsNumberIsHexThatCannotOpenIdent", apart := false }
def FnIsNumberIsHexThatCannotOpenIdentSaid : Prop := fnIsNumberIsHexThatCannotOpenIdentRow.holds Try.pinned (OpenSpec.ofChange fnIsNumberIsHexThatCannotOpenIdentSpec)

/-- ITS FALSE NEIGHBOUR: 'it returns false'. Refute it at one input. -/
def fnIsNumberIsHexThatCannotOpenIdentWrong : ChangeSpec := { name := "fnIsNumberIsHexThatCannotOpenIdent", fn := fun _ => fun
  | [d] => { results := [.lit (.bool false)], args := [d] }
  | _ => none }
def FnIsNumberIsHexThatCannotOpenIdentWrongFalsely : Prop := fnIsNumberIsHexThatCannotOpenIdentRow.holds Try.pinned (OpenSpec.ofChange fnIsNumberIsHexThatCannotOpenIdentWrong)

/-- 'n001_43.FnIsIdentExactTable': WHATEVER THE INPUT: true; the input reads as it did. -/
def fnIsIdentExactTableSpec : ChangeSpec := { name := "fnIsIdentExactTable", fn := fun _ => fun
  | [d1, d2] => { results := [.lit (.bool true)], args := [d1, d2] }
  | _ => none }
def fnIsIdentExactTableRow : OpenClaim := { program := "ytbkpaakbodhmjaa", sum := "cc19e2c3855300cf2bb76d0bd3dc9b3faeb61370bc340fa1be4fa5bb6649e0ab", func := "github.com/itchyny/gojq/n001_43.FnIsIdentExactTable", spec := "fnIsIdentExactTable", apart := false }
def FnIsIdentExactTableSaid : Prop := fnIsIdentExactTableRow.holds Try.pinned (OpenSpec.ofChange fnIsIdentExactTableSpec)

/-- ITS FALSE NEIGHBOUR: 'it returns false'. Refute it at one input. -/
def fnIsIdentExactTableWrong : ChangeSpec := { name := "fnIsIdentExactTable", fn := fun _ => fun
  | [d1, d2] => { results := [.lit (.bool false)], args := [d1, d2] }
  | _ => none }
def FnIsIdentExactTableWrongFalsely : Prop := fnIsIdentExactTableRow.holds Try.pinned (OpenSpec.ofChange fnIsIdentExactTableWrong)

/-- 'n001_43.FnIsHexCaseInsensitiveAndASCII': WHATEVER THE INPUT: true; the input reads as it did. -/
def fnIsHexCaseInsensitiveAndASCIISpec : ChangeSpec := { name := "fnIsHexCaseInsensitiveAndASCII", fn := fun _ => fun
  | [d] => { results := [.lit (.bool true)], args := [d] }
  | _ => none }
def fnIsHexCaseInsensitiveAndASCIIRow : OpenClaim := { program := "ytbkpaakbodhmjaa", sum := "cc19e2c3855300cf2bb76d0bd3dc9b3faeb61370bc340fa1be4fa5bb6649e0ab", func := "github.com/itchyny/gojq/n001_43.FnIsHexCaseInsensitiveAndASCII", spec := "fnIsHexCaseInsensitiveAndASCII", apart := false }
def FnIsHexCaseInsensitiveAndASCIISaid : Prop := fnIsHexCaseInsensitiveAndASCIIRow.holds Try.pinned (OpenSpec.ofChange fnIsHexCaseInsensitiveAndASCIISpec)

/-- ITS FALSE NEIGHBOUR: 'it returns false'. Refute it at one input. -/
def fnIsHexCaseInsensitiveAndASCIIWrong : ChangeSpec := { name := "fnIsHexCaseInsensitiveAndASCII", fn := fun _ => fun
  | [d] => { results := [.lit (.bool false)], args := [d] }
  | _ => none }
def FnIsHexCaseInsensitiveAndASCIIWrongFalsely : Prop := fnIsHexCaseInsensitiveAndASCIIRow.holds Try.pinned (OpenSpec.ofChange fnIsHexCaseInsensitiveAndASCIIWrong)

/-- 'n001_43.FnIsIdentCaseInsensitiveMonotoneASCII': WHATEVER THE INPUT: true; the input reads as it did. -/
def fnIsIdentCaseInsensitiveMonotoneASCIISpec : ChangeSpec := { name := "fnIsIdentCaseInsensitiveMonotoneASCII", fn := fun _ => fun
  | [d1, d2] => { results := [.lit (.bool true)], args := [d1, d2] }
  | _ => none }
def fnIsIdentCaseInsensitiveMonotoneASCIIRow : OpenClaim := { program := "ytbkpaakbodhmjaa", sum := "cc19e2c3855300cf2bb76d0bd3dc9b3faeb61370bc340fa1be4fa5bb6649e0ab", func := "github.com/itchyny/gojq/n001_43.FnIsIdentCaseInsensitiveMonotoneASCII", spec := "fnIsIdentCaseInsensitiveMonotoneASCII", apart := false }
def FnIsIdentCaseInsensitiveMonotoneASCIISaid : Prop := fnIsIdentCaseInsensitiveMonotoneASCIIRow.holds Try.pinned (OpenSpec.ofChange fnIsIdentCaseInsensitiveMonotoneASCIISpec)

/-- ITS FALSE NEIGHBOUR: 'it returns false'. Refute it at one input. -/
def fnIsIdentCaseInsensitiveMonotoneASCIIWrong : ChangeSpec := { name := "fnIsIdentCaseInsensitiveMonotoneASCII", fn := fun _ => fun
  | [d1, d2] => { results := [.lit (.bool false)], args := [d1, d2] }
  | _ => none }
def FnIsIdentCaseInsensitiveMonotoneASCIIWrongFalsely : Prop := fnIsIdentCaseInsensitiveMonotoneASCIIRow.holds Try.pinned (OpenSpec.ofChange fnIsIdentCaseInsensitiveMonotoneASCIIWrong)

/-- 'n001_43.FnLexerErrorIgnoresMessageKeepsStateIdempotent': WHATEVER THE INPUT: true; the input reads as it did. -/
def fnLexerErrorIgnoresMessageKeepsStateIdempotentSpec : ChangeSpec := { name := "fnLexerErrorIgnoresMessageKeepsStateIdempotent", fn := fun _ => fun
  | [d1, d2, d3, d4, d5, d6] => { results := [.lit (.bool true)], args := [d1, d2, d3, d4, d5, d6] }
  | _ => none }
def fnLexerErrorIgnoresMessageKeepsStateIdempotentRow : OpenClaim := { program := "ytbkpaakbodhmjaa", sum := "cc19e2c3855300cf2bb76d0bd3dc9b3faeb61370bc340fa1be4fa5bb6649e0ab", func := "github.com/itchyny/gojq/n001_43.FnLexerErrorIgnoresMessageKeepsStateIdempotent", spec := "fnLexerErrorIgnoresMessageKeepsStateIdempotent", apart := false }
def FnLexerErrorIgnoresMessageKeepsStateIdempotentSaid : Prop := fnLexerErrorIgnoresMessageKeepsStateIdempotentRow.holds Try.pinned (OpenSpec.ofChange fnLexerErrorIgnoresMessageKeepsStateIdempotentSpec)

/-- ITS FALSE NEIGHBOUR: 'it returns false'. Refute it at one input. -/
def fnLexerErrorIgnoresMessageKeepsStateIdempotentWrong : ChangeSpec := { name := "fnLexerErrorIgnoresMessageKeepsStateIdempotent", fn := fun _ => fun
  | [d1, d2, d3, d4, d5, d6] => { results := [.lit (.bool false)], args := [d1, d2, d3, d4, d5, d6] }
  | _ => none }
def FnLexerErrorIgnoresMessageKeepsStateIdempotentWrongFalsely : Prop := fnLexerErrorIgnoresMessageKeepsStateIdempotentRow.holds Try.pinned (OpenSpec.ofChange fnLexerErrorIgnoresMessageKeepsStateIdempotentWrong)

/- THE SECOND FORM. 'bulk': how many values and letters a reading holds, each counted each time it is reached (what is shared counts as often as it is met; a slice's spare places count too). A statement '..UptoSaid' is the law's where the arguments, and the package variables that the reading takes, are together of bulk at most 1048576: NARROWER than '..Said'. Prove '..Said' where nothing that the law and all that it calls make is longer than what came in: it says more and counts as full. Else prove '..UptoSaid'. A law counts once. -/
mutual
def uptoBulk {H : Type} : DataW H → Nat
  | .lit (.string bytes) => bytes.length + 1
  | .lit _ => 1
  | .nil => 1
  | .ptr d => uptoBulk d + 1
  | .slice elems spare => uptoBulkAll elems + uptoBulkAll spare + 1
  | .agg parts => uptoBulkAll parts + 1
  | .iface _ d => uptoBulk d + 1
  | .map entries => uptoBulkEntries entries + 1
  | .held _ => 1
def uptoBulkAll {H : Type} : List (DataW H) → Nat
  | [] => 0
  | d :: r => uptoBulk d + uptoBulkAll r
def uptoBulkEntries {H : Type} : List (Lit × DataW H) → Nat
  | [] => 0
  | x :: r => uptoBulkEntry x + uptoBulkEntries r
def uptoBulkEntry {H : Type} : Lit × DataW H → Nat
  | (.string bytes, d) => bytes.length + uptoBulk d + 1
  | (_, d) => uptoBulk d + 1
 end
def uptoSmall : (H : Type) → List (DataW H) → Bool := fun _ ds => decide (uptoBulkAll ds ≤ 1048576)
def OpenSpec.upto (s : _root_.Go.ChangeSpec) : _root_.Go.OpenSpec := { _root_.Go.OpenSpec.ofChange s with cond := some uptoSmall }

/-- 'n001_43.FnIsHexExactlyHexDigits', WHERE WHAT IT READS IS OF BULK AT MOST 1048576: true; the input reads as it did. -/
def fnIsHexExactlyHexDigitsUptoRow : OpenClaim := { program := "ytbkpaakbodhmjaa", sum := "cc19e2c3855300cf2bb76d0bd3dc9b3faeb61370bc340fa1be4fa5bb6649e0ab", func := "github.com/itchyny/gojq/n001_43.FnIsHexExactlyHexDigits", spec := "fnIsHexExactlyHexDigits", apart := false, narrowed := true }
def FnIsHexExactlyHexDigitsUptoSaid : Prop := fnIsHexExactlyHexDigitsUptoRow.holds Try.pinned (OpenSpec.upto fnIsHexExactlyHexDigitsSpec)

/-- 'n001_43.FnIsNumberExactlyDecimalDigits', WHERE WHAT IT READS IS OF BULK AT MOST 1048576: true; the input reads as it did. -/
def fnIsNumberExactlyDecimalDigitsUptoRow : OpenClaim := { program := "ytbkpaakbodhmjaa", sum := "cc19e2c3855300cf2bb76d0bd3dc9b3faeb61370bc340fa1be4fa5bb6649e0ab", func := "github.com/itchyny/gojq/n001_43.FnIsNumberExactlyDecimalDigits", spec := "fnIsNumberExactlyDecimalDigits", apart := false, narrowed := true }
def FnIsNumberExactlyDecimalDigitsUptoSaid : Prop := fnIsNumberExactlyDecimalDigitsUptoRow.holds Try.pinned (OpenSpec.upto fnIsNumberExactlyDecimalDigitsSpec)

/-- 'n001_43.FnIsNumberIsHexThatCannotOpenIdent', WHERE WHAT IT READS IS OF BULK AT MOST 1048576: true; the input reads as it did. -/
def fnIsNumberIsHexThatCannotOpenIdentUptoRow : OpenClaim := { program := "ytbkpaakbodhmjaa", sum := "cc19e2c3855300cf2bb76d0bd3dc9b3faeb61370bc340fa1be4fa5bb6649e0ab", func := "github.com/itchyny/gojq/n001_43.FnIsNumberIsHexThatCannotOpenIdent", spec := "fnIsNumberIsHexThatCannotOpenIdent", apart := false, narrowed := true }
def FnIsNumberIsHexThatCannotOpenIdentUptoSaid : Prop := fnIsNumberIsHexThatCannotOpenIdentUptoRow.holds Try.pinned (OpenSpec.upto fnIsNumberIsHexThatCannotOpenIdentSpec)

/-- 'n001_43.FnIsIdentExactTable', WHERE WHAT IT READS IS OF BULK AT MOST 1048576: true; the input reads as it did. -/
def fnIsIdentExactTableUptoRow : OpenClaim := { program := "ytbkpaakbodhmjaa", sum := "cc19e2c3855300cf2bb76d0bd3dc9b3faeb61370bc340fa1be4fa5bb6649e0ab", func := "github.com/itchyny/gojq/n001_43.FnIsIdentExactTable", spec := "fnIsIdentExactTable", apart := false, narrowed := true }
def FnIsIdentExactTableUptoSaid : Prop := fnIsIdentExactTableUptoRow.holds Try.pinned (OpenSpec.upto fnIsIdentExactTableSpec)

/-- 'n001_43.FnIsHexCaseInsensitiveAndASCII', WHERE WHAT IT READS IS OF BULK AT MOST 1048576: true; the input reads as it did. -/
def fnIsHexCaseInsensitiveAndASCIIUptoRow : OpenClaim := { program := "ytbkpaakbodhmjaa", sum := "cc19e2c3855300cf2bb76d0bd3dc9b3faeb61370bc340fa1be4fa5bb6649e0ab", func := "github.com/itchyny/gojq/n001_43.FnIsHexCaseInsensitiveAndASCII", spec := "fnIsHexCaseInsensitiveAndASCII", apart := false, narrowed := true }
def FnIsHexCaseInsensitiveAndASCIIUptoSaid : Prop := fnIsHexCaseInsensitiveAndASCIIUptoRow.holds Try.pinned (OpenSpec.upto fnIsHexCaseInsensitiveAndASCIISpec)

/-- 'n001_43.FnIsIdentCaseInsensitiveMonotoneASCII', WHERE WHAT IT READS IS OF BULK AT MOST 1048576: true; the input reads as it did. -/
def fnIsIdentCaseInsensitiveMonotoneASCIIUptoRow : OpenClaim := { program := "ytbkpaakbodhmjaa", sum := "cc19e2c3855300cf2bb76d0bd3dc9b3faeb61370bc340fa1be4fa5bb6649e0ab", func := "github.com/itchyny/gojq/n001_43.FnIsIdentCaseInsensitiveMonotoneASCII", spec := "fnIsIdentCaseInsensitiveMonotoneASCII", apart := false, narrowed := true }
def FnIsIdentCaseInsensitiveMonotoneASCIIUptoSaid : Prop := fnIsIdentCaseInsensitiveMonotoneASCIIUptoRow.holds Try.pinned (OpenSpec.upto fnIsIdentCaseInsensitiveMonotoneASCIISpec)

/-- 'n001_43.FnLexerErrorIgnoresMessageKeepsStateIdempotent', WHERE WHAT IT READS IS OF BULK AT MOST 1048576: true; the input reads as it did. -/
def fnLexerErrorIgnoresMessageKeepsStateIdempotentUptoRow : OpenClaim := { program := "ytbkpaakbodhmjaa", sum := "cc19e2c3855300cf2bb76d0bd3dc9b3faeb61370bc340fa1be4fa5bb6649e0ab", func := "github.com/itchyny/gojq/n001_43.FnLexerErrorIgnoresMessageKeepsStateIdempotent", spec := "fnLexerErrorIgnoresMessageKeepsStateIdempotent", apart := false, narrowed := true }
def FnLexerErrorIgnoresMessageKeepsStateIdempotentUptoSaid : Prop := fnLexerErrorIgnoresMessageKeepsStateIdempotentUptoRow.holds Try.pinned (OpenSpec.upto fnLexerErrorIgnoresMessageKeepsStateIdempotentSpec)

end Rows
end Go.Proofs.Ytbkpaakbodhmjaa
