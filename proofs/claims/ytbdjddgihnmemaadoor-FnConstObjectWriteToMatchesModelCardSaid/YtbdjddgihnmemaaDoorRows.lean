/-
  NARROWER THAN 'FOR EVERY INPUT', by the rows' own cells (each row's printed sentence says how): FnConstObjectStringMatchesModel: laid · FnConstTermToStringIffPrintedAsString: laid · FnConstObjectWriteToAppendsItsString: laid · FnConstObjectWriteToMatchesModel: laid · FnConstObjectStringConcat: laid.
  DERIVED. THE GIVEN ROWS OF THIS SEAT. 5 by the template 'for every input the law returns true; each argument reads behind the call as it read before'; 0 by the template 'total and deterministic' (their statements: YtbdjddgihnmemaaDoorTotals.lean).
  GIVEN WITH THE SEED: the statements are not yours to turn. If you find one false, say at which input.
  Laid BY PROGRAM, IN A SANDBOX (cutbox-rows.mjs): the forced cells as the released guide's own fill.sh prints them over the translation 34315fd2abcd2a30… (all of the seat's roots in one cut). By AI agents, Wed Nov 11 2026. No macro, syntax, notation, axiom, sorry.
-/
import Derived.Test.YtbdjddgihnmemaaDoorChecked
import GoSem.PinnedTables
import GoSem.Claim
import GoSem.ClaimJoined
import GoSem.ClaimMapViews
import Derived.JoinedTies
import Derived.KernelRfl
namespace Go.Proofs.YtbdjddgihnmemaaDoor
/- THE CELL 'sum', in the pinned program and in every row, IS THE sha256 OF THE DUMP (.gsa) THAT YtbdjddgihnmemaaDoorProg.lean LOADS. Nothing in Lean hashes anything: it is a label: what it is worth is what the hold of that sum in a sandbox is worth. -/
noncomputable def Tryd.pinned : Pinned := { name := "ytbdjddgihnmemaadoor", sum := "34315fd2abcd2a30ca3c25472ea2ca3e68166e4308527e788a68284653bfdc8f", checked := Tryd.checked }
namespace Rows
def none {H : Type} : Left H := { results := [], args := [] }

/- WHAT THE LISTED PACKAGE-LEVEL VARIABLES READ AS WHEN THE CALL BEGINS. Each datum BY PROGRAM (the guide's laid-datum.mjs) off the statement by which the dump's own 'gosem.cut.vars' lays the variable. In a bare row this is a premise. The card (YtbdjddgihnmemaaDoorCards.lean) ties it to the program's text. -/
def laid_unicode_utf8_acceptRanges {H : Type} : DataW H := .agg [.agg [.lit (.int .u8 128), .lit (.int .u8 191)], .agg [.lit (.int .u8 160), .lit (.int .u8 191)], .agg [.lit (.int .u8 128), .lit (.int .u8 159)], .agg [.lit (.int .u8 144), .lit (.int .u8 191)], .agg [.lit (.int .u8 128), .lit (.int .u8 143)], .agg [.lit (.int .u8 0), .lit (.int .u8 0)], .agg [.lit (.int .u8 0), .lit (.int .u8 0)], .agg [.lit (.int .u8 0), .lit (.int .u8 0)], .agg [.lit (.int .u8 0), .lit (.int .u8 0)], .agg [.lit (.int .u8 0), .lit (.int .u8 0)], .agg [.lit (.int .u8 0), .lit (.int .u8 0)], .agg [.lit (.int .u8 0), .lit (.int .u8 0)], .agg [.lit (.int .u8 0), .lit (.int .u8 0)], .agg [.lit (.int .u8 0), .lit (.int .u8 0)], .agg [.lit (.int .u8 0), .lit (.int .u8 0)], .agg [.lit (.int .u8 0), .lit (.int .u8 0)]]
/-- One of Go's own tables, pinned by name: the form's constant. -/
def laid_unicode_utf8_first : DataW Unit := Go.Pinned.utf8First

/-- 'n001_41.FnConstObjectStringMatchesModel': WHATEVER THE INPUT: true; the input reads as it did. -/
def fnConstObjectStringMatchesModelSpec : ChangeSpec := { name := "fnConstObjectStringMatchesModel", fn := fun _ => fun
  | [d1, d2, d3] => { results := [.lit (.bool true)], args := [d1, d2, d3] }
  | _ => none }
def fnConstObjectStringMatchesModelRow : OpenClaim := { program := "ytbdjddgihnmemaadoor", sum := "34315fd2abcd2a30ca3c25472ea2ca3e68166e4308527e788a68284653bfdc8f", func := "github.com/itchyny/gojq/n001_41.FnConstObjectStringMatchesModel", spec := "fnConstObjectStringMatchesModel", inPlace := ["internal/abi.NoEscape"], unfollowed := true, recurses := true, named := ["unicode/utf8.first", "unicode/utf8.acceptRanges"], apart := false, laid := [("unicode/utf8.acceptRanges", laid_unicode_utf8_acceptRanges), ("unicode/utf8.first", laid_unicode_utf8_first)] }
def FnConstObjectStringMatchesModelSaid : Prop := fnConstObjectStringMatchesModelRow.holds Tryd.pinned (OpenSpec.ofChange fnConstObjectStringMatchesModelSpec)

/-- ITS FALSE NEIGHBOUR: 'it returns false'. Refute it at one input. -/
def fnConstObjectStringMatchesModelWrong : ChangeSpec := { name := "fnConstObjectStringMatchesModel", fn := fun _ => fun
  | [d1, d2, d3] => { results := [.lit (.bool false)], args := [d1, d2, d3] }
  | _ => none }
def FnConstObjectStringMatchesModelWrongFalsely : Prop := fnConstObjectStringMatchesModelRow.holds Tryd.pinned (OpenSpec.ofChange fnConstObjectStringMatchesModelWrong)

/-- 'n001_41.FnConstTermToStringIffPrintedAsString': WHATEVER THE INPUT: true; the input reads as it did. -/
def fnConstTermToStringIffPrintedAsStringSpec : ChangeSpec := { name := "fnConstTermToStringIffPrintedAsString", fn := fun _ => fun
  | [d1, d2, d3, d4, d5, d6, d7, d8] => { results := [.lit (.bool true)], args := [d1, d2, d3, d4, d5, d6, d7, d8] }
  | _ => none }
def fnConstTermToStringIffPrintedAsStringRow : OpenClaim := { program := "ytbdjddgihnmemaadoor", sum := "34315fd2abcd2a30ca3c25472ea2ca3e68166e4308527e788a68284653bfdc8f", func := "github.com/itchyny/gojq/n001_41.FnConstTermToStringIffPrintedAsString", spec := "fnConstTermToStringIffPrintedAsString", inPlace := ["internal/abi.NoEscape"], unfollowed := true, recurses := true, named := ["unicode/utf8.first", "unicode/utf8.acceptRanges"], apart := false, laid := [("unicode/utf8.acceptRanges", laid_unicode_utf8_acceptRanges), ("unicode/utf8.first", laid_unicode_utf8_first)] }
def FnConstTermToStringIffPrintedAsStringSaid : Prop := fnConstTermToStringIffPrintedAsStringRow.holds Tryd.pinned (OpenSpec.ofChange fnConstTermToStringIffPrintedAsStringSpec)

/-- ITS FALSE NEIGHBOUR: 'it returns false'. Refute it at one input. -/
def fnConstTermToStringIffPrintedAsStringWrong : ChangeSpec := { name := "fnConstTermToStringIffPrintedAsString", fn := fun _ => fun
  | [d1, d2, d3, d4, d5, d6, d7, d8] => { results := [.lit (.bool false)], args := [d1, d2, d3, d4, d5, d6, d7, d8] }
  | _ => none }
def FnConstTermToStringIffPrintedAsStringWrongFalsely : Prop := fnConstTermToStringIffPrintedAsStringRow.holds Tryd.pinned (OpenSpec.ofChange fnConstTermToStringIffPrintedAsStringWrong)

/-- 'n001_41.FnConstObjectWriteToAppendsItsString': WHATEVER THE INPUT: true; the input reads as it did. -/
def fnConstObjectWriteToAppendsItsStringSpec : ChangeSpec := { name := "fnConstObjectWriteToAppendsItsString", fn := fun _ => fun
  | [d1, d2, d3] => { results := [.lit (.bool true)], args := [d1, d2, d3] }
  | _ => none }
def fnConstObjectWriteToAppendsItsStringRow : OpenClaim := { program := "ytbdjddgihnmemaadoor", sum := "34315fd2abcd2a30ca3c25472ea2ca3e68166e4308527e788a68284653bfdc8f", func := "github.com/itchyny/gojq/n001_41.FnConstObjectWriteToAppendsItsString", spec := "fnConstObjectWriteToAppendsItsString", inPlace := ["internal/abi.NoEscape"], unfollowed := true, recurses := true, named := ["unicode/utf8.first", "unicode/utf8.acceptRanges"], apart := false, laid := [("unicode/utf8.acceptRanges", laid_unicode_utf8_acceptRanges), ("unicode/utf8.first", laid_unicode_utf8_first)] }
def FnConstObjectWriteToAppendsItsStringSaid : Prop := fnConstObjectWriteToAppendsItsStringRow.holds Tryd.pinned (OpenSpec.ofChange fnConstObjectWriteToAppendsItsStringSpec)

/-- ITS FALSE NEIGHBOUR: 'it returns false'. Refute it at one input. -/
def fnConstObjectWriteToAppendsItsStringWrong : ChangeSpec := { name := "fnConstObjectWriteToAppendsItsString", fn := fun _ => fun
  | [d1, d2, d3] => { results := [.lit (.bool false)], args := [d1, d2, d3] }
  | _ => none }
def FnConstObjectWriteToAppendsItsStringWrongFalsely : Prop := fnConstObjectWriteToAppendsItsStringRow.holds Tryd.pinned (OpenSpec.ofChange fnConstObjectWriteToAppendsItsStringWrong)

/-- 'n001_41.FnConstObjectWriteToMatchesModel': WHATEVER THE INPUT: true; the input reads as it did. -/
def fnConstObjectWriteToMatchesModelSpec : ChangeSpec := { name := "fnConstObjectWriteToMatchesModel", fn := fun _ => fun
  | [d1, d2, d3, d4] => { results := [.lit (.bool true)], args := [d1, d2, d3, d4] }
  | _ => none }
def fnConstObjectWriteToMatchesModelRow : OpenClaim := { program := "ytbdjddgihnmemaadoor", sum := "34315fd2abcd2a30ca3c25472ea2ca3e68166e4308527e788a68284653bfdc8f", func := "github.com/itchyny/gojq/n001_41.FnConstObjectWriteToMatchesModel", spec := "fnConstObjectWriteToMatchesModel", inPlace := ["internal/abi.NoEscape"], unfollowed := true, recurses := true, named := ["unicode/utf8.first", "unicode/utf8.acceptRanges"], apart := false, laid := [("unicode/utf8.acceptRanges", laid_unicode_utf8_acceptRanges), ("unicode/utf8.first", laid_unicode_utf8_first)] }
def FnConstObjectWriteToMatchesModelSaid : Prop := fnConstObjectWriteToMatchesModelRow.holds Tryd.pinned (OpenSpec.ofChange fnConstObjectWriteToMatchesModelSpec)

/-- ITS FALSE NEIGHBOUR: 'it returns false'. Refute it at one input. -/
def fnConstObjectWriteToMatchesModelWrong : ChangeSpec := { name := "fnConstObjectWriteToMatchesModel", fn := fun _ => fun
  | [d1, d2, d3, d4] => { results := [.lit (.bool false)], args := [d1, d2, d3, d4] }
  | _ => none }
def FnConstObjectWriteToMatchesModelWrongFalsely : Prop := fnConstObjectWriteToMatchesModelRow.holds Tryd.pinned (OpenSpec.ofChange fnConstObjectWriteToMatchesModelWrong)

/-- 'n001_41.FnConstObjectStringConcat': WHATEVER THE INPUT: true; the input reads as it did. -/
def fnConstObjectStringConcatSpec : ChangeSpec := { name := "fnConstObjectStringConcat", fn := fun _ => fun
  | [d1, d2, d3, d4] => { results := [.lit (.bool true)], args := [d1, d2, d3, d4] }
  | _ => none }
def fnConstObjectStringConcatRow : OpenClaim := { program := "ytbdjddgihnmemaadoor", sum := "34315fd2abcd2a30ca3c25472ea2ca3e68166e4308527e788a68284653bfdc8f", func := "github.com/itchyny/gojq/n001_41.FnConstObjectStringConcat", spec := "fnConstObjectStringConcat", inPlace := ["internal/abi.NoEscape"], unfollowed := true, recurses := true, named := ["unicode/utf8.first", "unicode/utf8.acceptRanges"], apart := false, laid := [("unicode/utf8.acceptRanges", laid_unicode_utf8_acceptRanges), ("unicode/utf8.first", laid_unicode_utf8_first)] }
def FnConstObjectStringConcatSaid : Prop := fnConstObjectStringConcatRow.holds Tryd.pinned (OpenSpec.ofChange fnConstObjectStringConcatSpec)

/-- ITS FALSE NEIGHBOUR: 'it returns false'. Refute it at one input. -/
def fnConstObjectStringConcatWrong : ChangeSpec := { name := "fnConstObjectStringConcat", fn := fun _ => fun
  | [d1, d2, d3, d4] => { results := [.lit (.bool false)], args := [d1, d2, d3, d4] }
  | _ => none }
def FnConstObjectStringConcatWrongFalsely : Prop := fnConstObjectStringConcatRow.holds Tryd.pinned (OpenSpec.ofChange fnConstObjectStringConcatWrong)

/- THE SECOND FORM. 'bulk': how many values and letters a reading holds, each counted each time it is reached (what is shared counts as often as it is met; a slice's spare places count too). A statement '..UptoSaid' is the law's where the arguments, and the package variables that the reading takes, are together of bulk at most 1048576: NARROWER than '..Said'. Prove '..Said' where nothing that the law and all that it calls make is longer than what came in: it says more and counts as full. Else prove '..UptoSaid'. A law counts once. -/
mutual
def uptoBulk {H : Type} : DataW H → Nat
  | .lit (.string bytes) => bytes.length + 1
  | .lit _ => 1
  | .nil => 1
  | .ptr d => uptoBulk d + 1
  | .slice elems spare => uptoBulkAll elems + uptoBulkAll spare + 1
  | .agg parts => uptoBulkAll parts + 1
  | .iface _ d => uptoBulk d + 1
  | .map entries => uptoBulkEntries entries + 1
  | .held _ => 1
def uptoBulkAll {H : Type} : List (DataW H) → Nat
  | [] => 0
  | d :: r => uptoBulk d + uptoBulkAll r
def uptoBulkEntries {H : Type} : List (Lit × DataW H) → Nat
  | [] => 0
  | x :: r => uptoBulkEntry x + uptoBulkEntries r
def uptoBulkEntry {H : Type} : Lit × DataW H → Nat
  | (.string bytes, d) => bytes.length + uptoBulk d + 1
  | (_, d) => uptoBulk d + 1
 end
def uptoSmall : (H : Type) → List (DataW H) → Bool := fun _ ds => decide (uptoBulkAll ds ≤ 1048576)
def OpenSpec.upto (s : _root_.Go.ChangeSpec) : _root_.Go.OpenSpec := { _root_.Go.OpenSpec.ofChange s with cond := some uptoSmall }

/-- 'n001_41.FnConstObjectStringMatchesModel', WHERE WHAT IT READS IS OF BULK AT MOST 1048576: true; the input reads as it did. -/
def fnConstObjectStringMatchesModelUptoRow : OpenClaim := { program := "ytbdjddgihnmemaadoor", sum := "34315fd2abcd2a30ca3c25472ea2ca3e68166e4308527e788a68284653bfdc8f", func := "github.com/itchyny/gojq/n001_41.FnConstObjectStringMatchesModel", spec := "fnConstObjectStringMatchesModel", inPlace := ["internal/abi.NoEscape"], unfollowed := true, recurses := true, named := ["unicode/utf8.first", "unicode/utf8.acceptRanges"], apart := false, laid := [("unicode/utf8.acceptRanges", laid_unicode_utf8_acceptRanges), ("unicode/utf8.first", laid_unicode_utf8_first)], narrowed := true }
def FnConstObjectStringMatchesModelUptoSaid : Prop := fnConstObjectStringMatchesModelUptoRow.holds Tryd.pinned (OpenSpec.upto fnConstObjectStringMatchesModelSpec)

/-- 'n001_41.FnConstTermToStringIffPrintedAsString', WHERE WHAT IT READS IS OF BULK AT MOST 1048576: true; the input reads as it did. -/
def fnConstTermToStringIffPrintedAsStringUptoRow : OpenClaim := { program := "ytbdjddgihnmemaadoor", sum := "34315fd2abcd2a30ca3c25472ea2ca3e68166e4308527e788a68284653bfdc8f", func := "github.com/itchyny/gojq/n001_41.FnConstTermToStringIffPrintedAsString", spec := "fnConstTermToStringIffPrintedAsString", inPlace := ["internal/abi.NoEscape"], unfollowed := true, recurses := true, named := ["unicode/utf8.first", "unicode/utf8.acceptRanges"], apart := false, laid := [("unicode/utf8.acceptRanges", laid_unicode_utf8_acceptRanges), ("unicode/utf8.first", laid_unicode_utf8_first)], narrowed := true }
def FnConstTermToStringIffPrintedAsStringUptoSaid : Prop := fnConstTermToStringIffPrintedAsStringUptoRow.holds Tryd.pinned (OpenSpec.upto fnConstTermToStringIffPrintedAsStringSpec)

/-- 'n001_41.FnConstObjectWriteToAppendsItsString', WHERE WHAT IT READS IS OF BULK AT MOST 1048576: true; the input reads as it did. -/
def fnConstObjectWriteToAppendsItsStringUptoRow : OpenClaim := { program := "ytbdjddgihnmemaadoor", sum := "34315fd2abcd2a30ca3c25472ea2ca3e68166e4308527e788a68284653bfdc8f", func := "github.com/itchyny/gojq/n001_41.FnConstObjectWriteToAppendsItsString", spec := "fnConstObjectWriteToAppendsItsString", inPlace := ["internal/abi.NoEscape"], unfollowed := true, recurses := true, named := ["unicode/utf8.first", "unicode/utf8.acceptRanges"], apart := false, laid := [("unicode/utf8.acceptRanges", laid_unicode_utf8_acceptRanges), ("unicode/utf8.first", laid_unicode_utf8_first)], narrowed := true }
def FnConstObjectWriteToAppendsItsStringUptoSaid : Prop := fnConstObjectWriteToAppendsItsStringUptoRow.holds Tryd.pinned (OpenSpec.upto fnConstObjectWriteToAppendsItsStringSpec)

/-- 'n001_41.FnConstObjectWriteToMatchesModel', WHERE WHAT IT READS IS OF BULK AT MOST 1048576: true; the input reads as it did. -/
def fnConstObjectWriteToMatchesModelUptoRow : OpenClaim := { program := "ytbdjddgihnmemaadoor", sum := "34315fd2abcd2a30ca3c25472ea2ca3e68166e4308527e788a68284653bfdc8f", func := "github.com/itchyny/gojq/n001_41.FnConstObjectWriteToMatchesModel", spec := "fnConstObjectWriteToMatchesModel", inPlace := ["internal/abi.NoEscape"], unfollowed := true, recurses := true, named := ["unicode/utf8.first", "unicode/utf8.acceptRanges"], apart := false, laid := [("unicode/utf8.acceptRanges", laid_unicode_utf8_acceptRanges), ("unicode/utf8.first", laid_unicode_utf8_first)], narrowed := true }
def FnConstObjectWriteToMatchesModelUptoSaid : Prop := fnConstObjectWriteToMatchesModelUptoRow.holds Tryd.pinned (OpenSpec.upto fnConstObjectWriteToMatchesModelSpec)

/-- 'n001_41.FnConstObjectStringConcat', WHERE WHAT IT READS IS OF BULK AT MOST 1048576: true; the input reads as it did. -/
def fnConstObjectStringConcatUptoRow : OpenClaim := { program := "ytbdjddgihnmemaadoor", sum := "34315fd2abcd2a30ca3c25472ea2ca3e68166e4308527e788a68284653bfdc8f", func := "github.com/itchyny/gojq/n001_41.FnConstObjectStringConcat", spec := "fnConstObjectStringConcat", inPlace := ["internal/abi.NoEscape"], unfollowed := true, recurses := true, named := ["unicode/utf8.first", "unicode/utf8.acceptRanges"], apart := false, laid := [("unicode/utf8.acceptRanges", laid_unicode_utf8_acceptRanges), ("unicode/utf8.first", laid_unicode_utf8_first)], narrowed := true }
def FnConstObjectStringConcatUptoSaid : Prop := fnConstObjectStringConcatUptoRow.holds Tryd.pinned (OpenSpec.upto fnConstObjectStringConcatSpec)

end Rows
end Go.Proofs.YtbdjddgihnmemaaDoor
