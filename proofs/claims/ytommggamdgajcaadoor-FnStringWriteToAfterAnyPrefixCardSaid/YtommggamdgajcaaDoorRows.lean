/-
  NARROWER THAN 'FOR EVERY INPUT', by the rows' own cells (each row's printed sentence says how): FnStringLiteralMatchesEscapeModel: laid · FnStringLiteralDecodesBack: laid · FnFuncWriteToAfterAnyPrefix: laid · FnFuncStringNestsInner: laid · FnStringInterpolationMatchesModel: laid · FnStringWriteToAfterAnyPrefix: laid.
  DERIVED. THE GIVEN ROWS OF THIS SEAT. 6 by the template 'for every input the law returns true; each argument reads behind the call as it read before'; 0 by the template 'total and deterministic' (their statements: YtommggamdgajcaaDoorTotals.lean).
  GIVEN WITH THE SEED: the statements are not yours to turn. If you find one false, say at which input.
  Laid BY PROGRAM, IN A SANDBOX (cutbox-rows.mjs): the forced cells as the released guide's own fill.sh prints them over the translation 8c3935d2b4eee38f… (all of the seat's roots in one cut). By AI agents, Wed Nov 11 2026. No macro, syntax, notation, axiom, sorry.
-/
import Derived.Test.YtommggamdgajcaaDoorChecked
import GoSem.PinnedTables
import GoSem.Claim
import GoSem.ClaimJoined
import GoSem.ClaimMapViews
import Derived.JoinedTies
import Derived.KernelRfl
namespace Go.Proofs.YtommggamdgajcaaDoor
/- THE CELL 'sum', in the pinned program and in every row, IS THE sha256 OF THE DUMP (.gsa) THAT YtommggamdgajcaaDoorProg.lean LOADS. Nothing in Lean hashes anything: it is a label: what it is worth is what the hold of that sum in a sandbox is worth. -/
noncomputable def Tryd.pinned : Pinned := { name := "ytommggamdgajcaadoor", sum := "8c3935d2b4eee38f254973df5a0d6c134c49ef46a269c209054ee1326977b67d", checked := Tryd.checked }
namespace Rows
def none {H : Type} : Left H := { results := [], args := [] }

/- WHAT THE LISTED PACKAGE-LEVEL VARIABLES READ AS WHEN THE CALL BEGINS. Each datum BY PROGRAM (the guide's laid-datum.mjs) off the statement by which the dump's own 'gosem.cut.vars' lays the variable. In a bare row this is a premise. The card (YtommggamdgajcaaDoorCards.lean) ties it to the program's text. -/
def laid_unicode_utf8_acceptRanges {H : Type} : DataW H := .agg [.agg [.lit (.int .u8 128), .lit (.int .u8 191)], .agg [.lit (.int .u8 160), .lit (.int .u8 191)], .agg [.lit (.int .u8 128), .lit (.int .u8 159)], .agg [.lit (.int .u8 144), .lit (.int .u8 191)], .agg [.lit (.int .u8 128), .lit (.int .u8 143)], .agg [.lit (.int .u8 0), .lit (.int .u8 0)], .agg [.lit (.int .u8 0), .lit (.int .u8 0)], .agg [.lit (.int .u8 0), .lit (.int .u8 0)], .agg [.lit (.int .u8 0), .lit (.int .u8 0)], .agg [.lit (.int .u8 0), .lit (.int .u8 0)], .agg [.lit (.int .u8 0), .lit (.int .u8 0)], .agg [.lit (.int .u8 0), .lit (.int .u8 0)], .agg [.lit (.int .u8 0), .lit (.int .u8 0)], .agg [.lit (.int .u8 0), .lit (.int .u8 0)], .agg [.lit (.int .u8 0), .lit (.int .u8 0)], .agg [.lit (.int .u8 0), .lit (.int .u8 0)]]
/-- One of Go's own tables, pinned by name: the form's constant. -/
def laid_unicode_utf8_first : DataW Unit := Go.Pinned.utf8First

/-- 'n001_49.FnStringLiteralMatchesEscapeModel': WHATEVER THE INPUT: true; the input reads as it did. -/
def fnStringLiteralMatchesEscapeModelSpec : ChangeSpec := { name := "fnStringLiteralMatchesEscapeModel", fn := fun _ => fun
  | [d] => { results := [.lit (.bool true)], args := [d] }
  | _ => none }
def fnStringLiteralMatchesEscapeModelRow : OpenClaim := { program := "ytommggamdgajcaadoor", sum := "8c3935d2b4eee38f254973df5a0d6c134c49ef46a269c209054ee1326977b67d", func := "github.com/itchyny/gojq/n001_49.FnStringLiteralMatchesEscapeModel", spec := "fnStringLiteralMatchesEscapeModel", inPlace := ["internal/abi.NoEscape"], unfollowed := true, recurses := true, named := ["unicode/utf8.first", "unicode/utf8.acceptRanges"], apart := false, laid := [("unicode/utf8.acceptRanges", laid_unicode_utf8_acceptRanges), ("unicode/utf8.first", laid_unicode_utf8_first)] }
def FnStringLiteralMatchesEscapeModelSaid : Prop := fnStringLiteralMatchesEscapeModelRow.holds Tryd.pinned (OpenSpec.ofChange fnStringLiteralMatchesEscapeModelSpec)

/-- ITS FALSE NEIGHBOUR: 'it returns false'. Refute it at one input. -/
def fnStringLiteralMatchesEscapeModelWrong : ChangeSpec := { name := "fnStringLiteralMatchesEscapeModel", fn := fun _ => fun
  | [d] => { results := [.lit (.bool false)], args := [d] }
  | _ => none }
def FnStringLiteralMatchesEscapeModelWrongFalsely : Prop := fnStringLiteralMatchesEscapeModelRow.holds Tryd.pinned (OpenSpec.ofChange fnStringLiteralMatchesEscapeModelWrong)

/-- 'n001_49.FnStringLiteralDecodesBack': WHATEVER THE INPUT: true; the input reads as it did. -/
def fnStringLiteralDecodesBackSpec : ChangeSpec := { name := "fnStringLiteralDecodesBack", fn := fun _ => fun
  | [d] => { results := [.lit (.bool true)], args := [d] }
  | _ => none }
def fnStringLiteralDecodesBackRow : OpenClaim := { program := "ytommggamdgajcaadoor", sum := "8c3935d2b4eee38f254973df5a0d6c134c49ef46a269c209054ee1326977b67d", func := "github.com/itchyny/gojq/n001_49.FnStringLiteralDecodesBack", spec := "fnStringLiteralDecodesBack", inPlace := ["internal/abi.NoEscape"], unfollowed := true, recurses := true, named := ["unicode/utf8.first", "unicode/utf8.acceptRanges"], apart := false, laid := [("unicode/utf8.acceptRanges", laid_unicode_utf8_acceptRanges), ("unicode/utf8.first", laid_unicode_utf8_first)] }
def FnStringLiteralDecodesBackSaid : Prop := fnStringLiteralDecodesBackRow.holds Tryd.pinned (OpenSpec.ofChange fnStringLiteralDecodesBackSpec)

/-- ITS FALSE NEIGHBOUR: 'it returns false'. Refute it at one input. -/
def fnStringLiteralDecodesBackWrong : ChangeSpec := { name := "fnStringLiteralDecodesBack", fn := fun _ => fun
  | [d] => { results := [.lit (.bool false)], args := [d] }
  | _ => none }
def FnStringLiteralDecodesBackWrongFalsely : Prop := fnStringLiteralDecodesBackRow.holds Tryd.pinned (OpenSpec.ofChange fnStringLiteralDecodesBackWrong)

/-- 'n001_49.FnFuncWriteToAfterAnyPrefix': WHATEVER THE INPUT: true; the input reads as it did. -/
def fnFuncWriteToAfterAnyPrefixSpec : ChangeSpec := { name := "fnFuncWriteToAfterAnyPrefix", fn := fun _ => fun
  | [d1, d2, d3, d4] => { results := [.lit (.bool true)], args := [d1, d2, d3, d4] }
  | _ => none }
def fnFuncWriteToAfterAnyPrefixRow : OpenClaim := { program := "ytommggamdgajcaadoor", sum := "8c3935d2b4eee38f254973df5a0d6c134c49ef46a269c209054ee1326977b67d", func := "github.com/itchyny/gojq/n001_49.FnFuncWriteToAfterAnyPrefix", spec := "fnFuncWriteToAfterAnyPrefix", inPlace := ["internal/abi.NoEscape"], unfollowed := true, recurses := true, named := ["unicode/utf8.first", "unicode/utf8.acceptRanges"], apart := false, laid := [("unicode/utf8.acceptRanges", laid_unicode_utf8_acceptRanges), ("unicode/utf8.first", laid_unicode_utf8_first)] }
def FnFuncWriteToAfterAnyPrefixSaid : Prop := fnFuncWriteToAfterAnyPrefixRow.holds Tryd.pinned (OpenSpec.ofChange fnFuncWriteToAfterAnyPrefixSpec)

/-- ITS FALSE NEIGHBOUR: 'it returns false'. Refute it at one input. -/
def fnFuncWriteToAfterAnyPrefixWrong : ChangeSpec := { name := "fnFuncWriteToAfterAnyPrefix", fn := fun _ => fun
  | [d1, d2, d3, d4] => { results := [.lit (.bool false)], args := [d1, d2, d3, d4] }
  | _ => none }
def FnFuncWriteToAfterAnyPrefixWrongFalsely : Prop := fnFuncWriteToAfterAnyPrefixRow.holds Tryd.pinned (OpenSpec.ofChange fnFuncWriteToAfterAnyPrefixWrong)

/-- 'n001_49.FnFuncStringNestsInner': WHATEVER THE INPUT: true; the input reads as it did. -/
def fnFuncStringNestsInnerSpec : ChangeSpec := { name := "fnFuncStringNestsInner", fn := fun _ => fun
  | [d1, d2, d3, d4] => { results := [.lit (.bool true)], args := [d1, d2, d3, d4] }
  | _ => none }
def fnFuncStringNestsInnerRow : OpenClaim := { program := "ytommggamdgajcaadoor", sum := "8c3935d2b4eee38f254973df5a0d6c134c49ef46a269c209054ee1326977b67d", func := "github.com/itchyny/gojq/n001_49.FnFuncStringNestsInner", spec := "fnFuncStringNestsInner", inPlace := ["internal/abi.NoEscape"], unfollowed := true, recurses := true, named := ["unicode/utf8.first", "unicode/utf8.acceptRanges"], apart := false, laid := [("unicode/utf8.acceptRanges", laid_unicode_utf8_acceptRanges), ("unicode/utf8.first", laid_unicode_utf8_first)] }
def FnFuncStringNestsInnerSaid : Prop := fnFuncStringNestsInnerRow.holds Tryd.pinned (OpenSpec.ofChange fnFuncStringNestsInnerSpec)

/-- ITS FALSE NEIGHBOUR: 'it returns false'. Refute it at one input. -/
def fnFuncStringNestsInnerWrong : ChangeSpec := { name := "fnFuncStringNestsInner", fn := fun _ => fun
  | [d1, d2, d3, d4] => { results := [.lit (.bool false)], args := [d1, d2, d3, d4] }
  | _ => none }
def FnFuncStringNestsInnerWrongFalsely : Prop := fnFuncStringNestsInnerRow.holds Tryd.pinned (OpenSpec.ofChange fnFuncStringNestsInnerWrong)

/-- 'n001_49.FnStringInterpolationMatchesModel': WHATEVER THE INPUT: true; the input reads as it did. -/
def fnStringInterpolationMatchesModelSpec : ChangeSpec := { name := "fnStringInterpolationMatchesModel", fn := fun _ => fun
  | [d1, d2] => { results := [.lit (.bool true)], args := [d1, d2] }
  | _ => none }
def fnStringInterpolationMatchesModelRow : OpenClaim := { program := "ytommggamdgajcaadoor", sum := "8c3935d2b4eee38f254973df5a0d6c134c49ef46a269c209054ee1326977b67d", func := "github.com/itchyny/gojq/n001_49.FnStringInterpolationMatchesModel", spec := "fnStringInterpolationMatchesModel", inPlace := ["internal/abi.NoEscape"], unfollowed := true, recurses := true, named := ["unicode/utf8.first", "unicode/utf8.acceptRanges"], apart := false, laid := [("unicode/utf8.acceptRanges", laid_unicode_utf8_acceptRanges), ("unicode/utf8.first", laid_unicode_utf8_first)] }
def FnStringInterpolationMatchesModelSaid : Prop := fnStringInterpolationMatchesModelRow.holds Tryd.pinned (OpenSpec.ofChange fnStringInterpolationMatchesModelSpec)

/-- ITS FALSE NEIGHBOUR: 'it returns false'. Refute it at one input. -/
def fnStringInterpolationMatchesModelWrong : ChangeSpec := { name := "fnStringInterpolationMatchesModel", fn := fun _ => fun
  | [d1, d2] => { results := [.lit (.bool false)], args := [d1, d2] }
  | _ => none }
def FnStringInterpolationMatchesModelWrongFalsely : Prop := fnStringInterpolationMatchesModelRow.holds Tryd.pinned (OpenSpec.ofChange fnStringInterpolationMatchesModelWrong)

/-- 'n001_49.FnStringWriteToAfterAnyPrefix': WHATEVER THE INPUT: true; the input reads as it did. -/
def fnStringWriteToAfterAnyPrefixSpec : ChangeSpec := { name := "fnStringWriteToAfterAnyPrefix", fn := fun _ => fun
  | [d1, d2, d3, d4, d5] => { results := [.lit (.bool true)], args := [d1, d2, d3, d4, d5] }
  | _ => none }
def fnStringWriteToAfterAnyPrefixRow : OpenClaim := { program := "ytommggamdgajcaadoor", sum := "8c3935d2b4eee38f254973df5a0d6c134c49ef46a269c209054ee1326977b67d", func := "github.com/itchyny/gojq/n001_49.FnStringWriteToAfterAnyPrefix", spec := "fnStringWriteToAfterAnyPrefix", inPlace := ["internal/abi.NoEscape"], unfollowed := true, recurses := true, named := ["unicode/utf8.first", "unicode/utf8.acceptRanges"], apart := false, laid := [("unicode/utf8.acceptRanges", laid_unicode_utf8_acceptRanges), ("unicode/utf8.first", laid_unicode_utf8_first)] }
def FnStringWriteToAfterAnyPrefixSaid : Prop := fnStringWriteToAfterAnyPrefixRow.holds Tryd.pinned (OpenSpec.ofChange fnStringWriteToAfterAnyPrefixSpec)

/-- ITS FALSE NEIGHBOUR: 'it returns false'. Refute it at one input. -/
def fnStringWriteToAfterAnyPrefixWrong : ChangeSpec := { name := "fnStringWriteToAfterAnyPrefix", fn := fun _ => fun
  | [d1, d2, d3, d4, d5] => { results := [.lit (.bool false)], args := [d1, d2, d3, d4, d5] }
  | _ => none }
def FnStringWriteToAfterAnyPrefixWrongFalsely : Prop := fnStringWriteToAfterAnyPrefixRow.holds Tryd.pinned (OpenSpec.ofChange fnStringWriteToAfterAnyPrefixWrong)

/- THE SECOND FORM. 'bulk': how many values and letters a reading holds, each counted each time it is reached (what is shared counts as often as it is met; a slice's spare places count too). A statement '..UptoSaid' is the law's where the arguments, and the package variables that the reading takes, are together of bulk at most 1048576: NARROWER than '..Said'. Prove '..Said' where nothing that the law and all that it calls make is longer than what came in: it says more and counts as full. Else prove '..UptoSaid'. A law counts once. -/
mutual
def uptoBulk {H : Type} : DataW H → Nat
  | .lit (.string bytes) => bytes.length + 1
  | .lit _ => 1
  | .nil => 1
  | .ptr d => uptoBulk d + 1
  | .slice elems spare => uptoBulkAll elems + uptoBulkAll spare + 1
  | .agg parts => uptoBulkAll parts + 1
  | .iface _ d => uptoBulk d + 1
  | .map entries => uptoBulkEntries entries + 1
  | .held _ => 1
def uptoBulkAll {H : Type} : List (DataW H) → Nat
  | [] => 0
  | d :: r => uptoBulk d + uptoBulkAll r
def uptoBulkEntries {H : Type} : List (Lit × DataW H) → Nat
  | [] => 0
  | x :: r => uptoBulkEntry x + uptoBulkEntries r
def uptoBulkEntry {H : Type} : Lit × DataW H → Nat
  | (.string bytes, d) => bytes.length + uptoBulk d + 1
  | (_, d) => uptoBulk d + 1
 end
def uptoSmall : (H : Type) → List (DataW H) → Bool := fun _ ds => decide (uptoBulkAll ds ≤ 1048576)
def OpenSpec.upto (s : _root_.Go.ChangeSpec) : _root_.Go.OpenSpec := { _root_.Go.OpenSpec.ofChange s with cond := some uptoSmall }

/-- 'n001_49.FnStringLiteralMatchesEscapeModel', WHERE WHAT IT READS IS OF BULK AT MOST 1048576: true; the input reads as it did. -/
def fnStringLiteralMatchesEscapeModelUptoRow : OpenClaim := { program := "ytommggamdgajcaadoor", sum := "8c3935d2b4eee38f254973df5a0d6c134c49ef46a269c209054ee1326977b67d", func := "github.com/itchyny/gojq/n001_49.FnStringLiteralMatchesEscapeModel", spec := "fnStringLiteralMatchesEscapeModel", inPlace := ["internal/abi.NoEscape"], unfollowed := true, recurses := true, named := ["unicode/utf8.first", "unicode/utf8.acceptRanges"], apart := false, laid := [("unicode/utf8.acceptRanges", laid_unicode_utf8_acceptRanges), ("unicode/utf8.first", laid_unicode_utf8_first)], narrowed := true }
def FnStringLiteralMatchesEscapeModelUptoSaid : Prop := fnStringLiteralMatchesEscapeModelUptoRow.holds Tryd.pinned (OpenSpec.upto fnStringLiteralMatchesEscapeModelSpec)

/-- 'n001_49.FnStringLiteralDecodesBack', WHERE WHAT IT READS IS OF BULK AT MOST 1048576: true; the input reads as it did. -/
def fnStringLiteralDecodesBackUptoRow : OpenClaim := { program := "ytommggamdgajcaadoor", sum := "8c3935d2b4eee38f254973df5a0d6c134c49ef46a269c209054ee1326977b67d", func := "github.com/itchyny/gojq/n001_49.FnStringLiteralDecodesBack", spec := "fnStringLiteralDecodesBack", inPlace := ["internal/abi.NoEscape"], unfollowed := true, recurses := true, named := ["unicode/utf8.first", "unicode/utf8.acceptRanges"], apart := false, laid := [("unicode/utf8.acceptRanges", laid_unicode_utf8_acceptRanges), ("unicode/utf8.first", laid_unicode_utf8_first)], narrowed := true }
def FnStringLiteralDecodesBackUptoSaid : Prop := fnStringLiteralDecodesBackUptoRow.holds Tryd.pinned (OpenSpec.upto fnStringLiteralDecodesBackSpec)

/-- 'n001_49.FnFuncWriteToAfterAnyPrefix', WHERE WHAT IT READS IS OF BULK AT MOST 1048576: true; the input reads as it did. -/
def fnFuncWriteToAfterAnyPrefixUptoRow : OpenClaim := { program := "ytommggamdgajcaadoor", sum := "8c3935d2b4eee38f254973df5a0d6c134c49ef46a269c209054ee1326977b67d", func := "github.com/itchyny/gojq/n001_49.FnFuncWriteToAfterAnyPrefix", spec := "fnFuncWriteToAfterAnyPrefix", inPlace := ["internal/abi.NoEscape"], unfollowed := true, recurses := true, named := ["unicode/utf8.first", "unicode/utf8.acceptRanges"], apart := false, laid := [("unicode/utf8.acceptRanges", laid_unicode_utf8_acceptRanges), ("unicode/utf8.first", laid_unicode_utf8_first)], narrowed := true }
def FnFuncWriteToAfterAnyPrefixUptoSaid : Prop := fnFuncWriteToAfterAnyPrefixUptoRow.holds Tryd.pinned (OpenSpec.upto fnFuncWriteToAfterAnyPrefixSpec)

/-- 'n001_49.FnFuncStringNestsInner', WHERE WHAT IT READS IS OF BULK AT MOST 1048576: true; the input reads as it did. -/
def fnFuncStringNestsInnerUptoRow : OpenClaim := { program := "ytommggamdgajcaadoor", sum := "8c3935d2b4eee38f254973df5a0d6c134c49ef46a269c209054ee1326977b67d", func := "github.com/itchyny/gojq/n001_49.FnFuncStringNestsInner", spec := "fnFuncStringNestsInner", inPlace := ["internal/abi.NoEscape"], unfollowed := true, recurses := true, named := ["unicode/utf8.first", "unicode/utf8.acceptRanges"], apart := false, laid := [("unicode/utf8.acceptRanges", laid_unicode_utf8_acceptRanges), ("unicode/utf8.first", laid_unicode_utf8_first)], narrowed := true }
def FnFuncStringNestsInnerUptoSaid : Prop := fnFuncStringNestsInnerUptoRow.holds Tryd.pinned (OpenSpec.upto fnFuncStringNestsInnerSpec)

/-- 'n001_49.FnStringInterpolationMatchesModel', WHERE WHAT IT READS IS OF BULK AT MOST 1048576: true; the input reads as it did. -/
def fnStringInterpolationMatchesModelUptoRow : OpenClaim := { program := "ytommggamdgajcaadoor", sum := "8c3935d2b4eee38f254973df5a0d6c134c49ef46a269c209054ee1326977b67d", func := "github.com/itchyny/gojq/n001_49.FnStringInterpolationMatchesModel", spec := "fnStringInterpolationMatchesModel", inPlace := ["internal/abi.NoEscape"], unfollowed := true, recurses := true, named := ["unicode/utf8.first", "unicode/utf8.acceptRanges"], apart := false, laid := [("unicode/utf8.acceptRanges", laid_unicode_utf8_acceptRanges), ("unicode/utf8.first", laid_unicode_utf8_first)], narrowed := true }
def FnStringInterpolationMatchesModelUptoSaid : Prop := fnStringInterpolationMatchesModelUptoRow.holds Tryd.pinned (OpenSpec.upto fnStringInterpolationMatchesModelSpec)

/-- 'n001_49.FnStringWriteToAfterAnyPrefix', WHERE WHAT IT READS IS OF BULK AT MOST 1048576: true; the input reads as it did. -/
def fnStringWriteToAfterAnyPrefixUptoRow : OpenClaim := { program := "ytommggamdgajcaadoor", sum := "8c3935d2b4eee38f254973df5a0d6c134c49ef46a269c209054ee1326977b67d", func := "github.com/itchyny/gojq/n001_49.FnStringWriteToAfterAnyPrefix", spec := "fnStringWriteToAfterAnyPrefix", inPlace := ["internal/abi.NoEscape"], unfollowed := true, recurses := true, named := ["unicode/utf8.first", "unicode/utf8.acceptRanges"], apart := false, laid := [("unicode/utf8.acceptRanges", laid_unicode_utf8_acceptRanges), ("unicode/utf8.first", laid_unicode_utf8_first)], narrowed := true }
def FnStringWriteToAfterAnyPrefixUptoSaid : Prop := fnStringWriteToAfterAnyPrefixUptoRow.holds Tryd.pinned (OpenSpec.upto fnStringWriteToAfterAnyPrefixSpec)

end Rows
end Go.Proofs.YtommggamdgajcaaDoor
