/-
  No cell of these rows narrows 'for every input' (looked for: loops, veiled, ifaces, maps, wideKeys, modest, calm, conditions, laid).
  DERIVED. THE GIVEN ROWS OF THIS SEAT. 5 by the template 'for every input the law returns true; each argument reads behind the call as it read before'; 0 by the template 'total and deterministic' (their statements: YtanhgoafnfmpkaaTotals.lean).
  GIVEN WITH THE SEED: the statements are not yours to turn. If you find one false, say at which input.
  Laid BY PROGRAM, IN A SANDBOX (cutbox-rows.mjs): the forced cells as the released guide's own fill.sh prints them over the translation e386af7119e5880d… (all of the seat's roots in one cut). By AI agents, Wed Nov 11 2026. No macro, syntax, notation, axiom, sorry.
-/
import Derived.Test.YtanhgoafnfmpkaaChecked
import GoSem.Claim
import GoSem.ClaimJoined
import GoSem.ClaimMapViews
import Derived.JoinedTies
import Derived.KernelRfl
namespace Go.Proofs.Ytanhgoafnfmpkaa
/- THE CELL 'sum', in the pinned program and in every row, IS THE sha256 OF THE DUMP (.gsa) THAT YtanhgoafnfmpkaaProg.lean LOADS. Nothing in Lean hashes anything: it is a label: what it is worth is what the hold of that sum in a sandbox is worth. -/
noncomputable def Try.pinned : Pinned := { name := "ytanhgoafnfmpkaa", sum := "e386af7119e5880db37b98f15c1afd674604a49704c56ea61c39c0ac232ee262", checked := Try.checked }
namespace Rows
def none {H : Type} : Left H := { results := [], args := [] }

/-- 'n001_37.FnValidVarNameExact': WHATEVER THE INPUT: true; the input reads as it did. -/
def fnValidVarNameExactSpec : ChangeSpec := { name := "fnValidVarNameExact", fn := fun _ => fun
  | [d] => { results := [.lit (.bool true)], args := [d] }
  | _ => none }
def fnValidVarNameExactRow : OpenClaim := { program := "ytanhgoafnfmpkaa", sum := "e386af7119e5880db37b98f15c1afd674604a49704c56ea61c39c0ac232ee262", func := "github.com/itchyny/gojq/n001_37.FnValidVarNameExact", spec := "fnValidVarNameExact", apart := false }
def FnValidVarNameExactSaid : Prop := fnValidVarNameExactRow.holds Try.pinned (OpenSpec.ofChange fnValidVarNameExactSpec)

/-- ITS FALSE NEIGHBOUR: 'it returns false'. Refute it at one input. -/
def fnValidVarNameExactWrong : ChangeSpec := { name := "fnValidVarNameExact", fn := fun _ => fun
  | [d] => { results := [.lit (.bool false)], args := [d] }
  | _ => none }
def FnValidVarNameExactWrongFalsely : Prop := fnValidVarNameExactRow.holds Try.pinned (OpenSpec.ofChange fnValidVarNameExactWrong)

/-- 'n001_37.FnValidVarNameExtend': WHATEVER THE INPUT: true; the input reads as it did. -/
def fnValidVarNameExtendSpec : ChangeSpec := { name := "fnValidVarNameExtend", fn := fun _ => fun
  | [d1, d2] => { results := [.lit (.bool true)], args := [d1, d2] }
  | _ => none }
def fnValidVarNameExtendRow : OpenClaim := { program := "ytanhgoafnfmpkaa", sum := "e386af7119e5880db37b98f15c1afd674604a49704c56ea61c39c0ac232ee262", func := "github.com/itchyny/gojq/n001_37.FnValidVarNameExtend", spec := "fnValidVarNameExtend", apart := false }
def FnValidVarNameExtendSaid : Prop := fnValidVarNameExtendRow.holds Try.pinned (OpenSpec.ofChange fnValidVarNameExtendSpec)

/-- ITS FALSE NEIGHBOUR: 'it returns false'. Refute it at one input. -/
def fnValidVarNameExtendWrong : ChangeSpec := { name := "fnValidVarNameExtend", fn := fun _ => fun
  | [d1, d2] => { results := [.lit (.bool false)], args := [d1, d2] }
  | _ => none }
def FnValidVarNameExtendWrongFalsely : Prop := fnValidVarNameExtendRow.holds Try.pinned (OpenSpec.ofChange fnValidVarNameExtendWrong)

/-- 'n001_37.FnScanIdentIdempotentShift': WHATEVER THE INPUT: true; the input reads as it did. -/
def fnScanIdentIdempotentShiftSpec : ChangeSpec := { name := "fnScanIdentIdempotentShift", fn := fun _ => fun
  | [d1, d2] => { results := [.lit (.bool true)], args := [d1, d2] }
  | _ => none }
def fnScanIdentIdempotentShiftRow : OpenClaim := { program := "ytanhgoafnfmpkaa", sum := "e386af7119e5880db37b98f15c1afd674604a49704c56ea61c39c0ac232ee262", func := "github.com/itchyny/gojq/n001_37.FnScanIdentIdempotentShift", spec := "fnScanIdentIdempotentShift", apart := false }
def FnScanIdentIdempotentShiftSaid : Prop := fnScanIdentIdempotentShiftRow.holds Try.pinned (OpenSpec.ofChange fnScanIdentIdempotentShiftSpec)

/-- ITS FALSE NEIGHBOUR: 'it returns false'. Refute it at one input. -/
def fnScanIdentIdempotentShiftWrong : ChangeSpec := { name := "fnScanIdentIdempotentShift", fn := fun _ => fun
  | [d1, d2] => { results := [.lit (.bool false)], args := [d1, d2] }
  | _ => none }
def FnScanIdentIdempotentShiftWrongFalsely : Prop := fnScanIdentIdempotentShiftRow.holds Try.pinned (OpenSpec.ofChange fnScanIdentIdempotentShiftWrong)

/-- 'n001_37.FnScanIdentCharacterised': WHATEVER THE INPUT: true; the input reads as it did. -/
def fnScanIdentCharacterisedSpec : ChangeSpec := { name := "fnScanIdentCharacterised", fn := fun _ => fun
  | [d1, d2] => { results := [.lit (.bool true)], args := [d1, d2] }
  | _ => none }
def fnScanIdentCharacterisedRow : OpenClaim := { program := "ytanhgoafnfmpkaa", sum := "e386af7119e5880db37b98f15c1afd674604a49704c56ea61c39c0ac232ee262", func := "github.com/itchyny/gojq/n001_37.FnScanIdentCharacterised", spec := "fnScanIdentCharacterised", apart := false }
def FnScanIdentCharacterisedSaid : Prop := fnScanIdentCharacterisedRow.holds Try.pinned (OpenSpec.ofChange fnScanIdentCharacterisedSpec)

/-- ITS FALSE NEIGHBOUR: 'it returns false'. Refute it at one input. -/
def fnScanIdentCharacterisedWrong : ChangeSpec := { name := "fnScanIdentCharacterised", fn := fun _ => fun
  | [d1, d2] => { results := [.lit (.bool false)], args := [d1, d2] }
  | _ => none }
def FnScanIdentCharacterisedWrongFalsely : Prop := fnScanIdentCharacterisedRow.holds Try.pinned (OpenSpec.ofChange fnScanIdentCharacterisedWrong)

/-- 'n001_37.FnScanIdentOrModuleAgreesWithScanIdent': WHATEVER THE INPUT: true; the input reads as it did. -/
def fnScanIdentOrModuleAgreesWithScanIdentSpec : ChangeSpec := { name := "fnScanIdentOrModuleAgreesWithScanIdent", fn := fun _ => fun
  | [d1, d2] => { results := [.lit (.bool true)], args := [d1, d2] }
  | _ => none }
def fnScanIdentOrModuleAgreesWithScanIdentRow : OpenClaim := { program := "ytanhgoafnfmpkaa", sum := "e386af7119e5880db37b98f15c1afd674604a49704c56ea61c39c0ac232ee262", func := "github.com/itchyny/gojq/n001_37.FnScanIdentOrModuleAgreesWithScanIdent", spec := "fnScanIdentOrModuleAgreesWithScanIdent", apart := false }
def FnScanIdentOrModuleAgreesWithScanIdentSaid : Prop := fnScanIdentOrModuleAgreesWithScanIdentRow.holds Try.pinned (OpenSpec.ofChange fnScanIdentOrModuleAgreesWithScanIdentSpec)

/-- ITS FALSE NEIGHBOUR: 'it returns false'. Refute it at one input. -/
def fnScanIdentOrModuleAgreesWithScanIdentWrong : ChangeSpec := { name := "fnScanIdentOrModuleAgreesWithScanIdent", fn := fun _ => fun
  | [d1, d2] => { results := [.lit (.bool false)], args := [d1, d2] }
  | _ => none }
def FnScanIdentOrModuleAgreesWithScanIdentWrongFalsely : Prop := fnScanIdentOrModuleAgreesWithScanIdentRow.holds Try.pinned (OpenSpec.ofChange fnScanIdentOrModuleAgreesWithScanIdentWrong)

/- THE SECOND FORM. 'bulk': how many values and letters a reading holds, each counted each time it is reached (what is shared counts as often as it is met; a slice's spare places count too). A statement '..UptoSaid' is the law's where the arguments, and the package variables that the reading takes, are together of bulk at most 1048576: NARROWER than '..Said'. Prove '..Said' where nothing that the law and all that it calls make is longer than what came in: it says more and counts as full. Else prove '..UptoSaid'. A law counts once. -/
mutual
def uptoBulk {H : Type} : DataW H → Nat
  | .lit (.string bytes) => bytes.length + 1
  | .lit _ => 1
  | .nil => 1
  | .ptr d => uptoBulk d + 1
  | .slice elems spare => uptoBulkAll elems + uptoBulkAll spare + 1
  | .agg parts => uptoBulkAll parts + 1
  | .iface _ d => uptoBulk d + 1
  | .map entries => uptoBulkEntries entries + 1
  | .held _ => 1
def uptoBulkAll {H : Type} : List (DataW H) → Nat
  | [] => 0
  | d :: r => uptoBulk d + uptoBulkAll r
def uptoBulkEntries {H : Type} : List (Lit × DataW H) → Nat
  | [] => 0
  | x :: r => uptoBulkEntry x + uptoBulkEntries r
def uptoBulkEntry {H : Type} : Lit × DataW H → Nat
  | (.string bytes, d) => bytes.length + uptoBulk d + 1
  | (_, d) => uptoBulk d + 1
 end
def uptoSmall : (H : Type) → List (DataW H) → Bool := fun _ ds => decide (uptoBulkAll ds ≤ 1048576)
def OpenSpec.upto (s : _root_.Go.ChangeSpec) : _root_.Go.OpenSpec := { _root_.Go.OpenSpec.ofChange s with cond := some uptoSmall }

/-- 'n001_37.FnValidVarNameExact', WHERE WHAT IT READS IS OF BULK AT MOST 1048576: true; the input reads as it did. -/
def fnValidVarNameExactUptoRow : OpenClaim := { program := "ytanhgoafnfmpkaa", sum := "e386af7119e5880db37b98f15c1afd674604a49704c56ea61c39c0ac232ee262", func := "github.com/itchyny/gojq/n001_37.FnValidVarNameExact", spec := "fnValidVarNameExact", apart := false, narrowed := true }
def FnValidVarNameExactUptoSaid : Prop := fnValidVarNameExactUptoRow.holds Try.pinned (OpenSpec.upto fnValidVarNameExactSpec)

/-- 'n001_37.FnValidVarNameExtend', WHERE WHAT IT READS IS OF BULK AT MOST 1048576: true; the input reads as it did. -/
def fnValidVarNameExtendUptoRow : OpenClaim := { program := "ytanhgoafnfmpkaa", sum := "e386af7119e5880db37b98f15c1afd674604a49704c56ea61c39c0ac232ee262", func := "github.com/itchyny/gojq/n001_37.FnValidVarNameExtend", spec := "fnValidVarNameExtend", apart := false, narrowed := true }
def FnValidVarNameExtendUptoSaid : Prop := fnValidVarNameExtendUptoRow.holds Try.pinned (OpenSpec.upto fnValidVarNameExtendSpec)

/-- 'n001_37.FnScanIdentIdempotentShift', WHERE WHAT IT READS IS OF BULK AT MOST 1048576: true; the input reads as it did. -/
def fnScanIdentIdempotentShiftUptoRow : OpenClaim := { program := "ytanhgoafnfmpkaa", sum := "e386af7119e5880db37b98f15c1afd674604a49704c56ea61c39c0ac232ee262", func := "github.com/itchyny/gojq/n001_37.FnScanIdentIdempotentShift", spec := "fnScanIdentIdempotentShift", apart := false, narrowed := true }
def FnScanIdentIdempotentShiftUptoSaid : Prop := fnScanIdentIdempotentShiftUptoRow.holds Try.pinned (OpenSpec.upto fnScanIdentIdempotentShiftSpec)

/-- 'n001_37.FnScanIdentCharacterised', WHERE WHAT IT READS IS OF BULK AT MOST 1048576: true; the input reads as it did. -/
def fnScanIdentCharacterisedUptoRow : OpenClaim := { program := "ytanhgoafnfmpkaa", sum := "e386af7119e5880db37b98f15c1afd674604a49704c56ea61c39c0ac232ee262", func := "github.com/itchyny/gojq/n001_37.FnScanIdentCharacterised", spec := "fnScanIdentCharacterised", apart := false, narrowed := true }
def FnScanIdentCharacterisedUptoSaid : Prop := fnScanIdentCharacterisedUptoRow.holds Try.pinned (OpenSpec.upto fnScanIdentCharacterisedSpec)

/-- 'n001_37.FnScanIdentOrModuleAgreesWithScanIdent', WHERE WHAT IT READS IS OF BULK AT MOST 1048576: true; the input reads as it did. -/
def fnScanIdentOrModuleAgreesWithScanIdentUptoRow : OpenClaim := { program := "ytanhgoafnfmpkaa", sum := "e386af7119e5880db37b98f15c1afd674604a49704c56ea61c39c0ac232ee262", func := "github.com/itchyny/gojq/n001_37.FnScanIdentOrModuleAgreesWithScanIdent", spec := "fnScanIdentOrModuleAgreesWithScanIdent", apart := false, narrowed := true }
def FnScanIdentOrModuleAgreesWithScanIdentUptoSaid : Prop := fnScanIdentOrModuleAgreesWithScanIdentUptoRow.holds Try.pinned (OpenSpec.upto fnScanIdentOrModuleAgreesWithScanIdentSpec)

end Rows
end Go.Proofs.Ytanhgoafnfmpkaa
