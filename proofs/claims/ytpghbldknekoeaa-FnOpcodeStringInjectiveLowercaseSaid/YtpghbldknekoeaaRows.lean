/-
  No cell of these rows narrows 'for every input' (looked for: loops, veiled, ifaces, maps, wideKeys, modest, calm, conditions, laid).
  DERIVED. THE GIVEN ROWS OF THIS SEAT. 2 by the template 'for every input the law returns true; each argument reads behind the call as it read before'; 0 by the template 'total and deterministic' (their statements: YtpghbldknekoeaaTotals.lean).
  GIVEN WITH THE SEED: the statements are not yours to turn. If you find one false, say at which input.
  Laid BY PROGRAM, IN A SANDBOX (cutbox-rows.mjs): the forced cells as the released guide's own fill.sh prints them over the translation 91c48eb4ea18db3a… (all of the seat's roots in one cut). By AI agents, Wed Nov 11 2026. No macro, syntax, notation, axiom, sorry.
-/
import Derived.Test.YtpghbldknekoeaaChecked
import GoSem.Claim
import GoSem.ClaimJoined
import GoSem.ClaimMapViews
import Derived.JoinedTies
import Derived.KernelRfl
namespace Go.Proofs.Ytpghbldknekoeaa
/- THE CELL 'sum', in the pinned program and in every row, IS THE sha256 OF THE DUMP (.gsa) THAT YtpghbldknekoeaaProg.lean LOADS. Nothing in Lean hashes anything: it is a label: what it is worth is what the hold of that sum in a sandbox is worth. -/
noncomputable def Try.pinned : Pinned := { name := "ytpghbldknekoeaa", sum := "91c48eb4ea18db3aac5107f025b2813dcdc3f746c5095c22424664e0d7405b2a", checked := Try.checked }
namespace Rows
def none {H : Type} : Left H := { results := [], args := [] }

/-- 'n001_5.FnOpcodeStringNamesInDeclarationOrder': WHATEVER THE INPUT: true; the input reads as it did. -/
def fnOpcodeStringNamesInDeclarationOrderSpec : ChangeSpec := { name := "fnOpcodeStringNamesInDeclarationOrder", fn := fun _ => fun
  | [d] => { results := [.lit (.bool true)], args := [d] }
  | _ => none }
def fnOpcodeStringNamesInDeclarationOrderRow : OpenClaim := { program := "ytpghbldknekoeaa", sum := "91c48eb4ea18db3aac5107f025b2813dcdc3f746c5095c22424664e0d7405b2a", func := "github.com/itchyny/gojq/n001_5.FnOpcodeStringNamesInDeclarationOrder", spec := "fnOpcodeStringNamesInDeclarationOrder", apart := false }
def FnOpcodeStringNamesInDeclarationOrderSaid : Prop := fnOpcodeStringNamesInDeclarationOrderRow.holds Try.pinned (OpenSpec.ofChange fnOpcodeStringNamesInDeclarationOrderSpec)

/-- ITS FALSE NEIGHBOUR: 'it returns false'. Refute it at one input. -/
def fnOpcodeStringNamesInDeclarationOrderWrong : ChangeSpec := { name := "fnOpcodeStringNamesInDeclarationOrder", fn := fun _ => fun
  | [d] => { results := [.lit (.bool false)], args := [d] }
  | _ => none }
def FnOpcodeStringNamesInDeclarationOrderWrongFalsely : Prop := fnOpcodeStringNamesInDeclarationOrderRow.holds Try.pinned (OpenSpec.ofChange fnOpcodeStringNamesInDeclarationOrderWrong)

/-- 'n001_5.FnOpcodeStringInjectiveLowercase': WHATEVER THE INPUT: true; the input reads as it did. -/
def fnOpcodeStringInjectiveLowercaseSpec : ChangeSpec := { name := "fnOpcodeStringInjectiveLowercase", fn := fun _ => fun
  | [d1, d2] => { results := [.lit (.bool true)], args := [d1, d2] }
  | _ => none }
def fnOpcodeStringInjectiveLowercaseRow : OpenClaim := { program := "ytpghbldknekoeaa", sum := "91c48eb4ea18db3aac5107f025b2813dcdc3f746c5095c22424664e0d7405b2a", func := "github.com/itchyny/gojq/n001_5.FnOpcodeStringInjectiveLowercase", spec := "fnOpcodeStringInjectiveLowercase", apart := false }
def FnOpcodeStringInjectiveLowercaseSaid : Prop := fnOpcodeStringInjectiveLowercaseRow.holds Try.pinned (OpenSpec.ofChange fnOpcodeStringInjectiveLowercaseSpec)

/-- ITS FALSE NEIGHBOUR: 'it returns false'. Refute it at one input. -/
def fnOpcodeStringInjectiveLowercaseWrong : ChangeSpec := { name := "fnOpcodeStringInjectiveLowercase", fn := fun _ => fun
  | [d1, d2] => { results := [.lit (.bool false)], args := [d1, d2] }
  | _ => none }
def FnOpcodeStringInjectiveLowercaseWrongFalsely : Prop := fnOpcodeStringInjectiveLowercaseRow.holds Try.pinned (OpenSpec.ofChange fnOpcodeStringInjectiveLowercaseWrong)

/- THE SECOND FORM. 'bulk': how many values and letters a reading holds, each counted each time it is reached (what is shared counts as often as it is met; a slice's spare places count too). A statement '..UptoSaid' is the law's where the arguments, and the package variables that the reading takes, are together of bulk at most 1048576: NARROWER than '..Said'. Prove '..Said' where nothing that the law and all that it calls make is longer than what came in: it says more and counts as full. Else prove '..UptoSaid'. A law counts once. -/
mutual
def uptoBulk {H : Type} : DataW H → Nat
  | .lit (.string bytes) => bytes.length + 1
  | .lit _ => 1
  | .nil => 1
  | .ptr d => uptoBulk d + 1
  | .slice elems spare => uptoBulkAll elems + uptoBulkAll spare + 1
  | .agg parts => uptoBulkAll parts + 1
  | .iface _ d => uptoBulk d + 1
  | .map entries => uptoBulkEntries entries + 1
  | .held _ => 1
def uptoBulkAll {H : Type} : List (DataW H) → Nat
  | [] => 0
  | d :: r => uptoBulk d + uptoBulkAll r
def uptoBulkEntries {H : Type} : List (Lit × DataW H) → Nat
  | [] => 0
  | x :: r => uptoBulkEntry x + uptoBulkEntries r
def uptoBulkEntry {H : Type} : Lit × DataW H → Nat
  | (.string bytes, d) => bytes.length + uptoBulk d + 1
  | (_, d) => uptoBulk d + 1
 end
def uptoSmall : (H : Type) → List (DataW H) → Bool := fun _ ds => decide (uptoBulkAll ds ≤ 1048576)
def OpenSpec.upto (s : _root_.Go.ChangeSpec) : _root_.Go.OpenSpec := { _root_.Go.OpenSpec.ofChange s with cond := some uptoSmall }

/-- 'n001_5.FnOpcodeStringNamesInDeclarationOrder', WHERE WHAT IT READS IS OF BULK AT MOST 1048576: true; the input reads as it did. -/
def fnOpcodeStringNamesInDeclarationOrderUptoRow : OpenClaim := { program := "ytpghbldknekoeaa", sum := "91c48eb4ea18db3aac5107f025b2813dcdc3f746c5095c22424664e0d7405b2a", func := "github.com/itchyny/gojq/n001_5.FnOpcodeStringNamesInDeclarationOrder", spec := "fnOpcodeStringNamesInDeclarationOrder", apart := false, narrowed := true }
def FnOpcodeStringNamesInDeclarationOrderUptoSaid : Prop := fnOpcodeStringNamesInDeclarationOrderUptoRow.holds Try.pinned (OpenSpec.upto fnOpcodeStringNamesInDeclarationOrderSpec)

/-- 'n001_5.FnOpcodeStringInjectiveLowercase', WHERE WHAT IT READS IS OF BULK AT MOST 1048576: true; the input reads as it did. -/
def fnOpcodeStringInjectiveLowercaseUptoRow : OpenClaim := { program := "ytpghbldknekoeaa", sum := "91c48eb4ea18db3aac5107f025b2813dcdc3f746c5095c22424664e0d7405b2a", func := "github.com/itchyny/gojq/n001_5.FnOpcodeStringInjectiveLowercase", spec := "fnOpcodeStringInjectiveLowercase", apart := false, narrowed := true }
def FnOpcodeStringInjectiveLowercaseUptoSaid : Prop := fnOpcodeStringInjectiveLowercaseUptoRow.holds Try.pinned (OpenSpec.upto fnOpcodeStringInjectiveLowercaseSpec)

end Rows
end Go.Proofs.Ytpghbldknekoeaa
