/-
  No cell of these rows narrows 'for every input' (looked for: loops, veiled, ifaces, maps, wideKeys, modest, calm, conditions, laid).
  DERIVED. THE GIVEN ROWS OF THIS SEAT. 3 by the template 'for every input the law returns true; each argument reads behind the call as it read before'; 0 by the template 'total and deterministic' (their statements: YtnnjoehhjmomaaaTotals.lean).
  GIVEN WITH THE SEED: the statements are not yours to turn. If you find one false, say at which input.
  Laid BY PROGRAM, IN A SANDBOX (cutbox-rows.mjs): the forced cells as the released guide's own fill.sh prints them over the translation c63b51de7169dfd2… (all of the seat's roots in one cut). By AI agents, Wed Nov 11 2026. No macro, syntax, notation, axiom, sorry.
-/
import Derived.Test.YtnnjoehhjmomaaaChecked
import GoSem.Claim
import GoSem.ClaimJoined
import GoSem.ClaimMapViews
import Derived.JoinedTies
import Derived.KernelRfl
namespace Go.Proofs.Ytnnjoehhjmomaaa
/- THE CELL 'sum', in the pinned program and in every row, IS THE sha256 OF THE DUMP (.gsa) THAT YtnnjoehhjmomaaaProg.lean LOADS. Nothing in Lean hashes anything: it is a label: what it is worth is what the hold of that sum in a sandbox is worth. -/
noncomputable def Try.pinned : Pinned := { name := "ytnnjoehhjmomaaa", sum := "c63b51de7169dfd210eb5528d3db41a8f16a2fe91eba9ff5abbabead4ea8e8fb", checked := Try.checked }
namespace Rows
def none {H : Type} : Left H := { results := [], args := [] }

/-- 'n001_31.FnExplodeSpec': WHATEVER THE INPUT: true; the input reads as it did. -/
def fnExplodeSpecSpec : ChangeSpec := { name := "fnExplodeSpec", fn := fun _ => fun
  | [d] => { results := [.lit (.bool true)], args := [d] }
  | _ => none }
def fnExplodeSpecRow : OpenClaim := { program := "ytnnjoehhjmomaaa", sum := "c63b51de7169dfd210eb5528d3db41a8f16a2fe91eba9ff5abbabead4ea8e8fb", func := "github.com/itchyny/gojq/n001_31.FnExplodeSpec", spec := "fnExplodeSpec", apart := false }
def FnExplodeSpecSaid : Prop := fnExplodeSpecRow.holds Try.pinned (OpenSpec.ofChange fnExplodeSpecSpec)

/-- ITS FALSE NEIGHBOUR: 'it returns false'. Refute it at one input. -/
def fnExplodeSpecWrong : ChangeSpec := { name := "fnExplodeSpec", fn := fun _ => fun
  | [d] => { results := [.lit (.bool false)], args := [d] }
  | _ => none }
def FnExplodeSpecWrongFalsely : Prop := fnExplodeSpecRow.holds Try.pinned (OpenSpec.ofChange fnExplodeSpecWrong)

/-- 'n001_31.FnFuncExplodeSpec': WHATEVER THE INPUT: true; the input reads as it did. -/
def fnFuncExplodeSpecSpec : ChangeSpec := { name := "fnFuncExplodeSpec", fn := fun _ => fun
  | [d] => { results := [.lit (.bool true)], args := [d] }
  | _ => none }
def fnFuncExplodeSpecRow : OpenClaim := { program := "ytnnjoehhjmomaaa", sum := "c63b51de7169dfd210eb5528d3db41a8f16a2fe91eba9ff5abbabead4ea8e8fb", func := "github.com/itchyny/gojq/n001_31.FnFuncExplodeSpec", spec := "fnFuncExplodeSpec", apart := false }
def FnFuncExplodeSpecSaid : Prop := fnFuncExplodeSpecRow.holds Try.pinned (OpenSpec.ofChange fnFuncExplodeSpecSpec)

/-- ITS FALSE NEIGHBOUR: 'it returns false'. Refute it at one input. -/
def fnFuncExplodeSpecWrong : ChangeSpec := { name := "fnFuncExplodeSpec", fn := fun _ => fun
  | [d] => { results := [.lit (.bool false)], args := [d] }
  | _ => none }
def FnFuncExplodeSpecWrongFalsely : Prop := fnFuncExplodeSpecRow.holds Try.pinned (OpenSpec.ofChange fnFuncExplodeSpecWrong)

/-- 'n001_31.FnExplodeConcat': WHATEVER THE INPUT: true; the input reads as it did. -/
def fnExplodeConcatSpec : ChangeSpec := { name := "fnExplodeConcat", fn := fun _ => fun
  | [d1, d2] => { results := [.lit (.bool true)], args := [d1, d2] }
  | _ => none }
def fnExplodeConcatRow : OpenClaim := { program := "ytnnjoehhjmomaaa", sum := "c63b51de7169dfd210eb5528d3db41a8f16a2fe91eba9ff5abbabead4ea8e8fb", func := "github.com/itchyny/gojq/n001_31.FnExplodeConcat", spec := "fnExplodeConcat", apart := false }
def FnExplodeConcatSaid : Prop := fnExplodeConcatRow.holds Try.pinned (OpenSpec.ofChange fnExplodeConcatSpec)

/-- ITS FALSE NEIGHBOUR: 'it returns false'. Refute it at one input. -/
def fnExplodeConcatWrong : ChangeSpec := { name := "fnExplodeConcat", fn := fun _ => fun
  | [d1, d2] => { results := [.lit (.bool false)], args := [d1, d2] }
  | _ => none }
def FnExplodeConcatWrongFalsely : Prop := fnExplodeConcatRow.holds Try.pinned (OpenSpec.ofChange fnExplodeConcatWrong)

/- THE SECOND FORM. 'bulk': how many values and letters a reading holds, each counted each time it is reached (what is shared counts as often as it is met; a slice's spare places count too). A statement '..UptoSaid' is the law's where the arguments, and the package variables that the reading takes, are together of bulk at most 1048576: NARROWER than '..Said'. Prove '..Said' where nothing that the law and all that it calls make is longer than what came in: it says more and counts as full. Else prove '..UptoSaid'. A law counts once. -/
mutual
def uptoBulk {H : Type} : DataW H → Nat
  | .lit (.string bytes) => bytes.length + 1
  | .lit _ => 1
  | .nil => 1
  | .ptr d => uptoBulk d + 1
  | .slice elems spare => uptoBulkAll elems + uptoBulkAll spare + 1
  | .agg parts => uptoBulkAll parts + 1
  | .iface _ d => uptoBulk d + 1
  | .map entries => uptoBulkEntries entries + 1
  | .held _ => 1
def uptoBulkAll {H : Type} : List (DataW H) → Nat
  | [] => 0
  | d :: r => uptoBulk d + uptoBulkAll r
def uptoBulkEntries {H : Type} : List (Lit × DataW H) → Nat
  | [] => 0
  | x :: r => uptoBulkEntry x + uptoBulkEntries r
def uptoBulkEntry {H : Type} : Lit × DataW H → Nat
  | (.string bytes, d) => bytes.length + uptoBulk d + 1
  | (_, d) => uptoBulk d + 1
 end
def uptoSmall : (H : Type) → List (DataW H) → Bool := fun _ ds => decide (uptoBulkAll ds ≤ 1048576)
def OpenSpec.upto (s : _root_.Go.ChangeSpec) : _root_.Go.OpenSpec := { _root_.Go.OpenSpec.ofChange s with cond := some uptoSmall }

/-- 'n001_31.FnExplodeSpec', WHERE WHAT IT READS IS OF BULK AT MOST 1048576: true; the input reads as it did. -/
def fnExplodeSpecUptoRow : OpenClaim := { program := "ytnnjoehhjmomaaa", sum := "c63b51de7169dfd210eb5528d3db41a8f16a2fe91eba9ff5abbabead4ea8e8fb", func := "github.com/itchyny/gojq/n001_31.FnExplodeSpec", spec := "fnExplodeSpec", apart := false, narrowed := true }
def FnExplodeSpecUptoSaid : Prop := fnExplodeSpecUptoRow.holds Try.pinned (OpenSpec.upto fnExplodeSpecSpec)

/-- 'n001_31.FnFuncExplodeSpec', WHERE WHAT IT READS IS OF BULK AT MOST 1048576: true; the input reads as it did. -/
def fnFuncExplodeSpecUptoRow : OpenClaim := { program := "ytnnjoehhjmomaaa", sum := "c63b51de7169dfd210eb5528d3db41a8f16a2fe91eba9ff5abbabead4ea8e8fb", func := "github.com/itchyny/gojq/n001_31.FnFuncExplodeSpec", spec := "fnFuncExplodeSpec", apart := false, narrowed := true }
def FnFuncExplodeSpecUptoSaid : Prop := fnFuncExplodeSpecUptoRow.holds Try.pinned (OpenSpec.upto fnFuncExplodeSpecSpec)

/-- 'n001_31.FnExplodeConcat', WHERE WHAT IT READS IS OF BULK AT MOST 1048576: true; the input reads as it did. -/
def fnExplodeConcatUptoRow : OpenClaim := { program := "ytnnjoehhjmomaaa", sum := "c63b51de7169dfd210eb5528d3db41a8f16a2fe91eba9ff5abbabead4ea8e8fb", func := "github.com/itchyny/gojq/n001_31.FnExplodeConcat", spec := "fnExplodeConcat", apart := false, narrowed := true }
def FnExplodeConcatUptoSaid : Prop := fnExplodeConcatUptoRow.holds Try.pinned (OpenSpec.upto fnExplodeConcatSpec)

end Rows
end Go.Proofs.Ytnnjoehhjmomaaa
