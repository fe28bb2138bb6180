/- A world for the witnesses: the settled one, the tables of unicode/utf8 laid in it. -/
import Derived.Test.YthfhfocdbkieoaaDoorCards
import Derived.Test.YthfhfocdbkieoaaDoorTie
import Derived.WalkKit
import Derived.ProofKit
import Derived.Lib.LaidU8
import Derived.Lib.Space
namespace Go.Proofs.YthfhfocdbkieoaaDoor
theorem own : ownKnob Tryd.prog.godebug = none := by kernel_rfl
theorem laidOut : laidOutB Tryd.prog = true := by kernel_rfl
def firstCells : Array Value := (Lib.firstTab.map fun z => Value.int .u8 z).toArray
def acceptCells : Array Value := (([128, 191, 160, 191, 128, 159, 144, 191, 128, 143] ++ List.replicate 22 0 : List Int).map fun z => Value.int .u8 z).toArray
def layCells (cs : Array Value) : Obj → Obj
  | .cells _ t frozen => .cells cs t frozen
  | o => o
noncomputable def laidWorld (os : Os) : World :=
  let w0 := World.holding Tryd.prog os ⟨#[], #[], []⟩
  { w0 with heap := ((w0.heap.modify 0 (layCells firstCells)).modify 1 (layCells acceptCells)) }
end Go.Proofs.YthfhfocdbkieoaaDoor
