/- A world for the witnesses: the settled one, the tables of unicode/utf8 laid in it. -/
import Derived.Test.YtkabnbopakfknaaDoorCards
import Derived.Test.YtkabnbopakfknaaDoorTie
import Derived.WalkKit
import Derived.ProofKit
import Derived.Lib.LaidU8
namespace Go.Proofs.YtkabnbopakfknaaDoor
theorem own : ownKnob Tryd.prog.godebug = none := by kernel_rfl
theorem laidOut : laidOutB Tryd.prog = true := by kernel_rfl
def firstCells : Array Value := (Lib.firstTab.map fun z => Value.int .u8 z).toArray
def acceptCells : Array Value := (([128, 191, 160, 191, 128, 159, 144, 191, 128, 143] ++ List.replicate 22 0 : List Int).map fun z => Value.int .u8 z).toArray
def layCells (cs : Array Value) : Obj → Obj
  | .cells _ t frozen => .cells cs t frozen
  | o => o
noncomputable def laidWorld (os : Os) : World :=
  { World.holding Tryd.prog os ⟨#[], #[], []⟩ with heap := ((World.holding Tryd.prog os ⟨#[], #[], []⟩).heap.modify 0 (layCells firstCells)).modify 1 (layCells acceptCells) }
end Go.Proofs.YtkabnbopakfknaaDoor
