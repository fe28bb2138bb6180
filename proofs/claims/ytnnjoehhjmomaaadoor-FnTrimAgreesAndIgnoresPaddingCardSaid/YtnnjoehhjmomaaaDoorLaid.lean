/- A world for the witnesses: the settled one, the tables of unicode/utf8 laid in it. -/
import Derived.Test.YtnnjoehhjmomaaaDoorCards
import Derived.Test.YtnnjoehhjmomaaaDoorTie
import Derived.WalkKit
import Derived.ProofKit
import Derived.Lib.LaidU8
import Derived.Lib.Space
namespace Go.Proofs.YtnnjoehhjmomaaaDoor
theorem own : ownKnob Tryd.prog.godebug = none := by kernel_rfl
theorem laidOut : laidOutB Tryd.prog = true := by kernel_rfl
def firstCells : Array Value := (Lib.firstTab.map fun z => Value.int .u8 z).toArray
def acceptCells : Array Value := (([128, 191, 160, 191, 128, 159, 144, 191, 128, 143] ++ List.replicate 22 0 : List Int).map fun z => Value.int .u8 z).toArray
def layCells (cs : Array Value) : Obj → Obj
  | .cells _ t frozen => .cells cs t frozen
  | o => o
def spaceCells : Array Value := (Lib.asciiSpaceTab.map fun z => Value.int .u8 z).toArray
def whiteCells : Array Value := (Lib.whiteT.map fun (z : Nat) => Value.int .u16 (z : Int)).toArray
noncomputable def SN (os : Os) : Nat := (World.settled Tryd.prog os).heap.size
noncomputable def laidWorld (os : Os) : World :=
  let w0 := World.holding Tryd.prog os ⟨#[.cells whiteCells 52, .cells #[.slice (some ⟨SN os, 0, none⟩) 7 7, .slice none 0 0, .int .i64 2] 49], #[], []⟩
  { w0 with heap := ((((w0.heap.modify 2 (layCells firstCells)).modify 3 (layCells acceptCells)).modify 1 (layCells spaceCells)).modify 0 (layCells #[.pointer (some ⟨SN os + 1, 0, none⟩)])) }
end Go.Proofs.YtnnjoehhjmomaaaDoor
