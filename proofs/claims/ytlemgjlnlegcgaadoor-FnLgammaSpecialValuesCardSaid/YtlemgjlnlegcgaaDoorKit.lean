/- Small facts on worlds and values that the walks of this seat share. No condition. -/
import Derived.WalkKit
import Derived.WalkSpells
import Derived.WalkLawsBesides
import Derived.WalkSmall
import Derived.Lib.Hide
import Derived.RegionTactic
import Derived.ChangeAlike
import Derived.Deep.QuietTactic
import Derived.BigQuiet
import Derived.Deep.Draws
namespace Go.Proofs.YtlemgjlnlegcgaaDoor
open Go.RowKit

theorem alloc_drewN (w : World) (n : Nat) (o : Obj) : (w.drewN n).alloc o = (w.alloc o).drewN n := rfl
theorem setCell_drewN (w : World) (n : Nat) (a : Addr) (v : Value) : (w.drewN n).setCell a v = (w.setCell a v).drewN n := rfl
theorem size_drewN (w : World) (n : Nat) : (w.drewN n).heap.size = w.heap.size := rfl
theorem drew_one (w : World) : w.drew = w.drewN 1 := rfl

theorem ret_bool {a b : Bool} (h : a = b) : Ending.returned (.bool a) = .returned (.bool b) := by rw [h]
theorem ret_int {k : IntKind} {a b : Int} (h : a = b) : Ending.returned (.int k a) = .returned (.int k b) := by rw [h]
theorem ret_str {a b : ByteArray} (h : a = b) : Ending.returned (.string a) = .returned (.string b) := by rw [h]

/-- A block known whole, behind a store into it. -/
theorem heap_setCell_at {w : World} {b i : Nat} {c : Array Value} {t : TypeId} {z : Nat × Nat} (h : w.heap[b]? = some (.cells c t z)) (v : Value) :
    (w.setCell ⟨b, i, none⟩ v).heap[b]? = some (.cells (c.setIfInBounds i v) t z) := by
  simp [World.setCell, Array.getElem?_modify, h]
theorem heap_setCell_ne {w : World} {b i k : Nat} (hk : k ≠ b) (v : Value) : (w.setCell ⟨b, i, none⟩ v).heap[k]? = w.heap[k]? :=
  Below.heap_setCell _ _ _ _ hk
theorem heap_alloc_at (w : World) (o : Obj) : (w.alloc o).heap[w.heap.size]? = some o := by
  show (w.heap.push o)[w.heap.size]? = _
  simp
theorem heap_alloc_ne {w : World} {o : Obj} {k : Nat} (hk : k < w.heap.size) : (w.alloc o).heap[k]? = w.heap[k]? :=
  Below.heap_alloc _ _ _ hk
theorem cell_of_block {w : World} {b i : Nat} {c : Array Value} {t : TypeId} {z : Nat × Nat} {v : Value} (h : w.heap[b]? = some (.cells c t z)) (hv : c[i]? = some v) :
    w.cell? ⟨b, i, none⟩ = some v := by simp [World.cell?, h, hv]
theorem free_of_block {w : World} {b i : Nat} {c : Array Value} {t : TypeId} (h : w.heap[b]? = some (.cells c t (0, 0))) :
    w.frozen? ⟨b, i, none⟩ = false := by simp [World.frozen?, h]
theorem below_of_le {B B' : Nat} {w w' : World} (h : Below B w w') (hB : B' ≤ B) : Below B' w w' := h.mono hB

/-- A callee that leaves the world alone, met inside a region that draws. -/
theorem quiet_eq {P : Program} {f : FuncId} {args : Array Value} {w : World} {n : Nat} {v : Value}
    (h : Calls P f args (w.drewN n) fun e w' => e = .returned v ∧ w.drewN n = w') : Calls P f args (w.drewN n) fun e w'' => e = .returned v ∧ ∃ m, w'' = w.drewN m :=
  h.mono fun _ _ ⟨he, hm⟩ => ⟨he, n, hm.symm⟩

end Go.Proofs.YtlemgjlnlegcgaaDoor
