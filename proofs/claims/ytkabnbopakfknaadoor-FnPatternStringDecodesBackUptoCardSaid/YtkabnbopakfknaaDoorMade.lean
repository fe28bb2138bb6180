/- Nodes that were made lately: what they print while their blocks stay. -/
import Derived.Test.YtkabnbopakfknaaDoorPrn
namespace Go.Proofs.YtkabnbopakfknaaDoor
open Go.RowKit

/-- The blocks from lo to hi are the same. -/
def Same (lo hi : Nat) (w w' : World) : Prop := ∀ k, lo ≤ k → k < hi → w'.heap[k]? = w.heap[k]?
theorem Same.refl (lo hi : Nat) (w : World) : Same lo hi w w := fun _ _ _ => rfl
theorem Same.trans {lo hi : Nat} {a b c : World} (h : Same lo hi a b) (k : Same lo hi b c) : Same lo hi a c := fun i h1 h2 => (k i h1 h2).trans (h i h1 h2)
theorem Same.below {lo hi n : Nat} {w w' : World} (h : Below n w w') (hn : hi ≤ n) : Same lo hi w w' := fun i _ h2 => h.block i (Nat.lt_of_lt_of_le h2 hn)
theorem Same.setCell {lo hi : Nat} {a w : World} (h : Same lo hi a w) {b i : Nat} (hb : b < lo ∨ hi ≤ b) (v : Value) : Same lo hi a (w.setCell ⟨b, i, none⟩ v) := h.trans fun k h1 h2 => heap_setCell_ne (by omega) v
theorem Same.mono {lo hi lo' hi' : Nat} {w w' : World} (h : Same lo hi w w') (h1 : lo ≤ lo') (h2 : hi' ≤ hi) : Same lo' hi' w w' := fun k a b => h k (Nat.le_trans h1 a) (Nat.lt_of_lt_of_le b h2)
theorem Nd.same {p : Nat} {t : TypeId} {cs : Array Value} {w w' : World} (h : Nd p t cs w) {lo hi : Nat} (k : Same lo hi w w') (h1 : lo ≤ p) (h2 : p < hi) : Nd p t cs w' := (k p h1 h2).trans h
/-- The node prints so wherever the blocks from lo to hi are as they are here. -/
def Made (lo hi : Nat) (f : FuncId) (p : Nat) (ok : List UInt8 → Prop) (T : List UInt8) (w : World) : Prop := ∀ w', Same lo hi w w' → Prints f p ok T w'
theorem Made.prints {lo hi : Nat} {f : FuncId} {p : Nat} {ok : List UInt8 → Prop} {T : List UInt8} {w : World} (h : Made lo hi f p ok T w) : Prints f p ok T w := h w (Same.refl _ _ _)
theorem Made.same {lo hi : Nat} {f : FuncId} {p : Nat} {ok : List UInt8 → Prop} {T : List UInt8} {w w' : World} (h : Made lo hi f p ok T w) (k : Same lo hi w w') : Made lo hi f p ok T w' := fun w'' h2 => h w'' (k.trans h2)
theorem Made.wide {lo hi lo' hi' : Nat} {f : FuncId} {p : Nat} {ok : List UInt8 → Prop} {T : List UInt8} {w : World} (h : Made lo hi f p ok T w) (h1 : lo' ≤ lo) (h2 : hi ≤ hi') : Made lo' hi' f p ok T w := fun w' k => h w' (k.mono h1 h2)
theorem size_alloc (w : World) (o : Obj) : (w.alloc o).heap.size = w.heap.size + 1 := by show (w.heap.push o).size = _; simp
theorem size_setCell (w : World) (a : Addr) (v : Value) : (w.setCell a v).heap.size = w.heap.size := by simp [World.setCell]
theorem Nd.set {p : Nat} {t : TypeId} {cs : Array Value} {w : World} (h : Nd p t cs w) (i : Nat) (v : Value) : Nd p t (cs.setIfInBounds i v) (w.setCell ⟨p, i, none⟩ v) := heap_setCell_at h v
theorem Nd.setNe {p : Nat} {t : TypeId} {cs : Array Value} {w : World} (h : Nd p t cs w) {b i : Nat} (hb : p ≠ b) (v : Value) : Nd p t cs (w.setCell ⟨b, i, none⟩ v) := (heap_setCell_ne hb v).trans h
theorem Nd.free {p : Nat} {t : TypeId} {cs : Array Value} {w : World} (h : Nd p t cs w) (i : Nat) : w.frozen? ⟨p, i, none⟩ = false := free_of_block h

end Go.Proofs.YtkabnbopakfknaaDoor
