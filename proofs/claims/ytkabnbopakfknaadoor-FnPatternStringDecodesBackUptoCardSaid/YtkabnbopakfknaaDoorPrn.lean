/- Printing: what a node's writeTo leaves in the builder. The shared notions; the String methods. -/
import Derived.Test.YtkabnbopakfknaaDoorBld
import Derived.Lib.LaidU8T
namespace Go.Proofs.YtkabnbopakfknaaDoor
open Go.RowKit

theorem tabs_below {ga gb B : Nat} {w w' : World} (h : Lib.Utf8Tabs ga gb w) (hb : Below B w w') (h1 : ga < B) (h2 : gb < B) : Lib.Utf8Tabs ga gb w' := by
  have e : ∀ g i, g < B → w'.cell? ⟨g, i, none⟩ = w.cell? ⟨g, i, none⟩ := fun g i hg => by unfold World.cell?; rw [hb.block g hg]
  refine ⟨fun c hc => ?_, fun i hi => ?_⟩
  · rw [e _ _ h1]; exact h.1 c hc
  · rw [e _ _ h2, e _ _ h2]; exact h.2 i hi


theorem u8extra : U8Extra Tryd.prog Tryd.lays260_ren := ⟨by kernel_rfl, by kernel_rfl, by kernel_rfl, by kernel_rfl, by kernel_rfl, by kernel_rfl, by kernel_rfl⟩
/-- The tables, out of the row's cell 'laid'. -/
theorem tabs_of {l : List (String × DataW Unit)} {w : World} (e : (l.filter fun x => x.2.handleName?.isSome) = []) (m1 : ("unicode/utf8.first", Lib.firstData) ∈ l) (m2 : ("unicode/utf8.acceptRanges", Lib.acceptData) ∈ l)
    (h : laidMetH Tryd.prog l w) : Lib.Utf8Tabs 0 1 w := by
  unfold laidMetH at h
  rw [e] at h
  exact utf8Tabs_of_reads Tryd.lays260 u8extra (Lib.laidMet.reads h m1) (Lib.laidMet.reads h m2)
theorem tabs_size {w : World} (h : Lib.Utf8Tabs 0 1 w) : 2 ≤ w.heap.size := by
  have h1 := World.block_lt_of_cell? w _ (h.1 0 (by omega))
  have h2 := World.block_lt_of_cell? w _ (h.2 0 (by omega)).1
  simp only at h1 h2
  omega

/-- Blocks that are neither bytes nor builders stay as they are. -/
def Pres (w w' : World) : Prop := ∀ (k : Nat) (c : Array Value) (t : TypeId) (z : Nat × Nat), w.heap[k]? = some (.cells c t z) → t ≠ 5 → t ≠ 73 → w'.heap[k]? = some (.cells c t z)
theorem Pres.refl (w : World) : Pres w w := fun _ _ _ _ h _ _ => h
theorem Pres.trans {a b c : World} (h : Pres a b) (k : Pres b c) : Pres a c := fun i c' t z hi h1 h2 => k i c' t z (h i c' t z hi h1 h2) h1 h2
theorem Pres.below {w w' : World} {n : Nat} (h : Below n w w') (hn : w.heap.size ≤ n) : Pres w w' := fun i _ _ _ hi _ _ => (h.block i (Nat.lt_of_lt_of_le (Array.getElem?_eq_some_iff.1 hi).1 hn)).trans hi
theorem Pres.alloc {a w : World} (h : Pres a w) (o : Obj) : Pres a (w.alloc o) := h.trans (Pres.below ((Below.refl _ _).alloc (Nat.le_refl _) o) (Nat.le_refl _))
theorem Kept.pres {B b : Nat} {l : List UInt8} {w w' : World} (h : Kept B b w w') (hb : BIs B b l w) : Pres w w' := fun k c t z hk h1 h2 =>
  h.blk hk (fun e => by subst e; obtain ⟨c', z', he⟩ := hb.ty; rw [hk] at he; cases he; exact h2 rfl) h1

/-- A node: a block known whole. -/
def Nd (p : Nat) (t : TypeId) (cs : Array Value) (w : World) : Prop := w.heap[p]? = some (.cells cs t (0, 0))
theorem Nd.pres {p : Nat} {t : TypeId} {cs : Array Value} {w w' : World} (h : Nd p t cs w) (k : Pres w w') (h1 : t ≠ 5) (h2 : t ≠ 73) : Nd p t cs w' := k _ _ _ _ h h1 h2
theorem Nd.cell {p : Nat} {t : TypeId} {cs : Array Value} {w : World} (h : Nd p t cs w) (i : Nat) {v : Value} (hv : cs[i]? = some v) : w.cell? ⟨p, i, none⟩ = some v := cell_of_block h hv
theorem Nd.lt {p : Nat} {t : TypeId} {cs : Array Value} {w : World} (h : Nd p t cs w) : p < w.heap.size := (Array.getElem?_eq_some_iff.1 h).1
theorem Nd.new (w : World) (t : TypeId) (cs : Array Value) : Nd w.heap.size t cs (w.alloc (.cells cs t)) := heap_alloc_at _ _
theorem Nd.newAt {w : World} {p : Nat} (t : TypeId) (cs : Array Value) (hp : p = w.heap.size) : Nd p t cs (w.alloc (.cells cs t)) := by subst hp; exact heap_alloc_at _ _
theorem Nd.below {p : Nat} {t : TypeId} {cs : Array Value} {w w' : World} (h : Nd p t cs w) {n : Nat} (k : Below n w w') (hn : p < n) : Nd p t cs w' := (k.block p hn).trans h
theorem Nd.alloc {p : Nat} {t : TypeId} {cs : Array Value} {w : World} (h : Nd p t cs w) (o : Obj) : Nd p t cs (w.alloc o) := (heap_alloc_ne h.lt).trans h

/-- The node's writeTo (function f, node p) writes T behind whatever the builder holds, where that is 'ok'. -/
def Prints (f : FuncId) (p : Nat) (ok : List UInt8 → Prop) (T : List UInt8) (w : World) : Prop :=
  ∀ (B b : Nat) (pre : List UInt8) (w' : World), Pres w w' → BIs B b pre w' → B ≤ w'.heap.size → 2 ≤ B → Lib.Utf8Tabs 0 1 w' → ok pre → pre.length + T.length ≤ 10000000000 →
    Calls Tryd.prog f #[.pointer (some ⟨p, 0, none⟩), .pointer (some ⟨b, 0, none⟩)] w' fun e w'' => e = .returned (.tuple #[]) ∧ BAt B b (pre ++ T) w'' ∧ Kept B b w' w''
theorem Prints.pres {f : FuncId} {p : Nat} {ok : List UInt8 → Prop} {T : List UInt8} {w w1 : World} (h : Prints f p ok T w) (k : Pres w w1) : Prints f p ok T w1 := fun B b pre w' hp => h B b pre w' (k.trans hp)
def Any : List UInt8 → Prop := fun _ => True

theorem tabs_kept {B b : Nat} {w w' : World} (h : Lib.Utf8Tabs 0 1 w) (k : Kept B b w w') (hB : 2 ≤ B) : Lib.Utf8Tabs 0 1 w' :=
  tabs_below h k.1 (by omega) (by omega)

/-- A String method's result. -/
def Str (w : World) (T : List UInt8) (e : Ending) (w' : World) : Prop := e = .returned (.string ⟨T.toArray⟩) ∧ Below w.heap.size w w'

end Go.Proofs.YtkabnbopakfknaaDoor
