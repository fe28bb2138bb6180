/- Blocks known whole; regions whose order is drawn, by an invariant on the set of the operations done. -/
import Derived.Test.YtdjlkehdjlaojaaKit
import Derived.Orders
import Derived.Below
namespace Go.Proofs.Ytdjlkehdjlaojaa
open Go.RowKit
set_option linter.unusedVariables false

/-- A block known whole. -/
def Nd (p : Nat) (t : TypeId) (cs : Array Value) (w : World) : Prop := w.heap[p]? = some (.cells cs t (0, 0))
theorem Nd.cell {p : Nat} {t : TypeId} {cs : Array Value} {w : World} (h : Nd p t cs w) (i : Nat) {v : Value} (hv : cs[i]? = some v) : w.cell? ⟨p, i, none⟩ = some v := cell_of_block h hv
theorem Nd.lt {p : Nat} {t : TypeId} {cs : Array Value} {w : World} (h : Nd p t cs w) : p < w.heap.size := (Array.getElem?_eq_some_iff.1 h).1
theorem Nd.newAt {w : World} {p : Nat} (t : TypeId) (cs : Array Value) (h : p = w.heap.size) : Nd p t cs (w.alloc (.cells cs t)) := by subst h; exact heap_alloc_at _ _
theorem Nd.alloc {p : Nat} {t : TypeId} {cs : Array Value} {w : World} (h : Nd p t cs w) (o : Obj) : Nd p t cs (w.alloc o) := (heap_alloc_ne h.lt).trans h
theorem Nd.below {p : Nat} {t : TypeId} {cs : Array Value} {w w' : World} {B : Nat} (h : Nd p t cs w) (hb : Below B w w') (hp : p < B) : Nd p t cs w' := (hb.block p hp).trans h
theorem Nd.set {p : Nat} {t : TypeId} {cs : Array Value} {w : World} (h : Nd p t cs w) (i : Nat) (v : Value) : Nd p t (cs.setIfInBounds i v) (w.setCell ⟨p, i, none⟩ v) := heap_setCell_at h v
theorem Nd.setNe {p : Nat} {t : TypeId} {cs : Array Value} {w : World} (h : Nd p t cs w) {b i : Nat} (hb : p ≠ b) (v : Value) : Nd p t cs (w.setCell ⟨b, i, none⟩ v) := (heap_setCell_ne hb v).trans h
theorem Nd.free {p : Nat} {t : TypeId} {cs : Array Value} {w : World} (h : Nd p t cs w) (i : Nat) : w.frozen? ⟨p, i, none⟩ = false := free_of_block h
theorem Nd.eq {p : Nat} {t t' : TypeId} {cs cs' : Array Value} {w : World} (h : Nd p t cs w) (h' : Nd p t' cs' w) : t = t' ∧ cs = cs' := by
  unfold Nd at h h'
  rw [h] at h'
  cases h'
  exact ⟨rfl, rfl⟩
theorem size_alloc (w : World) (o : Obj) : (w.alloc o).heap.size = w.heap.size + 1 := by show (w.heap.push o).size = _; simp
theorem size_setCell (w : World) (a : Addr) (v : Value) : (w.setCell a v).heap.size = w.heap.size := by simp [World.setCell]

section
variable {P : Program} {ops : Array Oper} {Q : Exit → Act → World → Prop} {md : Region.Mode}
/-- How many operations are still to come. -/
def toDo (listed : Array Bool) : Nat := listed.toList.countP (fun b => !b)
theorem toDo_set {listed : Array Bool} {i : Nat} (h : listed.getD i true = false) : toDo (listed.setIfInBounds i true) + 1 = toDo listed := by
  obtain ⟨l⟩ := listed
  unfold toDo
  simp only [List.setIfInBounds_toArray]
  have hi : l[i]? = some false := by
    have h' : l.toArray[i]?.getD true = false := by rw [← Array.getD_eq_getD_getElem?]; exact h
    rw [List.getElem?_toArray] at h'
    cases e : l[i]? with
    | none => rw [e] at h'; cases h'
    | some b => rw [e] at h'; simp at h'; rw [h']
  clear h
  induction l generalizing i with
  | nil => cases hi
  | cons a l ih =>
    cases i with
    | zero =>
      simp at hi
      subst hi
      simp
    | succ i =>
      simp at hi
      have := ih hi
      simp only [List.set_cons_succ, List.countP_cons]
      omega
/-- Whatever order is drawn: an invariant that each operation that may come up keeps. -/
theorem wpAny_inv (Inv : Array Bool → Act → World → Prop) (hstep : ∀ listed a w i, Inv listed a w → i ∈ Region.ready md ops listed → wpOp P ops Q i (fun a' w' => Inv (listed.setIfInBounds i true) a' w') a w)
    (hend : ∀ listed a w, Inv listed a w → Region.ready md ops listed = [] → Q .normal a w) : ∀ fuel listed a w, Inv listed a w → toDo listed ≤ fuel → wpAny P md ops Q fuel listed a w
  | 0, listed, a, w, h, hf => by
    have hr : Region.ready md ops listed = [] := by
      apply List.eq_nil_iff_forall_not_mem.2
      intro i hi
      have := toDo_set (mem_ready.1 hi).1
      omega
    exact ⟨hr, hend listed a w h hr⟩
  | fuel + 1, listed, a, w, h, hf => by
    refine ⟨fun hr => hend listed a w h hr, fun i hi => ?_⟩
    refine wpOp_mono (fun a' w' h' => wpAny_inv Inv hstep hend fuel _ a' w' h' ?_) (hstep listed a w i h hi)
    have := toDo_set (mem_ready.1 hi).1
    omega
/-- One operation that yields a value. -/
theorem wpOp_val {i : Nat} {o : Oper} {v : Value} {a : Act} {w w' : World} {K : Act → World → Prop} (ho : ops[i]? = some o) (hg : o.guard = none) (hr : (execOp a.eval o).run P w = .ok (.value v) w') (hK : K (a.put o.dst v) w') : wpOp P ops Q i K a w := by
  have hw : Region.wanted o (yielded ops a.tmps) = true := by unfold Region.wanted; rw [hg]
  unfold wpOp
  simp only [ho, hw, if_true]
  refine .inl ?_
  unfold Oper.wp
  rw [hr]
  exact hK
theorem wpOp_skip {i : Nat} {o : Oper} {a : Act} {w w' : World} {K : Act → World → Prop} (ho : ops[i]? = some o) (hg : o.guard = none) (hr : (execOp a.eval o).run P w = .ok .skip w') (hK : K (a.put o.dst undef) w') : wpOp P ops Q i K a w := by
  have hw : Region.wanted o (yielded ops a.tmps) = true := by unfold Region.wanted; rw [hg]
  unfold wpOp
  simp only [ho, hw, if_true]
  refine .inl ?_
  unfold Oper.wp
  rw [hr]
  exact hK
theorem before {i : Nat} {o : Oper} {listed : Array Bool} (hr : i ∈ Region.ready md ops listed) (ho : ops[i]? = some o) {e : Edge} (he : e ∈ o.after) (hb : Region.binds md e = true) : listed.getD e.on false = true := by
  obtain ⟨_, o', ho', hall⟩ := mem_ready.1 hr
  rw [ho] at ho'
  cases ho'
  exact hall e he hb
end
end Go.Proofs.Ytdjlkehdjlaojaa
