/- Shared by the helpers over slices. -/
import Derived.Test.YtkabnbopakfknaaDoorSl
import Derived.Lib.Hide
namespace Go.Proofs.YtkabnbopakfknaaDoor
open Go.RowKit

def fitT (n : Nat) : Bool := decide (n ≤ 1048576)
/-- 'make([]T, n)'. -/
theorem run_mkE {z : Value} {t e : TypeId} (hi : (Tryd.prog.info? e).map (fun i => (i.zero, i.size, decide (i.bytes ≤ 16))) = some (some z, 1, true)) (ht : Tryd.prog.underlying t = some (.slice e)) (hzc : z.cells = #[z]) (n : Nat) (hn : n ≤ 1048576) (W : World) :
    (Instr.makeSlice t (.int .i64 n) (.int .i64 n)).run Tryd.prog W = .ok (.slice (some ⟨W.heap.size, 0, none⟩) n n) (W.alloc (.cells (Array.replicate n z) e)) := by
  obtain ⟨i, hi0, hz⟩ := Option.map_eq_some_iff.1 hi
  simp only [Prod.mk.injEq, decide_eq_true_eq] at hz
  obtain ⟨hz0, hz1, hz2⟩ := hz
  have hb : n * i.bytes ≤ 1048576 * 16 := Nat.mul_le_mul hn hz2
  have hb2 : i.bytes * n ≤ 16777216 := by rw [Nat.mul_comm]; exact hb
  have := run_make (P := Tryd.prog) W t e i z ht hi0 hz0 .i64 .i64 n n (by omega) (Int.le_refl _) (by omega) (by omega)
  simp only [Int.toNat_natCast, hz1, Nat.mul_one] at this
  rw [this]
  have e : madeCells z.cells n = Array.replicate n z := by
    apply Array.ext'
    rw [hzc, toList_madeCells_one, Array.toList_replicate]
  rw [e]
/-- While a slice is copied: k elements have gone over. -/
def CRel (l : List Value) (z : Value) (g : Nat) (t : TypeId) (w W : World) (vi : Value) (wr : World) : Prop :=
  ∃ k : Nat, k ≤ l.length ∧ vi = .int .i64 k ∧ wr.heap[g]? = some (.cells (l.take k ++ List.replicate (l.length - k) z).toArray t (0, 0)) ∧ Below w.heap.size w wr ∧ Below 0 W W
theorem clone_get (l : List Value) (k : Nat) (z : Value) (h : k < l.length) : (l.take k ++ List.replicate (l.length - k) z).toArray[k]? = some z := by
  have hk : (l.take k).length = k := by simp; omega
  rw [List.getElem?_toArray, List.getElem?_append_right (by omega), hk, Nat.sub_self, List.getElem?_replicate, if_pos (by omega)]
theorem clone_step (l : List Value) (k : Nat) (z : Value) (h : k < l.length) : ((l.take k ++ List.replicate (l.length - k) z).toArray.setIfInBounds k l[k]) = (l.take (k + 1) ++ List.replicate (l.length - (k + 1)) z).toArray := by
  apply Array.ext'
  simp only [Array.toList_setIfInBounds]
  have e : l.length - k = (l.length - (k + 1)) + 1 := by omega
  rw [e, List.replicate_succ, List.take_succ_eq_append_getElem h]
  have hk : (l.take k).length = k := by simp; omega
  conv => lhs; rw [List.set_append_right _ _ (by omega), hk, Nat.sub_self]
  rw [List.set_cons_zero, List.append_assoc]
  rfl
end Go.Proofs.YtkabnbopakfknaaDoor
