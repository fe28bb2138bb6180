/- Slices that are only read: what they hold. Opening the laws' slice arguments. -/
import Derived.Test.YtkabnbopakfknaaDoorKit
import Derived.Test.YtkabnbopakfknaaDoorProg
import Derived.Deep.Strs
import Derived.Deep.Grids
import Derived.WalkSpells
import Derived.OpenShut
import Derived.Outline
namespace Go.Proofs.YtkabnbopakfknaaDoor
open Go.RowKit

/-- The slice value v holds these values. -/
def Sl (v : Value) (l : List Value) (w : World) : Prop :=
  ∃ (a : Option Addr) (cap : Nat), v = .slice a l.length cap ∧ l.length ≤ cap ∧ cap ≤ maxLen ∧ (a = none → cap = 0) ∧ (l = [] ∨ ∃ b off, a = some ⟨b, off, none⟩ ∧ ∀ i (h : i < l.length), w.cell? ⟨b, off + i, none⟩ = some l[i])
theorem Sl.below {v : Value} {l : List Value} {w w' : World} (h : Sl v l w) {n : Nat} (hb : Below n w w') (hn : w.heap.size ≤ n) : Sl v l w' := by
  obtain ⟨a, cap, hv, h1, h2, h3, h4⟩ := h
  refine ⟨a, cap, hv, h1, h2, h3, ?_⟩
  rcases h4 with h0 | ⟨b, off, ha, hc⟩
  · exact .inl h0
  · exact .inr ⟨b, off, ha, fun i hi => (hb.cell (Nat.lt_of_lt_of_le (World.block_lt_of_cell? w _ (hc i hi)) hn)).trans (hc i hi)⟩
theorem Sl.made {w : World} {g : Nat} {l : List Value} {t : TypeId} (hg : w.heap[g]? = some (.cells l.toArray t (0, 0))) (hl : l.length ≤ maxLen) : Sl (.slice (some ⟨g, 0, none⟩) l.length l.length) l w :=
  ⟨some ⟨g, 0, none⟩, l.length, rfl, Nat.le_refl _, hl, (fun h => by cases h), .inr ⟨g, 0, rfl, fun i hi => cell_of_block hg (by rw [Nat.zero_add]; simp [hi])⟩⟩
theorem Sl.nil (w : World) : Sl (.slice none 0 0) [] w := ⟨none, 0, rfl, Nat.le_refl _, Nat.zero_le _, (fun _ => rfl), .inl rfl⟩
theorem Sl.len {v : Value} {l : List Value} {w : World} (h : Sl v l w) : l.length ≤ maxLen := by
  obtain ⟨_, _, _, h1, h2, _⟩ := h
  exact Nat.le_trans h1 h2

/-- The sizes, added up. -/
def tot (l : List ByteArray) : Nat := (l.map ByteArray.size).sum
theorem tot_snoc (l : List ByteArray) (k : Nat) (h : k < l.length) : tot (l.take (k + 1)) = tot (l.take k) + l[k].size := by
  unfold tot; rw [List.take_succ_eq_append_getElem h, List.map_append, List.sum_append]; simp
theorem tot_take_le (l : List ByteArray) (k : Nat) : tot (l.take k) ≤ tot l := by
  unfold tot
  conv => rhs; rw [← List.take_append_drop k l]
  rw [List.map_append, List.sum_append]; omega
theorem tot_all (l : List ByteArray) : tot (l.take l.length) = tot l := by rw [List.take_length]

section
open Go.ChangeShapes Go.WideShapes Go.Deep
variable {H : Type} {enc : TypeId × Value → H} {w : World} {v : Value} {d : DataW H} {p : List MemPlace} {T e : TypeId} {r : Reach} {b0 : Nat}
theorem addr_of_cell {a : Addr} {x : Value} (h : w.cell? (a.add 0) = some x) : ∃ b off, a = ⟨b, off, none⟩ := by
  obtain ⟨b, off, idx⟩ := a
  cases idx with
  | none => exact ⟨b, off, rfl⟩
  | some j =>
    simp only [World.cell?, Addr.add, if_true, Option.isSome_some] at h
    split at h <;> simp at h
/-- From the cells to 'Sl'. -/
theorem Sl.of {a : Addr} {len cap : Nat} {l : List Value} (hl : l.length = len) (h1 : len ≤ cap) (h2 : cap ≤ maxLen) (hc : ∀ i (h : i < l.length), w.cell? (a.add i) = some l[i]) : Sl (.slice (some a) len cap) l w := by
  subst hl
  refine ⟨some a, cap, rfl, h1, h2, (fun h => by cases h), ?_⟩
  cases l with
  | nil => exact .inl rfl
  | cons x l =>
    obtain ⟨b, off, rfl⟩ := addr_of_cell (hc 0 (by simp))
    exact .inr ⟨b, off, rfl, fun i hi => by have := hc i hi; rwa [Addr.add_lit] at this⟩
set_option maxRecDepth 100000 in
theorem open_ss (hT : Tryd.prog.underlying T = some (.slice e)) (he : Tryd.prog.underlying e = some .string) (hC : Tryd.prog.cellsOf e = 1) (hv : Value.okWide Tryd.prog w r b0 T v) (h : DataW.Trod enc Tryd.prog w 0 (fun _ => true) true T v d p) :
    ∃ ss : List ByteArray, Sl v (ss.map .string) w ∧ ∀ s ∈ ss, s.size ≤ maxLen := by
  obtain ⟨a, len, cap, rfl⟩ := okWide_slice hT hv
  obtain ⟨fuel, hf⟩ := h
  rcases open_strs hT he hC hf with ⟨hcs, hx⟩ | ⟨a', len', cap', m, Sx, hcs, hb, hl, hm, hmm, hx, hcell⟩
  · simp [Value.cells] at hcs
    obtain ⟨rfl, rfl, rfl⟩ := hcs
    exact ⟨[], Sl.nil w, fun _ h => by cases h⟩
  · simp [Value.cells] at hcs
    obtain ⟨rfl, rfl, rfl⟩ := hcs
    simp only [if_true] at hmm
    subst hmm
    refine ⟨(List.range len).map Sx, Sl.of (by simp) hl hm (fun i hi => ?_), fun s hs => ?_⟩
    · simp at hi
      rw [(hcell i (by omega)).1]; simp
    · simp at hs
      obtain ⟨i, hi, rfl⟩ := hs
      exact (hcell i (by omega)).2
set_option maxRecDepth 100000 in
theorem open_bs (hT : Tryd.prog.underlying T = some (.slice e)) (he : Tryd.prog.underlying e = some .bool) (hC : Tryd.prog.cellsOf e = 1) (hv : Value.okWide Tryd.prog w r b0 T v) (h : DataW.Trod enc Tryd.prog w 0 (fun _ => true) true T v d p) :
    ∃ bs : List Bool, Sl v (bs.map .bool) w := by
  obtain ⟨a, len, cap, rfl⟩ := okWide_slice hT hv
  obtain ⟨fuel, hf⟩ := h
  rcases open_bools hT he hC hf with ⟨hcs, hx⟩ | ⟨a', len', cap', Sx, hcs, hb, hl, hm, hx, hcell⟩
  · simp [Value.cells] at hcs
    obtain ⟨rfl, rfl, rfl⟩ := hcs
    exact ⟨[], Sl.nil w⟩
  · simp [Value.cells] at hcs
    obtain ⟨rfl, rfl, rfl⟩ := hcs
    refine ⟨(List.range len).map Sx, Sl.of (by simp) hl hm (fun i hi => ?_)⟩
    simp at hi
    rw [hcell i (by omega)]; simp
set_option maxRecDepth 100000 in
theorem open_is {k : IntKind} (hT : Tryd.prog.underlying T = some (.slice e)) (he : Tryd.prog.underlying e = some (.int k)) (hC : Tryd.prog.cellsOf e = 1) (hv : Value.okWide Tryd.prog w r b0 T v) (h : DataW.Trod enc Tryd.prog w 0 (fun _ => true) true T v d p) :
    ∃ zs : List Int, Sl v (zs.map (.int k)) w ∧ ∀ z ∈ zs, (Lit.int k z).wf = true := by
  obtain ⟨a, len, cap, rfl⟩ := okWide_slice hT hv
  obtain ⟨fuel, hf⟩ := h
  rcases open_ints hT he hC hf with ⟨hcs, hx⟩ | ⟨a', len', cap', zs, hcs, hb, hl, hm, hz, hx, hcell, hwz⟩
  · simp [Value.cells] at hcs
    obtain ⟨rfl, rfl, rfl⟩ := hcs
    exact ⟨[], Sl.nil w, fun _ h => by cases h⟩
  · simp [Value.cells] at hcs
    obtain ⟨rfl, rfl, rfl⟩ := hcs
    simp only [if_true] at hz
    refine ⟨zs.take len, Sl.of (by simp; omega) hl hm (fun i hi => ?_), fun z hz' => hwz z (List.mem_of_mem_take hz')⟩
    simp at hi
    rw [hcell i (by omega)]; simp [List.getElem?_eq_getElem (show i < zs.length by omega)]
end
end Go.Proofs.YtkabnbopakfknaaDoor
