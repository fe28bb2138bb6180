/- The elements that the law's reader has read: what becomes of them as the row grows. -/
import Derived.Test.YtkabnbopakfknaaDoorSq51
namespace Go.Proofs.YtkabnbopakfknaaDoor
open Go.RowKit
set_option linter.unusedVariables false
set_option linter.unusedSimpArgs false

theorem byteN_at_mid {s : ByteArray} {A B : List UInt8} {b : UInt8} (h : s.data.toList = A ++ [b] ++ B) : byteN s A.length = b.toNat := by
  rw [byteN_get, h, List.append_assoc, List.getElem?_append_right (Nat.le_refl _), Nat.sub_self]
  rfl
theorem EqM.same {lo hi : Nat} {cs es : List Value} {w W W' : World} (h : EqM lo hi cs es w W) (k : Same lo hi W W') : EqM lo hi cs es w W' := fun W'' h1 h2 => h W'' (k.trans h1) h2
theorem EqM.wide {lo hi lo' hi' : Nat} {cs es : List Value} {w W : World} (h : EqM lo hi cs es w W) (h1 : lo' ≤ lo) (h2 : hi ≤ hi') : EqM lo' hi' cs es w W := fun W'' h3 h4 => h W'' (h3.mono h1 h2) h4
theorem st_new (P : Program) (w : World) (t : TypeId) (c : Array Value) (i : Nat) (v : Value) (hi : i < c.size) (hv : v.oneCell' = true) : (store ⟨w.heap.size, i, none⟩ v).run P (w.alloc (.cells c t)) = .ok () (w.alloc (.cells (c.setIfInBounds i v) t)) := by
  rw [run_store P _ _ v _ hv]
  have hb : (w.alloc (.cells c t)).heap[w.heap.size]? = some (.cells c t (0, 0)) := heap_alloc_at _ _
  have hc : (w.alloc (.cells c t)).cell? ⟨w.heap.size, i, none⟩ = some c[i] := cell_of_block hb (Array.getElem?_eq_getElem hi)
  have hf : (w.alloc (.cells c t)).frozen? ⟨w.heap.size, i, none⟩ = false := free_of_block hb
  rw [hc, hf]
  exact congrArg (Result.ok ()) (World.setCell_alloc_new c t i v)
theorem row_below {base B n size : Nat} {e : TypeId} {v : Value} {xs : List Value} {w w' : World} (h : w.ownsRow base e size v n xs) (hb : Below B w w') (hB : w.heap.size ≤ B) : w'.ownsRow base e size v n xs := by
  refine ⟨h.1, ?_⟩
  rcases h.2 with h0 | ⟨g, cap, cur, hv, hg, hb2, rest⟩
  · exact .inl h0
  · exact .inr ⟨g, cap, cur, hv, hg, (hb.block g (Nat.lt_of_lt_of_le (Array.getElem?_eq_some_iff.1 hb2).1 hB)).trans hb2, rest⟩
/-- Where the element stands. -/
def posT (Ts : Nat → List UInt8) (p i : Nat) : Nat := p + 1 + (seqT [44, 32] Ts i).length + (sepT i).length
/-- The elements that have been read. -/
def Got (v : Value) (xs : List Value) (i E : Nat) (es : Nat → List Value) (w wr : World) : Prop :=
  ∀ j, j < i → ∃ x0 x1 x2 lo hi, xs[j * 3]? = some x0 ∧ xs[j * 3 + 1]? = some x1 ∧ xs[j * 3 + 2]? = some x2 ∧ E ≤ lo ∧ hi ≤ wr.heap.size ∧ (∀ g, v.ownBlock = some g → g < lo ∨ hi ≤ g) ∧ EqM lo hi [x0, x1, x2] (es j) w wr

theorem same_under {lo hi : Nat} {W W1 W2 : World} (h : Same lo hi W W1) (hs : hi ≤ W.heap.size) (hb : Below W1.heap.size W1 W2) : Same lo hi W1 W2 := by
  intro k h1 h2
  refine hb.block k ?_
  have hk := h k h1 h2
  rw [Array.getElem?_eq_getElem (by omega : k < W.heap.size)] at hk
  exact (Array.getElem?_eq_some_iff.1 hk).1
theorem cell_of_same {lo hi : Nat} {W W1 : World} (h : Same lo hi W W1) {g o : Nat} (h1 : lo ≤ g) (h2 : g < hi) : W1.cell? ⟨g, o, none⟩ = W.cell? ⟨g, o, none⟩ := by
  unfold World.cell?
  simp only
  rw [h g h1 h2]
theorem got_same {lo hi E : Nat} {v v' : Value} {o : Obj} {wr w1 w2 : World} (hb1 : Below wr.heap.size wr w1) (hgr : (w1.alloc o).grownBy w2 v.ownBlock) (hout : ∀ g, v.ownBlock = some g → g < lo ∨ hi ≤ g) (hh : hi ≤ w1.heap.size) : Same lo hi w1 w2 := by
  intro k h1 h2
  have ha : (w1.alloc o).heap[k]? = w1.heap[k]? := Below.heap_alloc w1 o k (by omega)
  rw [← ha]
  refine hgr.block k (by rw [size_alloc]; omega) ?_
  intro e
  have := hout k e.symm
  omega
theorem got_next {v v' : Value} {xs : List Value} {i E : Nat} {es : Nat → List Value} {w wr w1 w2 : World} {o : Obj} {x0 x1 x2 : Value} (hG : Got v xs i E es w wr) (own : wr.ownsRow E 25 3 v i xs) (hb1 : Below wr.heap.size wr w1) (hM : EqM wr.heap.size w1.heap.size [x0, x1, x2] (es i) w w1)
    (hgr : (w1.alloc o).grownBy w2 v.ownBlock) (hv : v'.ownBlock = v.ownBlock ∨ v'.ownBlock = some (w1.heap.size + 1)) (hE : E ≤ wr.heap.size) : Got v' (xs ++ [x0, x1, x2]) (i + 1) E es w w2 := by
  have hz := hb1.size
  have hz2 : w1.heap.size ≤ w2.heap.size := by have := hgr.size; rw [size_alloc] at this; omega
  have hl := own.1
  intro j hj
  by_cases e : j = i
  · subst e
    refine ⟨x0, x1, x2, wr.heap.size, w1.heap.size, ?_, ?_, ?_, hE, hz2, ?_, ?_⟩
    · rw [List.getElem?_append_right (by omega), hl, Nat.sub_self]; rfl
    · rw [List.getElem?_append_right (by omega), hl, show j * 3 + 1 - j * 3 = 1 by omega]; rfl
    · rw [List.getElem?_append_right (by omega), hl, show j * 3 + 2 - j * 3 = 2 by omega]; rfl
    · intro g hg
      rcases hv with h | h
      · rw [h] at hg; exact .inl (own.lt g hg).2
      · rw [h] at hg; cases hg; exact .inr (by omega)
    · exact hM.same (got_same (E := E) (v' := v') hb1 hgr (fun g hg => .inl (own.lt g hg).2) (Nat.le_refl _))
  · obtain ⟨y0, y1, y2, lo, hi, h0, h1, h2, hlo, hhi, hout, hm⟩ := hG j (by omega)
    refine ⟨y0, y1, y2, lo, hi, ?_, ?_, ?_, hlo, by omega, ?_, ?_⟩
    · rw [List.getElem?_append_left (by omega)]; exact h0
    · rw [List.getElem?_append_left (by omega)]; exact h1
    · rw [List.getElem?_append_left (by omega)]; exact h2
    · intro g hg
      rcases hv with h | h
      · rw [h] at hg; exact hout g hg
      · rw [h] at hg; cases hg; exact .inr (by omega)
    · exact (hm.same (Same.below hb1 hhi)).same (got_same (E := E) (v' := v') hb1 hgr hout (by omega))
/-- A row of trees that was read is equal to the given one, wherever its blocks stay. -/
theorem arr_eq {v : Value} {xs : List Value} {l E H : Nat} {a : Option Addr} {es : Nat → List Value} {w w2 W : World} (own : w2.ownsRow E 25 3 v l xs) (hG : Got v xs l E es w w2) (hb : Below w.heap.size w W) (hS : Same E w2.heap.size w2 W)
    (hE : ∀ i, i < l → (es i).length = 3 ∧ ∃ g o, a = some ⟨g, o, none⟩ ∧ ∀ j, j < 3 → w.cell? ⟨g, o + i * 3 + j, none⟩ = (es i)[j]?) (g cap : Nat) (hv : v = .slice (some ⟨g, 0, none⟩) l cap) : ArrEq (some ⟨g, 0, none⟩) a l W := by
  intro i hi
  obtain ⟨he3, g', o', ha, hc⟩ := hE i hi
  obtain ⟨x0, x1, x2, lo, hj, h0, h1, h2, hlo, hhi, hout, hm⟩ := hG i hi
  have hob : v.ownBlock = some g := by rw [hv]; rfl
  have hgl := own.lt g hob
  have cel : ∀ k u, xs[k]? = some u → W.cell? ⟨g, 0 + k, none⟩ = some u := by
    intro k u hk
    rw [cell_of_same hS hgl.1 hgl.2]
    have := own.cells hob k u hk
    rw [Addr.add_lit] at this
    exact this
  obtain ⟨y0, y1, y2, hy⟩ : ∃ y0 y1 y2, es i = [y0, y1, y2] := by
    match es i, he3 with
    | [y0, y1, y2], _ => exact ⟨y0, y1, y2, rfl⟩
  have hq := hm W (hS.mono hlo hhi) hb
  rw [hy] at hc hq
  refine ⟨g, 0, g', o', rfl, ha, x0, x1, x2, y0, y1, y2, ?_, ?_, ?_, ?_, ?_, ?_, hq⟩
  · exact cel _ _ h0
  · have := cel _ _ h1; exact this
  · have := cel _ _ h2; exact this
  · exact cell_on hb (hc 0 (by omega))
  · exact cell_on hb (hc 1 (by omega))
  · exact cell_on hb (hc 2 (by omega))
/-- The whole array. -/
theorem arr_eqm {v : Value} {xs : List Value} {l c c' R : Nat} {a a' : Option Addr} {es : Nat → List Value} {w w2 W' : World} (hl : l ≤ 1048576) (h0 : 0 < l) (own : w2.ownsRow (R + 1) 25 3 v l xs) (hG : Got v xs l (R + 1) es w w2) (hS : Same (R + 1) w2.heap.size w2 W') (hz : w2.heap.size ≤ W'.heap.size)
    (hE : ∀ i, i < l → (es i).length = 3 ∧ ∃ g o, a = some ⟨g, o, none⟩ ∧ ∀ j, j < 3 → w.cell? ⟨g, o + i * 3 + j, none⟩ = (es i)[j]?) : EqM R W'.heap.size [.string ⟨#[]⟩, v, .slice none 0 0] [.string ⟨#[]⟩, .slice a l c, .slice a' 0 c'] w W' := by
  intro W1 hS1 hb1 W2 hb2
  obtain ⟨g, cap, hv⟩ : ∃ g cap, v = .slice (some ⟨g, 0, none⟩) l cap := by
    rcases own.2 with ⟨_, hn⟩ | ⟨g, cap, cur, hv, _⟩
    · omega
    · exact ⟨g, cap, hv⟩
  have hS2 : Same R W'.heap.size W1 W2 := same_under hS1 (Nat.le_refl _) hb2
  have hS3 : Same (R + 1) w2.heap.size w2 W2 := hS.trans ((hS1.trans hS2).mono (by omega) hz)
  have hb3 : Below w.heap.size w W2 := hb1.trans (hb2.mono hb1.size)
  have hA := arr_eq (H := 0) own hG hb3 hS3 hE g cap hv
  rw [hv]
  exact eq_any ⟨#[]⟩ (some ⟨g, 0, none⟩) a none a' l cap c 0 0 c' W2 hl (by omega) hA (fun i hi => by omega)
end Go.Proofs.YtkabnbopakfknaaDoor
