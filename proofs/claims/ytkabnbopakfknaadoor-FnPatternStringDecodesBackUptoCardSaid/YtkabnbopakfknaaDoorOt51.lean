/- Rows of trees, of entries, that the law's reader makes: appending one. -/
import Derived.Test.YtkabnbopakfknaaDoorPn51
import Derived.Test.YtkabnbopakfknaaDoorOwn
import Derived.Maps.AppendAt
namespace Go.Proofs.YtkabnbopakfknaaDoor
open Go.RowKit
set_option linter.unusedVariables false

theorem tinfo : (Tryd.prog.info? 25).map (fun i => (i.zero, i.size, i.bytes)) = some (some (.agg #[.string ⟨#[]⟩, .slice none 0 0, .slice none 0 0]), 3, 64) := by kernel_rfl
theorem einfo : (Tryd.prog.info? 61).map (fun i => (i.zero, i.size, i.bytes)) = some (some (.agg #[.string ⟨#[]⟩, .slice none 0 0]), 2, 40) := by kernel_rfl
/-- A tree, appended. -/
theorem app_tree {base : Nat} {v : Value} {n : Nat} {xs : List Value} {w : World} (own : w.ownsRow base 25 3 v n xs) (e0 e1 e2 : Value) (h0 : e0.oneCell' = true) (h1 : e1.oneCell' = true) (h2 : e2.oneCell' = true) (hb : base ≤ w.heap.size) (hlen : n + 1 ≤ 1000000000000) :
    ∃ v' w', (∀ ty, (Builtin.append_ #[22, 22] ty #[v, .slice (some ⟨w.heap.size, 0, none⟩) 1 1]).run Tryd.prog (w.alloc (.cells #[e0, e1, e2] 25)) = .ok v' w') ∧ w'.ownsRow base 25 3 v' (n + 1) (xs ++ [e0, e1, e2]) ∧ (w.alloc (.cells #[e0, e1, e2] 25)).grownBy w' v.ownBlock ∧ Below base w w' ∧ (v'.ownBlock = v.ownBlock ∨ v'.ownBlock = some (w.heap.size + 1)) := by
  obtain ⟨i, hi, hz0, hz1, hz2⟩ := info_parts tinfo
  obtain ⟨v', w', hr, ho, hg, _, hob⟩ := run_append_own_at (P := Tryd.prog) (w := w.alloc (.cells #[e0, e1, e2] 25)) base 22 0 25 i (.agg #[.string ⟨#[]⟩, .slice none 0 0, .slice none 0 0]) 3 64 Tryd.underlying22 hi hz0 hz1 hz2 rfl (by omega)
    v n xs (own.alloc _) ⟨w.heap.size, 0, none⟩ 1 1 [e0, e1, e2] rfl
    (by
      intro j u hj
      rw [Addr.add_lit]
      refine cell_of_block (heap_alloc_at _ _) ?_
      rw [Nat.zero_add, List.getElem?_toArray]; exact hj)
    (by intro u hu; simp at hu; rcases hu with rfl | rfl | rfl <;> assumption) (by unfold maxLen; omega) (by omega) (by show base ≤ (w.heap.push _).size; simp; omega)
  exact ⟨v', w', fun ty => hr, ho, hg, ((Below.refl _ _).alloc hb _).grown hg (by show base ≤ (w.heap.push _).size; simp; omega) (fun k hk => (own.lt k hk).1), by rw [size_alloc] at hob; exact hob⟩
/-- An entry, appended. -/
theorem app_ent {base : Nat} {v : Value} {n : Nat} {xs : List Value} {w : World} (own : w.ownsRow base 61 2 v n xs) (e0 e1 : Value) (h0 : e0.oneCell' = true) (h1 : e1.oneCell' = true) (hb : base ≤ w.heap.size) (hlen : n + 1 ≤ 1000000000000) :
    ∃ v' w', (∀ ty, (Builtin.append_ #[23, 23] ty #[v, .slice (some ⟨w.heap.size, 0, none⟩) 1 1]).run Tryd.prog (w.alloc (.cells #[e0, e1] 61)) = .ok v' w') ∧ w'.ownsRow base 61 2 v' (n + 1) (xs ++ [e0, e1]) ∧ (w.alloc (.cells #[e0, e1] 61)).grownBy w' v.ownBlock ∧ Below base w w' ∧ (v'.ownBlock = v.ownBlock ∨ v'.ownBlock = some (w.heap.size + 1)) := by
  obtain ⟨i, hi, hz0, hz1, hz2⟩ := info_parts einfo
  obtain ⟨v', w', hr, ho, hg, _, hob⟩ := run_append_own_at (P := Tryd.prog) (w := w.alloc (.cells #[e0, e1] 61)) base 23 0 61 i (.agg #[.string ⟨#[]⟩, .slice none 0 0]) 2 40 Tryd.underlying23 hi hz0 hz1 hz2 rfl (by omega)
    v n xs (own.alloc _) ⟨w.heap.size, 0, none⟩ 1 1 [e0, e1] rfl
    (by
      intro j u hj
      rw [Addr.add_lit]
      refine cell_of_block (heap_alloc_at _ _) ?_
      rw [Nat.zero_add, List.getElem?_toArray]; exact hj)
    (by intro u hu; simp at hu; rcases hu with rfl | rfl <;> assumption) (by unfold maxLen; omega) (by omega) (by show base ≤ (w.heap.push _).size; simp; omega)
  exact ⟨v', w', fun ty => hr, ho, hg, ((Below.refl _ _).alloc hb _).grown hg (by show base ≤ (w.heap.push _).size; simp; omega) (fun k hk => (own.lt k hk).1), by rw [size_alloc] at hob; exact hob⟩
end Go.Proofs.YtkabnbopakfknaaDoor
