/- The closure that sets the jump; the builtin's end. -/
import Derived.Test.YtdjlkehdjlaojaaLz48
import Derived.Laws.OwnMore
import Derived.Defers
namespace Go.Proofs.Ytdjlkehdjlaojaa
open Go.RowKit
set_option linter.unusedVariables false
set_option linter.unusedSimpArgs false

theorem set_any (fx bx ix cx cp i base cg n cap : Nat) (C : Array Value) (xs : List Value) (w : World) (hF : Nd fx 109 #[.func (.func 36) #[] #[ptr cx]] w) (hB : Nd bx 22 #[ptr cp] w) (hI : Nd ix 3 #[.int .i64 i] w) (hX : Nd cx 22 #[ptr cp] w) (hC : Nd cp 82 C w) (h5 : C[5]? = some (.slice (some ⟨cg, 0, none⟩) n cap)) (own : w.ownsRow base 84 1 (.slice (some ⟨cg, 0, none⟩) n cap) n xs) (hi : i < n) :
    Calls Try.prog 39 #[ptr fx, ptr bx, ptr ix] w fun e w' => e = .returned (.tuple #[]) ∧ w' = ((w.drew.alloc (.cells #[.iface 3 (.int .i64 n), .int .i64 15] 87)).setCell ⟨cg, i, none⟩ (ptr w.heap.size)) := by
  have hcell : ∀ W : World, W.ownsRow base 84 1 (.slice (some ⟨cg, 0, none⟩) n cap) n xs → (W.cell? ⟨cg, i, none⟩).isSome = true ∧ W.frozen? ⟨cg, i, none⟩ = false := fun W h => by
    refine ⟨?_, h.frozenAt i⟩
    rw [h.cellAt i (by omega)]
    have := h.1
    rw [List.getElem?_eq_getElem (by omega)]
    rfl
  have hj := jump_any cx cp C (some ⟨cg, 0, none⟩) n cap w.drew (hX.cell 0 rfl) hC h5
  obtain ⟨k1, k2⟩ := hcell (w.drew.alloc (.cells #[.iface 3 (.int .i64 n), .int .i64 15] 87)) (World.ownsRow.alloc (w := w.drew) own _)
  have hJ : ∀ W, W = w.drew → Nd fx 109 #[.func (.func 36) #[] #[ptr cx]] W ∧ Nd bx 22 #[ptr cp] W ∧ Nd ix 3 #[.int .i64 i] W ∧ Nd cp 82 C W := fun W h => by rw [h]; exact ⟨hF, hB, hI, hC⟩
  obtain ⟨j1, j2, j3, j4⟩ := hJ _ rfl
  unfold ptr
  go_enter Try.func39, Try.ntmps39
  refine wp_region_any (by kernel_rfl) ?_
  change wpAny _ .any ops39 _ 9 (Array.replicate 9 false) _ (World.drew _)
  refine region39 (fx := fx) (bx := bx) (ix := ix) (cx := cx) (cp := cp) (ii := i) (cg := cg) (n := n) (cap := cap) (m := n) (W := w.drew) rfl rfl rfl rfl ?_ hj hi k1 k2 _ ?_
  · intro s hs
    match s, hs with
    | 0, _ => exact ⟨j2.cell 0 rfl, j3.cell 0 rfl, j4.cell 5 h5, j1.cell 0 rfl⟩
    | 1, _ => exact ⟨(j2.alloc _).cell 0 rfl, (j3.alloc _).cell 0 rfl, (j4.alloc _).cell 5 h5, (j1.alloc _).cell 0 rfl⟩
    | s + 2, h => omega
  intro a2 h2 hd hfx
  refine bodyPost_end (results_none rfl _ _ _) hd ?_
  exact ⟨rfl, rfl⟩
/-- The builtin's end: the jump is set. -/
theorem end_any (sx nx fx bx ix cx cp i base cg n cap : Nat) (C : Array Value) (nm : ByteArray) (xs : List Value) (w : World) (hS : Nd sx 1 #[.func (.func 39) #[] #[ptr fx, ptr bx, ptr ix]] w) (hn : Nd nx 9 #[.string nm] w) (hnm : nm.size ≤ 1000) (hF : Nd fx 109 #[.func (.func 36) #[] #[ptr cx]] w) (hB : Nd bx 22 #[ptr cp] w) (hI : Nd ix 3 #[.int .i64 i] w) (hX : Nd cx 22 #[ptr cp] w) (hC : Nd cp 82 C w) (h5 : C[5]? = some (.slice (some ⟨cg, 0, none⟩) n cap)) (own : w.ownsRow base 84 1 (.slice (some ⟨cg, 0, none⟩) n cap) n xs) (hi : i < n) (hcg : ∀ k, (k = cx ∨ k = nx) → k ≠ cg) :
    Calls Try.prog 38 #[ptr sx, ptr cx, ptr nx] w fun e w' => e = .returned (.tuple #[]) ∧ w' = ((w.drew.alloc (.cells #[.iface 3 (.int .i64 n), .int .i64 15] 87)).setCell ⟨cg, i, none⟩ (ptr w.heap.size)) := by
  have HC := Lib.hid (set_any fx bx ix cx cp i base cg n cap C xs w hF hB hI hX hC h5 own hi)
  have c0 := hS.cell 0 rfl
  obtain ⟨W, hW⟩ : ∃ W, W = ((w.drew.alloc (.cells #[.iface 3 (.int .i64 n), .int .i64 15] 87)).setCell ⟨cg, i, none⟩ (ptr w.heap.size)) := ⟨_, rfl⟩
  rw [← hW] at HC ⊢
  have e1 : W.cell? ⟨cx, 0, none⟩ = some (ptr cp) := by rw [hW]; exact (((show Nd cx 22 #[ptr cp] w.drew from hX).alloc _).setNe (hcg cx (.inl rfl)) _).cell 0 rfl
  have e2 : W.cell? ⟨nx, 0, none⟩ = some (.string nm) := by rw [hW]; exact (((show Nd nx 9 #[.string nm] w.drew from hn).alloc _).setNe (hcg nx (.inr rfl)) _).cell 0 rfl
  have HI := Lib.hid (codeInfo_any (.pointer (some ⟨cp, 0, none⟩)))
  clear hF hB hI hX hC h5 own hi hcg hS hn hW
  simp only [List.getElem_toArray, List.getElem_cons_zero] at c0
  unfold ptr at *
  go_enter Try.func38, Try.ntmps38
  go_wp2_with fail
  refine HC.out.mono ?_
  rintro e w1 ⟨rfl, hw1⟩
  obtain rfl : W = w1 := hw1.symm
  go_wp2_with fail
  refine (HI.out _ _).mono ?_
  rintro e w2 ⟨rfl, hw2⟩
  obtain rfl : W = w2 := hw2.symm
  go_wp2_with fail
  go_end0
  exact ⟨rfl, rfl⟩
/-- The same, as a deferred call. -/
theorem end_d (sx nx fx bx ix cx cp i base cg n cap : Nat) (C : Array Value) (nm : ByteArray) (xs : List Value) (w : World) (hS : Nd sx 1 #[.func (.func 39) #[] #[ptr fx, ptr bx, ptr ix]] w) (hn : Nd nx 9 #[.string nm] w) (hnm : nm.size ≤ 1000) (hF : Nd fx 109 #[.func (.func 36) #[] #[ptr cx]] w) (hB : Nd bx 22 #[ptr cp] w) (hI : Nd ix 3 #[.int .i64 i] w) (hX : Nd cx 22 #[ptr cp] w) (hC : Nd cp 82 C w) (h5 : C[5]? = some (.slice (some ⟨cg, 0, none⟩) n cap)) (own : w.ownsRow base 84 1 (.slice (some ⟨cg, 0, none⟩) n cap) n xs) (hi : i < n) (hcg : ∀ k, (k = cx ∨ k = nx) → k ≠ cg) (u : FrameMode) :
    CallsD Try.prog 38 #[ptr sx, ptr cx, ptr nx] u w fun e u' w' => u' = u ∧ (e = .returned (.tuple #[]) ∧ w' = ((w.drew.alloc (.cells #[.iface 3 (.int .i64 n), .int .i64 15] 87)).setCell ⟨cg, i, none⟩ (ptr w.heap.size))) := by
  have HC := Lib.hid (set_any fx bx ix cx cp i base cg n cap C xs w hF hB hI hX hC h5 own hi)
  have c0 := hS.cell 0 rfl
  obtain ⟨W, hW⟩ : ∃ W, W = ((w.drew.alloc (.cells #[.iface 3 (.int .i64 n), .int .i64 15] 87)).setCell ⟨cg, i, none⟩ (ptr w.heap.size)) := ⟨_, rfl⟩
  rw [← hW] at HC ⊢
  have e1 : W.cell? ⟨cx, 0, none⟩ = some (ptr cp) := by rw [hW]; exact (((show Nd cx 22 #[ptr cp] w.drew from hX).alloc _).setNe (hcg cx (.inl rfl)) _).cell 0 rfl
  have e2 : W.cell? ⟨nx, 0, none⟩ = some (.string nm) := by rw [hW]; exact (((show Nd nx 9 #[.string nm] w.drew from hn).alloc _).setNe (hcg nx (.inr rfl)) _).cell 0 rfl
  have HI := Lib.hid (codeInfo_any (.pointer (some ⟨cp, 0, none⟩)))
  clear hF hB hI hX hC h5 own hi hcg hS hn hW
  simp only [List.getElem_toArray, List.getElem_cons_zero] at c0
  unfold ptr at *
  go_enter_d Try.func38, Try.ntmps38
  go_wp2_with fail
  refine HC.out.mono ?_
  rintro e w1 ⟨rfl, hw1⟩
  obtain rfl : W = w1 := hw1.symm
  go_wp2_with fail
  refine (HI.out _ _).mono ?_
  rintro e w2 ⟨rfl, hw2⟩
  obtain rfl : W = w2 := hw2.symm
  go_wp2_with fail
  go_end0
  exact ⟨rfl, rfl⟩
end Go.Proofs.Ytdjlkehdjlaojaa
