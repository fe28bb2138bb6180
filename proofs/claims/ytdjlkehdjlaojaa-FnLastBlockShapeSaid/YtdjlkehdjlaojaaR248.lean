/- compileLast's three variables: made in whatever order, then set (printed by wip/tools/gen_r248.py). -/
import Derived.Test.YtdjlkehdjlaojaaAb48
namespace Go.Proofs.Ytdjlkehdjlaojaa
open Go.RowKit
set_option linter.unusedVariables false
set_option linter.unusedSimpArgs false

noncomputable def ops2 : Array Oper := match Try.f25.body with
  | some (.seq _ (.seq _ (.seq (.region _ ops _) _))) => ops
  | _ => #[]
theorem size2 : ops2.size = 21 := by kernel_rfl
theorem back2 : edgesBack ops2 21 = true := by kernel_rfl
def tab2 (sc : Nat) (kid : Int) : List Value := [.pointer (some ⟨sc, 0, none⟩), .pointer (some ⟨sc, 0, none⟩), .pointer (some ⟨sc, 2, none⟩), .int .i64 kid, .agg #[.int .i64 kid, .int .i64 0], .pointer (some ⟨sc, 0, none⟩), .pointer (some ⟨sc, 0, none⟩), .pointer (some ⟨sc, 2, none⟩), .int .i64 kid, .agg #[.int .i64 kid, .int .i64 1], .pointer (some ⟨sc, 0, none⟩), .pointer (some ⟨sc, 0, none⟩), .pointer (some ⟨sc, 2, none⟩), .int .i64 kid, .agg #[.int .i64 kid, .int .i64 2]]
def var2 (kid : Int) (q : Nat) (set : Bool) : Array Value := if set then #[.int .i64 kid, .int .i64 ((q : Int) - 3)] else #[.int .i64 0, .int .i64 0]
def In2 (sc : Nat) (kid : Int) (W : World) (a0 : Act) (listed : Array Bool) (a : Act) (w : World) : Prop :=
  a.tmps.size = 106 ∧ a.defers = a0.defers ∧ (∀ s, s < 3 → a.tmps[s]? = a0.tmps[s]?) ∧ Below W.heap.size W w ∧ listed.size = 21 ∧
  (∀ i o, listed.getD i false = true → ops2[i]? = some o → ∀ e ∈ o.after, Region.binds .any e = true → listed.getD e.on false = true) ∧
  (∀ j, listed.getD j false = true → ∀ s, (tab2 sc kid)[j]? = some s → a.tmps[10 + j]? = some s) ∧
  ∃ B : Nat → Nat, (∀ q, 3 ≤ q → q ≤ 5 → listed.getD (12 + q) false = true → a.tmps[q]? = some (ptr (B q)) ∧ W.heap.size ≤ B q ∧ Nd (B q) 92 (var2 kid q (listed.getD (15 + q) false)) w) ∧
    ∀ q r, 3 ≤ q → q ≤ 5 → 3 ≤ r → r ≤ 5 → q ≠ r → listed.getD (12 + q) false = true → listed.getD (12 + r) false = true → B q ≠ B r
def Step2 (sc : Nat) (kid : Int) (W : World) (a0 : Act) (i : Nat) : Prop := ∀ (Q : Exit → Act → World → Prop) (listed : Array Bool) (a : Act) (w : World), In2 sc kid W a0 listed a w → i ∈ Region.ready .any ops2 listed → wpOp Try.prog ops2 Q i (fun a' w' => In2 sc kid W a0 (listed.setIfInBounds i true) a' w') a w
theorem clo2 {listed : Array Bool} {i : Nat} (hr : i ∈ Region.ready .any ops2 listed) (h : ∀ i o, listed.getD i false = true → ops2[i]? = some o → ∀ e ∈ o.after, Region.binds .any e = true → listed.getD e.on false = true) :
    ∀ j o, (listed.setIfInBounds i true).getD j false = true → ops2[j]? = some o → ∀ e ∈ o.after, Region.binds .any e = true → (listed.setIfInBounds i true).getD e.on false = true := by
  intro j o hj ho e he hb
  by_cases ej : j = i
  · subst ej; exact getD_set_true (before hr ho he hb)
  · rw [getD_set_ne false (Ne.symm ej)] at hj
    exact getD_set_true (h j o hj ho e he hb)
theorem in2_val {sc : Nat} {kid : Int} {W : World} {a0 : Act} {listed : Array Bool} {a : Act} {w : World} {i : Nat} {v : Value} (hI : In2 sc kid W a0 listed a w) (hr : i ∈ Region.ready .any ops2 listed) (hi : i < 15) (hv : (tab2 sc kid)[i]? = some v) : In2 sc kid W a0 (listed.setIfInBounds i true) (a.put (some (10 + i)) v) w := by
  obtain ⟨h1, h2, h3, h4, h5, h6, h7, B, h8, h9⟩ := hI
  refine ⟨?_, h2, ?_, h4, by rw [Array.size_setIfInBounds]; exact h5, clo2 hr h6, ?_, B, ?_, ?_⟩
  · show (a.tmps.setIfInBounds _ _).size = 106
    rw [Array.size_setIfInBounds]; exact h1
  · intro s hs
    rw [put_ne' (by omega)]; exact h3 s hs
  · intro j hj s hs
    by_cases e : j = i
    · subst e
      rw [hv] at hs
      cases hs
      exact put_same' (by omega)
    · rw [getD_set_ne false (Ne.symm e)] at hj
      rw [put_ne' (by omega)]
      exact h7 j hj s hs
  · intro q hq1 hq2 hl
    rw [getD_set_ne false (by omega)] at hl
    rw [getD_set_ne false (by omega), put_ne' (by omega)]
    exact h8 q hq1 hq2 hl
  · intro q r g1 g2 g3 g4 g5 g6 g7
    rw [getD_set_ne false (by omega)] at g6 g7
    exact h9 q r g1 g2 g3 g4 g5 g6 g7
theorem tab2_none (sc : Nat) (kid : Int) (j : Nat) (h : 15 ≤ j) : (tab2 sc kid)[j]? = none := List.getElem?_eq_none (by unfold tab2; simp only [List.length_cons, List.length_nil]; omega)
theorem in2_alloc {sc : Nat} {kid : Int} {W : World} {a0 : Act} {listed : Array Bool} {a : Act} {w : World} {q : Nat} (hI : In2 sc kid W a0 listed a w) (hr : 12 + q ∈ Region.ready .any ops2 listed) (hq1 : 3 ≤ q) (hq2 : q ≤ 5) (hns : listed.getD (15 + q) false = false) :
    In2 sc kid W a0 (listed.setIfInBounds (12 + q) true) (a.put (some q) (ptr w.heap.size)) (w.alloc (.cells #[.int .i64 0, .int .i64 0] 92)) := by
  obtain ⟨h1, h2, h3, h4, h5, h6, h7, B, h8, h9⟩ := hI
  refine ⟨?_, h2, ?_, h4.alloc h4.size _, by rw [Array.size_setIfInBounds]; exact h5, clo2 hr h6, ?_, fun x => if x = q then w.heap.size else B x, ?_, ?_⟩
  · show (a.tmps.setIfInBounds _ _).size = 106
    rw [Array.size_setIfInBounds]; exact h1
  · intro s hs
    rw [put_ne' (by omega)]; exact h3 s hs
  · intro j hj s hs
    by_cases e : j < 15
    · rw [getD_set_ne false (by omega)] at hj
      rw [put_ne' (by omega)]
      exact h7 j hj s hs
    · rw [tab2_none sc kid j (by omega)] at hs
      cases hs
  · intro r hr1 hr2 hl
    dsimp only
    by_cases e : r = q
    · subst e
      rw [if_pos rfl, getD_set_ne false (by omega), hns]
      exact ⟨put_same' (by omega), h4.size, Nd.newAt _ _ rfl⟩
    · rw [getD_set_ne false (by omega)] at hl
      rw [if_neg e, getD_set_ne false (by omega), put_ne' (Ne.symm e)]
      obtain ⟨g1, g2, g3⟩ := h8 r hr1 hr2 hl
      exact ⟨g1, g2, g3.alloc _⟩
  · intro r s g1 g2 g3 g4 g5 g6 g7
    dsimp only
    by_cases e : r = q
    · subst e
      rw [getD_set_ne false (by omega)] at g7
      rw [if_pos rfl, if_neg (Ne.symm g5)]
      have := (h8 s g3 g4 g7).2.2.lt
      omega
    · rw [getD_set_ne false (by omega)] at g6
      rw [if_neg e]
      by_cases e2 : s = q
      · rw [if_pos e2]
        have := (h8 r g1 g2 g6).2.2.lt
        omega
      · rw [getD_set_ne false (by omega)] at g7
        rw [if_neg e2]
        exact h9 r s g1 g2 g3 g4 g5 g6 g7
theorem in2_store {sc : Nat} {kid : Int} {W : World} {a0 : Act} {listed : Array Bool} {a : Act} {w : World} {q : Nat} {u : Value} (b : Nat) (hI : In2 sc kid W a0 listed a w) (hr : 15 + q ∈ Region.ready .any ops2 listed) (hq1 : 3 ≤ q) (hq2 : q ≤ 5) (hl0 : listed.getD (12 + q) false = true) (hb : a.tmps[q]? = some (ptr b)) :
    In2 sc kid W a0 (listed.setIfInBounds (15 + q) true) (a.put none u) ((w.setCell ⟨b, 0, none⟩ (.int .i64 kid)).setCell ⟨b, 1, none⟩ (.int .i64 ((q : Int) - 3))) := by
  obtain ⟨h1, h2, h3, h4, h5, h6, h7, B, h8, h9⟩ := hI
  obtain ⟨k1, k2, k3⟩ := h8 q hq1 hq2 hl0
  have hbq : b = B q := by
    rw [hb] at k1
    cases k1
    rfl
  subst hbq
  have hns : listed.getD (15 + q) false = false := getD_false' (mem_ready.1 hr).1
  refine ⟨h1, h2, h3, (h4.setCell k2 _).setCell k2 _, by rw [Array.size_setIfInBounds]; exact h5, clo2 hr h6, ?_, B, ?_, ?_⟩
  · intro j hj s hs
    by_cases e : j < 15
    · rw [getD_set_ne false (by omega)] at hj
      exact h7 j hj s hs
    · rw [tab2_none sc kid j (by omega)] at hs
      cases hs
  · intro r hr1 hr2 hl
    rw [getD_set_ne false (by omega)] at hl
    by_cases e : r = q
    · subst e
      rw [set_self (by omega)]
      refine ⟨k1, k2, ?_⟩
      rw [hns] at k3
      exact (k3.set 0 (.int .i64 kid)).set 1 (.int .i64 ((r : Int) - 3))
    · rw [getD_set_ne false (by omega)]
      obtain ⟨g1, g2, g3⟩ := h8 r hr1 hr2 hl
      have hne := h9 r q hr1 hr2 hq1 hq2 e hl hl0
      exact ⟨g1, g2, (g3.setNe hne _).setNe hne _⟩
  · intro r s g1 g2 g3 g4 g5 g6 g7
    rw [getD_set_ne false (by omega)] at g6 g7
    exact h9 r s g1 g2 g3 g4 g5 g6 g7
section
variable {sc : Nat} {kid : Int} {W : World} {a0 : Act}
theorem s2_0 (h2 : a0.tmps[2]? = some (ptr sc)) (hc : W.cell? ⟨sc, 2, none⟩ = some (.int .i64 kid)) : Step2 sc kid W a0 0 := by
  intro Q listed a w hI hr
  have ho : ops2[0]? = some (Oper.mk _ _ _ _ _ _) := rfl
  obtain ⟨hsz, hdf, hfx, hbw, hls, hclo, hgot, B, hA, hD⟩ := id hI
  have p2 : a.tmps[2]? = some (.pointer (some ⟨sc, 0, none⟩)) := (hfx 2 (by omega)).trans h2
  refine wpOp_val ho rfl (v := .pointer (some ⟨sc, 0, none⟩)) (w' := w) ?_ (in2_val hI hr (by omega) rfl)
  simp [execOp, go_sem, p2]
theorem s2_1 (h2 : a0.tmps[2]? = some (ptr sc)) (hc : W.cell? ⟨sc, 2, none⟩ = some (.int .i64 kid)) : Step2 sc kid W a0 1 := by
  intro Q listed a w hI hr
  have ho : ops2[1]? = some (Oper.mk _ _ _ _ _ _) := rfl
  obtain ⟨hsz, hdf, hfx, hbw, hls, hclo, hgot, B, hA, hD⟩ := id hI
  have p10 : a.tmps[10]? = some (.pointer (some ⟨sc, 0, none⟩)) := hgot 0 (before hr ho (e := ⟨0, .data⟩) (by simp) rfl) _ rfl
  refine wpOp_val ho rfl (v := .pointer (some ⟨sc, 0, none⟩)) (w' := w) ?_ (in2_val hI hr (by omega) rfl)
  simp [execOp, go_sem, p10]
theorem s2_2 (h2 : a0.tmps[2]? = some (ptr sc)) (hc : W.cell? ⟨sc, 2, none⟩ = some (.int .i64 kid)) : Step2 sc kid W a0 2 := by
  intro Q listed a w hI hr
  have ho : ops2[2]? = some (Oper.mk _ _ _ _ _ _) := rfl
  obtain ⟨hsz, hdf, hfx, hbw, hls, hclo, hgot, B, hA, hD⟩ := id hI
  have p11 : a.tmps[11]? = some (.pointer (some ⟨sc, 0, none⟩)) := hgot 1 (before hr ho (e := ⟨1, .data⟩) (by simp) rfl) _ rfl
  refine wpOp_val ho rfl (v := .pointer (some ⟨sc, 2, none⟩)) (w' := w) ?_ (in2_val hI hr (by omega) rfl)
  simp [execOp, go_sem, p11]
theorem s2_3 (h2 : a0.tmps[2]? = some (ptr sc)) (hc : W.cell? ⟨sc, 2, none⟩ = some (.int .i64 kid)) : Step2 sc kid W a0 3 := by
  intro Q listed a w hI hr
  have ho : ops2[3]? = some (Oper.mk _ _ _ _ _ _) := rfl
  obtain ⟨hsz, hdf, hfx, hbw, hls, hclo, hgot, B, hA, hD⟩ := id hI
  have p12 : a.tmps[12]? = some (.pointer (some ⟨sc, 2, none⟩)) := hgot 2 (before hr ho (e := ⟨2, .data⟩) (by simp) rfl) _ rfl
  have c0 := cell_stay hbw hc
  refine wpOp_val ho rfl (v := .int .i64 kid) (w' := w) ?_ (in2_val hI hr (by omega) rfl)
  simp [execOp, go_sem, p12, c0]
theorem s2_4 (h2 : a0.tmps[2]? = some (ptr sc)) (hc : W.cell? ⟨sc, 2, none⟩ = some (.int .i64 kid)) : Step2 sc kid W a0 4 := by
  intro Q listed a w hI hr
  have ho : ops2[4]? = some (Oper.mk _ _ _ _ _ _) := rfl
  obtain ⟨hsz, hdf, hfx, hbw, hls, hclo, hgot, B, hA, hD⟩ := id hI
  have p13 : a.tmps[13]? = some (.int .i64 kid) := hgot 3 (before hr ho (e := ⟨3, .data⟩) (by simp) rfl) _ rfl
  refine wpOp_val ho rfl (v := .agg #[.int .i64 kid, .int .i64 0]) (w' := w) ?_ (in2_val hI hr (by omega) rfl)
  simp [execOp, go_sem, p13]
theorem s2_5 (h2 : a0.tmps[2]? = some (ptr sc)) (hc : W.cell? ⟨sc, 2, none⟩ = some (.int .i64 kid)) : Step2 sc kid W a0 5 := by
  intro Q listed a w hI hr
  have ho : ops2[5]? = some (Oper.mk _ _ _ _ _ _) := rfl
  obtain ⟨hsz, hdf, hfx, hbw, hls, hclo, hgot, B, hA, hD⟩ := id hI
  have p2 : a.tmps[2]? = some (.pointer (some ⟨sc, 0, none⟩)) := (hfx 2 (by omega)).trans h2
  refine wpOp_val ho rfl (v := .pointer (some ⟨sc, 0, none⟩)) (w' := w) ?_ (in2_val hI hr (by omega) rfl)
  simp [execOp, go_sem, p2]
theorem s2_6 (h2 : a0.tmps[2]? = some (ptr sc)) (hc : W.cell? ⟨sc, 2, none⟩ = some (.int .i64 kid)) : Step2 sc kid W a0 6 := by
  intro Q listed a w hI hr
  have ho : ops2[6]? = some (Oper.mk _ _ _ _ _ _) := rfl
  obtain ⟨hsz, hdf, hfx, hbw, hls, hclo, hgot, B, hA, hD⟩ := id hI
  have p15 : a.tmps[15]? = some (.pointer (some ⟨sc, 0, none⟩)) := hgot 5 (before hr ho (e := ⟨5, .data⟩) (by simp) rfl) _ rfl
  refine wpOp_val ho rfl (v := .pointer (some ⟨sc, 0, none⟩)) (w' := w) ?_ (in2_val hI hr (by omega) rfl)
  simp [execOp, go_sem, p15]
theorem s2_7 (h2 : a0.tmps[2]? = some (ptr sc)) (hc : W.cell? ⟨sc, 2, none⟩ = some (.int .i64 kid)) : Step2 sc kid W a0 7 := by
  intro Q listed a w hI hr
  have ho : ops2[7]? = some (Oper.mk _ _ _ _ _ _) := rfl
  obtain ⟨hsz, hdf, hfx, hbw, hls, hclo, hgot, B, hA, hD⟩ := id hI
  have p16 : a.tmps[16]? = some (.pointer (some ⟨sc, 0, none⟩)) := hgot 6 (before hr ho (e := ⟨6, .data⟩) (by simp) rfl) _ rfl
  refine wpOp_val ho rfl (v := .pointer (some ⟨sc, 2, none⟩)) (w' := w) ?_ (in2_val hI hr (by omega) rfl)
  simp [execOp, go_sem, p16]
theorem s2_8 (h2 : a0.tmps[2]? = some (ptr sc)) (hc : W.cell? ⟨sc, 2, none⟩ = some (.int .i64 kid)) : Step2 sc kid W a0 8 := by
  intro Q listed a w hI hr
  have ho : ops2[8]? = some (Oper.mk _ _ _ _ _ _) := rfl
  obtain ⟨hsz, hdf, hfx, hbw, hls, hclo, hgot, B, hA, hD⟩ := id hI
  have p17 : a.tmps[17]? = some (.pointer (some ⟨sc, 2, none⟩)) := hgot 7 (before hr ho (e := ⟨7, .data⟩) (by simp) rfl) _ rfl
  have c0 := cell_stay hbw hc
  refine wpOp_val ho rfl (v := .int .i64 kid) (w' := w) ?_ (in2_val hI hr (by omega) rfl)
  simp [execOp, go_sem, p17, c0]
theorem s2_9 (h2 : a0.tmps[2]? = some (ptr sc)) (hc : W.cell? ⟨sc, 2, none⟩ = some (.int .i64 kid)) : Step2 sc kid W a0 9 := by
  intro Q listed a w hI hr
  have ho : ops2[9]? = some (Oper.mk _ _ _ _ _ _) := rfl
  obtain ⟨hsz, hdf, hfx, hbw, hls, hclo, hgot, B, hA, hD⟩ := id hI
  have p18 : a.tmps[18]? = some (.int .i64 kid) := hgot 8 (before hr ho (e := ⟨8, .data⟩) (by simp) rfl) _ rfl
  refine wpOp_val ho rfl (v := .agg #[.int .i64 kid, .int .i64 1]) (w' := w) ?_ (in2_val hI hr (by omega) rfl)
  simp [execOp, go_sem, p18]
theorem s2_10 (h2 : a0.tmps[2]? = some (ptr sc)) (hc : W.cell? ⟨sc, 2, none⟩ = some (.int .i64 kid)) : Step2 sc kid W a0 10 := by
  intro Q listed a w hI hr
  have ho : ops2[10]? = some (Oper.mk _ _ _ _ _ _) := rfl
  obtain ⟨hsz, hdf, hfx, hbw, hls, hclo, hgot, B, hA, hD⟩ := id hI
  have p2 : a.tmps[2]? = some (.pointer (some ⟨sc, 0, none⟩)) := (hfx 2 (by omega)).trans h2
  refine wpOp_val ho rfl (v := .pointer (some ⟨sc, 0, none⟩)) (w' := w) ?_ (in2_val hI hr (by omega) rfl)
  simp [execOp, go_sem, p2]
theorem s2_11 (h2 : a0.tmps[2]? = some (ptr sc)) (hc : W.cell? ⟨sc, 2, none⟩ = some (.int .i64 kid)) : Step2 sc kid W a0 11 := by
  intro Q listed a w hI hr
  have ho : ops2[11]? = some (Oper.mk _ _ _ _ _ _) := rfl
  obtain ⟨hsz, hdf, hfx, hbw, hls, hclo, hgot, B, hA, hD⟩ := id hI
  have p20 : a.tmps[20]? = some (.pointer (some ⟨sc, 0, none⟩)) := hgot 10 (before hr ho (e := ⟨10, .data⟩) (by simp) rfl) _ rfl
  refine wpOp_val ho rfl (v := .pointer (some ⟨sc, 0, none⟩)) (w' := w) ?_ (in2_val hI hr (by omega) rfl)
  simp [execOp, go_sem, p20]
theorem s2_12 (h2 : a0.tmps[2]? = some (ptr sc)) (hc : W.cell? ⟨sc, 2, none⟩ = some (.int .i64 kid)) : Step2 sc kid W a0 12 := by
  intro Q listed a w hI hr
  have ho : ops2[12]? = some (Oper.mk _ _ _ _ _ _) := rfl
  obtain ⟨hsz, hdf, hfx, hbw, hls, hclo, hgot, B, hA, hD⟩ := id hI
  have p21 : a.tmps[21]? = some (.pointer (some ⟨sc, 0, none⟩)) := hgot 11 (before hr ho (e := ⟨11, .data⟩) (by simp) rfl) _ rfl
  refine wpOp_val ho rfl (v := .pointer (some ⟨sc, 2, none⟩)) (w' := w) ?_ (in2_val hI hr (by omega) rfl)
  simp [execOp, go_sem, p21]
theorem s2_13 (h2 : a0.tmps[2]? = some (ptr sc)) (hc : W.cell? ⟨sc, 2, none⟩ = some (.int .i64 kid)) : Step2 sc kid W a0 13 := by
  intro Q listed a w hI hr
  have ho : ops2[13]? = some (Oper.mk _ _ _ _ _ _) := rfl
  obtain ⟨hsz, hdf, hfx, hbw, hls, hclo, hgot, B, hA, hD⟩ := id hI
  have p22 : a.tmps[22]? = some (.pointer (some ⟨sc, 2, none⟩)) := hgot 12 (before hr ho (e := ⟨12, .data⟩) (by simp) rfl) _ rfl
  have c0 := cell_stay hbw hc
  refine wpOp_val ho rfl (v := .int .i64 kid) (w' := w) ?_ (in2_val hI hr (by omega) rfl)
  simp [execOp, go_sem, p22, c0]
theorem s2_14 (h2 : a0.tmps[2]? = some (ptr sc)) (hc : W.cell? ⟨sc, 2, none⟩ = some (.int .i64 kid)) : Step2 sc kid W a0 14 := by
  intro Q listed a w hI hr
  have ho : ops2[14]? = some (Oper.mk _ _ _ _ _ _) := rfl
  obtain ⟨hsz, hdf, hfx, hbw, hls, hclo, hgot, B, hA, hD⟩ := id hI
  have p23 : a.tmps[23]? = some (.int .i64 kid) := hgot 13 (before hr ho (e := ⟨13, .data⟩) (by simp) rfl) _ rfl
  refine wpOp_val ho rfl (v := .agg #[.int .i64 kid, .int .i64 2]) (w' := w) ?_ (in2_val hI hr (by omega) rfl)
  simp [execOp, go_sem, p23]
theorem s2_15 (h2 : a0.tmps[2]? = some (ptr sc)) (hc : W.cell? ⟨sc, 2, none⟩ = some (.int .i64 kid)) : Step2 sc kid W a0 15 := by
  intro Q listed a w hI hr
  have ho : ops2[15]? = some (Oper.mk _ _ _ _ _ _) := rfl
  obtain ⟨hsz, hdf, hfx, hbw, hls, hclo, hgot, B, hA, hD⟩ := id hI
  have hos : ops2[18]? = some (Oper.mk _ _ _ _ _ _) := rfl
  have hns : listed.getD 18 false = false := by
    cases hl : listed.getD 18 false with
    | false => rfl
    | true =>
      have h9 := hclo 18 _ hl hos ⟨15, .data⟩ (by simp) rfl
      have h10 := getD_false' (mem_ready.1 hr).1
      rw [show listed.getD 15 false = true from h9] at h10
      cases h10
  refine wpOp_val ho rfl (v := ptr w.heap.size) (w' := w.alloc (.cells #[.int .i64 0, .int .i64 0] 92)) ?_ (in2_alloc (q := 3) hI hr (by omega) (by omega) hns)
  simp [execOp, go_sem, ptr]
theorem s2_16 (h2 : a0.tmps[2]? = some (ptr sc)) (hc : W.cell? ⟨sc, 2, none⟩ = some (.int .i64 kid)) : Step2 sc kid W a0 16 := by
  intro Q listed a w hI hr
  have ho : ops2[16]? = some (Oper.mk _ _ _ _ _ _) := rfl
  obtain ⟨hsz, hdf, hfx, hbw, hls, hclo, hgot, B, hA, hD⟩ := id hI
  have hos : ops2[19]? = some (Oper.mk _ _ _ _ _ _) := rfl
  have hns : listed.getD 19 false = false := by
    cases hl : listed.getD 19 false with
    | false => rfl
    | true =>
      have h9 := hclo 19 _ hl hos ⟨16, .data⟩ (by simp) rfl
      have h10 := getD_false' (mem_ready.1 hr).1
      rw [show listed.getD 16 false = true from h9] at h10
      cases h10
  refine wpOp_val ho rfl (v := ptr w.heap.size) (w' := w.alloc (.cells #[.int .i64 0, .int .i64 0] 92)) ?_ (in2_alloc (q := 4) hI hr (by omega) (by omega) hns)
  simp [execOp, go_sem, ptr]
theorem s2_17 (h2 : a0.tmps[2]? = some (ptr sc)) (hc : W.cell? ⟨sc, 2, none⟩ = some (.int .i64 kid)) : Step2 sc kid W a0 17 := by
  intro Q listed a w hI hr
  have ho : ops2[17]? = some (Oper.mk _ _ _ _ _ _) := rfl
  obtain ⟨hsz, hdf, hfx, hbw, hls, hclo, hgot, B, hA, hD⟩ := id hI
  have hos : ops2[20]? = some (Oper.mk _ _ _ _ _ _) := rfl
  have hns : listed.getD 20 false = false := by
    cases hl : listed.getD 20 false with
    | false => rfl
    | true =>
      have h9 := hclo 20 _ hl hos ⟨17, .data⟩ (by simp) rfl
      have h10 := getD_false' (mem_ready.1 hr).1
      rw [show listed.getD 17 false = true from h9] at h10
      cases h10
  refine wpOp_val ho rfl (v := ptr w.heap.size) (w' := w.alloc (.cells #[.int .i64 0, .int .i64 0] 92)) ?_ (in2_alloc (q := 5) hI hr (by omega) (by omega) hns)
  simp [execOp, go_sem, ptr]
theorem s2_18 (h2 : a0.tmps[2]? = some (ptr sc)) (hc : W.cell? ⟨sc, 2, none⟩ = some (.int .i64 kid)) : Step2 sc kid W a0 18 := by
  intro Q listed a w hI hr
  have ho : ops2[18]? = some (Oper.mk _ _ _ _ _ _) := rfl
  obtain ⟨hsz, hdf, hfx, hbw, hls, hclo, hgot, B, hA, hD⟩ := id hI
  have hl0 : listed.getD 15 false = true := before hr ho (e := ⟨15, .data⟩) (by simp) rfl
  have p14 : a.tmps[14]? = some (.agg #[.int .i64 kid, .int .i64 0]) := hgot 4 (before hr ho (e := ⟨4, .data⟩) (by simp) rfl) _ rfl
  obtain ⟨k1, k2, k3⟩ := hA 3 (by omega) (by omega) hl0
  have hns : listed.getD 18 false = false := getD_false' (mem_ready.1 hr).1
  rw [show 15 + 3 = 18 from rfl, hns] at k3
  have k3 : Nd (B 3) 92 #[.int .i64 0, .int .i64 0] w := k3
  have c0 := k3.cell 0 (v := .int .i64 0) rfl
  have f0 := k3.free 0
  have k4 := k3.set 0 (.int .i64 kid)
  have c1 := k4.cell 1 (v := .int .i64 0) rfl
  have f1 := k4.free 1
  unfold ptr at k1
  refine wpOp_skip ho rfl (w' := (w.setCell ⟨B 3, 0, none⟩ (.int .i64 kid)).setCell ⟨B 3, 1, none⟩ (.int .i64 0)) ?_ (in2_store (q := 3) (B 3) hI hr (by omega) (by omega) hl0 k1)
  simp [execOp, go_sem, k1, p14, c0, f0, c1, f1]
theorem s2_19 (h2 : a0.tmps[2]? = some (ptr sc)) (hc : W.cell? ⟨sc, 2, none⟩ = some (.int .i64 kid)) : Step2 sc kid W a0 19 := by
  intro Q listed a w hI hr
  have ho : ops2[19]? = some (Oper.mk _ _ _ _ _ _) := rfl
  obtain ⟨hsz, hdf, hfx, hbw, hls, hclo, hgot, B, hA, hD⟩ := id hI
  have hl0 : listed.getD 16 false = true := before hr ho (e := ⟨16, .data⟩) (by simp) rfl
  have p19 : a.tmps[19]? = some (.agg #[.int .i64 kid, .int .i64 1]) := hgot 9 (before hr ho (e := ⟨9, .data⟩) (by simp) rfl) _ rfl
  obtain ⟨k1, k2, k3⟩ := hA 4 (by omega) (by omega) hl0
  have hns : listed.getD 19 false = false := getD_false' (mem_ready.1 hr).1
  rw [show 15 + 4 = 19 from rfl, hns] at k3
  have k3 : Nd (B 4) 92 #[.int .i64 0, .int .i64 0] w := k3
  have c0 := k3.cell 0 (v := .int .i64 0) rfl
  have f0 := k3.free 0
  have k4 := k3.set 0 (.int .i64 kid)
  have c1 := k4.cell 1 (v := .int .i64 0) rfl
  have f1 := k4.free 1
  unfold ptr at k1
  refine wpOp_skip ho rfl (w' := (w.setCell ⟨B 4, 0, none⟩ (.int .i64 kid)).setCell ⟨B 4, 1, none⟩ (.int .i64 1)) ?_ (in2_store (q := 4) (B 4) hI hr (by omega) (by omega) hl0 k1)
  simp [execOp, go_sem, k1, p19, c0, f0, c1, f1]
theorem s2_20 (h2 : a0.tmps[2]? = some (ptr sc)) (hc : W.cell? ⟨sc, 2, none⟩ = some (.int .i64 kid)) : Step2 sc kid W a0 20 := by
  intro Q listed a w hI hr
  have ho : ops2[20]? = some (Oper.mk _ _ _ _ _ _) := rfl
  obtain ⟨hsz, hdf, hfx, hbw, hls, hclo, hgot, B, hA, hD⟩ := id hI
  have hl0 : listed.getD 17 false = true := before hr ho (e := ⟨17, .data⟩) (by simp) rfl
  have p24 : a.tmps[24]? = some (.agg #[.int .i64 kid, .int .i64 2]) := hgot 14 (before hr ho (e := ⟨14, .data⟩) (by simp) rfl) _ rfl
  obtain ⟨k1, k2, k3⟩ := hA 5 (by omega) (by omega) hl0
  have hns : listed.getD 20 false = false := getD_false' (mem_ready.1 hr).1
  rw [show 15 + 5 = 20 from rfl, hns] at k3
  have k3 : Nd (B 5) 92 #[.int .i64 0, .int .i64 0] w := k3
  have c0 := k3.cell 0 (v := .int .i64 0) rfl
  have f0 := k3.free 0
  have k4 := k3.set 0 (.int .i64 kid)
  have c1 := k4.cell 1 (v := .int .i64 0) rfl
  have f1 := k4.free 1
  unfold ptr at k1
  refine wpOp_skip ho rfl (w' := (w.setCell ⟨B 5, 0, none⟩ (.int .i64 kid)).setCell ⟨B 5, 1, none⟩ (.int .i64 2)) ?_ (in2_store (q := 5) (B 5) hI hr (by omega) (by omega) hl0 k1)
  simp [execOp, go_sem, k1, p24, c0, f0, c1, f1]
theorem s2_all (h2 : a0.tmps[2]? = some (ptr sc)) (hc : W.cell? ⟨sc, 2, none⟩ = some (.int .i64 kid)) : ∀ i, i < 21 → Step2 sc kid W a0 i := by
  intro i hi0
  match i, hi0 with
  | 0, _ => exact s2_0 h2 hc
  | 1, _ => exact s2_1 h2 hc
  | 2, _ => exact s2_2 h2 hc
  | 3, _ => exact s2_3 h2 hc
  | 4, _ => exact s2_4 h2 hc
  | 5, _ => exact s2_5 h2 hc
  | 6, _ => exact s2_6 h2 hc
  | 7, _ => exact s2_7 h2 hc
  | 8, _ => exact s2_8 h2 hc
  | 9, _ => exact s2_9 h2 hc
  | 10, _ => exact s2_10 h2 hc
  | 11, _ => exact s2_11 h2 hc
  | 12, _ => exact s2_12 h2 hc
  | 13, _ => exact s2_13 h2 hc
  | 14, _ => exact s2_14 h2 hc
  | 15, _ => exact s2_15 h2 hc
  | 16, _ => exact s2_16 h2 hc
  | 17, _ => exact s2_17 h2 hc
  | 18, _ => exact s2_18 h2 hc
  | 19, _ => exact s2_19 h2 hc
  | 20, _ => exact s2_20 h2 hc
  | i + 21, hi => omega
theorem region2 (hn : a0.tmps.size = 106) (h2 : a0.tmps[2]? = some (ptr sc)) (hc : W.cell? ⟨sc, 2, none⟩ = some (.int .i64 kid)) (Q : Exit → Act → World → Prop)
    (hend : ∀ (a : Act) (w : World) (b3 b4 b5 : Nat), a.tmps.size = 106 → a.defers = a0.defers → (∀ s, s < 3 → a.tmps[s]? = a0.tmps[s]?) → Below W.heap.size W w → (a.tmps[3]? = some (ptr b3) ∧ W.heap.size ≤ b3 ∧ Nd b3 92 #[.int .i64 kid, .int .i64 0] w) → (a.tmps[4]? = some (ptr b4) ∧ W.heap.size ≤ b4 ∧ Nd b4 92 #[.int .i64 kid, .int .i64 1] w) → (a.tmps[5]? = some (ptr b5) ∧ W.heap.size ≤ b5 ∧ Nd b5 92 #[.int .i64 kid, .int .i64 2] w) → Q .normal a w) :
    wpAny Try.prog .any ops2 Q 21 (Array.replicate 21 false) a0 W := by
  have hnone : ∀ j, (Array.replicate 21 false).getD j false = true → False := by
    intro j h
    rw [Array.getD_eq_getD_getElem?] at h
    by_cases hj : j < 21
    · simp [hj] at h
    · simp [hj] at h
  refine wpAny_inv (fun listed a w => In2 sc kid W a0 listed a w) ?_ ?_ 21 _ a0 W ⟨hn, rfl, fun _ _ => rfl, Below.refl _ _, by simp, fun i o h => (hnone i h).elim, fun j h => (hnone j h).elim, fun _ => 0, fun q _ _ h => (hnone _ h).elim, fun q r _ _ _ _ _ h => (hnone _ h).elim⟩ (by unfold toDo; exact Nat.le_trans List.countP_le_length (by simp))
  · intro listed a w i hI hr
    refine s2_all h2 hc i ?_ Q listed a w hI hr
    obtain ⟨_, o, ho, _⟩ := mem_ready.1 hr
    have := (Array.getElem?_eq_some_iff.1 ho).1
    rw [size2] at this
    exact this
  · intro listed a w hI hr
    obtain ⟨h1, h2', h3, h4, h5, h6, h7, B, h8, h9⟩ := hI
    have hall := all_listed size2 back2 h5 hr
    have k3 := h8 3 (by omega) (by omega) (hall _ (by omega))
    have k4 := h8 4 (by omega) (by omega) (hall _ (by omega))
    have k5 := h8 5 (by omega) (by omega) (hall _ (by omega))
    rw [hall _ (by omega)] at k3 k4 k5
    exact hend a w (B 3) (B 4) (B 5) h1 h2' h3 h4 k3 k4 k5
end
end Go.Proofs.Ytdjlkehdjlaojaa
