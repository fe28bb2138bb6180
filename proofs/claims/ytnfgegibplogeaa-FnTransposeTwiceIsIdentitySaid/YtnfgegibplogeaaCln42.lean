/- Copies of rows and of matrices. -/
import Derived.Test.YtnfgegibplogeaaMat42
namespace Go.Proofs.Ytnfgegibplogeaa
open Go.RowKit
set_option linter.unusedVariables false
/-- The value v leads to no block below n. -/
def Fr (n : Nat) (v : Value) : Prop := ∀ b o i l c, v = .slice (some ⟨b, o, i⟩) l c → n ≤ b
theorem Sl.setNe {v : Value} {l : List Value} {w : World} (h : Sl v l w) {g k : Nat} (hf : Fr (g + 1) v) (x : Value) : Sl v l (w.setCell ⟨g, k, none⟩ x) := by
  obtain ⟨a, cap, hv, h1, h2, h3, h4⟩ := h
  refine ⟨a, cap, hv, h1, h2, h3, ?_⟩
  rcases h4 with h0 | ⟨b, off, ha, hc⟩
  · exact .inl h0
  · refine .inr ⟨b, off, ha, fun i hi => ?_⟩
    have hb := hf b off none _ _ (by rw [hv, ha])
    rw [← hc i hi]
    unfold World.cell?
    simp only
    rw [heap_setCell_ne (by omega)]
theorem info_cloneInts : (Try.prog.info? 3).map (fun i => (i.zero, i.size, decide (i.bytes ≤ 16))) = some (some (Value.int .i64 0), 1, true) := by kernel_rfl
set_option maxHeartbeats 1000000 in
set_option maxRecDepth 100000 in
theorem clone_cloneInts (v : Value) (xs : List Int) (w : World) (h : Sl v (xs.map (Value.int .i64)) w) (hl : xs.length ≤ 1048576) :
    Calls Try.prog 11 #[v] w fun e w' => ∃ v', e = .returned v' ∧ Sl v' (xs.map (Value.int .i64)) w' ∧ Below w.heap.size w w' ∧ Fr w.heap.size v' := by
  obtain ⟨l, hl0⟩ : ∃ l, l = xs.map (Value.int .i64) := ⟨_, rfl⟩
  rw [← hl0] at h ⊢
  have hll : l.length = xs.length := by rw [hl0]; simp
  have hl : l.length ≤ 1048576 := by omega
  have HL0 := Lib.hid hl0
  clear hl0 hll
  have hnil := fun (w : World) (a : Option Addr) (n c n' c' : Nat) => Lib.run_eql_slice_nil (P := Try.prog) w 26 3 a n c n' c' Try.underlying26
  obtain ⟨a, cap, rfl, h1, h2, h3, h4⟩ := h
  cases a with
  | none =>
    have h0 : l = [] := h4.resolve_right (fun ⟨b, off, h, _⟩ => by cases h)
    subst h0
    clear h4 h3
    go_enter Try.func11, Try.ntmps11
    go_wp2_with fail
    go_ret
    exact ⟨_, rfl, Sl.nil _, Below.refl _ _, fun b o i l c h => by cases h⟩
  | some ad =>
    have hmk := fun W => run_mkE info_cloneInts Try.underlying26 rfl l.length hl W
    have H4 := Lib.hid h4
    have HLL := Lib.hid hl
    clear h4 h3 h1 h2
    go_enter Try.func11, Try.ntmps11
    go_wp2_with fail
    obtain ⟨W, hW⟩ : ∃ W, W = w.alloc (.cells (Array.replicate l.length (Value.int .i64 0)) 3) := ⟨_, rfl⟩
    rw [← hW]
    have hb0 : Below w.heap.size w W := by rw [hW]; exact (Below.refl _ _).alloc (Nat.le_refl _) _
    have hN0 : W.heap[w.heap.size]? = some (.cells (l.take 0 ++ List.replicate (l.length - 0) (Value.int .i64 0)).toArray 3 (0, 0)) := by rw [hW]; exact (heap_alloc_at _ _).trans (by simp)
    obtain ⟨g, hg⟩ : ∃ g, g = w.heap.size := ⟨_, rfl⟩
    have hgB : w.heap.size ≤ g := by omega
    rw [← hg] at hN0 ⊢
    have HG := Lib.hid hg
    clear hmk hW hg
    go_loopw [4] (CRel l (Value.int .i64 0) g 3 w W) (fun i _ => l.length - (intOf i).toNat)
    case atStart => exact ⟨0, Nat.zero_le _, rfl, hN0, hb0, Below.refl _ _⟩
    case round =>
      obtain ⟨k, hk, rfl, hN, hb, hbW⟩ := hrel
      by_cases hlt : k < l.length
      · obtain ⟨b, off, ha, hc⟩ := H4.out.resolve_left (fun h => by rw [h] at hlt; simp at hlt)
        cases ha
        have hblt := World.block_lt_of_cell? w _ (hc k hlt)
        have ck : wr.cell? ⟨b, off + k, none⟩ = some l[k] := (hb.cell hblt).trans (hc k hlt)
        have cg : wr.cell? ⟨g, k, none⟩ = some (Value.int .i64 0) := cell_of_block hN (clone_get l k _ hlt)
        have fg : wr.frozen? ⟨g, k, none⟩ = false := free_of_block hN
        have hN2 := heap_setCell_at (i := k) hN l[k]
        rw [clone_step l k (Value.int .i64 0) hlt] at hN2
        have hb2 := hb.setCell (p := ⟨g, k, none⟩) (by simpa using hgB) l[k]
        have hbW2 := hbW
        obtain ⟨y, hy⟩ : ∃ y, Value.int .i64 y = l[k] := by
          have h0 := HL0.out
          subst h0
          exact ⟨_, (List.getElem_map _).symm⟩
        rw [← hy] at ck hN2 hb2
        have HN2 := Lib.hid hN2
        clear hN hc hN2 hy
        go_wp2_with fail
        go_roundw
        case rel => exact ⟨k + 1, by omega, by go_num, HN2.out, hb2, (Below.refl _ _)⟩
        case measure => simp [intOf]; omega
      · obtain rfl : k = l.length := by omega
        have hN3 : wr.heap[g]? = some (.cells l.toArray 3 (0, 0)) := by simpa using hN
        have HN3 := Lib.hid hN3
        clear hN hN3
        go_wp2_with fail
        go_ret
        exact ⟨_, rfl, Sl.made HN3.out (by have := HLL.out; unfold maxLen; omega), hb, fun b o i l c h => by cases h; exact hgB⟩

theorem run_mkW {z : Value} {t e : TypeId} (hi : (Try.prog.info? e).map (fun i => (i.zero, i.size, decide (i.bytes ≤ 32))) = some (some z, 1, true)) (ht : Try.prog.underlying t = some (.slice e)) (hzc : z.cells = #[z]) (n : Nat) (hn : n ≤ 1048576) (W : World) :
    (Instr.makeSlice t (.int .i64 n) (.int .i64 n)).run Try.prog W = .ok (.slice (some ⟨W.heap.size, 0, none⟩) n n) (W.alloc (.cells (Array.replicate n z) e)) := by
  obtain ⟨i, hi0, hz⟩ := Option.map_eq_some_iff.1 hi
  simp only [Prod.mk.injEq, decide_eq_true_eq] at hz
  obtain ⟨hz0, hz1, hz2⟩ := hz
  have hb : n * i.bytes ≤ 1048576 * 32 := Nat.mul_le_mul hn hz2
  have hb2 : i.bytes * n ≤ 33554432 := by rw [Nat.mul_comm]; exact hb
  have := run_make (P := Try.prog) W t e i z ht hi0 hz0 .i64 .i64 n n (by omega) (Int.le_refl _) (by omega) (by omega)
  simp only [Int.toNat_natCast, hz1, Nat.mul_one] at this
  rw [this]
  have e : madeCells z.cells n = Array.replicate n z := by
    apply Array.ext'
    rw [hzc, toList_madeCells_one, Array.toList_replicate]
  rw [e]
theorem info_is : (Try.prog.info? 26).map (fun i => (i.zero, i.size, decide (i.bytes ≤ 32))) = some (some (Value.slice none 0 0), 1, true) := by kernel_rfl
theorem getOut (vs : List Value) (n : Nat) (z : Value) (h : vs.length < n) : (vs ++ List.replicate (n - vs.length) z).toArray[vs.length]? = some z := by
  rw [List.getElem?_toArray, List.getElem?_append_right (Nat.le_refl _), Nat.sub_self, List.getElem?_replicate, if_pos (by omega)]
theorem stepOut (vs : List Value) (n : Nat) (z x : Value) (h : vs.length < n) : ((vs ++ List.replicate (n - vs.length) z).toArray.setIfInBounds vs.length x) = ((vs ++ [x]) ++ List.replicate (n - (vs ++ [x]).length) z).toArray := by
  apply Array.ext'
  simp only [Array.toList_setIfInBounds]
  have e : n - vs.length = (n - (vs ++ [x]).length) + 1 := by simp; omega
  rw [e, List.replicate_succ]
  conv => lhs; rw [List.set_append_right _ _ (Nat.le_refl _), Nat.sub_self]
  rw [List.set_cons_zero, List.append_assoc]
  rfl
/-- While the rows are copied. -/
def CM (is : List (List Int)) (g B : Nat) (w : World) (vi : Value) (wr : World) : Prop :=
  ∃ vs : List Value, vs.length ≤ is.length ∧ vi = .int .i64 (vs.length : Nat) ∧ Hid (wr.heap[g]? = some (.cells (vs ++ List.replicate (is.length - vs.length) (Value.slice none 0 0)).toArray 26 (0, 0))) ∧
    Hid (∀ i (h : i < vs.length) (h2 : i < is.length), Sl vs[i] (is[i].map iV) wr ∧ Fr (g + 1) vs[i]) ∧ Below B w wr
theorem mV_at (is : List (List Int)) (i : Nat) (h : i < (mV is).length) : (mV is)[i] = (is[i]'(by rw [mV_len] at h; exact h)).map iV := by simp [mV]
set_option maxHeartbeats 1000000 in
set_option maxRecDepth 100000 in
theorem cm_any (v : Value) (is : List (List Int)) (w : World) (h : Rows v (mV is) w) (hn : is.length ≤ 1048576) (hr : ∀ i (h : i < is.length), is[i].length ≤ 1048576) :
    Calls Try.prog 7 #[v] w fun e w' => ∃ v', e = .returned v' ∧ Rows v' (mV is) w' ∧ Below w.heap.size w w' := by
  have hnil := fun (w : World) (a : Option Addr) (n c n' c' : Nat) => Lib.run_eql_slice_nil (P := Try.prog) w 22 26 a n c n' c' Try.underlying22
  have H := Lib.hid h
  have HR := Lib.hid hr
  obtain ⟨a, cap, ev⟩ := h.shape
  rw [mV_len] at ev
  subst ev
  cases a with
  | none =>
    have h0 : is = [] := by
      cases is with
      | nil => rfl
      | cons x l =>
        obtain ⟨b, off, ha, _⟩ := h.row (i := 0) (by simp [mV])
        cases ha
    subst h0
    clear h hr
    go_enter Try.func7, Try.ntmps7
    go_wp2_with fail
    go_ret
    exact ⟨_, rfl, ⟨[], Sl.nil _, rfl, fun i h => by simp at h⟩, Below.refl _ _⟩
  | some ad =>
    have hmk := fun W => run_mkW info_is Try.underlying22 rfl is.length hn W
    clear h hr
    go_enter Try.func7, Try.ntmps7
    go_wp2_with fail
    obtain ⟨W, hW⟩ : ∃ W, W = w.alloc (.cells (Array.replicate is.length (Value.slice none 0 0)) 26) := ⟨_, rfl⟩
    rw [← hW]
    obtain ⟨g, hg⟩ : ∃ g, g = w.heap.size := ⟨_, rfl⟩
    have hb0 : Below g w W := by rw [hW, hg]; exact (Below.refl _ _).alloc (Nat.le_refl _) _
    have hN0 : W.heap[g]? = some (.cells ([] ++ List.replicate (is.length - ([] : List Value).length) (Value.slice none 0 0)).toArray 26 (0, 0)) := by rw [hW, hg]; exact (heap_alloc_at _ _).trans (by simp)
    rw [← hg]
    have HG := Lib.hid hg
    have HN0 := Lib.hid hN0
    clear hmk hW hg hN0
    go_loopw [4] (CM is g g w) (fun i _ => is.length - (intOf i).toNat)
    case atStart => exact ⟨[], Nat.zero_le _, rfl, HN0, Lib.hid (fun i h => by simp at h), hb0⟩
    case round =>
      obtain ⟨vs, hk, rfl, hN, hS, hb⟩ := hrel
      by_cases hlt : vs.length < is.length
      · obtain ⟨b, off, ha, ai, ci, hc, hs⟩ := H.out.row (i := vs.length) (by rw [mV_len]; exact hlt)
        cases ha
        have hlr := HR.out vs.length hlt
        rw [mV_at] at hc hs
        have hblt := World.block_lt_of_cell? w _ hc
        have ck := (hb.cell (p := ⟨b, off + vs.length, none⟩) (by rw [HG.out]; exact hblt)).trans hc
        have HC := Lib.hid (clone_cloneInts _ is[vs.length] wr (hs.below hb (by rw [HG.out]; exact Nat.le_refl _)) hlr)
        have hgl : g < wr.heap.size := (Array.getElem?_eq_some_iff.1 hN.out).1
        obtain ⟨m, hm⟩ : ∃ m, (is[vs.length].map iV).length = m := ⟨_, rfl⟩
        rw [hm] at ck HC
        clear hc hs hm
        go_wp2_with fail
        refine HC.out.mono ?_
        rintro e w1 ⟨v1, rfl, hs1, hb1, hf1⟩
        have hN1 := (hb1.block g hgl).trans hN.out
        have cg : w1.cell? ⟨g, vs.length, none⟩ = some (Value.slice none 0 0) := cell_of_block hN1 (getOut vs is.length _ hlt)
        have fg : w1.frozen? ⟨g, vs.length, none⟩ = false := free_of_block hN1
        obtain ⟨a1, c1, e1⟩ := hs1.shape
        rw [List.length_map] at e1
        have hS2 : Hid (∀ i (h : i < (vs ++ [v1]).length) (h2 : i < is.length), Sl (vs ++ [v1])[i] (is[i].map iV) (w1.setCell ⟨g, vs.length, none⟩ v1) ∧ Fr (g + 1) (vs ++ [v1])[i]) := Lib.hid fun i h h2 => by
          by_cases hi : i < vs.length
          · rw [List.getElem_append_left hi]
            obtain ⟨q1, q2⟩ := hS.out i hi h2
            exact ⟨(q1.below hb1 (Nat.le_refl _)).setNe q2 _, q2⟩
          · have hil : i = vs.length := by simp at h; omega
            subst hil
            have hfr : Fr (g + 1) v1 := fun b o i l c h => by have := hf1 b o i l c h; omega
            rw [List.getElem_append_right (Nat.le_refl _)]
            simp only [Nat.sub_self, List.getElem_cons_zero]
            exact ⟨hs1.setNe hfr _, hfr⟩
        have hN2 := heap_setCell_at (i := vs.length) hN1 v1
        rw [stepOut vs is.length _ v1 hlt] at hN2
        have hb2 := (hb.trans (hb1.mono (by have := HG.out; omega))).setCell (p := ⟨g, vs.length, none⟩) (Nat.le_refl _) v1
        obtain ⟨vs2, hvs2⟩ : ∃ vs2, vs2 = vs ++ [v1] := ⟨_, rfl⟩
        have hvl : vs2.length = vs.length + 1 := by rw [hvs2]; simp
        rw [← hvs2] at hS2 hN2
        have HN2 := Lib.hid hN2
        have HVL := Lib.hid hvl
        subst e1
        clear hN1 hN hS hs1 hb1 hf1 hN2 HC hvs2 hvl
        go_wp2_with fail
        go_roundw
        case rel => exact ⟨vs2, by rw [HVL.out]; omega, by rw [HVL.out]; go_num, HN2, hS2, hb2⟩
        case measure => simp [intOf]; omega
      · have hvl : vs.length = is.length := by omega
        have hN3 : wr.heap[g]? = some (.cells vs.toArray 26 (0, 0)) := by have := hN.out; rw [hvl, Nat.sub_self] at this; simpa using this
        have HN3 := Lib.hid hN3
        have HS3 := Lib.hid hS.out
        have HVL := Lib.hid hvl
        have hq : ((vs.length : Int) < (is.length : Int)) = False := by simp; omega
        clear hN hS hN3 hvl
        go_wp2_with fail
        go_ret
        refine ⟨_, rfl, ⟨vs, ?_, by rw [mV_len]; exact HVL.out, fun i h h2 => ?_⟩, by rw [← HG.out]; exact hb⟩
        · have := Sl.made HN3.out (by rw [HVL.out]; unfold maxLen; omega)
          rw [HVL.out] at this
          exact this
        · rw [mV_at]; exact (HS3.out i h (by rw [mV_len] at h2; exact h2)).1
end Go.Proofs.Ytnfgegibplogeaa
