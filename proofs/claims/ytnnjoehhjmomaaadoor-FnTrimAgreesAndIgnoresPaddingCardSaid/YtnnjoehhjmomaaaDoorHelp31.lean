/- The laws' helpers over slices (printed by wip/tools/gen_sl.py). -/
import Derived.Test.YtnnjoehhjmomaaaDoorSlKit
namespace Go.Proofs.YtnnjoehhjmomaaaDoor
open Go.RowKit

set_option maxHeartbeats 4000000 in
set_option maxRecDepth 100000 in
theorem bytes_FnRtrimIdempotentAndPadFree (s0 : ByteArray) (v1 : Value) (l1 : List Value) (w : World) (h0 : s0.size ≤ maxLen) (h1 : Sl v1 l1 w) :
    Calls Tryd.prog 7 #[.string s0, v1] w fun e w' => e = .returned (.bool (fitT (s0.size + l1.length))) ∧ w = w' := by
  unfold maxLen at h0
  have m1 := h1.len
  unfold maxLen at m1
  obtain ⟨a1, cap1, rfl, _, _, _, c1⟩ := h1
  clear c1
  obtain ⟨T, hT⟩ : ∃ T, T = s0.size + l1.length := ⟨_, rfl⟩
  rw [← hT]
  have HT := Lib.hid hT
  clear hT
  go_enter Tryd.func7, Tryd.ntmps7
  go_wp2_with fail
  all_goals (try (go_ret; exact ⟨ret_bool (by have := HT.out; unfold fitT; simp; omega), rfl⟩))

set_option maxHeartbeats 4000000 in
set_option maxRecDepth 100000 in
theorem bytes_FnTrimAgreesAndIgnoresPadding (s0 : ByteArray) (v1 : Value) (l1 : List Value) (v2 : Value) (l2 : List Value) (w : World) (h0 : s0.size ≤ maxLen) (h1 : Sl v1 l1 w) (h2 : Sl v2 l2 w) :
    Calls Tryd.prog 14 #[.string s0, v1, v2] w fun e w' => e = .returned (.bool (fitT (s0.size + l1.length + l2.length))) ∧ w = w' := by
  unfold maxLen at h0
  have m1 := h1.len
  unfold maxLen at m1
  obtain ⟨a1, cap1, rfl, _, _, _, c1⟩ := h1
  clear c1
  have m2 := h2.len
  unfold maxLen at m2
  obtain ⟨a2, cap2, rfl, _, _, _, c2⟩ := h2
  clear c2
  obtain ⟨T, hT⟩ : ∃ T, T = s0.size + l1.length + l2.length := ⟨_, rfl⟩
  rw [← hT]
  have HT := Lib.hid hT
  clear hT
  go_enter Tryd.func14, Tryd.ntmps14
  go_wp2_with fail
  all_goals (try (go_ret; exact ⟨ret_bool (by have := HT.out; unfold fitT; simp; omega), rfl⟩))

theorem info_b1CopyU8 : (Tryd.prog.info? 5).map (fun i => (i.zero, i.size, decide (i.bytes ≤ 16))) = some (some (Value.int .u8 0), 1, true) := by kernel_rfl
set_option maxHeartbeats 1000000 in
set_option maxRecDepth 100000 in
theorem clone_b1CopyU8 (v : Value) (xs : List Int) (w : World) (h : Sl v (xs.map (Value.int .u8)) w) (hl : xs.length ≤ 1048576) :
    Calls Tryd.prog 8 #[v] w fun e w' => ∃ v', e = .returned v' ∧ Sl v' (xs.map (Value.int .u8)) w' ∧ Below w.heap.size w w' := by
  obtain ⟨l, hl0⟩ : ∃ l, l = xs.map (Value.int .u8) := ⟨_, rfl⟩
  rw [← hl0] at h ⊢
  have hll : l.length = xs.length := by rw [hl0]; simp
  have hl : l.length ≤ 1048576 := by omega
  have HL0 := Lib.hid hl0
  clear hl0 hll
  have hnil := fun (w : World) (a : Option Addr) (n c n' c' : Nat) => Lib.run_eql_slice_nil (P := Tryd.prog) w 22 5 a n c n' c' Tryd.underlying22
  obtain ⟨a, cap, rfl, h1, h2, h3, h4⟩ := h
  cases a with
  | none =>
    have h0 : l = [] := h4.resolve_right (fun ⟨b, off, h, _⟩ => by cases h)
    subst h0
    clear h4 h3
    go_enter Tryd.func8, Tryd.ntmps8
    go_wp2_with fail
    go_ret
    exact ⟨_, rfl, Sl.nil _, Below.refl _ _⟩
  | some ad =>
    have hmk := fun W => run_mkE info_b1CopyU8 Tryd.underlying22 rfl l.length hl W
    have H4 := Lib.hid h4
    have HLL := Lib.hid hl
    clear h4 h3 h1 h2
    go_enter Tryd.func8, Tryd.ntmps8
    go_wp2_with fail
    obtain ⟨W, hW⟩ : ∃ W, W = w.alloc (.cells (Array.replicate l.length (Value.int .u8 0)) 5) := ⟨_, rfl⟩
    rw [← hW]
    have hb0 : Below w.heap.size w W := by rw [hW]; exact (Below.refl _ _).alloc (Nat.le_refl _) _
    have hN0 : W.heap[w.heap.size]? = some (.cells (l.take 0 ++ List.replicate (l.length - 0) (Value.int .u8 0)).toArray 5 (0, 0)) := by rw [hW]; exact (heap_alloc_at _ _).trans (by simp)
    obtain ⟨g, hg⟩ : ∃ g, g = w.heap.size := ⟨_, rfl⟩
    have hgB : w.heap.size ≤ g := by omega
    rw [← hg] at hN0 ⊢
    have HG := Lib.hid hg
    clear hmk hW hg
    go_loopw [4] (CRel l (Value.int .u8 0) g 5 w W) (fun i _ => l.length - (intOf i).toNat)
    case atStart => exact ⟨0, Nat.zero_le _, rfl, hN0, hb0, Below.refl _ _⟩
    case round =>
      obtain ⟨k, hk, rfl, hN, hb, hbW⟩ := hrel
      by_cases hlt : k < l.length
      · obtain ⟨b, off, ha, hc⟩ := H4.out.resolve_left (fun h => by rw [h] at hlt; simp at hlt)
        cases ha
        have hblt := World.block_lt_of_cell? w _ (hc k hlt)
        have ck : wr.cell? ⟨b, off + k, none⟩ = some l[k] := (hb.cell hblt).trans (hc k hlt)
        have cg : wr.cell? ⟨g, k, none⟩ = some (Value.int .u8 0) := cell_of_block hN (clone_get l k _ hlt)
        have fg : wr.frozen? ⟨g, k, none⟩ = false := free_of_block hN
        have hN2 := heap_setCell_at (i := k) hN l[k]
        rw [clone_step l k (Value.int .u8 0) hlt] at hN2
        have hb2 := hb.setCell (p := ⟨g, k, none⟩) (by simpa using hgB) l[k]
        have hbW2 := hbW
        obtain ⟨y, hy⟩ : ∃ y, Value.int .u8 y = l[k] := by
          have h0 := HL0.out
          subst h0
          exact ⟨_, (List.getElem_map _).symm⟩
        rw [← hy] at ck hN2 hb2
        have HN2 := Lib.hid hN2
        clear hN hc hN2 hy
        go_wp2_with fail
        go_roundw
        case rel => exact ⟨k + 1, by omega, by go_num, HN2.out, hb2, (Below.refl _ _)⟩
        case measure => simp [intOf]; omega
      · obtain rfl : k = l.length := by omega
        have hN3 : wr.heap[g]? = some (.cells l.toArray 5 (0, 0)) := by simpa using hN
        have HN3 := Lib.hid hN3
        clear hN hN3
        go_wp2_with fail
        go_ret
        exact ⟨_, rfl, Sl.made HN3.out (by have := HLL.out; unfold maxLen; omega), hb⟩

end Go.Proofs.YtnnjoehhjmomaaaDoor
