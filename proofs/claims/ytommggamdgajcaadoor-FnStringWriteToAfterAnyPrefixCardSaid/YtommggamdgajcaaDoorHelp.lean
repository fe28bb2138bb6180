/- The laws' helpers over slices (printed by wip/tools/gen_sl.py). -/
import Derived.Test.YtommggamdgajcaaDoorSlKit
namespace Go.Proofs.YtommggamdgajcaaDoor
open Go.RowKit

set_option maxHeartbeats 4000000 in
set_option maxRecDepth 100000 in
theorem bytes_FnFuncWriteToAfterAnyPrefix (s0 : ByteArray) (s1 : ByteArray) (v2 : Value) (l2 : List ByteArray) (v3 : Value) (l3 : List Value) (w : World) (h0 : s0.size ≤ maxLen) (h1 : s1.size ≤ maxLen) (h2 : Sl v2 (l2.map .string) w) (g2 : ∀ s ∈ l2, s.size ≤ maxLen) (h3 : Sl v3 l3 w) :
    Calls Tryd.prog 15 #[.string s0, .string s1, v2, v3] w fun e w' => e = .returned (.bool (fitT (s0.size + s1.size + (l2.length + tot l2) + l3.length))) ∧ w = w' := by
  unfold maxLen at h0
  unfold maxLen at h1
  have m2 := h2.len
  unfold maxLen at m2
  rw [List.length_map] at m2
  obtain ⟨a2, cap2, rfl, _, _, _, c2⟩ := h2
  rw [List.length_map]
  have C2 := Lib.hid c2
  have G2 := Lib.hid g2
  clear c2 g2
  have m3 := h3.len
  unfold maxLen at m3
  obtain ⟨a3, cap3, rfl, _, _, _, c3⟩ := h3
  clear c3
  obtain ⟨T, hT⟩ : ∃ T, T = s0.size + s1.size + (l2.length + tot l2) + l3.length := ⟨_, rfl⟩
  rw [← hT]
  have HT := Lib.hid hT
  clear hT
  go_enter Tryd.func15, Tryd.ntmps15
  go_wp2_with fail
  all_goals (try (go_ret; exact ⟨ret_bool (by have := HT.out; unfold fitT; simp; omega), rfl⟩))
  obtain ⟨c2z, ec2z⟩ : ∃ c2z : Nat, c2z = s0.size + s1.size + l2.length := ⟨_, rfl⟩
  have lec2z : c2z ≤ 1048576 := by omega
  have Ec2z := Lib.hid ec2z
  go_loop [9, 10] (fun z i => ∃ k : Nat, k ≤ l2.length ∧ i = .int .i64 k ∧ ∃ q : Nat, z = .int .i64 q ∧ Hid (q = c2z + tot (l2.take k)) ∧ q ≤ 1048576) (fun _ i => l2.length - (intOf i).toNat)
  case atStart => exact ⟨0, Nat.zero_le _, rfl, c2z, by first | (rw [ec2z]; done) | (rw [ec2z]; go_num), Lib.hid (by simp [tot]), lec2z⟩
  case round =>
    obtain ⟨k, hk, rfl, q, rfl, hq, hql⟩ := hrel
    clear ec2z
    by_cases hlt : k < l2.length
    · obtain ⟨b, off, ha, hc⟩ : ∃ b off, a2 = some ⟨b, off, none⟩ ∧ ∀ i (h : i < (l2.map Value.string).length), w.cell? ⟨b, off + i, none⟩ = some (l2.map Value.string)[i] := C2.out.resolve_left (by intro h; rw [List.map_eq_nil_iff] at h; rw [h] at hlt; simp at hlt)
      subst ha
      have ck := hc k (by simpa using hlt)
      rw [List.getElem_map] at ck
      obtain ⟨x, hx⟩ : ∃ x, x = l2[k] := ⟨_, rfl⟩
      have hxl := G2.out x (by rw [hx]; exact List.getElem_mem hlt)
      unfold maxLen at hxl
      have hn : Hid (q + x.size = c2z + tot (l2.take (k + 1))) := Lib.hid (by rw [tot_snoc _ _ hlt, hq.out, hx]; omega)
      have hle : Hid (q + x.size ≤ T) := Lib.hid (by have h1 := hn.out; have h2 := tot_take_le l2 (k + 1); have h3 := Ec2z.out; have h4 := HT.out; omega)
      rw [← hx] at ck
      clear hc hx
      by_cases hfit : q + x.size ≤ 1048576
      · go_wp2_with fail
        go_round
        case rel => exact ⟨k + 1, by omega, by go_num, q + x.size, by go_num, hn, hfit⟩
        case measure => simp [intOf]; omega
      · go_wp2_with fail
        all_goals (go_ret; exact ⟨ret_bool (by have := hle.out; unfold fitT; simp; omega), rfl⟩)
    · obtain rfl : k = l2.length := by omega
      have hqe : Hid (q = s0.size + s1.size + (l2.length + tot l2)) := Lib.hid (by have h1 := hq.out; rw [tot_all] at h1; have h2 := Ec2z.out; omega)
      have HQ2 := hqe
      clear hq
      go_wp2_with fail
      all_goals (try (go_ret; exact ⟨ret_bool (by have := HT.out; have hh2 := HQ2.out; unfold fitT; simp; omega), rfl⟩))

set_option maxHeartbeats 4000000 in
set_option maxRecDepth 100000 in
theorem bytes_FnFuncStringNestsInner (s0 : ByteArray) (s1 : ByteArray) (v2 : Value) (l2 : List ByteArray) (v3 : Value) (l3 : List Value) (w : World) (h0 : s0.size ≤ maxLen) (h1 : s1.size ≤ maxLen) (h2 : Sl v2 (l2.map .string) w) (g2 : ∀ s ∈ l2, s.size ≤ maxLen) (h3 : Sl v3 l3 w) :
    Calls Tryd.prog 22 #[.string s0, .string s1, v2, v3] w fun e w' => e = .returned (.bool (fitT (s0.size + s1.size + (l2.length + tot l2) + l3.length))) ∧ w = w' := by
  unfold maxLen at h0
  unfold maxLen at h1
  have m2 := h2.len
  unfold maxLen at m2
  rw [List.length_map] at m2
  obtain ⟨a2, cap2, rfl, _, _, _, c2⟩ := h2
  rw [List.length_map]
  have C2 := Lib.hid c2
  have G2 := Lib.hid g2
  clear c2 g2
  have m3 := h3.len
  unfold maxLen at m3
  obtain ⟨a3, cap3, rfl, _, _, _, c3⟩ := h3
  clear c3
  obtain ⟨T, hT⟩ : ∃ T, T = s0.size + s1.size + (l2.length + tot l2) + l3.length := ⟨_, rfl⟩
  rw [← hT]
  have HT := Lib.hid hT
  clear hT
  go_enter Tryd.func22, Tryd.ntmps22
  go_wp2_with fail
  all_goals (try (go_ret; exact ⟨ret_bool (by have := HT.out; unfold fitT; simp; omega), rfl⟩))
  obtain ⟨c2z, ec2z⟩ : ∃ c2z : Nat, c2z = s0.size + s1.size + l2.length := ⟨_, rfl⟩
  have lec2z : c2z ≤ 1048576 := by omega
  have Ec2z := Lib.hid ec2z
  go_loop [9, 10] (fun z i => ∃ k : Nat, k ≤ l2.length ∧ i = .int .i64 k ∧ ∃ q : Nat, z = .int .i64 q ∧ Hid (q = c2z + tot (l2.take k)) ∧ q ≤ 1048576) (fun _ i => l2.length - (intOf i).toNat)
  case atStart => exact ⟨0, Nat.zero_le _, rfl, c2z, by first | (rw [ec2z]; done) | (rw [ec2z]; go_num), Lib.hid (by simp [tot]), lec2z⟩
  case round =>
    obtain ⟨k, hk, rfl, q, rfl, hq, hql⟩ := hrel
    clear ec2z
    by_cases hlt : k < l2.length
    · obtain ⟨b, off, ha, hc⟩ : ∃ b off, a2 = some ⟨b, off, none⟩ ∧ ∀ i (h : i < (l2.map Value.string).length), w.cell? ⟨b, off + i, none⟩ = some (l2.map Value.string)[i] := C2.out.resolve_left (by intro h; rw [List.map_eq_nil_iff] at h; rw [h] at hlt; simp at hlt)
      subst ha
      have ck := hc k (by simpa using hlt)
      rw [List.getElem_map] at ck
      obtain ⟨x, hx⟩ : ∃ x, x = l2[k] := ⟨_, rfl⟩
      have hxl := G2.out x (by rw [hx]; exact List.getElem_mem hlt)
      unfold maxLen at hxl
      have hn : Hid (q + x.size = c2z + tot (l2.take (k + 1))) := Lib.hid (by rw [tot_snoc _ _ hlt, hq.out, hx]; omega)
      have hle : Hid (q + x.size ≤ T) := Lib.hid (by have h1 := hn.out; have h2 := tot_take_le l2 (k + 1); have h3 := Ec2z.out; have h4 := HT.out; omega)
      rw [← hx] at ck
      clear hc hx
      by_cases hfit : q + x.size ≤ 1048576
      · go_wp2_with fail
        go_round
        case rel => exact ⟨k + 1, by omega, by go_num, q + x.size, by go_num, hn, hfit⟩
        case measure => simp [intOf]; omega
      · go_wp2_with fail
        all_goals (go_ret; exact ⟨ret_bool (by have := hle.out; unfold fitT; simp; omega), rfl⟩)
    · obtain rfl : k = l2.length := by omega
      have hqe : Hid (q = s0.size + s1.size + (l2.length + tot l2)) := Lib.hid (by have h1 := hq.out; rw [tot_all] at h1; have h2 := Ec2z.out; omega)
      have HQ2 := hqe
      clear hq
      go_wp2_with fail
      all_goals (try (go_ret; exact ⟨ret_bool (by have := HT.out; have hh2 := HQ2.out; unfold fitT; simp; omega), rfl⟩))

set_option maxHeartbeats 4000000 in
set_option maxRecDepth 100000 in
theorem bytes_FnStringInterpolationMatchesModel (v0 : Value) (l0 : List ByteArray) (v1 : Value) (l1 : List Value) (w : World) (h0 : Sl v0 (l0.map .string) w) (g0 : ∀ s ∈ l0, s.size ≤ maxLen) (h1 : Sl v1 l1 w) :
    Calls Tryd.prog 24 #[v0, v1] w fun e w' => e = .returned (.bool (fitT ((l0.length + tot l0) + l1.length))) ∧ w = w' := by
  have m0 := h0.len
  unfold maxLen at m0
  rw [List.length_map] at m0
  obtain ⟨a0, cap0, rfl, _, _, _, c0⟩ := h0
  rw [List.length_map]
  have C0 := Lib.hid c0
  have G0 := Lib.hid g0
  clear c0 g0
  have m1 := h1.len
  unfold maxLen at m1
  obtain ⟨a1, cap1, rfl, _, _, _, c1⟩ := h1
  clear c1
  obtain ⟨T, hT⟩ : ∃ T, T = (l0.length + tot l0) + l1.length := ⟨_, rfl⟩
  rw [← hT]
  have HT := Lib.hid hT
  clear hT
  go_enter Tryd.func24, Tryd.ntmps24
  go_wp2_with fail
  all_goals (try (go_ret; exact ⟨ret_bool (by have := HT.out; unfold fitT; simp; omega), rfl⟩))
  obtain ⟨c0z, ec0z⟩ : ∃ c0z : Nat, c0z = l0.length := ⟨_, rfl⟩
  have lec0z : c0z ≤ 1048576 := by omega
  have Ec0z := Lib.hid ec0z
  go_loop [5, 6] (fun z i => ∃ k : Nat, k ≤ l0.length ∧ i = .int .i64 k ∧ ∃ q : Nat, z = .int .i64 q ∧ Hid (q = c0z + tot (l0.take k)) ∧ q ≤ 1048576) (fun _ i => l0.length - (intOf i).toNat)
  case atStart => exact ⟨0, Nat.zero_le _, rfl, c0z, by first | (rw [ec0z]; done) | (rw [ec0z]; go_num), Lib.hid (by simp [tot]), lec0z⟩
  case round =>
    obtain ⟨k, hk, rfl, q, rfl, hq, hql⟩ := hrel
    clear ec0z
    by_cases hlt : k < l0.length
    · obtain ⟨b, off, ha, hc⟩ : ∃ b off, a0 = some ⟨b, off, none⟩ ∧ ∀ i (h : i < (l0.map Value.string).length), w.cell? ⟨b, off + i, none⟩ = some (l0.map Value.string)[i] := C0.out.resolve_left (by intro h; rw [List.map_eq_nil_iff] at h; rw [h] at hlt; simp at hlt)
      subst ha
      have ck := hc k (by simpa using hlt)
      rw [List.getElem_map] at ck
      obtain ⟨x, hx⟩ : ∃ x, x = l0[k] := ⟨_, rfl⟩
      have hxl := G0.out x (by rw [hx]; exact List.getElem_mem hlt)
      unfold maxLen at hxl
      have hn : Hid (q + x.size = c0z + tot (l0.take (k + 1))) := Lib.hid (by rw [tot_snoc _ _ hlt, hq.out, hx]; omega)
      have hle : Hid (q + x.size ≤ T) := Lib.hid (by have h1 := hn.out; have h2 := tot_take_le l0 (k + 1); have h3 := Ec0z.out; have h4 := HT.out; omega)
      rw [← hx] at ck
      clear hc hx
      by_cases hfit : q + x.size ≤ 1048576
      · go_wp2_with fail
        go_round
        case rel => exact ⟨k + 1, by omega, by go_num, q + x.size, by go_num, hn, hfit⟩
        case measure => simp [intOf]; omega
      · go_wp2_with fail
        all_goals (go_ret; exact ⟨ret_bool (by have := hle.out; unfold fitT; simp; omega), rfl⟩)
    · obtain rfl : k = l0.length := by omega
      have hqe : Hid (q = (l0.length + tot l0)) := Lib.hid (by have h1 := hq.out; rw [tot_all] at h1; have h2 := Ec0z.out; omega)
      have HQ0 := hqe
      clear hq
      go_wp2_with fail
      all_goals (try (go_ret; exact ⟨ret_bool (by have := HT.out; have hh0 := HQ0.out; unfold fitT; simp; omega), rfl⟩))

set_option maxHeartbeats 4000000 in
set_option maxRecDepth 100000 in
theorem bytes_FnStringWriteToAfterAnyPrefix (s0 : ByteArray) (s1 : ByteArray) (v2 : Value) (l2 : List ByteArray) (v3 : Value) (l3 : List Value) (v4 : Value) (w : World) (h0 : s0.size ≤ maxLen) (h1 : s1.size ≤ maxLen) (h2 : Sl v2 (l2.map .string) w) (g2 : ∀ s ∈ l2, s.size ≤ maxLen) (h3 : Sl v3 l3 w) :
    Calls Tryd.prog 28 #[.string s0, .string s1, v2, v3, v4] w fun e w' => e = .returned (.bool (fitT (s0.size + s1.size + (l2.length + tot l2) + l3.length))) ∧ w = w' := by
  unfold maxLen at h0
  unfold maxLen at h1
  have m2 := h2.len
  unfold maxLen at m2
  rw [List.length_map] at m2
  obtain ⟨a2, cap2, rfl, _, _, _, c2⟩ := h2
  rw [List.length_map]
  have C2 := Lib.hid c2
  have G2 := Lib.hid g2
  clear c2 g2
  have m3 := h3.len
  unfold maxLen at m3
  obtain ⟨a3, cap3, rfl, _, _, _, c3⟩ := h3
  clear c3
  obtain ⟨T, hT⟩ : ∃ T, T = s0.size + s1.size + (l2.length + tot l2) + l3.length := ⟨_, rfl⟩
  rw [← hT]
  have HT := Lib.hid hT
  clear hT
  go_enter Tryd.func28, Tryd.ntmps28
  go_wp2_with fail
  all_goals (try (go_ret; exact ⟨ret_bool (by have := HT.out; unfold fitT; simp; omega), rfl⟩))
  obtain ⟨c2z, ec2z⟩ : ∃ c2z : Nat, c2z = s0.size + s1.size + l2.length := ⟨_, rfl⟩
  have lec2z : c2z ≤ 1048576 := by omega
  have Ec2z := Lib.hid ec2z
  go_loop [11, 12] (fun z i => ∃ k : Nat, k ≤ l2.length ∧ i = .int .i64 k ∧ ∃ q : Nat, z = .int .i64 q ∧ Hid (q = c2z + tot (l2.take k)) ∧ q ≤ 1048576) (fun _ i => l2.length - (intOf i).toNat)
  case atStart => exact ⟨0, Nat.zero_le _, rfl, c2z, by first | (rw [ec2z]; done) | (rw [ec2z]; go_num), Lib.hid (by simp [tot]), lec2z⟩
  case round =>
    obtain ⟨k, hk, rfl, q, rfl, hq, hql⟩ := hrel
    clear ec2z
    by_cases hlt : k < l2.length
    · obtain ⟨b, off, ha, hc⟩ : ∃ b off, a2 = some ⟨b, off, none⟩ ∧ ∀ i (h : i < (l2.map Value.string).length), w.cell? ⟨b, off + i, none⟩ = some (l2.map Value.string)[i] := C2.out.resolve_left (by intro h; rw [List.map_eq_nil_iff] at h; rw [h] at hlt; simp at hlt)
      subst ha
      have ck := hc k (by simpa using hlt)
      rw [List.getElem_map] at ck
      obtain ⟨x, hx⟩ : ∃ x, x = l2[k] := ⟨_, rfl⟩
      have hxl := G2.out x (by rw [hx]; exact List.getElem_mem hlt)
      unfold maxLen at hxl
      have hn : Hid (q + x.size = c2z + tot (l2.take (k + 1))) := Lib.hid (by rw [tot_snoc _ _ hlt, hq.out, hx]; omega)
      have hle : Hid (q + x.size ≤ T) := Lib.hid (by have h1 := hn.out; have h2 := tot_take_le l2 (k + 1); have h3 := Ec2z.out; have h4 := HT.out; omega)
      rw [← hx] at ck
      clear hc hx
      by_cases hfit : q + x.size ≤ 1048576
      · go_wp2_with fail
        go_round
        case rel => exact ⟨k + 1, by omega, by go_num, q + x.size, by go_num, hn, hfit⟩
        case measure => simp [intOf]; omega
      · go_wp2_with fail
        all_goals (go_ret; exact ⟨ret_bool (by have := hle.out; unfold fitT; simp; omega), rfl⟩)
    · obtain rfl : k = l2.length := by omega
      have hqe : Hid (q = s0.size + s1.size + (l2.length + tot l2)) := Lib.hid (by have h1 := hq.out; rw [tot_all] at h1; have h2 := Ec2z.out; omega)
      have HQ2 := hqe
      clear hq
      go_wp2_with fail
      all_goals (try (go_ret; exact ⟨ret_bool (by have := HT.out; have hh2 := HQ2.out; unfold fitT; simp; omega), rfl⟩))

theorem info_zzCloneStrsB2 : (Tryd.prog.info? 9).map (fun i => (i.zero, i.size, decide (i.bytes ≤ 16))) = some (some (Value.string ⟨#[]⟩), 1, true) := by kernel_rfl
set_option maxHeartbeats 1000000 in
set_option maxRecDepth 100000 in
theorem clone_zzCloneStrsB2 (v : Value) (xs : List ByteArray) (w : World) (h : Sl v (xs.map (Value.string)) w) (hl : xs.length ≤ 1048576) :
    Calls Tryd.prog 17 #[v] w fun e w' => ∃ v', e = .returned v' ∧ Sl v' (xs.map (Value.string)) w' ∧ Below w.heap.size w w' := by
  obtain ⟨l, hl0⟩ : ∃ l, l = xs.map (Value.string) := ⟨_, rfl⟩
  rw [← hl0] at h ⊢
  have hll : l.length = xs.length := by rw [hl0]; simp
  have hl : l.length ≤ 1048576 := by omega
  have HL0 := Lib.hid hl0
  clear hl0 hll
  have hnil := fun (w : World) (a : Option Addr) (n c n' c' : Nat) => Lib.run_eql_slice_nil (P := Tryd.prog) w 31 9 a n c n' c' Tryd.underlying31
  obtain ⟨a, cap, rfl, h1, h2, h3, h4⟩ := h
  cases a with
  | none =>
    have h0 : l = [] := h4.resolve_right (fun ⟨b, off, h, _⟩ => by cases h)
    subst h0
    clear h4 h3
    go_enter Tryd.func17, Tryd.ntmps17
    go_wp2_with fail
    go_ret
    exact ⟨_, rfl, Sl.nil _, Below.refl _ _⟩
  | some ad =>
    have hmk := fun W => run_mkE info_zzCloneStrsB2 Tryd.underlying31 rfl l.length hl W
    have H4 := Lib.hid h4
    have HLL := Lib.hid hl
    clear h4 h3 h1 h2
    go_enter Tryd.func17, Tryd.ntmps17
    go_wp2_with fail
    obtain ⟨W, hW⟩ : ∃ W, W = w.alloc (.cells (Array.replicate l.length (Value.string ⟨#[]⟩)) 9) := ⟨_, rfl⟩
    rw [← hW]
    have hb0 : Below w.heap.size w W := by rw [hW]; exact (Below.refl _ _).alloc (Nat.le_refl _) _
    have hN0 : W.heap[w.heap.size]? = some (.cells (l.take 0 ++ List.replicate (l.length - 0) (Value.string ⟨#[]⟩)).toArray 9 (0, 0)) := by rw [hW]; exact (heap_alloc_at _ _).trans (by simp)
    obtain ⟨g, hg⟩ : ∃ g, g = w.heap.size := ⟨_, rfl⟩
    have hgB : w.heap.size ≤ g := by omega
    rw [← hg] at hN0 ⊢
    have HG := Lib.hid hg
    clear hmk hW hg
    go_loopw [4] (CRel l (Value.string ⟨#[]⟩) g 9 w W) (fun i _ => l.length - (intOf i).toNat)
    case atStart => exact ⟨0, Nat.zero_le _, rfl, hN0, hb0, Below.refl _ _⟩
    case round =>
      obtain ⟨k, hk, rfl, hN, hb, hbW⟩ := hrel
      by_cases hlt : k < l.length
      · obtain ⟨b, off, ha, hc⟩ := H4.out.resolve_left (fun h => by rw [h] at hlt; simp at hlt)
        cases ha
        have hblt := World.block_lt_of_cell? w _ (hc k hlt)
        have ck : wr.cell? ⟨b, off + k, none⟩ = some l[k] := (hb.cell hblt).trans (hc k hlt)
        have cg : wr.cell? ⟨g, k, none⟩ = some (Value.string ⟨#[]⟩) := cell_of_block hN (clone_get l k _ hlt)
        have fg : wr.frozen? ⟨g, k, none⟩ = false := free_of_block hN
        have hN2 := heap_setCell_at (i := k) hN l[k]
        rw [clone_step l k (Value.string ⟨#[]⟩) hlt] at hN2
        have hb2 := hb.setCell (p := ⟨g, k, none⟩) (by simpa using hgB) l[k]
        have hbW2 := hbW
        obtain ⟨y, hy⟩ : ∃ y, Value.string y = l[k] := by
          have h0 := HL0.out
          subst h0
          exact ⟨_, (List.getElem_map _).symm⟩
        rw [← hy] at ck hN2 hb2
        have HN2 := Lib.hid hN2
        clear hN hc hN2 hy
        go_wp2_with fail
        go_roundw
        case rel => exact ⟨k + 1, by omega, by go_num, HN2.out, hb2, (Below.refl _ _)⟩
        case measure => simp [intOf]; omega
      · obtain rfl : k = l.length := by omega
        have hN3 : wr.heap[g]? = some (.cells l.toArray 9 (0, 0)) := by simpa using hN
        have HN3 := Lib.hid hN3
        clear hN hN3
        go_wp2_with fail
        go_ret
        exact ⟨_, rfl, Sl.made HN3.out (by have := HLL.out; unfold maxLen; omega), hb⟩

theorem info_zzCloneBoolsB2 : (Tryd.prog.info? 4).map (fun i => (i.zero, i.size, decide (i.bytes ≤ 16))) = some (some (Value.bool false), 1, true) := by kernel_rfl
set_option maxHeartbeats 1000000 in
set_option maxRecDepth 100000 in
theorem clone_zzCloneBoolsB2 (v : Value) (xs : List Bool) (w : World) (h : Sl v (xs.map (Value.bool)) w) (hl : xs.length ≤ 1048576) :
    Calls Tryd.prog 18 #[v] w fun e w' => ∃ v', e = .returned v' ∧ Sl v' (xs.map (Value.bool)) w' ∧ Below w.heap.size w w' := by
  obtain ⟨l, hl0⟩ : ∃ l, l = xs.map (Value.bool) := ⟨_, rfl⟩
  rw [← hl0] at h ⊢
  have hll : l.length = xs.length := by rw [hl0]; simp
  have hl : l.length ≤ 1048576 := by omega
  have HL0 := Lib.hid hl0
  clear hl0 hll
  have hnil := fun (w : World) (a : Option Addr) (n c n' c' : Nat) => Lib.run_eql_slice_nil (P := Tryd.prog) w 32 4 a n c n' c' Tryd.underlying32
  obtain ⟨a, cap, rfl, h1, h2, h3, h4⟩ := h
  cases a with
  | none =>
    have h0 : l = [] := h4.resolve_right (fun ⟨b, off, h, _⟩ => by cases h)
    subst h0
    clear h4 h3
    go_enter Tryd.func18, Tryd.ntmps18
    go_wp2_with fail
    go_ret
    exact ⟨_, rfl, Sl.nil _, Below.refl _ _⟩
  | some ad =>
    have hmk := fun W => run_mkE info_zzCloneBoolsB2 Tryd.underlying32 rfl l.length hl W
    have H4 := Lib.hid h4
    have HLL := Lib.hid hl
    clear h4 h3 h1 h2
    go_enter Tryd.func18, Tryd.ntmps18
    go_wp2_with fail
    obtain ⟨W, hW⟩ : ∃ W, W = w.alloc (.cells (Array.replicate l.length (Value.bool false)) 4) := ⟨_, rfl⟩
    rw [← hW]
    have hb0 : Below w.heap.size w W := by rw [hW]; exact (Below.refl _ _).alloc (Nat.le_refl _) _
    have hN0 : W.heap[w.heap.size]? = some (.cells (l.take 0 ++ List.replicate (l.length - 0) (Value.bool false)).toArray 4 (0, 0)) := by rw [hW]; exact (heap_alloc_at _ _).trans (by simp)
    obtain ⟨g, hg⟩ : ∃ g, g = w.heap.size := ⟨_, rfl⟩
    have hgB : w.heap.size ≤ g := by omega
    rw [← hg] at hN0 ⊢
    have HG := Lib.hid hg
    clear hmk hW hg
    go_loopw [4] (CRel l (Value.bool false) g 4 w W) (fun i _ => l.length - (intOf i).toNat)
    case atStart => exact ⟨0, Nat.zero_le _, rfl, hN0, hb0, Below.refl _ _⟩
    case round =>
      obtain ⟨k, hk, rfl, hN, hb, hbW⟩ := hrel
      by_cases hlt : k < l.length
      · obtain ⟨b, off, ha, hc⟩ := H4.out.resolve_left (fun h => by rw [h] at hlt; simp at hlt)
        cases ha
        have hblt := World.block_lt_of_cell? w _ (hc k hlt)
        have ck : wr.cell? ⟨b, off + k, none⟩ = some l[k] := (hb.cell hblt).trans (hc k hlt)
        have cg : wr.cell? ⟨g, k, none⟩ = some (Value.bool false) := cell_of_block hN (clone_get l k _ hlt)
        have fg : wr.frozen? ⟨g, k, none⟩ = false := free_of_block hN
        have hN2 := heap_setCell_at (i := k) hN l[k]
        rw [clone_step l k (Value.bool false) hlt] at hN2
        have hb2 := hb.setCell (p := ⟨g, k, none⟩) (by simpa using hgB) l[k]
        have hbW2 := hbW
        obtain ⟨y, hy⟩ : ∃ y, Value.bool y = l[k] := by
          have h0 := HL0.out
          subst h0
          exact ⟨_, (List.getElem_map _).symm⟩
        rw [← hy] at ck hN2 hb2
        have HN2 := Lib.hid hN2
        clear hN hc hN2 hy
        go_wp2_with fail
        go_roundw
        case rel => exact ⟨k + 1, by omega, by go_num, HN2.out, hb2, (Below.refl _ _)⟩
        case measure => simp [intOf]; omega
      · obtain rfl : k = l.length := by omega
        have hN3 : wr.heap[g]? = some (.cells l.toArray 4 (0, 0)) := by simpa using hN
        have HN3 := Lib.hid hN3
        clear hN hN3
        go_wp2_with fail
        go_ret
        exact ⟨_, rfl, Sl.made HN3.out (by have := HLL.out; unfold maxLen; omega), hb⟩

end Go.Proofs.YtommggamdgajcaaDoor
