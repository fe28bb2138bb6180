/- White space laid at the ends: b1Ws and b1Pad hand out runs of white space. -/
import Derived.Test.YtnnjoehhjmomaaaDoorFns31
import Derived.Test.YtnnjoehhjmomaaaDoorOwn
import Derived.Test.YtnnjoehhjmomaaaDoorHelp31
namespace Go.Proofs.YtnnjoehhjmomaaaDoor
open Go.RowKit Go.Lib
set_option linter.unusedVariables false

def WsOut (w : World) (e : Ending) (w' : World) : Prop := ∃ q, q ∈ spaceSeqs ∧ e = .returned (.string (strOf q)) ∧ Below w.heap.size w w'
theorem ws_of {w : World} {a : ByteArray} (q : List UInt8) (h : q ∈ spaceSeqs) (ha : a = strOf q) : WsOut w (.returned (.string a)) w := ⟨q, h, by rw [ha], Below.refl _ _⟩
set_option maxHeartbeats 1000000 in
set_option maxRecDepth 100000 in
theorem ws_mid (x : UInt8) (m : Nat) (w : World) (hm : (x.toNat : Int) % 25 = m) (h1 : 9 ≤ m) (h2 : m ≤ 19) :
    Calls Tryd.prog 21 #[.int .u8 (x.toNat : Int)] w (WsOut w) := by
  have hx : x.toNat < 256 := x.toNat_lt
  have hc : (UInt8.ofNat (119 + m)).toNat = 119 + m := by simp; omega
  have hq : [226, 128, UInt8.ofNat (119 + m)] ∈ spaceSeqs := mem3 ⟨119 + m, by omega⟩ (by simp only; omega)
  have hcv : (convert 22 9 (.slice (some ⟨w.heap.size, 0, none⟩) 3 3)).run Tryd.prog (w.alloc (.cells #[.int .u8 226, .int .u8 128, .int .u8 (128 + (m : Int) - 9)] 5)) =
      .ok (.string (strOf [226, 128, UInt8.ofNat (119 + m)])) (w.alloc (.cells #[.int .u8 226, .int .u8 128, .int .u8 (128 + (m : Int) - 9)] 5)) :=
    run_convert_bytes_back (P := Tryd.prog) _ 22 9 5 ⟨w.heap.size, 0, none⟩ 3 [226, 128, UInt8.ofNat (119 + m)] Tryd.underlying22 Tryd.underlying5 Tryd.underlying9 (fun j hj => by
      rw [Addr.add_lit, Nat.zero_add]
      refine cell_of_block (heap_alloc_at _ _) ?_
      match j, hj with
      | 0, _ => rfl
      | 1, _ => rfl
      | 2, _ =>
        show some (Value.int .u8 (128 + (m : Int) - 9)) = some (.int .u8 ((UInt8.ofNat (119 + m)).toNat : Int))
        rw [hc, show (128 + (m : Int) - 9) = ((119 + m : Nat) : Int) by omega]
      | j + 3, hj => exact absurd hj (by simp))
  clear hc
  generalize UInt8.ofNat (119 + m) = c at hq hcv
  have HQ := Lib.hid hq
  clear hq
  go_enter Tryd.func21, Tryd.ntmps21
  go_wp2_with fail
  go_ret
  exact ⟨_, HQ.out, rfl, (Below.refl _ _).alloc (Nat.le_refl _) _⟩
set_option maxHeartbeats 1000000 in
set_option maxRecDepth 100000 in
theorem ws_any (x : UInt8) (w : World) :
    Calls Tryd.prog 21 #[.int .u8 (x.toNat : Int)] w (WsOut w) := by
  obtain ⟨m, hm⟩ : ∃ m : Nat, (x.toNat : Int) % 25 = m := ⟨x.toNat % 25, by omega⟩
  by_cases h : 9 ≤ m ∧ m ≤ 19
  · exact ws_mid x m w hm h.1 h.2
  · have hx : x.toNat < 256 := x.toNat_lt
    have hml : m < 25 := by omega
    have hc : m = 0 ∨ m = 1 ∨ m = 2 ∨ m = 3 ∨ m = 4 ∨ m = 5 ∨ m = 6 ∨ m = 7 ∨ m = 8 ∨ m = 20 ∨ m = 21 ∨ m = 22 ∨ m = 23 ∨ m = 24 := by omega
    clear h
    rcases hc with rfl | rfl | rfl | rfl | rfl | rfl | rfl | rfl | rfl | rfl | rfl | rfl | rfl | rfl
    all_goals
      go_enter Tryd.func21, Tryd.ntmps21
      go_wp2_with fail
      go_ret
      exact ws_of _ (by decide) rfl

def PadOut (w : World) (n : Nat) (e : Ending) (w' : World) : Prop := ∃ l, Sp l ∧ l.length ≤ 3 * n ∧ e = .returned (.string (strOf l)) ∧ Below w.heap.size w w'
theorem ob_made (w : World) (c : Nat) (hc : c ≤ maxLen) : OB w.heap.size (.slice (some ⟨w.heap.size, 0, none⟩) 0 c) [] (w.alloc (.cells (Array.replicate c (Value.int .u8 0)) 5)) :=
  ⟨rfl, .inr ⟨w.heap.size, c, _, rfl, Nat.le_refl _, heap_alloc_at _ _, Nat.zero_le _, hc, by simp, rfl⟩⟩
theorem run_mk0 (c : Nat) (hc : c ≤ 4000000) (W : World) : (Instr.makeSlice 22 (.int .i64 0) (.int .i64 (c : Int))).run Tryd.prog W = .ok (.slice (some ⟨W.heap.size, 0, none⟩) 0 c) (W.alloc (.cells (Array.replicate c (Value.int .u8 0)) 5)) := by
  obtain ⟨i, hi, hz0, hz1, hz2⟩ := info_parts u8info
  have := run_make (P := Tryd.prog) W 22 5 i (.int .u8 0) Tryd.underlying22 hi hz0 .i64 .i64 0 c (Int.le_refl _) (by omega) (by rw [hz2]; omega) (by omega)
  rw [this, hz1]
  simp only [Int.toNat_natCast, Nat.mul_one]
  have e : madeCells (Value.int .u8 0).cells c = Array.replicate c (Value.int .u8 0) := by
    apply Array.ext'
    rw [show (Value.int .u8 0).cells = #[Value.int .u8 0] from rfl, toList_madeCells_one, Array.toList_replicate]
  rw [e]; rfl
theorem seq_len3 {q : List UInt8} (h : q ∈ spaceSeqs) : q.length ≤ 3 := (seq_len q h).2
theorem sp_add {l q : List UInt8} (h : Sp l) (hq : q ∈ spaceSeqs) : Sp (l ++ q) := h.append (Sp.one hq)
def PRel (n B : Nat) (w : World) (vb vi : Value) (wr : World) : Prop :=
  ∃ (k : Nat) (l : List UInt8) (v : Value), k ≤ n ∧ vi = .int .i64 k ∧ v = vb ∧ Hid (OB B v l wr) ∧ Hid (Sp l) ∧ l.length ≤ 3 * k ∧ Below B w wr
def QRel (S : ByteArray) (l : List UInt8) (B : Nat) (w : World) (vb vi : Value) (wr : World) : Prop :=
  ∃ (j : Nat) (v : Value), j ≤ S.size ∧ vi = .int .i64 j ∧ v = vb ∧ Hid (OB B v (l ++ S.data.toList.take j) wr) ∧ Below B w wr
set_option maxHeartbeats 4000000 in
set_option maxRecDepth 100000 in
theorem pad_any (v : Value) (bs : List UInt8) (w : World) (h : Sl v (bl bs) w) (hl : bs.length ≤ 1048576) :
    Calls Tryd.prog 10 #[v] w (PadOut w bs.length) := by
  have hm0 := run_mk0 (3 * bs.length) (by omega)
  have ec : ((3 * bs.length : Nat) : Int) = 3 * (bs.length : Int) := by omega
  rw [ec] at hm0
  have H := Lib.hid h
  obtain ⟨a, cap, ev, _⟩ := h
  rw [bl_len] at ev
  subst ev
  have HL := Lib.hid hl
  clear ec
  go_enter Tryd.func10, Tryd.ntmps10
  go_wp2_with fail
  obtain ⟨B, hB⟩ : ∃ B, w.heap.size = B := ⟨_, rfl⟩
  have hO := ob_made w (3 * bs.length) (by unfold maxLen; omega)
  obtain ⟨W, hW⟩ : ∃ W, W = w.alloc (.cells (Array.replicate (3 * bs.length) (Value.int .u8 0)) 5) := ⟨_, rfl⟩
  have hbW : Below w.heap.size w W := by rw [hW]; exact (Below.refl _ _).alloc (Nat.le_refl _) _
  rw [← hW] at hO ⊢
  rw [hB] at hO hbW ⊢
  have HO := Lib.hid hO
  have HB := Lib.hid hB
  clear hm0 hW hO hB
  go_loopw [3, 4] (PRel bs.length B w) (fun _ i _ => bs.length - (RowKit.intOf i).toNat)
  case atStart => exact ⟨0, [], _, Nat.zero_le _, rfl, rfl, HO, Lib.hid Sp.nil, Nat.zero_le _, hbW⟩
  case round =>
    obtain ⟨k, l, v, hk, rfl, rfl, hO, hS, hln, hb⟩ := hrel
    by_cases hlt : k < bs.length
    · obtain ⟨b0, o0, ha, hc⟩ : ∃ b off, a = some ⟨b, off, none⟩ ∧ w.cell? ⟨b, off + k, none⟩ = some (.int .u8 (bs[k].toNat : Int)) := by
        obtain ⟨a', cap', hv, _, _, _, h4⟩ := H.out
        rw [bl_len] at hv
        cases hv
        rcases h4 with h0 | ⟨b, off, ha, hc⟩
        · have := congrArg List.length h0
          rw [bl_len, List.length_nil] at this
          omega
        · refine ⟨b, off, ha, ?_⟩
          rw [hc k (by rw [bl_len]; exact hlt)]
          simp [bl]
      subst ha
      have hbl := World.block_lt_of_cell? w _ hc
      have ck : wr.cell? ⟨b0, o0 + k, none⟩ = some (.int .u8 (bs[k].toNat : Int)) := (hb.cell (p := ⟨b0, o0 + k, none⟩) (by rw [← HB.out]; exact hbl)).trans hc
      obtain ⟨x, hx⟩ : ∃ x, bs[k] = x := ⟨_, rfl⟩
      rw [hx] at ck
      have HC := Lib.hid (ws_any x wr)
      clear hx hc
      go_wp2_with fail
      refine HC.out.mono ?_
      rintro e w1 ⟨q, hq, rfl, hb1⟩
      have hq3 := seq_len3 hq
      obtain ⟨S, hS0⟩ : ∃ S, strOf q = S := ⟨_, rfl⟩
      have hSs : S.size ≤ 3 := by rw [← hS0, strOf_size]; exact hq3
      have hSq : S.data.toList = q := by rw [← hS0]; rfl
      rw [hS0]
      have HSQ := Lib.hid hSq
      have HQ := Lib.hid hq
      have hO1 : Hid (OB B v (l ++ S.data.toList.take 0) w1) := Lib.hid (by rw [List.take_zero, List.append_nil]; exact hO.out.below hb1 (Nat.le_refl _))
      have hb2 : Below B w w1 := hb.trans (hb1.mono (by have := hb.size; have := HB.out; omega))
      clear hb1 hO hb HC hS0 hSq hq ck
      go_wp2_with fail
      go_loopw [3, 6] (QRel S l B w) (fun _ i _ => S.size - (RowKit.intOf i).toNat)
      case atStart => exact ⟨0, _, Nat.zero_le _, rfl, rfl, hO1, hb2⟩
      case round =>
        obtain ⟨j, v2, hj, rfl, rfl, hO, hb⟩ := hrel
        by_cases hjl : j < S.size
        · have hle : B ≤ wr.heap.size := Nat.le_trans (by have := HB.out; omega) hb.size
          obtain ⟨v1, w2, hap, ho1, hb3⟩ := app_lit hO.out [S[j]] hle (by simp only [List.length_append, List.length_take, List.length_cons, List.length_nil]; have := HL.out; omega)
          have hap : ∀ ty, (Builtin.append_ #[22, 22] ty #[v2, .slice (some ⟨wr.heap.size, 0, none⟩) 1 1]).run Tryd.prog (wr.alloc (.cells #[.int .u8 (S[j].toNat : Int)] 5)) = .ok v1 w2 := hap
          have HO1 : Hid (OB B v1 (l ++ S.data.toList.take (j + 1)) w2) := Lib.hid (by
            have e : S.data.toList.take (j + 1) = S.data.toList.take j ++ [S[j]] := by
              rw [List.take_succ_eq_append_getElem (by simpa using hjl)]; rfl
            rw [e, ← List.append_assoc]; exact ho1)
          have hb4 := hb.trans hb3
          clear ho1 hb3 hO hle
          go_wp2_with (at_builtin; refine wpList_append_run _ rfl _ _ _ _ rfl _ _ _ rfl rfl _ hap ?_)
          go_roundw
          case rel => exact ⟨j + 1, v1, by omega, by go_num, rfl, HO1, hb4⟩
          case measure => simp [RowKit.intOf]; omega
        · obtain rfl : j = S.size := by omega
          have hO2 : Hid (OB B v2 (l ++ S.data.toList) wr) := Lib.hid (by
            have h := hO.out
            rwa [List.take_of_length_le (by simp)] at h)
          have hS2 : Hid (Sp (l ++ S.data.toList)) := Lib.hid (by rw [HSQ.out]; exact sp_add hS.out HQ.out)
          have hl2 : (l ++ S.data.toList).length ≤ 3 * (k + 1) := by
            rw [List.length_append]
            have : S.data.toList.length = S.size := by simp
            omega
          obtain ⟨l2, hl2e⟩ : ∃ l2, l2 = l ++ S.data.toList := ⟨_, rfl⟩
          rw [← hl2e] at hO2 hS2 hl2
          clear hO hl2e
          go_wp2_with fail
          go_roundw
          case rel => exact ⟨k + 1, l2, v2, by omega, by go_num, rfl, hO2, hS2, hl2, hb⟩
          case measure => simp [RowKit.intOf]; omega
    · obtain rfl : k = bs.length := by omega
      have hcv := run_back hO.out
      clear hO
      go_wp2_with fail
      go_ret
      exact ⟨l, hS.out, hln, rfl, by rw [HB.out]; exact hb⟩
end Go.Proofs.YtnnjoehhjmomaaaDoor
