/- zzItoa: a number's digits (printed by wip/tools/gen_itoa41.py). -/
import Derived.Test.YtbdjddgihnmemaaDoorNodes
import Derived.Test.YtbdjddgihnmemaaDoorStr
import Derived.Test.YtbdjddgihnmemaaDoorMade
import Derived.Test.YtbdjddgihnmemaaDoorHelp
import Derived.Laws.IdiomStrings
namespace Go.Proofs.YtbdjddgihnmemaaDoor
open Go.RowKit

/-- The digits of a number; none of zero. -/
def dg (u : Nat) : List UInt8 := if u = 0 then [] else dg (u / 10) ++ [UInt8.ofNat (48 + u % 10)]
termination_by u
decreasing_by omega
theorem dg_pos {u : Nat} (h : 0 < u) : dg u = dg (u / 10) ++ [UInt8.ofNat (48 + u % 10)] := by rw [dg, if_neg (by omega)]
theorem dg_zero : dg 0 = [] := by rw [dg, if_pos rfl]
def cU (l : List UInt8) : List Value := l.map fun c => Value.int .u8 (c.toNat : Int)
/-- What zzItoa answers. -/
def itoaL (n : Int) : List UInt8 := if n = 0 then [48] else if n < 0 then 45 :: dg (-n).toNat else dg n.toNat
/-- The loop over the digits: acc is written behind cell i. -/
def DRel (u0 g : Nat) (w : World) (v4 v6 : Value) (wr : World) : Prop :=
  ∃ (u i : Nat) (acc : List UInt8), 4 ≤ i ∧ i ≤ 24 ∧ Hid (u < 10 ^ (i - 4)) ∧ u < 18446744073709551616 ∧ v4 = .int .u64 u ∧ v6 = .int .i64 i ∧ Hid (acc.length = 24 - i) ∧ Hid (dg u ++ acc = dg u0) ∧
    Hid (Nd g 75 (List.replicate i (Value.int .u8 0) ++ cU acc).toArray wr) ∧ Below g w wr
theorem nd_put {g j : Nat} {acc : List UInt8} {wr : World} (c : UInt8) (h : Nd g 75 (List.replicate (j + 1) (Value.int .u8 0) ++ cU acc).toArray wr) (v : Value) (hv : v = .int .u8 (c.toNat : Int)) :
    Nd g 75 (List.replicate j (Value.int .u8 0) ++ cU (c :: acc)).toArray (wr.setCell ⟨g, j, none⟩ v) := by
  have h2 := h.set j v
  have e : (List.replicate (j + 1) (Value.int .u8 0) ++ cU acc).toArray.setIfInBounds j v = (List.replicate j (Value.int .u8 0) ++ cU (c :: acc)).toArray := by
    apply Array.ext'
    simp only [Array.toList_setIfInBounds]
    rw [List.replicate_succ', List.append_assoc, List.set_append_right _ _ (by simp), List.length_replicate, Nat.sub_self, hv]
    rfl
  rw [e] at h2
  exact h2
theorem DRel.step {u0 g u j : Nat} {w wr : World} {acc : List UInt8} (hz : 0 < u) (hj4 : 4 ≤ j) (hj : j + 1 ≤ 24) (hup : u < 10 ^ (j + 1 - 4)) (hu64 : u < 18446744073709551616) (hal : acc.length = 24 - (j + 1)) (hdg : dg u ++ acc = dg u0)
    (hN : Nd g 75 (List.replicate (j + 1) (Value.int .u8 0) ++ cU acc).toArray wr) (hb : Below g w wr) :
    DRel u0 g w (.int .u64 ((u : Int) / 10)) (.int .i64 (j : Int)) (wr.setCell ⟨g, j, none⟩ (.int .u8 (48 + (u : Int) % 10))) := by
  refine ⟨u / 10, j, UInt8.ofNat (48 + u % 10) :: acc, hj4, by omega, Lib.hid ?_, by omega, rfl, rfl, Lib.hid (by rw [List.length_cons, hal]; omega), Lib.hid ?_, Lib.hid (nd_put _ hN _ ?_), hb.setCell (Nat.le_refl _) _⟩
  · rw [show j + 1 - 4 = (j - 4) + 1 by omega, Nat.pow_succ] at hup
    omega
  · rw [← hdg, dg_pos hz, List.append_assoc]; rfl
  · congr 1
    rw [UInt8.toNat_ofNat']
    omega
theorem conv_dg {g j : Nat} {acc : List UInt8} {wr : World} (hN : Nd g 75 (List.replicate j (Value.int .u8 0) ++ cU acc).toArray wr) {m : Nat} (hm : m = acc.length) (cap : Nat) :
    (convert 45 9 (.slice (some ⟨g, j, none⟩) m cap)).run Tryd.prog wr = .ok (.string ⟨acc.toArray⟩) wr := by
  subst hm
  refine run_convert_bytes_back wr _ _ 5 ⟨g, j, none⟩ cap acc Tryd.underlying45 Tryd.underlying5 Tryd.underlying9 ?_
  intro i hi
  rw [show (⟨g, j, none⟩ : Addr).add i = ⟨g, j + i, none⟩ by unfold Addr.add; split <;> simp_all]
  refine hN.cell (j + i) ?_
  rw [List.getElem?_toArray, List.getElem?_append_right (by simp), List.length_replicate, Nat.add_sub_cancel_left]
  simp [cU, hi]

theorem slice_at (g j : Nat) (hj : j < 24) (W : World) : (Instr.sliceAt 75 (.pointer (some ⟨g, 0, none⟩)) (some (.int .i64 (j : Int))) none none).run Tryd.prog W = .ok (.slice (some ⟨g, j, none⟩) (24 - j) (24 - j)) W := by
  have hl : Tryd.prog.arrayLen 75 = 24 := by kernel_rfl
  have hu : Tryd.prog.underlying 75 = some (.array (Tryd.prog.arrayLen 75) (Tryd.prog.elem 75)) := by kernel_rfl
  have he : Tryd.prog.elem 75 = 5 := by kernel_rfl
  have hs : (sizeOf 5).run Tryd.prog W = .ok 1 W := by first | exact run_sizeOf_u8 W | (go_simp)
  rw [run_sliceAt_array_l W _ _ hu .i64 (j : Int) (by omega) (by rw [hl]; omega), he, hs, hl]
  show Result.ok (slicedAt ⟨g, 0, none⟩ j 24 24 1) W = _
  unfold slicedAt
  rw [if_neg (by omega), show (⟨g, 0, none⟩ : Addr).add (j * 1) = ⟨g, j, none⟩ by unfold Addr.add; split <;> simp_all]
theorem dg_len {u : Nat} (h : 0 < u) : 0 < (dg u).length := by rw [dg_pos h]; simp

set_option maxHeartbeats 1000000 in
set_option maxRecDepth 100000 in
theorem itoa_any (n : Int) (w : World) (h1 : -9223372036854775808 ≤ n) (h2 : n ≤ 9223372036854775807) :
    Calls Tryd.prog 33 #[.int .i64 n] w fun e w' => e = .returned (.string ⟨(itoaL n).toArray⟩) ∧ Below w.heap.size w w' := by
  by_cases h0 : n = 0
  · subst h0
    go_enter Tryd.func33, Tryd.ntmps33
    go_wp2_with fail
    go_ret
    exact ⟨rfl, Below.refl _ _⟩
  · by_cases hneg : n < 0
    · have hd : decide (n < 0) = true := by simpa using hneg
      have hd0 : decide (n = 0) = false := by simpa using h0
      obtain ⟨u0, hu0⟩ : ∃ u, u = (-n).toNat := ⟨_, rfl⟩
      have HL : Hid (itoaL n = 45 :: dg u0) := Lib.hid (by unfold itoaL; rw [if_neg h0, if_pos hneg, hu0])
      have hul : u0 ≤ 9223372036854775808 := by omega
      have hup0 : Hid (0 < u0) := Lib.hid (by omega)
      go_enter Tryd.func33, Tryd.ntmps33
      go_wp2_with fail
      have hb0 : Below w.heap.size w (w.alloc (.cells (List.replicate 24 (Value.int .u8 0)).toArray 75)) := (Below.refl _ _).alloc (Nat.le_refl _) _
      have hN0 : Nd w.heap.size 75 (List.replicate 24 (Value.int .u8 0) ++ cU []).toArray (w.alloc (.cells (List.replicate 24 (Value.int .u8 0)).toArray 75)) := (heap_alloc_at _ _).trans (by simp [cU])
      have hu : (-(n + 1) + 1 : Int) = (u0 : Nat) := by omega
      rw [hu]
      clear hu hu0
      go_loopw [4, 6] (DRel u0 w.heap.size w) (fun v _ _ => (intOf v).toNat)
      case atStart => exact ⟨u0, 24, [], by omega, by omega, Lib.hid (by omega), by omega, rfl, rfl, Lib.hid rfl, Lib.hid (by simp), Lib.hid hN0, hb0⟩
      case round =>
        obtain ⟨u, i, acc, hi4, hi24, hup, hu64, rfl, rfl, hal, hdg, hN, hbw⟩ := hrel
        by_cases hz : 0 < u
        · obtain ⟨j, rfl⟩ : ∃ j, i = j + 1 := ⟨i - 1, by omega⟩
          have hj4 : 4 ≤ j := by
            rcases Nat.lt_or_ge j 4 with h | h
            · have := hup.out
              rw [show j + 1 - 4 = 0 by omega] at this
              omega
            · exact h
          have cg := hN.out.cell j (v := .int .u8 0) (by rw [List.getElem?_toArray, List.getElem?_append_left (by simp)]; simp)
          have fg := hN.out.free j
          go_wp2_with fail
          exact ⟨DRel.step hz hj4 hi24 hup.out hu64 hal.out hdg.out hN.out hbw, by simp [intOf]; omega⟩
        · obtain rfl : u = 0 := by omega
          rw [dg_zero, List.nil_append] at hdg
          obtain ⟨j, rfl⟩ : ∃ j, i = j + 1 := ⟨i - 1, by omega⟩
          have cg := hN.out.cell j (v := .int .u8 0) (by rw [List.getElem?_toArray, List.getElem?_append_left (by simp)]; simp)
          have fg := hN.out.free j
          have hN2 := Lib.hid (nd_put 45 hN.out (.int .u8 45) rfl)
          have hcv := conv_dg hN2.out (m := 24 - j) (by rw [List.length_cons, hal.out]; omega)
          rw [hdg.out] at hcv
          have hsl := slice_at w.heap.size j (by omega)
          go_wp2_with fail
          go_ret
          exact ⟨by rw [HL.out]; rfl, hbw.setCell (Nat.le_refl _) _⟩
    · have hd : decide (n < 0) = false := by simpa using hneg
      have hd0 : decide (n = 0) = false := by simpa using h0
      obtain ⟨u0, hu0⟩ : ∃ u, u = n.toNat := ⟨_, rfl⟩
      have HL : Hid (itoaL n = dg u0) := Lib.hid (by unfold itoaL; rw [if_neg h0, if_neg hneg, hu0])
      have hul : u0 ≤ 9223372036854775808 := by omega
      have hup0 : Hid (0 < u0) := Lib.hid (by omega)
      go_enter Tryd.func33, Tryd.ntmps33
      go_wp2_with fail
      have hb0 : Below w.heap.size w (w.alloc (.cells (List.replicate 24 (Value.int .u8 0)).toArray 75)) := (Below.refl _ _).alloc (Nat.le_refl _) _
      have hN0 : Nd w.heap.size 75 (List.replicate 24 (Value.int .u8 0) ++ cU []).toArray (w.alloc (.cells (List.replicate 24 (Value.int .u8 0)).toArray 75)) := (heap_alloc_at _ _).trans (by simp [cU])
      have hu : (n : Int) = (u0 : Nat) := by omega
      rw [hu]
      clear hu hu0
      go_loopw [4, 6] (DRel u0 w.heap.size w) (fun v _ _ => (intOf v).toNat)
      case atStart => exact ⟨u0, 24, [], by omega, by omega, Lib.hid (by omega), by omega, rfl, rfl, Lib.hid rfl, Lib.hid (by simp), Lib.hid hN0, hb0⟩
      case round =>
        obtain ⟨u, i, acc, hi4, hi24, hup, hu64, rfl, rfl, hal, hdg, hN, hbw⟩ := hrel
        by_cases hz : 0 < u
        · obtain ⟨j, rfl⟩ : ∃ j, i = j + 1 := ⟨i - 1, by omega⟩
          have hj4 : 4 ≤ j := by
            rcases Nat.lt_or_ge j 4 with h | h
            · have := hup.out
              rw [show j + 1 - 4 = 0 by omega] at this
              omega
            · exact h
          have cg := hN.out.cell j (v := .int .u8 0) (by rw [List.getElem?_toArray, List.getElem?_append_left (by simp)]; simp)
          have fg := hN.out.free j
          go_wp2_with fail
          exact ⟨DRel.step hz hj4 hi24 hup.out hu64 hal.out hdg.out hN.out hbw, by simp [intOf]; omega⟩
        · obtain rfl : u = 0 := by omega
          rw [dg_zero, List.nil_append] at hdg
          have hcv := conv_dg hN.out (m := 24 - i) hal.out.symm
          rw [hdg.out] at hcv
          have hsl := slice_at w.heap.size i (by have h1 := hal.out; have h2 := dg_len hup0.out; rw [← hdg.out] at h2; omega)
          go_wp2_with fail
          go_ret
          exact ⟨by rw [HL.out]; rfl, hbw⟩
end Go.Proofs.YtbdjddgihnmemaaDoor
