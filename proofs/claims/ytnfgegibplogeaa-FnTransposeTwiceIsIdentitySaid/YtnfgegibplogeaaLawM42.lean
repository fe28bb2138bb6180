/- The law FnTransposeModel. -/
import Derived.Test.YtnfgegibplogeaaZz42
namespace Go.Proofs.Ytnfgegibplogeaa
open Go.RowKit
set_option linter.unusedVariables false

theorem cell_heap {w w' : World} (h : w'.heap = w.heap) (a : Addr) : w'.cell? a = w.cell? a := by unfold World.cell?; rw [h]
theorem Sl.heap {v : Value} {l : List Value} {w w' : World} (k : Sl v l w) (h : w'.heap = w.heap) : Sl v l w' := by
  obtain ⟨a, cap, hv, h1, h2, h3, h4⟩ := k
  refine ⟨a, cap, hv, h1, h2, h3, h4.imp_right fun ⟨b, off, ha, hc⟩ => ⟨b, off, ha, fun i hi => by rw [cell_heap h]; exact hc i hi⟩⟩
theorem Rows.heap {v : Value} {rs : List (List Value)} {w w' : World} (k : Rows v rs w) (h : w'.heap = w.heap) : Rows v rs w' := by
  obtain ⟨vs, h1, h2, h3⟩ := k
  exact ⟨vs, h1.heap h, h2, fun i h4 h5 => (h3 i h4 h5).heap h⟩
theorem below_dr {B n : Nat} {w w' : World} (h : Below B w w') : Below B w (w'.drewN n) := ⟨h.1, h.2, h.3, h.4, h.5⟩
theorem mx_mV (is : List (List Int)) : mx (mV is) = mx is := by
  unfold mx mV
  rw [List.foldl_map]
  congr 1
  funext m r
  simp
theorem fits_is {is : List (List Int)} (h : Fits (mV is)) : is.length ≤ 65536 ∧ (∀ i (h : i < is.length), is[i].length ≤ 131072) ∧ (0 < mx is → is.length ≤ 1048576 / mx is) := by
  obtain ⟨h1, h2, h3⟩ := h
  rw [mV_len] at h1
  rw [mx_mV, mV_len] at h3
  exact ⟨h1, fun i hi => by have := h2 i (by rw [mV_len]; exact hi); rwa [mV_at, List.length_map] at this, h3⟩
theorem tI_len (is : List (List Int)) : (tI is).length = mx is := by simp [tI]
theorem pM_len (is : List (List Int)) : (pM is).length = mx is := by simp [pM]
theorem tI_row (is : List (List Int)) (j : Nat) (h : j < (mV (tI is)).length) : (mV (tI is))[j] = (List.range is.length).map fun i => iV (valI is j i) := by simp [mV, tI]
theorem pM_row (is : List (List Int)) (j : Nat) (h : j < (pM is).length) : (pM is)[j] = (List.range is.length).map fun i => Value.bool (preB is j i) := by simp [pM]
theorem valI_at (is : List (List Int)) (i j : Nat) (hi : i < is.length) (hj : j < is[i].length) : valI is j i = is[i][j] := by
  unfold valI
  rw [isG_at is i hi, List.getD_eq_getElem?_getD, List.getElem?_eq_getElem hj]; rfl
set_option maxHeartbeats 4000000 in
set_option maxRecDepth 100000 in
theorem lawModel (v : Value) (is : List (List Int)) (w : World) (h : Rows v (mV is) w) :
    Calls Try.prog 4 #[v] w fun e w' => e = .returned (.bool true) ∧ Below w.heap.size w w' := by
  have HZ := Lib.hid (zb_FnTransposeModel v (mV is) w h)
  have HT := Lib.hid (ts_any v (mV is) w h)
  have H := Lib.hid h
  obtain ⟨a, cap, ev⟩ := h.shape
  rw [mV_len] at ev
  subst ev
  clear h
  go_enter Try.func4, Try.ntmps4
  go_wp2_with fail
  refine HZ.out.mono ?_
  rintro e w' ⟨b, rfl, rfl⟩
  cases b with
  | false =>
    go_wp2_with fail
    go_ret
    exact ⟨rfl, Below.refl _ _⟩
  | true =>
    go_wp2_with fail
    refine HT.out.mono ?_
    rintro e w' ⟨l, b, rfl, rfl, hF⟩
    cases b with
    | false =>
      clear hF
      go_wp2_with fail
      go_ret
      exact ⟨rfl, Below.refl _ _⟩
    | true =>
      obtain ⟨hl, hF2⟩ := hF rfl
      rw [mx_mV] at hl
      obtain ⟨f1, f2, f3⟩ := fits_is hF2
      have HC := Lib.hid (cm_any _ is w H.out (by omega) (fun i hi => by have := f2 i hi; omega))
      have HF := Lib.hid f2
      have HL := Lib.hid hl
      have hlb : l ≤ 131072 := by rw [hl, ← mx_all]; exact mx_bound is 131072 is.length (Nat.le_refl _) f2
      clear hF hF2 f2 f3 hl
      go_wp2_with fail
      refine HC.out.mono ?_
      rintro e w1 ⟨v1, rfl, hv1, hb1⟩
      have HZZ := Lib.hid (zz_any v1 is w1 hv1 (by omega) (fun i hi => by have := HF.out i hi; omega))
      obtain ⟨a1, c1, e1⟩ := hv1.shape
      rw [mV_len] at e1
      subst e1
      have HV1 := Lib.hid hv1
      clear hv1
      go_wp2_with fail
      refine HZZ.out.mono ?_
      rintro e w2 ⟨v2, v3, rfl, hv2, hv3, hb2⟩
      have HV1' := Lib.hid (HV1.out.below hb2 (Nat.le_refl _))
      have hb3 := hb1.trans (hb2.mono hb1.size)
      obtain ⟨a2, c2, e2⟩ := hv2.shape
      obtain ⟨a3, c3, e3⟩ := hv3.shape
      rw [mV_len, tI_len, ← HL.out] at e2
      rw [pM_len, ← HL.out] at e3
      subst e2 e3
      have HV2 := Lib.hid hv2
      have HV3 := Lib.hid hv3
      obtain ⟨n, hn⟩ : ∃ n, is.length = n := ⟨_, rfl⟩
      have HN := Lib.hid hn
      rw [hn] at f1
      rw [hn]
      clear hv2 hv3 hb1 hb2 HV1 HZZ HC HT HZ H hn
      go_wp2_with fail
      go_loopw [8] (fun j wr => ∃ k : Nat, k ≤ l ∧ j = .int .i64 k ∧ Hid (wr.heap = w2.heap) ∧ Below w.heap.size w wr) (fun j _ => l - (intOf j).toNat)
      case atStart => exact ⟨0, Nat.zero_le _, rfl, Lib.hid rfl, hb3⟩
      case round =>
        obtain ⟨j, hj, rfl, hw, hbr⟩ := hrel
        clear hb3
        by_cases hlt : j < l
        · have hj2 : j < (mV (tI is)).length := by rw [mV_len, tI_len, ← HL.out]; exact hlt
          have hj3 : j < (pM is).length := by rw [pM_len, ← HL.out]; exact hlt
          obtain ⟨b2, o2, ha2, ai2, ci2, hc2, hs2⟩ := (HV2.out.heap hw.out).row hj2
          obtain ⟨b3, o3, ha3, ai3, ci3, hc3, hs3⟩ := (HV3.out.heap hw.out).row hj3
          subst ha2 ha3
          rw [tI_row, List.length_map, List.length_range, HN.out] at hc2
          rw [pM_row, List.length_map, List.length_range, HN.out] at hc3
          have ev : (mV (tI is))[j].length = n := by rw [tI_row, List.length_map, List.length_range, HN.out]
          have ep : (pM is)[j].length = n := by rw [pM_row, List.length_map, List.length_range, HN.out]
          rw [ev] at hs2
          rw [ep] at hs3
          have HS2 := Lib.hid hs2
          have HS3 := Lib.hid hs3
          have EV := Lib.hid ev
          have EP := Lib.hid ep
          obtain ⟨Wo, hWo⟩ : ∃ Wo, Wo = wr := ⟨_, rfl⟩
          rw [← hWo] at hw hbr hc2 hc3 HS2 HS3 ⊢
          clear hs2 hs3 ev ep hWo
          go_wp2_with fail
          go_loopw [9] (fun x wr => ∃ k : Nat, k ≤ n ∧ x = .int .i64 k ∧ Hid (wr.heap = Wo.heap) ∧ Below w.heap.size w wr) (fun x _ => n - (intOf x).toNat)
          case atStart => exact ⟨0, Nat.zero_le _, rfl, Lib.hid rfl, hbr⟩
          case round =>
            obtain ⟨i, hi, rfl, hwi, hbi⟩ := hrel
            clear hbr
            rw [← cell_heap hwi.out] at hc2 hc3
            by_cases hlt2 : i < n
            · have hii : i < is.length := by rw [HN.out]; exact hlt2
              obtain ⟨b1, o1, ha1, ai1, ci1, hc1, hs1⟩ := (HV1'.out.heap (hwi.out.trans hw.out)).row (i := i) (by rw [mV_len]; exact hii)
              subst ha1
              rw [mV_at, List.length_map] at hc1
              have e1 : (mV is)[i]'(by rw [mV_len]; exact hii) = is[i].map iV := mV_at is i _
              obtain ⟨pb, po, hpa, hpc⟩ := (HS3.out.heap hwi.out).at (k := i) (by rw [EP.out]; exact hlt2)
              subst hpa
              have hpv : (pM is)[j][i]'(by rw [EP.out]; exact hlt2) = .bool (preB is j i) := by simp [pM]
              rw [hpv] at hpc
              have hmr := HF.out i hii
              by_cases hjx : j < is[i].length
              · have hpb : preB is j i = true := by unfold preB; rw [isG_at is i hii]; simpa using hjx
                rw [hpb] at hpc
                obtain ⟨vb, vo, hva, hvc⟩ := (HS2.out.heap hwi.out).at (k := i) (by rw [EV.out]; exact hlt2)
                subst hva
                have hvv : (mV (tI is))[j][i]'(by rw [EV.out]; exact hlt2) = .int .i64 (valI is j i) := by simp [mV, tI, iV]
                rw [hvv, valI_at is i j hii hjx] at hvc
                obtain ⟨rb, ro, hra, hrc⟩ := hs1.at (k := j) (by rw [e1, List.length_map]; exact hjx)
                have hrv : ((mV is)[i]'(by rw [mV_len]; exact hii))[j]'(by rw [e1, List.length_map]; exact hjx) = .int .i64 is[i][j] := by simp [mV, iV]
                rw [hrv] at hrc
                subst hra
                obtain ⟨y, hy⟩ : ∃ y, is[i][j] = y := ⟨_, rfl⟩
                rw [hy] at hvc hrc
                obtain ⟨m, hm⟩ : ∃ m, is[i].length = m := ⟨_, rfl⟩
                rw [hm] at hc1 hjx hmr
                clear hpb hvv hrv hy hm hs1 e1 hpv
                go_wp2_with fail
                go_quiet (fail)
                go_wp2_with fail
                go_roundw
                case rel => exact ⟨i + 1, by omega, by go_num, Lib.hid (by exact hwi.out), below_dr hbi⟩
                case measure => simp [intOf]; omega
              · have hpb : preB is j i = false := by unfold preB; rw [isG_at is i hii]; simpa using hjx
                rw [hpb] at hpc
                obtain ⟨m, hm⟩ : ∃ m, is[i].length = m := ⟨_, rfl⟩
                rw [hm] at hc1 hjx hmr
                clear hpb hm hs1 e1 hpv
                go_wp2_with fail
                go_quiet (fail)
                go_wp2_with fail
                go_roundw
                case rel => exact ⟨i + 1, by omega, by go_num, Lib.hid (by exact hwi.out), below_dr hbi⟩
                case measure => simp [intOf]; omega
            · obtain rfl : i = n := by omega
              have hw2 := Lib.hid (hwi.out.trans hw.out)
              clear hw hwi
              go_wp2_with fail
              go_roundw
              case rel => exact ⟨j + 1, by omega, by go_num, hw2, hbi⟩
              case measure => simp [intOf]; omega
        · obtain rfl : j = l := by omega
          go_wp2_with fail
          go_ret
          exact ⟨rfl, hbr⟩
end Go.Proofs.Ytnfgegibplogeaa
