/- The law FnTransposeTwiceIsIdentity. -/
import Derived.Test.YtnfgegibplogeaaLawM42
namespace Go.Proofs.Ytnfgegibplogeaa
open Go.RowKit
set_option linter.unusedVariables false

theorem mx_const {α : Type} (rs : List (List α)) (c : Nat) (h0 : 0 < rs.length) (h : ∀ i (h : i < rs.length), rs[i].length = c) : mx rs = c := by
  have h1 := mx_bound rs c rs.length (Nat.le_refl _) (fun i hi => by rw [h i hi]; exact Nat.le_refl _)
  have h2 := mx_ge rs rs.length 0 (Nat.le_refl _) h0
  rw [h 0 h0, mx_all] at h2
  rw [mx_all] at h1
  omega
theorem tI_at (is : List (List Int)) (j : Nat) (h : j < (tI is).length) : (tI is)[j] = (List.range is.length).map fun i => valI is j i := by simp [tI]
theorem isG_tI (is : List (List Int)) (j : Nat) (h : j < mx is) : isG (tI is) j = (List.range is.length).map fun i => valI is j i := by
  rw [isG_at (tI is) j (by rw [tI_len]; exact h), tI_at]
theorem val_back (is : List (List Int)) (i j : Nat) (hj : j < mx is) (hi : i < is.length) (hji : j < is[i].length) : valI (tI is) i j = is[i][j] := by
  have : valI (tI is) i j = (isG (tI is) j).getD i 0 := rfl
  rw [this, isG_tI is j hj, List.getD_eq_getElem?_getD, List.getElem?_eq_getElem (by simpa using hi)]
  simp
  exact valI_at is i j hi hji
set_option maxHeartbeats 4000000 in
set_option maxRecDepth 100000 in
theorem lawTwice (v : Value) (is : List (List Int)) (w : World) (h : Rows v (mV is) w) :
    Calls Try.prog 3 #[v] w fun e w' => e = .returned (.bool true) ∧ Below w.heap.size w w' := by
  have HZ := Lib.hid (zb_FnTransposeTwiceIsIdentity v (mV is) w h)
  have HT := Lib.hid (ts_any v (mV is) w h)
  have H := Lib.hid h
  obtain ⟨a, cap, ev⟩ := h.shape
  rw [mV_len] at ev
  subst ev
  clear h
  obtain ⟨n, hn⟩ : ∃ n, is.length = n := ⟨_, rfl⟩
  have HN := Lib.hid hn
  rw [hn] at HZ HT ⊢
  clear hn
  go_enter Try.func3, Try.ntmps3
  go_wp2_with fail
  refine HZ.out.mono ?_
  rintro e w' ⟨b, rfl, rfl⟩
  cases b with
  | false =>
    go_wp2_with fail
    go_ret
    exact ⟨rfl, Below.refl _ _⟩
  | true =>
    go_wp2_with fail
    refine HT.out.mono ?_
    rintro e w' ⟨l, b, rfl, rfl, hF⟩
    cases b with
    | false =>
      clear hF
      go_wp2_with fail
      go_ret
      exact ⟨rfl, Below.refl _ _⟩
    | true =>
      obtain ⟨hl, hF2⟩ := hF rfl
      obtain ⟨f1, f2, f3⟩ := fits_is hF2
      have HF := Lib.hid f2
      have f1' : n ≤ 65536 := by rw [← HN.out]; exact f1
      clear hF hF2 f1 f2 f3 hl
      by_cases h0 : 0 < n
      · have h0i : 0 < is.length := by rw [HN.out]; exact h0
        obtain ⟨b0, o0, ha0, ai0, ci0, hc0, hs0⟩ := H.out.row (i := 0) (by rw [mV_len]; exact h0i)
        subst ha0
        rw [mV_at, List.length_map] at hc0
        have hcl := HF.out 0 h0i
        obtain ⟨c, hc⟩ : ∃ c, is[0].length = c := ⟨_, rfl⟩
        have HC := Lib.hid hc
        rw [hc] at hc0 hcl
        rw [Nat.add_zero] at hc0
        clear hs0 hc
        by_cases hc1 : 0 < c
        · have t1 : ((n : Int) == 0) = false := by simp; omega
          have t2 : ((c : Int) == 0) = false := by simp; omega
          go_wp2_with fail
          go_loop [6] (fun x => ∃ k : Nat, k ≤ n ∧ x = .int .i64 k ∧ Hid (∀ i (h : i < is.length), i < k → is[i].length = c)) (fun x => n - (intOf x).toNat)
          case atStart => exact ⟨0, Nat.zero_le _, rfl, Lib.hid fun i h h2 => by omega⟩
          case round =>
            obtain ⟨k, hk, rfl, hA⟩ := hrel
            by_cases hlt : k < n
            · have hki : k < is.length := by rw [HN.out]; exact hlt
              obtain ⟨b1, o1, ha1, ai1, ci1, hc2, hs1⟩ := H.out.row (i := k) (by rw [mV_len]; exact hki)
              cases ha1
              rw [mV_at, List.length_map] at hc2
              have hml := HF.out k hki
              by_cases hkc : is[k].length = c
              · have hA2 : Hid (∀ i (h : i < is.length), i < k + 1 → is[i].length = c) := Lib.hid fun i h h2 => by
                  by_cases e : i = k
                  · subst e; exact hkc
                  · exact hA.out i h (by omega)
                rw [hkc] at hc2
                clear hA hs1 hkc hml
                go_wp2_with fail
                go_round
                case rel => exact ⟨k + 1, by omega, by go_num, hA2⟩
                case measure => simp [intOf]; omega
              · obtain ⟨m, hm⟩ : ∃ m, is[k].length = m := ⟨_, rfl⟩
                rw [hm] at hc2 hkc hml
                have hne : ((m : Int) == (c : Int)) = false := by simp; omega
                clear hA hs1 hm
                go_wp2_with fail
                go_ret
                exact ⟨rfl, Below.refl _ _⟩
            · obtain rfl : k = n := by omega
              have HA := Lib.hid (fun i (h : i < is.length) => hA.out i h (by have := HN.out; omega))
              have HMX : Hid (mx is = c) := Lib.hid (mx_const is c h0i HA.out)
              have HCM := Lib.hid (cm_any _ is w H.out (by have := HN.out; omega) (fun i hi => by have := HF.out i hi; omega))
              rw [HN.out] at HCM
              clear hA hc0
              go_wp2_with fail
              refine HCM.out.mono ?_
              rintro e w1 ⟨v1, rfl, hv1, hb1⟩
              have HZZ := Lib.hid (zz_any v1 is w1 hv1 (by have := HN.out; omega) (fun i hi => by have := HF.out i hi; omega))
              obtain ⟨a1, c1, e1⟩ := hv1.shape
              rw [mV_len, HN.out] at e1
              subst e1
              have HV1 := Lib.hid hv1
              clear hv1
              go_wp2_with fail
              refine HZZ.out.mono ?_
              rintro e w2 ⟨v2, v3, rfl, hv2, hv3, hb2⟩
              have HV1' := Lib.hid (HV1.out.below hb2 (Nat.le_refl _))
              have hb3 := hb1.trans (hb2.mono hb1.size)
              obtain ⟨a2, c2, e2⟩ := hv2.shape
              obtain ⟨a3, c3, e3⟩ := hv3.shape
              rw [mV_len, tI_len, HMX.out] at e2
              rw [pM_len, HMX.out] at e3
              subst e2 e3
              have HV2 := Lib.hid hv2
              have HV3 := Lib.hid hv3
              clear hv2 hv3 hb1 hb2 HV1 HZZ HCM HT HZ H
              go_wp2_with fail
              go_loopw [10] (fun j wr => ∃ q : Nat, q ≤ c ∧ j = .int .i64 q ∧ Hid (wr.heap = w2.heap) ∧ Below w.heap.size w wr) (fun j _ => c - (intOf j).toNat)
              case atStart => exact ⟨0, Nat.zero_le _, rfl, Lib.hid rfl, hb3⟩
              case round =>
                obtain ⟨j, hj, rfl, hw, hbr⟩ := hrel
                clear hb3
                by_cases hlt : j < c
                · have hj2 : j < (mV (tI is)).length := by rw [mV_len, tI_len, HMX.out]; exact hlt
                  have hj3 : j < (pM is).length := by rw [pM_len, HMX.out]; exact hlt
                  obtain ⟨b2, o2, ha2, ai2, ci2, hc2, hs2⟩ := (HV2.out.heap hw.out).row hj2
                  obtain ⟨b3, o3, ha3, ai3, ci3, hc3, hs3⟩ := (HV3.out.heap hw.out).row hj3
                  cases ha2
                  cases ha3
                  rw [tI_row, List.length_map, List.length_range, HN.out] at hc2
                  rw [pM_row, List.length_map, List.length_range, HN.out] at hc3
                  have ep : (pM is)[j].length = k := by rw [pM_row, List.length_map, List.length_range, HN.out]
                  rw [ep] at hs3
                  have HS3 := Lib.hid hs3
                  have EP := Lib.hid ep
                  obtain ⟨Wo, hWo⟩ : ∃ Wo, Wo = wr := ⟨_, rfl⟩
                  rw [← hWo] at hw hbr hc2 hc3 HS3 ⊢
                  clear hs2 hs3 ep hWo
                  go_wp2_with fail
                  go_loopw [11] (fun x wr => ∃ q : Nat, q ≤ k ∧ x = .int .i64 q ∧ Hid (wr.heap = Wo.heap) ∧ Below w.heap.size w wr) (fun x _ => k - (intOf x).toNat)
                  case atStart => exact ⟨0, Nat.zero_le _, rfl, Lib.hid rfl, hbr⟩
                  case round =>
                    obtain ⟨i, hi, rfl, hwi, hbi⟩ := hrel
                    clear hbr
                    rw [← cell_heap hwi.out] at hc2 hc3
                    by_cases hlt2 : i < k
                    · have hii : i < is.length := by rw [HN.out]; exact hlt2
                      obtain ⟨pb, po, hpa, hpc⟩ := (HS3.out.heap hwi.out).at (k := i) (by rw [EP.out]; exact hlt2)
                      subst hpa
                      have hpv : (pM is)[j][i]'(by rw [EP.out]; exact hlt2) = .bool (preB is j i) := by simp [pM]
                      have hpb : preB is j i = true := by unfold preB; rw [isG_at is i hii]; simpa [HA.out i hii] using hlt
                      rw [hpv, hpb] at hpc
                      clear hpv hpb
                      go_wp2_with fail
                      go_roundw
                      case rel => exact ⟨i + 1, by omega, by go_num, hwi, hbi⟩
                      case measure => simp [intOf]; omega
                    · obtain rfl : i = k := by omega
                      have hw2 := Lib.hid (hwi.out.trans hw.out)
                      clear hw hwi
                      go_wp2_with fail
                      go_roundw
                      case rel => exact ⟨j + 1, by omega, by go_num, hw2, hbi⟩
                      case measure => simp [intOf]; omega
                · obtain rfl : j = c := by omega
                  have htl : ∀ i (h : i < (tI is).length), (tI is)[i].length = k := fun i h => by rw [tI_at, List.length_map, List.length_range, HN.out]
                  have HMX2 : Hid (mx (tI is) = k) := Lib.hid (mx_const (tI is) k (by rw [tI_len, HMX.out]; exact hc1) htl)
                  have HTL := Lib.hid htl
                  have HZ2 := Lib.hid (zz_any _ (tI is) wr (HV2.out.heap hw.out) (by rw [tI_len, HMX.out]; omega) (fun i hi => by rw [htl i hi]; omega))
                  have HV1w := Lib.hid (HV1'.out.heap hw.out)
                  clear htl hw
                  go_wp2_with fail
                  refine HZ2.out.mono ?_
                  rintro e w5 ⟨v4, v5, rfl, hv4, hv5, hb5⟩
                  have HV1x := Lib.hid (HV1w.out.below hb5 (Nat.le_refl _))
                  have hb6 := hbr.trans (hb5.mono hbr.size)
                  obtain ⟨a4, c4, e4⟩ := hv4.shape
                  obtain ⟨a5, c5, e5⟩ := hv5.shape
                  rw [mV_len, tI_len, HMX2.out] at e4
                  rw [pM_len, HMX2.out] at e5
                  subst e4 e5
                  have HV4 := Lib.hid hv4
                  have HV5 := Lib.hid hv5
                  have HTC : Hid ((tI is).length = j) := Lib.hid (by rw [tI_len, HMX.out])
                  clear hv4 hv5 hb5 hbr HZ2 HV1w HV1' HV2 HV3
                  go_wp2_with fail
                  go_loopw [15] (fun x wr => ∃ q : Nat, q ≤ k ∧ x = .int .i64 q ∧ Hid (wr.heap = w5.heap) ∧ Below w.heap.size w wr) (fun x _ => k - (intOf x).toNat)
                  case atStart => exact ⟨0, Nat.zero_le _, rfl, Lib.hid rfl, hb6⟩
                  case round =>
                    obtain ⟨i, hi, rfl, hw, hbr⟩ := hrel
                    clear hb6
                    by_cases hlt : i < k
                    · have hii : i < is.length := by rw [HN.out]; exact hlt
                      have hj2 : i < (mV (tI (tI is))).length := by rw [mV_len, tI_len, HMX2.out]; exact hlt
                      have hj3 : i < (pM (tI is)).length := by rw [pM_len, HMX2.out]; exact hlt
                      obtain ⟨b2, o2, ha2, ai2, ci2, hc2, hs2⟩ := (HV4.out.heap hw.out).row hj2
                      obtain ⟨b3, o3, ha3, ai3, ci3, hc3, hs3⟩ := (HV5.out.heap hw.out).row hj3
                      obtain ⟨b1, o1, ha1, ai1, ci1, hc1', hs1⟩ := (HV1x.out.heap hw.out).row (i := i) (by rw [mV_len]; exact hii)
                      cases ha2
                      cases ha3
                      cases ha1
                      have ev : (mV (tI (tI is)))[i].length = j := by rw [tI_row, List.length_map, List.length_range, HTC.out]
                      have ep : (pM (tI is))[i].length = j := by rw [pM_row, List.length_map, List.length_range, HTC.out]
                      have er : ((mV is)[i]'(by rw [mV_len]; exact hii)).length = j := by rw [mV_at, List.length_map, HA.out i hii]
                      rw [ev] at hc2 hs2
                      rw [ep] at hc3 hs3
                      rw [er] at hc1' hs1
                      have HS1 := Lib.hid hs1
                      have HS2 := Lib.hid hs2
                      have HS3 := Lib.hid hs3
                      have EV := Lib.hid ev
                      have EP := Lib.hid ep
                      have ER := Lib.hid er
                      obtain ⟨Wo, hWo⟩ : ∃ Wo, Wo = wr := ⟨_, rfl⟩
                      rw [← hWo] at hw hbr hc2 hc3 hc1' HS1 HS2 HS3 ⊢
                      clear hs1 hs2 hs3 ev ep er hWo
                      go_wp2_with fail
                      go_loopw [16] (fun x wr => ∃ q : Nat, q ≤ j ∧ x = .int .i64 q ∧ Hid (wr.heap = Wo.heap) ∧ Below w.heap.size w wr) (fun x _ => j - (intOf x).toNat)
                      case atStart => exact ⟨0, Nat.zero_le _, rfl, Lib.hid rfl, hbr⟩
                      case round =>
                        obtain ⟨x, hx, rfl, hwi, hbi⟩ := hrel
                        clear hbr
                        rw [← cell_heap hwi.out] at hc2 hc3 hc1'
                        by_cases hlt2 : x < j
                        · obtain ⟨pb, po, hpa, hpc⟩ := (HS3.out.heap hwi.out).at (k := x) (by rw [EP.out]; exact hlt2)
                          obtain ⟨vb, vo, hva, hvc⟩ := (HS2.out.heap hwi.out).at (k := x) (by rw [EV.out]; exact hlt2)
                          obtain ⟨rb, ro, hra, hrc⟩ := (HS1.out.heap hwi.out).at (k := x) (by rw [ER.out]; exact hlt2)
                          subst hpa hva hra
                          have hxm : x < mx is := by rw [HMX.out]; exact hlt2
                          have hxi : x < is[i].length := by rw [HA.out i hii]; exact hlt2
                          have hpv : (pM (tI is))[i][x]'(by rw [EP.out]; exact hlt2) = .bool (preB (tI is) i x) := by simp [pM]
                          have hpb : preB (tI is) i x = true := by unfold preB; rw [isG_tI is x hxm]; simpa using hii
                          rw [hpv, hpb] at hpc
                          have hvv : (mV (tI (tI is)))[i][x]'(by rw [EV.out]; exact hlt2) = .int .i64 (valI (tI is) i x) := by rw [← show iV _ = Value.int .i64 (valI (tI is) i x) from rfl]; simp [mV, tI_at]
                          rw [hvv, val_back is i x hxm hii hxi] at hvc
                          have hrv : ((mV is)[i]'(by rw [mV_len]; exact hii))[x]'(by rw [ER.out]; exact hlt2) = .int .i64 is[i][x] := by simp [mV, iV]
                          rw [hrv] at hrc
                          obtain ⟨y, hy⟩ : ∃ y, is[i][x] = y := ⟨_, rfl⟩
                          rw [hy] at hvc hrc
                          clear hpv hpb hvv hrv hy
                          go_wp2_with fail
                          go_quiet (fail)
                          go_wp2_with fail
                          go_roundw
                          case rel => exact ⟨x + 1, by omega, by go_num, Lib.hid (by exact hwi.out), below_dr hbi⟩
                          case measure => simp [intOf]; omega
                        · obtain rfl : x = j := by omega
                          have hw2 := Lib.hid (hwi.out.trans hw.out)
                          clear hw hwi
                          go_wp2_with fail
                          go_roundw
                          case rel => exact ⟨i + 1, by omega, by go_num, hw2, hbi⟩
                          case measure => simp [intOf]; omega
                    · obtain rfl : i = k := by omega
                      go_wp2_with fail
                      go_ret
                      exact ⟨rfl, hbr⟩
        · obtain rfl : c = 0 := by omega
          go_wp2_with fail
          go_ret
          exact ⟨rfl, Below.refl _ _⟩
      · obtain rfl : n = 0 := by omega
        go_wp2_with fail
        go_ret
        exact ⟨rfl, Below.refl _ _⟩
end Go.Proofs.Ytnfgegibplogeaa
