/- String templates: zzInterpModelB2, the laws FnStringInterpolationMatchesModel and FnStringWriteToAfterAnyPrefix. -/
import Derived.Test.YtommggamdgajcaaDoorIb49
namespace Go.Proofs.YtommggamdgajcaaDoor
open Go.RowKit

def IMRel (ss : List ByteArray) (bs : List Bool) (base : Nat) (w : World) (v5 v6 : Value) (wr : World) : Prop :=
  ∃ (k : Nat) (v : Value), k ≤ ss.length ∧ v = v5 ∧ v6 = .int .i64 k ∧ Hid (OB base v ([34] ++ seqT [] (pcT bs ss) k) wr) ∧ Below base w wr

set_option maxHeartbeats 2000000 in
set_option maxRecDepth 100000 in
theorem imodel_any (vs vb : Value) (ss : List ByteArray) (bs : List Bool) (w : World) (hs : Sl vs (ss.map Value.string) w) (hb : Sl vb (bs.map Value.bool) w) (hl : ss.length ≤ 1048576) (ht : tot ss ≤ 1048576) (hA : LitsOk ss bs) :
    Calls Tryd.prog 27 #[vs, vb] w fun e w' => e = .returned (.string ⟨([34] ++ seqT [] (pcT bs ss) ss.length ++ [34]).toArray⟩) ∧ Below w.heap.size w w' := by
  have H1 := Lib.hid hs
  have H2 := Lib.hid hb
  have HA := Lib.hid hA
  obtain ⟨a1, c1, e1, _⟩ := hs
  rw [List.length_map] at e1
  subst e1
  clear hb hA
  have HT := Lib.hid (pcs_len bs ss)
  have HTk := Lib.hid (tot_take_le ss)
  go_enter Tryd.func27, Tryd.ntmps27
  go_wp2_with fail
  have hW : Below w.heap.size w (w.alloc (.cells #[.int .u8 34] 5)) := (Below.refl _ _).alloc (Nat.le_refl _) _
  have hO : OB w.heap.size (.slice (some ⟨w.heap.size, 0, none⟩) 1 1) [34] (w.alloc (.cells #[.int .u8 34] 5)) := ⟨rfl, .inr ⟨w.heap.size, 1, #[.int .u8 34], rfl, Nat.le_refl _, heap_alloc_at _ _, Nat.le_refl _, by unfold maxLen; omega, rfl, rfl⟩⟩
  obtain ⟨W, hWe⟩ : ∃ W, W = w.alloc (.cells #[.int .u8 34] 5) := ⟨_, rfl⟩
  rw [← hWe] at hW hO ⊢
  have HO0 := Lib.hid hO
  clear hWe hO
  obtain ⟨base, hbase⟩ : ∃ b, b = w.heap.size := ⟨_, rfl⟩
  rw [← hbase] at HO0 hW
  have HB := Lib.hid hbase
  have hbE : w.heap.size ≤ base := by omega
  have hgg : Value.slice (some ⟨w.heap.size, 0, none⟩) 1 1 = .slice (some ⟨base, 0, none⟩) 1 1 := by rw [hbase]
  rw [hgg]
  clear hgg hbase
  go_loopw [5, 6] (IMRel ss bs base w) (fun _ i _ => ss.length - (intOf i).toNat)
  case atStart => exact ⟨0, _, Nat.zero_le _, rfl, rfl, Lib.hid (by simpa [seqT] using HO0.out), hW⟩
  case round =>
    obtain ⟨k, v, hkk, rfl, rfl, hO, hbw⟩ := hrel
    have hl0 := HT.out k hkk
    have hl1 := HTk.out k
    have hll : ([34] ++ seqT [] (pcT bs ss) k).length ≤ 1000000000 := by simp only [List.length_append, List.length_cons, List.length_nil]; omega
    have hbE0 : base ≤ w.heap.size := by have := HB.out; omega
    have HS0 := Lib.hid (seq0 (pcT bs ss) k)
    by_cases hlt : k < ss.length
    · obtain ⟨ba, oa, ha, hca⟩ := sl_cell H1.out hlt
      subst ha
      have la := World.block_lt_of_cell? w _ hca
      simp only at la
      have la : ba < base := by omega
      have hxl := big_of hlt ht
      have hix := flag_any vb bs k wr (H2.out.below hbw hbE)
      have hlit := fun h => HA.out k hlt h
      have hp1 := fun h => pcT_lit (bs := bs) hlt h
      have hp2 := fun h => pcT_call (bs := bs) hlt h
      obtain ⟨x, hx⟩ : ∃ x, x = ss[k] := ⟨_, rfl⟩
      rw [← hx] at hca hxl hlit
      simp only [← hx] at hp1 hp2
      obtain ⟨f, hf⟩ : ∃ f, flagB bs k = f := ⟨_, rfl⟩
      rw [hf] at hix hlit hp1 hp2
      have HIX := Lib.hid hix
      have HLIT := Lib.hid hlit
      have HP1 := Lib.hid hp1
      have HP2 := Lib.hid hp2
      have hxd : x.data.toList.length = x.size := rfl
      obtain ⟨L, hL⟩ : ∃ L, [34] ++ seqT [] (pcT bs ss) k = L := ⟨_, rfl⟩
      rw [hL] at hO hll
      have HL := Lib.hid hL
      clear hix hx hlit hp1 hp2 hf hL hl0 hl1
      cases f with
      | true =>
        have ck := (hbw.cell (p := ⟨ba, oa + k, none⟩) la).trans hca
        have hel := escs_len x.data.toList
        have HE := Lib.hid (esc_any x wr hxl (HLIT.out (by simp)))
        go_wp2_with fail
        refine HIX.out.mono ?_
        rintro e w' ⟨rfl, rfl⟩
        go_wp2_with fail
        refine HE.out.mono ?_
        rintro e w1 ⟨ve, rfl, hve, hb1⟩
        have hbw1 := hbw.trans (hb1.mono (Nat.le_trans hbE0 hbw.size))
        obtain ⟨v2, w2, hap, hO2, hb2⟩ := app_sl (hO.out.below hb1 (Nat.le_refl _)) hve (Nat.le_trans hbE0 hbw1.size) (by omega)
        have hbw2 := hbw1.trans hb2
        have HO2 := Lib.hid hO2
        clear hve hb1 hb2 hO2 hO HE HIX
        go_wp2_with (at_builtin; refine wpList_append_run _ rfl _ _ _ _ rfl _ _ _ rfl rfl _ hap ?_)
        go_roundw
        case rel =>
          refine ⟨k + 1, v2, by omega, rfl, by go_num, Lib.hid ?_, hbw2⟩
          have h := HO2.out
          rw [HS0.out, HP1.out (by simp), ← List.append_assoc, HL.out]
          exact h
        case measure => simp [intOf]; omega
      | false =>
        obtain ⟨v1, w1, hap1, ho1, hb1⟩ := app_lit hO.out [92, 40] (Nat.le_trans hbE0 hbw.size) (by simp only [List.length_cons, List.length_nil]; omega)
        have hap1 : ∀ ty, (Builtin.append_ #[71, 71] ty #[v, .slice (some ⟨wr.heap.size, 0, none⟩) 2 2]).run Tryd.prog (wr.alloc (.cells #[.int .u8 92, .int .u8 40] 5)) = .ok v1 w1 := hap1
        have HO1 := Lib.hid ho1
        have hbw1 := hbw.trans hb1
        have ck := (hbw1.cell (p := ⟨ba, oa + k, none⟩) la).trans hca
        clear ho1 hb1
        obtain ⟨v2, w2, hap2, ho2, hb2⟩ := app_str HO1.out x (Nat.le_trans hbE0 hbw1.size) (by simp only [List.length_append, List.length_cons, List.length_nil]; omega)
        have HO2 := Lib.hid ho2
        have hbw2 := hbw1.trans hb2
        clear ho2 hb2
        obtain ⟨v3, w3, hap3, ho3, hb3⟩ := app_lit HO2.out [41] (Nat.le_trans hbE0 hbw2.size) (by simp only [List.length_append, List.length_cons, List.length_nil]; omega)
        have hap3 : ∀ ty, (Builtin.append_ #[71, 71] ty #[v2, .slice (some ⟨w2.heap.size, 0, none⟩) 1 1]).run Tryd.prog (w2.alloc (.cells #[.int .u8 41] 5)) = .ok v3 w3 := hap3
        have HO3 := Lib.hid ho3
        have hbw3 := hbw2.trans hb3
        clear ho3 hb3 hO
        go_wp2_with fail
        refine HIX.out.mono ?_
        rintro e w' ⟨rfl, rfl⟩
        go_wp2_with (at_builtin; first | refine wpList_append_run _ rfl _ _ _ _ rfl _ _ _ rfl rfl _ hap1 ?_ | refine wpList_append_run _ rfl _ _ _ _ rfl _ _ _ rfl rfl _ hap2 ?_ | refine wpList_append_run _ rfl _ _ _ _ rfl _ _ _ rfl rfl _ hap3 ?_)
        go_roundw
        case rel =>
          refine ⟨k + 1, v3, by omega, rfl, by go_num, Lib.hid ?_, hbw3⟩
          have h := HO3.out
          rw [HS0.out, HP2.out (by simp), ← List.append_assoc, HL.out]
          simpa [List.append_assoc] using h
        case measure => simp [intOf]; omega
    · obtain rfl : k = ss.length := by omega
      obtain ⟨vz, wz, hapz, hoz, hbz⟩ := app_lit hO.out [34] (Nat.le_trans hbE0 hbw.size) (by simp only [List.length_append, List.length_cons, List.length_nil] at hll ⊢; omega)
      have hapz : ∀ ty, (Builtin.append_ #[71, 71] ty #[v, .slice (some ⟨wr.heap.size, 0, none⟩) 1 1]).run Tryd.prog (wr.alloc (.cells #[.int .u8 34] 5)) = .ok vz wz := hapz
      have hcv := run_back hoz
      have hbwz := hbw.trans hbz
      obtain ⟨R, hR⟩ : ∃ R, [34] ++ seqT [] (pcT bs ss) ss.length ++ [34] = R := ⟨_, rfl⟩
      rw [hR] at hcv
      have HR := Lib.hid hR
      clear hoz hbz hO hll hl0 hl1 HS0 hR
      go_wp2_with (at_builtin; refine wpList_append_run _ rfl _ _ _ _ rfl _ _ _ rfl rfl _ hapz ?_)
      go_ret
      refine ⟨?_, hbwz.mono hbE⟩
      show Ending.returned (.string ⟨R.toArray⟩) = _
      exact ret_str (by rw [← HR.out]; simp)

theorem pcs_all (bs : List Bool) (ss : List ByteArray) (hl : ss.length ≤ 1048576) (ht : tot ss ≤ 1048576) : ([34] ++ seqT [] (pcT bs ss) ss.length ++ [34]).length ≤ 100000000 := by
  have h1 := pcs_len bs ss ss.length (Nat.le_refl _)
  rw [tot_all] at h1
  simp only [List.length_append, List.length_cons, List.length_nil]; omega

set_option maxHeartbeats 4000000 in
set_option maxRecDepth 100000 in
theorem lawI (vs vb : Value) (ss : List ByteArray) (bs : List Bool) (w : World) (hT : Lib.Utf8Tabs 0 1 w) (hs : Sl vs (ss.map Value.string) w) (hz : ∀ s ∈ ss, s.size ≤ maxLen) (hb : Sl vb (bs.map Value.bool) w) :
    Calls Tryd.prog 7 #[vs, vb] w fun e w' => e = .returned (.bool true) ∧ Below w.heap.size w w' := by
  have HBy := Lib.hid (bytes_FnStringInterpolationMatchesModel vs ss vb (bs.map Value.bool) w hs hz hb)
  rw [List.length_map] at HBy
  by_cases h1 : (ss.length + tot ss) + bs.length ≤ 1048576
  · have hft : fitT ((ss.length + tot ss) + bs.length) = true := by unfold fitT; simpa using h1
    rw [hft] at HBy
    have HSz := Lib.hid (size_any vs ss w hs (by omega))
    obtain ⟨q, hq⟩ : ∃ q, capS (8 * ss.length + tot ss) = q := ⟨_, rfl⟩
    have hq2 : q ≤ 1048577 := by rw [← hq]; unfold capS; split <;> omega
    rw [hq] at HSz
    have HS := Lib.hid hs
    have HB := Lib.hid hb
    have HT := Lib.hid hT
    have HLt := Lib.hid (lits_any vs vb ss bs w hs hb (by omega) (by omega))
    obtain ⟨ab, cb, hvb, _⟩ := hb
    rw [List.length_map] at hvb
    subst hvb
    have hsl : ss.length ≤ 1048576 := by omega
    have htot : tot ss ≤ 1048576 := by omega
    have hbl2 : bs.length ≤ 1048576 := by omega
    have hTl := pcs_all bs ss hsl htot
    clear hft hq hs hz hT h1
    by_cases hq5 : q ≤ 1048576
    · by_cases hq6 : q + bs.length ≤ 1048576
      · go_enter Tryd.func7, Tryd.ntmps7
        go_wp2_with fail
        refine HBy.out.mono ?_
        rintro e w' ⟨rfl, rfl⟩
        go_wp2_with fail
        refine HSz.out.mono ?_
        rintro e w' ⟨rfl, rfl⟩
        clear HBy HSz
        go_wp2_with fail
        refine HLt.out.mono ?_
        rintro e w' ⟨r, rfl, hr, rfl⟩
        have HR := Lib.hid hr
        clear HLt hr
        cases r with
        | false =>
          go_wp2_with fail
          go_ret
          exact ⟨rfl, Below.refl _ _⟩
        | true =>
          have HA : Hid (LitsOk ss bs) := Lib.hid (HR.out rfl)
          clear HR
          go_wp2_with fail
          refine (clone_zzCloneStrsB2 vs ss w HS.out hsl).mono ?_
          rintro e w1 ⟨v1, rfl, hS1, hb1⟩
          have HS1 := Lib.hid hS1
          have HB1 := Lib.hid (HB.out.below hb1 (Nat.le_refl _))
          clear hS1 HS HB
          go_wp2_with fail
          refine (clone_zzCloneBoolsB2 _ bs w1 HB1.out hbl2).mono ?_
          rintro e w2 ⟨v2, rfl, hB2, hb2⟩
          have HB2 := Lib.hid hB2
          have HS2 := Lib.hid (HS1.out.below hb2 (Nat.le_refl _))
          have hbw2 := hb1.trans (hb2.mono hb1.size)
          clear hB2 HS1 HB1 hb1 hb2
          go_wp2_with fail
          refine (buildI_any v1 v2 ss bs w2 HS2.out HB2.out hsl htot HA.out).mono ?_
          rintro e w3 ⟨g, rfl, hP, hb3⟩
          have HS3 := Lib.hid (HS2.out.below hb3 (Nat.le_refl _))
          have HB3 := Lib.hid (HB2.out.below hb3 (Nat.le_refl _))
          have hbw3 := hbw2.trans (hb3.mono hbw2.size)
          have HM := fun (W : World) (a : Sl v1 (ss.map Value.string) W) (b : Sl v2 (bs.map Value.bool) W) => Lib.hid (imodel_any v1 v2 ss bs W a b hsl htot HA.out)
          obtain ⟨T, hTT⟩ : ∃ T, [34] ++ seqT [] (pcT bs ss) ss.length ++ [34] = T := ⟨_, rfl⟩
          rw [hTT] at hP hTl HM
          have hTW := tabs_below HT.out hbw3 (by have := tabs_size HT.out; omega) (by have := tabs_size HT.out; omega)
          have HC := Lib.hid (str_String hP trivial hTW (by omega))
          clear hTT hP HS2 HB2 hb3 hbw2 hTW
          go_wp2_with fail
          refine HC.out.mono ?_
          rintro e w4 ⟨rfl, hb4⟩
          have HM4 := HM w4 (HS3.out.below hb4 (Nat.le_refl _)) (HB3.out.below hb4 (Nat.le_refl _))
          clear HM HC HS3 HB3
          go_wp2_with fail
          refine HM4.out.mono ?_
          rintro e w5 ⟨rfl, hb5⟩
          clear HM4
          go_wp2_with fail
          go_ret
          refine ⟨ret_bool ?_, hbw3.trans ((hb4.mono hbw3.size).trans (hb5.mono (Nat.le_trans hbw3.size hb4.size)))⟩
          simp
      · go_enter Tryd.func7, Tryd.ntmps7
        go_wp2_with fail
        refine HBy.out.mono ?_
        rintro e w' ⟨rfl, rfl⟩
        go_wp2_with fail
        refine HSz.out.mono ?_
        rintro e w' ⟨rfl, rfl⟩
        go_wp2_with fail
        go_ret
        exact ⟨rfl, Below.refl _ _⟩
    · go_enter Tryd.func7, Tryd.ntmps7
      go_wp2_with fail
      refine HBy.out.mono ?_
      rintro e w' ⟨rfl, rfl⟩
      go_wp2_with fail
      refine HSz.out.mono ?_
      rintro e w' ⟨rfl, rfl⟩
      go_wp2_with fail
      go_ret
      exact ⟨rfl, Below.refl _ _⟩
  · have hft : fitT ((ss.length + tot ss) + bs.length) = false := by unfold fitT; simpa using h1
    rw [hft] at HBy
    clear hft hs hz hT h1 hb
    go_enter Tryd.func7, Tryd.ntmps7
    go_wp2_with fail
    refine HBy.out.mono ?_
    rintro e w' ⟨rfl, rfl⟩
    go_wp2_with fail
    go_ret
    exact ⟨rfl, Below.refl _ _⟩
end Go.Proofs.YtommggamdgajcaaDoor
