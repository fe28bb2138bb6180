/- zzFuncModelB2; the law FnFuncWriteToAfterAnyPrefix (printed by wip/tools/gen_fm49.py). -/
import Derived.Test.YtommggamdgajcaaDoorLawFN49
import Derived.Test.YtommggamdgajcaaDoorOwnX
namespace Go.Proofs.YtommggamdgajcaaDoor
open Go.RowKit

theorem sl_cell {α : Type} {C : α → Value} {a : Option Addr} {n cap : Nat} {xs : List α} {w : World} (h : Sl (.slice a n cap) (xs.map C) w) {k : Nat} (hk : k < xs.length) : ∃ b off, a = some ⟨b, off, none⟩ ∧ w.cell? ⟨b, off + k, none⟩ = some (C xs[k]) := by
  obtain ⟨a', cap', hv, _, _, _, h4⟩ := h
  cases hv
  rcases h4 with h0 | ⟨b, off, ha, hc⟩
  · rw [List.map_eq_nil_iff] at h0; rw [h0] at hk; simp at hk
  · refine ⟨b, off, ha, ?_⟩
    have := hc k (by simpa using hk)
    rwa [List.getElem_map] at this
theorem big_of {l : List ByteArray} {k : Nat} (hk : k < l.length) (h : tot l ≤ 1048576) : l[k].size ≤ 1048576 := by
  have h1 := tot_snoc l k hk
  have h2 := tot_take_le l (k + 1)
  omega
theorem argT_at {bs : List Bool} {ss : List ByteArray} {k : Nat} (h : k < ss.length) : argT bs ss k = (if ixB bs ss k then [46] else []) ++ ss[k].data.toList := by unfold argT; simp [h]
def FMRel (nm : ByteArray) (ss : List ByteArray) (bs : List Bool) (base : Nat) (w : World) (v7 v8 : Value) (wr : World) : Prop :=
  ∃ (k : Nat) (v : Value), k ≤ ss.length ∧ v = v7 ∧ v8 = .int .i64 k ∧ Hid (OX base v (nm.data.toList ++ [40] ++ seqT [59, 32] (argT bs ss) k) wr) ∧ Below base w wr

set_option maxHeartbeats 2000000 in
set_option maxRecDepth 100000 in
theorem fmodel_any (nm : ByteArray) (vs vb : Value) (ss : List ByteArray) (bs : List Bool) (w : World) (hs : Sl vs (ss.map Value.string) w) (hb : Sl vb (bs.map Value.bool) w) (hn : nm.size ≤ 1048576) (hl : ss.length ≤ 1048576) (ht : tot ss ≤ 1048576) :
    Calls Tryd.prog 21 #[.string nm, vs, vb] w fun e w' => e = .returned (.string ⟨(fnT nm ss bs).toArray⟩) ∧ Below w.heap.size w w' := by
  have H1 := Lib.hid hs
  have H2 := Lib.hid hb
  have hnd : nm.data.toList.length = nm.size := rfl
  obtain ⟨v0, w0, hcv0, ho0, hb0⟩ := conv_ox nm w (by omega)
  have HO0 := Lib.hid ho0
  obtain ⟨a1, c1, e1, _⟩ := hs
  rw [List.length_map] at e1
  subst e1
  clear ho0 hb
  by_cases h0 : ss.length = 0
  · have HE : Hid (fnT nm ss bs = nm.data.toList) := Lib.hid (by unfold fnT; rw [if_pos h0, List.append_nil])
    have hcv := HO0.out.back
    rw [h0, HE.out]
    clear H1 H2 HO0 h0 hl ht
    go_enter Tryd.func21, Tryd.ntmps21
    go_wp2_with fail
    go_ret
    exact ⟨rfl, hb0⟩
  · have hpos : 0 < ss.length := by omega
    have HE : Hid (fnT nm ss bs = nm.data.toList ++ [40] ++ seqT [59, 32] (argT bs ss) ss.length ++ [41]) := Lib.hid (by unfold fnT; rw [if_neg h0]; simp)
    obtain ⟨v1, w1, hap, ho1, hb1⟩ := HO0.out.lit [40] hb0.size (by simp only [List.length_cons, List.length_nil]; omega)
    have hap : ∀ ty, (Builtin.append_ #[71, 71] ty #[v0, .slice (some ⟨w0.heap.size, 0, none⟩) 1 1]).run Tryd.prog (w0.alloc (.cells #[.int .u8 40] 5)) = .ok v1 w1 := hap
    have HO1 := Lib.hid ho1
    have hb01 := hb0.trans hb1
    clear ho1 hb1 hb0 HO0 h0
    go_enter Tryd.func21, Tryd.ntmps21
    go_wp2_with (at_builtin; refine wpList_append_run _ rfl _ _ _ _ rfl _ _ _ rfl rfl _ hap ?_)
    have HT := Lib.hid (seqT_len bs ss)
    have HTk := Lib.hid (tot_take_le ss)
    clear hap hcv0
    obtain ⟨base, hbase⟩ : ∃ b, b = w.heap.size := ⟨_, rfl⟩
    rw [← hbase] at HO1 hb01
    have HB := Lib.hid hbase
    have hbE : w.heap.size ≤ base := by omega
    go_loopw [7, 8] (FMRel nm ss bs base w) (fun _ i _ => ss.length - (intOf i).toNat)
    case atStart => exact ⟨0, v1, Nat.zero_le _, rfl, rfl, Lib.hid (by simpa [seqT] using HO1.out), hb01⟩
    case round =>
      obtain ⟨k, v, hkk, rfl, rfl, hO, hbw⟩ := hrel
      have hl0 := HT.out k hkk
      have hl1 := HTk.out k
      have hl : (nm.data.toList ++ [40] ++ seqT [59, 32] (argT bs ss) k).length ≤ 1000000000 := by simp only [List.length_append, List.length_cons, List.length_nil]; omega
      have hbE0 : base ≤ w.heap.size := by have := HB.out; omega
      by_cases hlt : k < ss.length
      · obtain ⟨ba, oa, ha, hca⟩ := sl_cell H1.out hlt
        subst ha
        have la := World.block_lt_of_cell? w _ hca
        simp only at la
        have la : ba < base := by omega
        have hA := argT_at (bs := bs) hlt
        have hxl := big_of hlt ht
        have HP := fun (W : World) (hW : Below base w W) => Lib.hid (ix_any _ _ bs ss k hlt W (H2.out.below hW hbE) (H1.out.below hW hbE))
        obtain ⟨x, hx⟩ : ∃ x, x = ss[k] := ⟨_, rfl⟩
        rw [← hx] at hA hxl hca
        obtain ⟨X, hX⟩ : ∃ X, ixB bs ss k = X := ⟨_, rfl⟩
        rw [hX] at HP hA
        have HA := Lib.hid hA
        have hxd : x.data.toList.length = x.size := rfl
        obtain ⟨L, hL⟩ : ∃ L, nm.data.toList ++ [40] ++ seqT [59, 32] (argT bs ss) k = L := ⟨_, rfl⟩
        rw [hL] at hO hl
        have HL := Lib.hid hL
        clear hx hX hA hL hl0 hl1
        by_cases hk0 : k = 0
        · cases X with
          | false =>
            have HK0 := Lib.hid hk0
            have hd : decide (0 < k) = false := by simp; omega
            clear hk0
            have HPk := HP _ hbw
            clear HP
            go_wp2_with fail
            refine HPk.out.mono ?_
            rintro e w' ⟨rfl, rfl⟩
            clear HPk
            have ck := (hbw.cell (p := ⟨ba, oa + k, none⟩) la).trans hca
            obtain ⟨v1, w1, hap1, ho1, hb1⟩ := OX.str hO.out x (Nat.le_trans hbE0 hbw.size) (by first | omega | (simp only [List.length_append, List.length_cons, List.length_nil]; omega))
            have HO1 := Lib.hid ho1
            have hbw1 := hbw.trans hb1
            clear ho1 hb1
            clear hO
            go_wp2_with (at_builtin; first | refine wpList_append_run _ rfl _ _ _ _ rfl _ _ _ rfl rfl _ hap1 ?_)
            go_roundw
            case rel =>
              refine ⟨k + 1, v1, by omega, rfl, by go_num, Lib.hid ?_, hbw1⟩
              have h := HO1.out
              rw [show nm.data.toList ++ [40] ++ seqT [59, 32] (argT bs ss) (k + 1) = L ++ x.data.toList by rw [← HL.out]; simp only [seqT]; rw [HA.out, if_pos HK0.out]; simp]
              exact h
            case measure => simp [intOf]; omega
          | true =>
            have HK0 := Lib.hid hk0
            have hd : decide (0 < k) = false := by simp; omega
            clear hk0
            have HPk := HP _ hbw
            clear HP
            go_wp2_with fail
            refine HPk.out.mono ?_
            rintro e w' ⟨rfl, rfl⟩
            clear HPk
            obtain ⟨v1, w1, hap1, ho1, hb1⟩ := OX.lit hO.out [46] (Nat.le_trans hbE0 hbw.size) (by simp only [List.length_cons, List.length_nil]; omega)
            have hap1 : ∀ ty, (Builtin.append_ #[71, 71] ty #[v, .slice (some ⟨wr.heap.size, 0, none⟩) 1 1]).run Tryd.prog (wr.alloc (.cells #[.int .u8 46] 5)) = .ok v1 w1 := hap1
            have HO1 := Lib.hid ho1
            have hbw1 := hbw.trans hb1
            clear ho1 hb1
            have ck := (hbw1.cell (p := ⟨ba, oa + k, none⟩) la).trans hca
            obtain ⟨v2, w2, hap2, ho2, hb2⟩ := OX.str HO1.out x (Nat.le_trans hbE0 hbw1.size) (by first | omega | (simp only [List.length_append, List.length_cons, List.length_nil]; omega))
            have HO2 := Lib.hid ho2
            have hbw2 := hbw1.trans hb2
            clear ho2 hb2
            clear hO
            go_wp2_with (at_builtin; first | refine wpList_append_run _ rfl _ _ _ _ rfl _ _ _ rfl rfl _ hap1 ?_ | refine wpList_append_run _ rfl _ _ _ _ rfl _ _ _ rfl rfl _ hap2 ?_)
            go_roundw
            case rel =>
              refine ⟨k + 1, v2, by omega, rfl, by go_num, Lib.hid ?_, hbw2⟩
              have h := HO2.out
              rw [show nm.data.toList ++ [40] ++ seqT [59, 32] (argT bs ss) (k + 1) = L ++ [46] ++ x.data.toList by rw [← HL.out]; simp only [seqT]; rw [HA.out, if_pos HK0.out]; simp]
              exact h
            case measure => simp [intOf]; omega
        · cases X with
          | false =>
            have HK0 := Lib.hid hk0
            have hd : decide (0 < k) = true := by simp; omega
            have hd2 : 0 < k := by omega
            clear hk0
            obtain ⟨v1, w1, hap1, ho1, hb1⟩ := OX.lit hO.out [59, 32] (Nat.le_trans hbE0 hbw.size) (by simp only [List.length_cons, List.length_nil]; omega)
            have hap1 : ∀ ty, (Builtin.append_ #[71, 71] ty #[v, .slice (some ⟨wr.heap.size, 0, none⟩) 2 2]).run Tryd.prog (wr.alloc (.cells #[.int .u8 59, .int .u8 32] 5)) = .ok v1 w1 := hap1
            have HO1 := Lib.hid ho1
            have hbw1 := hbw.trans hb1
            clear ho1 hb1
            have HPk := HP _ hbw1
            clear HP
            go_wp2_with (at_builtin; first | refine wpList_append_run _ rfl _ _ _ _ rfl _ _ _ rfl rfl _ hap1 ?_)
            refine HPk.out.mono ?_
            rintro e w' ⟨rfl, rfl⟩
            clear HPk
            have ck := (hbw1.cell (p := ⟨ba, oa + k, none⟩) la).trans hca
            obtain ⟨v2, w2, hap2, ho2, hb2⟩ := OX.str HO1.out x (Nat.le_trans hbE0 hbw1.size) (by first | omega | (simp only [List.length_append, List.length_cons, List.length_nil]; omega))
            have HO2 := Lib.hid ho2
            have hbw2 := hbw1.trans hb2
            clear ho2 hb2
            clear hO
            go_wp2_with (at_builtin; first | refine wpList_append_run _ rfl _ _ _ _ rfl _ _ _ rfl rfl _ hap2 ?_)
            go_roundw
            case rel =>
              refine ⟨k + 1, v2, by omega, rfl, by go_num, Lib.hid ?_, hbw2⟩
              have h := HO2.out
              rw [show nm.data.toList ++ [40] ++ seqT [59, 32] (argT bs ss) (k + 1) = L ++ [59, 32] ++ x.data.toList by rw [← HL.out]; simp only [seqT]; rw [HA.out, if_neg HK0.out]; simp]
              exact h
            case measure => simp [intOf]; omega
          | true =>
            have HK0 := Lib.hid hk0
            have hd : decide (0 < k) = true := by simp; omega
            have hd2 : 0 < k := by omega
            clear hk0
            obtain ⟨v1, w1, hap1, ho1, hb1⟩ := OX.lit hO.out [59, 32] (Nat.le_trans hbE0 hbw.size) (by simp only [List.length_cons, List.length_nil]; omega)
            have hap1 : ∀ ty, (Builtin.append_ #[71, 71] ty #[v, .slice (some ⟨wr.heap.size, 0, none⟩) 2 2]).run Tryd.prog (wr.alloc (.cells #[.int .u8 59, .int .u8 32] 5)) = .ok v1 w1 := hap1
            have HO1 := Lib.hid ho1
            have hbw1 := hbw.trans hb1
            clear ho1 hb1
            have HPk := HP _ hbw1
            clear HP
            go_wp2_with (at_builtin; first | refine wpList_append_run _ rfl _ _ _ _ rfl _ _ _ rfl rfl _ hap1 ?_)
            refine HPk.out.mono ?_
            rintro e w' ⟨rfl, rfl⟩
            clear HPk
            obtain ⟨v2, w2, hap2, ho2, hb2⟩ := OX.lit HO1.out [46] (Nat.le_trans hbE0 hbw1.size) (by simp only [List.length_append, List.length_cons, List.length_nil]; omega)
            have hap2 : ∀ ty, (Builtin.append_ #[71, 71] ty #[v1, .slice (some ⟨w1.heap.size, 0, none⟩) 1 1]).run Tryd.prog (w1.alloc (.cells #[.int .u8 46] 5)) = .ok v2 w2 := hap2
            have HO2 := Lib.hid ho2
            have hbw2 := hbw1.trans hb2
            clear ho2 hb2
            have ck := (hbw2.cell (p := ⟨ba, oa + k, none⟩) la).trans hca
            obtain ⟨v3, w3, hap3, ho3, hb3⟩ := OX.str HO2.out x (Nat.le_trans hbE0 hbw2.size) (by first | omega | (simp only [List.length_append, List.length_cons, List.length_nil]; omega))
            have HO3 := Lib.hid ho3
            have hbw3 := hbw2.trans hb3
            clear ho3 hb3
            clear hO
            go_wp2_with (at_builtin; first | refine wpList_append_run _ rfl _ _ _ _ rfl _ _ _ rfl rfl _ hap2 ?_ | refine wpList_append_run _ rfl _ _ _ _ rfl _ _ _ rfl rfl _ hap3 ?_)
            go_roundw
            case rel =>
              refine ⟨k + 1, v3, by omega, rfl, by go_num, Lib.hid ?_, hbw3⟩
              have h := HO3.out
              rw [show nm.data.toList ++ [40] ++ seqT [59, 32] (argT bs ss) (k + 1) = L ++ [59, 32] ++ [46] ++ x.data.toList by rw [← HL.out]; simp only [seqT]; rw [HA.out, if_neg HK0.out]; simp]
              exact h
            case measure => simp [intOf]; omega
      · obtain rfl : k = ss.length := by omega
        obtain ⟨vz, wz, hapz, hoz, hbz⟩ := OX.lit hO.out [41] (Nat.le_trans hbE0 hbw.size) (by simp only [List.length_cons, List.length_nil]; omega)
        have hapz : ∀ ty, (Builtin.append_ #[71, 71] ty #[v, .slice (some ⟨wr.heap.size, 0, none⟩) 1 1]).run Tryd.prog (wr.alloc (.cells #[.int .u8 41] 5)) = .ok vz wz := hapz
        have hcv := hoz.back
        have hbwz := hbw.trans hbz
        clear hoz hbz hO hl hl0 hl1
        go_wp2_with (at_builtin; refine wpList_append_run _ rfl _ _ _ _ rfl _ _ _ rfl rfl _ hapz ?_)
        go_ret
        refine ⟨?_, hbwz.mono hbE⟩
        show Ending.returned (.string ⟨(nm.data.toList ++ 40 :: (seqT [59, 32] (argT bs ss) ss.length ++ [41])).toArray⟩) = _
        exact ret_str (by rw [HE.out]; simp)

set_option maxHeartbeats 4000000 in
set_option maxRecDepth 100000 in
theorem lawFW (p nm : ByteArray) (vs vb : Value) (ss : List ByteArray) (bs : List Bool) (w : World) (hT : Lib.Utf8Tabs 0 1 w) (ho : p.size ≤ maxLen) (hi : nm.size ≤ maxLen) (hs : Sl vs (ss.map Value.string) w) (hz : ∀ s ∈ ss, s.size ≤ maxLen) (hb : Sl vb (bs.map Value.bool) w) :
    Calls Tryd.prog 5 #[.string p, .string nm, vs, vb] w fun e w' => e = .returned (.bool true) ∧ Below w.heap.size w w' := by
  have HBy := Lib.hid (bytes_FnFuncWriteToAfterAnyPrefix p nm vs ss vb (bs.map Value.bool) w ho hi hs hz hb)
  rw [List.length_map] at HBy
  by_cases h1 : p.size + nm.size + (ss.length + tot ss) + bs.length ≤ 1048576
  · have hft : fitT (p.size + nm.size + (ss.length + tot ss) + bs.length) = true := by unfold fitT; simpa using h1
    rw [hft] at HBy
    have HSz := Lib.hid (size_any vs ss w hs (by omega))
    obtain ⟨q, hq⟩ : ∃ q, capS (8 * ss.length + tot ss) = q := ⟨_, rfl⟩
    have hq2 : q ≤ 1048577 := by rw [← hq]; unfold capS; split <;> omega
    rw [hq] at HSz
    have HS := Lib.hid hs
    have HB := Lib.hid hb
    have HT := Lib.hid hT
    obtain ⟨ab, cb, hvb, _⟩ := hb
    rw [List.length_map] at hvb
    subst hvb
    have hsl : ss.length ≤ 1048576 := by omega
    have htot : tot ss ≤ 1048576 := by omega
    have hbl2 : bs.length ≤ 1048576 := by omega
    have hpz : p.size ≤ 1048576 := by omega
    have hnz : nm.size ≤ 1048576 := by omega
    clear hft hq hs hz hT ho hi h1
    by_cases hq5 : q ≤ 1048576
    · by_cases hq6 : p.size + nm.size + q + bs.length ≤ 1048576
      · go_enter Tryd.func5, Tryd.ntmps5
        go_wp2_with fail
        refine HBy.out.mono ?_
        rintro e w' ⟨rfl, rfl⟩
        go_wp2_with fail
        refine HSz.out.mono ?_
        rintro e w' ⟨rfl, rfl⟩
        clear HBy HSz
        go_wp2_with fail
        refine (clone_zzCloneStrsB2 vs ss w HS.out hsl).mono ?_
        rintro e w1 ⟨v1, rfl, hS1, hb1⟩
        have HS1 := Lib.hid hS1
        have HB1 := Lib.hid (HB.out.below hb1 (Nat.le_refl _))
        clear hS1 HS HB
        go_wp2_with fail
        refine (clone_zzCloneBoolsB2 _ bs w1 HB1.out hbl2).mono ?_
        rintro e w2 ⟨v2, rfl, hB2, hb2⟩
        have HB2 := Lib.hid hB2
        have HS2 := Lib.hid (HS1.out.below hb2 (Nat.le_refl _))
        have hbw2 := hb1.trans (hb2.mono hb1.size)
        clear hB2 HS1 HB1 hb1 hb2
        go_wp2_with fail
        refine (build_any nm v1 v2 ss bs w2 HS2.out HB2.out hsl).mono ?_
        rintro e w3 ⟨g, rfl, hP, hb3⟩
        have HS3 := Lib.hid (HS2.out.below hb3 (Nat.le_refl _))
        have HB3 := Lib.hid (HB2.out.below hb3 (Nat.le_refl _))
        have hbw3 := hbw2.trans (hb3.mono hbw2.size)
        have hTl : (fnT nm ss bs).length ≤ 10000000 := by have := fnT_len nm ss bs; omega
        have HM := fun (W : World) (a : Sl v1 (ss.map Value.string) W) (b : Sl v2 (bs.map Value.bool) W) => Lib.hid (fmodel_any nm v1 v2 ss bs W a b hnz hsl htot)
        obtain ⟨T, hTT⟩ : ∃ T, fnT nm ss bs = T := ⟨_, rfl⟩
        rw [hTT] at hP hTl HM
        have hTW := tabs_below HT.out hbw3 (by have := tabs_size HT.out; omega) (by have := tabs_size HT.out; omega)
        have HC := Lib.hid (after_Func p hP trivial hTW (by omega))
        clear hTT hP HS2 HB2 hb3 hbw2 hTW
        go_wp2_with fail
        refine HC.out.mono ?_
        rintro e w4 ⟨rfl, hb4⟩
        have HM4 := HM w4 (HS3.out.below hb4 (Nat.le_refl _)) (HB3.out.below hb4 (Nat.le_refl _))
        have hz1 : p.size + (⟨T.toArray⟩ : ByteArray).size ≤ 9223372036854775807 := by show p.size + T.toArray.size ≤ _; rw [List.size_toArray]; omega
        clear HM HC HS3 HB3
        go_wp2_with fail
        refine HM4.out.mono ?_
        rintro e w5 ⟨rfl, hb5⟩
        clear HM4
        go_wp2_with fail
        go_ret
        refine ⟨ret_bool ?_, hbw3.trans ((hb4.mono hbw3.size).trans (hb5.mono (Nat.le_trans hbw3.size hb4.size)))⟩
        rw [ByteArray.toList_eq, ByteArray.data_append]
        simp
      · go_enter Tryd.func5, Tryd.ntmps5
        go_wp2_with fail
        refine HBy.out.mono ?_
        rintro e w' ⟨rfl, rfl⟩
        go_wp2_with fail
        refine HSz.out.mono ?_
        rintro e w' ⟨rfl, rfl⟩
        go_wp2_with fail
        go_ret
        exact ⟨rfl, Below.refl _ _⟩
    · go_enter Tryd.func5, Tryd.ntmps5
      go_wp2_with fail
      refine HBy.out.mono ?_
      rintro e w' ⟨rfl, rfl⟩
      go_wp2_with fail
      refine HSz.out.mono ?_
      rintro e w' ⟨rfl, rfl⟩
      go_wp2_with fail
      go_ret
      exact ⟨rfl, Below.refl _ _⟩
  · have hft : fitT (p.size + nm.size + (ss.length + tot ss) + bs.length) = false := by unfold fitT; simpa using h1
    rw [hft] at HBy
    clear hft hs hz hT ho hi h1 hb
    go_enter Tryd.func5, Tryd.ntmps5
    go_wp2_with fail
    refine HBy.out.mono ?_
    rintro e w' ⟨rfl, rfl⟩
    go_wp2_with fail
    go_ret
    exact ⟨rfl, Below.refl _ _⟩
end Go.Proofs.YtommggamdgajcaaDoor
