/- The law FnConstObjectWriteToMatchesModel. -/
import Derived.Test.YtbdjddgihnmemaaDoorLawM41
import Derived.Test.YtbdjddgihnmemaaDoorLawA41
namespace Go.Proofs.YtbdjddgihnmemaaDoor
open Go.RowKit

theorem bigT_facts {ks : List ByteArray} {a b : Nat} (h : bigT ks a b = false) : ks.length ≤ 65536 ∧ a ≤ 65536 ∧ b ≤ 65536 ∧ capS (16 * ks.length + tot ks) + 8 * a + 8 * b ≤ 1048576 := by
  unfold bigT at h
  simp only [Bool.not_eq_false', Bool.and_eq_true, decide_eq_true_eq] at h
  omega

set_option maxHeartbeats 4000000 in
set_option maxRecDepth 100000 in
theorem lawN (p : ByteArray) (v1 v2 v3 : Value) (ks : List ByteArray) (xs ys : List Int) (w : World) (hT : Lib.Utf8Tabs 0 1 w) (hp : p.size ≤ maxLen) (h1 : Sl v1 (ks.map Value.string) w) (g1 : ∀ s ∈ ks, s.size ≤ maxLen) (h2 : Sl v2 (xs.map (Value.int .i64)) w) (h3 : Sl v3 (ys.map (Value.int .i64)) w) (gn : I64s ys) :
    Calls Tryd.prog 6 #[.string p, v1, v2, v3] w fun e w' => e = .returned (.bool true) ∧ Below w.heap.size w w' := by
  have HBy := Lib.hid (bytes_FnConstObjectWriteToMatchesModel p v1 ks v2 _ v3 _ w hp h1 g1 h2 h3)
  rw [List.length_map, List.length_map] at HBy
  by_cases hb1 : p.size + (ks.length + tot ks) + xs.length + ys.length ≤ 1048576
  · have hft : fitT (p.size + (ks.length + tot ks) + xs.length + ys.length) = true := by unfold fitT; simpa using hb1
    rw [hft] at HBy
    have HBig := Lib.hid (tooBig_any v1 v2 v3 ks xs ys w h1 h2 h3 (by omega) (by omega) (by omega))
    have t1 : tot ks ≤ 1048576 := by omega
    have l1 : ks.length ≤ 1048576 := by omega
    have l2 : xs.length ≤ 1048576 := by omega
    have l3 : ys.length ≤ 1048576 := by omega
    have lp : p.size ≤ 1048576 := by omega
    have hol := objN_len ks xs ys gn l1 t1
    cases hbg : bigT ks xs.length ys.length with
    | true =>
      rw [hbg] at HBig
      clear hbg hft hb1 g1 h1 h2 h3 hT gn
      go_enter Tryd.func6, Tryd.ntmps6
      go_wp2_with fail
      refine HBy.out.mono ?_
      rintro e w' ⟨rfl, rfl⟩
      go_wp2_with fail
      refine HBig.out.mono ?_
      rintro e w' ⟨rfl, rfl⟩
      go_wp2_with fail
      go_ret
      exact ⟨rfl, Below.refl _ _⟩
    | false =>
      obtain ⟨n1, n2, n3, n4⟩ := bigT_facts hbg
      rw [hbg] at HBig
      have HS := Lib.hid (strsBytes_any _ ks w h1 (by omega) n1)
      obtain ⟨q, hq⟩ : ∃ q, capS (16 * ks.length + tot ks) = q := ⟨_, rfl⟩
      rw [hq] at HS n4
      have H1 := Lib.hid h1
      have H2 := Lib.hid h2
      have H3 := Lib.hid h3
      have HT := Lib.hid hT
      have GN := Lib.hid gn
      obtain ⟨a1, c1, e1, _⟩ := h1
      obtain ⟨a2, c2, e2, _⟩ := h2
      obtain ⟨a3, c3, e3, _⟩ := h3
      rw [List.length_map] at e1 e2 e3
      subst e1 e2 e3
      clear hq hbg hft hb1 g1 hT gn
      by_cases hfit : p.size + q + 8 * xs.length + 8 * ys.length ≤ 1048576
      · go_enter Tryd.func6, Tryd.ntmps6
        go_wp2_with fail
        refine HBy.out.mono ?_
        rintro e w' ⟨rfl, rfl⟩
        go_wp2_with fail
        refine HBig.out.mono ?_
        rintro e w' ⟨rfl, rfl⟩
        clear HBy HBig
        go_wp2_with fail
        refine HS.out.mono ?_
        rintro e w' ⟨rfl, rfl⟩
        clear HS
        go_wp2_with fail
        refine (clone_zzCloneStrs_b3 _ ks w H1.out (by omega)).mono ?_
        rintro e wa ⟨va, rfl, hSa, hba⟩
        have H2a := Lib.hid (H2.out.below hba (Nat.le_refl _))
        have H3a := Lib.hid (H3.out.below hba (Nat.le_refl _))
        have HSa := Lib.hid hSa
        clear H1 H2 H3 hSa
        go_wp2_with fail
        refine (clone_zzCloneInts_b3 _ xs wa H2a.out (by omega)).mono ?_
        rintro e wb ⟨vb, rfl, hSb, hbb⟩
        have H3b := Lib.hid (H3a.out.below hbb (Nat.le_refl _))
        have HSa := Lib.hid (HSa.out.below hbb (Nat.le_refl _))
        have HSb := Lib.hid hSb
        have hbab := hba.trans (hbb.mono hba.size)
        clear H2a H3a hba hbb hSb
        go_wp2_with fail
        refine (clone_zzCloneI64s_b3 _ ys wb H3b.out (by omega)).mono ?_
        rintro e wc ⟨vc, rfl, hSc, hbc⟩
        have HSa := Lib.hid (HSa.out.below hbc (Nat.le_refl _))
        have HSb := Lib.hid (HSb.out.below hbc (Nat.le_refl _))
        have HSc := Lib.hid hSc
        have hbabc := hbab.trans (hbc.mono hbab.size)
        clear H3b hbab hbc hSc
        go_wp2_with fail
        refine (scalarObj_any va vb vc ks xs ys wc HSa.out HSb.out HSc.out l1 t1 GN.out).mono ?_
        rintro e wd ⟨o, rfl, PO, hbd⟩
        have HSa := Lib.hid (HSa.out.below hbd (Nat.le_refl _))
        have HSb := Lib.hid (HSb.out.below hbd (Nat.le_refl _))
        have HSc := Lib.hid (HSc.out.below hbd (Nat.le_refl _))
        have hbw := hbabc.trans (hbd.mono hbabc.size)
        have hTW := tabs_below HT.out hbw (by have := tabs_size HT.out; omega) (by have := tabs_size HT.out; omega)
        have s4 := tabs_size hTW
        have HM := fun (W : World) (a : Sl va (ks.map Value.string) W) (b : Sl vb (xs.map (Value.int .i64)) W) (c : Sl vc (ys.map (Value.int .i64)) W) => Lib.hid (model_any va vb vc ks xs ys W a b c l1 t1 GN.out)
        obtain ⟨T, hTT⟩ : ∃ T, objT (kvN ks xs ys) ks.length = T := ⟨_, rfl⟩
        rw [hTT] at PO hol HM
        have hfr := fresh_is wd
        have hbf : Below wd.heap.size wd (wd.alloc (.cells #[.pointer none, .slice none 0 0] 47)) := (Below.refl _ _).alloc (Nat.le_refl _) _
        have HC0 := Lib.hid (wStr p hfr (by simp; omega) hbf.size)
        have HB := Lib.hid hbf
        have HF := Lib.hid hfr
        have HP4 := Lib.hid PO
        have HT4 := Lib.hid hTW
        have hsd : p.data.toList.length = p.size := rfl
        clear hTT PO hTW hbabc hbd hfr hbf
        go_wp2_with fail
        refine HC0.out.mono ?_
        rintro e w5 ⟨rfl, hb5, hk5⟩
        rw [List.nil_append] at hb5
        have hB5 : wd.heap.size ≤ w5.heap.size := Nat.le_trans HB.out.size hk5.size
        have hbw5 := HB.out.trans hk5.1
        have pr5 : Pres wd w5 := (Pres.below HB.out (Nat.le_refl _)).trans (hk5.pres HF.out)
        have HC1 := Lib.hid (zzw_any (HP4.out wd.heap.size wd.heap.size p.data.toList w5 pr5 hb5.is hB5 s4 (tabs_below HT4.out hbw5 (by omega) (by omega)) trivial (by omega)))
        clear HC0
        go_wp2_with fail
        refine HC1.out.mono ?_
        rintro e w6 ⟨rfl, hb6, hk6⟩
        have hB6 : wd.heap.size ≤ w6.heap.size := Nat.le_trans hB5 hk6.size
        have hbw6 := hbw5.trans hk6.1
        clear HC1
        go_wp2_with fail
        refine (bString2 hb6.is hB6).mono ?_
        rintro e w7 ⟨rfl, hb7, hk7⟩
        have hbw7 := hbw6.trans hk7.1
        have HM4 := HM w7 (HSa.out.below hbw7 (Nat.le_refl _)) (HSb.out.below hbw7 (Nat.le_refl _)) (HSc.out.below hbw7 (Nat.le_refl _))
        have hz1 : p.size + (⟨T.toArray⟩ : ByteArray).size ≤ 9223372036854775807 := by show p.size + T.toArray.size ≤ _; rw [List.size_toArray]; omega
        clear HM HSa HSb HSc
        go_wp2_with fail
        refine HM4.out.mono ?_
        rintro e w8 ⟨rfl, hb8⟩
        clear HM4
        go_wp2_with fail
        go_ret
        refine ⟨ret_bool ?_, hbw.trans ((hbw7.mono hbw.size).trans (hb8.mono (Nat.le_trans hbw.size hbw7.size)))⟩
        rw [ByteArray.toList_eq, ByteArray.data_append]
        simp
      · go_enter Tryd.func6, Tryd.ntmps6
        go_wp2_with fail
        refine HBy.out.mono ?_
        rintro e w' ⟨rfl, rfl⟩
        go_wp2_with fail
        refine HBig.out.mono ?_
        rintro e w' ⟨rfl, rfl⟩
        clear HBy HBig
        go_wp2_with fail
        refine HS.out.mono ?_
        rintro e w' ⟨rfl, rfl⟩
        clear HS
        go_wp2_with fail
        go_ret
        exact ⟨rfl, Below.refl _ _⟩
  · have hft : fitT (p.size + (ks.length + tot ks) + xs.length + ys.length) = false := by unfold fitT; simpa using hb1
    rw [hft] at HBy
    clear hft hT g1 h1 h2 h3 hb1 gn
    go_enter Tryd.func6, Tryd.ntmps6
    go_wp2_with fail
    refine HBy.out.mono ?_
    rintro e w' ⟨rfl, rfl⟩
    go_wp2_with fail
    go_ret
    exact ⟨rfl, Below.refl _ _⟩
end Go.Proofs.YtbdjddgihnmemaaDoor
