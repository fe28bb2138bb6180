/- The law FnConstObjectStringMatchesModel. -/
import Derived.Test.YtbdjddgihnmemaaDoorBig41
namespace Go.Proofs.YtbdjddgihnmemaaDoor
open Go.RowKit

theorem objN_len (ks : List ByteArray) (kinds nums : List Int) (gn : I64s nums) (h1 : ks.length ≤ 1048576) (h2 : tot ks ≤ 1048576) : (objT (kvN ks kinds nums) ks.length).length ≤ 100000000 := by
  have h := kvN_len ks kinds nums gn ks.length (Nat.le_refl _)
  have h4 := tot_take_le ks ks.length
  unfold objT
  split
  · simp
  · simp only [List.length_append, List.length_cons, List.length_nil]; omega

set_option maxHeartbeats 4000000 in
set_option maxRecDepth 100000 in
theorem lawM (v1 v2 v3 : Value) (ks : List ByteArray) (xs ys : List Int) (w : World) (hT : Lib.Utf8Tabs 0 1 w) (h1 : Sl v1 (ks.map Value.string) w) (g1 : ∀ s ∈ ks, s.size ≤ maxLen) (h2 : Sl v2 (xs.map (Value.int .i64)) w) (h3 : Sl v3 (ys.map (Value.int .i64)) w) (gn : I64s ys) :
    Calls Tryd.prog 3 #[v1, v2, v3] w fun e w' => e = .returned (.bool true) ∧ Below w.heap.size w w' := by
  have HBy := Lib.hid (bytes_FnConstObjectStringMatchesModel v1 ks v2 _ v3 _ w h1 g1 h2 h3)
  rw [List.length_map, List.length_map] at HBy
  by_cases hb1 : (ks.length + tot ks) + xs.length + ys.length ≤ 1048576
  · have hft : fitT ((ks.length + tot ks) + xs.length + ys.length) = true := by unfold fitT; simpa using hb1
    rw [hft] at HBy
    have HBig := Lib.hid (tooBig_any v1 v2 v3 ks xs ys w h1 h2 h3 (by omega) (by omega) (by omega))
    have t1 : tot ks ≤ 1048576 := by omega
    have l1 : ks.length ≤ 1048576 := by omega
    have l2 : xs.length ≤ 1048576 := by omega
    have l3 : ys.length ≤ 1048576 := by omega
    have hol := objN_len ks xs ys gn l1 t1
    obtain ⟨bg, hbg⟩ : ∃ b, bigT ks xs.length ys.length = b := ⟨_, rfl⟩
    rw [hbg] at HBig
    have H1 := Lib.hid h1
    have H2 := Lib.hid h2
    have H3 := Lib.hid h3
    have HT := Lib.hid hT
    have GN := Lib.hid gn
    clear hbg hft hb1 g1 h1 h2 h3 hT gn
    cases bg with
    | true =>
      go_enter Tryd.func3, Tryd.ntmps3
      go_wp2_with fail
      refine HBy.out.mono ?_
      rintro e w' ⟨rfl, rfl⟩
      go_wp2_with fail
      refine HBig.out.mono ?_
      rintro e w' ⟨rfl, rfl⟩
      go_wp2_with fail
      go_ret
      exact ⟨rfl, Below.refl _ _⟩
    | false =>
      go_enter Tryd.func3, Tryd.ntmps3
      go_wp2_with fail
      refine HBy.out.mono ?_
      rintro e w' ⟨rfl, rfl⟩
      go_wp2_with fail
      refine HBig.out.mono ?_
      rintro e w' ⟨rfl, rfl⟩
      clear HBy HBig
      go_wp2_with fail
      refine (clone_zzCloneStrs_b3 _ ks w H1.out (by omega)).mono ?_
      rintro e wa ⟨va, rfl, hSa, hba⟩
      have H2a := Lib.hid (H2.out.below hba (Nat.le_refl _))
      have H3a := Lib.hid (H3.out.below hba (Nat.le_refl _))
      have HSa := Lib.hid hSa
      clear H1 H2 H3 hSa
      go_wp2_with fail
      refine (clone_zzCloneInts_b3 _ xs wa H2a.out (by omega)).mono ?_
      rintro e wb ⟨vb, rfl, hSb, hbb⟩
      have H3b := Lib.hid (H3a.out.below hbb (Nat.le_refl _))
      have HSa := Lib.hid (HSa.out.below hbb (Nat.le_refl _))
      have HSb := Lib.hid hSb
      have hbab := hba.trans (hbb.mono hba.size)
      clear H2a H3a hba hbb hSb
      go_wp2_with fail
      refine (clone_zzCloneI64s_b3 _ ys wb H3b.out (by omega)).mono ?_
      rintro e wc ⟨vc, rfl, hSc, hbc⟩
      have HSa := Lib.hid (HSa.out.below hbc (Nat.le_refl _))
      have HSb := Lib.hid (HSb.out.below hbc (Nat.le_refl _))
      have HSc := Lib.hid hSc
      have hbabc := hbab.trans (hbc.mono hbab.size)
      clear H3b hbab hbc hSc
      go_wp2_with fail
      refine (scalarObj_any va vb vc ks xs ys wc HSa.out HSb.out HSc.out l1 t1 GN.out).mono ?_
      rintro e wd ⟨o, rfl, PO, hbd⟩
      have HSa := Lib.hid (HSa.out.below hbd (Nat.le_refl _))
      have HSb := Lib.hid (HSb.out.below hbd (Nat.le_refl _))
      have HSc := Lib.hid (HSc.out.below hbd (Nat.le_refl _))
      have hbw := hbabc.trans (hbd.mono hbabc.size)
      have hTW := tabs_below HT.out hbw (by have := tabs_size HT.out; omega) (by have := tabs_size HT.out; omega)
      have HM := fun (W : World) (a : Sl va (ks.map Value.string) W) (b : Sl vb (xs.map (Value.int .i64)) W) (c : Sl vc (ys.map (Value.int .i64)) W) => Lib.hid (model_any va vb vc ks xs ys W a b c l1 t1 GN.out)
      obtain ⟨T, hTT⟩ : ∃ T, objT (kvN ks xs ys) ks.length = T := ⟨_, rfl⟩
      rw [hTT] at PO hol HM
      have HC := Lib.hid (str_ConstObject PO trivial hTW (by omega))
      clear hTT PO hTW hbabc hbd
      go_wp2_with fail
      refine HC.out.mono ?_
      rintro e w4 ⟨rfl, hb4⟩
      clear HC
      have HM4 := HM w4 (HSa.out.below hb4 (Nat.le_refl _)) (HSb.out.below hb4 (Nat.le_refl _)) (HSc.out.below hb4 (Nat.le_refl _))
      clear HM HSa HSb HSc
      go_wp2_with fail
      refine HM4.out.mono ?_
      rintro e w5 ⟨rfl, hb5⟩
      clear HM4
      go_wp2_with fail
      go_ret
      refine ⟨ret_bool ?_, hbw.trans ((hb4.mono hbw.size).trans (hb5.mono (Nat.le_trans hbw.size hb4.size)))⟩
      simp
  · have hft : fitT ((ks.length + tot ks) + xs.length + ys.length) = false := by unfold fitT; simpa using hb1
    rw [hft] at HBy
    clear hft hT g1 h1 h2 h3 hb1 gn
    go_enter Tryd.func3, Tryd.ntmps3
    go_wp2_with fail
    refine HBy.out.mono ?_
    rintro e w' ⟨rfl, rfl⟩
    go_wp2_with fail
    go_ret
    exact ⟨rfl, Below.refl _ _⟩
end Go.Proofs.YtbdjddgihnmemaaDoor
