/- The law FnConstObjectWriteToAppendsItsString. -/
import Derived.Test.YtbdjddgihnmemaaDoorKv41
namespace Go.Proofs.YtbdjddgihnmemaaDoor
open Go.RowKit

theorem kvS_len (ks vs : List ByteArray) : ∀ k, k ≤ ks.length → (seqT [44, 32] (kvS ks vs) k).length ≤ 8 * k + 6 * tot (ks.take k) + 6 * tot (vs.take k) := by
  intro k
  induction k with
  | zero => intro _; simp [seqT]
  | succ k ih =>
    intro hk
    have i1 := ih (by omega)
    have hlt : k < ks.length := by omega
    have i2 : (kvS ks vs k).length ≤ 6 * ks[k].size + 6 * (vs.getD k ⟨#[]⟩).size + 6 := by
      unfold kvS kvT
      rw [show ks.getD k ⟨#[]⟩ = ks[k] by simp [hlt], if_neg (by decide)]
      have h1 := quoted_len ks[k]
      have h2 := quoted_len (vs.getD k ⟨#[]⟩)
      simp only [List.length_append, List.length_cons, List.length_nil]; omega
    have i3 : tot (vs.take k) + (vs.getD k ⟨#[]⟩).size ≤ tot (vs.take (k + 1)) := by
      by_cases h : k < vs.length
      · rw [tot_snoc vs k h, show vs.getD k ⟨#[]⟩ = vs[k] by simp [h]]; omega
      · rw [List.getD_eq_getElem?_getD, List.getElem?_eq_none (by omega), List.take_of_length_le (by omega), List.take_of_length_le (by omega)]
        show tot vs + 0 ≤ _; omega
    rw [tot_snoc ks k hlt]
    simp only [seqT, List.length_append]
    split <;> simp only [List.length_cons, List.length_nil] <;> omega
theorem obj_len (ks vs : List ByteArray) (h1 : ks.length ≤ 1048576) (h2 : tot ks ≤ 1048576) (h3 : tot vs ≤ 1048576) : (objT (kvS ks vs) ks.length).length ≤ 100000000 := by
  have h := kvS_len ks vs ks.length (Nat.le_refl _)
  have h4 := tot_take_le ks ks.length
  have h5 := tot_take_le vs ks.length
  unfold objT
  split
  · simp
  · simp only [List.length_append, List.length_cons, List.length_nil]; omega

/-- ZZConstObjectWriteTo hands on to writeTo. -/
theorem zzw_any {o B b : Nat} {T pre : List UInt8} {w : World} (h : Calls Tryd.prog 31 #[.pointer (some ⟨o, 0, none⟩), .pointer (some ⟨b, 0, none⟩)] w fun e w'' => e = .returned (.tuple #[]) ∧ BAt B b (pre ++ T) w'' ∧ Kept B b w w'') :
    Calls Tryd.prog 24 #[.pointer (some ⟨o, 0, none⟩), .pointer (some ⟨b, 0, none⟩)] w fun e w'' => e = .returned (.tuple #[]) ∧ BAt B b (pre ++ T) w'' ∧ Kept B b w w'' := by
  have H := Lib.hid h
  clear h
  go_enter Tryd.func24, Tryd.ntmps24
  go_wp2_with fail
  refine H.out.mono ?_
  rintro e w1 ⟨rfl, hb1, hk1⟩
  go_wp2_with fail
  go_end0
  exact ⟨rfl, hb1, hk1⟩

set_option maxHeartbeats 4000000 in
set_option maxRecDepth 100000 in
theorem lawA_good (p : ByteArray) (v1 v2 : Value) (ks vs : List ByteArray) (w : World) (hT : Lib.Utf8Tabs 0 1 w) (hp : p.size ≤ maxLen) (h1 : Sl v1 (ks.map Value.string) w) (g1 : ∀ s ∈ ks, s.size ≤ maxLen) (h2 : Sl v2 (vs.map Value.string) w) (g2 : ∀ s ∈ vs, s.size ≤ maxLen)
    (n1 : ks.length ≤ 65536) (n2 : vs.length ≤ 65536) (hb1 : p.size + (ks.length + tot ks) + (vs.length + tot vs) ≤ 1048576) (hb2 : p.size + (16 * ks.length + tot ks) + (16 * vs.length + tot vs) ≤ 1048576) :
    Calls Tryd.prog 5 #[.string p, v1, v2] w fun e w' => e = .returned (.bool true) ∧ Below w.heap.size w w' := by
  have HBy := Lib.hid (bytes_FnConstObjectWriteToAppendsItsString p v1 ks v2 vs w hp h1 g1 h2 g2)
  have hft : fitT (p.size + (ks.length + tot ks) + (vs.length + tot vs)) = true := by unfold fitT; simpa using hb1
  rw [hft] at HBy
  have HB1 := Lib.hid (strsBytes_any v1 ks w h1 (by omega) n1)
  have HB2 := Lib.hid (strsBytes_any v2 vs w h2 (by omega) n2)
  have hc1 : capS (16 * ks.length + tot ks) = 16 * ks.length + tot ks := by unfold capS; rw [if_pos (by omega)]
  have hc2 : capS (16 * vs.length + tot vs) = 16 * vs.length + tot vs := by unfold capS; rw [if_pos (by omega)]
  rw [hc1] at HB1
  rw [hc2] at HB2
  obtain ⟨q1, hq1⟩ : ∃ q, q = 16 * ks.length + tot ks := ⟨_, rfl⟩
  obtain ⟨q2, hq2⟩ : ∃ q, q = 16 * vs.length + tot vs := ⟨_, rfl⟩
  rw [← hq1] at HB1
  rw [← hq2] at HB2
  have hq : p.size + q1 + q2 ≤ 1048576 := by omega
  have H1 := Lib.hid h1
  have H2 := Lib.hid h2
  have HT := Lib.hid hT
  have hol := obj_len ks vs (by omega) (by omega) (by omega)
  have t1 : tot ks ≤ 1048576 := by omega
  have t2 : tot vs ≤ 1048576 := by omega
  obtain ⟨a1, c1, e1, _⟩ := h1
  obtain ⟨a2, c2, e2, _⟩ := h2
  rw [List.length_map] at e1 e2
  subst e1 e2
  clear hft hT g1 g2 hp hc1 hc2 hq1 hq2 hb1 hb2
  go_enter Tryd.func5, Tryd.ntmps5
  go_wp2_with fail
  refine HBy.out.mono ?_
  rintro e w' ⟨rfl, rfl⟩
  go_wp2_with fail
  refine HB1.out.mono ?_
  rintro e w' ⟨rfl, rfl⟩
  go_wp2_with fail
  refine HB2.out.mono ?_
  rintro e w' ⟨rfl, rfl⟩
  clear HBy HB1 HB2
  go_wp2_with fail
  refine (clone_zzCloneStrs_b3 _ ks w H1.out (by omega)).mono ?_
  rintro e wa ⟨va, rfl, hSa, hba⟩
  have H2a := Lib.hid (H2.out.below hba (Nat.le_refl _))
  have HSa := Lib.hid hSa
  clear H1 H2 hSa
  go_wp2_with fail
  refine (clone_zzCloneStrs_b3 _ vs wa H2a.out (by omega)).mono ?_
  rintro e wb ⟨vb, rfl, hSb, hbb⟩
  have HSa := Lib.hid (HSa.out.below hbb (Nat.le_refl _))
  have HSb := Lib.hid hSb
  have hbab := hba.trans (hbb.mono hba.size)
  clear H2a hba hbb hSb
  go_wp2_with fail
  refine (strKVs_any va vb ks vs wb HSa.out HSb.out (by omega) t1 t2).mono ?_
  rintro e wc ⟨g, qs, rfl, hg, hql, hN, hM, hbc⟩
  have hbabc := hbab.trans (hbc.mono hbab.size)
  have HN := Lib.hid hN
  have HM := Lib.hid hM
  have HQ := Lib.hid hql
  clear hN hM hql HSa HSb hbab hbc
  go_wp2_with fail
  obtain ⟨W, hW⟩ : ∃ W, W = wc.alloc (.cells #[.slice (some ⟨g, 0, none⟩) ks.length ks.length] 43) := ⟨_, rfl⟩
  rw [← hW]
  have hbW : Below wc.heap.size wc W := by rw [hW]; exact (Below.refl _ _).alloc (Nat.le_refl _) _
  have hNo : Nd wc.heap.size 43 #[.slice (some ⟨g, 0, none⟩) ks.length ks.length] W := by rw [hW]; exact Nd.new _ _ _
  clear hW
  have hbw := hbabc.trans (hbW.mono hbabc.size)
  have hTW := tabs_below HT.out hbw (by have := tabs_size HT.out; omega) (by have := tabs_size HT.out; omega)
  have PO : Prints 31 wc.heap.size Any (objT (kvS ks vs) ks.length) W := by
    have hq := HQ.out
    rw [← hq] at hNo ⊢
    exact prints_obj hNo (HN.out.below hbW HN.out.lt) (by omega) (fun i hi => (HM.out i hi).prints.pres (Pres.below hbW (Nat.le_refl _)))
  obtain ⟨T, hTT⟩ : ∃ T, objT (kvS ks vs) ks.length = T := ⟨_, rfl⟩
  rw [hTT] at PO hol
  have HC := Lib.hid (str_ConstObject PO trivial hTW (by omega))
  have HPO := Lib.hid PO
  have HTW := Lib.hid hTW
  clear hTT PO hTW hNo HN HM HQ hbabc hbW
  refine HC.out.mono ?_
  rintro e w4 ⟨rfl, hb4⟩
  clear HC
  have P4 := HPO.out.pres (Pres.below hb4 (Nat.le_refl _))
  have T4 := tabs_below HTW.out hb4 (by have := tabs_size HTW.out; omega) (by have := tabs_size HTW.out; omega)
  have s4 := tabs_size T4
  have hfr := fresh_is w4
  have hbf : Below w4.heap.size w4 (w4.alloc (.cells #[.pointer none, .slice none 0 0] 47)) := (Below.refl _ _).alloc (Nat.le_refl _) _
  have HC0 := Lib.hid (wStr p hfr (by simp; omega) hbf.size)
  have HB := Lib.hid hbf
  have HF := Lib.hid hfr
  have HP4 := Lib.hid P4
  have HT4 := Lib.hid T4
  have hsd : p.data.toList.length = p.size := rfl
  clear HPO HTW P4 T4 hfr hbf
  go_wp2_with fail
  refine HC0.out.mono ?_
  rintro e w5 ⟨rfl, hb5, hk5⟩
  rw [List.nil_append] at hb5
  have hB5 : w4.heap.size ≤ w5.heap.size := Nat.le_trans HB.out.size hk5.size
  have hbw5 := HB.out.trans hk5.1
  have pr5 : Pres w4 w5 := (Pres.below HB.out (Nat.le_refl _)).trans (hk5.pres HF.out)
  have HC1 := Lib.hid (zzw_any (HP4.out w4.heap.size w4.heap.size p.data.toList w5 pr5 hb5.is hB5 s4 (tabs_below HT4.out hbw5 (by omega) (by omega)) trivial (by omega)))
  clear HC0
  go_wp2_with fail
  refine HC1.out.mono ?_
  rintro e w6 ⟨rfl, hb6, hk6⟩
  have hB6 : w4.heap.size ≤ w6.heap.size := Nat.le_trans hB5 hk6.size
  have hbw6 := hbw5.trans hk6.1
  have HC2 := Lib.hid (zzw_any (HP4.out w4.heap.size w4.heap.size (p.data.toList ++ T) w6 (pr5.trans (hk6.pres hb5.is)) hb6.is hB6 s4 (tabs_below HT4.out hbw6 (by omega) (by omega)) trivial (by rw [List.length_append]; omega)))
  clear HC1
  go_wp2_with fail
  refine HC2.out.mono ?_
  rintro e w7 ⟨rfl, hb7, hk7⟩
  have hB7 : w4.heap.size ≤ w7.heap.size := Nat.le_trans hB6 hk7.size
  have hbw7 := hbw6.trans hk7.1
  clear HC2
  have hz1 : p.size + (⟨T.toArray⟩ : ByteArray).size ≤ 9223372036854775807 := by show p.size + T.toArray.size ≤ _; rw [List.size_toArray]; omega
  have hz2 : (p ++ ⟨T.toArray⟩).size + (⟨T.toArray⟩ : ByteArray).size ≤ 9223372036854775807 := by rw [ByteArray.size_append]; show p.size + T.toArray.size + T.toArray.size ≤ _; rw [List.size_toArray]; omega
  go_wp2_with fail
  refine (bString2 hb7.is hB7).mono ?_
  rintro e w8 ⟨rfl, hb8, hk8⟩
  go_wp2_with fail
  go_ret
  have hbw8 := hbw7.trans hk8.1
  refine ⟨ret_bool ?_, hbw.trans ((hb4.mono hbw.size).trans (hbw8.mono (Nat.le_trans hbw.size hb4.size)))⟩
  rw [ByteArray.toList_eq, ByteArray.data_append, ByteArray.data_append]
  simp
end Go.Proofs.YtbdjddgihnmemaaDoor
