/- The laws FnRtrimIdempotentAndPadFree and FnTrimAgreesAndIgnoresPadding. -/
import Derived.Test.YtnnjoehhjmomaaaDoorPad31
import Derived.OpenShut
namespace Go.Proofs.YtnnjoehhjmomaaaDoor
open Go.RowKit Go.Lib
set_option linter.unusedVariables false

theorem bl_int (bs : List UInt8) : (bs.map fun c => (c.toNat : Int)).map (Value.int .u8) = bl bs := by simp [bl]
theorem clone_bl (v : Value) (bs : List UInt8) (w : World) (h : Sl v (bl bs) w) (hl : bs.length ≤ 1048576) :
    Calls Tryd.prog 8 #[v] w fun e w' => ∃ v', e = .returned v' ∧ Sl v' (bl bs) w' ∧ Below w.heap.size w w' := by
  have := clone_b1CopyU8 v (bs.map fun c => (c.toNat : Int)) w (by rw [bl_int]; exact h) (by simpa using hl)
  rw [bl_int] at this
  exact this
theorem app_data (a b : ByteArray) : (a ++ b).data.toList = a.data.toList ++ b.data.toList := by simp
theorem app_size (a b : ByteArray) : (a ++ b).size = a.size + b.size := by simp
theorem rt_idem (s : ByteArray) : rtS (rtS s) = rtS s := by unfold rtS; rw [strOf_data, RT_idem]
theorem rt_pad (s : ByteArray) (l : List UInt8) (h : Sp l) : rtS (s ++ strOf l) = rtS s := by unfold rtS; rw [app_data, strOf_data, RT_sp h]
theorem tr_rl (s : ByteArray) : rtS (ltS s) = trS s := by unfold rtS ltS trS; rw [strOf_data]
theorem tr_lr (s : ByteArray) : ltS (rtS s) = trS s := by unfold rtS ltS trS; rw [strOf_data, trims_commute]
theorem tr_idem (s : ByteArray) : trS (trS s) = trS s := by unfold trS; rw [strOf_data, TR_idem]
theorem tr_pad (s : ByteArray) (p q : List UInt8) (hp : Sp p) (hq : Sp q) : trS (strOf p ++ s ++ strOf q) = trS s := by unfold trS; rw [app_data, app_data, strOf_data, strOf_data, TR_pad _ _ _ hp hq]
set_option maxHeartbeats 1000000 in
set_option maxRecDepth 100000 in
theorem lawRPad (s : ByteArray) (v : Value) (bs : List UInt8) (w : World) (hm : s.size ≤ maxLen) (hv : Sl v (bl bs) w) (hT : UT w) (hW : WT w) :
    Calls Tryd.prog 3 #[.string s, v] w fun e w' => e = .returned (.bool true) ∧ Below w.heap.size w w' := by
  have HBy := Lib.hid (bytes_FnRtrimIdempotentAndPadFree s v (bl bs) w hm hv)
  rw [bl_len] at HBy
  by_cases hs : s.size + bs.length ≤ 1048576
  · have hd : fitT (s.size + bs.length) = true := by unfold fitT; simp; omega
    rw [hd] at HBy
    have HCl := Lib.hid (clone_bl v bs w hv (by omega))
    have hle := rtS_le s
    have hT1 := fun w1 (hb : Below w.heap.size w w1) => hT.below hb
    have hW1 := fun w1 (hb : Below w.heap.size w w1) => hW.below hb
    have HC1 := Lib.hid (fun w1 (hb : Below w.heap.size w w1) => zrt s w1 (by omega) (hT1 w1 hb) (hW1 w1 hb))
    have HC2 := Lib.hid (fun w1 (hb : Below w.heap.size w w1) => zrt (rtS s) w1 (by omega) (hT1 w1 hb) (hW1 w1 hb))
    rw [rt_idem] at HC2
    have HC3 := Lib.hid (fun (l : List UInt8) (hl : Sp l) (hn : l.length ≤ 3 * bs.length) w1 (hb : Below w.heap.size w w1) => zrt (s ++ strOf l) w1 (by rw [app_size, strOf_size]; omega) (hT1 w1 hb) (hW1 w1 hb))
    have HP := Lib.hid (fun (v' : Value) w1 (h : Sl v' (bl bs) w1) => pad_any v' bs w1 h (by omega))
    have HRP := Lib.hid (fun (l : List UInt8) (hl : Sp l) => rt_pad s l hl)
    obtain ⟨R, hR⟩ : ∃ R, rtS s = R := ⟨_, rfl⟩
    rw [hR] at HC1 HC2 HRP
    obtain ⟨a, cap, ev, _⟩ := hv
    rw [bl_len] at ev
    subst ev
    clear hT hW hT1 hW1 hd hR hle
    go_enter Tryd.func3, Tryd.ntmps3
    go_wp2_with fail
    refine HBy.out.mono ?_
    rintro e w' ⟨rfl, rfl⟩
    go_wp2_with fail
    refine HCl.out.mono ?_
    rintro e w1 ⟨v1, rfl, hv1, hb1⟩
    have HV1 := Lib.hid hv1
    clear hv1
    go_wp2_with fail
    refine (HC1.out w1 hb1).mono ?_
    rintro e w2 ⟨rfl, hb2⟩
    have hb3 := hb1.trans (hb2.mono hb1.size)
    have HV2 := Lib.hid (HV1.out.below hb2 (Nat.le_refl _))
    clear hb2 HV1 hb1
    go_wp2_with fail
    refine (HC2.out w2 hb3).mono ?_
    rintro e w3 ⟨rfl, hb4⟩
    have hb5 := hb3.trans (hb4.mono hb3.size)
    have HV3 := Lib.hid (HV2.out.below hb4 (Nat.le_refl _))
    clear hb4 HV2 hb3
    go_wp2_with fail
    refine (HP.out v1 w3 HV3.out).mono ?_
    rintro e w4 ⟨l, hl, hn, rfl, hb6⟩
    have hb7 := hb5.trans (hb6.mono hb5.size)
    have HC4 := Lib.hid (HC3.out l hl hn w4 hb7)
    rw [HRP.out l hl] at HC4
    have hPs : (strOf l).size ≤ 3145728 := by rw [strOf_size]; omega
    obtain ⟨P, hP⟩ : ∃ P, strOf l = P := ⟨_, rfl⟩
    rw [hP] at HC4 hPs ⊢
    clear hb6 HV3 hb5 hl hn hP
    go_wp2_with fail
    refine HC4.out.mono ?_
    rintro e w5 ⟨rfl, hb8⟩
    have hb9 := hb7.trans (hb8.mono hb7.size)
    clear hb8 hb7
    go_wp2_with fail
    go_ret
    exact ⟨by first | rfl | simp, hb9⟩
  · obtain ⟨b, hb⟩ : ∃ b, fitT (s.size + bs.length) = b := ⟨_, rfl⟩
    rw [hb] at HBy
    have hml := hv.len
    rw [bl_len] at hml
    unfold maxLen at hm hml
    obtain ⟨a, cap, ev, _⟩ := hv
    rw [bl_len] at ev
    subst ev
    have hf : fitT (s.size + bs.length) = false := by unfold fitT; simp; omega
    rw [hf] at hb
    subst hb
    clear hT hW hf
    go_enter Tryd.func3, Tryd.ntmps3
    go_wp2_with fail
    refine HBy.out.mono ?_
    rintro e w' ⟨rfl, rfl⟩
    go_wp2_with fail
    go_ret
    exact ⟨rfl, Below.refl _ _⟩
set_option maxHeartbeats 1000000 in
set_option maxRecDepth 100000 in
theorem lawTPad (s : ByteArray) (v v' : Value) (bs cs : List UInt8) (w : World) (hm : s.size ≤ maxLen) (hv : Sl v (bl bs) w) (hv' : Sl v' (bl cs) w) (hT : UT w) (hW : WT w) (hA : AT w) :
    Calls Tryd.prog 5 #[.string s, v, v'] w fun e w' => e = .returned (.bool true) ∧ Below w.heap.size w w' := by
  have HBy := Lib.hid (bytes_FnTrimAgreesAndIgnoresPadding s v (bl bs) v' (bl cs) w hm hv hv')
  rw [bl_len, bl_len] at HBy
  by_cases hs : s.size + bs.length + cs.length ≤ 1048576
  · have hd : fitT (s.size + bs.length + cs.length) = true := by unfold fitT; simp; omega
    rw [hd] at HBy
    have HCl := Lib.hid (clone_bl v bs w hv (by omega))
    have HV' := Lib.hid hv'
    have HCl2 := Lib.hid (fun w1 (h : Sl v' (bl cs) w1) => clone_bl v' cs w1 h (by omega))
    have l1 := rtS_le s
    have l2 := ltS_le s
    have l3 := trS_le s
    have hT1 := fun w1 (hb : Below w.heap.size w w1) => hT.below hb
    have hW1 := fun w1 (hb : Below w.heap.size w w1) => hW.below hb
    have hA1 := fun w1 (hb : Below w.heap.size w w1) => hA.below hb
    have T1 := Lib.hid (fun w1 (hb : Below w.heap.size w w1) => ztr s w1 (by omega) (hT1 w1 hb) (hW1 w1 hb) (hA1 w1 hb))
    have T2 := Lib.hid (fun w1 (hb : Below w.heap.size w w1) => zlt s w1 (by omega) (hW1 w1 hb))
    have T3 := Lib.hid (fun w1 (hb : Below w.heap.size w w1) => zrt (ltS s) w1 (by omega) (hT1 w1 hb) (hW1 w1 hb))
    rw [tr_rl] at T3
    have T4 := Lib.hid (fun w1 (hb : Below w.heap.size w w1) => zrt s w1 (by omega) (hT1 w1 hb) (hW1 w1 hb))
    have T5 := Lib.hid (fun w1 (hb : Below w.heap.size w w1) => zlt (rtS s) w1 (by omega) (hW1 w1 hb))
    rw [tr_lr] at T5
    have T6 := Lib.hid (fun w1 (hb : Below w.heap.size w w1) => ztr (trS s) w1 (by omega) (hT1 w1 hb) (hW1 w1 hb) (hA1 w1 hb))
    rw [tr_idem] at T6
    have T7 := Lib.hid (fun (p q : List UInt8) (hp : p.length ≤ 3 * bs.length) (hq : q.length ≤ 3 * cs.length) w1 (hb : Below w.heap.size w w1) => ztr (strOf p ++ s ++ strOf q) w1 (by rw [app_size, app_size, strOf_size, strOf_size]; omega) (hT1 w1 hb) (hW1 w1 hb) (hA1 w1 hb))
    have HRP := Lib.hid (fun (p q : List UInt8) (hp : Sp p) (hq : Sp q) => tr_pad s p q hp hq)
    have HP := Lib.hid (fun (u : Value) w1 (h : Sl u (bl bs) w1) => pad_any u bs w1 h (by omega))
    have HQ := Lib.hid (fun (u : Value) w1 (h : Sl u (bl cs) w1) => pad_any u cs w1 h (by omega))
    obtain ⟨R, hR⟩ : ∃ R, rtS s = R := ⟨_, rfl⟩
    obtain ⟨L, hL⟩ : ∃ L, ltS s = L := ⟨_, rfl⟩
    obtain ⟨T, hTT⟩ : ∃ T, trS s = T := ⟨_, rfl⟩
    rw [hR] at T4 T5
    rw [hL] at T2 T3
    rw [hTT] at T1 T3 T5 T6 HRP
    obtain ⟨a, cap, ev, _⟩ := hv
    rw [bl_len] at ev
    subst ev
    obtain ⟨a', cap', ev', _⟩ := hv'
    rw [bl_len] at ev'
    subst ev'
    clear hT hW hA hT1 hW1 hA1 hd hR hL hTT l1 l2 l3
    go_enter Tryd.func5, Tryd.ntmps5
    go_wp2_with fail
    refine HBy.out.mono ?_
    rintro e w' ⟨rfl, rfl⟩
    go_wp2_with fail
    refine HCl.out.mono ?_
    rintro e w1 ⟨v1, rfl, hv1, hb1⟩
    have HV1 := Lib.hid hv1
    have HC2 := Lib.hid (HCl2.out w1 (HV'.out.below hb1 (Nat.le_refl _)))
    clear hv1
    go_wp2_with fail
    refine HC2.out.mono ?_
    rintro e w2 ⟨v2, rfl, hv2, hb2⟩
    have HV2 := Lib.hid hv2
    have HV3 := Lib.hid (HV1.out.below hb2 (Nat.le_refl _))
    have hb := hb1.trans (hb2.mono hb1.size)
    clear hv2 hb1 hb2 HV1 HC2
    go_wp2_with fail
    refine (T1.out w2 hb).mono ?_
    rintro e w3 ⟨rfl, hb3⟩
    have HVa := Lib.hid (HV3.out.below hb3 (Nat.le_refl _))
    have HVb := Lib.hid (HV2.out.below hb3 (Nat.le_refl _))
    have hc := hb.trans (hb3.mono hb.size)
    clear hb hb3 HV3 HV2
    go_wp2_with fail
    refine (T2.out w3 hc).mono ?_
    rintro e w4 ⟨rfl, hb3⟩
    have HV3 := Lib.hid (HVa.out.below hb3 (Nat.le_refl _))
    have HV2 := Lib.hid (HVb.out.below hb3 (Nat.le_refl _))
    have hb := hc.trans (hb3.mono hc.size)
    clear hc hb3 HVa HVb
    go_wp2_with fail
    refine (T3.out w4 hb).mono ?_
    rintro e w5 ⟨rfl, hb3⟩
    have HVa := Lib.hid (HV3.out.below hb3 (Nat.le_refl _))
    have HVb := Lib.hid (HV2.out.below hb3 (Nat.le_refl _))
    have hc := hb.trans (hb3.mono hb.size)
    clear hb hb3 HV3 HV2
    go_wp2_with fail
    refine (T4.out w5 hc).mono ?_
    rintro e w6 ⟨rfl, hb3⟩
    have HV3 := Lib.hid (HVa.out.below hb3 (Nat.le_refl _))
    have HV2 := Lib.hid (HVb.out.below hb3 (Nat.le_refl _))
    have hb := hc.trans (hb3.mono hc.size)
    clear hc hb3 HVa HVb
    go_wp2_with fail
    refine (T5.out w6 hb).mono ?_
    rintro e w7 ⟨rfl, hb3⟩
    have HVa := Lib.hid (HV3.out.below hb3 (Nat.le_refl _))
    have HVb := Lib.hid (HV2.out.below hb3 (Nat.le_refl _))
    have hc := hb.trans (hb3.mono hb.size)
    clear hb hb3 HV3 HV2
    go_wp2_with fail
    refine (T6.out w7 hc).mono ?_
    rintro e w8 ⟨rfl, hb3⟩
    have HV3 := Lib.hid (HVa.out.below hb3 (Nat.le_refl _))
    have HV2 := Lib.hid (HVb.out.below hb3 (Nat.le_refl _))
    have hb := hc.trans (hb3.mono hc.size)
    clear hc hb3 HVa HVb
    go_wp2_with fail
    refine (HP.out v1 w8 HV3.out).mono ?_
    rintro e w9 ⟨p, hp, hpn, rfl, hb3⟩
    have HVb := Lib.hid (HV2.out.below hb3 (Nat.le_refl _))
    have hc := hb.trans (hb3.mono hb.size)
    have HPp := Lib.hid hp
    have hPs : (strOf p).size ≤ 3145728 := by rw [strOf_size]; omega
    obtain ⟨P, hP⟩ : ∃ P, strOf p = P := ⟨_, rfl⟩
    rw [hP] at hPs ⊢
    have HPe := Lib.hid hP
    clear hb hb3 HV3 HV2 hp hP
    go_wp2_with fail
    refine (HQ.out v2 w9 HVb.out).mono ?_
    rintro e w10 ⟨q, hq, hqn, rfl, hb3⟩
    have hb := hc.trans (hb3.mono hc.size)
    have T8 := Lib.hid (T7.out p q hpn hqn w10 hb)
    rw [HRP.out p q HPp.out hq, HPe.out] at T8
    have hQs : (strOf q).size ≤ 3145728 := by rw [strOf_size]; omega
    obtain ⟨Q, hQ⟩ : ∃ Q, strOf q = Q := ⟨_, rfl⟩
    rw [hQ] at hQs T8 ⊢
    clear hc hb3 hq hpn hqn HVb hQ
    go_wp2_with fail
    refine T8.out.mono ?_
    rintro e w11 ⟨rfl, hb3⟩
    have hc := hb.trans (hb3.mono hb.size)
    clear hb hb3
    go_wp2_with fail
    go_ret
    exact ⟨by first | rfl | simp, hc⟩
  · obtain ⟨b, hb⟩ : ∃ b, fitT (s.size + bs.length + cs.length) = b := ⟨_, rfl⟩
    rw [hb] at HBy
    have hml := hv.len
    rw [bl_len] at hml
    have hml' := hv'.len
    rw [bl_len] at hml'
    unfold maxLen at hm hml hml'
    obtain ⟨a, cap, ev, _⟩ := hv
    rw [bl_len] at ev
    subst ev
    obtain ⟨a', cap', ev', _⟩ := hv'
    rw [bl_len] at ev'
    subst ev'
    have hf : fitT (s.size + bs.length + cs.length) = false := by unfold fitT; simp; omega
    rw [hf] at hb
    subst hb
    clear hT hW hA hf
    go_enter Tryd.func5, Tryd.ntmps5
    go_wp2_with fail
    refine HBy.out.mono ?_
    rintro e w' ⟨rfl, rfl⟩
    go_wp2_with fail
    go_ret
    exact ⟨rfl, Below.refl _ _⟩
theorem u8_list (zs : List Int) (h : ∀ z ∈ zs, (Lit.int .u8 z).wf = true) : ∃ bs : List UInt8, zs.map (Value.int .u8) = bl bs := by
  induction zs with
  | nil => exact ⟨[], rfl⟩
  | cons z zs ih =>
    obtain ⟨bs, hb⟩ := ih (fun x hx => h x (by simp [hx]))
    have hz := h z (by simp)
    have hz2 : 0 ≤ z ∧ z < 256 := by
      have := bounds_u8 hz
      omega
    refine ⟨UInt8.ofNat z.toNat :: bs, ?_⟩
    simp only [List.map_cons, bl] at hb ⊢
    rw [hb]
    have : ((UInt8.ofNat z.toNat).toNat : Int) = z := by simp; omega
    rw [this]
end Go.Proofs.YtnnjoehhjmomaaaDoor
