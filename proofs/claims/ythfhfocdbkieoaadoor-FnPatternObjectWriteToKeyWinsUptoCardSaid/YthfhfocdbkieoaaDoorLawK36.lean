/- The law FnPatternObjectWriteToKeyWins. -/
import Derived.Test.YthfhfocdbkieoaaDoorStr36
namespace Go.Proofs.YthfhfocdbkieoaaDoor
open Go.RowKit
set_option linter.unusedVariables false

theorem valT_pv {vo vo2 : Option Nat} {T : List UInt8} (h : vo.isSome = vo2.isSome) : valT vo T = valT vo2 T := by unfold valT; rw [h]
theorem cat_none (a b T : List UInt8) (pre k : ByteArray) (ha : a = pre.data.toList) (hb : b = k.data.toList) : (⟨(a ++ (b ++ valT none T)).toArray⟩ : ByteArray) = pre ++ k := by
  subst ha hb
  apply ByteArray.ext
  apply Array.ext'
  simp [valT, ByteArray.data_append]
theorem cat_some (a b T : List UInt8) (x : Nat) (pre k : ByteArray) (ha : a = pre.data.toList) (hb : b = k.data.toList) : (⟨(a ++ (b ++ valT (some x) T)).toArray⟩ : ByteArray) = pre ++ k ++ ⟨#[58, 32]⟩ ++ ⟨T.toArray⟩ := by
  subst ha hb
  apply ByteArray.ext
  apply Array.ext'
  simp [valT, ByteArray.data_append]
theorem ne_empty' {s : ByteArray} (h : s.size ≠ 0) : s.toList.isEmpty = false := ne_empty h
set_option maxHeartbeats 2000000 in
set_option maxRecDepth 100000 in
theorem lawK (pre k q : ByteArray) (hq : Bool) (p : Option Addr) (vb b : Nat) (T : List UInt8) (w : World) (hsz : k.size + q.size + vb + 4 ≤ b) (hb : pre.size + b ≤ 1048576) (hTl : p.isSome = true → T.length + 2 ≤ 2 * vb)
    (hS : SzC 11 [.string k, .bool hq, .string q, .pointer p] w) (hM : ∀ W, Below w.heap.size w W → Calls Tryd.prog 12 #[.agg #[.string k, .bool hq, .string q, .pointer p]] W (MkO k hq q p.isSome T W))
    (hT : Lib.Utf8Tabs 0 1 w) :
    Calls Tryd.prog 4 #[.string pre, .agg #[.string k, .bool hq, .string q, .pointer p]] w fun e w' => e = .returned (.bool true) ∧ Below w.heap.size w w' := by
  have h2 := tabs_size hT
  have HT := Lib.hid hT
  have HM := Lib.hid hM
  clear hT hM
  obtain ⟨W0, hW0⟩ : ∃ W, W = w.alloc (.cells #[.string k, .bool hq, .string q, .pointer p] 33) := ⟨_, rfl⟩
  have hN0 : Nd w.heap.size 33 #[.string k, .bool hq, .string q, .pointer p] W0 := by rw [hW0]; exact Nd.new _ _ _
  have hb0 : Below w.heap.size w W0 := by rw [hW0]; exact (Below.refl _ _).alloc (Nat.le_refl _) _
  have HS := Lib.hid (hS W0 hb0 0 (1048576 - pre.size) (by omega) (by omega) (by omega) (by omega))
  have c0 := hN0.cell 0 rfl
  have c1 := hN0.cell 1 rfl
  have c2 := hN0.cell 2 rfl
  have c3 := hN0.cell 3 rfl
  simp only [List.getElem_toArray, List.getElem_cons_succ, List.getElem_cons_zero] at c0 c1 c2 c3
  obtain ⟨B, hB⟩ : ∃ B, w.heap.size = B := ⟨_, rfl⟩
  rw [hB] at hN0 c0 c1 c2 c3
  have HN0 := Lib.hid hN0
  have HB := Lib.hid hB
  have HW0 := Lib.hid hW0
  clear hS hN0 hW0
  go_enter Tryd.func4, Tryd.ntmps4
  go_wp2_with fail
  try rw [← HW0.out]
  try rw [HB.out]
  refine HS.out.mono ?_
  rintro e w1 ⟨r, rfl, r1, r2, hb1⟩
  have hN1 := HN0.out.below hb1 HN0.out.lt
  have hbw1 := hb0.trans (hb1.mono hb0.size)
  clear c0 c1 c2 c3 HS HN0 hb0 HW0
  have c0 := hN1.cell 0 rfl
  have c1 := hN1.cell 1 rfl
  have c2 := hN1.cell 2 rfl
  have c3 := hN1.cell 3 rfl
  simp only [List.getElem_toArray, List.getElem_cons_succ, List.getElem_cons_zero] at c0 c1 c2 c3
  have HN1 := Lib.hid hN1
  clear hN1 hb1
  by_cases hr : r < 0
  · go_wp2_with fail
    go_ret
    exact ⟨rfl, hbw1⟩
  · by_cases hk : k.size = 0
    · obtain rfl := empty_str hk
      go_wp2_with fail
      go_ret
      exact ⟨rfl, hbw1⟩
    · have hne : k.toList.isEmpty = false := ne_empty hk
      have HC1 := Lib.hid (HM.out w1 hbw1)
      go_wp2_with fail
      refine HC1.out.mono ?_
      rintro e w2 ⟨p1, qo1, vo1, rfl, m1, m2, hP1, hq1, hv1, hQ1, hV1, hb2⟩
      have hN2 := HN1.out.below hb2 HN1.out.lt
      have hbw2 := hbw1.trans (hb2.mono hbw1.size)
      have c2 := hN2.cell 2 rfl
      simp only [List.getElem_toArray, List.getElem_cons_succ, List.getElem_cons_zero] at c2
      have HP1 := Lib.hid hP1
      have HV1 := Lib.hid hV1
      have HN2 := Lib.hid hN2
      clear hP1 hQ1 hV1 hN2 c0 c1 c3 HC1
      go_wp2_with fail
      refine (num_any q w2).mono ?_
      rintro e w3 ⟨q1, rfl, hq2, hb3⟩
      have hP1 := HP1.out.below hb3 HP1.out.lt
      have hN3 := HN2.out.below hb3 HN2.out.lt
      have hbw3 := hbw2.trans (hb3.mono hbw2.size)
      have k2 := hP1.cell 2 rfl
      have f2 := hP1.free 2
      have hs3 : Same (p1 + 1) w2.heap.size w2 w3 := Same.below hb3 (Nat.le_refl _)
      have HP1 := Lib.hid hP1
      have HN3 := Lib.hid hN3
      have hp1w : w1.heap.size ≤ p1 := m1
      have hz12 := hb2.size
      have hz23 := hb3.size
      have hz01 := hbw1.size
      clear hP1 hN3 hq2 c2 hbw2 HN2
      have hlt3 := HP1.out.lt
      have hBlt := HN1.out.lt
      have hP := HP1.out.set 2 (.pointer (some ⟨q1, 0, none⟩))
      have hN := HN3.out.setNe (b := p1) (i := 2) (by omega) (.pointer (some ⟨q1, 0, none⟩))
      have hbS : Below w.heap.size w (w3.setCell ⟨p1, 2, none⟩ (.pointer (some ⟨q1, 0, none⟩))) := hbw3.setCell (p := ⟨p1, 2, none⟩) (by show w.heap.size ≤ p1; omega) _
      have hs4 : Same (p1 + 1) w2.heap.size w2 (w3.setCell ⟨p1, 2, none⟩ (.pointer (some ⟨q1, 0, none⟩))) := hs3.setCell (.inl (by omega)) _
      have hz4 : (w3.setCell ⟨p1, 2, none⟩ (.pointer (some ⟨q1, 0, none⟩))).heap.size = w3.heap.size := size_setCell _ _ _
      have c0 := hN.cell 0 rfl
      have c1 := hN.cell 1 rfl
      have c2 := hN.cell 2 rfl
      have c3 := hN.cell 3 rfl
      simp only [List.getElem_toArray, List.getElem_cons_succ, List.getElem_cons_zero] at c0 c1 c2 c3
      have HC4 := Lib.hid (HM.out _ hbS)
      have HN4 := Lib.hid hN
      have HP4 := Lib.hid hP
      have HS4 := Lib.hid hs4
      clear hN hP hs4 hs3 HN3 HP1 hbw3
      obtain ⟨w4, hw4⟩ : ∃ W, W = w3.setCell ⟨p1, 2, none⟩ (.pointer (some ⟨q1, 0, none⟩)) := ⟨_, rfl⟩
      rw [← hw4] at HC4 HN4 HP4 HS4 hbS hz4
      have HW4 := Lib.hid hw4
      clear hw4
      go_wp2_with fail
      rw [← HW4.out]
      clear c0 c1 c2 c3 HW4
      refine HC4.out.mono ?_
      rintro e w5 ⟨p2, qo2, vo2, rfl, m3, m4, hP2, hq5, hv2, hQ2, hV2, hb5⟩
      have k2 := hP2.cell 2 rfl
      have f2 := hP2.free 2
      have hz5 := hb5.size
      have hP1 := (HP4.out.below hb5 HP4.out.lt).setNe (b := p2) (i := 2) (by omega) (.pointer none)
      have hN := (HN4.out.below hb5 HN4.out.lt).setNe (b := p2) (i := 2) (by omega) (.pointer none)
      have hP2s := hP2.set 2 (.pointer none)
      have hbS6 : Below w.heap.size w (w5.setCell ⟨p2, 2, none⟩ (.pointer none)) := (hbS.trans (hb5.mono (by omega))).setCell (p := ⟨p2, 2, none⟩) (by show w.heap.size ≤ p2; omega) _
      have hs6 : Same (p1 + 1) w2.heap.size w2 (w5.setCell ⟨p2, 2, none⟩ (.pointer none)) := (HS4.out.trans (Same.below hb5 (by omega))).setCell (.inr (by omega)) _
      have hs7 : Same (p2 + 1) w5.heap.size w5 (w5.setCell ⟨p2, 2, none⟩ (.pointer none)) := (Same.refl _ _ _).setCell (.inl (by omega)) _
      obtain ⟨w6, hw6⟩ : ∃ W, W = w5.setCell ⟨p2, 2, none⟩ (.pointer none) := ⟨_, rfl⟩
      have X1 := po_prt (w := w2) (vo := vo1) (T := T) (W := w6) (by rw [hw6]; exact hP1) hk (fun x hx => (HV1.out x hx).2.2) (by rw [hw6]; exact hs6)
      have X2 := po_prt (w := w5) (vo := vo2) (T := T) (W := w6) (by rw [hw6]; exact hP2s) hk (fun x hx => (hV2 x hx).2.2) (by rw [hw6]; exact hs7)
      rw [← hw6] at hP1 hN hbS6 hs6
      have hTab6 := tabs_below HT.out hbS6 (by omega) (by omega)
      have hvl : (valT vo1 T).length ≤ 2 * vb + 2 := by
        unfold valT
        cases vo1 with
        | none => simp
        | some x =>
          have := hTl (by rw [← hv1]; rfl)
          rw [if_pos (by rfl)]; simp only [List.length_append, List.length_cons, List.length_nil]; omega
      have e2 : valT vo2 T = valT vo1 T := valT_pv (by rw [hv2, hv1])
      rw [e2] at X2
      have e3 : k.data.toList.length = k.size := by rw [Array.length_toList]; rfl
      have hl6 : pre.size + (k.data.toList ++ valT vo1 T).length ≤ 10000000000 := by rw [List.length_append]; omega
      have HC6 := Lib.hid (after_Obj pre X1 hTab6 hl6)
      have HX2 := Lib.hid X2
      have HTab6 := Lib.hid hTab6
      have HL6 := Lib.hid hl6
      have HP1' := Lib.hid hP1
      have HN6 := Lib.hid hN
      have HS6 := Lib.hid hs6
      have HW6 := Lib.hid hw6
      clear X1 X2 hTab6 hl6 hP1 hN hs6 hs7 hw6 hP2 hP2s hQ2 hV2 HC4 e2 HS4 HN4 HP4
      go_wp2_with fail
      rw [← HW6.out]
      refine HC6.out.mono ?_
      rintro e w7 ⟨rfl, hb7⟩
      have HC7 := Lib.hid (after_Obj pre (HX2.out.pres (Pres.below hb7 (Nat.le_refl _))) (tabs_below HTab6.out hb7 (by have := tabs_size HTab6.out; omega) (by have := tabs_size HTab6.out; omega)) HL6.out)
      clear HC6 k2 f2
      go_wp2_with fail
      refine HC7.out.mono ?_
      rintro e w8 ⟨rfl, hb8⟩
      have hb68 := hb7.trans (hb8.mono hb7.size)
      have hN8 := HN6.out.below hb68 HN6.out.lt
      have hP8 := HP1'.out.below hb68 HP1'.out.lt
      have c0 := hN8.cell 0 rfl
      simp only [List.getElem_toArray, List.getElem_cons_zero] at c0
      have hbw8 := hbS6.trans (hb68.mono (by have := hbS6.size; omega))
      clear HC7 HX2
      cases vo1 with
      | none =>
        have k3 : w8.cell? ⟨p1, 3, none⟩ = some (Value.pointer none) := hP8.cell 3 rfl
        have HW := Lib.hid hbw8
        clear hP8 hN8 hbw8
        rw [cat_none _ _ T pre k rfl rfl]
        go_wp2_with fail
        go_ret
        exact ⟨rfl, HW.out⟩
      | some x =>
        have k3 : w8.cell? ⟨p1, 3, none⟩ = some (Value.pointer (some ⟨x, 0, none⟩)) := hP8.cell 3 rfl
        have hT1 := hTl (by rw [← hv1]; rfl)
        have HC8 := Lib.hid (str_Pat (p := x) (T := T) (w := w8) ((((HV1.out x rfl).2.2.same HS6.out).prt).pres (Pres.below hb68 (Nat.le_refl _))) (tabs_below HTab6.out hb68 (by have := tabs_size HTab6.out; omega) (by have := tabs_size HTab6.out; omega)) (by omega))
        have HW := Lib.hid hbw8
        clear hP8 hN8 hbw8
        rw [cat_some _ _ T x pre k rfl rfl]
        go_wp2_with fail
        refine HC8.out.mono ?_
        rintro e w9 ⟨rfl, hb9⟩
        go_wp2_with fail
        go_ret
        exact ⟨rfl, HW.out.trans (hb9.mono (by have := HW.out.size; omega))⟩
end Go.Proofs.YthfhfocdbkieoaaDoor
