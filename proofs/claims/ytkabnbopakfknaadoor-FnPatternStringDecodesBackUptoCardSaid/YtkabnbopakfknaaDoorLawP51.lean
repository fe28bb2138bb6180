/- The law FnPatternStringDecodesBack. -/
import Derived.Test.YtkabnbopakfknaaDoorStr51
import Derived.Deep.RegionHeld3
namespace Go.Proofs.YtkabnbopakfknaaDoor
open Go.RowKit
set_option linter.unusedVariables false
set_option linter.unusedSimpArgs false

set_option maxHeartbeats 4000000 in
set_option maxRecDepth 100000 in
theorem lawP (nm : ByteArray) (a a' : Option Addr) (l c l' c' b : Nat) (w : World) (hb : b ≤ 1048576) (hG : PatG w [.string nm, .slice a l c, .slice a' l' c'] b) (hT : Lib.Utf8Tabs 0 1 w) :
    Calls Tryd.prog 3 #[.agg #[.string nm, .slice a l c, .slice a' l' c']] w fun e w' => e = .returned (.bool true) ∧ Below w.heap.size w w' := by
  obtain ⟨hS, v, hv, hB⟩ := hG
  have h2 := tabs_size hT
  obtain ⟨W0, hW0⟩ : ∃ W, W = w.alloc (.cells #[.string nm, .slice a l c, .slice a' l' c'] 25) := ⟨_, rfl⟩
  have hb0 : Below w.heap.size w W0 := by rw [hW0]; exact (Below.refl _ _).alloc (Nat.le_refl _) _
  have hN0 : Nd w.heap.size 25 #[.string nm, .slice a l c, .slice a' l' c'] W0 := by rw [hW0]; exact Nd.new _ _ _
  obtain ⟨B, hBe⟩ : ∃ B, w.heap.size = B := ⟨_, rfl⟩
  have HS := Lib.hid (hS W0 hb0 1048576 (by omega) (by omega))
  have c0 := hN0.cell 0 rfl
  have c1 := hN0.cell 1 rfl
  have c2 := hN0.cell 2 rfl
  simp only [List.getElem_toArray, List.getElem_cons_succ, List.getElem_cons_zero] at c0 c1 c2
  rw [hBe] at hN0 c0 c1 c2
  have HT := Lib.hid hT
  have HV := Lib.hid hv
  have HB := Lib.hid hB
  have HN0 := Lib.hid hN0
  have HBE := Lib.hid hBe
  have HW0 := Lib.hid hW0
  clear hS hv hB hT hN0 hW0
  go_enter Tryd.func3, Tryd.ntmps3
  go_wp2_with fail
  try rw [← HW0.out]
  try rw [HBE.out]
  refine HS.out.mono ?_
  rintro e w1 ⟨r, rfl, r1, r2, hb1⟩
  have hN1 := HN0.out.below hb1 HN0.out.lt
  have hbw1 := hb0.trans (hb1.mono hb0.size)
  have HN1 := Lib.hid hN1
  have HC1 := Lib.hid (HV.out w1 hbw1)
  clear c0 c1 c2 HS HN0 hb0 HW0 hb1 hN1
  have c0 := HN1.out.cell 0 rfl
  have c1 := HN1.out.cell 1 rfl
  have c2 := HN1.out.cell 2 rfl
  simp only [List.getElem_toArray, List.getElem_cons_succ, List.getElem_cons_zero] at c0 c1 c2
  by_cases hr : r < 0
  · go_wp2_with fail
    go_ret
    exact ⟨rfl, hbw1⟩
  go_wp2_with fail
  refine HC1.out.mono ?_
  rintro e w2 ⟨rfl, hb2⟩
  have hN2 := HN1.out.below hb2 HN1.out.lt
  have hbw2 := hbw1.trans (hb2.mono hbw1.size)
  have HN2 := Lib.hid hN2
  clear c0 c1 c2 HC1 HN1 hbw1 hb2 hN2
  cases v with
  | false =>
    go_wp2_with fail
    go_ret
    exact ⟨rfl, hbw2⟩
  | true =>
    obtain ⟨T, hT1, hT0, hbd, hpar⟩ := HB.out rfl
    have HC2 := Lib.hid (hbd w2 hbw2)
    have HPAR := Lib.hid hpar
    clear hbd hpar HB
    have c0 := HN2.out.cell 0 rfl
    have c1 := HN2.out.cell 1 rfl
    have c2 := HN2.out.cell 2 rfl
    simp only [List.getElem_toArray, List.getElem_cons_succ, List.getElem_cons_zero] at c0 c1 c2
    go_wp2_with fail
    refine HC2.out.mono ?_
    rintro e w3 ⟨q, rfl, hq1, hq2, hM, hb3⟩
    have hN3 := HN2.out.below hb3 HN2.out.lt
    have hbw3 := hbw2.trans (hb3.mono hbw2.size)
    have HN3 := Lib.hid hN3
    have HC3 := Lib.hid (str_Pat (MadeP.prt hM) (tabs_below HT.out hbw3 (by omega) (by omega)) (by omega))
    clear c0 c1 c2 HC2 HN2 hbw2 hb3 hN3 hM hq1 hq2
    go_wp2_with fail
    refine HC3.out.mono ?_
    rintro e w4 ⟨rfl, hb4⟩
    have hN4 := HN3.out.below hb4 HN3.out.lt
    have hbw4 := hbw3.trans (hb4.mono hbw3.size)
    have HN4 := Lib.hid hN4
    clear HC3 HN3 hbw3 hb4 hN4
    obtain ⟨s, hs⟩ : ∃ s : ByteArray, s = ⟨T.toArray⟩ := ⟨_, rfl⟩
    rw [← hs]
    have hsl : s.data.toList = [] ++ T ++ [] := by rw [hs]; simp
    have hsz : s.size = T.length := by rw [hs]; show T.toArray.size = _; simp
    have HC4 : Calls Tryd.prog 10 #[.string s, .int .i64 0] w4 _ := HPAR.out s [] [] hsl (by omega) (fun ch h => by cases h) w4 hbw4
    rw [List.length_nil, Nat.zero_add, ← hsz] at HC4
    have HC4 := Lib.hid HC4
    clear hs hsl HPAR
    go_wp2_with fail
    refine HC4.out.mono ?_
    rintro e w5 ⟨x0, x1, x2, ⟨u0, u1, u2⟩, rfl, hb5, hE⟩
    have st0 := st_new Tryd.prog w5 25 #[.string ⟨#[]⟩, .slice none 0 0, .slice none 0 0] 0 x0 (by decide) u0
    have st1 := st_new Tryd.prog w5 25 #[x0, .slice none 0 0, .slice none 0 0] 1 x1 (by show 1 < 3; decide) u1
    have st2 := st_new Tryd.prog w5 25 #[x0, x1, .slice none 0 0] 2 x2 (by show 2 < 3; decide) u2
    replace st0 : Sem.run Tryd.prog (store ⟨w5.heap.size, 0, none⟩ x0) (w5.alloc (.cells #[.string ⟨#[]⟩, .slice none 0 0, .slice none 0 0] 25)) = .ok () (w5.alloc (.cells #[x0, .slice none 0 0, .slice none 0 0] 25)) := st0
    replace st1 : Sem.run Tryd.prog (store ⟨w5.heap.size, 1, none⟩ x1) (w5.alloc (.cells #[x0, .slice none 0 0, .slice none 0 0] 25)) = .ok () (w5.alloc (.cells #[x0, x1, .slice none 0 0] 25)) := st1
    replace st2 : Sem.run Tryd.prog (store ⟨w5.heap.size, 2, none⟩ x2) (w5.alloc (.cells #[x0, x1, .slice none 0 0] 25)) = .ok () (w5.alloc (.cells #[x0, x1, x2] 25)) := st2
    have hN5 := HN4.out.below hb5 HN4.out.lt
    have hbw5 := hbw4.trans (hb5.mono hbw4.size)
    have hb6 : Below w5.heap.size w5 (w5.alloc (.cells #[x0, x1, x2] 25)) := (Below.refl _ _).alloc (Nat.le_refl _) _
    have hbw6 := hbw5.trans (hb6.mono hbw5.size)
    have hN6 := hN5.alloc (.cells #[x0, x1, x2] 25)
    have c0 := hN6.cell 0 rfl
    have c1 := hN6.cell 1 rfl
    have c2 := hN6.cell 2 rfl
    have k0 := hN5.cell 0 rfl
    have k1 := hN5.cell 1 rfl
    have k2 := hN5.cell 2 rfl
    simp only [List.getElem_toArray, List.getElem_cons_succ, List.getElem_cons_zero] at c0 c1 c2 k0 k1 k2
    have HC5 := Lib.hid (hE (w5.alloc (.cells #[x0, x1, x2] 25)) (Same.below hb6 (Nat.le_refl _)) (by rw [HBE.out]; rw [HBE.out] at hbw6; exact hbw6) (w5.alloc (.cells #[x0, x1, x2] 25)) (Below.refl _ _))
    have HBW6 := Lib.hid hbw6
    clear HC4 hb5 hE hN5 hbw5 hb6 hbw6 hN6 hbw4 HN4
    go_wp2_with fail
    refine HC5.out.mono ?_
    rintro e w7 ⟨rfl, hb7⟩
    go_wp2_with fail
    go_ret
    exact ⟨rfl, HBW6.out.trans (hb7.mono HBW6.out.size)⟩
end Go.Proofs.YtkabnbopakfknaaDoor
