/- The law FnPatternObjectStringInBraces. -/
import Derived.Test.YthfhfocdbkieoaaDoorStr36
import Derived.Test.YthfhfocdbkieoaaDoorOwn
import Derived.Deep.RegionHeld3
import Derived.Deep.RegionWith
namespace Go.Proofs.YthfhfocdbkieoaaDoor
open Go.RowKit
set_option linter.unusedVariables false

theorem own_new {w : World} {base g : Nat} {c : UInt8} (hN : Nd g 5 #[.int .u8 (c.toNat : Int)] w) (hg : base ≤ g) : OB base (.slice (some ⟨g, 0, none⟩) 1 1) [c] w :=
  ⟨rfl, .inr ⟨g, 1, #[.int .u8 (c.toNat : Int)], rfl, hg, hN, Nat.le_refl _, by decide, rfl, rfl⟩⟩
theorem seqT_const (X : List UInt8) : ∀ n, (seqT [44, 32] (fun _ => X) n).length ≤ n * (X.length + 2)
  | 0 => by simp [seqT]
  | n + 1 => by
    have h1 := seqT_const X n
    have h3 : (if n = 0 then ([] : List UInt8) else [44, 32]).length ≤ 2 := by split <;> simp
    show (seqT [44, 32] (fun _ => X) n ++ (if n = 0 then [] else [44, 32]) ++ X).length ≤ (n + 1) * (X.length + 2)
    rw [List.length_append, List.length_append, Nat.succ_mul]
    omega
theorem seqT_mono (X : List UInt8) (n : Nat) (k : Nat) (h : k ≤ n) : (seqT [44, 32] (fun _ => X) k).length ≤ (seqT [44, 32] (fun _ => X) n).length := seqT_le _ _ n k h
/-- While the wanted text is put together. -/
def WRel (X : List UInt8) (n E : Nat) (w : World) (vw vi : Value) (wr : World) : Prop :=
  ∃ (j : Nat) (v : Value), j ≤ n ∧ v = vw ∧ vi = .int .i64 j ∧ Hid (OB E v ([123] ++ seqT [44, 32] (fun _ => X) j) wr) ∧ Below E w wr
/-- While the copies are made. -/
def BRel (X : List UInt8) (n G R B : Nat) (pc rc : Array Value) (w : World) (vi : Value) (wr : World) : Prop :=
  ∃ (i : Nat) (ps : List Nat), i ≤ n ∧ vi = .int .i64 i ∧ Hid (ps.length = i) ∧ Hid (Nd G 35 (ps.map ptr ++ List.replicate (n - i) (Value.pointer none)).toArray wr) ∧ Hid (Nd B 33 pc wr) ∧ Hid (Nd R 48 rc wr) ∧
    Hid (∀ j (h : j < ps.length), MadeP (R + 1) wr.heap.size 24 ps[j] X wr) ∧ Below B w wr
set_option maxHeartbeats 2000000 in
set_option maxRecDepth 100000 in
theorem lawS (k q : ByteArray) (hq : Bool) (p : Option Addr) (vb b : Nat) (T : List UInt8) (n : Int) (w : World) (hsz : k.size + q.size + vb + 4 ≤ b) (hb : b ≤ 1048576) (hTl : p.isSome = true → T.length + 2 ≤ 2 * vb)
    (hS : SzC 11 [.string k, .bool hq, .string q, .pointer p] w) (hM : ∀ W, Below w.heap.size w W → Calls Tryd.prog 12 #[.agg #[.string k, .bool hq, .string q, .pointer p]] W (MkO k hq q p.isSome T W))
    (hT : Lib.Utf8Tabs 0 1 w) :
    Calls Tryd.prog 5 #[.agg #[.string k, .bool hq, .string q, .pointer p], .int .i64 n] w fun e w' => e = .returned (.bool true) ∧ Below w.heap.size w w' := by
  have h2 := tabs_size hT
  have HT := Lib.hid hT
  have HM := Lib.hid (fun W hW => (hM W hW).mono (mkO_E k hq q p.isSome T W))
  obtain ⟨X, hX⟩ : ∃ X, objT k hq q p.isSome T = X := ⟨_, rfl⟩
  have hXl : X.length + 2 ≤ 2 * b := by rw [← hX]; exact objT_len hsz hTl
  rw [hX] at HM
  clear hT hM hX
  have hb0 : Below w.heap.size w (w.alloc (.cells #[.string k, .bool hq, .string q, .pointer p] 33)) := (Below.refl _ _).alloc (Nat.le_refl _) _
  by_cases h1 : n < 1
  · go_enter Tryd.func5, Tryd.ntmps5
    go_wp2_with fail
    go_ret
    exact ⟨rfl, hb0⟩
  by_cases h4 : 4096 < n
  · go_enter Tryd.func5, Tryd.ntmps5
    go_wp2_with fail
    go_ret
    exact ⟨rfl, hb0⟩
  obtain ⟨N, rfl⟩ : ∃ N : Nat, n = N := ⟨n.toNat, by omega⟩
  have hN1 : 1 ≤ N := by omega
  have hN2 : N ≤ 4096 := by omega
  have d1 : decide ((N : Int) < 1) = false := by simp; omega
  have d4 : decide ((4096 : Int) < N) = false := by simp; omega
  clear h1 h4
  obtain ⟨W0, hW0⟩ : ∃ W, W = w.alloc (.cells #[.string k, .bool hq, .string q, .pointer p] 33) := ⟨_, rfl⟩
  have hN0 : Nd w.heap.size 33 #[.string k, .bool hq, .string q, .pointer p] W0 := by rw [hW0]; exact Nd.new _ _ _
  rw [← hW0] at hb0
  have HS := Lib.hid (hS W0 hb0 0 1048576 (by omega) (by omega) (by omega) (by omega))
  have c0 := hN0.cell 0 rfl
  have c1 := hN0.cell 1 rfl
  have c2 := hN0.cell 2 rfl
  have c3 := hN0.cell 3 rfl
  simp only [List.getElem_toArray, List.getElem_cons_succ, List.getElem_cons_zero] at c0 c1 c2 c3
  obtain ⟨B, hB⟩ : ∃ B, w.heap.size = B := ⟨_, rfl⟩
  rw [hB] at hN0 c0 c1 c2 c3
  have HN0 := Lib.hid hN0
  have HB := Lib.hid hB
  have HW0 := Lib.hid hW0
  clear hS hN0 hW0
  go_enter Tryd.func5, Tryd.ntmps5
  go_wp2_with fail
  try rw [← HW0.out]
  try rw [HB.out]
  refine HS.out.mono ?_
  rintro e w1 ⟨r, rfl, r1, r2, hb1⟩
  have hN1' := HN0.out.below hb1 HN0.out.lt
  have hbw1 := hb0.trans (hb1.mono hb0.size)
  clear c0 c1 c2 c3 HS HN0 hb0 HW0 hb1
  have HN1 := Lib.hid hN1'
  clear hN1'
  by_cases hr : r < 0
  · go_wp2_with fail
    go_ret
    exact ⟨rfl, hbw1⟩
  obtain ⟨s, hs⟩ : ∃ s : Int, 1048576 - r = s := ⟨_, rfl⟩
  have hs0 : 0 ≤ s := by omega
  have hs1 : s ≤ 1048576 := by omega
  have hm0 : 0 ≤ s * (N : Int) := Int.mul_nonneg hs0 (by omega)
  have hm1 : s * (N : Int) ≤ 4294967296 := by
    have := Int.mul_le_mul hs1 (show (N : Int) ≤ 4096 by omega) (by omega) (by omega)
    omega
  obtain ⟨z, hz⟩ : ∃ z : Int, s * (N : Int) = z := ⟨_, rfl⟩
  rw [hz] at hm0 hm1
  by_cases h5 : 1048576 < z
  · go_wp2_with fail
    go_ret
    exact ⟨rfl, hbw1⟩
  have hmk := fun W => run_mkE info_o Tryd.underlying45 rfl N (by omega) W
  go_wp2_with fail
  obtain ⟨G, hGe⟩ : ∃ G, w1.heap.size = G := ⟨_, rfl⟩
  rw [hGe]
  obtain ⟨PC, hPCe⟩ : ∃ PC : Array Value, PC = #[.string k, .bool hq, .string q, .pointer p] := ⟨_, rfl⟩
  obtain ⟨RC, hRCe⟩ : ∃ RC : Array Value, RC = #[.string ⟨#[]⟩, .slice none 0 0, .slice (some ⟨G, 0, none⟩) N N] := ⟨_, rfl⟩
  obtain ⟨WA, hWA⟩ : ∃ W, W = (w1.alloc (.cells (Array.replicate N (Value.pointer none)) 35)).alloc (.cells #[.string ⟨#[]⟩, .slice none 0 0, .slice (some ⟨G, 0, none⟩) N N] 48) := ⟨_, rfl⟩
  have hP : Nd B 33 PC WA := by rw [hWA, hPCe]; exact (HN1.out.alloc _).alloc _
  have hG0 : Nd G 35 (Array.replicate N (Value.pointer none)) WA := by rw [hWA]; exact (Nd.newAt (w := w1) 35 (Array.replicate N (Value.pointer none)) hGe.symm).alloc _
  have hG : Nd G 35 ((([] : List Nat).map ptr) ++ List.replicate (N - 0) (Value.pointer none)).toArray WA := by simpa using hG0
  have hR : Nd (G + 1) 48 RC WA := by rw [hWA, hRCe]; exact Nd.newAt _ _ (by rw [size_alloc, hGe])
  have hbw : Below B w WA := by rw [hWA, ← hB]; exact (hbw1.alloc hbw1.size _).alloc (by rw [size_alloc]; have := hbw1.size; omega) _
  have hBG : B < G := by have := HN1.out.lt; omega
  rw [← hWA]
  have hPC0 : PC[0]? = some (.string k) := by rw [hPCe]; rfl
  have hPC1 : PC[1]? = some (.bool hq) := by rw [hPCe]; rfl
  have hPC2 : PC[2]? = some (.string q) := by rw [hPCe]; rfl
  have hPC3 : PC[3]? = some (.pointer p) := by rw [hPCe]; rfl
  have hRC : RC[2]? = some (.slice (some ⟨G, 0, none⟩) N N) := by rw [hRCe]; rfl
  have HPC := Lib.hid hPCe
  have HRC := Lib.hid hRCe
  obtain ⟨R, hRe⟩ : ∃ R, G + 1 = R := ⟨_, rfl⟩
  rw [hRe] at hR ⊢
  have hRG : R ≠ G := by omega
  have hGR : G < R := by omega
  have hBlt : B < w1.heap.size := HN1.out.lt
  clear hG0 hWA hGe hPCe hRCe hmk HN1 hbw1 hr h5 hz hm0 hm1 hs hRe
  go_loopw [8] (BRel X N G R B PC RC w) (fun i _ => N - (Go.RowKit.intOf i).toNat)
  case atStart => exact ⟨0, [], Nat.zero_le _, rfl, rfl, Lib.hid hG, Lib.hid hP, Lib.hid hR, Lib.hid (fun j h => by simp at h), hbw⟩
  case round =>
    clear hG hP hR hbw
    obtain ⟨i, ps, hi, rfl, hpl, hG, hP, hR, hMd, hbw⟩ := hrel
    by_cases hlt : i < N
    · have c0 := hP.out.cell 0 hPC0
      have c1 := hP.out.cell 1 hPC1
      have c2 := hP.out.cell 2 hPC2
      have c3 := hP.out.cell 3 hPC3
      have k2 := hR.out.cell 2 hRC
      have hGl := hG.out.lt
      have hc0 := ptrs_get ps i N hpl.out hlt
      have hb' := hbw
      rw [← hB] at hb'
      have HC := Lib.hid (elR (R := R) (c := 2) (G := G) (i := i) (HM.out wr.drew hb'.drew) hR.out hRC hG.out hc0)
      have hBl : B < wr.heap.size := hP.out.lt
      have hBG' : B ≠ G := by omega
      clear hc0 hb'
      go_wp2_with fail
      go_region_held3 (fun W => W.cell? ⟨R, 2, none⟩ = some (.slice (some ⟨G, 0, none⟩) N N) ∧ W.cell? ⟨B, 0, none⟩ = some (.string k) ∧ W.cell? ⟨B, 1, none⟩ = some (.bool hq) ∧ W.cell? ⟨B, 2, none⟩ = some (.string q) ∧ W.cell? ⟨B, 3, none⟩ = some (.pointer p)) (first | go_keep | exact ⟨keep_set k2' hRG, keep_set c0' hBG', keep_set c1' hBG', keep_set c2' hBG', keep_set c3' hBG'⟩)
        (first | (go_at_call 12; refine HC.out.mono ?_; rintro e W1 ⟨p1, rfl, k2', cg1, fg1, hM1, hb1⟩; have c0' := (hb1.out.cell (p := ⟨B, 0, none⟩) hBl).trans c0; have c1' := (hb1.out.cell (p := ⟨B, 1, none⟩) hBl).trans c1; have c2' := (hb1.out.cell (p := ⟨B, 2, none⟩) hBl).trans c2; have c3' := (hb1.out.cell (p := ⟨B, 3, none⟩) hBl).trans c3))
      have hb1' := hb1.out
      have hsz1 := hb1'.size
      go_wp2_with fail
      go_roundw
      case rel =>
        obtain ⟨hp1', hp2', hM2⟩ := hM1.out
        have hRl := hR.out.lt
        have hPl := hP.out.lt
        have hq' := hpl.out
        have sm : ∀ lo hi, (G < lo ∨ hi ≤ G) → Same lo hi W1 (W1.setCell ⟨G, i, none⟩ (.pointer (some ⟨p1, 0, none⟩))) := fun lo hi h => (Same.refl _ _ _).setCell h.symm.symm _
        have hN := (hG.out.below hb1' hGl).set i (.pointer (some ⟨p1, 0, none⟩))
        rw [show (Value.pointer (some ⟨p1, 0, none⟩)) = ptr p1 from rfl, ptrs_set ps i N p1 hq' hlt] at hN
        refine ⟨i + 1, ps ++ [p1], by omega, by go_num, Lib.hid (by rw [List.length_append, hq']; rfl), Lib.hid hN, Lib.hid ((hP.out.below hb1' hPl).setNe hBG' _), Lib.hid ((hR.out.below hb1' hRl).setNe hRG _), Lib.hid ?_, (hbw.trans (hb1'.mono (by omega))).setCell (p := ⟨G, i, none⟩) (by show B ≤ G; omega) _⟩
        intro j hj
        rw [size_setCell]
        by_cases hji : j < ps.length
        · rw [List.getElem_append_left hji]
          exact (((hMd.out j hji).same (Same.below hb1' (Nat.le_refl _))).wide (Nat.le_refl _) hsz1).same (sm _ _ (.inl (by omega)))
        · have hjl : j = ps.length := by simp at hj; omega
          subst hjl
          rw [List.getElem_append_right (Nat.le_refl _)]
          simp only [Nat.sub_self, List.getElem_cons_zero]
          exact (hM2.wide (by omega) (Nat.le_refl _)).same (sm _ _ (.inl (by omega)))
      case measure => simp [Go.RowKit.intOf]; omega
    · obtain rfl : N = i := by omega
      have hG0 := hG.out
      rw [Nat.sub_self] at hG0
      have hG2 : Nd G 35 (ps.map ptr).toArray wr := by simpa using hG0
      have c0 := hP.out.cell 0 hPC0
      have c1 := hP.out.cell 1 hPC1
      have c2 := hP.out.cell 2 hPC2
      have c3 := hP.out.cell 3 hPC3
      have hR2 := hR.out
      have hpl' := hpl.out
      rw [HRC.out, ← hpl'] at hR2
      have hPrt : Prt 25 R ([123] ++ seqT [44, 32] (fun _ => X) ps.length ++ [125]) wr := prints_pobj hR2 hG2 (by omega) (by omega) (fun i hi => (hMd.out i hi).prt)
      rw [hpl'] at hPrt
      have HPrt := Lib.hid hPrt
      have hb' := hbw
      rw [← hB] at hb'
      have HC := Lib.hid (HM.out wr hb')
      have hlen : ([123] ++ seqT [44, 32] (fun _ => X) N ++ [125]).length ≤ 10000000000 := by
        have h1 := seqT_const X N
        have h2 : N * (X.length + 2) ≤ 4096 * 2097152 := Nat.mul_le_mul hN2 (by omega)
        simp only [List.length_append, List.length_cons, List.length_nil]; omega
      have HLEN := Lib.hid hlen
      clear hG2 hG0 hG hR hR2 hpl hpl' hMd hPrt hP hlen hbw
      go_wp2_with fail
      refine HC.out.mono ?_
      rintro e w2 ⟨po, rfl, m1, m2, hMo, hb2⟩
      have hbw2 := hb'.trans (hb2.mono hb'.size)
      have HTab2 := Lib.hid (tabs_below HT.out hbw2 (by omega) (by omega))
      have HPrt2 := Lib.hid (HPrt.out.pres (Pres.below hb2 (Nat.le_refl _)))
      have HC2 := Lib.hid (str_Obj hMo.prt HTab2.out (by omega))
      clear HPrt hMo HC c0 c1 c2 c3
      go_wp2_with fail
      refine HC2.out.mono ?_
      rintro e w3 ⟨rfl, hb3⟩
      have hbw3 := hbw2.trans (hb3.mono hbw2.size)
      have HPrt3 := Lib.hid (HPrt2.out.pres (Pres.below hb3 (Nat.le_refl _)))
      have HTab3 := Lib.hid (tabs_below HT.out hbw3 (by omega) (by omega))
      clear HC2 HPrt2 HTab2 hb3 hb2 hbw2 hb'
      go_wp2_with fail
      obtain ⟨W4, hW4⟩ : ∃ W, W = w3.alloc (.cells #[.int .u8 123] 5) := ⟨_, rfl⟩
      have ho4 : OB w3.heap.size (.slice (some ⟨w3.heap.size, 0, none⟩) 1 1) [123] W4 := by rw [hW4]; exact own_new (Nd.new _ _ _) (Nat.le_refl _)
      have hb4 : Below w3.heap.size w3 W4 := by rw [hW4]; exact (Below.refl _ _).alloc (Nat.le_refl _) _
      try rw [← hW4]
      clear hW4
      have hXs : (⟨X.toArray⟩ : ByteArray).data.toList = X := rfl
      have hXz : (⟨X.toArray⟩ : ByteArray).size = X.length := by simp [ByteArray.size]
      obtain ⟨SX, hSX⟩ : ∃ SX : ByteArray, SX = ⟨X.toArray⟩ := ⟨_, rfl⟩
      rw [← hSX] at hXs hXz ⊢
      have HXs := Lib.hid hXs
      clear hXs hSX
      go_loopw [10, 11] (WRel X N w3.heap.size w3) (fun _ j _ => N - (Go.RowKit.intOf j).toNat)
      case atStart => exact ⟨0, _, Nat.zero_le _, rfl, rfl, Lib.hid (by simpa [seqT] using ho4), hb4⟩
      case round =>
        clear ho4 hb4
        obtain ⟨j, vw, hj, rfl, rfl, hO, hbw⟩ := hrel
        have hll := seqT_mono X N j hj
        have hlen := HLEN.out
        simp only [List.length_append, List.length_cons, List.length_nil] at hlen
        by_cases hlt : j < N
        · have hll2 := seqT_mono X N (j + 1) hlt
          by_cases hj0 : j = 0
          · subst hj0
            obtain ⟨v2, w5, hap2, ho2, hb2⟩ := app_str hO.out SX hbw.size (by simp only [seqT, List.length_append, List.length_cons, List.length_nil]; omega)
            have HO2 := Lib.hid ho2
            have hbw2 := hbw.trans hb2
            clear ho2 hb2 hO hbw
            go_wp2_with (at_builtin; first | refine wpList_append_run _ rfl _ _ _ _ rfl _ _ _ rfl rfl _ hap2 ?_)
            go_roundw
            case rel =>
              refine ⟨1, v2, by omega, rfl, by go_num, Lib.hid ?_, hbw2⟩
              have h := HO2.out
              rw [HXs.out] at h
              simpa [seqT] using h
            case measure => simp [Go.RowKit.intOf]; omega
          · obtain ⟨v1, w5, hap1, ho1, hb1⟩ := app_lit hO.out [44, 32] hbw.size (by simp only [List.length_append, List.length_cons, List.length_nil]; omega)
            have hap1 : ∀ ty, (Builtin.append_ #[49, 49] ty #[vw, .slice (some ⟨wr.heap.size, 0, none⟩) 2 2]).run Tryd.prog (wr.alloc (.cells #[.int .u8 44, .int .u8 32] 5)) = .ok v1 w5 := hap1
            have HO1 := Lib.hid ho1
            have hbw1 := hbw.trans hb1
            clear ho1 hb1
            have hst : seqT [44, 32] (fun _ => X) (j + 1) = seqT [44, 32] (fun _ => X) j ++ [44, 32] ++ X := by simp [seqT, hj0]
            rw [hst] at hll2
            simp only [List.length_append, List.length_cons, List.length_nil] at hll2
            obtain ⟨v2, w6, hap2, ho2, hb2⟩ := app_str HO1.out SX hbw1.size (by simp only [List.length_append, List.length_cons, List.length_nil]; omega)
            have HO2 := Lib.hid ho2
            have hbw2 := hbw1.trans hb2
            have HST := Lib.hid hst
            clear ho2 hb2 hst hO hbw
            go_wp2_with (at_builtin; first | refine wpList_append_run _ rfl _ _ _ _ rfl _ _ _ rfl rfl _ hap1 ?_ | refine wpList_append_run _ rfl _ _ _ _ rfl _ _ _ rfl rfl _ hap2 ?_)
            go_roundw
            case rel =>
              refine ⟨j + 1, v2, by omega, rfl, by go_num, Lib.hid ?_, hbw2⟩
              have h := HO2.out
              rw [HXs.out] at h
              rw [HST.out]
              simpa [List.append_assoc] using h
            case measure => simp [Go.RowKit.intOf]; omega
        · obtain rfl : N = j := by omega
          obtain ⟨vz, wz, hapz, hoz, hbz⟩ := app_lit hO.out [125] hbw.size (by simp only [List.length_append, List.length_cons, List.length_nil]; omega)
          have hapz : ∀ ty, (Builtin.append_ #[49, 49] ty #[vw, .slice (some ⟨wr.heap.size, 0, none⟩) 1 1]).run Tryd.prog (wr.alloc (.cells #[.int .u8 125] 5)) = .ok vz wz := hapz
          have hbwz := hbw.trans hbz
          obtain ⟨Z, hZ⟩ : ∃ Z, [123] ++ seqT [44, 32] (fun _ => X) N ++ [125] = Z := ⟨_, rfl⟩
          have hZl := HLEN.out
          rw [hZ] at hoz hZl
          have HZ := Lib.hid hZ
          have HPrtZ := Lib.hid (HPrt3.out.pres (Pres.below hbwz (Nat.le_refl _)))
          have HTabZ := Lib.hid (tabs_below HTab3.out hbwz (by have := tabs_size HTab3.out; omega) (by have := tabs_size HTab3.out; omega))
          rw [hZ] at HPrtZ
          have HOZ := Lib.hid hoz
          have HZL := Lib.hid hZl
          clear hoz hbz hO hZ hZl hlen hll HPrt3 HTab3
          have hbz3 := hbw3.trans (hbwz.mono hbw3.size)
          go_wp2_with (at_builtin; refine wpList_append_run _ rfl _ _ _ _ rfl _ _ _ rfl rfl _ hapz ?_)
          have hOd : OB w3.heap.size vz Z wz.drew := HOZ.out
          have hcv := run_back hOd
          have HOd := Lib.hid hOd
          have HCd := Lib.hid (str_Pat (p := R) (T := Z) (w := wz.drew) HPrtZ.out HTabZ.out HZL.out)
          have hbd : Below w.heap.size w wz.drew := hbz3.drew
          have hszd : w.heap.size ≤ wz.drew.heap.size := hbd.size
          have HBd := Lib.hid hbd
          clear hOd hbd
          go_region_with (go_at_call 15; refine HCd.out.mono ?_; rintro e w5 ⟨rfl, hb5⟩; have hcv5 := run_back (HOd.out.below hb5 (Nat.le_refl _)))
          all_goals
            go_wp2_with fail
            go_ret
            exact ⟨rfl, HBd.out.trans (hb5.mono hszd)⟩
end Go.Proofs.YthfhfocdbkieoaaDoor
