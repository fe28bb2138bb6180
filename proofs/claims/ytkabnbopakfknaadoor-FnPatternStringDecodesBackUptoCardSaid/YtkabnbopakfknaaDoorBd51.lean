/- The law's builder on a name, on an array (printed by wip/tools/gen_bd51.py). -/
import Derived.Test.YtkabnbopakfknaaDoorMk51
namespace Go.Proofs.YtkabnbopakfknaaDoor
open Go.RowKit
set_option linter.unusedVariables false

set_option maxRecDepth 100000 in
theorem bd_name (nm : ByteArray) (a a' : Option Addr) (c c' : Nat) (w : World) (h0 : nm.size ≠ 0) :
    Calls Tryd.prog 8 #[.agg #[.string nm, .slice a 0 c, .slice a' 0 c']] w (MkE 21 nm.data.toList w) := by
  go_enter Tryd.func8, Tryd.ntmps8
  go_wp2_with fail
  go_ret
  have hR : Nd (w.heap.size + 1) 66 #[.string nm, .slice none 0 0, .slice none 0 0] ((w.alloc (.cells #[.string nm, .slice a 0 c, .slice a' 0 c'] 25)).alloc (.cells #[.string nm, .slice none 0 0, .slice none 0 0] 66)) := Nd.newAt _ _ (by rw [size_alloc])
  exact ⟨w.heap.size + 1, rfl, by omega, hR.lt, (fun w' hs => prints_pat_name (hR.same hs (by omega) hR.lt) h0), ((Below.refl _ _).alloc (Nat.le_refl _) _).alloc (by simp) _⟩
set_option maxHeartbeats 1000000 in
set_option maxRecDepth 100000 in
theorem bd_arr (a a' : Option Addr) (l c c' : Nat) (Ts : Nat → List UInt8) (w : World) (hl : l ≤ 1048576) (hp1 : 0 < l) (hE : ArrIn a l (fun i es => BdC es (Ts i) w) w) :
    Calls Tryd.prog 8 #[.agg #[.string ⟨#[]⟩, .slice a l c, .slice a' 0 c']] w (MkE 21 ([91] ++ seqT [44, 32] Ts l ++ [93]) w) := by
  have HE := Lib.hid hE
  have hmk1 := fun W => run_mkE info_p Tryd.underlying63 rfl l hl W
  clear hE
  obtain ⟨B, hB⟩ : ∃ B, w.heap.size = B := ⟨_, rfl⟩
  go_enter Tryd.func8, Tryd.ntmps8
  go_wp2_with fail
  obtain ⟨WA, hWA⟩ : ∃ W, W = ((w.alloc (.cells #[.string ⟨#[]⟩, .slice a l c, .slice a' 0 c'] 25)).alloc (.cells #[.string ⟨#[]⟩, .slice (some ⟨B + 1 + 1, 0, none⟩) l l, .slice none 0 0] 66)).alloc (.cells (Array.replicate l (Value.pointer none)) 28) := ⟨_, rfl⟩
  have z1 : (w.alloc (.cells #[.string ⟨#[]⟩, .slice a l c, .slice a' 0 c'] 25)).heap.size = B + 1 := by rw [size_alloc, hB]
  have z2 : ((w.alloc (.cells #[.string ⟨#[]⟩, .slice a l c, .slice a' 0 c'] 25)).alloc (.cells #[.string ⟨#[]⟩, .slice (some ⟨B + 1 + 1, 0, none⟩) l l, .slice none 0 0] 66)).heap.size = B + 1 + 1 := by rw [size_alloc, z1]
  have hP : Nd B 25 #[.string ⟨#[]⟩, .slice a l c, .slice a' 0 c'] WA := by rw [hWA]; exact ((Nd.newAt _ _ hB.symm).alloc _).alloc _
  have hR : Nd (B + 1) 66 #[.string ⟨#[]⟩, .slice (some ⟨B + 1 + 1, 0, none⟩) l l, .slice none 0 0] WA := by rw [hWA]; exact (Nd.newAt _ _ z1.symm).alloc _
  have hG0 : Nd (B + 1 + 1) 28 (Array.replicate l (Value.pointer none)) WA := by rw [hWA]; exact Nd.newAt _ _ z2.symm
  have hG : Nd (B + 1 + 1) 28 ((([] : List Nat).map ptr) ++ List.replicate (l - 0) (Value.pointer none)).toArray WA := by simpa using hG0
  have hb : Below B w WA := by rw [hWA, ← hB]; exact (((Below.refl _ _).alloc (Nat.le_refl _) _).alloc (by simp) _).alloc (by rw [size_alloc, size_alloc]; omega) _
  rw [← hWA]
  have HB := Lib.hid hB
  obtain ⟨G, hGe⟩ : ∃ G, G = B + 1 + 1 := ⟨_, rfl⟩
  have HRG : Hid (B + 1 < G) := Lib.hid (by omega)
  have hsm : Same (B + 1 + 1) G WA WA := Same.refl _ _ _
  rw [← hGe] at hR hG ⊢
  obtain ⟨PC, hPCe⟩ : ∃ PC : Array Value, PC = #[.string ⟨#[]⟩, .slice a l c, .slice a' 0 c'] := ⟨_, rfl⟩
  obtain ⟨RC, hRCe⟩ : ∃ RC : Array Value, RC = #[.string ⟨#[]⟩, .slice (some ⟨G, 0, none⟩) l l, .slice none 0 0] := ⟨_, rfl⟩
  have hPC : PC[1]? = some (.slice a l c) := by rw [hPCe]; rfl
  have hPC2 : PC[2]? = some (.slice a' 0 c') := by rw [hPCe]; rfl
  have hRC : RC[1]? = some (.slice (some ⟨G, 0, none⟩) l l) := by rw [hRCe]; rfl
  have HRC := Lib.hid hRCe
  rw [← hPCe] at hP
  rw [← hRCe] at hR
  clear hWA z1 z2 hB hGe hG0 hPCe hRCe hmk1
  go_loopw [4] (TRel 21 28 l G (B + 1) B PC RC Ts B w WA) (fun i _ => l - (intOf i).toNat)
  case atStart => exact ⟨0, [], Nat.zero_le _, rfl, rfl, Lib.hid hG, Lib.hid hP, Lib.hid hR, Lib.hid (fun j h => by simp at h), Lib.hid hsm, hb⟩
  case round =>
    clear hG hP hR hsm hb
    obtain ⟨i, ps, hi, rfl, hpl, hG, hP, hR, hM, hsm, hb⟩ := hrel
    by_cases hlt : i < l
    · obtain ⟨g, o, ha, es, hel, hcell, hcall⟩ := HE.out i hlt
      subst ha
      obtain ⟨e0, e1, e2, rfl⟩ := list3 es hel
      clear hel
      have hgl := World.block_lt_of_cell? w _ (hcell 0 (by omega))
      simp only at hgl
      have hb' := hb
      rw [← HB.out] at hb'
      have d0 := (hb.cell (p := ⟨g, o + i * 3, none⟩) (by rw [← HB.out]; exact hgl)).trans (hcell 0 (by omega))
      have d1 := (hb.cell (p := ⟨g, o + i * 3 + 1, none⟩) (by rw [← HB.out]; exact hgl)).trans (hcell 1 (by omega))
      have d2 := (hb.cell (p := ⟨g, o + i * 3 + 2, none⟩) (by rw [← HB.out]; exact hgl)).trans (hcell 2 (by omega))
      have q1 := hP.out.cell 1 hPC
      have r1 := hR.out.cell 1 hRC
      have hGl := hG.out.lt
      have hc0 := ptrs_get ps i l hpl.out hlt
      have HC := Lib.hid (elR (R := B + 1) (c := 1) (G := G) (i := i) (hcall wr.drew hb'.drew) hR.out hRC hG.out hc0)
      have hRG : B + 1 ≠ G := by have := HRG.out; omega
      have HB' := Lib.hid hb'
      have hBl : B < wr.heap.size := hP.out.lt
      have hgl2 : g < wr.heap.size := Nat.lt_of_lt_of_le hgl hb.size
      have hBG : B ≠ G := by have := HRG.out; omega
      have hgG : g ≠ G := by have := HRG.out; have := HB.out; omega
      clear hc0 hcall hcell hb'
      go_wp2_with fail
      go_region_held3 (fun W => W.cell? ⟨B + 1, 1, none⟩ = some (.slice (some ⟨G, 0, none⟩) l l) ∧ W.cell? ⟨B, 1, none⟩ = some (.slice (some ⟨g, o, none⟩) l c) ∧ W.cell? ⟨g, o + i * 3, none⟩ = some e0 ∧ W.cell? ⟨g, o + i * 3 + 1, none⟩ = some e1 ∧ W.cell? ⟨g, o + i * 3 + 2, none⟩ = some e2) (first | go_keep | exact ⟨keep_set r1' hRG, keep_set q1' hBG, keep_set d0' hgG, keep_set d1' hgG, keep_set d2' hgG⟩)
        (first | (go_at_call 8; refine HC.out.mono ?_; rintro e W1 ⟨p, rfl, r1', cg1, fg1, hM1, hb1⟩; have q1' := (hb1.out.cell (p := ⟨B, 1, none⟩) hBl).trans q1; have d0' := (hb1.out.cell (p := ⟨g, o + i * 3, none⟩) hgl2).trans d0; have d1' := (hb1.out.cell (p := ⟨g, o + i * 3 + 1, none⟩) hgl2).trans d1; have d2' := (hb1.out.cell (p := ⟨g, o + i * 3 + 2, none⟩) hgl2).trans d2))
      have hb1' := hb1.out
      have hsz1 := hb1'.size
      go_wp2_with fail
      go_roundw
      case rel =>
        obtain ⟨hp1', hp2', hM2⟩ := hM1.out
        have hRl := hR.out.lt
        have hPl := hP.out.lt
        have hGR := HRG.out
        have hq := hpl.out
        have sm : ∀ lo hi, (G < lo ∨ hi ≤ G) → Same lo hi W1 (W1.setCell ⟨G, i, none⟩ (.pointer (some ⟨p, 0, none⟩))) := fun lo hi h => (Same.refl _ _ _).setCell h.symm.symm _
        have hN := (hG.out.below hb1' hGl).set i (.pointer (some ⟨p, 0, none⟩))
        rw [show (Value.pointer (some ⟨p, 0, none⟩)) = ptr p from rfl, ptrs_set ps i l p hq hlt] at hN
        refine ⟨i + 1, ps ++ [p], by omega, by go_num, Lib.hid (by rw [List.length_append, hq]; rfl), Lib.hid hN, Lib.hid ((hP.out.below hb1' hPl).setNe (by omega) _), Lib.hid ((hR.out.below hb1' hRl).setNe hRG _), Lib.hid ?_, Lib.hid (hsm.out.trans ((Same.below hb1' (by omega)).trans (sm _ _ (.inr (Nat.le_refl _))))), (hb.trans (hb1'.mono (by omega))).setCell (p := ⟨G, i, none⟩) (by show B ≤ G; omega) _⟩
        intro j hj
        rw [size_setCell]
        by_cases hji : j < ps.length
        · rw [List.getElem_append_left hji]
          exact (((hM.out j hji).same (Same.below hb1' (Nat.le_refl _))).wide (Nat.le_refl _) hsz1).same (sm _ _ (.inl (by omega)))
        · have hjl : j = ps.length := by simp at hj; omega
          subst hjl
          rw [List.getElem_append_right (Nat.le_refl _)]
          simp only [Nat.sub_self, List.getElem_cons_zero]
          rw [hq]
          exact (hM2.wide (by omega) (Nat.le_refl _)).same (sm _ _ (.inl (by omega)))
      case measure => simp [intOf]; omega
    · obtain rfl : i = l := by omega
      have hG0 := hG.out
      rw [Nat.sub_self] at hG0
      have hG2 : Nd G 28 (ps.map ptr).toArray wr := by simpa using hG0
      have q1 := hP.out.cell 1 hPC
      have q2 := hP.out.cell 2 hPC2
      have hR2 := hR.out
      have hpl' := hpl.out
      rw [HRC.out, ← hpl'] at hR2
      have hGlt := hG2.lt
      have hRlt := hR2.lt
      have hRG2 := HRG.out
      have hFin : MadeP B wr.heap.size 21 (B + 1) ([91] ++ seqT [44, 32] Ts ps.length ++ [93]) wr := fun w' hs => prints_parr (hR2.same hs (by omega) hRlt) (hG2.same hs (by omega) hGlt) (by omega) (by omega) (fun i hi => (((hM.out i hi).wide (by omega) (Nat.le_refl _)).same hs).prt)
      rw [hpl'] at hFin
      have HFin := Lib.hid hFin
      clear hsm hM hG0 hG2 hG hpl hpl' hR hR2 hP hFin
      go_wp2_with fail
      go_ret
      exact ⟨B + 1, rfl, by (have := HB.out; omega), hRlt, by rw [HB.out]; exact HFin.out, by first | exact hb | (rw [HB.out]; exact hb)⟩
end Go.Proofs.YtkabnbopakfknaaDoor
