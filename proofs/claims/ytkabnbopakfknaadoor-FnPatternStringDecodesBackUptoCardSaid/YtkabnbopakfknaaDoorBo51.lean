/- The law's builder on an object. -/
import Derived.Test.YtkabnbopakfknaaDoorBd51
namespace Go.Proofs.YtkabnbopakfknaaDoor
open Go.RowKit
set_option linter.unusedVariables false

def entT (k : ByteArray) (m : Nat) (V : List UInt8) : List UInt8 := k.data.toList ++ (if 0 < m then [58, 32] ++ V else [])
/-- An entry's node. -/
theorem po_made {lo hi E : Nat} {k : ByteArray} {w : World} {V : List UInt8} (hN : Nd E 69 #[.string k, .pointer none, .pointer none, .pointer none] w) (hk : k.size ≠ 0) (h1 : lo ≤ E) (h2 : E < hi) : MadeP lo hi 26 E (entT k 0 V) w := fun w' hs =>
  prints_po_key (vp := none) (T := []) (hN.same hs h1 h2) hk (fun x hx => by cases hx)
theorem po_made1 {lo hi E x m : Nat} {k : ByteArray} {w : World} {V : List UInt8} (hN : Nd E 69 #[.string k, .pointer none, .pointer none, .pointer (some ⟨x, 0, none⟩)] w) (hk : k.size ≠ 0) (h1 : lo ≤ E) (h2 : E < hi) (hm : 0 < m) (hV : MadeP lo hi 21 x V w) : MadeP lo hi 26 E (entT k m V) w := fun w' hs => by
  unfold entT
  rw [if_pos hm]
  exact prints_po_key (vp := some x) (T := V) (hN.same hs h1 h2) hk (fun y hy => by cases hy; exact hV w' hs)
set_option maxHeartbeats 2000000 in
set_option maxRecDepth 100000 in
theorem bd_obj (a a' : Option Addr) (c l' c' : Nat) (K : Nat → ByteArray) (av : Nat → Option Addr) (lv cv : Nat → Nat) (Vs : Nat → List UInt8) (w : World) (hl' : l' ≤ 1048576) (hp1 : 0 < l') (hK : ∀ i, i < l' → (K i).size ≠ 0 ∧ lv i ≤ 1048576) (hO : EntIn a' l' K av lv cv (fun i j es => j = 0 → BdC es (Vs i) w) w) :
    Calls Tryd.prog 8 #[.agg #[.string ⟨#[]⟩, .slice a 0 c, .slice a' l' c']] w (MkE 21 ([123] ++ seqT [44, 32] (fun i => entT (K i) (lv i) (Vs i)) l' ++ [125]) w) := by
  have HO := Lib.hid hO
  have HK := Lib.hid hK
  have hmk1 := fun W => run_mkE info_o Tryd.underlying64 rfl l' hl' W
  clear hO hK
  obtain ⟨B, hB⟩ : ∃ B, w.heap.size = B := ⟨_, rfl⟩
  go_enter Tryd.func8, Tryd.ntmps8
  go_wp2_with fail
  obtain ⟨WA, hWA⟩ : ∃ W, W = ((w.alloc (.cells #[.string ⟨#[]⟩, .slice a 0 c, .slice a' l' c'] 25)).alloc (.cells #[.string ⟨#[]⟩, .slice none 0 0, .slice (some ⟨B + 1 + 1, 0, none⟩) l' l'] 66)).alloc (.cells (Array.replicate l' (Value.pointer none)) 67) := ⟨_, rfl⟩
  have z1 : (w.alloc (.cells #[.string ⟨#[]⟩, .slice a 0 c, .slice a' l' c'] 25)).heap.size = B + 1 := by rw [size_alloc, hB]
  have z2 : ((w.alloc (.cells #[.string ⟨#[]⟩, .slice a 0 c, .slice a' l' c'] 25)).alloc (.cells #[.string ⟨#[]⟩, .slice none 0 0, .slice (some ⟨B + 1 + 1, 0, none⟩) l' l'] 66)).heap.size = B + 1 + 1 := by rw [size_alloc, z1]
  have hP : Nd B 25 #[.string ⟨#[]⟩, .slice a 0 c, .slice a' l' c'] WA := by rw [hWA]; exact ((Nd.newAt _ _ hB.symm).alloc _).alloc _
  have hR : Nd (B + 1) 66 #[.string ⟨#[]⟩, .slice none 0 0, .slice (some ⟨B + 1 + 1, 0, none⟩) l' l'] WA := by rw [hWA]; exact (Nd.newAt _ _ z1.symm).alloc _
  have hG0 : Nd (B + 1 + 1) 67 (Array.replicate l' (Value.pointer none)) WA := by rw [hWA]; exact Nd.newAt _ _ z2.symm
  have hG : Nd (B + 1 + 1) 67 ((([] : List Nat).map ptr) ++ List.replicate (l' - 0) (Value.pointer none)).toArray WA := by simpa using hG0
  have hb : Below B w WA := by rw [hWA, ← hB]; exact (((Below.refl _ _).alloc (Nat.le_refl _) _).alloc (by simp) _).alloc (by rw [size_alloc, size_alloc]; omega) _
  rw [← hWA]
  have HB := Lib.hid hB
  obtain ⟨G, hGe⟩ : ∃ G, G = B + 1 + 1 := ⟨_, rfl⟩
  have HRG : Hid (B + 1 < G) := Lib.hid (by omega)
  have hsm : Same (B + 1 + 1) G WA WA := Same.refl _ _ _
  rw [← hGe] at hR hG ⊢
  obtain ⟨PC, hPCe⟩ : ∃ PC : Array Value, PC = #[.string ⟨#[]⟩, .slice a 0 c, .slice a' l' c'] := ⟨_, rfl⟩
  obtain ⟨RC, hRCe⟩ : ∃ RC : Array Value, RC = #[.string ⟨#[]⟩, .slice none 0 0, .slice (some ⟨G, 0, none⟩) l' l'] := ⟨_, rfl⟩
  have hPC2 : PC[2]? = some (.slice a' l' c') := by rw [hPCe]; rfl
  have hRC : RC[2]? = some (.slice (some ⟨G, 0, none⟩) l' l') := by rw [hRCe]; rfl
  have HRC := Lib.hid hRCe
  rw [← hPCe] at hP
  rw [← hRCe] at hR
  clear hWA z1 z2 hB hGe hG0 hPCe hRCe hmk1
  go_loopw [5] (TRel 26 67 l' G (B + 1) B PC RC (fun i => entT (K i) (lv i) (Vs i)) B w WA) (fun i _ => l' - (Go.RowKit.intOf i).toNat)
  case atStart => exact ⟨0, [], Nat.zero_le _, rfl, rfl, Lib.hid hG, Lib.hid hP, Lib.hid hR, Lib.hid (fun j h => by simp at h), Lib.hid hsm, hb⟩
  case round =>
    clear hG hP hR hsm hb
    obtain ⟨i, ps, hi, rfl, hpl, hG, hP, hR, hM, hsm, hb⟩ := hrel
    have q2 := hP.out.cell 2 hPC2
    by_cases hlt : i < l'
    · obtain ⟨g, o, ha, hk, hkv, hv⟩ := HO.out i hlt
      obtain ⟨hK1, hK2⟩ := HK.out i hlt
      subst ha
      have hbx := hb
      rw [← HB.out] at hbx
      have d0 := cell_on hbx hk
      have d1 := cell_on hbx hkv
      obtain ⟨k, hke⟩ : ∃ k, K i = k := ⟨_, rfl⟩
      obtain ⟨m, hme⟩ : ∃ m, lv i = m := ⟨_, rfl⟩
      rw [hke] at d0 hK1
      rw [hme] at d1 hv hK2
      have hent : entT (K i) (lv i) (Vs i) = entT k m (Vs i) := by rw [hke, hme]
      have HENT := Lib.hid hent
      have hv0 : 0 < m → _ := fun h => hv 0 h
      have HV := Lib.hid hv0
      clear hk hkv hv hv0 hbx hke hme hent
      obtain ⟨E, hE⟩ : ∃ E, wr.heap.size = E := ⟨_, rfl⟩
      have hBE : B < E := by rw [← hE]; exact hP.out.lt
      have hGE : G < E := by rw [← hE]; exact hG.out.lt
      have hRG := HRG.out
      have hEb : Below wr.heap.size wr (wr.alloc (.cells #[.string k, .pointer none, .pointer none, .pointer none] 69)) := (Below.refl _ _).alloc (Nat.le_refl _) _
      have hNE : Nd E 69 #[.string k, .pointer none, .pointer none, .pointer none] (wr.alloc (.cells #[.string k, .pointer none, .pointer none, .pointer none] 69)) := Nd.newAt _ _ hE.symm
      have hP1 := hP.out.alloc (.cells #[.string k, .pointer none, .pointer none, .pointer none] 69)
      have hR1 := hR.out.alloc (.cells #[.string k, .pointer none, .pointer none, .pointer none] 69)
      have hG1 := hG.out.alloc (.cells #[.string k, .pointer none, .pointer none, .pointer none] 69)
      have hb1 : Below B w (wr.alloc (.cells #[.string k, .pointer none, .pointer none, .pointer none] 69)) := hb.alloc (by omega) _
      have hz1 : (wr.alloc (.cells #[.string k, .pointer none, .pointer none, .pointer none] 69)).heap.size = E + 1 := by rw [size_alloc, hE]
      have A1 := cell_on hEb d1
      have hsm1 : Same (B + 1 + 1) G WA (wr.alloc (.cells #[.string k, .pointer none, .pointer none, .pointer none] 69)) := hsm.out.trans (Same.below hEb (by omega))
      have hM1 : ∀ j (h : j < ps.length), MadeP (G + 1) E 26 ps[j] (entT (K j) (lv j) (Vs j)) (wr.alloc (.cells #[.string k, .pointer none, .pointer none, .pointer none] 69)) := fun j h => by rw [← hE]; exact (hM.out j h).same (Same.below hEb (Nat.le_refl _))
      have A2 := hP1.cell 2 hPC2
      have AR := hR1.cell 2 hRC
      have hc0 := ptrs_get ps i l' hpl.out hlt
      have AG := hG1.cell i hc0
      have FG := hG1.free i
      obtain ⟨xa, hxa⟩ : ∃ x, av i = x := ⟨_, rfl⟩
      obtain ⟨xc, hxc⟩ : ∃ x, cv i = x := ⟨_, rfl⟩
      rw [hxa] at HV
      rw [hxa, hxc] at d1 A1
      have HP1 := Lib.hid hP1
      have HR1 := Lib.hid hR1
      have HG1 := Lib.hid hG1
      have HB1 := Lib.hid hb1
      have HNE := Lib.hid hNE
      have HZ1 := Lib.hid hz1
      have HSM1 := Lib.hid hsm1
      have HM1 := Lib.hid hM1
      have HE := Lib.hid hE
      clear hP1 hR1 hG1 hb1 hNE hz1 hsm1 hM1 hxa hxc hEb hE
      by_cases hm0 : m = 0
      · subst hm0
        go_wp2_with fail
        go_roundw
        case rel =>
          have hq' := hpl.out
          have hN := HG1.out.set i (ptr wr.heap.size)
          rw [ptrs_set ps i l' wr.heap.size hq' hlt] at hN
          refine ⟨i + 1, ps ++ [wr.heap.size], by omega, by go_num, Lib.hid (by rw [List.length_append, hq']; rfl), Lib.hid ?_, Lib.hid (HP1.out.setNe (by omega) _), Lib.hid (HR1.out.setNe (by omega) _), Lib.hid ?_, Lib.hid (HSM1.out.setCell (.inr (by omega)) _), HB1.out.setCell (p := ⟨G, i, none⟩) (by show B ≤ G; omega) _⟩
          · exact hN
          · intro j hj
            rw [size_setCell, HZ1.out]
            by_cases hji : j < ps.length
            · rw [List.getElem_append_left hji]
              exact ((HM1.out j hji).wide (Nat.le_refl _) (by omega)).same ((Same.refl _ _ _).setCell (.inl (by omega)) _)
            · have hjl : j = ps.length := by simp at hj; omega
              subst hjl
              rw [List.getElem_append_right (Nat.le_refl _)]
              simp only [Nat.sub_self, List.getElem_cons_zero]
              rw [hq', HENT.out, HE.out]
              exact (po_made HNE.out hK1 (by omega) (by omega)).same ((Same.refl _ _ _).setCell (.inl (by omega)) _)
        case measure => first | omega | (simp; omega) | (simp [Go.RowKit.intOf]; omega)
      · obtain ⟨g2, o2, ha2, es, hel, hcell, hcall⟩ := HV.out (by omega)
        subst ha2
        obtain ⟨f0, f1, f2, rfl⟩ := list3 es hel
        clear hel
        have hbx := HB1.out
        rw [← HB.out] at hbx
        have t0 := cell_on hbx (show w.cell? ⟨g2, o2, none⟩ = some f0 by have := hcell 0 (by omega); simpa using this)
        have t1 := cell_on hbx (show w.cell? ⟨g2, o2 + 1, none⟩ = some f1 by have := hcell 1 (by omega); simpa using this)
        have t2 := cell_on hbx (show w.cell? ⟨g2, o2 + 2, none⟩ = some f2 by have := hcell 2 (by omega); simpa using this)
        have HC := Lib.hid (hcall rfl _ hbx)
        clear hcell hcall hbx
        go_wp2_with fail
        refine HC.out.mono ?_
        rintro e w2 ⟨x, rfl, m1, m2, hMx, hb2⟩
        rw [HZ1.out] at m1 hMx hb2
        have hz2 : E + 1 ≤ w2.heap.size := by have := hb2.size; rw [HZ1.out] at this; exact this
        have hNE2 := (HNE.out.below hb2 (by omega)).set 3 (.pointer (some ⟨x, 0, none⟩))
        have hP2 := (HP1.out.below hb2 (by omega)).setNe (b := E) (i := 3) (by omega) (.pointer (some ⟨x, 0, none⟩))
        have hR2 := (HR1.out.below hb2 (by omega)).setNe (b := E) (i := 3) (by omega) (.pointer (some ⟨x, 0, none⟩))
        have hG2 := (HG1.out.below hb2 (by omega)).setNe (b := E) (i := 3) (by omega) (.pointer (some ⟨x, 0, none⟩))
        have E3 := (HNE.out.below hb2 (by omega)).cell 3 rfl
        have F3 := (HNE.out.below hb2 (by omega)).free 3
        clear A1 A2 AR AG FG t0 t1 t2 q2 d0 d1
        have AR := hR2.cell 2 hRC
        have AG := hG2.cell i hc0
        have FG := hG2.free i
        have hNE3 : Nd E 69 #[.string k, .pointer none, .pointer none, .pointer (some ⟨x, 0, none⟩)] (w2.setCell ⟨E, 3, none⟩ (.pointer (some ⟨x, 0, none⟩))) := hNE2
        have HNE3 := Lib.hid hNE3
        have HP2 := Lib.hid hP2
        have HR2 := Lib.hid hR2
        have HG2 := Lib.hid hG2
        have HMX := Lib.hid hMx
        have HB2 := Lib.hid hb2
        clear hNE2 hNE3 hP2 hR2 hG2 hMx hb2 HC
        rw [HE.out]
        go_wp2_with fail
        go_roundw
        case rel =>
          have hq' := hpl.out
          have hN := HG2.out.set i (ptr E)
          rw [ptrs_set ps i l' E hq' hlt] at hN
          have hsE : ∀ lo hi, (E < lo ∨ hi ≤ E) → Same lo hi w2 (w2.setCell ⟨E, 3, none⟩ (.pointer (some ⟨x, 0, none⟩))) := fun lo hi h => (Same.refl _ _ _).setCell h _
          have hbz : Below B w (w2.setCell ⟨E, 3, none⟩ (.pointer (some ⟨x, 0, none⟩))) := (HB1.out.trans (HB2.out.mono (by omega))).setCell (p := ⟨E, 3, none⟩) (by show B ≤ E; omega) _
          refine ⟨i + 1, ps ++ [E], by omega, by go_num, Lib.hid (by rw [List.length_append, hq']; rfl), Lib.hid hN, Lib.hid (HP2.out.setNe (by omega) _), Lib.hid (HR2.out.setNe (by omega) _), Lib.hid ?_, Lib.hid ((HSM1.out.trans ((Same.below HB2.out (by omega)).trans (hsE _ _ (.inr (by omega))))).setCell (.inr (by omega)) _), hbz.setCell (p := ⟨G, i, none⟩) (by show B ≤ G; omega) _⟩
          intro j hj
          rw [size_setCell, size_setCell]
          by_cases hji : j < ps.length
          · rw [List.getElem_append_left hji]
            exact ((((HM1.out j hji).same (Same.below HB2.out (by omega))).same (hsE _ _ (.inr (by omega)))).wide (Nat.le_refl _) (by omega)).same ((Same.refl _ _ _).setCell (.inl (by omega)) _)
          · have hjl : j = ps.length := by simp at hj; omega
            subst hjl
            rw [List.getElem_append_right (Nat.le_refl _)]
            simp only [Nat.sub_self, List.getElem_cons_zero]
            rw [hq', HENT.out]
            exact (po_made1 HNE3.out hK1 (by omega) (by omega) (by omega) ((HMX.out.same (hsE _ _ (.inl (by omega)))).wide (by omega) (Nat.le_refl _))).same ((Same.refl _ _ _).setCell (.inl (by omega)) _)
        case measure => first | omega | (simp; omega) | (simp [Go.RowKit.intOf]; omega)
    · obtain rfl : i = l' := by omega
      have hG0 := hG.out
      rw [Nat.sub_self] at hG0
      have hG2 : Nd G 67 (ps.map ptr).toArray wr := by simpa using hG0
      have hR2 := hR.out
      have hpl' := hpl.out
      rw [HRC.out, ← hpl'] at hR2
      have hGlt := hG2.lt
      have hRlt := hR2.lt
      have hRG2 := HRG.out
      have hFin : MadeP B wr.heap.size 21 (B + 1) ([123] ++ seqT [44, 32] (fun i => entT (K i) (lv i) (Vs i)) ps.length ++ [125]) wr := fun w' hs => prints_pobj (hR2.same hs (by omega) hRlt) (hG2.same hs (by omega) hGlt) (by omega) (by omega) (fun i hi => (((hM.out i hi).wide (by omega) (Nat.le_refl _)).same hs).prt)
      rw [hpl'] at hFin
      have HFin := Lib.hid hFin
      clear hsm hM hG0 hG2 hG hpl hpl' hR hR2 hP hFin
      go_wp2_with fail
      go_ret
      exact ⟨B + 1, rfl, by (have := HB.out; omega), hRlt, by rw [HB.out]; exact HFin.out, by first | exact hb | (rw [HB.out]; exact hb)⟩
end Go.Proofs.YtkabnbopakfknaaDoor
