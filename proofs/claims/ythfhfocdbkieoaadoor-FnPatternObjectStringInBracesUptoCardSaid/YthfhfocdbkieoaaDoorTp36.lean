/- The law's builder of patterns (printed by wip/tools/gen_tp36.py). -/
import Derived.Test.YthfhfocdbkieoaaDoorTo36
import Derived.Test.YthfhfocdbkieoaaDoorSlKit
import Derived.Deep.RegionHeld3
namespace Go.Proofs.YthfhfocdbkieoaaDoor
open Go.RowKit
set_option linter.unusedVariables false

def ptr (q : Nat) : Value := .pointer (some ⟨q, 0, none⟩)
/-- What a builder of a node leaves. -/
def MkE (f : FuncId) (T : List UInt8) (w : World) (e : Ending) (w' : World) : Prop :=
  ∃ p : Nat, e = .returned (.pointer (some ⟨p, 0, none⟩)) ∧ w.heap.size ≤ p ∧ p < w'.heap.size ∧ MadeP w.heap.size w'.heap.size f p T w' ∧ Below w.heap.size w w'
theorem mkP_E (T : List UInt8) (w : World) (e : Ending) (w' : World) (h : MkE 25 T w e w') : MkP T w e w' := h
/-- A run of nodes, made behind block R: none, or a block of pointers to them. -/
def SeqOk (f : FuncId) (t : TypeId) (R hi : Nat) (v : Value) (l : Nat) (Ts : Nat → List UInt8) (w : World) : Prop :=
  (l = 0 ∧ v = .slice none 0 0) ∨ (0 < l ∧ ∃ (G : Nat) (ps : List Nat), v = .slice (some ⟨G, 0, none⟩) l l ∧ R < G ∧ G < hi ∧ ps.length = l ∧ Nd G t (ps.map ptr).toArray w ∧ ∀ j (h : j < ps.length), MadeP (R + 1) hi f ps[j] (Ts j) w)
theorem SeqOk.same {f : FuncId} {t : TypeId} {R hi l : Nat} {v : Value} {Ts : Nat → List UInt8} {w w' : World} (h : SeqOk f t R hi v l Ts w) (k : Same (R + 1) hi w w') : SeqOk f t R hi v l Ts w' :=
  h.imp_right fun ⟨h0, G, ps, h1, h2, h3, h4, h5, h6⟩ => ⟨h0, G, ps, h1, h2, h3, h4, h5.same k (by omega) h3, fun j hj => (h6 j hj).same k⟩
theorem SeqOk.wide {f : FuncId} {t : TypeId} {R hi hi' l : Nat} {v : Value} {Ts : Nat → List UInt8} {w : World} (h : SeqOk f t R hi v l Ts w) (k : hi ≤ hi') : SeqOk f t R hi' v l Ts w :=
  h.imp_right fun ⟨h0, G, ps, h1, h2, h3, h4, h5, h6⟩ => ⟨h0, G, ps, h1, h2, by omega, h4, h5, fun j hj => (h6 j hj).wide (Nat.le_refl _) k⟩
/-- A pattern's text. -/
def patT (nm : ByteArray) (l : Nat) (Ts : Nat → List UInt8) (l' : Nat) (Us : Nat → List UInt8) : List UInt8 :=
  if nm.size ≠ 0 then nm.data.toList else if 0 < l then [91] ++ seqT [44, 32] Ts l ++ [93] else if 0 < l' then [123] ++ seqT [44, 32] Us l' ++ [125] else []
theorem empty_str {s : ByteArray} (h : s.size = 0) : s = ⟨#[]⟩ := by
  apply ByteArray.ext
  exact Array.eq_empty_of_size_eq_zero h
theorem fin_pat {nm : ByteArray} {va vo : Value} {l l' R lo hi : Nat} {Ts Us : Nat → List UInt8} {w : World} (hR : Nd R 48 #[.string nm, va, vo] w) (hA : SeqOk 25 40 R hi va l Ts w) (hO : SeqOk 24 35 R hi vo l' Us w)
    (h1 : lo ≤ R) (h2 : R < hi) (hl : l ≤ 1048576) (hl' : l' ≤ 1048576) : MadeP lo hi 25 R (patT nm l Ts l' Us) w := by
  intro w' hs
  have hR' := hR.same hs h1 h2
  have hA' := hA.same (hs.mono (by omega) (Nat.le_refl _))
  have hO' := hO.same (hs.mono (by omega) (Nat.le_refl _))
  unfold patT
  by_cases hn : nm.size = 0
  · rw [if_neg (fun h => h hn)]
    rw [empty_str hn] at hR'
    rcases hA' with ⟨rfl, rfl⟩ | ⟨h0, G, ps, rfl, _, _, rfl, hg, hq⟩
    · rw [if_neg (by omega)]
      rcases hO' with ⟨rfl, rfl⟩ | ⟨h0, G, ps, rfl, _, _, rfl, hg, hq⟩
      · rw [if_neg (by omega)]
        exact prints_pat_nil hR'
      · rw [if_pos h0]
        exact prints_pobj hR' hg hl' h0 (fun i hi => (hq i hi).prt)
    · rw [if_pos h0]
      exact prints_parr hR' hg hl h0 (fun i hi => (hq i hi).prt)
  · rw [if_pos hn]
    exact prints_pat_name hR' hn
/-- While a run of nodes is made. -/
def TRel (f : FuncId) (t : TypeId) (l G R P0 : Nat) (pc rc : Array Value) (Ts : Nat → List UInt8) (B : Nat) (w WA : World) (vi : Value) (wr : World) : Prop :=
  ∃ (i : Nat) (ps : List Nat), i ≤ l ∧ vi = .int .i64 i ∧ Hid (ps.length = i) ∧ Hid (Nd G t (ps.map ptr ++ List.replicate (l - i) (Value.pointer none)).toArray wr) ∧ Hid (Nd P0 62 pc wr) ∧ Hid (Nd R 48 rc wr) ∧
    Hid (∀ j (h : j < ps.length), MadeP (G + 1) wr.heap.size f ps[j] (Ts j) wr) ∧ Hid (Same (R + 1) G WA wr) ∧ Below B w wr
def ElR (f : FuncId) (T : List UInt8) (R c : Nat) (v : Value) (G i : Nat) (wr : World) (e : Ending) (W : World) : Prop :=
  ∃ p : Nat, e = .returned (.pointer (some ⟨p, 0, none⟩)) ∧ W.cell? ⟨R, c, none⟩ = some v ∧ W.cell? ⟨G, i, none⟩ = some (.pointer none) ∧ W.frozen? ⟨G, i, none⟩ = false ∧
    Hid (wr.heap.size ≤ p ∧ p < W.heap.size ∧ MadeP wr.heap.size W.heap.size f p T W) ∧ Hid (Below wr.heap.size wr W)
theorem elR {f F : FuncId} {args : Array Value} {T : List UInt8} {R c G i : Nat} {v : Value} {t t2 : TypeId} {rc C : Array Value} {wr : World} (h : Calls Tryd.prog F args wr.drew (MkE f T wr.drew)) (hR : Nd R t2 rc wr) (hr : rc[c]? = some v) (hG : Nd G t C wr) (hc : C[i]? = some (.pointer none)) :
    Calls Tryd.prog F args wr.drew (ElR f T R c v G i wr) := by
  refine h.mono ?_
  rintro e W ⟨p, rfl, h1, h2, hM, hb⟩
  have hb' : Below wr.heap.size wr W := ⟨hb.os, hb.tape, hb.output, hb.size, hb.block⟩
  exact ⟨p, rfl, (hR.below hb' hR.lt).cell c hr, (hG.below hb' hG.lt).cell i hc, (hG.below hb' hG.lt).free i, Lib.hid ⟨h1, h2, hM⟩, Lib.hid hb'⟩
theorem keep_set {W : World} {G k R o : Nat} {v u : Value} (h : W.cell? ⟨R, o, none⟩ = some v) (hne : R ≠ G) : (W.setCell ⟨G, k, none⟩ u).cell? ⟨R, o, none⟩ = some v := by
  rw [← h]; unfold World.cell?; simp only; rw [heap_setCell_ne hne]
theorem ptrs_get (ps : List Nat) (i l : Nat) (hp : ps.length = i) (h : i < l) : (ps.map ptr ++ List.replicate (l - i) (Value.pointer none)).toArray[i]? = some (.pointer none) := by
  have hk : (ps.map ptr).length = i := by rw [List.length_map, hp]
  rw [List.getElem?_toArray, List.getElem?_append_right (by omega), hk, Nat.sub_self, List.getElem?_replicate, if_pos (by omega)]
theorem ptrs_set (ps : List Nat) (i l p : Nat) (hp : ps.length = i) (h : i < l) : ((ps.map ptr ++ List.replicate (l - i) (Value.pointer none)).toArray.setIfInBounds i (ptr p)) = ((ps ++ [p]).map ptr ++ List.replicate (l - (i + 1)) (Value.pointer none)).toArray := by
  have hk : (ps.map ptr).length = i := by rw [List.length_map, hp]
  apply Array.ext'
  simp only [Array.toList_setIfInBounds]
  have e : l - i = (l - (i + 1)) + 1 := by omega
  rw [e, List.replicate_succ, List.map_append]
  conv => lhs; rw [List.set_append_right _ _ (by omega), hk, Nat.sub_self]
  rw [List.set_cons_zero, List.append_assoc]
  rfl
/-- The arguments: the elements of a slice of structs, each of which can be built. -/
def EIn (F f : FuncId) (c : Nat) (a : Option Addr) (l : Nat) (Ts : Nat → List UInt8) (w : World) : Prop :=
  ∀ i, i < l → ∃ g o, a = some ⟨g, o, none⟩ ∧ ∃ es : List Value, es.length = c ∧ (∀ j, j < c → w.cell? ⟨g, o + i * c + j, none⟩ = es[j]?) ∧ ∀ W, Below w.heap.size w W → Calls Tryd.prog F #[.agg es.toArray] W (MkE f (Ts i) W)
theorem list3 (es : List Value) (h : es.length = 3) : ∃ e0 e1 e2, es = [e0, e1, e2] := by
  match es, h with
  | [a, b, c], _ => exact ⟨a, b, c, rfl⟩
theorem list4 (es : List Value) (h : es.length = 4) : ∃ e0 e1 e2 e3, es = [e0, e1, e2, e3] := by
  match es, h with
  | [a, b, c, d], _ => exact ⟨a, b, c, d, rfl⟩
theorem info_p : (Tryd.prog.info? 40).map (fun i => (i.zero, i.size, decide (i.bytes ≤ 16))) = some (some (Value.pointer none), 1, true) := by kernel_rfl
theorem info_o : (Tryd.prog.info? 35).map (fun i => (i.zero, i.size, decide (i.bytes ≤ 16))) = some (some (Value.pointer none), 1, true) := by kernel_rfl
set_option maxHeartbeats 1000000 in
set_option maxRecDepth 100000 in
theorem toPat_any (nm : ByteArray) (a a' : Option Addr) (l c l' c' : Nat) (Ts Us : Nat → List UInt8) (w : World) (hl : l ≤ 1048576) (hl' : l' ≤ 1048576) (hE : EIn 22 25 3 a l Ts w) (hO : EIn 12 24 4 a' l' Us w) :
    Calls Tryd.prog 22 #[.agg #[.string nm, .slice a l c, .slice a' l' c']] w (MkE 25 (patT nm l Ts l' Us) w) := by
  have HE := Lib.hid hE
  have HO := Lib.hid hO
  have hmk1 := fun W => run_mkE info_p Tryd.underlying46 rfl l hl W
  have hmk2 := fun W => run_mkE info_o Tryd.underlying45 rfl l' hl' W
  clear hE hO
  obtain ⟨B, hB⟩ : ∃ B, w.heap.size = B := ⟨_, rfl⟩
  by_cases hp1 : 0 < l
  · go_enter Tryd.func22, Tryd.ntmps22
    go_wp2_with fail
    obtain ⟨WA, hWA⟩ : ∃ W, W = ((w.alloc (.cells #[.string nm, .slice a l c, .slice a' l' c'] 62)).alloc (.cells #[.string nm, .slice (some ⟨B + 1 + 1, 0, none⟩) l l, .slice none 0 0] 48)).alloc (.cells (Array.replicate l (Value.pointer none)) 40) := ⟨_, rfl⟩
    have z1 : (w.alloc (.cells #[.string nm, .slice a l c, .slice a' l' c'] 62)).heap.size = B + 1 := by rw [size_alloc, hB]
    have z2 : ((w.alloc (.cells #[.string nm, .slice a l c, .slice a' l' c'] 62)).alloc (.cells #[.string nm, .slice (some ⟨B + 1 + 1, 0, none⟩) l l, .slice none 0 0] 48)).heap.size = B + 1 + 1 := by rw [size_alloc, z1]
    have hP : Nd B 62 #[.string nm, .slice a l c, .slice a' l' c'] WA := by rw [hWA]; exact ((Nd.newAt _ _ hB.symm).alloc _).alloc _
    have hR : Nd (B + 1) 48 #[.string nm, .slice (some ⟨B + 1 + 1, 0, none⟩) l l, .slice none 0 0] WA := by rw [hWA]; exact (Nd.newAt _ _ z1.symm).alloc _
    have hG : Nd (B + 1 + 1) 40 ((([] : List Nat).map ptr) ++ List.replicate (l - 0) (Value.pointer none)).toArray WA := by rw [hWA]; exact Eq.mpr (by simp [Nd]) (Nd.newAt (w := ((w.alloc (.cells #[.string nm, .slice a l c, .slice a' l' c'] 62)).alloc (.cells #[.string nm, .slice (some ⟨B + 1 + 1, 0, none⟩) l l, .slice none 0 0] 48))) 40 (Array.replicate l (Value.pointer none)) z2.symm)
    have hb : Below B w WA := by rw [hWA, ← hB]; exact (((Below.refl _ _).alloc (Nat.le_refl _) _).alloc (by simp) _).alloc (by rw [size_alloc, size_alloc]; omega) _
    have hsm : Same (B + 1 + 1) (B + 1 + 1) WA WA := Same.refl _ _ _
    rw [← hWA]
    have HB := Lib.hid hB
    obtain ⟨G, hGe⟩ : ∃ G, G = B + 1 + 1 := ⟨_, rfl⟩
    have HRG : Hid (B + 1 < G) := Lib.hid (by omega)
    have hsm : Same (B + 1 + 1) G WA WA := Same.refl _ _ _
    rw [← hGe] at hR hG ⊢
    obtain ⟨PC, hPCe⟩ : ∃ PC : Array Value, PC = #[.string nm, .slice a l c, .slice a' l' c'] := ⟨_, rfl⟩
    obtain ⟨RC, hRCe⟩ : ∃ RC : Array Value, RC = #[.string nm, .slice (some ⟨G, 0, none⟩) l l, .slice none 0 0] := ⟨_, rfl⟩
    have hPC : PC[1]? = some (.slice a l c) := by rw [hPCe]; rfl
    have hRC : RC[1]? = some (.slice (some ⟨G, 0, none⟩) l l) := by rw [hRCe]; rfl
    have HPC := Lib.hid hPCe
    have HRC := Lib.hid hRCe
    rw [← hPCe] at hP
    rw [← hRCe] at hR
    clear hWA z1 z2 hB hGe hPCe hRCe hmk1
    go_loopw [4] (TRel 25 40 l G (B + 1) B PC RC Ts B w WA) (fun i _ => l - (intOf i).toNat)
    case atStart => exact ⟨0, [], Nat.zero_le _, rfl, rfl, Lib.hid hG, Lib.hid hP, Lib.hid hR, Lib.hid (fun j h => by simp at h), Lib.hid hsm, hb⟩
    case round =>
      clear hG hP hR hsm hb
      obtain ⟨i, ps, hi, rfl, hpl, hG, hP, hR, hM, hsm, hb⟩ := hrel
      by_cases hlt : i < l
      · obtain ⟨g, o, ha, es, hel, hcell, hcall⟩ := HE.out i hlt
        subst ha
        obtain ⟨e0, e1, e2, rfl⟩ := list3 es hel
        clear hel
        have hgl := World.block_lt_of_cell? w _ (hcell 0 (by omega))
        simp only at hgl
        have hb' := hb
        rw [← HB.out] at hb'
        have d0 := (hb.cell (p := ⟨g, o + i * 3, none⟩) (by rw [← HB.out]; exact hgl)).trans (hcell 0 (by omega))
        have d1 := (hb.cell (p := ⟨g, o + i * 3 + 1, none⟩) (by rw [← HB.out]; exact hgl)).trans (hcell 1 (by omega))
        have d2 := (hb.cell (p := ⟨g, o + i * 3 + 2, none⟩) (by rw [← HB.out]; exact hgl)).trans (hcell 2 (by omega))
        have q1 := hP.out.cell 1 hPC
        have r1 := hR.out.cell 1 hRC
        have hGl := hG.out.lt
        have hc0 := ptrs_get ps i l hpl.out hlt
        have HC := Lib.hid (elR (R := B + 1) (c := 1) (G := G) (i := i) (hcall wr.drew hb'.drew) hR.out hRC hG.out hc0)
        have hRG : B + 1 ≠ G := by have := HRG.out; omega
        have HB' := Lib.hid hb'
        have hBl : B < wr.heap.size := hP.out.lt
        have hgl2 : g < wr.heap.size := Nat.lt_of_lt_of_le hgl hb.size
        have hBG : B ≠ G := by have := HRG.out; omega
        have hgG : g ≠ G := by have := HRG.out; have := HB.out; omega
        clear hc0 hcall hcell hb'
        go_wp2_with fail
        go_region_held3 (fun W => W.cell? ⟨B + 1, 1, none⟩ = some (.slice (some ⟨G, 0, none⟩) l l) ∧ W.cell? ⟨B, 1, none⟩ = some (.slice (some ⟨g, o, none⟩) l c) ∧ W.cell? ⟨g, o + i * 3, none⟩ = some e0 ∧ W.cell? ⟨g, o + i * 3 + 1, none⟩ = some e1 ∧ W.cell? ⟨g, o + i * 3 + 2, none⟩ = some e2) (first | go_keep | exact ⟨keep_set r1' hRG, keep_set q1' hBG, keep_set d0' hgG, keep_set d1' hgG, keep_set d2' hgG⟩)
          (first | (go_at_call 22; refine HC.out.mono ?_; rintro e W1 ⟨p, rfl, r1', cg1, fg1, hM1, hb1⟩; have q1' := (hb1.out.cell (p := ⟨B, 1, none⟩) hBl).trans q1; have d0' := (hb1.out.cell (p := ⟨g, o + i * 3, none⟩) hgl2).trans d0; have d1' := (hb1.out.cell (p := ⟨g, o + i * 3 + 1, none⟩) hgl2).trans d1; have d2' := (hb1.out.cell (p := ⟨g, o + i * 3 + 2, none⟩) hgl2).trans d2))
        have hb1' := hb1.out
        have hsz1 := hb1'.size
        go_wp2_with fail
        go_roundw
        case rel =>
          obtain ⟨hp1', hp2', hM2⟩ := hM1.out
          have hRl := hR.out.lt
          have hPl := hP.out.lt
          have hGR := HRG.out
          have hq := hpl.out
          have sm : ∀ lo hi, (G < lo ∨ hi ≤ G) → Same lo hi W1 (W1.setCell ⟨G, i, none⟩ (.pointer (some ⟨p, 0, none⟩))) := fun lo hi h => (Same.refl _ _ _).setCell h.symm.symm _
          have hN := (hG.out.below hb1' hGl).set i (.pointer (some ⟨p, 0, none⟩))
          rw [show (Value.pointer (some ⟨p, 0, none⟩)) = ptr p from rfl, ptrs_set ps i l p hq hlt] at hN
          refine ⟨i + 1, ps ++ [p], by omega, by go_num, Lib.hid (by rw [List.length_append, hq]; rfl), Lib.hid hN, Lib.hid ((hP.out.below hb1' hPl).setNe (by omega) _), Lib.hid ((hR.out.below hb1' hRl).setNe hRG _), Lib.hid ?_, Lib.hid (hsm.out.trans ((Same.below hb1' (by omega)).trans (sm _ _ (.inr (Nat.le_refl _))))), (hb.trans (hb1'.mono (by omega))).setCell (p := ⟨G, i, none⟩) (by show B ≤ G; omega) _⟩
          intro j hj
          rw [size_setCell]
          by_cases hji : j < ps.length
          · rw [List.getElem_append_left hji]
            exact (((hM.out j hji).same (Same.below hb1' (Nat.le_refl _))).wide (Nat.le_refl _) hsz1).same (sm _ _ (.inl (by omega)))
          · have hjl : j = ps.length := by simp at hj; omega
            subst hjl
            rw [List.getElem_append_right (Nat.le_refl _)]
            simp only [Nat.sub_self, List.getElem_cons_zero]
            rw [hq]
            exact (hM2.wide (by omega) (Nat.le_refl _)).same (sm _ _ (.inl (by omega)))
        case measure => simp [intOf]; omega
      · obtain rfl : i = l := by omega
        have hG0 := hG.out
        rw [Nat.sub_self] at hG0
        have hG2 : Nd G 40 (ps.map ptr).toArray wr := by simpa using hG0
        have SK : SeqOk 25 40 (B + 1) wr.heap.size (.slice (some ⟨G, 0, none⟩) i i) i Ts wr := .inr ⟨hp1, G, ps, rfl, HRG.out, hG2.lt, hpl.out, hG2, fun j hj => (hM.out j hj).wide (by have := HRG.out; omega) (Nat.le_refl _)⟩
        clear hsm hM hG0 hG2 hG hpl
        obtain ⟨WA, hWA⟩ : ∃ WA, WA = wr := ⟨_, rfl⟩
        replace hP := hP.out
        replace hR := hR.out
        rw [HPC.out] at hP
        rw [HRC.out] at hR
        rw [← hWA] at hP hR hb SK ⊢
        obtain ⟨VA, hVA⟩ : ∃ V : Value, V = .slice (some ⟨G, 0, none⟩) i i := ⟨_, rfl⟩
        rw [← hVA] at hR SK ⊢
        clear hVA
        have SA := SK
        clear SK hWA hPC hRC
        have hRl := hR.lt
        have SA2 := Lib.hid SA
        have r2 := hR.cell 2 rfl
        have s2 := hR.free 2
        have q1 := hP.cell 1 rfl
        have q2 := hP.cell 2 rfl
        simp only [List.getElem_toArray, List.getElem_cons_succ, List.getElem_cons_zero] at r2 q1 q2
        clear SA
        by_cases hp2 : 0 < l'
        · go_wp2_with fail
          go_outline
          clear r2 s2 q1 q2
          obtain ⟨WB, hWB⟩ : ∃ W, W = (WA.setCell ⟨B + 1, 2, none⟩ (.slice (some ⟨WA.heap.size, 0, none⟩) l' l')).alloc (.cells (Array.replicate l' (Value.pointer none)) 35) := ⟨_, rfl⟩
          have hP2 : Nd B 62 #[.string nm, .slice a i c, .slice a' l' c'] WB := by rw [hWB]; exact (hP.setNe (by omega) _).alloc _
          have hR2 : Nd (B + 1) 48 #[.string nm, VA, .slice (some ⟨WA.heap.size, 0, none⟩) l' l'] WB := by rw [hWB]; exact (hR.set 2 _).alloc _
          have hG : Nd WA.heap.size 35 ((([] : List Nat).map ptr) ++ List.replicate (l' - 0) (Value.pointer none)).toArray WB := by rw [hWB]; exact Eq.mpr (by simp [Nd]) (Nd.newAt (w := WA.setCell ⟨B + 1, 2, none⟩ (.slice (some ⟨WA.heap.size, 0, none⟩) l' l')) 35 (Array.replicate l' (Value.pointer none)) (size_setCell _ _ _).symm)
          have hb2 : Below B w WB := by rw [hWB]; exact (hb.setCell (p := ⟨B + 1, 2, none⟩) (by show B ≤ B + 1; omega) _).alloc (by rw [size_setCell]; omega) _
          have SA22 := Lib.hid (SA2.out.same (w' := WB) (by rw [hWB]; exact (Same.refl _ _ _).setCell (.inl (by omega)) _ |>.trans (Same.below ((Below.refl (WA.setCell ⟨B + 1, 2, none⟩ (.slice (some ⟨WA.heap.size, 0, none⟩) l' l')).heap.size _).alloc (Nat.le_refl _) _) (by rw [size_setCell]; exact Nat.le_refl _))))
          rw [← hWB]
          clear hWB hP hR hb SA2
          have hP := hP2
          have hR := hR2
          have hb := hb2
          have SA2 := SA22
          clear hP2 hR2 hb2 SA22
          obtain ⟨G, hGe⟩ : ∃ G, G = WA.heap.size := ⟨_, rfl⟩
          rw [← hGe] at hR hG hRl SA2 ⊢
          clear hGe
          obtain ⟨WA, hWA⟩ : ∃ WA, WA = WB := ⟨_, rfl⟩
          rw [← hWA] at hP hR hb hG SA2 ⊢
          clear hWA
          have HRG : Hid (B + 1 < G) := Lib.hid (by omega)
          have hsm : Same (B + 1 + 1) G WA WA := Same.refl _ _ _
          obtain ⟨PC, hPCe⟩ : ∃ PC : Array Value, PC = #[.string nm, .slice a i c, .slice a' l' c'] := ⟨_, rfl⟩
          obtain ⟨RC, hRCe⟩ : ∃ RC : Array Value, RC = #[.string nm, VA, .slice (some ⟨G, 0, none⟩) l' l'] := ⟨_, rfl⟩
          have hPC : PC[2]? = some (.slice a' l' c') := by rw [hPCe]; rfl
          have hRC : RC[2]? = some (.slice (some ⟨G, 0, none⟩) l' l') := by rw [hRCe]; rfl
          have HPC := Lib.hid hPCe
          have HRC := Lib.hid hRCe
          rw [← hPCe] at hP
          rw [← hRCe] at hR
          clear hPCe hRCe hmk2
          go_loopw [5] (TRel 24 35 l' G (B + 1) B PC RC Us B w WA) (fun i _ => l' - (intOf i).toNat)
          case atStart => exact ⟨0, [], Nat.zero_le _, rfl, rfl, Lib.hid hG, Lib.hid hP, Lib.hid hR, Lib.hid (fun j h => by simp at h), Lib.hid hsm, hb⟩
          case round =>
            clear hG hP hR hsm hb
            obtain ⟨i, ps, hi, rfl, hpl, hG, hP, hR, hM, hsm, hb⟩ := hrel
            by_cases hlt : i < l'
            · obtain ⟨g, o, ha, es, hel, hcell, hcall⟩ := HO.out i hlt
              subst ha
              obtain ⟨e0, e1, e2, e3, rfl⟩ := list4 es hel
              clear hel
              have hgl := World.block_lt_of_cell? w _ (hcell 0 (by omega))
              simp only at hgl
              have hb' := hb
              rw [← HB.out] at hb'
              have d0 := (hb.cell (p := ⟨g, o + i * 4, none⟩) (by rw [← HB.out]; exact hgl)).trans (hcell 0 (by omega))
              have d1 := (hb.cell (p := ⟨g, o + i * 4 + 1, none⟩) (by rw [← HB.out]; exact hgl)).trans (hcell 1 (by omega))
              have d2 := (hb.cell (p := ⟨g, o + i * 4 + 2, none⟩) (by rw [← HB.out]; exact hgl)).trans (hcell 2 (by omega))
              have d3 := (hb.cell (p := ⟨g, o + i * 4 + 3, none⟩) (by rw [← HB.out]; exact hgl)).trans (hcell 3 (by omega))
              have q1 := hP.out.cell 2 hPC
              have r1 := hR.out.cell 2 hRC
              have hGl := hG.out.lt
              have hc0 := ptrs_get ps i l' hpl.out hlt
              have HC := Lib.hid (elR (R := B + 1) (c := 2) (G := G) (i := i) (hcall wr.drew hb'.drew) hR.out hRC hG.out hc0)
              have hRG : B + 1 ≠ G := by have := HRG.out; omega
              have HB' := Lib.hid hb'
              have hBl : B < wr.heap.size := hP.out.lt
              have hgl2 : g < wr.heap.size := Nat.lt_of_lt_of_le hgl hb.size
              have hBG : B ≠ G := by have := HRG.out; omega
              have hgG : g ≠ G := by have := HRG.out; have := HB.out; omega
              clear hc0 hcall hcell hb'
              go_wp2_with fail
              go_region_held3 (fun W => W.cell? ⟨B + 1, 2, none⟩ = some (.slice (some ⟨G, 0, none⟩) l' l') ∧ W.cell? ⟨B, 2, none⟩ = some (.slice (some ⟨g, o, none⟩) l' c') ∧ W.cell? ⟨g, o + i * 4, none⟩ = some e0 ∧ W.cell? ⟨g, o + i * 4 + 1, none⟩ = some e1 ∧ W.cell? ⟨g, o + i * 4 + 2, none⟩ = some e2 ∧ W.cell? ⟨g, o + i * 4 + 3, none⟩ = some e3) (first | go_keep | exact ⟨keep_set r1' hRG, keep_set q1' hBG, keep_set d0' hgG, keep_set d1' hgG, keep_set d2' hgG, keep_set d3' hgG⟩)
                (first | (go_at_call 12; refine HC.out.mono ?_; rintro e W1 ⟨p, rfl, r1', cg1, fg1, hM1, hb1⟩; have q1' := (hb1.out.cell (p := ⟨B, 2, none⟩) hBl).trans q1; have d0' := (hb1.out.cell (p := ⟨g, o + i * 4, none⟩) hgl2).trans d0; have d1' := (hb1.out.cell (p := ⟨g, o + i * 4 + 1, none⟩) hgl2).trans d1; have d2' := (hb1.out.cell (p := ⟨g, o + i * 4 + 2, none⟩) hgl2).trans d2; have d3' := (hb1.out.cell (p := ⟨g, o + i * 4 + 3, none⟩) hgl2).trans d3))
              have hb1' := hb1.out
              have hsz1 := hb1'.size
              go_wp2_with fail
              go_roundw
              case rel =>
                obtain ⟨hp1', hp2', hM2⟩ := hM1.out
                have hRl := hR.out.lt
                have hPl := hP.out.lt
                have hGR := HRG.out
                have hq := hpl.out
                have sm : ∀ lo hi, (G < lo ∨ hi ≤ G) → Same lo hi W1 (W1.setCell ⟨G, i, none⟩ (.pointer (some ⟨p, 0, none⟩))) := fun lo hi h => (Same.refl _ _ _).setCell h.symm.symm _
                have hN := (hG.out.below hb1' hGl).set i (.pointer (some ⟨p, 0, none⟩))
                rw [show (Value.pointer (some ⟨p, 0, none⟩)) = ptr p from rfl, ptrs_set ps i l' p hq hlt] at hN
                refine ⟨i + 1, ps ++ [p], by omega, by go_num, Lib.hid (by rw [List.length_append, hq]; rfl), Lib.hid hN, Lib.hid ((hP.out.below hb1' hPl).setNe (by omega) _), Lib.hid ((hR.out.below hb1' hRl).setNe hRG _), Lib.hid ?_, Lib.hid (hsm.out.trans ((Same.below hb1' (by omega)).trans (sm _ _ (.inr (Nat.le_refl _))))), (hb.trans (hb1'.mono (by omega))).setCell (p := ⟨G, i, none⟩) (by show B ≤ G; omega) _⟩
                intro j hj
                rw [size_setCell]
                by_cases hji : j < ps.length
                · rw [List.getElem_append_left hji]
                  exact (((hM.out j hji).same (Same.below hb1' (Nat.le_refl _))).wide (Nat.le_refl _) hsz1).same (sm _ _ (.inl (by omega)))
                · have hjl : j = ps.length := by simp at hj; omega
                  subst hjl
                  rw [List.getElem_append_right (Nat.le_refl _)]
                  simp only [Nat.sub_self, List.getElem_cons_zero]
                  rw [hq]
                  exact (hM2.wide (by omega) (Nat.le_refl _)).same (sm _ _ (.inl (by omega)))
              case measure => simp [intOf]; omega
            · obtain rfl : i = l' := by omega
              have hG0 := hG.out
              rw [Nat.sub_self] at hG0
              have hG2 : Nd G 35 (ps.map ptr).toArray wr := by simpa using hG0
              have SK : SeqOk 24 35 (B + 1) wr.heap.size (.slice (some ⟨G, 0, none⟩) i i) i Us wr := .inr ⟨hp2, G, ps, rfl, HRG.out, hG2.lt, hpl.out, hG2, fun j hj => (hM.out j hj).wide (by have := HRG.out; omega) (Nat.le_refl _)⟩
              clear hM hG0 hG2
              have hGl := hG.out.lt
              have SB := Lib.hid SK
              have SA3 := Lib.hid ((SA2.out.same hsm.out).wide (hi' := wr.heap.size) (by omega))
              clear hsm hG hpl SK hGl
              have hP := hP.out
              have hR := hR.out
              rw [HPC.out] at hP
              rw [HRC.out] at hR
              clear hPC hRC
              have hRl := hR.lt
              have q1 := hP.cell 1 rfl
              have q2 := hP.cell 2 rfl
              simp only [List.getElem_toArray, List.getElem_cons_succ, List.getElem_cons_zero] at q1 q2
              go_wp2_with fail
              go_ret
              exact ⟨B + 1, rfl, by (have := HB.out; omega), hR.lt, fin_pat hR SA3.out SB.out (by have := HB.out; omega) hR.lt (by omega) (by omega), by rw [HB.out]; exact hb⟩
        · obtain rfl : l' = 0 := by omega
          clear r2 s2
          go_wp2_with fail
          go_ret
          exact ⟨B + 1, rfl, by (have := HB.out; omega), hR.lt, fin_pat hR SA2.out (.inl ⟨rfl, rfl⟩) (by have := HB.out; omega) hR.lt (by omega) (by omega), by rw [HB.out]; exact hb⟩
  · obtain rfl : l = 0 := by omega
    by_cases hp2 : 0 < l'
    · go_enter Tryd.func22, Tryd.ntmps22
      go_wp2_with fail
      obtain ⟨WA, hWA⟩ : ∃ W, W = ((w.alloc (.cells #[.string nm, .slice a 0 c, .slice a' l' c'] 62)).alloc (.cells #[.string nm, .slice none 0 0, .slice (some ⟨B + 1 + 1, 0, none⟩) l' l'] 48)).alloc (.cells (Array.replicate l' (Value.pointer none)) 35) := ⟨_, rfl⟩
      have z1 : (w.alloc (.cells #[.string nm, .slice a 0 c, .slice a' l' c'] 62)).heap.size = B + 1 := by rw [size_alloc, hB]
      have z2 : ((w.alloc (.cells #[.string nm, .slice a 0 c, .slice a' l' c'] 62)).alloc (.cells #[.string nm, .slice none 0 0, .slice (some ⟨B + 1 + 1, 0, none⟩) l' l'] 48)).heap.size = B + 1 + 1 := by rw [size_alloc, z1]
      have hP : Nd B 62 #[.string nm, .slice a 0 c, .slice a' l' c'] WA := by rw [hWA]; exact ((Nd.newAt _ _ hB.symm).alloc _).alloc _
      have hR : Nd (B + 1) 48 #[.string nm, .slice none 0 0, .slice (some ⟨B + 1 + 1, 0, none⟩) l' l'] WA := by rw [hWA]; exact (Nd.newAt _ _ z1.symm).alloc _
      have hG : Nd (B + 1 + 1) 35 ((([] : List Nat).map ptr) ++ List.replicate (l' - 0) (Value.pointer none)).toArray WA := by rw [hWA]; exact Eq.mpr (by simp [Nd]) (Nd.newAt (w := ((w.alloc (.cells #[.string nm, .slice a 0 c, .slice a' l' c'] 62)).alloc (.cells #[.string nm, .slice none 0 0, .slice (some ⟨B + 1 + 1, 0, none⟩) l' l'] 48))) 35 (Array.replicate l' (Value.pointer none)) z2.symm)
      have hb : Below B w WA := by rw [hWA, ← hB]; exact (((Below.refl _ _).alloc (Nat.le_refl _) _).alloc (by simp) _).alloc (by rw [size_alloc, size_alloc]; omega) _
      rw [← hWA]
      have HB := Lib.hid hB
      obtain ⟨G, hGe⟩ : ∃ G, G = B + 1 + 1 := ⟨_, rfl⟩
      have hRl : B + 1 < G := by omega
      rw [← hGe] at hR hG ⊢
      clear hWA z1 z2 hB hGe hmk1
      have SA2 : Hid (SeqOk 25 40 (B + 1) G (.slice none 0 0) 0 Ts WA) := Lib.hid (.inl ⟨rfl, rfl⟩)
      have HRG : Hid (B + 1 < G) := Lib.hid (by omega)
      have hsm : Same (B + 1 + 1) G WA WA := Same.refl _ _ _
      obtain ⟨PC, hPCe⟩ : ∃ PC : Array Value, PC = #[.string nm, .slice a 0 c, .slice a' l' c'] := ⟨_, rfl⟩
      obtain ⟨RC, hRCe⟩ : ∃ RC : Array Value, RC = #[.string nm, .slice none 0 0, .slice (some ⟨G, 0, none⟩) l' l'] := ⟨_, rfl⟩
      have hPC : PC[2]? = some (.slice a' l' c') := by rw [hPCe]; rfl
      have hRC : RC[2]? = some (.slice (some ⟨G, 0, none⟩) l' l') := by rw [hRCe]; rfl
      have HPC := Lib.hid hPCe
      have HRC := Lib.hid hRCe
      rw [← hPCe] at hP
      rw [← hRCe] at hR
      clear hPCe hRCe hmk2
      go_loopw [5] (TRel 24 35 l' G (B + 1) B PC RC Us B w WA) (fun i _ => l' - (intOf i).toNat)
      case atStart => exact ⟨0, [], Nat.zero_le _, rfl, rfl, Lib.hid hG, Lib.hid hP, Lib.hid hR, Lib.hid (fun j h => by simp at h), Lib.hid hsm, hb⟩
      case round =>
        clear hG hP hR hsm hb
        obtain ⟨i, ps, hi, rfl, hpl, hG, hP, hR, hM, hsm, hb⟩ := hrel
        by_cases hlt : i < l'
        · obtain ⟨g, o, ha, es, hel, hcell, hcall⟩ := HO.out i hlt
          subst ha
          obtain ⟨e0, e1, e2, e3, rfl⟩ := list4 es hel
          clear hel
          have hgl := World.block_lt_of_cell? w _ (hcell 0 (by omega))
          simp only at hgl
          have hb' := hb
          rw [← HB.out] at hb'
          have d0 := (hb.cell (p := ⟨g, o + i * 4, none⟩) (by rw [← HB.out]; exact hgl)).trans (hcell 0 (by omega))
          have d1 := (hb.cell (p := ⟨g, o + i * 4 + 1, none⟩) (by rw [← HB.out]; exact hgl)).trans (hcell 1 (by omega))
          have d2 := (hb.cell (p := ⟨g, o + i * 4 + 2, none⟩) (by rw [← HB.out]; exact hgl)).trans (hcell 2 (by omega))
          have d3 := (hb.cell (p := ⟨g, o + i * 4 + 3, none⟩) (by rw [← HB.out]; exact hgl)).trans (hcell 3 (by omega))
          have q1 := hP.out.cell 2 hPC
          have r1 := hR.out.cell 2 hRC
          have hGl := hG.out.lt
          have hc0 := ptrs_get ps i l' hpl.out hlt
          have HC := Lib.hid (elR (R := B + 1) (c := 2) (G := G) (i := i) (hcall wr.drew hb'.drew) hR.out hRC hG.out hc0)
          have hRG : B + 1 ≠ G := by have := HRG.out; omega
          have HB' := Lib.hid hb'
          have hBl : B < wr.heap.size := hP.out.lt
          have hgl2 : g < wr.heap.size := Nat.lt_of_lt_of_le hgl hb.size
          have hBG : B ≠ G := by have := HRG.out; omega
          have hgG : g ≠ G := by have := HRG.out; have := HB.out; omega
          clear hc0 hcall hcell hb'
          go_wp2_with fail
          go_region_held3 (fun W => W.cell? ⟨B + 1, 2, none⟩ = some (.slice (some ⟨G, 0, none⟩) l' l') ∧ W.cell? ⟨B, 2, none⟩ = some (.slice (some ⟨g, o, none⟩) l' c') ∧ W.cell? ⟨g, o + i * 4, none⟩ = some e0 ∧ W.cell? ⟨g, o + i * 4 + 1, none⟩ = some e1 ∧ W.cell? ⟨g, o + i * 4 + 2, none⟩ = some e2 ∧ W.cell? ⟨g, o + i * 4 + 3, none⟩ = some e3) (first | go_keep | exact ⟨keep_set r1' hRG, keep_set q1' hBG, keep_set d0' hgG, keep_set d1' hgG, keep_set d2' hgG, keep_set d3' hgG⟩)
            (first | (go_at_call 12; refine HC.out.mono ?_; rintro e W1 ⟨p, rfl, r1', cg1, fg1, hM1, hb1⟩; have q1' := (hb1.out.cell (p := ⟨B, 2, none⟩) hBl).trans q1; have d0' := (hb1.out.cell (p := ⟨g, o + i * 4, none⟩) hgl2).trans d0; have d1' := (hb1.out.cell (p := ⟨g, o + i * 4 + 1, none⟩) hgl2).trans d1; have d2' := (hb1.out.cell (p := ⟨g, o + i * 4 + 2, none⟩) hgl2).trans d2; have d3' := (hb1.out.cell (p := ⟨g, o + i * 4 + 3, none⟩) hgl2).trans d3))
          have hb1' := hb1.out
          have hsz1 := hb1'.size
          go_wp2_with fail
          go_roundw
          case rel =>
            obtain ⟨hp1', hp2', hM2⟩ := hM1.out
            have hRl := hR.out.lt
            have hPl := hP.out.lt
            have hGR := HRG.out
            have hq := hpl.out
            have sm : ∀ lo hi, (G < lo ∨ hi ≤ G) → Same lo hi W1 (W1.setCell ⟨G, i, none⟩ (.pointer (some ⟨p, 0, none⟩))) := fun lo hi h => (Same.refl _ _ _).setCell h.symm.symm _
            have hN := (hG.out.below hb1' hGl).set i (.pointer (some ⟨p, 0, none⟩))
            rw [show (Value.pointer (some ⟨p, 0, none⟩)) = ptr p from rfl, ptrs_set ps i l' p hq hlt] at hN
            refine ⟨i + 1, ps ++ [p], by omega, by go_num, Lib.hid (by rw [List.length_append, hq]; rfl), Lib.hid hN, Lib.hid ((hP.out.below hb1' hPl).setNe (by omega) _), Lib.hid ((hR.out.below hb1' hRl).setNe hRG _), Lib.hid ?_, Lib.hid (hsm.out.trans ((Same.below hb1' (by omega)).trans (sm _ _ (.inr (Nat.le_refl _))))), (hb.trans (hb1'.mono (by omega))).setCell (p := ⟨G, i, none⟩) (by show B ≤ G; omega) _⟩
            intro j hj
            rw [size_setCell]
            by_cases hji : j < ps.length
            · rw [List.getElem_append_left hji]
              exact (((hM.out j hji).same (Same.below hb1' (Nat.le_refl _))).wide (Nat.le_refl _) hsz1).same (sm _ _ (.inl (by omega)))
            · have hjl : j = ps.length := by simp at hj; omega
              subst hjl
              rw [List.getElem_append_right (Nat.le_refl _)]
              simp only [Nat.sub_self, List.getElem_cons_zero]
              rw [hq]
              exact (hM2.wide (by omega) (Nat.le_refl _)).same (sm _ _ (.inl (by omega)))
          case measure => simp [intOf]; omega
        · obtain rfl : i = l' := by omega
          have hG0 := hG.out
          rw [Nat.sub_self] at hG0
          have hG2 : Nd G 35 (ps.map ptr).toArray wr := by simpa using hG0
          have SK : SeqOk 24 35 (B + 1) wr.heap.size (.slice (some ⟨G, 0, none⟩) i i) i Us wr := .inr ⟨hp2, G, ps, rfl, HRG.out, hG2.lt, hpl.out, hG2, fun j hj => (hM.out j hj).wide (by have := HRG.out; omega) (Nat.le_refl _)⟩
          clear hM hG0 hG2
          have hGl := hG.out.lt
          have SB := Lib.hid SK
          have SA3 := Lib.hid ((SA2.out.same hsm.out).wide (hi' := wr.heap.size) (by omega))
          clear hsm hG hpl SK hGl
          have hP := hP.out
          have hR := hR.out
          rw [HPC.out] at hP
          rw [HRC.out] at hR
          clear hPC hRC
          have hRl := hR.lt
          have q1 := hP.cell 1 rfl
          have q2 := hP.cell 2 rfl
          simp only [List.getElem_toArray, List.getElem_cons_succ, List.getElem_cons_zero] at q1 q2
          go_wp2_with fail
          go_ret
          exact ⟨B + 1, rfl, by (have := HB.out; omega), hR.lt, fin_pat hR SA3.out SB.out (by have := HB.out; omega) hR.lt (by omega) (by omega), by rw [HB.out]; exact hb⟩
    · obtain rfl : l' = 0 := by omega
      go_enter Tryd.func22, Tryd.ntmps22
      go_wp2_with fail
      go_ret
      have z1 : (w.alloc (.cells #[.string nm, .slice a 0 c, .slice a' 0 c'] 62)).heap.size = B + 1 := by rw [size_alloc, hB]
      have hR : Nd (B + 1) 48 #[.string nm, .slice none 0 0, .slice none 0 0] ((w.alloc (.cells #[.string nm, .slice a 0 c, .slice a' 0 c'] 62)).alloc (.cells #[.string nm, .slice none 0 0, .slice none 0 0] 48)) := Nd.newAt _ _ z1.symm
      exact ⟨B + 1, rfl, by omega, hR.lt, fin_pat hR (.inl ⟨rfl, rfl⟩) (.inl ⟨rfl, rfl⟩) (by omega) hR.lt (by omega) (by omega), ((Below.refl _ _).alloc (Nat.le_refl _) _).alloc (by simp) _⟩
end Go.Proofs.YthfhfocdbkieoaaDoor
