/- The law FnConstObjectStringConcat. -/
import Derived.Test.YtbdjddgihnmemaaDoorLawA41
import Derived.Deep.QuietTactic
import Derived.BigQuiet
namespace Go.Proofs.YtbdjddgihnmemaaDoor
open Go.RowKit

theorem seqT_congr (sep : List UInt8) (T1 T2 : Nat → List UInt8) : ∀ n, (∀ i, i < n → T1 i = T2 i) → seqT sep T1 n = seqT sep T2 n := by
  intro n
  induction n with
  | zero => intro _; rfl
  | succ n ih => intro h; simp only [seqT]; rw [ih (fun i hi => h i (by omega)), h n (by omega)]
theorem seqT_cat (sep : List UInt8) (TT : Nat → List UInt8) (n : Nat) (hn : 0 < n) : ∀ m, 0 < m → seqT sep TT (n + m) = seqT sep TT n ++ sep ++ seqT sep (fun i => TT (n + i)) m := by
  intro m
  induction m with
  | zero => intro h; omega
  | succ m ih =>
    intro _
    by_cases h0 : m = 0
    · subst h0
      show seqT sep TT (n + 1) = _
      simp only [seqT]
      rw [if_neg (by omega)]
      simp
    · rw [show n + (m + 1) = (n + m) + 1 by omega]
      simp only [seqT]
      rw [ih (by omega), if_neg (by omega), if_neg h0]
      simp
/-- Two member lists, one behind the other. -/
def TAB (ka va kb vb : List ByteArray) (i : Nat) : List UInt8 := if i < ka.length then kvS ka va i else kvS kb vb (i - ka.length)
theorem objT_cat (ka va kb vb : List ByteArray) (h1 : 0 < ka.length) (h2 : 0 < kb.length) :
    objT (TAB ka va kb vb) (ka.length + kb.length) = [123, 32] ++ seqT [44, 32] (kvS ka va) ka.length ++ [44, 32] ++ seqT [44, 32] (kvS kb vb) kb.length ++ [32, 125] := by
  unfold objT
  rw [if_neg (by omega), seqT_cat _ _ _ h1 _ h2, seqT_congr _ (TAB ka va kb vb) (kvS ka va) ka.length (fun i hi => by unfold TAB; rw [if_pos hi]),
    seqT_congr _ (fun i => TAB ka va kb vb (ka.length + i)) (kvS kb vb) kb.length (fun i hi => by unfold TAB; rw [if_neg (by omega)]; congr 1; omega)]
  simp
theorem objT_A (ka va kb vb : List ByteArray) (h2 : kb.length = 0) : objT (TAB ka va kb vb) (ka.length + kb.length) = objT (kvS ka va) ka.length := by
  rw [h2, Nat.add_zero]; unfold objT
  rw [seqT_congr _ (TAB ka va kb vb) (kvS ka va) ka.length (fun i hi => by unfold TAB; rw [if_pos hi])]
theorem objT_B (ka va kb vb : List ByteArray) (h1 : ka.length = 0) : objT (TAB ka va kb vb) (ka.length + kb.length) = objT (kvS kb vb) kb.length := by
  rw [h1, Nat.zero_add]; unfold objT
  rw [seqT_congr _ (TAB ka va kb vb) (kvS kb vb) kb.length (fun i hi => by unfold TAB; rw [if_neg (by omega), h1, Nat.sub_zero])]

/-- Pointers copied: of L, the first o + k lie in block g. -/
def PRel (L : List Nat) (g : Nat) (w : World) (o n : Nat) (vi : Value) (wr : World) : Prop :=
  ∃ k : Nat, k ≤ n ∧ vi = .int .i64 k ∧ Nd g 55 (((L.take (o + k)).map fun q => Value.pointer (some ⟨q, 0, none⟩)) ++ List.replicate (L.length - (o + k)) (Value.pointer none)).toArray wr ∧ Below g w wr
theorem PRel.next {L : List Nat} {g o k q : Nat} {w wr : World} {n : Nat} (hk : k < n) (hL : o + k < L.length) (hq : L[o + k] = q)
    (hN : Nd g 55 (((L.take (o + k)).map fun q => Value.pointer (some ⟨q, 0, none⟩)) ++ List.replicate (L.length - (o + k)) (Value.pointer none)).toArray wr) (hb : Below g w wr) (vi : Value) (hv : vi = .int .i64 (k + 1 : Nat)) :
    PRel L g w o n vi (wr.setCell ⟨g, o + k, none⟩ (.pointer (some ⟨q, 0, none⟩))) := by
  refine ⟨k + 1, by omega, hv, ?_, hb.setCell (Nat.le_refl _) _⟩
  have h := hN.set (o + k) (Value.pointer (some ⟨q, 0, none⟩))
  rw [ptrs_set _ _ _ _ (by rw [List.length_take]; omega) hL] at h
  rw [show o + (k + 1) = (o + k) + 1 by omega, List.take_succ_eq_append_getElem hL, hq]
  exact h
/-- A list of members lies there, in every later world. -/
def Lies (R : World) (g : Nat) (qs : List Nat) (TT : Nat → List UInt8) : Prop := ∀ W, Below R.heap.size R W → Nd g 55 (qs.map fun q => Value.pointer (some ⟨q, 0, none⟩)).toArray W ∧ ∀ i (h : i < qs.length), Prints 38 qs[i] Any (TT i) W
theorem obj_step {R w : World} {g n : Nat} {qs : List Nat} {TT : Nat → List UInt8} (F : Lies R g qs TT) (hR : Below R.heap.size R w) (hq : qs.length = n) (hm : n ≤ 1048576) (hT : Lib.Utf8Tabs 0 1 R) (hlen : (objT TT n).length ≤ 10000000000) (S : ByteArray) (hS : S = ⟨(objT TT n).toArray⟩) :
    Calls Tryd.prog 14 #[.pointer (some ⟨w.heap.size, 0, none⟩)] (w.alloc (.cells #[.slice (some ⟨g, 0, none⟩) n n] 43)) fun e w' => e = .returned (.string S) ∧ Below R.heap.size R w' := by
  subst hq hS
  have hA : Below R.heap.size R (w.alloc (.cells #[.slice (some ⟨g, 0, none⟩) qs.length qs.length] 43)) := hR.trans (((Below.refl _ _).alloc (Nat.le_refl _) _).mono hR.size)
  obtain ⟨f1, f2⟩ := F _ hA
  have hTW := tabs_below hT hA (by have := tabs_size hT; omega) (by have := tabs_size hT; omega)
  refine (str_ConstObject (prints_obj (Nd.new _ _ _) f1 hm f2) trivial hTW hlen).mono ?_
  rintro e w' ⟨rfl, hb⟩
  exact ⟨rfl, hA.trans (hb.mono hA.size)⟩

theorem objT_pos (TT : Nat → List UInt8) {n : Nat} (h : 0 < n) : objT TT n = [123, 32] ++ seqT [44, 32] TT n ++ [32, 125] := by unfold objT; rw [if_neg (by omega)]
theorem cat_len (ka va kb vb : List ByteArray) : (objT (TAB ka va kb vb) (ka.length + kb.length)).length ≤ (objT (kvS ka va) ka.length).length + (objT (kvS kb vb) kb.length).length + 10 := by
  by_cases h1 : ka.length = 0
  · rw [objT_B _ _ _ _ h1]; omega
  · by_cases h2 : kb.length = 0
    · rw [objT_A _ _ _ _ h2]; omega
    · rw [objT_cat _ _ _ _ (by omega) (by omega), objT_pos _ (by omega), objT_pos _ (by omega)]
      simp only [List.length_append, List.length_cons, List.length_nil]; omega

theorem ex_toList (t : ByteArray) (a b : Nat) : (t.extract a b).data.toList = (t.data.toList.take b).drop a := by
  rw [ByteArray.data_extract, Array.toList_extract, List.extract_eq_take_drop, List.drop_take]
theorem cat_fin {SA SB SC : ByteArray} {m1 m2 : List UInt8} (hA : SA.data.toList = [123, 32] ++ m1 ++ [32, 125]) (hB : SB.data.toList = [123, 32] ++ m2 ++ [32, 125]) (hC : SC.data.toList = [123, 32] ++ m1 ++ [44, 32] ++ m2 ++ [32, 125]) :
    SC.toList = (SA.extract 0 (SA.size - 2) ++ { data := #[44, 32] } ++ SB.extract 2 SB.size).toList := by
  have sA : SA.size = SA.data.toList.length := rfl
  have sB : SB.size = SB.data.toList.length := rfl
  rw [ByteArray.toList_eq, ByteArray.toList_eq, ByteArray.data_append, ByteArray.data_append, Array.toList_append, Array.toList_append, ex_toList, ex_toList, sA, sB, hC, hA, hB, List.take_length]
  have e : ([123, 32] ++ m1 ++ [32, 125] : List UInt8).length - 2 = ([123, 32] ++ m1 : List UInt8).length := by simp
  rw [e, List.take_append_of_le_length (Nat.le_refl _), List.take_length]
  simp

theorem wrapped_any (t : ByteArray) (M : List UInt8) (ht : t.data.toList = [123, 32] ++ M ++ [32, 125]) (hl : t.size ≤ 1000000000) (w : World) :
    Calls Tryd.prog 28 #[.string t] w fun e w' => e = .returned (.bool true) ∧ w = w' := by
  have hz : t.size = M.length + 4 := by have : t.size = t.data.toList.length := rfl; rw [this, ht]; simp
  have h4 : 4 ≤ t.size := by omega
  have i0 : 0 < t.size := by omega
  have i1 : 1 < t.size := by omega
  have i2 : t.size - 2 < t.size := by omega
  have i3 : t.size - 1 < t.size := by omega
  have at' : ∀ k (hk : k < t.size) (x : UInt8), t.data.toList[k]? = some x → (t[k].toNat : Int) = (x.toNat : Int) := by
    intro k hk x hx
    have h0 : t[k] = t.data.toList[k]'hk := rfl
    rw [h0, (List.getElem_eq_iff hk).2 hx]
  have e0 : (t[0].toNat : Int) = 123 := at' 0 i0 123 (by rw [ht]; simp)
  have e1 : (t[1].toNat : Int) = 32 := at' 1 i1 32 (by rw [ht]; simp)
  have e2 : (t[t.size - 2].toNat : Int) = 32 := at' _ i2 32 (by rw [hz, ht, List.getElem?_append_right (by simp)]; simp)
  have e3 : (t[t.size - 1].toNat : Int) = 125 := at' _ i3 125 (by rw [hz, ht, List.getElem?_append_right (by simp)]; simp)
  clear at' hz ht
  go_enter Tryd.func28, Tryd.ntmps28
  go_wp2_with fail
  go_ret
  exact ⟨rfl, rfl⟩


set_option maxHeartbeats 8000000 in
set_option maxRecDepth 100000 in
theorem lawC_good (v1 v2 v3 v4 : Value) (ka va kb vb : List ByteArray) (w : World) (hT : Lib.Utf8Tabs 0 1 w) (h1 : Sl v1 (ka.map Value.string) w) (g1 : ∀ s ∈ ka, s.size ≤ maxLen) (h2 : Sl v2 (va.map Value.string) w) (g2 : ∀ s ∈ va, s.size ≤ maxLen) (h3 : Sl v3 (kb.map Value.string) w) (g3 : ∀ s ∈ kb, s.size ≤ maxLen) (h4 : Sl v4 (vb.map Value.string) w) (g4 : ∀ s ∈ vb, s.size ≤ maxLen)
    (n1 : ka.length ≤ 65536) (n2 : va.length ≤ 65536) (n3 : kb.length ≤ 65536) (n4 : vb.length ≤ 65536) (hb1 : (ka.length + tot ka) + (va.length + tot va) + (kb.length + tot kb) + (vb.length + tot vb) ≤ 1048576) (hb2 : (16 * ka.length + tot ka) + (16 * va.length + tot va) + (16 * kb.length + tot kb) + (16 * vb.length + tot vb) ≤ 1048576) :
    Calls Tryd.prog 7 #[v1, v2, v3, v4] w fun e w' => e = .returned (.bool true) ∧ Below w.heap.size w w' := by
  have HBy := Lib.hid (bytes_FnConstObjectStringConcat v1 ka v2 va v3 kb v4 vb w h1 g1 h2 g2 h3 g3 h4 g4)
  have hft : fitT ((ka.length + tot ka) + (va.length + tot va) + (kb.length + tot kb) + (vb.length + tot vb)) = true := by unfold fitT; simpa using hb1
  rw [hft] at HBy
  have HB1 := Lib.hid (strsBytes_any v1 ka w h1 (by omega) n1)
  have HB2 := Lib.hid (strsBytes_any v2 va w h2 (by omega) n2)
  have HB3 := Lib.hid (strsBytes_any v3 kb w h3 (by omega) n3)
  have HB4 := Lib.hid (strsBytes_any v4 vb w h4 (by omega) n4)
  rw [show capS (16 * ka.length + tot ka) = 16 * ka.length + tot ka by unfold capS; rw [if_pos (by omega)]] at HB1
  rw [show capS (16 * va.length + tot va) = 16 * va.length + tot va by unfold capS; rw [if_pos (by omega)]] at HB2
  rw [show capS (16 * kb.length + tot kb) = 16 * kb.length + tot kb by unfold capS; rw [if_pos (by omega)]] at HB3
  rw [show capS (16 * vb.length + tot vb) = 16 * vb.length + tot vb by unfold capS; rw [if_pos (by omega)]] at HB4
  obtain ⟨q1, hq1⟩ : ∃ q, q = 16 * ka.length + tot ka := ⟨_, rfl⟩
  obtain ⟨q2, hq2⟩ : ∃ q, q = 16 * va.length + tot va := ⟨_, rfl⟩
  obtain ⟨q3, hq3⟩ : ∃ q, q = 16 * kb.length + tot kb := ⟨_, rfl⟩
  obtain ⟨q4, hq4⟩ : ∃ q, q = 16 * vb.length + tot vb := ⟨_, rfl⟩
  rw [← hq1] at HB1
  rw [← hq2] at HB2
  rw [← hq3] at HB3
  rw [← hq4] at HB4
  have hq : q1 + q2 + q3 + q4 ≤ 1048576 := by omega
  have H1 := Lib.hid h1
  have H2 := Lib.hid h2
  have H3 := Lib.hid h3
  have H4 := Lib.hid h4
  have HT := Lib.hid hT
  have t1 : tot ka ≤ 1048576 := by omega
  have t2 : tot va ≤ 1048576 := by omega
  have t3 : tot kb ≤ 1048576 := by omega
  have t4 : tot vb ≤ 1048576 := by omega
  obtain ⟨a1, c1, e1, _⟩ := h1
  obtain ⟨a2, c2, e2, _⟩ := h2
  obtain ⟨a3, c3, e3, _⟩ := h3
  obtain ⟨a4, c4, e4, _⟩ := h4
  rw [List.length_map] at e1 e2 e3 e4
  subst e1 e2 e3 e4
  clear hft hT g1 g2 g3 g4 hq1 hq2 hq3 hq4 hb1 hb2
  go_enter Tryd.func7, Tryd.ntmps7
  go_wp2_with fail
  refine HBy.out.mono ?_
  rintro e w' ⟨rfl, rfl⟩
  go_wp2_with fail
  refine HB1.out.mono ?_
  rintro e w' ⟨rfl, rfl⟩
  go_wp2_with fail
  refine HB2.out.mono ?_
  rintro e w' ⟨rfl, rfl⟩
  go_wp2_with fail
  refine HB3.out.mono ?_
  rintro e w' ⟨rfl, rfl⟩
  go_wp2_with fail
  refine HB4.out.mono ?_
  rintro e w' ⟨rfl, rfl⟩
  clear HBy HB1 HB2 HB3 HB4
  go_wp2_with fail
  refine (clone_zzCloneStrs_b3 _ ka w H1.out (by omega)).mono ?_
  rintro e wa ⟨y1, rfl, hSa, hba⟩
  have K2 := Lib.hid (H2.out.below hba (Nat.le_refl _))
  have K3 := Lib.hid (H3.out.below hba (Nat.le_refl _))
  have K4 := Lib.hid (H4.out.below hba (Nat.le_refl _))
  have S1 := Lib.hid hSa
  clear H1 H2 H3 H4 hSa
  go_wp2_with fail
  refine (clone_zzCloneStrs_b3 _ va wa K2.out (by omega)).mono ?_
  rintro e wb ⟨y2, rfl, hSb, hbb⟩
  have S1 := Lib.hid (S1.out.below hbb (Nat.le_refl _))
  have S2 := Lib.hid hSb
  have K3 := Lib.hid (K3.out.below hbb (Nat.le_refl _))
  have K4 := Lib.hid (K4.out.below hbb (Nat.le_refl _))
  have b2 := hba.trans (hbb.mono hba.size)
  clear K2 hba hbb hSb
  go_wp2_with fail
  refine (clone_zzCloneStrs_b3 _ kb wb K3.out (by omega)).mono ?_
  rintro e wc ⟨y3, rfl, hSc, hbc⟩
  have S1 := Lib.hid (S1.out.below hbc (Nat.le_refl _))
  have S2 := Lib.hid (S2.out.below hbc (Nat.le_refl _))
  have S3 := Lib.hid hSc
  have K4 := Lib.hid (K4.out.below hbc (Nat.le_refl _))
  have b3 := b2.trans (hbc.mono b2.size)
  clear K3 hbc hSc b2
  go_wp2_with fail
  refine (clone_zzCloneStrs_b3 _ vb wc K4.out (by omega)).mono ?_
  rintro e wd ⟨y4, rfl, hSd, hbd⟩
  have S1 := Lib.hid (S1.out.below hbd (Nat.le_refl _))
  have S2 := Lib.hid (S2.out.below hbd (Nat.le_refl _))
  have S3 := Lib.hid (S3.out.below hbd (Nat.le_refl _))
  have S4 := Lib.hid hSd
  have b4 := b3.trans (hbd.mono b3.size)
  clear K4 hbd hSd b3
  go_wp2_with fail
  refine (strKVs_any y1 y2 ka va wd S1.out S2.out (by omega) t1 t2).mono ?_
  rintro e we ⟨gA, qA, rfl, hgA, hqA, hNA, hMA, hbe⟩
  have S3 := Lib.hid (S3.out.below hbe (Nat.le_refl _))
  have S4 := Lib.hid (S4.out.below hbe (Nat.le_refl _))
  have b5 := b4.trans (hbe.mono b4.size)
  have NA := Lib.hid hNA
  have MA := Lib.hid hMA
  have QA := Lib.hid hqA
  clear hNA hMA hqA S1 S2 hbe b4
  go_wp2_with fail
  refine (strKVs_any y3 y4 kb vb we S3.out S4.out (by omega) t3 t4).mono ?_
  rintro e wf ⟨gB, qB, rfl, hgB, hqB, hNB, hMB, hbf⟩
  have b6 := b5.trans (hbf.mono b5.size)
  have NA := Lib.hid (NA.out.below hbf NA.out.lt)
  have MA : Hid (∀ i (h : i < qA.length), Made (gA + 1) we.heap.size 38 qA[i] Any (kvS ka va i) wf) := Lib.hid (fun i hi => (MA.out i hi).same (Same.below hbf (Nat.le_refl _)))
  have NB := Lib.hid hNB
  have MB := Lib.hid hMB
  have QB := Lib.hid hqB
  have hsz := hbf.size
  clear hNB hMB hqB S3 S4 hbf b5
  have hmk := fun W => run_mkE kvinfo Tryd.underlying40 rfl (ka.length + kb.length) (by omega) W
  have hcast : ((ka.length + kb.length : Nat) : Int) = (ka.length : Int) + (kb.length : Int) := by omega
  simp only [hcast] at hmk
  clear hcast
  go_wp2_with fail
  obtain ⟨W0, hW0⟩ : ∃ W, W = wf.alloc (.cells (Array.replicate (ka.length + kb.length) (Value.pointer none)) 55) := ⟨_, rfl⟩
  rw [← hW0]
  have hla : (qA ++ qB).length = ka.length + kb.length := by rw [List.length_append, QA.out, QB.out]
  have hb0 : Below wf.heap.size wf W0 := by rw [hW0]; exact (Below.refl _ _).alloc (Nat.le_refl _) _
  have hN0 : Nd wf.heap.size 55 ((((qA ++ qB).take (0 + 0)).map fun q => Value.pointer (some ⟨q, 0, none⟩)) ++ List.replicate ((qA ++ qB).length - (0 + 0)) (Value.pointer none)).toArray W0 := by rw [hW0, hla]; exact (heap_alloc_at _ _).trans (by simp)
  obtain ⟨g, hg⟩ : ∃ g, g = wf.heap.size := ⟨_, rfl⟩
  rw [← hg] at hN0 hb0 ⊢
  have HG := Lib.hid hg
  have HLA := Lib.hid hla
  clear hmk hW0 hg hla
  go_loopw [12] (PRel (qA ++ qB) g wf 0 ka.length) (fun i _ => ka.length - (intOf i).toNat)
  case atStart => exact ⟨0, Nat.zero_le _, rfl, hN0, hb0⟩
  case round =>
    obtain ⟨k, hkk, rfl, hN, hbw⟩ := hrel
    by_cases hlt : k < ka.length
    · have hka : k < qA.length := by rw [QA.out]; exact hlt
      have ca : wr.cell? ⟨gA, k, none⟩ = some (.pointer (some ⟨qA[k], 0, none⟩)) := (NA.out.below hbw (by have := HG.out; have := NA.out.lt; omega)).cell k (by simp [hka])
      have hL : 0 + k < (qA ++ qB).length := by rw [HLA.out]; omega
      have hq : (qA ++ qB)[0 + k] = qA[k] := by rw [List.getElem_append_left (by omega)]; congr 1; omega
      obtain ⟨q, hqq⟩ : ∃ q, q = qA[k] := ⟨_, rfl⟩
      rw [← hqq] at ca hq
      have cg := hN.cell (0 + k) (ptrs_get _ _ _ (by rw [List.length_take]; omega) hL)
      have fg := hN.free (0 + k)
      rw [Nat.zero_add] at cg fg
      have HN := Lib.hid hN
      have HQ := Lib.hid hq
      have HL := Lib.hid hL
      clear hN hqq hq hka
      go_wp2_with fail
      go_roundw
      case rel =>
        have h := PRel.next hlt HL.out HQ.out HN.out hbw (.int .i64 (k + 1 : Nat)) rfl
        rw [Nat.zero_add] at h
        exact h
      case measure => simp [intOf]; omega
    · obtain rfl : k = ka.length := by omega
      rw [Nat.zero_add] at hN
      have HN := Lib.hid hN
      clear hN hN0 hb0
      go_wp2_with fail
      go_loopw [13] (PRel (qA ++ qB) g wf ka.length kb.length) (fun i _ => kb.length - (intOf i).toNat)
      case atStart => exact ⟨0, Nat.zero_le _, rfl, HN.out, hbw⟩
      case round =>
        rename_i R1
        obtain ⟨j, hjj, rfl, hN, hbw⟩ := hrel
        by_cases hlt : j < kb.length
        · have hkb : j < qB.length := by rw [QB.out]; exact hlt
          have cb := (NB.out.below hbw (by have := HG.out; have := NB.out.lt; omega)).cell j (v := .pointer (some ⟨qB[j], 0, none⟩)) (by simp [hkb])
          have hL : ka.length + j < (qA ++ qB).length := by rw [HLA.out]; omega
          have hq : (qA ++ qB)[ka.length + j] = qB[j] := by rw [List.getElem_append_right (by rw [QA.out]; omega)]; congr 1; rw [QA.out]; omega
          obtain ⟨q, hqq⟩ : ∃ q, q = qB[j] := ⟨_, rfl⟩
          rw [← hqq] at cb hq
          have cg := hN.cell (ka.length + j) (ptrs_get _ _ _ (by rw [List.length_take]; omega) hL)
          have fg := hN.free (ka.length + j)
          have HN := Lib.hid hN
          have HQ := Lib.hid hq
          clear hN hqq hq hkb
          go_wp2_with fail
          go_roundw
          case rel => exact PRel.next hlt hL HQ.out HN.out hbw _ (by go_num)
          case measure => simp [intOf]; omega
        · obtain rfl : j = kb.length := by omega
          have hN2 : Nd g 55 ((qA ++ qB).map fun q => Value.pointer (some ⟨q, 0, none⟩)).toArray wr := by
            rw [← HLA.out] at hN
            rw [Nat.sub_self, List.take_length, List.replicate_zero, List.append_nil] at hN
            exact hN
          have hg := HG.out
          have hsz2 := hbw.size
          have HLaA : Hid (Lies wr gA qA (kvS ka va)) := Lib.hid fun W hW => by
            have hw := hbw.trans (hW.mono (by omega))
            exact ⟨NA.out.below hw (by have := NA.out.lt; omega), fun i hi => (MA.out i hi).prints.pres (Pres.below hw (by omega))⟩
          have HLaB : Hid (Lies wr gB qB (kvS kb vb)) := Lib.hid fun W hW => by
            have hw := hbw.trans (hW.mono (by omega))
            exact ⟨NB.out.below hw (by have := NB.out.lt; omega), fun i hi => (MB.out i hi).prints.pres (Pres.below hw (by omega))⟩
          have HLaC : Hid (Lies wr g (qA ++ qB) (TAB ka va kb vb)) := Lib.hid fun W hW => by
            have hw := hbw.trans (hW.mono (by omega))
            refine ⟨hN2.below hW hN2.lt, fun i hi => ?_⟩
            have hqa := QA.out
            unfold TAB
            by_cases h : i < qA.length
            · rw [List.getElem_append_left h, if_pos (by omega)]
              exact (MA.out i h).prints.pres (Pres.below hw (by omega))
            · rw [List.getElem_append_right (by omega), if_neg (by omega), ← hqa]
              exact (MB.out _ (by rw [List.length_append] at hi; omega)).prints.pres (Pres.below hw (by omega))
          have bR : Below w.heap.size w wr := b6.trans (hbw.mono (by have := b6.size; omega))
          have HTR := Lib.hid (tabs_below HT.out bR (by have := tabs_size HT.out; omega) (by have := tabs_size HT.out; omega))
          have lA := obj_len ka va (by omega) t1 t2
          have lB := obj_len kb vb (by omega) t3 t4
          have lC := cat_len ka va kb vb
          have hqc := HLA.out
          have hqa := QA.out
          have hqb := QB.out
          obtain ⟨SA, hSA⟩ : ∃ S : ByteArray, S = ⟨(objT (kvS ka va) ka.length).toArray⟩ := ⟨_, rfl⟩
          obtain ⟨SB, hSB⟩ : ∃ S : ByteArray, S = ⟨(objT (kvS kb vb) kb.length).toArray⟩ := ⟨_, rfl⟩
          obtain ⟨SC, hSC⟩ : ∃ S : ByteArray, S = ⟨(objT (TAB ka va kb vb) (ka.length + kb.length)).toArray⟩ := ⟨_, rfl⟩
          have HA := fun X h => Lib.hid (obj_step (w := X) HLaA.out h hqa (by omega) HTR.out (by omega) SA hSA)
          have HB := fun X h => Lib.hid (obj_step (w := X) HLaB.out h hqb (by omega) HTR.out (by omega) SB hSB)
          have HC := fun X h => Lib.hid (obj_step (w := X) HLaC.out h hqc (by omega) HTR.out (by omega) SC hSC)
          have zA : SA.size ≤ 100000000 := by rw [hSA]; show (objT (kvS ka va) ka.length).toArray.size ≤ _; rw [List.size_toArray]; exact lA
          have zB : SB.size ≤ 100000000 := by rw [hSB]; show (objT (kvS kb vb) kb.length).toArray.size ≤ _; rw [List.size_toArray]; exact lB
          have HSA := Lib.hid hSA
          have HSB := Lib.hid hSB
          have HSC := Lib.hid hSC
          clear lA lB lC hqc hqa hqb HN hN hN2 HLaA HLaB HLaC HT HTR MA MB NA NB b6 hbw HG HLA hg hsz hsz2 QA QB hSA hSB hSC t1 t2 t3 t4 hgA hgB
          go_wp2_with fail
          refine (HA _ (Below.refl _ _)).out.mono ?_
          rintro e x1 ⟨rfl, hx1⟩
          go_wp2_with fail
          refine (HB _ hx1).out.mono ?_
          rintro e x2 ⟨rfl, hx2⟩
          go_wp2_with fail
          refine (HC _ hx2).out.mono ?_
          rintro e x3 ⟨rfl, hx3⟩
          have bE := bR.trans (hx3.mono bR.size)
          clear HA HB HC hx1 hx2 hx3 bR
          by_cases c1 : ka.length = 0
          · have eA : SA = ⟨#[123, 125]⟩ := by rw [HSA.out, c1]; rfl
            have eC : SC = SB := by rw [HSC.out, HSB.out, objT_B _ _ _ _ c1]
            clear HSA HSB HSC
            subst eA eC
            go_wp2_with fail
            go_ret
            exact ⟨ret_bool (by simp), bE⟩
          · by_cases c2 : kb.length = 0
            · have eB : SB = ⟨#[123, 125]⟩ := by rw [HSB.out, c2]; rfl
              have eC : SC = SA := by rw [HSC.out, HSA.out, objT_A _ _ _ _ c2]
              clear HSA HSB HSC
              subst eB eC
              go_wp2_with fail
              go_ret
              exact ⟨ret_bool (by simp), bE⟩
            · obtain ⟨m1, hm1⟩ : ∃ m, seqT [44, 32] (kvS ka va) ka.length = m := ⟨_, rfl⟩
              obtain ⟨m2, hm2⟩ : ∃ m, seqT [44, 32] (kvS kb vb) kb.length = m := ⟨_, rfl⟩
              have tA : SA.data.toList = [123, 32] ++ m1 ++ [32, 125] := by rw [HSA.out, objT_pos _ (by omega), hm1]
              have tB : SB.data.toList = [123, 32] ++ m2 ++ [32, 125] := by rw [HSB.out, objT_pos _ (by omega), hm2]
              have tC : SC.data.toList = [123, 32] ++ m1 ++ [44, 32] ++ m2 ++ [32, 125] := by rw [HSC.out, objT_cat _ _ _ _ (by omega) (by omega), hm1, hm2]
              have wA := fun X => Lib.hid (wrapped_any SA _ tA (by omega) X)
              have wB := fun X => Lib.hid (wrapped_any SB _ tB (by omega) X)
              have mA : 4 ≤ SA.size := by show 4 ≤ SA.data.toList.length; rw [tA]; simp only [List.length_append, List.length_cons, List.length_nil]; omega
              have mB : 4 ≤ SB.size := by show 4 ≤ SB.data.toList.length; rw [tB]; simp only [List.length_append, List.length_cons, List.length_nil]; omega
              have HtA := Lib.hid tA
              have HtB := Lib.hid tB
              have HtC := Lib.hid tC
              clear tA tB tC HSA HSB HSC hm1 hm2
              go_wp2_with fail
              refine (wA _).out.mono ?_
              rintro e x4 ⟨rfl, rfl⟩
              go_wp2_with fail
              refine (wB _).out.mono ?_
              rintro e x4 ⟨rfl, rfl⟩
              go_wp2_with fail
              go_quiet (fail)
              go_wp2_with fail
              go_ret
              refine ⟨ret_bool ?_, ⟨bE.os, bE.tape, bE.output, bE.size, bE.block⟩⟩
              rw [cat_fin HtA.out HtB.out HtC.out]
              simp
end Go.Proofs.YtbdjddgihnmemaaDoor
