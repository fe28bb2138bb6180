/- zzScalarObject. -/
import Derived.Test.YtbdjddgihnmemaaDoorPick41
import Derived.Deep.QuietTactic
import Derived.BigQuiet
import Derived.Deep.RegionHeld3
namespace Go.Proofs.YtbdjddgihnmemaaDoor
open Go.RowKit

/-- What the i-th member prints. -/
def kvN (ks : List ByteArray) (kinds nums : List Int) (i : Nat) : List UInt8 := kvT (ks.getD i ⟨#[]⟩) ⟨#[]⟩ (valT (pkK kinds i) (pkN nums i))
def Obj (w : World) (T : List UInt8) (e : Ending) (w' : World) : Prop := ∃ o, e = .returned (.pointer (some ⟨o, 0, none⟩)) ∧ Prints 31 o Any T w' ∧ Below w.heap.size w w'

/-- A value made, the cells that the region needs as they were. -/
def ValR (k n : Int) (g j ba oa : Nat) (x : ByteArray) (wr : World) (e : Ending) (W : World) : Prop :=
  ∃ t, e = .returned (.pointer (some ⟨t, 0, none⟩)) ∧ W.cell? ⟨ba, oa + j, none⟩ = some (.string x) ∧ W.cell? ⟨g, j, none⟩ = some (.pointer none) ∧ W.frozen? ⟨g, j, none⟩ = false ∧ g < W.heap.size ∧
    Hid (Made wr.heap.size W.heap.size 34 t Any (valT k n) W) ∧ Hid (Below wr.heap.size wr W)
theorem valR_any (k n : Int) {g j ba oa : Nat} {x : ByteArray} {wr : World} {C : Array Value} (hk : 0 ≤ k ∧ k < 6) (h1 : -9223372036854775808 ≤ n) (h2 : n ≤ 9223372036854775807) (ka : wr.cell? ⟨ba, oa + j, none⟩ = some (.string x)) (hN : Nd g 55 C wr) (hc : C[j]? = some (.pointer none)) :
    Calls Tryd.prog 30 #[.int .i64 k, .int .i64 n] wr.drew (ValR k n g j ba oa x wr) := by
  refine (valTerm_any k n wr.drew hk h1 h2).mono ?_
  rintro e W ⟨t, rfl, hM, hb⟩
  have hb' : Below wr.heap.size wr W := ⟨hb.os, hb.tape, hb.output, hb.size, hb.block⟩
  have hN2 := hN.below hb' hN.lt
  have la := World.block_lt_of_cell? wr _ ka
  exact ⟨t, rfl, (hb'.cell (p := ⟨ba, oa + j, none⟩) la).trans ka, hN2.cell j hc, hN2.free j, hN2.lt, Lib.hid hM, Lib.hid hb'⟩
theorem keep_last {W : World} {g k ba o : Nat} {v u : Value} {b : Go.Obj} (h : W.cell? ⟨ba, o, none⟩ = some v) (hba : ba < g) (hg : g < W.heap.size) : ((W.setCell ⟨g, k, none⟩ u).alloc b).cell? ⟨ba, o, none⟩ = some v :=
  ((((Below.refl g W).setCell (Nat.le_refl g) u).alloc (by rw [size_setCell]; omega) b).cell (p := ⟨ba, o, none⟩) hba).trans h
theorem kvN_at {ks : List ByteArray} {kinds nums : List Int} {k : Nat} (h : k < ks.length) : kvN ks kinds nums k = kvT ks[k] ⟨#[]⟩ (valT (pkK kinds k) (pkN nums k)) := by unfold kvN; simp [h]

set_option maxHeartbeats 2000000 in
set_option maxRecDepth 100000 in
theorem scalarObj_any (v1 v2 v3 : Value) (ks : List ByteArray) (kinds nums : List Int) (w : World) (h1 : Sl v1 (ks.map Value.string) w) (h2 : Sl v2 (kinds.map (Value.int .i64)) w) (h3 : Sl v3 (nums.map (Value.int .i64)) w) (hk : ks.length ≤ 1048576) (t1 : tot ks ≤ 1048576) (gn : I64s nums) :
    Calls Tryd.prog 13 #[v1, v2, v3] w (Obj w (objT (kvN ks kinds nums) ks.length)) := by
  have H1 := Lib.hid h1
  have H2 := Lib.hid h2
  have H3 := Lib.hid h3
  obtain ⟨a1, c1, e1, _⟩ := h1
  obtain ⟨a2, c2, e2, _⟩ := h2
  obtain ⟨a3, c3, e3, _⟩ := h3
  rw [List.length_map] at e1 e2 e3
  subst e1 e2 e3
  have hmk := fun W => run_mkE kvinfo Tryd.underlying40 rfl ks.length hk W
  go_enter Tryd.func13, Tryd.ntmps13
  go_wp2_with fail
  obtain ⟨W0, hW0⟩ : ∃ W, W = w.alloc (.cells (Array.replicate ks.length (Value.pointer none)) 55) := ⟨_, rfl⟩
  rw [← hW0]
  have hb0 : Below w.heap.size w W0 := by rw [hW0]; exact (Below.refl _ _).alloc (Nat.le_refl _) _
  have hN0 : Nd w.heap.size 55 ((([] : List Nat).map fun q => Value.pointer (some ⟨q, 0, none⟩)) ++ List.replicate (ks.length - 0) (Value.pointer none)).toArray W0 := by rw [hW0]; exact (heap_alloc_at _ _).trans (by simp)
  obtain ⟨g, hg⟩ : ∃ g, g = w.heap.size := ⟨_, rfl⟩
  rw [← hg] at hN0 hb0
  have HG := Lib.hid hg
  have hgg : Value.slice (some ⟨w.heap.size, 0, none⟩) ks.length ks.length = .slice (some ⟨g, 0, none⟩) ks.length ks.length := by rw [hg]
  rw [hgg]
  have GN := Lib.hid gn
  clear hmk hW0 hg hgg gn
  go_loopw [8] (KRel (kvN ks kinds nums) ks.length g w) (fun i _ => ks.length - (intOf i).toNat)
  case atStart => exact ⟨0, [], Nat.zero_le _, rfl, rfl, hN0, Lib.hid (fun i h => by simp at h), hb0⟩
  case round =>
    obtain ⟨k, qs, hkk, rfl, hql, hN, hmade, hbw⟩ := hrel
    by_cases hlt : k < ks.length
    · obtain ⟨ba, oa, ha, hca⟩ := sl_cell H1.out hlt
      subst ha
      have la := World.block_lt_of_cell? w _ hca
      simp only at la
      rw [← HG.out] at la
      have ka := (hbw.cell (p := ⟨ba, oa + k, none⟩) la).trans hca
      have hgl := hN.lt
      have hkv := kvN_at (kinds := kinds) (nums := nums) hlt
      have hxl := big_of hlt t1
      obtain ⟨x, hx⟩ : ∃ x, x = ks[k] := ⟨_, rfl⟩
      rw [← hx] at hkv ka hxl
      have HKV := Lib.hid hkv
      have HN := Lib.hid hN
      have hz : w.heap.size ≤ g := by have := HG.out; omega
      have HP := Lib.hid (pick_any _ _ kinds nums k wr (H2.out.below (hbw.mono hz) (Nat.le_refl _)) (H3.out.below (hbw.mono hz) (Nat.le_refl _)))
      have HV := Lib.hid (valR_any (pkK kinds k) (pkN nums k) (pkK_lt _ _) (pkN_b GN.out k).1 (pkN_b GN.out k).2 ka hN (ptrs_get qs k ks.length hql.out hlt))
      clear hx hkv hN hca hz
      obtain ⟨K, hK⟩ : ∃ K, pkK kinds k = K := ⟨_, rfl⟩
      obtain ⟨M, hM⟩ : ∃ M, pkN nums k = M := ⟨_, rfl⟩
      rw [hK, hM] at HP HV HKV
      clear hK hM
      go_wp2_with fail
      refine HP.out.mono ?_
      rintro e w' ⟨rfl, rfl⟩
      go_wp2_with fail
      go_region_held3 (fun W => W.cell? ⟨ba, oa + k, none⟩ = some (.string x)) (first | go_keep | exact keep_last ca1 la gl1)
        (first | (go_at_call 30; refine HV.out.mono ?_; rintro e W1 ⟨t, rfl, ca1, cg1, fg1, gl1, hM1, hb1⟩))
      have hq := hql.out
      have hgw := HN.out.lt
      have hb1' := hb1.out
      have hsz1 := hb1'.size
      go_wp2_with fail
      go_roundw
      case rel =>
        have hN1 := HN.out.below hb1' hgw
        have hsz2 : ((W1.setCell ⟨g, k, none⟩ (Value.pointer (some ⟨W1.heap.size, 0, none⟩))).alloc (.cells #[.string x, .string ⟨#[]⟩, .pointer (some ⟨t, 0, none⟩)] 61)).heap.size = W1.heap.size + 1 := by rw [size_alloc, size_setCell]
        have sm : ∀ lo hi, g < lo → hi ≤ W1.heap.size → Same lo hi W1 ((W1.setCell ⟨g, k, none⟩ (Value.pointer (some ⟨W1.heap.size, 0, none⟩))).alloc (.cells #[.string x, .string ⟨#[]⟩, .pointer (some ⟨t, 0, none⟩)] 61)) := fun lo hi h1 h2 =>
          Same.trans ((Same.refl _ _ _).setCell (.inl h1) _) (fun i _ h4 => heap_alloc_ne (by rw [size_setCell]; omega))
        refine ⟨k + 1, qs ++ [W1.heap.size], by omega, by go_num, Lib.hid (by rw [List.length_append, hq]; rfl), ?_, ?_, ((hbw.trans (hb1'.mono (by omega))).setCell (Nat.le_refl _) _).alloc (by rw [size_setCell]; omega) _⟩
        · rw [← ptrs_set qs k ks.length _ hq hlt]; exact (hN1.set k _).alloc _
        · refine Lib.hid (made_snoc (TT := kvN ks kinds nums) hq hmade.out ((Same.below hb1' (Nat.le_refl _)).trans (sm _ _ (by omega) (by omega))) (by rw [hsz2]; omega) ?_)
          rw [hsz2, HKV.out]
          intro w' hw
          refine prints_ckv (Nd.same (Nd.newAt _ _ (by rw [size_setCell])) hw (by omega) (by omega)) (by decide) (hM1.out w' ((sm _ _ (by omega) (Nat.le_refl _)).trans (hw.mono (by omega) (by omega))))
      case measure => simp [intOf]; omega
    · obtain rfl : k = ks.length := by omega
      have hN2 : Nd g 55 (qs.map fun q => Value.pointer (some ⟨q, 0, none⟩)).toArray wr := by simpa using hN
      have HN2 := Lib.hid hN2
      clear hN hN2
      go_wp2_with fail
      go_ret
      have hz : w.heap.size ≤ g := by have := HG.out; omega
      have hA : Below wr.heap.size wr (wr.alloc (.cells #[.slice (some ⟨g, 0, none⟩) ks.length ks.length] 43)) := (Below.refl _ _).alloc (Nat.le_refl _) _
      refine ⟨_, rfl, ?_, (hbw.mono hz).trans (hA.mono (hbw.mono hz).size)⟩
      have hq := hql.out
      rw [← hq] at hA ⊢
      exact prints_obj (Nd.new _ _ _) (HN2.out.below hA HN2.out.lt) (by omega) (fun i hi => (hmade.out i hi).prints.pres (Pres.below hA (Nat.le_refl _)))
end Go.Proofs.YtbdjddgihnmemaaDoor
