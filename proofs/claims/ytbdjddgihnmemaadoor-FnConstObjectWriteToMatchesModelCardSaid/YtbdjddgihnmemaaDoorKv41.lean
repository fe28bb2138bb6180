/- String-keyed members (printed by wip/tools/gen_41.py). -/
import Derived.Test.YtbdjddgihnmemaaDoorNodes
import Derived.Test.YtbdjddgihnmemaaDoorStr
import Derived.Test.YtbdjddgihnmemaaDoorMade
import Derived.Test.YtbdjddgihnmemaaDoorHelp
namespace Go.Proofs.YtbdjddgihnmemaaDoor
open Go.RowKit

def capS (n : Nat) : Nat := if n ≤ 1048576 then n else 1048577
set_option maxHeartbeats 1000000 in
theorem strsBytes_any (v : Value) (ss : List ByteArray) (w : World) (h : Sl v (ss.map Value.string) w) (hl : ss.length + tot ss ≤ 1048576) (hn : ss.length ≤ 65536) :
    Calls Tryd.prog 21 #[v] w fun e w' => e = .returned (.int .i64 (capS (16 * ss.length + tot ss) : Nat)) ∧ w = w' := by
  obtain ⟨a, cap, rfl, _, _, _, hc⟩ := h
  rw [List.length_map]
  have HC := Lib.hid hc
  clear hc
  have HTk := Lib.hid (tot_take_le ss)
  go_enter Tryd.func21, Tryd.ntmps21
  go_wp2_with fail
  go_loop [3, 4] (fun z i => ∃ k q : Nat, k ≤ ss.length ∧ i = .int .i64 k ∧ z = .int .i64 q ∧ Hid (q = 16 * ss.length + tot (ss.take k)) ∧ q ≤ 1048576) (fun _ i => ss.length - (intOf i).toNat)
  case atStart => exact ⟨0, 16 * ss.length, Nat.zero_le _, rfl, by go_num, Lib.hid (by simp [tot]), by omega⟩
  case round =>
    obtain ⟨k, q, hk, rfl, rfl, hq, hq2⟩ := hrel
    by_cases hlt : k < ss.length
    · obtain ⟨b, off, ha, hc⟩ : ∃ b off, a = some ⟨b, off, none⟩ ∧ ∀ i (h : i < (ss.map Value.string).length), w.cell? ⟨b, off + i, none⟩ = some (ss.map Value.string)[i] := HC.out.resolve_left (by intro h; rw [List.map_eq_nil_iff] at h; rw [h] at hlt; simp at hlt)
      subst ha
      have ck := hc k (by simpa using hlt)
      rw [List.getElem_map] at ck
      obtain ⟨x, hx⟩ : ∃ x, x = ss[k] := ⟨_, rfl⟩
      have hn : Hid (q + x.size = 16 * ss.length + tot (ss.take (k + 1))) := Lib.hid (by rw [tot_snoc _ _ hlt, hq.out, hx]; omega)
      have hxl : x.size ≤ 1048576 := by have h1 := hn.out; have h2 := HTk.out (k + 1); have h3 := hq.out; omega
      have hle : Hid (q + x.size ≤ 16 * ss.length + tot ss) := Lib.hid (by have h1 := hn.out; have h2 := HTk.out (k + 1); omega)
      rw [← hx] at ck
      clear hc hx
      by_cases hfit : q + x.size ≤ 1048576
      · go_wp2_with fail
        go_round
        case rel => exact ⟨k + 1, q + x.size, by omega, by go_num, by go_num, hn, hfit⟩
        case measure => simp [intOf]; omega
      · go_wp2_with fail
        go_ret
        exact ⟨ret_int (by have := hle.out; unfold capS; rw [if_neg (by omega)]; rfl), rfl⟩
    · obtain rfl : k = ss.length := by omega
      have he : Hid (q = 16 * ss.length + tot ss) := Lib.hid (by have h1 := hq.out; rw [tot_all] at h1; exact h1)
      clear hq
      go_wp2_with fail
      go_ret
      exact ⟨ret_int (by unfold capS; rw [if_pos (by have := he.out; omega), he.out]), rfl⟩

/-- What the i-th member prints. -/
def kvS (ks vs : List ByteArray) (i : Nat) : List UInt8 := kvT ⟨#[]⟩ (ks.getD i ⟨#[]⟩) (quoted (vs.getD i ⟨#[]⟩))
/-- What an object prints. -/
def objT (TT : Nat → List UInt8) (n : Nat) : List UInt8 := if n = 0 then [123, 125] else [123, 32] ++ seqT [44, 32] TT n ++ [32, 125]
theorem prints_obj {o g : Nat} {qs : List Nat} {TT : Nat → List UInt8} {w : World} (hf : Nd o 43 #[.slice (some ⟨g, 0, none⟩) qs.length qs.length] w) (hg : Nd g 55 (qs.map fun q => Value.pointer (some ⟨q, 0, none⟩)).toArray w) (hm : qs.length ≤ 1048576) (hq : ∀ i (h : i < qs.length), Prints 38 qs[i] Any (TT i) w) :
    Prints 31 o Any (objT TT qs.length) w := by
  unfold objT
  by_cases h0 : qs.length = 0
  · rw [if_pos h0]; rw [h0] at hf; exact prints_cobj0 hf
  · rw [if_neg h0]; exact prints_cobj hf hg (by omega) hm hq
theorem kvinfo : (Tryd.prog.info? 55).map (fun i => (i.zero, i.size, decide (i.bytes ≤ 16))) = some (some (Value.pointer none), 1, true) := by kernel_rfl
/-- Members made: the slice and its nodes. -/
def KVs (w : World) (TT : Nat → List UInt8) (n : Nat) (e : Ending) (w' : World) : Prop :=
  ∃ (g : Nat) (qs : List Nat), e = .returned (.slice (some ⟨g, 0, none⟩) n n) ∧ w.heap.size ≤ g ∧ qs.length = n ∧ Nd g 55 (qs.map fun q => Value.pointer (some ⟨q, 0, none⟩)).toArray w' ∧ (∀ i (h : i < qs.length), Made (g + 1) w'.heap.size 38 qs[i] Any (TT i) w') ∧ Below w.heap.size w w'
def KRel (TT : Nat → List UInt8) (n : Nat) (g : Nat) (w : World) (vi : Value) (wr : World) : Prop :=
  ∃ (k : Nat) (qs : List Nat), k ≤ n ∧ vi = .int .i64 k ∧ Hid (qs.length = k) ∧ Nd g 55 ((qs.map fun q => Value.pointer (some ⟨q, 0, none⟩)) ++ List.replicate (n - k) (Value.pointer none)).toArray wr ∧
    Hid (∀ i (h : i < qs.length), Made (g + 1) wr.heap.size 38 qs[i] Any (TT i) wr) ∧ Below g w wr
theorem ptrs_get (qs : List Nat) (k n : Nat) (h : qs.length = k) (hk : k < n) : ((qs.map fun q => Value.pointer (some ⟨q, 0, none⟩)) ++ List.replicate (n - k) (Value.pointer none)).toArray[k]? = some (Value.pointer none) := by
  rw [List.getElem?_toArray, List.getElem?_append_right (by simp; omega), List.length_map, h, Nat.sub_self, List.getElem?_replicate, if_pos (by omega)]
theorem ptrs_set (qs : List Nat) (k n q : Nat) (h : qs.length = k) (hk : k < n) : ((qs.map fun q => Value.pointer (some ⟨q, 0, none⟩)) ++ List.replicate (n - k) (Value.pointer none)).toArray.setIfInBounds k (Value.pointer (some ⟨q, 0, none⟩)) = (((qs ++ [q]).map fun q => Value.pointer (some ⟨q, 0, none⟩)) ++ List.replicate (n - (k + 1)) (Value.pointer none)).toArray := by
  apply Array.ext'
  simp only [Array.toList_setIfInBounds]
  have e : n - k = (n - (k + 1)) + 1 := by omega
  rw [e, List.replicate_succ]
  conv => lhs; rw [List.set_append_right _ _ (by simp; omega), List.length_map, h, Nat.sub_self]
  rw [List.set_cons_zero, List.map_append, List.append_assoc]
  rfl
theorem made_snoc {F : FuncId} {ok : List UInt8 → Prop} {TT : Nat → List UInt8} {g k q : Nat} {qs : List Nat} {wr W : World} (hl : qs.length = k) (h : ∀ i (h : i < qs.length), Made (g + 1) wr.heap.size F qs[i] ok (TT i) wr) (hs : Same (g + 1) wr.heap.size wr W) (hz : wr.heap.size ≤ W.heap.size)
    (hq : Made (g + 1) W.heap.size F q ok (TT k) W) : ∀ i (h : i < (qs ++ [q]).length), Made (g + 1) W.heap.size F (qs ++ [q])[i] ok (TT i) W := by
  intro i hi
  by_cases e : i < qs.length
  · rw [List.getElem_append_left e]
    exact ((h i e).same hs).wide (Nat.le_refl _) hz
  · have : i = k := by simp at hi; omega
    subst this
    rw [List.getElem_append_right (by omega)]
    simp only [hl, Nat.sub_self, List.getElem_cons_zero]
    exact hq
theorem sl_cell {α : Type} {C : α → Value} {a : Option Addr} {n cap : Nat} {xs : List α} {w : World} (h : Sl (.slice a n cap) (xs.map C) w) {k : Nat} (hk : k < xs.length) : ∃ b off, a = some ⟨b, off, none⟩ ∧ w.cell? ⟨b, off + k, none⟩ = some (C xs[k]) := by
  obtain ⟨a', cap', hv, _, _, _, hc⟩ := h
  cases hv
  rcases hc with h0 | ⟨b, off, ha, hc⟩
  · rw [List.map_eq_nil_iff] at h0; rw [h0] at hk; simp at hk
  · exact ⟨b, off, ha, by rw [hc k (by simpa using hk)]; simp⟩
theorem big_of {l : List ByteArray} {k : Nat} (hk : k < l.length) (h : tot l ≤ 1048576) : l[k].size ≤ 1048576 := by
  have h1 := tot_snoc l k hk
  have h2 := tot_take_le l (k + 1)
  omega

set_option maxHeartbeats 2000000 in
set_option maxRecDepth 100000 in
theorem strKVs_any (v1 v2 : Value) (ks vs : List ByteArray) (w : World) (h1 : Sl v1 (ks.map Value.string) w) (h2 : Sl v2 (vs.map Value.string) w) (hk : ks.length ≤ 1048576) (t1 : tot ks ≤ 1048576) (t2 : tot vs ≤ 1048576) :
    Calls Tryd.prog 22 #[v1, v2] w (KVs w (kvS ks vs) ks.length) := by
  have H1 := Lib.hid h1
  have H2 := Lib.hid h2
  obtain ⟨a1, c1, e1, _⟩ := h1
  obtain ⟨a2, c2, e2, _⟩ := h2
  rw [List.length_map] at e1 e2
  subst e1 e2
  have hmk := fun W => run_mkE kvinfo Tryd.underlying40 rfl ks.length hk W
  go_enter Tryd.func22, Tryd.ntmps22
  go_wp2_with fail
  obtain ⟨W0, hW0⟩ : ∃ W, W = w.alloc (.cells (Array.replicate ks.length (Value.pointer none)) 55) := ⟨_, rfl⟩
  rw [← hW0]
  have hb0 : Below w.heap.size w W0 := by rw [hW0]; exact (Below.refl _ _).alloc (Nat.le_refl _) _
  have hN0 : Nd w.heap.size 55 ((([] : List Nat).map fun q => Value.pointer (some ⟨q, 0, none⟩)) ++ List.replicate (ks.length - 0) (Value.pointer none)).toArray W0 := by rw [hW0]; exact (heap_alloc_at _ _).trans (by simp)
  obtain ⟨g, hg⟩ : ∃ g, g = w.heap.size := ⟨_, rfl⟩
  rw [← hg] at hN0 hb0
  have HG := Lib.hid hg
  have hgg : Value.slice (some ⟨w.heap.size, 0, none⟩) ks.length ks.length = .slice (some ⟨g, 0, none⟩) ks.length ks.length := by rw [hg]
  rw [hgg]
  clear hmk hW0 hg hgg
  go_loopw [6] (KRel (kvS ks vs) ks.length g w) (fun i _ => ks.length - (intOf i).toNat)
  case atStart => exact ⟨0, [], Nat.zero_le _, rfl, rfl, hN0, Lib.hid (fun i h => by simp at h), hb0⟩
  case round =>
    obtain ⟨k, qs, hkk, rfl, hql, hN, hmade, hbw⟩ := hrel
    by_cases hlt : k < ks.length
    · obtain ⟨ba, oa, ha, hca⟩ := sl_cell H1.out hlt
      subst ha
      have la := World.block_lt_of_cell? w _ hca
      simp only at la
      rw [← HG.out] at la
      have ka := (hbw.cell (p := ⟨ba, oa + k, none⟩) la).trans hca
      have hgl := hN.lt
      have hkv : kvS ks vs k = kvT ⟨#[]⟩ ks[k] (quoted (vs.getD k ⟨#[]⟩)) := by unfold kvS; simp [hlt]
      have hxl := big_of hlt t1
      obtain ⟨x, hx⟩ : ∃ x, x = ks[k] := ⟨_, rfl⟩
      rw [← hx] at hkv ka hxl
      have HKV := Lib.hid hkv
      have HN := Lib.hid hN
      clear hx hkv hN hca
      by_cases hv : k < vs.length
      · obtain ⟨bb, ob, hb, hcb⟩ := sl_cell H2.out hv
        subst hb
        have lb := World.block_lt_of_cell? w _ hcb
        simp only at lb
        rw [← HG.out] at lb
        have kb := (hbw.cell (p := ⟨bb, ob + k, none⟩) lb).trans hcb
        have hgd : vs.getD k ⟨#[]⟩ = vs[k] := by simp [hv]
        have hyl := big_of hv t2
        obtain ⟨y, hy⟩ : ∃ y, y = vs[k] := ⟨_, rfl⟩
        rw [← hy] at kb hgd hyl
        have HGD := Lib.hid hgd
        clear hy hgd hcb
        obtain ⟨W1, hW1⟩ : ∃ W, W = (wr.alloc (.cells #[.pointer none, .pointer none, .string ⟨#[]⟩, .string y, .bool false, .bool false, .bool false] 66)).alloc (.cells #[.string ⟨#[]⟩, .string x, .pointer (some ⟨wr.heap.size, 0, none⟩)] 61) := ⟨_, rfl⟩
        have hT1 : Nd wr.heap.size 66 #[.pointer none, .pointer none, .string ⟨#[]⟩, .string y, .bool false, .bool false, .bool false] W1 := by rw [hW1]; exact (Nd.new _ _ _).alloc _
        have hK1 : Nd (wr.heap.size + 1) 61 #[.string ⟨#[]⟩, .string x, .pointer (some ⟨wr.heap.size, 0, none⟩)] W1 := by rw [hW1]; exact Nd.newAt _ _ (by simp)
        have hG1 := (HN.out.alloc (.cells #[.pointer none, .pointer none, .string ⟨#[]⟩, .string y, .bool false, .bool false, .bool false] 66)).alloc (.cells #[.string ⟨#[]⟩, .string x, .pointer (some ⟨wr.heap.size, 0, none⟩)] 61)
        rw [← hW1] at hG1
        have hb1 : Below wr.heap.size wr W1 := by rw [hW1]; exact ((Below.refl _ _).alloc (Nat.le_refl _) _).alloc (by simp) _
        have hz1 : W1.heap.size = wr.heap.size + 1 + 1 := by rw [hW1, size_alloc, size_alloc]
        have cg1 := hG1.cell k (ptrs_get qs k ks.length hql.out hlt)
        have fg1 := hG1.free k
        have HG1 := Lib.hid hG1
        have HT1 := Lib.hid hT1
        have HK1 := Lib.hid hK1
        have HZ1 := Lib.hid hz1
        have hW1' := hW1.symm
        clear hW1 hG1 hT1 hK1 hz1
        go_wp2_with fail
        go_roundw
        case rel =>
          have hz1 := HZ1.out
          have hT1 := HT1.out
          have hK1 := HK1.out
          have hq := hql.out
          refine ⟨k + 1, qs ++ [wr.heap.size + 1], by omega, by go_num, Lib.hid (by rw [List.length_append, hq]; rfl), ?_, ?_, (hbw.trans (hb1.mono (by omega))).setCell (Nat.le_refl _) _⟩
          · rw [← ptrs_set qs k ks.length _ hq hlt]; exact HG1.out.set k _
          · refine Lib.hid (made_snoc (TT := kvS ks vs) hq hmade.out ((Same.below hb1 (Nat.le_refl _)).setCell (.inl (by omega)) _) (by rw [size_setCell]; omega) ?_)
            rw [size_setCell, HKV.out, HGD.out]
            refine Made.same ?_ ((Same.refl _ _ _).setCell (.inl (by omega)) _)
            intro w' hw
            exact prints_ckv (hK1.same hw (by omega) (by omega)) (by omega) (prints_ct (hT1.same hw (by omega) (by omega)) (by omega))
        case measure => simp [intOf]; omega
      · obtain ⟨y, hy⟩ : ∃ y : ByteArray, y = ⟨#[]⟩ := ⟨_, rfl⟩
        have hgd : vs.getD k ⟨#[]⟩ = y := by rw [hy, List.getD_eq_getElem?_getD, List.getElem?_eq_none (by omega)]; rfl
        have hyl : y.size ≤ 1048576 := by rw [hy]; decide
        have HGD := Lib.hid hgd
        have hvd : decide (k < vs.length) = false := by simpa using hv
        subst hy
        clear hgd
        obtain ⟨W1, hW1⟩ : ∃ W, W = (wr.alloc (.cells #[.pointer none, .pointer none, .string ⟨#[]⟩, .string ⟨#[]⟩, .bool false, .bool false, .bool false] 66)).alloc (.cells #[.string ⟨#[]⟩, .string x, .pointer (some ⟨wr.heap.size, 0, none⟩)] 61) := ⟨_, rfl⟩
        have hT1 : Nd wr.heap.size 66 #[.pointer none, .pointer none, .string ⟨#[]⟩, .string ⟨#[]⟩, .bool false, .bool false, .bool false] W1 := by rw [hW1]; exact (Nd.new _ _ _).alloc _
        have hK1 : Nd (wr.heap.size + 1) 61 #[.string ⟨#[]⟩, .string x, .pointer (some ⟨wr.heap.size, 0, none⟩)] W1 := by rw [hW1]; exact Nd.newAt _ _ (by simp)
        have hG1 := (HN.out.alloc (.cells #[.pointer none, .pointer none, .string ⟨#[]⟩, .string ⟨#[]⟩, .bool false, .bool false, .bool false] 66)).alloc (.cells #[.string ⟨#[]⟩, .string x, .pointer (some ⟨wr.heap.size, 0, none⟩)] 61)
        rw [← hW1] at hG1
        have hb1 : Below wr.heap.size wr W1 := by rw [hW1]; exact ((Below.refl _ _).alloc (Nat.le_refl _) _).alloc (by simp) _
        have hz1 : W1.heap.size = wr.heap.size + 1 + 1 := by rw [hW1, size_alloc, size_alloc]
        have cg1 := hG1.cell k (ptrs_get qs k ks.length hql.out hlt)
        have fg1 := hG1.free k
        have HG1 := Lib.hid hG1
        have HT1 := Lib.hid hT1
        have HK1 := Lib.hid hK1
        have HZ1 := Lib.hid hz1
        have hW1' := hW1.symm
        clear hW1 hG1 hT1 hK1 hz1
        go_wp2_with fail
        go_roundw
        case rel =>
          have hz1 := HZ1.out
          have hT1 := HT1.out
          have hK1 := HK1.out
          have hq := hql.out
          refine ⟨k + 1, qs ++ [wr.heap.size + 1], by omega, by go_num, Lib.hid (by rw [List.length_append, hq]; rfl), ?_, ?_, (hbw.trans (hb1.mono (by omega))).setCell (Nat.le_refl _) _⟩
          · rw [← ptrs_set qs k ks.length _ hq hlt]; exact HG1.out.set k _
          · refine Lib.hid (made_snoc (TT := kvS ks vs) hq hmade.out ((Same.below hb1 (Nat.le_refl _)).setCell (.inl (by omega)) _) (by rw [size_setCell]; omega) ?_)
            rw [size_setCell, HKV.out, HGD.out]
            refine Made.same ?_ ((Same.refl _ _ _).setCell (.inl (by omega)) _)
            intro w' hw
            exact prints_ckv (hK1.same hw (by omega) (by omega)) (by omega) (prints_ct (hT1.same hw (by omega) (by omega)) (by decide))
        case measure => simp [intOf]; omega
    · obtain rfl : k = ks.length := by omega
      have hN2 : Nd g 55 (qs.map fun q => Value.pointer (some ⟨q, 0, none⟩)).toArray wr := by simpa using hN
      have HN2 := Lib.hid hN2
      clear hN hN2
      go_wp2_with fail
      go_ret
      exact ⟨g, qs, rfl, by have := HG.out; omega, hql.out, HN2.out, hmade.out, hbw.mono (by have := HG.out; omega)⟩
end Go.Proofs.YtbdjddgihnmemaaDoor
