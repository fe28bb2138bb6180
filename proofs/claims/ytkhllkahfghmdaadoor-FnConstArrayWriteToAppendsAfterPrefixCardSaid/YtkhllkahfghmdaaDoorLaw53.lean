/- FnConstArrayWriteToAppendsAfterPrefix: the helpers (printed by wip/tools/gen_53.py). -/
import Derived.Test.YtkhllkahfghmdaaDoorNodes
import Derived.Test.YtkhllkahfghmdaaDoorStr
import Derived.Test.YtkhllkahfghmdaaDoorMade
import Derived.Test.YtkhllkahfghmdaaDoorHelp
import Derived.StillTailTactics
import Derived.BigRegion
namespace Go.Proofs.YtkhllkahfghmdaaDoor
open Go.RowKit

/-- What zzStrBytes answers: the count, or something past the limit. -/
def SB (T : Nat) (w : World) (e : Ending) (w' : World) : Prop := ∃ q : Nat, e = .returned (.int .i64 q) ∧ ((T ≤ 1048576 ∧ q = T) ∨ (1048576 < T ∧ 1048576 < q ∧ q ≤ 40000000)) ∧ w = w'
set_option maxHeartbeats 1000000 in
theorem strBytes_any (v : Value) (ss : List ByteArray) (w : World) (h : Sl v (ss.map Value.string) w) (hl : ss.length + tot ss ≤ 1048576) :
    Calls Tryd.prog 5 #[v] w (SB (16 * ss.length + tot ss) w) := by
  obtain ⟨a, cap, rfl, _, _, _, hc⟩ := h
  rw [List.length_map]
  have HC := Lib.hid hc
  clear hc
  have HTk := Lib.hid (tot_take_le ss)
  go_enter Tryd.func5, Tryd.ntmps5
  go_wp2_with fail
  go_loop [3, 4] (fun z i => ∃ k q : Nat, k ≤ ss.length ∧ i = .int .i64 k ∧ z = .int .i64 q ∧ Hid (q = 16 * ss.length + tot (ss.take k)) ∧ (k = 0 ∨ q ≤ 1048576) ∧ q ≤ 20000000) (fun _ i => ss.length - (intOf i).toNat)
  case atStart => exact ⟨0, 16 * ss.length, Nat.zero_le _, rfl, by go_num, Lib.hid (by simp [tot]), .inl rfl, by omega⟩
  case round =>
    obtain ⟨k, q, hk, rfl, rfl, hq, hor, hq2⟩ := hrel
    by_cases hlt : k < ss.length
    · obtain ⟨b, off, ha, hc⟩ : ∃ b off, a = some ⟨b, off, none⟩ ∧ ∀ i (h : i < (ss.map Value.string).length), w.cell? ⟨b, off + i, none⟩ = some (ss.map Value.string)[i] := HC.out.resolve_left (by intro h; rw [List.map_eq_nil_iff] at h; rw [h] at hlt; simp at hlt)
      subst ha
      have ck := hc k (by simpa using hlt)
      rw [List.getElem_map] at ck
      obtain ⟨x, hx⟩ : ∃ x, x = ss[k] := ⟨_, rfl⟩
      have hn : Hid (q + x.size = 16 * ss.length + tot (ss.take (k + 1))) := Lib.hid (by rw [tot_snoc _ _ hlt, hq.out, hx]; omega)
      have hxl : x.size ≤ 1048576 := by have h1 := hn.out; have h2 := HTk.out (k + 1); have h3 := hq.out; omega
      have hle : Hid (q + x.size ≤ 16 * ss.length + tot ss) := Lib.hid (by have h1 := hn.out; have h2 := HTk.out (k + 1); omega)
      rw [← hx] at ck
      clear hc hx hor
      by_cases hfit : q + x.size ≤ 1048576
      · go_wp2_with fail
        go_round
        case rel => exact ⟨k + 1, q + x.size, by omega, by go_num, by go_num, hn, .inr hfit, by omega⟩
        case measure => simp [intOf]; omega
      · go_wp2_with fail
        go_ret
        exact ⟨q + x.size, ret_int (by simp), .inr ⟨by have := hle.out; omega, by omega, by omega⟩, rfl⟩
    · obtain rfl : k = ss.length := by omega
      have he : Hid (q = 16 * ss.length + tot ss ∧ q ≤ 1048576) := Lib.hid (by
        have h1 := hq.out; rw [tot_all] at h1
        refine ⟨h1, ?_⟩
        rcases hor with h0 | h0
        · omega
        · exact h0)
      clear hq hor
      go_wp2_with fail
      go_ret
      exact ⟨q, rfl, .inl ⟨by have := he.out; omega, he.out.1⟩, rfl⟩

theorem hasPrefix_any (s p : ByteArray) (w : World) (h : ∃ R, s.data.toList = p.data.toList ++ R) (hs : s.size ≤ 200000000) :
    Calls Tryd.prog 10 #[.string s, .string p] w fun e w' => e = .returned (.bool true) ∧ Below w.heap.size w w' := by
  obtain ⟨R, hR⟩ := h
  have h1 : s.data.toList.length = s.size := rfl
  have h2 : p.data.toList.length = p.size := rfl
  have hsz : p.size ≤ s.size := by rw [← h1, hR, List.length_append, h2]; omega
  have heq : ∀ k (hk : k < p.size), s[k]'(Nat.lt_of_lt_of_le hk hsz) = p[k] := by
    intro k hk
    have e1 : s[k]'(Nat.lt_of_lt_of_le hk hsz) = s.data.toList[k]'(by rw [h1]; omega) := rfl
    have e2 : p[k] = p.data.toList[k]'(by rw [h2]; omega) := rfl
    rw [e1, e2]
    have := List.getElem_of_eq hR (by rw [h1]; omega : k < s.data.toList.length)
    rw [this, List.getElem_append_left]
  have HE := Lib.hid heq
  clear heq hR h1 h2
  go_enter Tryd.func10, Tryd.ntmps10
  go_wp2_with fail
  go_loopw [5] (fun i wr => ∃ k : Nat, k ≤ p.size ∧ i = .int .i64 k ∧ Below w.heap.size w wr) (fun i _ => p.size - (intOf i).toNat)
  case atStart => exact ⟨0, Nat.zero_le _, rfl, Below.refl _ _⟩
  case round =>
    obtain ⟨k, hk, rfl, hbw⟩ := hrel
    by_cases hlt : k < p.size
    · have hks : k < s.size := by omega
      have he : (s[k].toNat : Int) = (p[k].toNat : Int) := by rw [HE.out k hlt]
      have i1 : (k : Int) < (s.size : Int) := by omega
      have i2 : (k : Int) < (p.size : Int) := by omega
      go_wp2_with fail
      go_quiet (fail)
      go_wp2_with fail
      go_roundw
      case rel => exact ⟨k + 1, by omega, by go_num, ⟨hbw.os, hbw.tape, hbw.output, hbw.size, hbw.block⟩⟩
      case measure => simp [intOf]; omega
    · go_wp2_with fail
      go_ret
      exact ⟨rfl, hbw⟩

def bitB (z m : Int) : Bool := bits .and .u8 z m != 0
/-- What the i-th constant prints. -/
def elT (ns ss : List ByteArray) (zs : List Int) (i : Nat) : List UInt8 := ctT (ns.getD i ⟨#[]⟩) (ss.getD i ⟨#[]⟩) (bitB (zs.getD i 0) 1) (bitB (zs.getD i 0) 2) (bitB (zs.getD i 0) 4)
theorem ctinfo : (Tryd.prog.info? 29).map (fun i => (i.zero, i.size, decide (i.bytes ≤ 16))) = some (some (Value.pointer none), 1, true) := by kernel_rfl
def ERel' (ns ss : List ByteArray) (zs : List Int) (g : Nat) (w : World) (vi : Value) (wr : World) : Prop :=
  ∃ (k : Nat) (qs : List Nat), k ≤ ns.length ∧ vi = .int .i64 k ∧ Hid (qs.length = k) ∧ Nd g 29 ((qs.map fun q => Value.pointer (some ⟨q, 0, none⟩)) ++ List.replicate (ns.length - k) (Value.pointer none)).toArray wr ∧
    Hid (∀ i (h : i < qs.length), Made (g + 1) wr.heap.size 15 qs[i] Any (elT ns ss zs i) wr) ∧ Below g w wr
theorem ptrs_get (qs : List Nat) (k n : Nat) (h : qs.length = k) (hk : k < n) : ((qs.map fun q => Value.pointer (some ⟨q, 0, none⟩)) ++ List.replicate (n - k) (Value.pointer none)).toArray[k]? = some (Value.pointer none) := by
  rw [List.getElem?_toArray, List.getElem?_append_right (by simp; omega), List.length_map, h, Nat.sub_self, List.getElem?_replicate, if_pos (by omega)]
theorem ptrs_set (qs : List Nat) (k n q : Nat) (h : qs.length = k) (hk : k < n) : ((qs.map fun q => Value.pointer (some ⟨q, 0, none⟩)) ++ List.replicate (n - k) (Value.pointer none)).toArray.setIfInBounds k (Value.pointer (some ⟨q, 0, none⟩)) = (((qs ++ [q]).map fun q => Value.pointer (some ⟨q, 0, none⟩)) ++ List.replicate (n - (k + 1)) (Value.pointer none)).toArray := by
  apply Array.ext'
  simp only [Array.toList_setIfInBounds]
  have e : n - k = (n - (k + 1)) + 1 := by omega
  rw [e, List.replicate_succ]
  conv => lhs; rw [List.set_append_right _ _ (by simp; omega), List.length_map, h, Nat.sub_self]
  rw [List.set_cons_zero, List.map_append, List.append_assoc]
  rfl
theorem made_snoc {F : FuncId} {ok : List UInt8 → Prop} {TT : Nat → List UInt8} {g k q : Nat} {qs : List Nat} {wr W : World} (hl : qs.length = k) (h : ∀ i (h : i < qs.length), Made (g + 1) wr.heap.size F qs[i] ok (TT i) wr) (hs : Same (g + 1) wr.heap.size wr W) (hz : wr.heap.size ≤ W.heap.size)
    (hq : Made (g + 1) W.heap.size F q ok (TT k) W) : ∀ i (h : i < (qs ++ [q]).length), Made (g + 1) W.heap.size F (qs ++ [q])[i] ok (TT i) W := by
  intro i hi
  by_cases e : i < qs.length
  · rw [List.getElem_append_left e]
    exact ((h i e).same hs).wide (Nat.le_refl _) hz
  · have : i = k := by simp at hi; omega
    subst this
    rw [List.getElem_append_right (by omega)]
    simp only [hl, Nat.sub_self, List.getElem_cons_zero]
    exact hq
theorem sl_cell {α : Type} {C : α → Value} {a : Option Addr} {n cap : Nat} {xs : List α} {w : World} (h : Sl (.slice a n cap) (xs.map C) w) {k : Nat} (hk : k < xs.length) : ∃ b off, a = some ⟨b, off, none⟩ ∧ w.cell? ⟨b, off + k, none⟩ = some (C xs[k]) := by
  obtain ⟨a', cap', hv, _, _, _, hc⟩ := h
  cases hv
  rcases hc with h0 | ⟨b, off, ha, hc⟩
  · rw [List.map_eq_nil_iff] at h0; rw [h0] at hk; simp at hk
  · exact ⟨b, off, ha, by rw [hc k (by simpa using hk)]; simp⟩
theorem seqT_len53 (ns ss : List ByteArray) (zs : List Int) (h1 : ss.length = ns.length) : ∀ k, k ≤ ns.length → (seqT [44, 32] (elT ns ss zs) k).length ≤ 7 * k + tot (ns.take k) + 6 * tot (ss.take k) := by
  intro k
  induction k with
  | zero => intro _; simp [seqT]
  | succ k ih =>
    intro hk
    have i1 := ih (by omega)
    have i2 : (elT ns ss zs k).length ≤ ns[k].size + 6 * ss[k].size + 5 := by
      unfold elT
      rw [show ns.getD k ⟨#[]⟩ = ns[k] by simp [show k < ns.length by omega], show ss.getD k ⟨#[]⟩ = ss[k] by simp [show k < ss.length by omega]]
      exact ctT_len _ _ _ _ _
    rw [tot_snoc ns k (by omega), tot_snoc ss k (by omega)]
    simp only [seqT, List.length_append]
    split <;> simp only [List.length_cons, List.length_nil] <;> omega

set_option maxHeartbeats 4000000 in
set_option maxRecDepth 100000 in
theorem law53_good (p : ByteArray) (v1 v2 v3 : Value) (ns : List ByteArray) (zs : List Int) (ss : List ByteArray) (w : World) (hT : Lib.Utf8Tabs 0 1 w) (hp : p.size ≤ maxLen) (h1 : Sl v1 (ns.map Value.string) w) (g1 : ∀ s ∈ ns, s.size ≤ maxLen) (h2 : Sl v2 (zs.map (Value.int .u8)) w) (h3 : Sl v3 (ss.map Value.string) w) (g3 : ∀ s ∈ ss, s.size ≤ maxLen)
    (hz : zs.length = ns.length) (hsn : ss.length = ns.length) (hn : ns.length ≤ 65536) (hb1 : p.size + (ns.length + tot ns) + (zs.map (Value.int .u8)).length + (ss.length + tot ss) ≤ 1048576) (hb2 : p.size + (16 * ns.length + tot ns) + ns.length + (16 * ns.length + tot ss) ≤ 1048576) :
    Calls Tryd.prog 3 #[.string p, v1, v2, v3] w fun e w' => e = .returned (.bool true) ∧ Below w.heap.size w w' := by
  have HBy := Lib.hid (bytes_FnConstArrayWriteToAppendsAfterPrefix p v1 ns v2 (zs.map (Value.int .u8)) v3 ss w hp h1 g1 h2 h3 g3)
  have hft : fitT (p.size + (ns.length + tot ns) + (zs.map (Value.int .u8)).length + (ss.length + tot ss)) = true := by unfold fitT; simpa using hb1
  rw [hft] at HBy
  have HB1 := Lib.hid (strBytes_any v1 ns w h1 (by omega))
  have HB3 := Lib.hid (strBytes_any v3 ss w h3 (by omega))
  rw [hsn] at HB3
  have H1 := Lib.hid h1
  have H2 := Lib.hid h2
  have H3 := Lib.hid h3
  have HT := Lib.hid hT
  obtain ⟨a1, c1, e1, _⟩ := h1
  obtain ⟨a2, c2, e2, _⟩ := h2
  obtain ⟨a3, c3, e3, _⟩ := h3
  rw [List.length_map] at e1 hb1
  rw [List.length_map, hz] at e2
  rw [List.length_map, hsn] at e3
  subst e1 e2 e3
  have HZ := Lib.hid hz
  have HSN := Lib.hid hsn
  have htn : tot ns ≤ 1048576 := by omega
  have hts : tot ss ≤ 1048576 := by omega
  have hps : p.size ≤ 1048576 := by omega
  clear hft hT hz hsn g1 g3 hp
  go_enter Tryd.func3, Tryd.ntmps3
  go_wp2_with fail
  refine HBy.out.mono ?_
  rintro e w' ⟨rfl, rfl⟩
  go_wp2_with fail
  refine HB1.out.mono ?_
  rintro e w' ⟨q1, rfl, hq1, rfl⟩
  obtain ⟨hq1a, hq1b⟩ := hq1.resolve_right (by omega)
  subst hq1b
  clear hq1
  go_wp2_with fail
  refine HB3.out.mono ?_
  rintro e w' ⟨q3, rfl, hq3, rfl⟩
  obtain ⟨hq3a, hq3b⟩ := hq3.resolve_right (by omega)
  subst hq3b
  clear hq3 HBy HB1 HB3
  go_wp2_with fail
  refine (clone_zzCloneStrings _ ns w H1.out (by omega)).mono ?_
  rintro e wa ⟨va, rfl, hSa, hba⟩
  have H2a := Lib.hid (H2.out.below hba (Nat.le_refl _))
  have H3a := Lib.hid (H3.out.below hba (Nat.le_refl _))
  have HSa := Lib.hid hSa
  obtain ⟨aa, ca, ea, _⟩ := hSa
  rw [List.length_map] at ea
  subst ea
  clear H1 H2 H3
  go_wp2_with fail
  refine (clone_zzCloneBytes _ zs wa H2a.out (by have := HZ.out; omega)).mono ?_
  rintro e wb ⟨vb, rfl, hSb, hbb⟩
  have HSa := Lib.hid (HSa.out.below hbb (Nat.le_refl _))
  have H3b := Lib.hid (H3a.out.below hbb (Nat.le_refl _))
  have HSb := Lib.hid hSb
  obtain ⟨ab, cb, eb, _⟩ := hSb
  rw [List.length_map, HZ.out] at eb
  subst eb
  have hbab := hba.trans (hbb.mono hba.size)
  clear H2a H3a hba hbb
  go_wp2_with fail
  refine (clone_zzCloneStrings _ ss wb H3b.out (by have := HSN.out; omega)).mono ?_
  rintro e wc ⟨vc, rfl, hSc, hbc⟩
  have HSa := Lib.hid (HSa.out.below hbc (Nat.le_refl _))
  have HSb := Lib.hid (HSb.out.below hbc (Nat.le_refl _))
  have HSc := Lib.hid hSc
  obtain ⟨ac, cc, ec, _⟩ := hSc
  rw [List.length_map, HSN.out] at ec
  subst ec
  have hbabc := hbab.trans (hbc.mono hbab.size)
  clear H3b hbab hbc
  have hmk := fun W => run_mkE ctinfo Tryd.underlying28 rfl ns.length (by omega) W
  go_wp2_with fail
  obtain ⟨W0, hW0⟩ : ∃ W, W = wc.alloc (.cells (Array.replicate ns.length (Value.pointer none)) 29) := ⟨_, rfl⟩
  rw [← hW0]
  have hb0 : Below wc.heap.size wc W0 := by rw [hW0]; exact (Below.refl _ _).alloc (Nat.le_refl _) _
  have hN0 : Nd wc.heap.size 29 ((([] : List Nat).map fun q => Value.pointer (some ⟨q, 0, none⟩)) ++ List.replicate (ns.length - 0) (Value.pointer none)).toArray W0 := by rw [hW0]; exact (heap_alloc_at _ _).trans (by simp)
  obtain ⟨g, hg⟩ : ∃ g, g = wc.heap.size := ⟨_, rfl⟩
  rw [← hg] at hN0 hb0
  have HG := Lib.hid hg
  have hgg : Value.slice (some ⟨wc.heap.size, 0, none⟩) ns.length ns.length = .slice (some ⟨g, 0, none⟩) ns.length ns.length := by rw [hg]
  rw [hgg]
  clear hmk hW0 hg hgg
  go_loopw [10] (ERel' ns ss zs g wc) (fun i _ => ns.length - (intOf i).toNat)
  case atStart => exact ⟨0, [], Nat.zero_le _, rfl, rfl, hN0, Lib.hid (fun i h => by simp at h), hb0⟩
  case round =>
    obtain ⟨k, qs, hk, rfl, hql, hN, hmade, hbw⟩ := hrel
    by_cases hlt : k < ns.length
    · obtain ⟨ba, oa, ha, hca⟩ := sl_cell HSa.out hlt
      obtain ⟨bb, ob, hb, hcb⟩ := sl_cell HSb.out (by rw [HZ.out]; exact hlt)
      obtain ⟨bc, oc, hc, hcc⟩ := sl_cell HSc.out (by rw [HSN.out]; exact hlt)
      subst ha hb hc
      have la := World.block_lt_of_cell? wc _ hca
      have lb := World.block_lt_of_cell? wc _ hcb
      have lc := World.block_lt_of_cell? wc _ hcc
      simp only at la lb lc
      rw [← HG.out] at la lb lc
      have ka := (hbw.cell (p := ⟨ba, oa + k, none⟩) la).trans hca
      have kb := (hbw.cell (p := ⟨bb, ob + k, none⟩) lb).trans hcb
      have kc := (hbw.cell (p := ⟨bc, oc + k, none⟩) lc).trans hcc
      have cg := hN.cell k (ptrs_get qs k ns.length hql.out hlt)
      have fg := hN.free k
      have hgl := hN.lt
      have helT : elT ns ss zs k = ctT ns[k] (ss[k]'(by rw [HSN.out]; exact hlt)) (bitB (zs[k]'(by rw [HZ.out]; exact hlt)) 1) (bitB (zs[k]'(by rw [HZ.out]; exact hlt)) 2) (bitB (zs[k]'(by rw [HZ.out]; exact hlt)) 4) := by
        unfold elT; simp [hlt, HSN.out, HZ.out]
      obtain ⟨x, hx⟩ : ∃ x, x = ns[k] := ⟨_, rfl⟩
      obtain ⟨y, hy⟩ : ∃ y, y = ss[k]'(by rw [HSN.out]; exact hlt) := ⟨_, rfl⟩
      obtain ⟨z, hz⟩ : ∃ z, z = zs[k]'(by rw [HZ.out]; exact hlt) := ⟨_, rfl⟩
      rw [← hx, ← hy, ← hz] at helT
      rw [← hx] at ka
      rw [← hy] at kc
      rw [← hz] at kb
      have hyl : y.size ≤ 10000000 := by
        have h1 := tot_snoc ss k (by rw [HSN.out]; exact hlt)
        have h2 := tot_take_le ss (k + 1)
        rw [hy]; omega
      have HEL := Lib.hid helT
      have HN := Lib.hid hN
      clear hx hy hz helT hN hca hcb hcc
      go_wp2_with fail
      go_region
      go_wp2_with fail
      go_roundw
      case rel =>
        have hq := hql.out
        have hNew : Nd wr.heap.size 33 #[.pointer none, .pointer none, .string x, .string y, .bool (bits BinOp.and IntKind.u8 z 1 != 0), .bool (bits BinOp.and IntKind.u8 z 2 != 0), .bool (bits BinOp.and IntKind.u8 z 4 != 0)] ((wr.setCell ⟨g, k, none⟩ (Value.pointer (some ⟨wr.heap.size, 0, none⟩))).alloc (.cells #[.pointer none, .pointer none, .string x, .string y, .bool (bits BinOp.and IntKind.u8 z 1 != 0), .bool (bits BinOp.and IntKind.u8 z 2 != 0), .bool (bits BinOp.and IntKind.u8 z 4 != 0)] 33)) := Nd.newAt _ _ (size_setCell _ _ _).symm
        refine ⟨k + 1, qs ++ [wr.heap.size], by omega, by go_num, Lib.hid (by rw [List.length_append, hq]; rfl), ?_, ?_, ((hbw.setCell (Nat.le_refl _) _).alloc (by rw [size_setCell]; omega) _).drew⟩
        · rw [← ptrs_set qs k ns.length _ hq hlt]; exact (HN.out.set k _).alloc _
        · refine Lib.hid (made_snoc (TT := elT ns ss zs) hq hmade.out ?_ ?_ ?_)
          · exact Same.trans (b := wr.setCell ⟨g, k, none⟩ (Value.pointer (some ⟨wr.heap.size, 0, none⟩))) ((Same.refl _ _ _).setCell (.inl (by omega)) _) (fun i h1 h2 => heap_alloc_ne (by rw [size_setCell]; exact h2))
          · show wr.heap.size ≤ (World.alloc _ _).heap.size
            rw [size_alloc, size_setCell]; omega
          · rw [HEL.out]
            intro w' hw
            exact prints_ct (Nd.same (w := (wr.setCell ⟨g, k, none⟩ (Value.pointer (some ⟨wr.heap.size, 0, none⟩))).alloc (.cells #[.pointer none, .pointer none, .string x, .string y, .bool (bits BinOp.and IntKind.u8 z 1 != 0), .bool (bits BinOp.and IntKind.u8 z 2 != 0), .bool (bits BinOp.and IntKind.u8 z 4 != 0)] 33)) hNew hw (by omega) (by show _ < (World.alloc _ _).heap.size; rw [size_alloc, size_setCell]; omega)) hyl
      case measure => simp [intOf]; omega
    · obtain rfl : k = ns.length := by omega
      have hq := hql.out
      have hN2 : Nd g 29 (qs.map fun q => Value.pointer (some ⟨q, 0, none⟩)).toArray wr := by simpa using hN
      have HM := hmade
      have HN2 := Lib.hid hN2
      have hbw2 : Below w.heap.size w wr := hbabc.trans (hbw.mono (by have := HG.out; have := hbabc.size; omega))
      have hTl := seqT_len53 ns ss zs HSN.out ns.length (Nat.le_refl _)
      rw [tot_all] at hTl
      have hts2 : tot (ss.take ns.length) ≤ tot ss := tot_take_le _ _
      obtain ⟨T, hTT⟩ : ∃ T, seqT [44, 32] (elT ns ss zs) ns.length = T := ⟨_, rfl⟩
      rw [hTT] at hTl
      have HTT := Lib.hid hTT
      clear hN hmade hN2 hTT hq hbw hbabc hb0 hN0 HSa HSb HSc
      go_wp2_with fail
      obtain ⟨W, hW⟩ : ∃ W, W = wr.alloc (.cells #[.slice (some ⟨g, 0, none⟩) ns.length ns.length] 35) := ⟨_, rfl⟩
      rw [← hW]
      have hbW : Below wr.heap.size wr W := by rw [hW]; exact (Below.refl _ _).alloc (Nat.le_refl _) _
      have hNa : Nd wr.heap.size 35 #[.slice (some ⟨g, 0, none⟩) ns.length ns.length] W := by rw [hW]; exact Nd.new _ _ _
      clear hW
      have hbw := hbw2.trans (hbW.mono hbw2.size)
      have hTW := tabs_below HT.out hbw (by have := tabs_size HT.out; omega) (by have := tabs_size HT.out; omega)
      have hq := hql.out
      have PA : Prints 11 wr.heap.size Any ([91] ++ T ++ [93]) W := by
        rw [← HTT.out]
        rw [← hq] at hNa ⊢
        exact prints_carr hNa (HN2.out.below hbW HN2.out.lt) (by omega) (fun i hi => (HM.out i hi).prints.pres (Pres.below hbW (Nat.le_refl _)))
      obtain ⟨t, ht⟩ : ∃ t : ByteArray, t = ⟨([91] ++ T ++ [93]).toArray⟩ := ⟨_, rfl⟩
      have htd : t.data.toList = [91] ++ T ++ [93] := by rw [ht]
      have htz : t.size = T.length + 2 := by have : t.size = t.data.toList.length := rfl; rw [this, htd]; simp
      have hlen0 : ([91] ++ T ++ [93]).length ≤ 100000000 := by simp only [List.length_append, List.length_cons, List.length_nil]; omega
      have C1 := str_ConstArray PA trivial hTW (by omega)
      have C2 := fun w2 (h : Below W.heap.size W w2) => after_ConstArray p (PA.pres (Pres.below h (Nat.le_refl _))) trivial (tabs_below hTW h (by have := tabs_size hTW; omega) (by have := tabs_size hTW; omega)) (by omega)
      have e1 : (⟨([91] ++ T ++ [93]).toArray⟩ : ByteArray) = t := ht.symm
      have e2 : (⟨(p.data.toList ++ ([91] ++ T ++ [93])).toArray⟩ : ByteArray) = p ++ t := by
        apply ByteArray.ext
        rw [ByteArray.data_append, ht]
        simp
      unfold Str at C1 C2
      rw [e1] at C1
      rw [e2] at C2
      have ht2 : 2 ≤ t.size := by omega
      have htl : t.size ≤ 100000000 := by omega
      have hidx : t.size - 1 < t.size := Nat.sub_lt (Nat.lt_of_lt_of_le (by decide) ht2) (by decide)
      have hidx0 : 0 < t.size := Nat.lt_of_lt_of_le (by decide) ht2
      have i0 : (t[0].toNat : Int) = 91 := by
        have h0 : t[0] = t.data.toList[0]'hidx0 := rfl
        have h1 : t.data.toList[0]? = some 91 := by rw [htd]; simp
        have h2 : t.data.toList[0]'hidx0 = 91 := (List.getElem_eq_iff hidx0).2 h1
        rw [h0, h2]; rfl
      have il : (t[t.size - 1].toNat : Int) = 93 := by
        have h0 : t[t.size - 1] = t.data.toList[t.size - 1]'hidx := rfl
        have h1 : t.data.toList[t.size - 1]? = some 93 := by rw [htd, htz, List.getElem?_append_right (by simp)]; simp
        have h2 : t.data.toList[t.size - 1]'hidx = 93 := (List.getElem_eq_iff hidx).2 h1
        rw [h0, h2]; rfl
      have hz1 : p.size + t.size ≤ 9223372036854775807 := by omega
      have hz2 : p.size + (⟨#[91]⟩ : ByteArray).size ≤ 9223372036854775807 := by show p.size + 1 ≤ _; omega
      have hpre : ∃ R, (p ++ t).data.toList = (p ++ ⟨#[91]⟩).data.toList ++ R := ⟨T ++ [93], by rw [ByteArray.data_append, ByteArray.data_append, Array.toList_append, htd, Array.toList_append]; simp⟩
      have hpsz : (p ++ t).size ≤ 200000000 := by rw [ByteArray.size_append]; omega
      have HC1 := Lib.hid C1
      have HC2 := Lib.hid C2
      have HPR := Lib.hid (fun wq : World => hasPrefix_any (p ++ t) (p ++ ⟨#[91]⟩) wq hpre hpsz)
      clear C1 C2 PA ht htd htz e1 e2 hpre hNa hTW hq HN2 HM hlen0 hTl
      refine HC1.out.mono ?_
      rintro e w4 ⟨rfl, hb4⟩
      clear HC1
      go_wp2_with fail
      refine (HC2.out w4 hb4).mono ?_
      rintro e w5 ⟨rfl, hb5⟩
      clear HC2
      go_wp2_with fail
      refine (HPR.out _).mono ?_
      rintro e w6 ⟨rfl, hb6⟩
      go_wp2_with fail
      go_ret
      have s4 := hb4.size
      have s5 := hb5.size
      exact ⟨rfl, hbw.trans ((hb4.mono hbw.size).trans ((hb5.mono (Nat.le_trans hbw.size s4)).trans (hb6.mono (Nat.le_trans hbw.size (Nat.le_trans s4 s5)))))⟩
end Go.Proofs.YtkhllkahfghmdaaDoor
