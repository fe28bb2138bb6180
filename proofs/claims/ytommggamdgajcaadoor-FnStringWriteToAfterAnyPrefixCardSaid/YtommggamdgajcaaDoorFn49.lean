/- Calls: built, printed, modelled (printed by wip/tools/gen_f49.py). -/
import Derived.Test.YtommggamdgajcaaDoorNodes
import Derived.Test.YtommggamdgajcaaDoorStr
import Derived.Test.YtommggamdgajcaaDoorMade
import Derived.Test.YtommggamdgajcaaDoorOwn
import Derived.Test.YtommggamdgajcaaDoorHelp
import Derived.Lib.ConvBytes
namespace Go.Proofs.YtommggamdgajcaaDoor
open Go.RowKit

def capS (n : Nat) : Nat := if n ≤ 1048576 then n else 1048577
set_option maxHeartbeats 1000000 in
theorem size_any (v : Value) (ss : List ByteArray) (w : World) (h : Sl v (ss.map Value.string) w) (hl : ss.length + tot ss ≤ 1048576) :
    Calls Tryd.prog 16 #[v] w fun e w' => e = .returned (.int .i64 (capS (8 * ss.length + tot ss) : Nat)) ∧ w = w' := by
  obtain ⟨a, cap, rfl, _, _, _, hc⟩ := h
  rw [List.length_map]
  have HC := Lib.hid hc
  clear hc
  have ht := tot_take_le ss
  have HTk := Lib.hid ht
  clear ht
  go_enter Tryd.func16, Tryd.ntmps16
  go_wp2_with fail
  go_loop [3, 4] (fun z i => ∃ k q : Nat, k ≤ ss.length ∧ i = .int .i64 k ∧ z = .int .i64 q ∧ Hid (q = 8 * ss.length + tot (ss.take k)) ∧ (k = 0 ∨ q ≤ 1048576) ∧ q ≤ 20000000) (fun _ i => ss.length - (intOf i).toNat)
  case atStart => exact ⟨0, 8 * ss.length, Nat.zero_le _, rfl, by go_num, Lib.hid (by simp [tot]), .inl rfl, by omega⟩
  case round =>
    obtain ⟨k, q, hk, rfl, rfl, hq, hor, hq2⟩ := hrel
    by_cases hlt : k < ss.length
    · obtain ⟨b, off, ha, hc⟩ : ∃ b off, a = some ⟨b, off, none⟩ ∧ ∀ i (h : i < (ss.map Value.string).length), w.cell? ⟨b, off + i, none⟩ = some (ss.map Value.string)[i] := HC.out.resolve_left (by intro h; rw [List.map_eq_nil_iff] at h; rw [h] at hlt; simp at hlt)
      subst ha
      have ck := hc k (by simpa using hlt)
      rw [List.getElem_map] at ck
      obtain ⟨x, hx⟩ : ∃ x, x = ss[k] := ⟨_, rfl⟩
      have hn : Hid (q + x.size = 8 * ss.length + tot (ss.take (k + 1))) := Lib.hid (by rw [tot_snoc _ _ hlt, hq.out, hx]; omega)
      have hxl : x.size ≤ 1048576 := by have h1 := hn.out; have h2 := HTk.out (k + 1); have h3 := hq.out; omega
      have hle : Hid (q + x.size ≤ 8 * ss.length + tot ss) := Lib.hid (by have h1 := hn.out; have h2 := HTk.out (k + 1); omega)
      rw [← hx] at ck
      clear hc hx hor
      by_cases hfit : q + x.size ≤ 1048576
      · go_wp2_with fail
        go_round
        case rel => exact ⟨k + 1, q + x.size, by omega, by go_num, by go_num, hn, .inr hfit, by omega⟩
        case measure => simp [intOf]; omega
      · go_wp2_with fail
        go_ret
        exact ⟨ret_int (by have := hle.out; unfold capS; rw [if_neg (by omega)]; rfl), rfl⟩
    · obtain rfl : k = ss.length := by omega
      have he : Hid (q = 8 * ss.length + tot ss ∧ q ≤ 1048576) := Lib.hid (by
        have h1 := hq.out; rw [tot_all] at h1
        refine ⟨h1, ?_⟩
        rcases hor with h0 | h0
        · omega
        · exact h0)
      clear hq hor
      go_wp2_with fail
      go_ret
      exact ⟨ret_int (by unfold capS; rw [if_pos (by have := he.out; omega), he.out.1]), rfl⟩

/-- bs[i], or false. -/
def flagB (bs : List Bool) (i : Nat) : Bool := bs.getD i false
theorem Prints.safe {f : FuncId} {p : Nat} {T : List UInt8} {w : World} (h : Prints f p Any T w) : Prints f p Safe T w := fun B b pre w' hp hb hB hB2 hT _ hlen => h B b pre w' hp hb hB hB2 hT trivial hlen
theorem flag_any (v : Value) (bs : List Bool) (i : Nat) (w : World) (h : Sl v (bs.map Value.bool) w) :
    Calls Tryd.prog 37 #[v, .int .i64 i] w fun e w' => e = .returned (.bool (flagB bs i)) ∧ w = w' := by
  obtain ⟨a, cap, rfl, _, _, _, hc⟩ := h
  rw [List.length_map]
  by_cases hlt : i < bs.length
  · obtain ⟨b, off, ha, hcc⟩ : ∃ b off, a = some ⟨b, off, none⟩ ∧ ∀ i (h : i < (bs.map Value.bool).length), w.cell? ⟨b, off + i, none⟩ = some (bs.map Value.bool)[i] := hc.resolve_left (by intro h; rw [List.map_eq_nil_iff] at h; rw [h] at hlt; simp at hlt)
    subst ha
    have ck := hcc i (by simpa using hlt)
    rw [List.getElem_map] at ck
    have hf : flagB bs i = bs[i] := by unfold flagB; simp [hlt]
    rw [hf]
    obtain ⟨x, hx⟩ : ∃ x, x = bs[i] := ⟨_, rfl⟩
    rw [← hx] at ck ⊢
    clear hc hcc hx hf
    go_enter Tryd.func37, Tryd.ntmps37
    go_wp2_with fail
    go_ret
    exact ⟨rfl, rfl⟩
  · have hf : flagB bs i = false := by unfold flagB; rw [List.getD_eq_getElem?_getD, List.getElem?_eq_none (by omega)]; rfl
    rw [hf]
    have hd : decide (i < bs.length) = false := by simpa using hlt
    clear hf hc
    go_enter Tryd.func37, Tryd.ntmps37
    go_wp2_with fail
    go_ret
    exact ⟨rfl, rfl⟩

/-- The i-th argument is a field access. -/
def ixB (bs : List Bool) (ss : List ByteArray) (i : Nat) : Bool := flagB bs i && !((ss.getD i ⟨#[]⟩).toList.isEmpty)
theorem ix_any (vb vs : Value) (bs : List Bool) (ss : List ByteArray) (i : Nat) (hi : i < ss.length) (w : World) (hb : Sl vb (bs.map Value.bool) w) (hs : Sl vs (ss.map Value.string) w) :
    Calls Tryd.prog 34 #[vb, vs, .int .i64 i] w fun e w' => e = .returned (.bool (ixB bs ss i)) ∧ w = w' := by
  have HF := Lib.hid (flag_any vb bs i w hb)
  obtain ⟨a, cap, rfl, _, _, _, hc⟩ := hs
  rw [List.length_map]
  obtain ⟨b, off, ha, hcc⟩ : ∃ b off, a = some ⟨b, off, none⟩ ∧ ∀ i (h : i < (ss.map Value.string).length), w.cell? ⟨b, off + i, none⟩ = some (ss.map Value.string)[i] := hc.resolve_left (by intro h; rw [List.map_eq_nil_iff] at h; rw [h] at hi; simp at hi)
  subst ha
  have ck := hcc i (by simpa using hi)
  rw [List.getElem_map] at ck
  have hg : ss.getD i ⟨#[]⟩ = ss[i] := by simp [hi]
  have he : ixB bs ss i = (flagB bs i && !(ss[i].toList.isEmpty)) := by unfold ixB; rw [hg]
  rw [he]
  obtain ⟨x, hx⟩ : ∃ x, x = ss[i] := ⟨_, rfl⟩
  rw [← hx] at ck ⊢
  obtain ⟨f, hf⟩ : ∃ f, flagB bs i = f := ⟨_, rfl⟩
  rw [hf] at HF ⊢
  clear hc hcc hx he hg hf hb
  cases f with
  | false =>
    go_enter Tryd.func34, Tryd.ntmps34
    go_wp2_with fail
    refine HF.out.mono ?_
    rintro e w' ⟨rfl, rfl⟩
    go_wp2_with fail
    go_ret
    exact ⟨rfl, rfl⟩
  | true =>
    go_enter Tryd.func34, Tryd.ntmps34
    go_wp2_with fail
    refine HF.out.mono ?_
    rintro e w' ⟨rfl, rfl⟩
    go_wp2_with fail
    go_ret
    exact ⟨ret_bool (by simp), rfl⟩

/-- What the i-th argument prints. -/
def argT (bs : List Bool) (ss : List ByteArray) (i : Nat) : List UInt8 := (if ixB bs ss i then [46] else []) ++ (ss.getD i ⟨#[]⟩).data.toList
/-- What the call prints. -/
def fnT (nm : ByteArray) (ss : List ByteArray) (bs : List Bool) : List UInt8 := nm.data.toList ++ (if ss.length = 0 then [] else [40] ++ seqT [59, 32] (argT bs ss) ss.length ++ [41])

theorem qinfo : (Tryd.prog.info? 41).map (fun i => (i.zero, i.size, decide (i.bytes ≤ 16))) = some (some (Value.pointer none), 1, true) := by kernel_rfl
/-- The arguments made so far. -/
def BRel (bs : List Bool) (ss : List ByteArray) (g : Nat) (w : World) (vi : Value) (wr : World) : Prop :=
  ∃ (k : Nat) (qs : List Nat), k ≤ ss.length ∧ vi = .int .i64 k ∧ Hid (qs.length = k) ∧ Nd g 41 ((qs.map fun q => Value.pointer (some ⟨q, 0, none⟩)) ++ List.replicate (ss.length - k) (Value.pointer none)).toArray wr ∧
    Hid (∀ i (h : i < qs.length), Made (g + 1) wr.heap.size 40 qs[i] Safe (argT bs ss i) wr) ∧ Below w.heap.size w wr
theorem ptrs_get (qs : List Nat) (k n : Nat) (h : qs.length = k) (hk : k < n) : ((qs.map fun q => Value.pointer (some ⟨q, 0, none⟩)) ++ List.replicate (n - k) (Value.pointer none)).toArray[k]? = some (Value.pointer none) := by
  rw [List.getElem?_toArray, List.getElem?_append_right (by simp; omega), List.length_map, h, Nat.sub_self, List.getElem?_replicate, if_pos (by omega)]
theorem ptrs_set (qs : List Nat) (k n q : Nat) (h : qs.length = k) (hk : k < n) : ((qs.map fun q => Value.pointer (some ⟨q, 0, none⟩)) ++ List.replicate (n - k) (Value.pointer none)).toArray.setIfInBounds k (Value.pointer (some ⟨q, 0, none⟩)) = (((qs ++ [q]).map fun q => Value.pointer (some ⟨q, 0, none⟩)) ++ List.replicate (n - (k + 1)) (Value.pointer none)).toArray := by
  apply Array.ext'
  simp only [Array.toList_setIfInBounds]
  have e : n - k = (n - (k + 1)) + 1 := by omega
  rw [e, List.replicate_succ]
  conv => lhs; rw [List.set_append_right _ _ (by simp; omega), List.length_map, h, Nat.sub_self]
  rw [List.set_cons_zero, List.map_append, List.append_assoc]
  rfl
/-- The new argument and those before it. -/
theorem made_snoc {bs : List Bool} {ss : List ByteArray} {g k q : Nat} {qs : List Nat} {wr W : World} (hl : qs.length = k) (h : ∀ i (h : i < qs.length), Made (g + 1) wr.heap.size 40 qs[i] Safe (argT bs ss i) wr) (hs : Same (g + 1) wr.heap.size wr W) (hz : wr.heap.size ≤ W.heap.size)
    (hq : Made (g + 1) W.heap.size 40 q Safe (argT bs ss k) W) : ∀ i (h : i < (qs ++ [q]).length), Made (g + 1) W.heap.size 40 (qs ++ [q])[i] Safe (argT bs ss i) W := by
  intro i hi
  by_cases e : i < qs.length
  · rw [List.getElem_append_left e]
    exact ((h i e).same hs).wide (Nat.le_refl _) hz
  · have : i = k := by simp at hi; omega
    subst this
    rw [List.getElem_append_right (by omega)]
    simp only [hl, Nat.sub_self, List.getElem_cons_zero]
    exact hq

def MkF (w : World) (T : List UInt8) (e : Ending) (w' : World) : Prop := ∃ f, e = .returned (.pointer (some ⟨f, 0, none⟩)) ∧ Prints 36 f Any T w' ∧ Below w.heap.size w w'
set_option maxHeartbeats 2000000 in
set_option maxRecDepth 100000 in
theorem build_any (nm : ByteArray) (vs vb : Value) (ss : List ByteArray) (bs : List Bool) (w : World) (hs : Sl vs (ss.map Value.string) w) (hb : Sl vb (bs.map Value.bool) w) (hl : ss.length ≤ 1048576) :
    Calls Tryd.prog 19 #[.string nm, vs, vb] w (MkF w (fnT nm ss bs)) := by
  by_cases h0 : ss.length = 0
  · have e : fnT nm ss bs = nm.data.toList := by unfold fnT; rw [if_pos h0, List.append_nil]
    rw [e]
    obtain ⟨a, cap, rfl, _, _, _, hc⟩ := hs
    rw [List.length_map, h0]
    clear e hc hb hl h0
    go_enter Tryd.func19, Tryd.ntmps19
    go_wp2_with fail
    refine wp_loop_rounds 1 ?_
    rw [rounds_succ]
    go_wp2_with fail
    go_ret
    exact ⟨_, rfl, prints_func0 (Nd.new _ _ _), (Below.refl _ _).alloc (Nat.le_refl _) _⟩
  · have e : fnT nm ss bs = nm.data.toList ++ [40] ++ seqT [59, 32] (argT bs ss) ss.length ++ [41] := by unfold fnT; rw [if_neg h0]; simp
    rw [e]
    have hpos : 0 < ss.length := by omega
    have hlen := hs
    obtain ⟨a, cap, rfl, hc1, hc2, _, hc⟩ := hs
    rw [List.length_map] at hlen hc1 ⊢
    have HSl := Lib.hid hlen
    have HBl := Lib.hid hb
    obtain ⟨b, off, ha, hcc⟩ : ∃ b off, a = some ⟨b, off, none⟩ ∧ ∀ i (h : i < (ss.map Value.string).length), w.cell? ⟨b, off + i, none⟩ = some (ss.map Value.string)[i] := hc.resolve_left (by intro h; rw [List.map_eq_nil_iff] at h; rw [h] at hpos; simp at hpos)
    subst ha
    have HC := Lib.hid hcc
    have hmk := fun W => run_mkE qinfo Tryd.underlying24 rfl ss.length hl W
    clear e hc hcc hb h0 hlen
    go_enter Tryd.func19, Tryd.ntmps19
    go_wp2_with fail
    obtain ⟨W0, hW0⟩ : ∃ W, W = w.alloc (.cells (Array.replicate ss.length (Value.pointer none)) 41) := ⟨_, rfl⟩
    rw [← hW0]
    have hb0 : Below w.heap.size w W0 := by rw [hW0]; exact (Below.refl _ _).alloc (Nat.le_refl _) _
    have hz0 : W0.heap.size = w.heap.size + 1 := by rw [hW0, size_alloc]
    have hN0 : Nd w.heap.size 41 ((([] : List Nat).map fun q => Value.pointer (some ⟨q, 0, none⟩)) ++ List.replicate (ss.length - 0) (Value.pointer none)).toArray W0 := by rw [hW0]; exact (heap_alloc_at _ _).trans (by simp)
    obtain ⟨g, hg⟩ : ∃ g, g = w.heap.size := ⟨_, rfl⟩
    rw [← hg] at hN0
    have HG := Lib.hid hg
    have hgg : Value.slice (some ⟨w.heap.size, 0, none⟩) ss.length ss.length = .slice (some ⟨g, 0, none⟩) ss.length ss.length := by rw [hg]
    rw [hgg]
    have HZ0 := Lib.hid hz0
    clear hmk hW0 hg hgg hz0
    go_loopw [8] (BRel bs ss g w) (fun i _ => ss.length - (intOf i).toNat)
    case atStart => exact ⟨0, [], Nat.zero_le _, rfl, rfl, hN0, Lib.hid (fun i h => by simp at h), hb0⟩
    case round =>
      obtain ⟨k, qs, hk, rfl, hql, hN, hmade, hbw⟩ := hrel
      by_cases hlt : k < ss.length
      · have hblt := World.block_lt_of_cell? w _ (HC.out k (by simpa using hlt))
        have ck : wr.cell? ⟨b, off + k, none⟩ = some (.string ss[k]) := by rw [hbw.cell hblt, HC.out k (by simpa using hlt)]; simp
        have cg := hN.cell k (ptrs_get qs k ss.length hql.out hlt)
        have fg := hN.free k
        have hgl := hN.lt
        have hix := ix_any vb _ bs ss k hlt wr (HBl.out.below hbw (Nat.le_refl _)) (HSl.out.below hbw (Nat.le_refl _))
        have hat : argT bs ss k = (if ixB bs ss k then [46] else []) ++ ss[k].data.toList := by unfold argT; simp [hlt]
        have hne : ixB bs ss k = true → ss[k].size ≠ 0 := by
          intro h; unfold ixB at h; simp [hlt] at h
          intro h0; have := h.2; rw [ByteArray.toList_eq] at this
          exact this (by rw [Array.toList_eq_nil_iff]; exact Array.eq_empty_of_size_eq_zero h0)
        obtain ⟨x, hx⟩ : ∃ x, x = ss[k] := ⟨_, rfl⟩
        rw [← hx] at ck hat hne
        obtain ⟨f, hf⟩ : ∃ f, ixB bs ss k = f := ⟨_, rfl⟩
        rw [hf] at hix hat hne
        have HIX := Lib.hid hix
        have HAT := Lib.hid hat
        have HNE := Lib.hid hne
        have HN := Lib.hid hN
        clear hix hx hat hne hf hN
        cases f with
        | true =>
          go_wp2_with fail
          refine HIX.out.mono ?_
          rintro e w' ⟨rfl, rfl⟩
          obtain ⟨W1, hW1⟩ : ∃ W, W = ((wr.alloc (.cells #[.string x, .pointer none, .pointer none, .pointer none, .bool false] 80)).alloc (.cells #[.int .i64 6, .pointer (some ⟨wr.heap.size, 0, none⟩), .pointer none, .pointer none, .pointer none, .string ⟨#[]⟩, .pointer none, .string ⟨#[]⟩, .pointer none, .pointer none, .pointer none, .pointer none, .pointer none, .pointer none, .string ⟨#[]⟩, .pointer none, .slice none 0 0] 55)).alloc (.cells #[.pointer none, .slice none 0 0, .slice none 0 0, .pointer (some ⟨wr.heap.size + 1, 0, none⟩), .pointer none, .pointer none, .slice none 0 0, .int .i64 0] 62) := ⟨_, rfl⟩
          have hN1 : Nd wr.heap.size 80 #[.string x, .pointer none, .pointer none, .pointer none, .bool false] W1 := by rw [hW1]; exact ((Nd.new _ _ _).alloc _).alloc _
          have hT1 : Nd (wr.heap.size + 1) 55 #[.int .i64 6, .pointer (some ⟨wr.heap.size, 0, none⟩), .pointer none, .pointer none, .pointer none, .string ⟨#[]⟩, .pointer none, .string ⟨#[]⟩, .pointer none, .pointer none, .pointer none, .pointer none, .pointer none, .pointer none, .string ⟨#[]⟩, .pointer none, .slice none 0 0] W1 := by rw [hW1]; exact (Nd.newAt _ _ (by simp)).alloc _
          have hQ1 : Nd (wr.heap.size + 1 + 1) 62 #[.pointer none, .slice none 0 0, .slice none 0 0, .pointer (some ⟨wr.heap.size + 1, 0, none⟩), .pointer none, .pointer none, .slice none 0 0, .int .i64 0] W1 := by rw [hW1]; exact Nd.newAt _ _ (by simp)
          have hG1 := (((HN.out.alloc (.cells #[.string x, .pointer none, .pointer none, .pointer none, .bool false] 80)).alloc (.cells #[.int .i64 6, .pointer (some ⟨wr.heap.size, 0, none⟩), .pointer none, .pointer none, .pointer none, .string ⟨#[]⟩, .pointer none, .string ⟨#[]⟩, .pointer none, .pointer none, .pointer none, .pointer none, .pointer none, .pointer none, .string ⟨#[]⟩, .pointer none, .slice none 0 0] 55)).alloc (.cells #[.pointer none, .slice none 0 0, .slice none 0 0, .pointer (some ⟨wr.heap.size + 1, 0, none⟩), .pointer none, .pointer none, .slice none 0 0, .int .i64 0] 62))
          rw [← hW1] at hG1
          have hb1 : Below wr.heap.size wr W1 := by rw [hW1]; exact (((Below.refl _ _).alloc (Nat.le_refl _) _).alloc (by simp) _).alloc (by simp; omega) _
          have hz1 : W1.heap.size = wr.heap.size + 1 + 1 + 1 := by rw [hW1, size_alloc, size_alloc, size_alloc]
          have cg1 := hG1.cell k (ptrs_get qs k ss.length hql.out hlt)
          have fg1 := hG1.free k
          have HG1 := Lib.hid hG1
          have HN1 := Lib.hid hN1
          have HT1 := Lib.hid hT1
          have HQ1 := Lib.hid hQ1
          have HZ1 := Lib.hid hz1
          have hW1' := hW1.symm
          clear hW1 hG1 hN1 hT1 hQ1 hz1
          go_wp2_with fail
          go_roundw
          case rel =>
            have hz1 := HZ1.out
            have hN1 := HN1.out
            have hT1 := HT1.out
            have hQ1 := HQ1.out
            refine ⟨k + 1, qs ++ [wr.heap.size + 1 + 1], by omega, by go_num, Lib.hid (by rw [List.length_append, hql.out]; rfl), ?_, ?_, (hbw.trans (hb1.mono hbw.size)).setCell (by have := HG.out; simp; omega) _⟩
            · rw [← ptrs_set qs k ss.length _ hql.out hlt]; exact HG1.out.set k _
            · refine Lib.hid (made_snoc hql.out hmade.out ((Same.below hb1 (Nat.le_refl _)).setCell (.inl (by omega)) _) (by rw [size_setCell]; omega) ?_)
              rw [size_setCell, HAT.out]
              refine Made.same ?_ ((Same.refl _ _ _).setCell (.inl (by omega)) _)
              intro w' hw
              exact prints_query (hQ1.same hw (by omega) (by omega)) (prints_term_Index (hT1.same hw (by omega) (by omega)) (prints_index (suffix_name (hN1.same hw (by omega) (by omega)) (HNE.out (by simp)))))
          case measure => simp [intOf]; omega
        | false =>
          go_wp2_with fail
          refine HIX.out.mono ?_
          rintro e w' ⟨rfl, rfl⟩
          obtain ⟨W1, hW1⟩ : ∃ W, W = ((wr.alloc (.cells #[.string x, .slice none 0 0] 64)).alloc (.cells #[.int .i64 7, .pointer none, .pointer (some ⟨wr.heap.size, 0, none⟩), .pointer none, .pointer none, .string ⟨#[]⟩, .pointer none, .string ⟨#[]⟩, .pointer none, .pointer none, .pointer none, .pointer none, .pointer none, .pointer none, .string ⟨#[]⟩, .pointer none, .slice none 0 0] 55)).alloc (.cells #[.pointer none, .slice none 0 0, .slice none 0 0, .pointer (some ⟨wr.heap.size + 1, 0, none⟩), .pointer none, .pointer none, .slice none 0 0, .int .i64 0] 62) := ⟨_, rfl⟩
          have hN1 : Nd wr.heap.size 64 #[.string x, .slice none 0 0] W1 := by rw [hW1]; exact ((Nd.new _ _ _).alloc _).alloc _
          have hT1 : Nd (wr.heap.size + 1) 55 #[.int .i64 7, .pointer none, .pointer (some ⟨wr.heap.size, 0, none⟩), .pointer none, .pointer none, .string ⟨#[]⟩, .pointer none, .string ⟨#[]⟩, .pointer none, .pointer none, .pointer none, .pointer none, .pointer none, .pointer none, .string ⟨#[]⟩, .pointer none, .slice none 0 0] W1 := by rw [hW1]; exact (Nd.newAt _ _ (by simp)).alloc _
          have hQ1 : Nd (wr.heap.size + 1 + 1) 62 #[.pointer none, .slice none 0 0, .slice none 0 0, .pointer (some ⟨wr.heap.size + 1, 0, none⟩), .pointer none, .pointer none, .slice none 0 0, .int .i64 0] W1 := by rw [hW1]; exact Nd.newAt _ _ (by simp)
          have hG1 := (((HN.out.alloc (.cells #[.string x, .slice none 0 0] 64)).alloc (.cells #[.int .i64 7, .pointer none, .pointer (some ⟨wr.heap.size, 0, none⟩), .pointer none, .pointer none, .string ⟨#[]⟩, .pointer none, .string ⟨#[]⟩, .pointer none, .pointer none, .pointer none, .pointer none, .pointer none, .pointer none, .string ⟨#[]⟩, .pointer none, .slice none 0 0] 55)).alloc (.cells #[.pointer none, .slice none 0 0, .slice none 0 0, .pointer (some ⟨wr.heap.size + 1, 0, none⟩), .pointer none, .pointer none, .slice none 0 0, .int .i64 0] 62))
          rw [← hW1] at hG1
          have hb1 : Below wr.heap.size wr W1 := by rw [hW1]; exact (((Below.refl _ _).alloc (Nat.le_refl _) _).alloc (by simp) _).alloc (by simp; omega) _
          have hz1 : W1.heap.size = wr.heap.size + 1 + 1 + 1 := by rw [hW1, size_alloc, size_alloc, size_alloc]
          have cg1 := hG1.cell k (ptrs_get qs k ss.length hql.out hlt)
          have fg1 := hG1.free k
          have HG1 := Lib.hid hG1
          have HN1 := Lib.hid hN1
          have HT1 := Lib.hid hT1
          have HQ1 := Lib.hid hQ1
          have HZ1 := Lib.hid hz1
          have hW1' := hW1.symm
          clear hW1 hG1 hN1 hT1 hQ1 hz1
          go_wp2_with fail
          go_roundw
          case rel =>
            have hz1 := HZ1.out
            have hN1 := HN1.out
            have hT1 := HT1.out
            have hQ1 := HQ1.out
            refine ⟨k + 1, qs ++ [wr.heap.size + 1 + 1], by omega, by go_num, Lib.hid (by rw [List.length_append, hql.out]; rfl), ?_, ?_, (hbw.trans (hb1.mono hbw.size)).setCell (by have := HG.out; simp; omega) _⟩
            · rw [← ptrs_set qs k ss.length _ hql.out hlt]; exact HG1.out.set k _
            · refine Lib.hid (made_snoc hql.out hmade.out ((Same.below hb1 (Nat.le_refl _)).setCell (.inl (by omega)) _) (by rw [size_setCell]; omega) ?_)
              rw [size_setCell, HAT.out]
              refine Made.same ?_ ((Same.refl _ _ _).setCell (.inl (by omega)) _)
              intro w' hw
              exact prints_query (hQ1.same hw (by omega) (by omega)) (prints_term_Func (hT1.same hw (by omega) (by omega)) (prints_func0 (hN1.same hw (by omega) (by omega)))).safe
          case measure => simp [intOf]; omega
      · obtain rfl : k = ss.length := by omega
        have hM := hmade.out
        have hN2 : Nd g 41 (qs.map fun q => Value.pointer (some ⟨q, 0, none⟩)).toArray wr := by simpa using hN
        have hq := hql.out
        have HM := Lib.hid hM
        have HN2 := Lib.hid hN2
        clear hN hmade hM hN2 hq
        go_wp2_with fail
        go_ret
        have hq := hql.out
        have hb2 : Below wr.heap.size wr (wr.alloc (.cells #[.string nm, .slice (some ⟨g, 0, none⟩) ss.length ss.length] 64)) := (Below.refl _ _).alloc (Nat.le_refl _) _
        refine ⟨_, rfl, ?_, hbw.alloc hbw.size _⟩
        rw [← hq]
        rw [← hq] at hb2 hl hpos
        exact prints_func (Nd.new _ _ _) (HN2.out.alloc _) hpos hl (fun i hi => (HM.out i hi).prints.pres (Pres.below hb2 (Nat.le_refl _)))
end Go.Proofs.YtommggamdgajcaaDoor
