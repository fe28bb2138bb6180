/- String templates: the law's own functions zzLitsASCIIB2, zzBuildInterpB2, zzInterpModelB2. -/
import Derived.Test.YtommggamdgajcaaDoorIn49
namespace Go.Proofs.YtommggamdgajcaaDoor
open Go.RowKit

/-- What the i-th piece adds. -/
def pcT (bs : List Bool) (ss : List ByteArray) (i : Nat) : List UInt8 := if flagB bs i then escs (ss.getD i ⟨#[]⟩).data.toList else [92] ++ ([40] ++ (ss.getD i ⟨#[]⟩).data.toList ++ [41])
theorem pcT_lit {bs : List Bool} {ss : List ByteArray} {k : Nat} (h : k < ss.length) (hf : flagB bs k = true) : pcT bs ss k = escs ss[k].data.toList := by unfold pcT; rw [if_pos hf]; simp [h]
theorem pcT_call {bs : List Bool} {ss : List ByteArray} {k : Nat} (h : k < ss.length) (hf : flagB bs k = false) : pcT bs ss k = [92] ++ ([40] ++ ss[k].data.toList ++ [41]) := by unfold pcT; rw [hf, if_neg (by decide)]; simp [h]
/-- The literals are ASCII. -/
def LitsOk (ss : List ByteArray) (bs : List Bool) : Prop := ∀ i (h : i < ss.length), flagB bs i = true → asciiB ss[i] = true
theorem pcs_len (bs : List Bool) (ss : List ByteArray) : ∀ k, k ≤ ss.length → (seqT [] (pcT bs ss) k).length ≤ 3 * k + 6 * tot (ss.take k) := by
  intro k
  induction k with
  | zero => intro _; simp [seqT]
  | succ k ih =>
    intro hk
    have h1 := ih (by omega)
    have hlt : k < ss.length := by omega
    have hd : ss[k].data.toList.length = ss[k].size := rfl
    have h2 : (pcT bs ss k).length ≤ 3 + 6 * ss[k].size := by
      cases hf : flagB bs k with
      | true => rw [pcT_lit hlt hf]; have := escs_len ss[k].data.toList; omega
      | false => rw [pcT_call hlt hf]; simp only [List.length_append, List.length_cons, List.length_nil]; omega
    rw [tot_snoc ss k hlt, seq0, List.length_append]
    omega

def LitsR (ss : List ByteArray) (bs : List Bool) (w : World) (e : Ending) (w' : World) : Prop := ∃ r : Bool, e = .returned (.bool r) ∧ (r = true → LitsOk ss bs) ∧ w = w'
set_option maxHeartbeats 1000000 in
theorem lits_any (vs vb : Value) (ss : List ByteArray) (bs : List Bool) (w : World) (hs : Sl vs (ss.map Value.string) w) (hb : Sl vb (bs.map Value.bool) w) (hl : ss.length ≤ 1048576) (ht : tot ss ≤ 1048576) :
    Calls Tryd.prog 25 #[vs, vb] w (LitsR ss bs w) := by
  have H1 := Lib.hid hs
  have H2 := Lib.hid hb
  obtain ⟨a1, c1, e1, _⟩ := hs
  rw [List.length_map] at e1
  subst e1
  clear hb
  go_enter Tryd.func25, Tryd.ntmps25
  go_wp2_with fail
  go_loop [5] (fun i => ∃ k : Nat, k ≤ ss.length ∧ i = .int .i64 k ∧ Hid (∀ j (h : j < ss.length), j < k → flagB bs j = true → asciiB ss[j] = true)) (fun i => ss.length - (intOf i).toNat)
  case atStart => exact ⟨0, Nat.zero_le _, rfl, Lib.hid (fun j _ h => by omega)⟩
  case round =>
    obtain ⟨k, hk, rfl, H⟩ := hrel
    by_cases hlt : k < ss.length
    · obtain ⟨ba, oa, ha, hca⟩ := sl_cell H1.out hlt
      subst ha
      have hxl := big_of hlt ht
      have HF := Lib.hid (flag_any vb bs k w H2.out)
      obtain ⟨f, hf⟩ : ∃ f, flagB bs k = f := ⟨_, rfl⟩
      obtain ⟨x, hx⟩ : ∃ x, x = ss[k] := ⟨_, rfl⟩
      rw [← hx] at hca hxl
      rw [hf] at HF
      have HX := Lib.hid hx
      have HFF := Lib.hid hf
      clear hx hf
      cases f with
      | false =>
        go_wp2_with fail
        refine HF.out.mono ?_
        rintro e w' ⟨rfl, rfl⟩
        go_wp2_with fail
        go_round
        case rel => exact ⟨k + 1, by omega, by go_num, Lib.hid (fun j hj h hfj => by
          by_cases e : j = k
          · subst e; rw [HFF.out] at hfj; cases hfj
          · exact H.out j hj (by omega) hfj)⟩
        case measure => simp [intOf]; omega
      | true =>
        have HPl := Lib.hid (plain_any x w hxl)
        obtain ⟨A, hA⟩ : ∃ A, asciiB x = A := ⟨_, rfl⟩
        rw [hA] at HPl
        have HA := Lib.hid hA
        clear hA
        go_wp2_with fail
        refine HF.out.mono ?_
        rintro e w' ⟨rfl, rfl⟩
        go_wp2_with fail
        refine HPl.out.mono ?_
        rintro e w' ⟨rfl, rfl⟩
        cases A with
        | true =>
          go_wp2_with fail
          go_round
          case rel => exact ⟨k + 1, by omega, by go_num, Lib.hid (fun j hj h hfj => by
            by_cases e : j = k
            · subst e; rw [← HX.out]; exact HA.out
            · exact H.out j hj (by omega) hfj)⟩
          case measure => simp [intOf]; omega
        | false =>
          go_wp2_with fail
          go_ret
          exact ⟨false, rfl, (fun h => by cases h), rfl⟩
    · obtain rfl : k = ss.length := by omega
      go_wp2_with fail
      go_ret
      exact ⟨true, rfl, (fun _ i h hf => H.out i h h hf), rfl⟩

/-- The query prints its piece wherever the blocks from lo to hi are as they are here. -/
def PieceMade (lo hi : Nat) (q : Nat) (P : List UInt8) (w : World) : Prop := ∀ w', Same lo hi w w' → PieceAt q P w'
theorem piece_snoc {TT : Nat → List UInt8} {g k q : Nat} {qs : List Nat} {wr W : World} (hl : qs.length = k) (h : ∀ i (h : i < qs.length), PieceMade (g + 1) wr.heap.size qs[i] (TT i) wr) (hs : Same (g + 1) wr.heap.size wr W) (hz : wr.heap.size ≤ W.heap.size)
    (hq : PieceMade (g + 1) W.heap.size q (TT k) W) : ∀ i (h : i < (qs ++ [q]).length), PieceMade (g + 1) W.heap.size (qs ++ [q])[i] (TT i) W := by
  intro i hi
  by_cases e : i < qs.length
  · rw [List.getElem_append_left e]
    exact fun w' hw => h i e w' (hs.trans (hw.mono (Nat.le_refl _) hz))
  · have : i = k := by simp at hi; omega
    subst this
    rw [List.getElem_append_right (by omega)]
    simp only [hl, Nat.sub_self, List.getElem_cons_zero]
    exact hq
def IBRel (bs : List Bool) (ss : List ByteArray) (g : Nat) (w : World) (vi : Value) (wr : World) : Prop :=
  ∃ (k : Nat) (qs : List Nat), k ≤ ss.length ∧ vi = .int .i64 k ∧ Hid (qs.length = k) ∧ Nd g 41 ((qs.map fun q => Value.pointer (some ⟨q, 0, none⟩)) ++ List.replicate (ss.length - k) (Value.pointer none)).toArray wr ∧
    Hid (∀ i (h : i < qs.length), PieceMade (g + 1) wr.heap.size qs[i] (pcT bs ss i) wr) ∧ Below w.heap.size w wr
def MkS (w : World) (T : List UInt8) (e : Ending) (w' : World) : Prop := ∃ f, e = .returned (.pointer (some ⟨f, 0, none⟩)) ∧ Prints 30 f Any T w' ∧ Below w.heap.size w w'
set_option maxHeartbeats 2000000 in
set_option maxRecDepth 100000 in
theorem buildI_any (vs vb : Value) (ss : List ByteArray) (bs : List Bool) (w : World) (hs : Sl vs (ss.map Value.string) w) (hb : Sl vb (bs.map Value.bool) w) (hl : ss.length ≤ 1048576) (ht : tot ss ≤ 1048576) (hA : LitsOk ss bs) :
    Calls Tryd.prog 26 #[vs, vb] w (MkS w ([34] ++ seqT [] (pcT bs ss) ss.length ++ [34])) := by
  have H1 := Lib.hid hs
  have H2 := Lib.hid hb
  have HA := Lib.hid hA
  obtain ⟨a1, c1, e1, _⟩ := hs
  rw [List.length_map] at e1
  subst e1
  have hmk := fun W => run_mkE qinfo Tryd.underlying24 rfl ss.length hl W
  clear hb hA
  go_enter Tryd.func26, Tryd.ntmps26
  go_wp2_with fail
  obtain ⟨W0, hW0⟩ : ∃ W, W = w.alloc (.cells (Array.replicate ss.length (Value.pointer none)) 41) := ⟨_, rfl⟩
  rw [← hW0]
  have hb0 : Below w.heap.size w W0 := by rw [hW0]; exact (Below.refl _ _).alloc (Nat.le_refl _) _
  have hN0 : Nd w.heap.size 41 ((([] : List Nat).map fun q => Value.pointer (some ⟨q, 0, none⟩)) ++ List.replicate (ss.length - 0) (Value.pointer none)).toArray W0 := by rw [hW0]; exact (heap_alloc_at _ _).trans (by simp)
  obtain ⟨g, hg⟩ : ∃ g, g = w.heap.size := ⟨_, rfl⟩
  rw [← hg] at hN0
  have HG := Lib.hid hg
  have hgg : Value.slice (some ⟨w.heap.size, 0, none⟩) ss.length ss.length = .slice (some ⟨g, 0, none⟩) ss.length ss.length := by rw [hg]
  rw [hgg]
  clear hmk hW0 hg hgg
  go_loopw [6] (IBRel bs ss g w) (fun i _ => ss.length - (intOf i).toNat)
  case atStart => exact ⟨0, [], Nat.zero_le _, rfl, rfl, hN0, Lib.hid (fun i h => by simp at h), hb0⟩
  case round =>
    obtain ⟨k, qs, hk, rfl, hql, hN, hmade, hbw⟩ := hrel
    by_cases hlt : k < ss.length
    · obtain ⟨ba, oa, ha, hca⟩ := sl_cell H1.out hlt
      subst ha
      have la := World.block_lt_of_cell? w _ hca
      simp only at la
      have ck : wr.cell? ⟨ba, oa + k, none⟩ = some (.string ss[k]) := (hbw.cell (p := ⟨ba, oa + k, none⟩) la).trans hca
      have cg := hN.cell k (ptrs_get qs k ss.length hql.out hlt)
      have fg := hN.free k
      have hgl := hN.lt
      have hxl := big_of hlt ht
      have hix := flag_any vb bs k wr (H2.out.below hbw (Nat.le_refl _))
      have hlit := fun h => HA.out k hlt h
      have hp1 := fun h => pcT_lit (bs := bs) hlt h
      have hp2 := fun h => pcT_call (bs := bs) hlt h
      obtain ⟨x, hx⟩ : ∃ x, x = ss[k] := ⟨_, rfl⟩
      rw [← hx] at ck hxl hlit
      simp only [← hx] at hp1 hp2
      obtain ⟨f, hf⟩ : ∃ f, flagB bs k = f := ⟨_, rfl⟩
      rw [hf] at hix hlit hp1 hp2
      have HIX := Lib.hid hix
      have HLIT := Lib.hid hlit
      have HP1 := Lib.hid hp1
      have HP2 := Lib.hid hp2
      have HN := Lib.hid hN
      clear hix hx hlit hp1 hp2 hf hN hca
      cases f with
      | true =>
        go_wp2_with fail
        refine HIX.out.mono ?_
        rintro e w' ⟨rfl, rfl⟩
        obtain ⟨W1, hW1⟩ : ∃ W, W = ((wr.alloc (.cells #[.string x, .slice none 0 0] 26)).alloc (.cells #[.int .i64 13, .pointer none, .pointer none, .pointer none, .pointer none, .string ⟨#[]⟩, .pointer none, .string ⟨#[]⟩, .pointer (some ⟨wr.heap.size, 0, none⟩), .pointer none, .pointer none, .pointer none, .pointer none, .pointer none, .string ⟨#[]⟩, .pointer none, .slice none 0 0] 55)).alloc (.cells #[.pointer none, .slice none 0 0, .slice none 0 0, .pointer (some ⟨wr.heap.size + 1, 0, none⟩), .pointer none, .pointer none, .slice none 0 0, .int .i64 0] 62) := ⟨_, rfl⟩
        have hN1 : Nd wr.heap.size 26 #[.string x, .slice none 0 0] W1 := by rw [hW1]; exact ((Nd.new _ _ _).alloc _).alloc _
        have hT1 : Nd (wr.heap.size + 1) 55 #[.int .i64 13, .pointer none, .pointer none, .pointer none, .pointer none, .string ⟨#[]⟩, .pointer none, .string ⟨#[]⟩, .pointer (some ⟨wr.heap.size, 0, none⟩), .pointer none, .pointer none, .pointer none, .pointer none, .pointer none, .string ⟨#[]⟩, .pointer none, .slice none 0 0] W1 := by rw [hW1]; exact (Nd.newAt _ _ (by simp)).alloc _
        have hQ1 : Nd (wr.heap.size + 1 + 1) 62 #[.pointer none, .slice none 0 0, .slice none 0 0, .pointer (some ⟨wr.heap.size + 1, 0, none⟩), .pointer none, .pointer none, .slice none 0 0, .int .i64 0] W1 := by rw [hW1]; exact Nd.newAt _ _ (by simp)
        have hb1 : Below wr.heap.size wr W1 := by rw [hW1]; exact (((Below.refl _ _).alloc (Nat.le_refl _) _).alloc (by simp) _).alloc (by simp; omega) _
        have hG1 := HN.out.below hb1 hgl
        have hz1 : W1.heap.size = wr.heap.size + 1 + 1 + 1 := by rw [hW1, size_alloc, size_alloc, size_alloc]
        have cg1 := hG1.cell k (ptrs_get qs k ss.length hql.out hlt)
        have fg1 := hG1.free k
        have HG1 := Lib.hid hG1
        have HN1 := Lib.hid hN1
        have HT1 := Lib.hid hT1
        have HQ1 := Lib.hid hQ1
        have HZ1 := Lib.hid hz1
        have hW1' := hW1.symm
        clear hW1 hG1 hN1 hT1 hQ1 hz1
        go_wp2_with fail
        go_roundw
        case rel =>
          have hz1 := HZ1.out
          have hN1 := HN1.out
          have hT1 := HT1.out
          have hQ1 := HQ1.out
          refine ⟨k + 1, qs ++ [wr.heap.size + 1 + 1], by omega, by go_num, Lib.hid (by rw [List.length_append, hql.out]; rfl), ?_, ?_, (hbw.trans (hb1.mono hbw.size)).setCell (by have := HG.out; simp; omega) _⟩
          · rw [← ptrs_set qs k ss.length _ hql.out hlt]; exact HG1.out.set k _
          · refine Lib.hid (piece_snoc hql.out hmade.out ((Same.below hb1 (Nat.le_refl _)).setCell (.inl (by omega)) _) (by rw [size_setCell]; omega) ?_)
            rw [size_setCell, HP1.out (by simp)]
            intro w' hw0
            have hw := ((Same.refl (g + 1) W1.heap.size W1).setCell (b := g) (i := k) (.inl (by omega)) (Value.pointer (some ⟨wr.heap.size + 1 + 1, 0, none⟩))).trans hw0
            refine ⟨_, _, hQ1.same hw (by omega) (by omega), hT1.same hw (by omega) (by omega), .inr ⟨_, rfl, ?_⟩⟩
            have hpl := prints_string_lit (hN1.same hw (by omega) (by omega)) (by omega)
            rw [quoted_ascii x (HLIT.out (by simp))] at hpl
            exact prints_query (hQ1.same hw (by omega) (by omega)) (prints_term_String (hT1.same hw (by omega) (by omega)) hpl)
        case measure => simp [intOf]; omega
      | false =>
        go_wp2_with fail
        refine HIX.out.mono ?_
        rintro e w' ⟨rfl, rfl⟩
        obtain ⟨W1, hW1⟩ : ∃ W, W = ((wr.alloc (.cells #[.string x, .slice none 0 0] 64)).alloc (.cells #[.int .i64 7, .pointer none, .pointer (some ⟨wr.heap.size, 0, none⟩), .pointer none, .pointer none, .string ⟨#[]⟩, .pointer none, .string ⟨#[]⟩, .pointer none, .pointer none, .pointer none, .pointer none, .pointer none, .pointer none, .string ⟨#[]⟩, .pointer none, .slice none 0 0] 55)).alloc (.cells #[.pointer none, .slice none 0 0, .slice none 0 0, .pointer (some ⟨wr.heap.size + 1, 0, none⟩), .pointer none, .pointer none, .slice none 0 0, .int .i64 0] 62) := ⟨_, rfl⟩
        have hN1 : Nd wr.heap.size 64 #[.string x, .slice none 0 0] W1 := by rw [hW1]; exact ((Nd.new _ _ _).alloc _).alloc _
        have hT1 : Nd (wr.heap.size + 1) 55 #[.int .i64 7, .pointer none, .pointer (some ⟨wr.heap.size, 0, none⟩), .pointer none, .pointer none, .string ⟨#[]⟩, .pointer none, .string ⟨#[]⟩, .pointer none, .pointer none, .pointer none, .pointer none, .pointer none, .pointer none, .string ⟨#[]⟩, .pointer none, .slice none 0 0] W1 := by rw [hW1]; exact (Nd.newAt _ _ (by simp)).alloc _
        have hQ1 : Nd (wr.heap.size + 1 + 1) 62 #[.pointer none, .slice none 0 0, .slice none 0 0, .pointer (some ⟨wr.heap.size + 1, 0, none⟩), .pointer none, .pointer none, .slice none 0 0, .int .i64 0] W1 := by rw [hW1]; exact Nd.newAt _ _ (by simp)
        have hb1 : Below wr.heap.size wr W1 := by rw [hW1]; exact (((Below.refl _ _).alloc (Nat.le_refl _) _).alloc (by simp) _).alloc (by simp; omega) _
        have hz1 : W1.heap.size = wr.heap.size + 1 + 1 + 1 := by rw [hW1, size_alloc, size_alloc, size_alloc]
        obtain ⟨W2, hW2⟩ : ∃ W, W = (W1.alloc (.cells #[.int .i64 20, .pointer none, .pointer none, .pointer none, .pointer none, .string ⟨#[]⟩, .pointer none, .string ⟨#[]⟩, .pointer none, .pointer none, .pointer none, .pointer none, .pointer none, .pointer none, .string ⟨#[]⟩, .pointer (some ⟨wr.heap.size + 1 + 1, 0, none⟩), .slice none 0 0] 55)).alloc (.cells #[.pointer none, .slice none 0 0, .slice none 0 0, .pointer (some ⟨W1.heap.size, 0, none⟩), .pointer none, .pointer none, .slice none 0 0, .int .i64 0] 62) := ⟨_, rfl⟩
        have hT2 : Nd W1.heap.size 55 #[.int .i64 20, .pointer none, .pointer none, .pointer none, .pointer none, .string ⟨#[]⟩, .pointer none, .string ⟨#[]⟩, .pointer none, .pointer none, .pointer none, .pointer none, .pointer none, .pointer none, .string ⟨#[]⟩, .pointer (some ⟨wr.heap.size + 1 + 1, 0, none⟩), .slice none 0 0] W2 := by rw [hW2]; exact (Nd.new _ _ _).alloc _
        have hQ2 : Nd (W1.heap.size + 1) 62 #[.pointer none, .slice none 0 0, .slice none 0 0, .pointer (some ⟨W1.heap.size, 0, none⟩), .pointer none, .pointer none, .slice none 0 0, .int .i64 0] W2 := by rw [hW2]; exact Nd.newAt _ _ (by simp)
        have hb2 : Below W1.heap.size W1 W2 := by rw [hW2]; exact ((Below.refl _ _).alloc (Nat.le_refl _) _).alloc (by simp) _
        have hz2 : W2.heap.size = W1.heap.size + 1 + 1 := by rw [hW2, size_alloc, size_alloc]
        have hb12 : Below wr.heap.size wr W2 := hb1.trans (hb2.mono hb1.size)
        have hG2 := HN.out.below hb12 hgl
        have cg2 := hG2.cell k (ptrs_get qs k ss.length hql.out hlt)
        have fg2 := hG2.free k
        have HG2 := Lib.hid hG2
        have HN1 := Lib.hid hN1
        have HT1 := Lib.hid hT1
        have HQ1 := Lib.hid hQ1
        have HT2 := Lib.hid hT2
        have HQ2 := Lib.hid hQ2
        have HZ1 := Lib.hid hz1
        have HZ2 := Lib.hid hz2
        have HB1 := Lib.hid hb1
        have HB2 := Lib.hid hb2
        have HB12 := Lib.hid hb12
        have hW1' := hW1.symm
        have hW2' := hW2.symm
        clear hW1 hW2 hG2 hN1 hT1 hQ1 hz1 hT2 hQ2 hz2 hb1 hb2 hb12
        go_wp2_with fail
        go_roundw
        case rel =>
          have hz1 := HZ1.out
          have hz2 := HZ2.out
          have hb1 := HB1.out
          have hb2 := HB2.out
          have hb12 := HB12.out
          have hN1 := HN1.out.below hb2 (by omega)
          have hT1 := HT1.out.below hb2 (by omega)
          have hQ1 := HQ1.out.below hb2 (by omega)
          have hT2 := HT2.out
          have hQ2 := HQ2.out
          refine ⟨k + 1, qs ++ [W1.heap.size + 1], by omega, by go_num, Lib.hid (by rw [List.length_append, hql.out]; rfl), ?_, ?_, (hbw.trans (hb12.mono hbw.size)).setCell (by have := HG.out; simp; omega) _⟩
          · rw [← ptrs_set qs k ss.length _ hql.out hlt]; exact HG2.out.set k _
          · refine Lib.hid (piece_snoc hql.out hmade.out ((Same.below hb12 (Nat.le_refl _)).setCell (.inl (by omega)) _) (by rw [size_setCell]; omega) ?_)
            rw [size_setCell, HP2.out (by simp)]
            intro w' hw0
            have hw := ((Same.refl (g + 1) W2.heap.size W2).setCell (b := g) (i := k) (.inl (by omega)) (Value.pointer (some ⟨W1.heap.size + 1, 0, none⟩))).trans hw0
            refine ⟨_, _, hQ2.same hw (by omega) (by omega), hT2.same hw (by omega) (by omega), .inl ⟨rfl, _, ?_, rfl⟩⟩
            exact prints_query (hQ2.same hw (by omega) (by omega)) (prints_term_Query (hT2.same hw (by omega) (by omega)) (prints_query (hQ1.same hw (by omega) (by omega)) (prints_term_Func (hT1.same hw (by omega) (by omega)) (prints_func0 (hN1.same hw (by omega) (by omega))))) (fun _ => trivial))
        case measure => simp [intOf]; omega
    · obtain rfl : k = ss.length := by omega
      have hN2 : Nd g 41 (qs.map fun q => Value.pointer (some ⟨q, 0, none⟩)).toArray wr := by simpa using hN
      have HN2 := Lib.hid hN2
      clear hN hN2
      go_wp2_with fail
      go_ret
      have hq := hql.out
      have hb2 : Below wr.heap.size wr (wr.alloc (.cells #[.string ⟨#[]⟩, .slice (some ⟨g, 0, none⟩) ss.length ss.length] 26)) := (Below.refl _ _).alloc (Nat.le_refl _) _
      refine ⟨_, rfl, ?_, hbw.alloc hbw.size _⟩
      rw [← hq]
      rw [← hq] at hb2 hl
      exact prints_string_q (Nd.new _ _ _) (HN2.out.alloc _) hl (fun i hi => (hmade.out i hi _ (Same.refl _ _ _)).pres (Pres.below hb2 (Nat.le_refl _)))
end Go.Proofs.YtommggamdgajcaaDoor
