/- Byte slices of the call's own by their cells: so also the block that a conversion of a string lays (it bears a mark behind its cells). -/
import Derived.Test.YtommggamdgajcaaDoorOwn
import Derived.Deep.AppendSrc
import Derived.Laws.IdiomCopy
import Derived.Lib.ConvBytes
namespace Go.Proofs.YtommggamdgajcaaDoor
open Go.RowKit

/-- The slice value v holds the bytes l, in a block from base on; its room may be written. -/
def OX (base : Nat) (v : Value) (l : List UInt8) (w : World) : Prop :=
  ∃ g cap, v = .slice (some ⟨g, 0, none⟩) l.length cap ∧ base ≤ g ∧ g < w.heap.size ∧ l.length ≤ cap ∧ cap ≤ maxLen ∧ (∀ k (h : k < l.length), w.cell? ⟨g, k, none⟩ = some (.int .u8 (l[k].toNat : Int))) ∧
    ∀ k, k < cap → (w.cell? ⟨g, k, none⟩).isSome = true ∧ w.frozen? ⟨g, k, none⟩ = false
theorem OX.below {base B : Nat} {v : Value} {l : List UInt8} {w w' : World} (h : OX base v l w) (hb : Below B w w') (hB : w.heap.size ≤ B) : OX base v l w' := by
  obtain ⟨g, cap, hv, h1, h2, h3, h4, h5, h6⟩ := h
  have e : ∀ k, w'.cell? ⟨g, k, none⟩ = w.cell? ⟨g, k, none⟩ := fun k => hb.cell (p := ⟨g, k, none⟩) (Nat.lt_of_lt_of_le h2 hB)
  have e2 : ∀ k, w'.frozen? ⟨g, k, none⟩ = w.frozen? ⟨g, k, none⟩ := fun k => hb.frozen (p := ⟨g, k, none⟩) (Nat.lt_of_lt_of_le h2 hB)
  exact ⟨g, cap, hv, h1, Nat.lt_of_lt_of_le h2 hb.size, h3, h4, fun k hk => by rw [e]; exact h5 k hk, fun k hk => by rw [e, e2]; exact h6 k hk⟩
theorem OX.back {base : Nat} {v : Value} {l : List UInt8} {w : World} (h : OX base v l w) : (convert 71 9 v).run Tryd.prog w = .ok (.string ⟨l.toArray⟩) w := by
  obtain ⟨g, cap, rfl, _, _, _, _, h5, _⟩ := h
  exact run_convert_bytes_back w 71 9 5 ⟨g, 0, none⟩ cap l Tryd.underlying71 Tryd.underlying5 Tryd.underlying9 (fun j hj => by
    rw [Addr.add_lit, Nat.zero_add]; exact h5 j hj)
theorem below_sc {B b : Nat} {a : World} (hb : B ≤ b) : ∀ (vs : List Value) (o : Nat) (w : World), Below B a w → Below B a (w.setCells b o vs)
  | [], _, _, h => h
  | v :: vs, o, _, h => below_sc hb vs (o + 1) _ (h.setCell hb v)
theorem some_sc (b : Nat) : ∀ (vs : List Value) (o : Nat) (w : World) (k : Nat), (∀ j, j < vs.length → (w.cell? ⟨b, o + j, none⟩).isSome = true) → (w.cell? ⟨b, k, none⟩).isSome = true → ((w.setCells b o vs).cell? ⟨b, k, none⟩).isSome = true := by
  intro vs o w k h hk
  by_cases hin : o ≤ k ∧ k < o + vs.length
  · have := World.cell?_setCells_in b vs o w h (k - o) (by omega)
    rw [show o + (k - o) = k by omega] at this
    rw [this]; rfl
  · rw [World.cell?_setCells_out b vs o w ⟨b, k, none⟩ (fun _ _ => by simp only; omega)]; exact hk
/-- '[]byte(s)'. -/
theorem conv_ox (s : ByteArray) (w : World) (hs : s.size ≤ 1000000000000) : ∃ v w', (convert 9 71 (.string s)).run Tryd.prog w = .ok v w' ∧ OX w.heap.size v s.data.toList w' ∧ Below w.heap.size w w' := by
  have hcm : grownCap w s.size 0 5 ≤ maxLen := grownCap_le_maxLen w s.size 0 5 (by unfold maxLen; omega)
  have hge := grownCap_ge w s.size 0 5
  refine ⟨_, _, Lib.run_convert_string_bytes w 9 71 5 s Tryd.underlying9 Tryd.underlying71 Tryd.underlying5, ⟨w.heap.size, grownCap w s.size 0 5, rfl, Nat.le_refl _, by rw [Lib.bytesWorld_size]; omega, hge, hcm, ?_, ?_⟩, ⟨rfl, rfl, rfl, by rw [Lib.bytesWorld_size]; omega, fun j hj => Lib.bytesWorld_at_old w 5 s j hj⟩⟩
  · intro k hk
    rw [Lib.bytesWorld_cell w 5 s k hk]
    simp only [List.getD, List.getElem?_eq_getElem hk, Option.getD_some]
  · intro k hk
    have hz : (Lib.bytesCells w 5 s).size = grownCap w s.size 0 5 := by
      unfold Lib.bytesCells
      rw [Array.size_append, Array.size_map, Array.size_replicate]
      show s.size + _ = _
      omega
    have hb := Lib.bytesWorld_at_new w 5 s
    refine ⟨?_, ?_⟩
    · simp only [World.cell?, hb]
      rw [Array.getElem?_eq_getElem (by rw [hz]; exact hk)]; rfl
    · simp only [World.frozen?, hb]
      rw [hz]
      simp
      omega
/-- Whatever yields these bytes, appended. -/
theorem OX.app {base : Nat} {v x : Value} {tx : TypeId} {l new : List UInt8} {w : World} (own : OX base v l w) (hs : Src Tryd.prog 1 tx x new.length (bl new) w) (hb : base ≤ w.heap.size) (hlen : l.length + new.length ≤ 1000000000000) :
    ∃ v' w', (∀ ty, (Builtin.append_ #[71, tx] ty #[v, x]).run Tryd.prog w = .ok v' w') ∧ OX base v' (l ++ new) w' ∧ Below base w w' := by
  obtain ⟨i, hi, hz0, hz1, hz2⟩ := info_parts u8info
  obtain ⟨g, cap, rfl, h1, h2, h3, h4, h5, h6⟩ := own
  rw [← hz1] at hs
  by_cases hroom : l.length + new.length ≤ cap
  · have hc : ∀ j, j < (bl new).length → (w.cell? ⟨g, 0 + l.length * i.size + j, none⟩).isSome = true := fun j hj => by
      rw [bl_len] at hj; rw [hz1, Nat.zero_add, Nat.mul_one]; exact (h6 _ (by omega)).1
    have hf : ∀ j, j < (bl new).length → w.frozen? ⟨g, 0 + l.length * i.size + j, none⟩ = false := fun j hj => by
      rw [bl_len] at hj; rw [hz1, Nat.zero_add, Nat.mul_one]; exact (h6 _ (by omega)).2
    have hr := run_append_room_src (P := Tryd.prog) w 71 tx 0 5 i Tryd.underlying71 hi g 0 l.length cap x new.length (bl new) hs hroom hc hf
    rw [hz1, Nat.zero_add, Nat.mul_one] at hc hr
    have hbw : Below base w (w.setCells g l.length (bl new)) := below_sc h1 _ _ _ (Below.refl _ _)
    refine ⟨_, _, fun ty => by rw [app_ty]; exact hr, ⟨g, cap, by rw [List.length_append], h1, Nat.lt_of_lt_of_le h2 hbw.size, by rw [List.length_append]; exact hroom, h4, ?_, ?_⟩, hbw⟩
    · intro k hk
      rw [List.length_append] at hk
      by_cases e : k < l.length
      · rw [World.cell?_setCells_out g (bl new) l.length w ⟨g, k, none⟩ (fun _ _ => .inl e), List.getElem_append_left e]
        exact h5 k e
      · have := World.cell?_setCells_in g (bl new) l.length w hc (k - l.length) (by rw [bl_len]; omega)
        rw [show l.length + (k - l.length) = k by omega] at this
        rw [this, List.getElem_append_right (by omega)]
        simp [bl]
    · intro k hk
      refine ⟨some_sc g _ _ _ _ hc (h6 k hk).1, ?_⟩
      rw [World.frozen?_setCells]; exact (h6 k hk).2
  · have hold : (Builtin.firstCells i.size l.length (.slice (some ⟨g, 0, none⟩) l.length cap)).run Tryd.prog w.drew = .ok (bl l).toArray w.drew :=
      run_firstCells_some w.drew i.size l.length ⟨g, 0, none⟩ l.length cap (bl l) (by rw [bl_len, hz1, Nat.mul_one]) (by
        intro j u hj
        obtain ⟨hj1, hj2⟩ := List.getElem?_eq_some_iff.1 hj
        have hj3 : j < l.length := by rw [bl_len] at hj1; exact hj1
        rw [Addr.add_lit, Nat.zero_add, World.cell?_drew, h5 j hj3, ← hj2]; simp [bl])
    have hfit : Builtin.nextslicecap (l.length + new.length) cap * i.bytes ≤ 281474976710656 := by
      have := growslice_fits (need := l.length + new.length) (old := cap) (bytes := 1) (by omega) (by omega)
      rw [hz2]; exact this
    have hr := run_append_grow_src (P := Tryd.prog) w 71 tx 0 5 i (.int .u8 0) Tryd.underlying71 hi hz0 (some ⟨g, 0, none⟩) l.length cap (bl l) hold x new.length (bl new) hs (by omega) (by omega) hfit
    have hge := grownCap_ge w (l.length + new.length) cap 5
    have hcm : grownCap w (l.length + new.length) cap 5 ≤ maxLen := grownCap_le_maxLen w (l.length + new.length) cap 5 (by unfold maxLen; omega)
    obtain ⟨C, hC⟩ : ∃ C, grownCap w (l.length + new.length) cap 5 = C := ⟨_, rfl⟩
    rw [hC] at hr hge hcm
    obtain ⟨A, hA⟩ : ∃ A, (bl l ++ bl new).toArray ++ Builtin.zeroCells (Value.int .u8 0).cells (C - (l.length + new.length)) = A := ⟨_, rfl⟩
    rw [hA] at hr
    have hAs : A.size = C := by
      rw [← hA, Array.size_append, List.size_toArray, List.length_append, bl_len, bl_len, size_zeroCells]
      show _ + _ * 1 = _
      omega
    have hAt : ∀ k (hk : k < (l ++ new).length), A[k]? = some (.int .u8 ((l ++ new)[k].toNat : Int)) := by
      intro k hk
      rw [← hA, ← bl_append, Array.getElem?_append_left (by rw [List.size_toArray, bl_len]; exact hk), List.getElem?_toArray]
      unfold bl
      rw [List.getElem?_map, List.getElem?_eq_getElem hk]
      rfl
    have hnew : (w.drew.alloc (.cells A 5)).heap[w.heap.size]? = some (.cells A 5 (0, 0)) := heap_alloc_at w.drew _
    refine ⟨_, _, fun ty => by rw [app_ty]; exact hr, ⟨w.heap.size, C, by rw [List.length_append], hb, (Array.getElem?_eq_some_iff.1 hnew).1, by rw [List.length_append]; exact hge, hcm, fun k hk => cell_of_block hnew (hAt k hk), fun k hk => ⟨?_, free_of_block hnew⟩⟩, ((Below.refl _ _).drew).alloc hb _⟩
    simp only [World.cell?, hnew]
    rw [Array.getElem?_eq_getElem (by rw [hAs]; exact hk)]; rfl
/-- Bytes written out. -/
theorem OX.lit {base : Nat} {v : Value} {l : List UInt8} {w : World} (own : OX base v l w) (new : List UInt8) (hb : base ≤ w.heap.size) (hlen : l.length + new.length ≤ 1000000000000) :
    ∃ v' w', (∀ ty, (Builtin.append_ #[71, 71] ty #[v, .slice (some ⟨w.heap.size, 0, none⟩) new.length new.length]).run Tryd.prog (w.alloc (.cells (bl new).toArray 5)) = .ok v' w') ∧ OX base v' (l ++ new) w' ∧ Below base w w' := by
  have ha : Below w.heap.size w (w.alloc (.cells (bl new).toArray 5)) := (Below.refl _ _).alloc (Nat.le_refl _) _
  obtain ⟨v', w', hr, ho, hbw⟩ := (own.below ha (Nat.le_refl _)).app (x := .slice (some ⟨w.heap.size, 0, none⟩) new.length new.length) (new := new)
    (Src.ofSlice _ Tryd.underlying71 ⟨w.heap.size, 0, none⟩ new.length new.length (bl new) (by rw [bl_len, Nat.mul_one])
      (by
        intro j u hj
        rw [Addr.add_lit]
        refine cell_of_block (heap_alloc_at _ _) ?_
        rw [Nat.zero_add, List.getElem?_toArray]; exact hj)
      (by intro u hu; simp [bl] at hu; obtain ⟨c, _, rfl⟩ := hu; rfl)) (Nat.le_trans hb ha.size) hlen
  exact ⟨v', w', hr, ho, (ha.mono hb).trans hbw⟩
/-- A string. -/
theorem OX.str {base : Nat} {v : Value} {l : List UInt8} {w : World} (own : OX base v l w) (s : ByteArray) (hb : base ≤ w.heap.size) (hlen : l.length + s.size ≤ 1000000000000) :
    ∃ v' w', (∀ ty, (Builtin.append_ #[71, 9] ty #[v, .string s]).run Tryd.prog w = .ok v' w') ∧ OX base v' (l ++ s.data.toList) w' ∧ Below base w w' :=
  own.app (x := .string s) (new := s.data.toList) (Src.ofString w Tryd.underlying9 s) hb hlen
end Go.Proofs.YtommggamdgajcaaDoor
