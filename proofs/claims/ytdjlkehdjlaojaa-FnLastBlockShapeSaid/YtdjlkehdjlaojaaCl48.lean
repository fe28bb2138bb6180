/- compileLast: twenty codes. -/
import Derived.Test.YtdjlkehdjlaojaaR248
namespace Go.Proofs.Ytdjlkehdjlaojaa
open Go.RowKit
set_option linter.unusedVariables false
set_option linter.unusedSimpArgs false

theorem row_ne {w : World} {base : Nat} {e t : TypeId} {v : Value} {n k : Nat} {xs : List Value} {cs : Array Value} (own : w.ownsRow base e 1 v n xs) (h : Nd k t cs w) (ht : t ≠ e) : some k ≠ v.ownBlock := by
  rcases own.2 with ⟨rfl, _⟩ | ⟨g, cap, cur, rfl, _, hg, _⟩
  · intro h; cases h
  · intro he
    obtain rfl : k = g := by
      have : some k = some g := he
      cases this
      rfl
    exact ht (Nd.eq h hg).1
theorem row_nd {w w' : World} {base : Nat} {e : TypeId} {v : Value} {n : Nat} {xs : List Value} (own : w.ownsRow base e 1 v n xs) (hk : ∀ g cur, base ≤ g → Nd g e cur w → Nd g e cur w') : w'.ownsRow base e 1 v n xs := by
  refine ⟨own.1, ?_⟩
  rcases own.2 with h0 | ⟨g, cap, cur, hv, hb, hg, rest⟩
  · exact .inl h0
  · exact .inr ⟨g, cap, cur, hv, hb, hk g cur hb hg, rest⟩
/-- The nineteen codes behind the jump. -/
def last19 (kid : Int) (n : Nat) : List Value := boxes3 0 0 0 0 0 kid none n 0
/-- What compileLast leaves. -/
def ClE (cp bs base : Nat) (n : Nat) (k : Int) (xs : List Value) (w : World) (e : Ending) (w' : World) : Prop :=
  e = .returned (.tuple #[]) ∧ ∃ (C' S' : Array Value) (v3 v2 : Value) (fp jp : Nat) (ps : List Nat), Nd cp 82 C' w' ∧ C'[5]? = some v3 ∧ C'[7]? = some (ptr bs) ∧ C'[9]? = some (.int .i64 (wrap64 (k + 1))) ∧
    w'.ownsRow base 84 1 v3 (n + 20) (xs ++ ptr jp :: ps.map ptr) ∧ Nd jp 87 #[.iface 3 (.int .i64 (n + 20 : Nat)), .int .i64 15] w' ∧ ps.length = 19 ∧
    (∀ m p : Nat, ps[m]? = some p → ∃ cs : Array Value, (last19 k (n + 1))[m]? = some (.tuple cs) ∧ Nd p 87 cs w') ∧
    Nd bs 50 S' w' ∧ S'[1]? = some v2 ∧ w'.ownsRow base 29 1 v2 1 [ptr fp] ∧ Nd fp 91 #[.string ⟨#[95, 108, 97, 115, 116]⟩, .int .i64 (n + 1 : Nat), .int .i64 1] w' ∧
    (∀ q cs, Nd q 87 cs w → Nd q 87 cs w') ∧ ∀ B, B ≤ cp → B ≤ bs → Below B w w'
set_option maxHeartbeats 4000000 in
theorem compileLast_any (cp bs base : Nat) (C S : Array Value) (v : Value) (n : Nat) (k : Int) (xs : List Value) (w : World) (hC : Nd cp 82 C w) (h5 : C[5]? = some v) (h7 : C[7]? = some (ptr bs)) (h9 : C[9]? = some (.int .i64 k)) (hS : Nd bs 50 S w) (h1 : S[1]? = some (.slice none 0 0)) (own : w.ownsRow base 84 1 v n xs) (hcb : cp < base) (hbb : bs < base) (hcs : cp ≠ bs) (hb : base ≤ w.heap.size) (hn : n ≤ 100000) :
    Calls Try.prog 25 #[ptr cp] w (ClE cp bs base n k xs w) := by
  have HA := Lib.hid (appendBuiltin_any cp bs base C S v n xs ⟨#[95, 108, 97, 115, 116]⟩ 1 w hC h5 h7 hS h1 own hcb hbb hcs hb hn)
  have HC := Lib.hid hC
  have HOWN := Lib.hid own
  have H5 := Lib.hid h5
  have H7 := Lib.hid h7
  have H9 := Lib.hid h9
  have HS := Lib.hid hS
  have H1 := Lib.hid h1
  clear hC h5 h7 h9 hS h1 own
  unfold ptr
  go_enter_defers Try.func25, Try.ntmps25
  go_wp2_with fail
  refine HA.out.mono ?_
  rintro e w1 ⟨sx, fp, v', v2, rfl, nsx, nb0, nb1, nb2, nb3, nb4, nC1, own1, nS1, ownF, nfp, hos, htp, hou, hsz, hkeep⟩
  clear HA
  unfold ptr
  have HNS := Lib.hid (newScope_any cp (C.setIfInBounds 5 v') k w1 nC1 (by rw [Array.getElem?_setIfInBounds_ne (by decide)]; exact H9.out))
  unfold ptr at HNS
  go_wp2_with fail
  refine HNS.out.mono ?_
  rintro e w2 ⟨rfl, hw2⟩
  clear HNS
  have HKEEP := Lib.hid hkeep
  have HOWN1 := Lib.hid own1
  have HC1 := Lib.hid nC1
  have HF := Lib.hid ownF
  have HOS := Lib.hid (show w1.os = w.os ∧ w1.tape = w.tape ∧ w1.output = w.output ∧ w.heap.size + 5 ≤ w1.heap.size from ⟨hos, htp, hou, hsz⟩)
  have A0 := Lib.hid nsx
  have A1 := Lib.hid nb0
  have A2 := Lib.hid nb1
  have A3 := Lib.hid nb2
  have A4 := Lib.hid nb3
  have A5 := Lib.hid nb4
  have A6 := Lib.hid nS1
  have A7 := Lib.hid nfp
  have HW2 := Lib.hid hw2
  clear hkeep own1 nC1 ownF hos htp hou hsz nsx nb0 nb1 nb2 nb3 nb4 nS1 nfp hw2
  go_wp2_with fail
  rename_i K hK
  refine wp_region_any (by kernel_rfl) ?_
  change wpAny _ .any ops2 _ 21 (Array.replicate 21 false) _ (World.drew _)
  have hw2 := HW2.out
  have nC1 := HC1.out
  have hcl1 := nC1.lt
  have n2s : Nd w1.heap.size 50 #[.slice none 0 0, .slice none 0 0, .int .i64 k, .int .i64 0, .int .i64 0] w2 := by rw [hw2]; exact Nd.newAt _ _ (size_setCell _ _ _).symm
  have nC2 : Nd cp 82 ((C.setIfInBounds 5 v').setIfInBounds 9 (.int .i64 (wrap64 (k + 1)))) w2 := by rw [hw2]; exact (nC1.set 9 _).alloc _
  have tr2 : ∀ q t cs, q ≠ cp → Nd q t cs w1 → Nd q t cs w2 := fun q t cs h1 h2 => by rw [hw2]; exact (h2.setNe h1 _).alloc _
  have hz2 : w2.heap.size = w1.heap.size + 1 := by rw [hw2, size_alloc, size_setCell]
  have hb2 : ∀ B, B ≤ cp → Below B w1 w2 := fun B h => by rw [hw2]; exact ((Below.refl _ _).setCell h _).alloc (by rw [size_setCell]; omega) _
  have own2 := row_nd HOWN1.out (fun g cur hg h => tr2 g _ cur (by omega) h)
  have ownF2 := row_nd HF.out (fun g cur hg h => tr2 g _ cur (by omega) h)
  refine region2 (sc := w1.heap.size) (kid := k) (W := w2.drew) rfl rfl (n2s.cell 2 rfl) _ ?_
  intro a3 w3 b3 b4 b5 hs3 hd3 hfx3 hb3 ⟨e3, g3, n3⟩ ⟨e4, g4, n4⟩ ⟨e5, g5, n5⟩
  simp only [Exit.then]
  refine hK _ _ ?_
  clear hK
  refine wp_region_any (by kernel_rfl) ?_
  change wpAny _ .any ops3 _ 81 (Array.replicate 81 false) _ (World.drew _)
  obtain ⟨ca, cap, rfl⟩ := row_form own2
  have hb3' : Below w2.heap.size w2 w3 := ⟨hb3.os, hb3.tape, hb3.output, hb3.size, hb3.block⟩
  have h5lt : 5 < C.size := (Array.getElem?_eq_some_iff.1 H5.out).1
  have h9lt : 9 < C.size := (Array.getElem?_eq_some_iff.1 H9.out).1
  have q5 : ((C.setIfInBounds 5 (.slice ca (n + 1) cap)).setIfInBounds 9 (.int .i64 (wrap64 (k + 1))))[5]? = some (.slice ca (n + 1) cap) := by
    rw [Array.getElem?_setIfInBounds_ne (by decide)]
    exact Array.getElem?_setIfInBounds_self_of_lt h5lt
  have q7 : ((C.setIfInBounds 5 (.slice ca (n + 1) cap)).setIfInBounds 9 (.int .i64 (wrap64 (k + 1))))[7]? = some (ptr bs) := by
    rw [Array.getElem?_setIfInBounds_ne (by decide), Array.getElem?_setIfInBounds_ne (by decide)]
    exact H7.out
  have q9 : ((C.setIfInBounds 5 (.slice ca (n + 1) cap)).setIfInBounds 9 (.int .i64 (wrap64 (k + 1))))[9]? = some (.int .i64 (wrap64 (k + 1))) := Array.getElem?_setIfInBounds_self_of_lt (by rw [Array.size_setIfInBounds]; exact h9lt)
  have nC3 := nC2.below hb3' nC2.lt
  have n3s := n2s.below hb3' n2s.lt
  refine region3 (cp := cp) (sc := w1.heap.size) (v3 := b3) (v4 := b4) (v5 := b5) (kid := k) (ca := ca) (n := n + 1) (cap := cap) (W := w3.drew) ⟨n3s.cell 2 rfl, nC3.cell 5 q5, ⟨n3.cell 0 rfl, n3.cell 1 rfl⟩, ⟨n4.cell 0 rfl, n4.cell 1 rfl⟩, ⟨n5.cell 0 rfl, n5.cell 1 rfl⟩, (hfx3 0 (by omega)).trans rfl, (hfx3 2 (by omega)).trans rfl, e3, e4, e5, by omega⟩ hs3 _ ?_
  intro a4 w4 b ps hs4 hd4 hb4 gb hl4 nb4 hps
  have hb4' : Below w3.heap.size w3 w4 := ⟨hb4.os, hb4.tape, hb4.output, hb4.size, hb4.block⟩
  have hb24 : Below w2.heap.size w2 w4 := hb3'.trans (hb4'.mono hb3'.size)
  have nC4 := nC2.below hb24 nC2.lt
  have own4 := row_kept own2 hb24 (Nat.le_refl _)
  have ownF4 := row_kept ownF2 hb24 (Nat.le_refl _)
  have hz4 := hb24.size
  refine (appends_any cp b 19 base (ps.map ptr) _ (.slice ca (n + 1) cap) (n + 1) (xs ++ [.pointer none]) w4 nC4 q5 own4 hcb (by have := HOS.out.2.2.2; omega) (by omega) nb4 (by rw [List.length_map]; exact hl4) (by omega) (fun u hu => by
    obtain ⟨p, _, rfl⟩ := List.mem_map.1 hu
    rfl)).mono ?_
  rintro e w5 ⟨rfl, v3, nC5, own5, hK5⟩
  refine ⟨_, rfl, ?_⟩
  show Leaves _ _ _ _ a4.defers .returning w5
  rw [hd4, hd3]
  obtain ⟨cg, c5, rfl⟩ : ∃ cg c5, v3 = .slice (some ⟨cg, 0, none⟩) (n + 20) c5 := by
    rcases own5.2 with ⟨_, h⟩ | ⟨g, cap5, cur, h, _⟩
    · omega
    · exact ⟨g, cap5, h⟩
  have tr4 : ∀ q t cs, q ≠ cp → Nd q t cs w1 → Nd q t cs w4 := fun q t cs h1 h2 => (tr2 q t cs h1 h2).below hb24 (tr2 q t cs h1 h2).lt
  have tr45 : ∀ q t cs, t ≠ 84 → q ≠ cp → Nd q t cs w4 → Nd q t cs w5 := fun q t cs h0 h1 h2 => hK5.nd h2 h1 (row_ne own4 h2 h0)
  have tr5 : ∀ q t cs, t ≠ 84 → q ≠ cp → Nd q t cs w1 → Nd q t cs w5 := fun q t cs h0 h1 h2 => tr45 q t cs h0 h1 (tr4 q t cs h1 h2)
  have c5' : ((((C.setIfInBounds 5 (.slice ca (n + 1) cap)).setIfInBounds 9 (.int .i64 (wrap64 (k + 1)))).setIfInBounds 5 (.slice (some ⟨cg, 0, none⟩) (n + 20) c5)))[5]? = some (.slice (some ⟨cg, 0, none⟩) (n + 20) c5) := Array.getElem?_setIfInBounds_self_of_lt (by rw [Array.size_setIfInBounds, Array.size_setIfInBounds]; exact h5lt)
  have hcp := HC.out.lt
  have x0 := tr5 _ _ _ (by decide) (by have := HC1.out.lt; intro h; rw [h] at A0; exact absurd (Nd.eq A0.out HC1.out).1 (by decide)) A0.out
  have x1 := tr5 _ _ _ (by decide) (by omega) A1.out
  have x2 := tr5 _ _ _ (by decide) (by omega) A2.out
  have x3 := tr5 _ _ _ (by decide) (by omega) A3.out
  have x4 := tr5 _ _ _ (by decide) (by omega) A4.out
  have x5 := tr5 _ _ _ (by decide) (by omega) A5.out
  have x6 := tr5 _ _ _ (by decide) (Ne.symm hcs) A6.out
  have x7 := tr5 _ _ _ (by decide) (by intro h; rw [h] at A7; exact absurd (Nd.eq A7.out HC1.out).1 (by decide)) A7.out
  have ncg : ∀ q t cs, t ≠ 84 → Nd q t cs w5 → q ≠ cg := fun q t cs h0 h1 h2 => row_ne own5 h1 h0 (by rw [h2]; rfl)
  refine leaves_cons (f := 38) (args := #[ptr sx, ptr w.heap.size, ptr (w.heap.size + 1)]) (by simp) (by simp [go_sem, ptr]) ?_
  refine (end_d sx (w.heap.size + 1) (w.heap.size + 3) (w.heap.size + 2) (w.heap.size + 4) w.heap.size cp n base cg (n + 20) c5 _ ⟨#[95, 108, 97, 115, 116]⟩ _ w5 x0 x2 (by decide) x4 x3 x5 x1 nC5 c5' own5 (by omega) (fun q hq => by
    rcases hq with rfl | rfl
    · exact ncg _ _ _ (by decide) x1
    · exact ncg _ _ _ (by decide) x2) .returning).mono ?_
  rintro e u' w6 ⟨rfl, rfl, hw6⟩
  have tr6 : ∀ q t cs, t ≠ 84 → Nd q t cs w5 → Nd q t cs w6 := fun q t cs h0 h1 => by
    rw [hw6]
    exact ((show Nd q t cs w5.drew from h1).alloc _).setNe (ncg q t cs h0 h1) _
  have hcgb := own5.lt cg rfl
  have hxl := HOWN.out.1
  have own6 : w6.ownsRow base 84 1 (.slice (some ⟨cg, 0, none⟩) (n + 20) c5) (n + 20) (xs ++ ptr w5.heap.size :: ps.map ptr) := by
    have h := (((World.ownsRow.alloc (w := w5.drew) own5 (.cells #[.iface 3 (.int .i64 (n + 20 : Nat)), .int .i64 15] 87))).stored n (ptr w5.heap.size)).1
    have hset : ((xs ++ [Value.pointer none]) ++ ps.map ptr).set n (ptr w5.heap.size) = xs ++ ptr w5.heap.size :: ps.map ptr := by
      rw [List.append_assoc, List.set_append_right _ _ (by omega), show n - xs.length = 0 by omega]
      rfl
    rw [hset] at h
    rw [hw6]
    exact h
  have hBel : ∀ B, B ≤ cp → B ≤ bs → Below B w w6 := by
    intro B hB1 hB2
    have hz := HOS.out.2.2.2
    have y1 : Below B w w1 := ⟨HOS.out.1, HOS.out.2.1, HOS.out.2.2.1, by omega, fun q hq => HKEEP.out q (by omega) (by omega) (by omega) (fun e => by have := HOWN.out.lt q e.symm; omega)⟩
    have y2 : Below B w w4 := (y1.trans (hb2 B hB1)).trans (hb24.mono (by omega))
    have y3 : Below B w w5 := y2.trans (hK5.below hB1 (fun q hq => by have := own4.lt q hq; omega) (by omega))
    have hz5 := hK5.2.2.2.1
    rw [hw6]
    exact ((y3.drew).alloc (by show B ≤ w5.heap.size; omega) _).setCell (by show B ≤ cg; omega) _
  refine ⟨_, results_none rfl _ _ _, rfl, _, _, _, v2, fp, w5.heap.size, ps, tr6 _ _ _ (by decide) nC5, c5', ?_, ?_, own6, ?_, hl4, ?_, tr6 _ _ _ (by decide) x6, ?_, ?_, tr6 _ _ _ (by decide) x7, ?_, hBel⟩
  · rw [Array.getElem?_setIfInBounds_ne (by decide)]; exact q7
  · rw [Array.getElem?_setIfInBounds_ne (by decide)]; exact q9
  · rw [hw6]
    exact (Nd.newAt (p := w5.heap.size) (w := w5.drew) _ _ rfl).setNe (show w5.heap.size ≠ cg by omega) _
  · intro m p hp
    obtain ⟨cs, h1, h2, h3⟩ := hps m p hp
    refine ⟨cs, h1, tr6 _ _ _ (by decide) (tr45 _ _ _ (by decide) ?_ h3)⟩
    intro h
    rw [h] at h3
    exact absurd (Nd.eq h3 nC4).1 (by decide)
  · exact Array.getElem?_setIfInBounds_self_of_lt (Array.getElem?_eq_some_iff.1 H1.out).1
  · exact row_nd ownF4 (fun g cur hg h => tr6 _ _ _ (by decide) (tr45 _ _ _ (by decide) (by omega) h))
  · intro q cs h
    refine tr6 _ _ _ (by decide) (tr5 _ _ _ (by decide) ?_ ?_)
    · intro e; rw [e] at h; exact absurd (Nd.eq h HC.out).1 (by decide)
    · exact (HKEEP.out q h.lt (fun e => by rw [e] at h; exact absurd (Nd.eq h HC.out).1 (by decide)) (fun e => by rw [e] at h; exact absurd (Nd.eq h HS.out).1 (by decide)) (row_ne HOWN.out h (by decide))).trans h
end Go.Proofs.Ytdjlkehdjlaojaa
