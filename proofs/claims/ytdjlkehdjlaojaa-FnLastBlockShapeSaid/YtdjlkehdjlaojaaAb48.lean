/- appendBuiltin: a jump to be set, the builtin's entry, the closure for its end. -/
import Derived.Test.YtdjlkehdjlaojaaEn48
namespace Go.Proofs.Ytdjlkehdjlaojaa
open Go.RowKit
set_option linter.unusedVariables false
set_option linter.unusedSimpArgs false

theorem st_new (P : Program) (w : World) (t : TypeId) (c : Array Value) (i : Nat) (v : Value) (hi : i < c.size) (hv : v.oneCell' = true) : (store ⟨w.heap.size, i, none⟩ v).run P (w.alloc (.cells c t)) = .ok () (w.alloc (.cells (c.setIfInBounds i v) t)) := by
  rw [run_store P _ _ v _ hv]
  have hb : (w.alloc (.cells c t)).heap[w.heap.size]? = some (.cells c t (0, 0)) := heap_alloc_at _ _
  have hc : (w.alloc (.cells c t)).cell? ⟨w.heap.size, i, none⟩ = some c[i] := cell_of_block hb (Array.getElem?_eq_getElem hi)
  have hf : (w.alloc (.cells c t)).frozen? ⟨w.heap.size, i, none⟩ = false := free_of_block hb
  rw [hc, hf]
  exact congrArg (Result.ok ()) (World.setCell_alloc_new c t i v)
def lazyF (b : Nat) : Value := .func (.func 39) #[] #[ptr (b + 3), ptr (b + 2), ptr (b + 4)]
/-- What appendBuiltin leaves: its closure, the blocks that it captured, the rows. -/
def AbE (cp bs base : Nat) (C S : Array Value) (v : Value) (n : Nat) (xs : List Value) (nm : ByteArray) (ac : Int) (w : World) (e : Ending) (w' : World) : Prop :=
  ∃ (sx fp : Nat) (v' v2 : Value), e = .returned (.func (.func 38) #[] #[ptr sx, ptr w.heap.size, ptr (w.heap.size + 1)]) ∧
    Nd sx 1 #[lazyF w.heap.size] w' ∧ Nd w.heap.size 22 #[ptr cp] w' ∧ Nd (w.heap.size + 1) 9 #[.string nm] w' ∧ Nd (w.heap.size + 2) 22 #[ptr cp] w' ∧ Nd (w.heap.size + 3) 109 #[.func (.func 36) #[] #[ptr w.heap.size]] w' ∧ Nd (w.heap.size + 4) 3 #[.int .i64 n] w' ∧
    Nd cp 82 (C.setIfInBounds 5 v') w' ∧ w'.ownsRow base 84 1 v' (n + 1) (xs ++ [.pointer none]) ∧ Nd bs 50 (S.setIfInBounds 1 v2) w' ∧ w'.ownsRow base 29 1 v2 1 [ptr fp] ∧ Nd fp 91 #[.string nm, .int .i64 (n + 1 : Nat), .int .i64 ac] w' ∧
    (w'.os = w.os ∧ w'.tape = w.tape ∧ w'.output = w.output ∧ w.heap.size + 5 ≤ w'.heap.size ∧ ∀ k, k < w.heap.size → k ≠ cp → k ≠ bs → some k ≠ v.ownBlock → w'.heap[k]? = w.heap[k]?)
set_option maxHeartbeats 2000000 in
theorem appendBuiltin_any (cp bs base : Nat) (C S : Array Value) (v : Value) (n : Nat) (xs : List Value) (nm : ByteArray) (ac : Int) (w : World) (hC : Nd cp 82 C w) (h5 : C[5]? = some v) (h7 : C[7]? = some (ptr bs)) (hS : Nd bs 50 S w) (h1 : S[1]? = some (.slice none 0 0)) (own : w.ownsRow base 84 1 v n xs) (hcb : cp < base) (hbb : bs < base) (hcs : cp ≠ bs) (hb : base ≤ w.heap.size) (hn : n ≤ 100000) :
    Calls Try.prog 31 #[ptr cp, .string nm, .int .i64 ac] w (AbE cp bs base C S v n xs nm ac w) := by
  have hbA : Below w.heap.size w ((w.alloc (.cells #[ptr cp] 22)).alloc (.cells #[.string nm] 9)) := ((Below.refl _ _).alloc (Nat.le_refl _) _).alloc (by rw [size_alloc]; omega) _
  have hzA : ((w.alloc (.cells #[ptr cp] 22)).alloc (.cells #[.string nm] 9)).heap.size = w.heap.size + 2 := by rw [size_alloc, size_alloc]
  have hL := lazy_any cp base (.func (.func 36) #[] #[ptr w.heap.size]) ⟨_, _, _, rfl⟩ C v n xs ((w.alloc (.cells #[ptr cp] 22)).alloc (.cells #[.string nm] 9)) ((hC.alloc _).alloc _) h5 (row_kept own hbA (Nat.le_refl _)) hcb (by omega) (by omega)
  rw [hzA] at hL
  have HL := Lib.hid hL
  have HI := Lib.hid (codeInfo_any (.pointer (some ⟨cp, 0, none⟩)))
  have hcl := hC.lt
  have hsl := hS.lt
  have hol := own.lt
  have m0 := (Nd.newAt (w := w) 22 #[ptr cp] rfl).alloc (.cells #[.string nm] 9)
  have m1 := Nd.newAt (w := w.alloc (.cells #[ptr cp] 22)) 9 #[.string nm] (size_alloc _ _).symm
  have mS : Nd bs 50 S ((w.alloc (.cells #[ptr cp] 22)).alloc (.cells #[.string nm] 9)) := (hS.alloc _).alloc _
  have HBA := Lib.hid hbA
  have M0 := Lib.hid m0
  have M1 := Lib.hid m1
  have MS := Lib.hid mS
  have HZA := Lib.hid hzA
  clear hL hC hS own hbA m0 m1 mS hzA
  unfold ptr at HL ⊢
  go_enter Try.func31, Try.ntmps31
  go_wp2_with fail
  refine HL.out.mono ?_
  rintro e wl ⟨rfl, v', hC1, ho1, l0, l1, l2, hK1⟩
  clear HL
  obtain ⟨a', c', rfl⟩ := row_form ho1
  have hzl : w.heap.size + 5 ≤ wl.heap.size := by have := l2.lt; omega
  have k0 := hK1.nd M0.out (by omega) (fun e => by have := hol _ e.symm; omega)
  have k1 := hK1.nd M1.out (by omega) (fun e => by have := hol _ e.symm; omega)
  have kS := hK1.nd MS.out (Ne.symm hcs) (fun e => by have := hol _ e.symm; omega)
  have d0 := (k0.alloc (.cells #[.func (.func 39) #[] #[.pointer (some ⟨w.heap.size + 2 + 1, 0, none⟩), .pointer (some ⟨w.heap.size + 2, 0, none⟩), .pointer (some ⟨w.heap.size + 2 + 2, 0, none⟩)]] 1)).cell 0 rfl
  have d1 := (k1.alloc (.cells #[.func (.func 39) #[] #[.pointer (some ⟨w.heap.size + 2 + 1, 0, none⟩), .pointer (some ⟨w.heap.size + 2, 0, none⟩), .pointer (some ⟨w.heap.size + 2 + 2, 0, none⟩)]] 1)).cell 0 rfl
  simp only [List.getElem_toArray, List.getElem_cons_zero] at d0 d1
  have HC1 := Lib.hid hC1
  have HO1 := Lib.hid ho1
  have L0 := Lib.hid l0
  have L1 := Lib.hid l1
  have L2 := Lib.hid l2
  have HK1 := Lib.hid hK1
  have K0 := Lib.hid k0
  have K1 := Lib.hid k1
  have KS := Lib.hid kS
  clear hC1 ho1 l0 l1 l2 hK1 k0 k1 kS
  unfold ptr at d0
  have st : Sem.run Try.prog (store ⟨wl.heap.size, 0, none⟩ (.func (.func 39) #[] #[.pointer (some ⟨w.heap.size + 2 + 1, 0, none⟩), .pointer (some ⟨w.heap.size + 2, 0, none⟩), .pointer (some ⟨w.heap.size + 2 + 2, 0, none⟩)])) (wl.alloc (.cells #[.nilFunc] 1)) = .ok () (wl.alloc (.cells #[.func (.func 39) #[] #[.pointer (some ⟨w.heap.size + 2 + 1, 0, none⟩), .pointer (some ⟨w.heap.size + 2, 0, none⟩), .pointer (some ⟨w.heap.size + 2 + 2, 0, none⟩)]] 1)) := st_new Try.prog wl 1 #[.nilFunc] 0 _ (by show 0 < 1; decide) rfl
  go_wp2_with fail
  refine (HI.out _ _).mono ?_
  rintro e wx ⟨rfl, hwx⟩
  obtain rfl := hwx
  clear HI d0 d1 st
  go_wp2_with fail
  rename_i K hK
  refine wp_region_any (by kernel_rfl) ?_
  change wpAny _ .any ops31 _ 25 (Array.replicate 25 false) _ (World.drew _)
  obtain ⟨W, hW⟩ : ∃ X : World, X = (wl.alloc (.cells #[.func (.func 39) #[] #[.pointer (some ⟨w.heap.size + 2 + 1, 0, none⟩), .pointer (some ⟨w.heap.size + 2, 0, none⟩), .pointer (some ⟨w.heap.size + 2 + 2, 0, none⟩)]] 1)).drew := ⟨_, rfl⟩
  rw [← hW]
  have hB : Below wl.heap.size wl W := by rw [hW]; exact ((Below.refl _ _).alloc (Nat.le_refl _) _).drew
  have hz : W.heap.size = wl.heap.size + 1 := by rw [hW]; exact size_alloc _ _
  have nX : Nd wl.heap.size 1 #[.func (.func 39) #[] #[.pointer (some ⟨w.heap.size + 2 + 1, 0, none⟩), .pointer (some ⟨w.heap.size + 2, 0, none⟩), .pointer (some ⟨w.heap.size + 2 + 2, 0, none⟩)]] W := by rw [hW]; exact Nd.newAt (w := wl) 1 #[.func (.func 39) #[] #[.pointer (some ⟨w.heap.size + 2 + 1, 0, none⟩), .pointer (some ⟨w.heap.size + 2, 0, none⟩), .pointer (some ⟨w.heap.size + 2 + 2, 0, none⟩)]] rfl
  have w0 := K0.out.below hB K0.out.lt
  have w1 := K1.out.below hB K1.out.lt
  have wS := KS.out.below hB KS.out.lt
  have wC := HC1.out.below hB HC1.out.lt
  have wl0 := L0.out.below hB L0.out.lt
  have wl1 := L1.out.below hB L1.out.lt
  have wl2 := L2.out.below hB L2.out.lt
  have h5lt : 5 < C.size := (Array.getElem?_eq_some_iff.1 h5).1
  have g5 : (C.setIfInBounds 5 (.slice a' (n + 1) c'))[5]? = some (.slice a' (n + 1) c') := Array.getElem?_setIfInBounds_self_of_lt h5lt
  have g7 : (C.setIfInBounds 5 (.slice a' (n + 1) c'))[7]? = some (ptr bs) := (Array.getElem?_setIfInBounds_ne (by decide)).trans h7
  obtain ⟨a2', c2', w2, hap, ho2, hg2⟩ := app_funs (base := base) (b := W.heap.size + 1) (m := 1) (v := .slice none 0 0) (n := 0) (xs := []) (news := [ptr W.heap.size]) (w := (W.alloc (.cells #[.string nm, .int .i64 (n + 1 : Nat), .int .i64 ac] 91)).alloc (.cells #[ptr W.heap.size] 29)) (World.ownsRow_nil _ base _ _) (Nd.newAt 29 #[ptr W.heap.size] (size_alloc _ _).symm) rfl (by simp [ptr_one]) (by rw [size_alloc, size_alloc]; omega) (by omega)
  have kp : ∀ k t cs, Nd k t cs W → Nd k t cs w2 := fun k t cs h => (hg2.block k (by rw [size_alloc, size_alloc]; have := h.lt; omega) (fun e => by cases e)).trans ((h.alloc _).alloc _)
  have v0 := kp _ _ _ w0
  have v1 := kp _ _ _ w1
  have vS := kp _ _ _ wS
  have vC := kp _ _ _ wC
  have vl0 := kp _ _ _ wl0
  have vl1 := kp _ _ _ wl1
  have vl2 := kp _ _ _ wl2
  have vX := kp _ _ _ nX
  have vf : Nd W.heap.size 91 #[.string nm, .int .i64 (n + 1 : Nat), .int .i64 ac] w2 := (hg2.block W.heap.size (by rw [size_alloc, size_alloc]; omega) (fun e => by cases e)).trans ((Nd.newAt (w := W) 91 #[.string nm, .int .i64 (n + 1 : Nat), .int .i64 ac] rfl).alloc _)
  have hbF : Below wl.heap.size wl ((W.alloc (.cells #[.string nm, .int .i64 (n + 1 : Nat), .int .i64 ac] 91)).alloc (.cells #[ptr W.heap.size] 29)) := (hB.alloc (by omega) _).alloc (by rw [size_alloc]; omega) _
  have vo : w2.ownsRow base 84 1 (.slice a' (n + 1) c') (n + 1) (xs ++ [.pointer none]) := (row_kept HO1.out hbF (Nat.le_refl _)).kept hg2 (by
    cases e : (Value.slice a' (n + 1) c').ownBlock with
    | none => exact .inl rfl
    | some k => exact .inr (fun h => by cases h))
  have hkeep : ∀ k, k < w.heap.size → k ≠ cp → k ≠ bs → some k ≠ v.ownBlock → (w2.setCell ⟨bs, 1, none⟩ (.slice a2' (0 + 1) c2')).heap[k]? = w.heap[k]? := by
    intro k hk h1 h2 h3
    rw [heap_setCell_ne h2, hg2.block k (by rw [size_alloc, size_alloc]; omega) (fun e => by cases e), hbF.block k (by omega)]
    exact (HK1.out.2.2.2.2 k (by rw [size_alloc, size_alloc]; omega) h1 h3).trans (HBA.out.block k hk)
  have hfr : w2.os = w.os ∧ w2.tape = w.tape ∧ w2.output = w.output ∧ w.heap.size + 5 ≤ w2.heap.size := by
    refine ⟨?_, ?_, ?_, ?_⟩
    · exact hg2.os.trans (hbF.os.trans (HK1.out.1.trans HBA.out.os))
    · exact hg2.tape.trans (hbF.tape.trans (HK1.out.2.1.trans HBA.out.tape))
    · exact hg2.output.trans (hbF.output.trans (HK1.out.2.2.1.trans HBA.out.output))
    · have := hg2.size; rw [size_alloc, size_alloc] at this; omega
  refine region31 (bx := w.heap.size) (nx := w.heap.size + 1) (cp := cp) (bs := bs) (nm := nm) (ac := ac) (ca := a') (n := n + 1) (cap := c') (fa := none) (fn := 0) (fc := 0) (va := a2') (vn := 0 + 1) (vc := c2') (W := W) (w2 := w2) rfl rfl rfl rfl ?_ hap (vS.free 1) _ ?_
  · intro s hs
    match s, hs with
    | 0, _ => exact ⟨w0.cell 0 rfl, w1.cell 0 rfl, wC.cell 5 g5, wC.cell 7 g7, wS.cell 1 h1⟩
    | 1, _ => exact ⟨(w0.alloc _).cell 0 rfl, (w1.alloc _).cell 0 rfl, (wC.alloc _).cell 5 g5, (wC.alloc _).cell 7 g7, (wS.alloc _).cell 1 h1⟩
    | 2, _ => exact ⟨((w0.alloc _).alloc _).cell 0 rfl, ((w1.alloc _).alloc _).cell 0 rfl, ((wC.alloc _).alloc _).cell 5 g5, ((wC.alloc _).alloc _).cell 7 g7, ((wS.alloc _).alloc _).cell 1 h1⟩
    | 3, _ => exact ⟨v0.cell 0 rfl, v1.cell 0 rfl, vC.cell 5 g5, vC.cell 7 g7, vS.cell 1 h1⟩
    | s + 4, h => omega
  intro a2 h21 hd hfx
  simp only [Exit.then]
  refine hK _ _ ?_
  clear hK
  have HALL := Lib.hid (show AbE cp bs base C S v n xs nm ac w (.returned (.func (.func 38) #[] #[ptr wl.heap.size, ptr w.heap.size, ptr (w.heap.size + 1)])) (w2.setCell ⟨bs, 1, none⟩ (.slice a2' (0 + 1) c2')) from
    ⟨wl.heap.size, W.heap.size, .slice a' (n + 1) c', .slice a2' (0 + 1) c2', rfl, vX.setNe (by omega) _, v0.setNe (by omega) _, v1.setNe (by omega) _, vl0.setNe (by omega) _, vl1.setNe (by omega) _, vl2.setNe (by omega) _, vC.setNe hcs _, ownsRow_setCell_below vo hbb _, vS.set 1 _, ownsRow_setCell_below ho2 hbb _, vf.setNe (by omega) _, hfr.1, hfr.2.1, hfr.2.2.1, by rw [size_setCell]; exact hfr.2.2.2, hkeep⟩)
  clear vX v0 v1 vl0 vl1 vl2 vC vo vS ho2 vf hfr hkeep kp hg2 hap nX w0 w1 wS wC wl0 wl1 wl2 hB hz hW hbF K0 K1 KS HC1 L0 L1 L2 HK1 HO1 HBA HZA M0 M1 MS g5 g7 h5 h7 h1 hol
  obtain ⟨t2, d2⟩ := a2
  obtain ⟨x0, x1, x2, x3, x4, x5, x6, x7, x8, x9, x10, x11, x12, x13, x14, x15, x16, x17, x18, x19, x20, x21, x22, x23, x24, x25, x26, x27, x28, x29, x30, x31, x32, x33, x34, x35, x36, x37, x38, x39, rfl⟩ := arr40 t2 h21
  have e3 := hfx 3 (by omega)
  have e4 := hfx 4 (by omega)
  have e7 := hfx 7 (by omega)
  simp only [List.getElem?_toArray, List.getElem?_cons_succ, List.getElem?_cons_zero, Option.some.injEq] at e3 e4 e7 hd
  subst e3 e4 e7 hd
  clear hfx h21
  go_wp2_with fail
  go_ret
  exact HALL.out
end Go.Proofs.Ytdjlkehdjlaojaa
