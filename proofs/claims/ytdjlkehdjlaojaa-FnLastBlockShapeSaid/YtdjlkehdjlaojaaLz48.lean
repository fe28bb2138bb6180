/- Small functions of the compiler: a new scope, the jump's closure, the closure that sets it, lazy. -/
import Derived.Test.YtdjlkehdjlaojaaCp48
namespace Go.Proofs.Ytdjlkehdjlaojaa
open Go.RowKit
set_option linter.unusedVariables false
set_option linter.unusedSimpArgs false

theorem newScope_any (cp : Nat) (C : Array Value) (k : Int) (w : World) (hC : Nd cp 82 C w) (h9 : C[9]? = some (.int .i64 k)) :
    Calls Try.prog 32 #[ptr cp] w fun e w' => e = .returned (ptr w.heap.size) ∧ w' = (w.setCell ⟨cp, 9, none⟩ (.int .i64 (wrap64 (k + 1)))).alloc (.cells #[.slice none 0 0, .slice none 0 0, .int .i64 k, .int .i64 0, .int .i64 0] 50) := by
  have c0 := hC.cell 9 h9
  have f0 := hC.free 9
  clear hC h9
  unfold ptr
  go_enter Try.func32, Try.ntmps32
  go_wp2_with fail
  go_ret
  exact ⟨rfl, rfl⟩
/-- The jump that appendBuiltin sets at its end. -/
theorem jump_any (cx cp : Nat) (C : Array Value) (a : Option Addr) (n cap : Nat) (w : World) (hX : w.cell? ⟨cx, 0, none⟩ = some (ptr cp)) (hC : Nd cp 82 C w) (h5 : C[5]? = some (.slice a n cap)) :
    Calls Try.prog 36 #[ptr cx] w fun e w' => e = .returned (ptr w.heap.size) ∧ w' = w.alloc (.cells #[.iface 3 (.int .i64 n), .int .i64 15] 87) := by
  have c0 := hC.cell 5 h5
  clear hC h5
  unfold ptr at *
  go_enter Try.func36, Try.ntmps36
  go_wp2_with fail
  go_ret
  exact ⟨rfl, rfl⟩
theorem codeInfo_any (x y : Value) (w : World) : Calls Try.prog 37 #[x, y] w fun e w' => e = .returned (.tuple #[]) ∧ w' = w := by
  go_enter Try.func37, Try.ntmps37
  go_wp2_with fail
  go_end0
  exact ⟨rfl, rfl⟩
theorem arr21 (t : Array Value) (h : t.size = 21) : ∃ x0 x1 x2 x3 x4 x5 x6 x7 x8 x9 x10 x11 x12 x13 x14 x15 x16 x17 x18 x19 x20 : Value, t = #[x0, x1, x2, x3, x4, x5, x6, x7, x8, x9, x10, x11, x12, x13, x14, x15, x16, x17, x18, x19, x20] := by
  obtain ⟨l⟩ := t
  match l, h with
  | [x0, x1, x2, x3, x4, x5, x6, x7, x8, x9, x10, x11, x12, x13, x14, x15, x16, x17, x18, x19, x20], _ => exact ⟨x0, x1, x2, x3, x4, x5, x6, x7, x8, x9, x10, x11, x12, x13, x14, x15, x16, x17, x18, x19, x20, rfl⟩
theorem arr40 (t : Array Value) (h : t.size = 40) : ∃ x0 x1 x2 x3 x4 x5 x6 x7 x8 x9 x10 x11 x12 x13 x14 x15 x16 x17 x18 x19 x20 x21 x22 x23 x24 x25 x26 x27 x28 x29 x30 x31 x32 x33 x34 x35 x36 x37 x38 x39 : Value, t = #[x0, x1, x2, x3, x4, x5, x6, x7, x8, x9, x10, x11, x12, x13, x14, x15, x16, x17, x18, x19, x20, x21, x22, x23, x24, x25, x26, x27, x28, x29, x30, x31, x32, x33, x34, x35, x36, x37, x38, x39] := by
  obtain ⟨l⟩ := t
  match l, h with
  | x0 :: x1 :: x2 :: x3 :: x4 :: x5 :: x6 :: x7 :: x8 :: x9 :: x10 :: x11 :: x12 :: x13 :: x14 :: x15 :: x16 :: x17 :: x18 :: x19 :: x20 :: x21 :: x22 :: x23 :: x24 :: x25 :: x26 :: x27 :: x28 :: x29 :: x30 :: x31 :: x32 :: x33 :: x34 :: x35 :: x36 :: x37 :: x38 :: x39 :: [], _ => exact ⟨x0, x1, x2, x3, x4, x5, x6, x7, x8, x9, x10, x11, x12, x13, x14, x15, x16, x17, x18, x19, x20, x21, x22, x23, x24, x25, x26, x27, x28, x29, x30, x31, x32, x33, x34, x35, x36, x37, x38, x39, rfl⟩
/-- lazy: a nil code is appended, and the closure that will set it comes back. -/
theorem lazy_any (cp base : Nat) (fv : Value) (hfv : ∃ a b c, fv = .func a b c) (C : Array Value) (v : Value) (n : Nat) (xs : List Value) (w : World) (hC : Nd cp 82 C w) (h5 : C[5]? = some v) (own : w.ownsRow base 84 1 v n xs) (hcb : cp < base) (hb : base ≤ w.heap.size) (hn : n ≤ 1000000) :
    Calls Try.prog 35 #[ptr cp, fv] w fun e w' => e = .returned (.func (.func 39) #[] #[ptr (w.heap.size + 1), ptr w.heap.size, ptr (w.heap.size + 2)]) ∧ ∃ v', Nd cp 82 (C.setIfInBounds 5 v') w' ∧ w'.ownsRow base 84 1 v' (n + 1) (xs ++ [.pointer none]) ∧ Nd w.heap.size 22 #[ptr cp] w' ∧ Nd (w.heap.size + 1) 109 #[fv] w' ∧ Nd (w.heap.size + 2) 3 #[.int .i64 n] w' ∧ Keep cp v.ownBlock w w' := by
  obtain ⟨a, cap, rfl⟩ := row_form own
  obtain ⟨f1, f2, f3, rfl⟩ := hfv
  have c0 := hC.cell 5 h5
  have hlt := hC.lt
  unfold ptr
  go_enter Try.func35, Try.ntmps35
  go_wp2_with fail
  rename_i Q' K hK
  refine wp_region_any (by kernel_rfl) ?_
  change wpAny _ .any ops35 _ 10 (Array.replicate 10 false) _ (World.drew _)
  obtain ⟨W, hW⟩ : ∃ X : World, X = (((w.alloc (.cells #[.pointer (some ⟨cp, 0, none⟩)] 22)).alloc (.cells #[.func f1 f2 f3] 109)).alloc (.cells #[.int .i64 n] 3)).drew := ⟨_, rfl⟩
  rw [← hW]
  have hB : Below w.heap.size w W := by rw [hW]; exact ((((Below.refl _ _).alloc (Nat.le_refl _) _).alloc (by rw [size_alloc]; omega) _).alloc (by rw [size_alloc, size_alloc]; omega) _).drew
  have hz : W.heap.size = w.heap.size + 3 := by rw [hW]; show (((w.alloc _).alloc _).alloc _).heap.size = _; rw [size_alloc, size_alloc, size_alloc]
  have n0 : Nd w.heap.size 22 #[ptr cp] W := by rw [hW]; exact ((Nd.newAt (w := w) 22 #[ptr cp] rfl).alloc _).alloc _
  have n1 : Nd (w.heap.size + 1) 109 #[.func f1 f2 f3] W := by rw [hW]; exact (Nd.newAt (w := w.alloc (.cells #[ptr cp] 22)) 109 #[.func f1 f2 f3] (size_alloc _ _).symm).alloc _
  have n2 : Nd (w.heap.size + 2) 3 #[.int .i64 n] W := by rw [hW]; exact Nd.newAt (w := (w.alloc (.cells #[ptr cp] 22)).alloc (.cells #[.func f1 f2 f3] 109)) 3 #[.int .i64 n] (by rw [size_alloc, size_alloc])
  have hCW : Nd cp 82 C W := hC.below hB hC.lt
  have hbA : Below W.heap.size W (W.alloc (.cells #[.pointer none] 84)) := (Below.refl _ _).alloc (Nat.le_refl _) _
  obtain ⟨a', c', w2, hap, ho2, hg2⟩ := app_codes (news := [.pointer none]) (m := 1) (row_kept (row_kept own hB (Nat.le_refl _)) hbA (Nat.le_refl _)) (Nd.newAt 84 #[.pointer none] rfl) rfl (by simp [Value.oneCell']) (by rw [size_alloc]; omega) (by omega)
  have kp : ∀ k t cs, Nd k t cs W → (k < base ∨ w.heap.size ≤ k) → Nd k t cs w2 := fun k t cs h hk => (hg2.block k (by rw [size_alloc]; have := h.lt; omega) (fun e => by have := own.lt k e.symm; omega)).trans (h.alloc _)
  have hC2 := kp _ _ _ hCW (.inl hcb)
  have m0 := kp _ _ _ n0 (.inr (Nat.le_refl _))
  have m1 := kp _ _ _ n1 (.inr (by omega))
  have m2 := kp _ _ _ n2 (.inr (by omega))
  refine region35 (bx := w.heap.size) (cp := cp) (ca := a) (n := n) (cap := cap) (va := a') (vn := n + 1) (vc := c') (W := W) (w2 := w2) rfl rfl ?_ hap (hC2.free 5) _ ?_
  · intro s hs
    match s, hs with
    | 0, _ => exact ⟨n0.cell 0 rfl, hCW.cell 5 h5⟩
    | 1, _ => exact ⟨(n0.alloc _).cell 0 rfl, (hCW.alloc _).cell 5 h5⟩
    | 2, _ => exact ⟨m0.cell 0 rfl, hC2.cell 5 h5⟩
    | s + 3, h => omega
  intro a2 h21 hd hfx
  simp only [Exit.then]
  refine hK _ _ ?_
  clear hK
  have HC2 := Lib.hid hC2
  have HO2 := Lib.hid ho2
  have HM0 := Lib.hid m0
  have HM1 := Lib.hid m1
  have HM2 := Lib.hid m2
  have HKP := Lib.hid (Keep.of_grown (cp := cp) (hB.trans (hbA.mono hB.size)) hg2 (.slice a' (n + 1) c') 5)
  have HLT := Lib.hid hlt
  clear hC2 ho2 m0 m1 m2 kp hg2 hap n0 n1 n2 hCW hbA hB hz hW own hC c0 h5 hlt
  obtain ⟨t2, d2⟩ := a2
  obtain ⟨x0, x1, x2, x3, x4, x5, x6, x7, x8, x9, x10, x11, x12, x13, x14, x15, x16, x17, x18, x19, x20, rfl⟩ := arr21 t2 h21
  have g2 := hfx 2 (by omega)
  have g3 := hfx 3 (by omega)
  have g5 := hfx 5 (by omega)
  simp only [List.getElem?_toArray, List.getElem?_cons_succ, List.getElem?_cons_zero, Option.some.injEq] at g2 g3 g5 hd
  subst g2 g3 g5 hd
  clear hfx h21
  go_wp2_with fail
  go_ret
  exact ⟨rfl, .slice a' (n + 1) c', HC2.out.set 5 _, ownsRow_setCell_below HO2.out hcb _, HM0.out.setNe (by have := HLT.out; omega) _, HM1.out.setNe (by have := HLT.out; omega) _, HM2.out.setNe (by have := HLT.out; omega) _, HKP.out⟩
end Go.Proofs.Ytdjlkehdjlaojaa
