/- The law's builder of object entries (printed by wip/tools/gen_to36.py). -/
import Derived.Test.YthfhfocdbkieoaaDoorPat36
namespace Go.Proofs.YthfhfocdbkieoaaDoor
open Go.RowKit
set_option linter.unusedVariables false

/-- The node writes T wherever the blocks from lo to hi are as they are here. -/
def MadeP (lo hi : Nat) (f : FuncId) (p : Nat) (T : List UInt8) (w : World) : Prop := ∀ w', Same lo hi w w' → Prt f p T w'
theorem MadeP.same {lo hi : Nat} {f : FuncId} {p : Nat} {T : List UInt8} {w w' : World} (h : MadeP lo hi f p T w) (k : Same lo hi w w') : MadeP lo hi f p T w' := fun w'' h2 => h w'' (k.trans h2)
theorem MadeP.wide {lo hi lo' hi' : Nat} {f : FuncId} {p : Nat} {T : List UInt8} {w : World} (h : MadeP lo hi f p T w) (h1 : lo' ≤ lo) (h2 : hi ≤ hi') : MadeP lo' hi' f p T w := fun w' k => h w' (k.mono h1 h2)
theorem MadeP.prt {lo hi : Nat} {f : FuncId} {p : Nat} {T : List UInt8} {w : World} (h : MadeP lo hi f p T w) : Prt f p T w := h w (Same.refl _ _ _)
/-- What a builder of a pattern leaves. -/
def MkP (T : List UInt8) (w : World) (e : Ending) (w' : World) : Prop :=
  ∃ p : Nat, e = .returned (.pointer (some ⟨p, 0, none⟩)) ∧ w.heap.size ≤ p ∧ p < w'.heap.size ∧ MadeP w.heap.size w'.heap.size 25 p T w' ∧ Below w.heap.size w w'
/-- What the builder of an object's entry leaves: the entry's block, and its parts, made behind it. -/
def MkO (k : ByteArray) (hq : Bool) (q : ByteArray) (vs : Bool) (T : List UInt8) (w : World) (e : Ending) (w' : World) : Prop :=
  ∃ (p : Nat) (qo vo : Option Nat), e = .returned (.pointer (some ⟨p, 0, none⟩)) ∧ w.heap.size ≤ p ∧ p < w'.heap.size ∧ Nd p 42 #[.string k, .pointer none, pv qo, pv vo] w' ∧ qo.isSome = hq ∧ vo.isSome = vs ∧
    (∀ x, qo = some x → Made (p + 1) w'.heap.size 31 x Safe q.data.toList w') ∧ (∀ x, vo = some x → p < x ∧ x < w'.heap.size ∧ MadeP (p + 1) w'.heap.size 25 x T w') ∧ Below w.heap.size w w'
/-- The value's argument: none, or one that can be built. -/
def VIn (pp : Option Addr) (T : List UInt8) (w : World) : Prop :=
  pp = none ∨ ∃ g o e0 e1 e2, pp = some ⟨g, o, none⟩ ∧ w.cell? ⟨g, o, none⟩ = some e0 ∧ w.cell? ⟨g, o + 1, none⟩ = some e1 ∧ w.cell? ⟨g, o + 2, none⟩ = some e2 ∧ ∀ W, Below w.heap.size w W → Calls Tryd.prog 22 #[.agg #[e0, e1, e2]] W (MkP T W)
theorem Nd.lt2 {p : Nat} {t : TypeId} {cs : Array Value} {w : World} (h : Nd p t cs w) : p < w.heap.size := h.lt
set_option maxHeartbeats 4000000 in
set_option maxRecDepth 100000 in
theorem toObj_any (k q : ByteArray) (hq : Bool) (pp : Option Addr) (T : List UInt8) (w : World) (hv : VIn pp T w) :
    Calls Tryd.prog 12 #[.agg #[.string k, .bool hq, .string q, .pointer pp]] w (MkO k hq q pp.isSome T w) := by
  rcases hv with rfl | ⟨g, o, e0, e1, e2, rfl, d0, d1, d2, hcall⟩
  · cases hq
    · go_enter Tryd.func12, Tryd.ntmps12
      go_wp2_with fail
      go_ret
      refine ⟨w.heap.size + 1, none, none, rfl, by omega, by rw [size_alloc, size_alloc]; omega, Nd.newAt _ _ (by rw [size_alloc]), rfl, rfl, (fun x h => by cases h), (fun x h => by cases h), ((Below.refl _ _).alloc (Nat.le_refl _) _).alloc (by simp) _⟩
    · go_enter Tryd.func12, Tryd.ntmps12
      go_wp2_with fail
      obtain ⟨W, hW⟩ : ∃ W, W = ((w.alloc (.cells #[.string k, .bool true, .string q, .pointer none] 33)).alloc (.cells #[.string k, .pointer none, .pointer none, .pointer none] 42)) := ⟨_, rfl⟩
      have hP : Nd w.heap.size 33 #[.string k, .bool true, .string q, .pointer none] W := by rw [hW]; exact (Nd.new _ _ _).alloc _
      have hX : Nd (w.heap.size + 1) 42 #[.string k, .pointer none, .pointer none, .pointer none] W := by rw [hW]; exact Nd.newAt _ _ (by rw [size_alloc])
      have hbW : Below w.heap.size w W := by rw [hW]; exact ((Below.refl _ _).alloc (Nat.le_refl _) _).alloc (by simp) _
      have hsW : W.heap.size = w.heap.size + 1 + 1 := by rw [hW, size_alloc, size_alloc]
      rw [← hW]
      have HSW := Lib.hid hsW
      clear hW hsW
      refine (num_any q W).mono ?_
      rintro e w1 ⟨x, rfl, hm, hb1⟩
      have hX1 := hX.below hb1 hX.lt
      have hP1 := hP.below hb1 hP.lt
      have c2 := hX1.cell 2 rfl
      have f2 := hX1.free 2
      have p3 := hP1.cell 3 rfl
      have hX2 := hX1.set 2 (.pointer (some ⟨x, 0, none⟩))
      have hP2 := hP1.setNe (b := w.heap.size + 1) (i := 2) (by omega) (.pointer (some ⟨x, 0, none⟩))
      have hM2 := (hm.wide (lo' := w.heap.size + 1 + 1) (hi' := w1.heap.size) (by have := HSW.out; omega) (Nat.le_refl _)).same ((Same.refl _ _ _).setCell (b := w.heap.size + 1) (i := 2) (.inl (by omega)) (.pointer (some ⟨x, 0, none⟩)))
      have hb2 : Below w.heap.size w (w1.setCell ⟨w.heap.size + 1, 2, none⟩ (.pointer (some ⟨x, 0, none⟩))) := (hbW.trans (hb1.mono hbW.size)).setCell (by simp) _
      have hz2 := size_setCell w1 ⟨w.heap.size + 1, 2, none⟩ (.pointer (some ⟨x, 0, none⟩))
      have hz1 : w.heap.size + 1 + 1 ≤ w1.heap.size := by have := hb1.size; have := HSW.out; omega
      rw [← hz2] at hM2
      have HX2 := Lib.hid hX2
      have HM2 := Lib.hid hM2
      have HZ := Lib.hid hz2
      clear hP hX hX1 hm hP1 hX2 hP2 hM2 hz2
      go_wp2_with fail
      go_ret
      refine ⟨w.heap.size + 1, some x, none, rfl, by omega, by rw [HZ.out]; omega, HX2.out, rfl, rfl, (fun y h => by cases h; exact HM2.out), (fun y h => by cases h), hb2⟩
  · cases hq
    · have hgl := World.block_lt_of_cell? w _ d0
      simp only at hgl
      have HV := Lib.hid hcall
      clear hcall
      go_enter Tryd.func12, Tryd.ntmps12
      go_wp2_with fail
      obtain ⟨W, hW⟩ : ∃ W, W = ((w.alloc (.cells #[.string k, .bool false, .string q, .pointer (some ⟨g, o, none⟩)] 33)).alloc (.cells #[.string k, .pointer none, .pointer none, .pointer none] 42)) := ⟨_, rfl⟩
      have hP : Nd w.heap.size 33 #[.string k, .bool false, .string q, .pointer (some ⟨g, o, none⟩)] W := by rw [hW]; exact (Nd.new _ _ _).alloc _
      have hX : Nd (w.heap.size + 1) 42 #[.string k, .pointer none, .pointer none, .pointer none] W := by rw [hW]; exact Nd.newAt _ _ (by rw [size_alloc])
      have hbW : Below w.heap.size w W := by rw [hW]; exact ((Below.refl _ _).alloc (Nat.le_refl _) _).alloc (by simp) _
      have hsW : W.heap.size = w.heap.size + 1 + 1 := by rw [hW, size_alloc, size_alloc]
      rw [← hW]
      have HSW := Lib.hid hsW
      clear hW hsW
      have hz1 : w.heap.size + 1 + 1 ≤ W.heap.size := by have := HSW.out; omega
      have p3b := hP.cell 3 rfl
      have g0 := (hbW.cell (p := ⟨g, o, none⟩) hgl).trans d0
      have g1 := (hbW.cell (p := ⟨g, o + 1, none⟩) hgl).trans d1
      have g2 := (hbW.cell (p := ⟨g, o + 2, none⟩) hgl).trans d2
      have HC := Lib.hid (HV.out W hbW)
      have HX := Lib.hid hX
      have HBN := Lib.hid hbW
      have HZ1 := Lib.hid hz1
      have p1b := hP.cell 1 rfl
      clear hX hz1 hbW hP
      skip
      refine HC.out.mono ?_
      rintro e w3 ⟨y, rfl, hy1, hy2, hmy, hb3⟩
      have hX3 := HX.out.below hb3 HX.out.lt
      have c3 := hX3.cell 3 rfl
      have f3 := hX3.free 3
      have hX4 := hX3.set 3 (.pointer (some ⟨y, 0, none⟩))
      have hsz3 := hb3.size
      have hM4 := (hmy.wide (lo' := w.heap.size + 1 + 1) (hi' := w3.heap.size) HZ1.out (Nat.le_refl _)).same ((Same.refl _ _ _).setCell (b := w.heap.size + 1) (i := 3) (.inl (by omega)) (.pointer (some ⟨y, 0, none⟩)))
      have hb4 : Below w.heap.size w (w3.setCell ⟨w.heap.size + 1, 3, none⟩ (.pointer (some ⟨y, 0, none⟩))) := (HBN.out.trans (hb3.mono HBN.out.size)).setCell (by simp) _
      have hz4 := size_setCell w3 ⟨w.heap.size + 1, 3, none⟩ (.pointer (some ⟨y, 0, none⟩))
      have hz5 := HZ1.out
      rw [← hz4] at hM4
      have HX4 := Lib.hid hX4
      have HM4 := Lib.hid hM4
      have HZ4 := Lib.hid hz4
      have HYL : Hid (w.heap.size + 1 < y ∧ y < w3.heap.size) := Lib.hid ⟨by omega, hy2⟩
      have HS3 : Hid (w.heap.size + 1 < w3.heap.size) := Lib.hid (by omega)
      clear hX3 hX4 hM4 hz4 hmy hb3 hy1 hy2 hsz3 hz5
      go_wp2_with fail
      go_ret
      refine ⟨w.heap.size + 1, none, some y, rfl, by omega, by rw [HZ4.out]; exact HS3.out, HX4.out, rfl, rfl, (fun z h => by cases h), (fun z h => by cases h; exact ⟨HYL.out.1, by rw [HZ4.out]; exact HYL.out.2, HM4.out⟩), hb4⟩
    · have hgl := World.block_lt_of_cell? w _ d0
      simp only at hgl
      have HV := Lib.hid hcall
      clear hcall
      go_enter Tryd.func12, Tryd.ntmps12
      go_wp2_with fail
      obtain ⟨W, hW⟩ : ∃ W, W = ((w.alloc (.cells #[.string k, .bool true, .string q, .pointer (some ⟨g, o, none⟩)] 33)).alloc (.cells #[.string k, .pointer none, .pointer none, .pointer none] 42)) := ⟨_, rfl⟩
      have hP : Nd w.heap.size 33 #[.string k, .bool true, .string q, .pointer (some ⟨g, o, none⟩)] W := by rw [hW]; exact (Nd.new _ _ _).alloc _
      have hX : Nd (w.heap.size + 1) 42 #[.string k, .pointer none, .pointer none, .pointer none] W := by rw [hW]; exact Nd.newAt _ _ (by rw [size_alloc])
      have hbW : Below w.heap.size w W := by rw [hW]; exact ((Below.refl _ _).alloc (Nat.le_refl _) _).alloc (by simp) _
      have hsW : W.heap.size = w.heap.size + 1 + 1 := by rw [hW, size_alloc, size_alloc]
      rw [← hW]
      have HSW := Lib.hid hsW
      clear hW hsW
      refine (num_any q W).mono ?_
      rintro e w1 ⟨x, rfl, hm, hb1⟩
      have hX1 := hX.below hb1 hX.lt
      have hP1 := hP.below hb1 hP.lt
      have c2 := hX1.cell 2 rfl
      have f2 := hX1.free 2
      have p3 := hP1.cell 3 rfl
      have hX2 := hX1.set 2 (.pointer (some ⟨x, 0, none⟩))
      have hP2 := hP1.setNe (b := w.heap.size + 1) (i := 2) (by omega) (.pointer (some ⟨x, 0, none⟩))
      have hM2 := (hm.wide (lo' := w.heap.size + 1 + 1) (hi' := w1.heap.size) (by have := HSW.out; omega) (Nat.le_refl _)).same ((Same.refl _ _ _).setCell (b := w.heap.size + 1) (i := 2) (.inl (by omega)) (.pointer (some ⟨x, 0, none⟩)))
      have hb2 : Below w.heap.size w (w1.setCell ⟨w.heap.size + 1, 2, none⟩ (.pointer (some ⟨x, 0, none⟩))) := (hbW.trans (hb1.mono hbW.size)).setCell (by simp) _
      have hz2 := size_setCell w1 ⟨w.heap.size + 1, 2, none⟩ (.pointer (some ⟨x, 0, none⟩))
      have hz1 : w.heap.size + 1 + 1 ≤ w1.heap.size := by have := hb1.size; have := HSW.out; omega
      obtain ⟨W2, hW2⟩ : ∃ W2, W2 = w1.setCell ⟨w.heap.size + 1, 2, none⟩ (.pointer (some ⟨x, 0, none⟩)) := ⟨_, rfl⟩
      have hW2f := hW2
      rw [← hW2] at hX2 hP2 hM2 hb2 hz2
      rw [← hz2] at hz1 hM2
      have p3b := hP2.cell 3 rfl
      have g0 := (hb2.cell (p := ⟨g, o, none⟩) hgl).trans d0
      have g1 := (hb2.cell (p := ⟨g, o + 1, none⟩) hgl).trans d1
      have g2 := (hb2.cell (p := ⟨g, o + 2, none⟩) hgl).trans d2
      have HC := Lib.hid (HV.out W2 hb2)
      have HX := Lib.hid hX2
      have HBN := Lib.hid hb2
      have HZ1 := Lib.hid hz1
      have HM2 := Lib.hid hM2
      have HP2 := Lib.hid hP2
      clear hP hX hX1 hm hP1 hX2 hM2 hz2 hz1 hb2 hbW hb1 hP2
      rw [hW2] at p3b g0 g1 g2
      clear hW2
      go_wp2_with fail
      rw [← hW2f]
      clear p3b p3 g0 g1 g2 c2 f2 hW2f
      refine HC.out.mono ?_
      rintro e w3 ⟨y, rfl, hy1, hy2, hmy, hb3⟩
      have hX3 := HX.out.below hb3 HX.out.lt
      have c3 := hX3.cell 3 rfl
      have f3 := hX3.free 3
      have hX4 := hX3.set 3 (.pointer (some ⟨y, 0, none⟩))
      have hsz3 := hb3.size
      have hM4 := (hmy.wide (lo' := w.heap.size + 1 + 1) (hi' := w3.heap.size) HZ1.out (Nat.le_refl _)).same ((Same.refl _ _ _).setCell (b := w.heap.size + 1) (i := 3) (.inl (by omega)) (.pointer (some ⟨y, 0, none⟩)))
      have hb4 : Below w.heap.size w (w3.setCell ⟨w.heap.size + 1, 3, none⟩ (.pointer (some ⟨y, 0, none⟩))) := (HBN.out.trans (hb3.mono HBN.out.size)).setCell (by simp) _
      have hz4 := size_setCell w3 ⟨w.heap.size + 1, 3, none⟩ (.pointer (some ⟨y, 0, none⟩))
      have hz5 := HZ1.out
      have hQ4 := ((HM2.out.same (Same.below hb3 (Nat.le_refl _))).wide (lo' := w.heap.size + 1 + 1) (hi' := w3.heap.size) (Nat.le_refl _) hsz3).same ((Same.refl _ _ _).setCell (b := w.heap.size + 1) (i := 3) (.inl (by omega)) (.pointer (some ⟨y, 0, none⟩)))
      rw [← hz4] at hQ4
      have HQ4 := Lib.hid hQ4
      clear hQ4
      rw [← hz4] at hM4
      have HX4 := Lib.hid hX4
      have HM4 := Lib.hid hM4
      have HZ4 := Lib.hid hz4
      have HYL : Hid (w.heap.size + 1 < y ∧ y < w3.heap.size) := Lib.hid ⟨by omega, hy2⟩
      have HS3 : Hid (w.heap.size + 1 < w3.heap.size) := Lib.hid (by omega)
      clear hX3 hX4 hM4 hz4 hmy hb3 hy1 hy2 hsz3 hz5
      go_wp2_with fail
      go_ret
      refine ⟨w.heap.size + 1, some x, some y, rfl, by omega, by rw [HZ4.out]; exact HS3.out, HX4.out, rfl, rfl, (fun z h => by cases h; exact HQ4.out), (fun z h => by cases h; exact ⟨HYL.out.1, by rw [HZ4.out]; exact HYL.out.2, HM4.out⟩), hb4⟩
end Go.Proofs.YthfhfocdbkieoaaDoor
