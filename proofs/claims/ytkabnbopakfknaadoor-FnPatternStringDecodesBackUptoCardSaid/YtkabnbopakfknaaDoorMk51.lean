/- Nodes made by the law's builder: what they write while their blocks stay (printed by wip/tools/gen_bd51.py). -/
import Derived.Test.YtkabnbopakfknaaDoorPat51
import Derived.Test.YtkabnbopakfknaaDoorSlKit
import Derived.Test.YtkabnbopakfknaaDoorBg51
import Derived.Deep.RegionHeld3
namespace Go.Proofs.YtkabnbopakfknaaDoor
open Go.RowKit
set_option linter.unusedVariables false

/-- The node writes T wherever the blocks from lo to hi are as they are here. -/
def MadeP (lo hi : Nat) (f : FuncId) (p : Nat) (T : List UInt8) (w : World) : Prop := ∀ w', Same lo hi w w' → Prt f p T w'
theorem MadeP.same {lo hi : Nat} {f : FuncId} {p : Nat} {T : List UInt8} {w w' : World} (h : MadeP lo hi f p T w) (k : Same lo hi w w') : MadeP lo hi f p T w' := fun w'' h2 => h w'' (k.trans h2)
theorem MadeP.wide {lo hi lo' hi' : Nat} {f : FuncId} {p : Nat} {T : List UInt8} {w : World} (h : MadeP lo hi f p T w) (h1 : lo' ≤ lo) (h2 : hi ≤ hi') : MadeP lo' hi' f p T w := fun w' k => h w' (k.mono h1 h2)
theorem MadeP.prt {lo hi : Nat} {f : FuncId} {p : Nat} {T : List UInt8} {w : World} (h : MadeP lo hi f p T w) : Prt f p T w := h w (Same.refl _ _ _)
def ptr (q : Nat) : Value := .pointer (some ⟨q, 0, none⟩)
/-- What a builder of a node leaves. -/
def MkE (f : FuncId) (T : List UInt8) (w : World) (e : Ending) (w' : World) : Prop :=
  ∃ p : Nat, e = .returned (.pointer (some ⟨p, 0, none⟩)) ∧ w.heap.size ≤ p ∧ p < w'.heap.size ∧ MadeP w.heap.size w'.heap.size f p T w' ∧ Below w.heap.size w w'
theorem empty_str {s : ByteArray} (h : s.size = 0) : s = ⟨#[]⟩ := by
  apply ByteArray.ext
  exact Array.eq_empty_of_size_eq_zero h
/-- While a run of nodes is made. -/
def TRel (f : FuncId) (t : TypeId) (l G R P0 : Nat) (pc rc : Array Value) (Ts : Nat → List UInt8) (B : Nat) (w WA : World) (vi : Value) (wr : World) : Prop :=
  ∃ (i : Nat) (ps : List Nat), i ≤ l ∧ vi = .int .i64 i ∧ Hid (ps.length = i) ∧ Hid (Nd G t (ps.map ptr ++ List.replicate (l - i) (Value.pointer none)).toArray wr) ∧ Hid (Nd P0 25 pc wr) ∧ Hid (Nd R 66 rc wr) ∧
    Hid (∀ j (h : j < ps.length), MadeP (G + 1) wr.heap.size f ps[j] (Ts j) wr) ∧ Hid (Same (R + 1) G WA wr) ∧ Below B w wr
def ElR (f : FuncId) (T : List UInt8) (R c : Nat) (v : Value) (G i : Nat) (wr : World) (e : Ending) (W : World) : Prop :=
  ∃ p : Nat, e = .returned (.pointer (some ⟨p, 0, none⟩)) ∧ W.cell? ⟨R, c, none⟩ = some v ∧ W.cell? ⟨G, i, none⟩ = some (.pointer none) ∧ W.frozen? ⟨G, i, none⟩ = false ∧
    Hid (wr.heap.size ≤ p ∧ p < W.heap.size ∧ MadeP wr.heap.size W.heap.size f p T W) ∧ Hid (Below wr.heap.size wr W)
theorem elR {f F : FuncId} {args : Array Value} {T : List UInt8} {R c G i : Nat} {v : Value} {t t2 : TypeId} {rc C : Array Value} {wr : World} (h : Calls Tryd.prog F args wr.drew (MkE f T wr.drew)) (hR : Nd R t2 rc wr) (hr : rc[c]? = some v) (hG : Nd G t C wr) (hc : C[i]? = some (.pointer none)) :
    Calls Tryd.prog F args wr.drew (ElR f T R c v G i wr) := by
  refine h.mono ?_
  rintro e W ⟨p, rfl, h1, h2, hM, hb⟩
  have hb' : Below wr.heap.size wr W := ⟨hb.os, hb.tape, hb.output, hb.size, hb.block⟩
  exact ⟨p, rfl, (hR.below hb' hR.lt).cell c hr, (hG.below hb' hG.lt).cell i hc, (hG.below hb' hG.lt).free i, Lib.hid ⟨h1, h2, hM⟩, Lib.hid hb'⟩
theorem keep_set {W : World} {G k R o : Nat} {v u : Value} (h : W.cell? ⟨R, o, none⟩ = some v) (hne : R ≠ G) : (W.setCell ⟨G, k, none⟩ u).cell? ⟨R, o, none⟩ = some v := by
  rw [← h]; unfold World.cell?; simp only; rw [heap_setCell_ne hne]
theorem ptrs_get (ps : List Nat) (i l : Nat) (hp : ps.length = i) (h : i < l) : (ps.map ptr ++ List.replicate (l - i) (Value.pointer none)).toArray[i]? = some (.pointer none) := by
  have hk : (ps.map ptr).length = i := by rw [List.length_map, hp]
  rw [List.getElem?_toArray, List.getElem?_append_right (by omega), hk, Nat.sub_self, List.getElem?_replicate, if_pos (by omega)]
theorem ptrs_set (ps : List Nat) (i l p : Nat) (hp : ps.length = i) (h : i < l) : ((ps.map ptr ++ List.replicate (l - i) (Value.pointer none)).toArray.setIfInBounds i (ptr p)) = ((ps ++ [p]).map ptr ++ List.replicate (l - (i + 1)) (Value.pointer none)).toArray := by
  have hk : (ps.map ptr).length = i := by rw [List.length_map, hp]
  apply Array.ext'
  simp only [Array.toList_setIfInBounds]
  have e : l - i = (l - (i + 1)) + 1 := by omega
  rw [e, List.replicate_succ, List.map_append]
  conv => lhs; rw [List.set_append_right _ _ (by omega), hk, Nat.sub_self]
  rw [List.set_cons_zero, List.append_assoc]
  rfl
theorem info_p : (Tryd.prog.info? 28).map (fun i => (i.zero, i.size, decide (i.bytes ≤ 16))) = some (some (Value.pointer none), 1, true) := by kernel_rfl
theorem info_o : (Tryd.prog.info? 67).map (fun i => (i.zero, i.size, decide (i.bytes ≤ 16))) = some (some (Value.pointer none), 1, true) := by kernel_rfl
/-- These cells are a tree that can be built, and then writes T. -/
def BdC (es : List Value) (T : List UInt8) (w : World) : Prop := ∀ W, Below w.heap.size w W → Calls Tryd.prog 8 #[.agg es.toArray] W (MkE 21 T W)
end Go.Proofs.YtkabnbopakfknaaDoor
