/- The recursive data can be measured and built, at every depth. -/
import Derived.Test.YthfhfocdbkieoaaDoorSz36
namespace Go.Proofs.YthfhfocdbkieoaaDoor
open Go.RowKit
set_option linter.unusedVariables false

/-- An entry's text. -/
def objT (k : ByteArray) (hq : Bool) (q : ByteArray) (vs : Bool) (T : List UInt8) : List UInt8 :=
  if k.size ≠ 0 then k.data.toList ++ (if vs then [58, 32] ++ T else []) else if hq then [40] ++ q.data.toList ++ [41] ++ (if vs then [58, 32] ++ T else []) else (if vs then [58, 32] ++ T else [])
theorem mkO_E (k : ByteArray) (hq : Bool) (q : ByteArray) (vs : Bool) (T : List UInt8) (w : World) (e : Ending) (w' : World) (h : MkO k hq q vs T w e w') : MkE 24 (objT k hq q vs T) w e w' := by
  obtain ⟨p, qo, vo, rfl, h1, h2, hN, rfl, rfl, hQ, hV, hb⟩ := h
  refine ⟨p, rfl, h1, h2, ?_, hb⟩
  intro w'' hs
  have hN' := hN.same hs h1 h2
  have hs' : Same (p + 1) w'.heap.size w' w'' := hs.mono (by omega) (Nat.le_refl _)
  have hPV : PV w'' vo T := fun x hx => (hV x hx).2.2 w'' hs'
  by_cases hk : k.size = 0
  · unfold objT
    rw [if_neg (fun h => h hk)]
    rw [empty_str hk] at hN'
    cases qo with
    | none =>
      rw [if_neg (by simp)]
      exact prints_po_nil hN' hPV
    | some x =>
      rw [if_pos (by rfl)]
      exact prints_po_q hN' (hQ x rfl w'' hs') hPV
  · unfold objT
    rw [if_pos hk]
    exact prints_po_key hN' hk hPV
theorem sB_le (Y : Nat → Nat) (i : Nat) : ∀ n, i < n → Y i ≤ sB Y n
  | 0, h => by omega
  | n + 1, h => by
    by_cases e : i = n
    · subst e; show Y i ≤ sB Y i + Y i; omega
    · have := sB_le Y i n (by omega); show Y i ≤ sB Y n + Y n; omega
theorem seqT_len (Ts : Nat → List UInt8) (Y : Nat → Nat) : ∀ n, (∀ i, i < n → (Ts i).length + 2 ≤ 2 * Y i) → (seqT [44, 32] Ts n).length ≤ 2 * sB Y n
  | 0, _ => by simp [seqT]
  | n + 1, h => by
    have h1 := seqT_len Ts Y n (fun i hi => h i (by omega))
    have h2 := h n (by omega)
    have h3 : (if n = 0 then ([] : List UInt8) else [44, 32]).length ≤ 2 := by split <;> simp
    show (seqT [44, 32] Ts n ++ (if n = 0 then [] else [44, 32]) ++ Ts n).length ≤ 2 * (sB Y n + Y n)
    rw [List.length_append, List.length_append]
    omega
theorem patT_len {nm : ByteArray} {l l' b : Nat} {Ts Us : Nat → List UInt8} {Y Z : Nat → Nat} (hb : nm.size + sB Y l + sB Z l' + 4 ≤ b) (h1 : ∀ i, i < l → (Ts i).length + 2 ≤ 2 * Y i) (h2 : ∀ i, i < l' → (Us i).length + 2 ≤ 2 * Z i) : (patT nm l Ts l' Us).length + 2 ≤ 2 * b := by
  have e1 := seqT_len Ts Y l h1
  have e2 := seqT_len Us Z l' h2
  have e3 : nm.data.toList.length = nm.size := by rw [Array.length_toList]; rfl
  unfold patT
  split
  · omega
  · split
    · simp only [List.length_append, List.length_cons, List.length_nil]; omega
    · split
      · simp only [List.length_append, List.length_cons, List.length_nil]; omega
      · simp; omega
theorem objT_len {k q : ByteArray} {hq vs : Bool} {vb b : Nat} {T : List UInt8} (hb : k.size + q.size + vb + 4 ≤ b) (h1 : vs = true → T.length + 2 ≤ 2 * vb) : (objT k hq q vs T).length + 2 ≤ 2 * b := by
  have e3 : k.data.toList.length = k.size := by rw [Array.length_toList]; rfl
  have e4 : q.data.toList.length = q.size := by rw [Array.length_toList]; rfl
  have e5 : (if vs then [58, 32] ++ T else []).length ≤ 2 * vb + 2 := by
    cases vs
    · simp
    · have := h1 rfl
      rw [if_pos rfl]; simp only [List.length_append, List.length_cons, List.length_nil]; omega
  unfold objT
  split
  · rw [List.length_append]; omega
  · split
    · simp only [List.length_append, List.length_cons, List.length_nil] at e5 ⊢; omega
    · omega
def ElG (F f : FuncId) (c : Nat) (a : Option Addr) (w : World) (S : FuncId) (Y : Nat → Nat) (i : Nat) (T : List UInt8) : Prop :=
  T.length + 2 ≤ 2 * Y i ∧ ∃ g o, a = some ⟨g, o, none⟩ ∧ ∃ es : List Value, es.length = c ∧ (∀ j, j < c → w.cell? ⟨g, o + i * c + j, none⟩ = es[j]?) ∧ SzC S es w ∧ ∀ W, Below w.heap.size w W → Calls Tryd.prog F #[.agg es.toArray] W (MkE f T W)
def PatG (w : World) (cs : List Value) (b : Nat) : Prop :=
  SzC 21 cs w ∧ ∃ T : List UInt8, T.length + 2 ≤ 2 * b ∧ ∀ W, Below w.heap.size w W → Calls Tryd.prog 22 #[.agg cs.toArray] W (MkE 25 T W)
def ObjG (w : World) (cs : List Value) (b : Nat) : Prop :=
  SzC 11 cs w ∧ ∃ (k q : ByteArray) (hq : Bool) (p : Option Addr) (vb : Nat) (T : List UInt8), cs = [.string k, .bool hq, .string q, .pointer p] ∧ k.size + q.size + vb + 4 ≤ b ∧ (p.isSome = true → T.length + 2 ≤ 2 * vb) ∧
    ∀ W, Below w.heap.size w W → Calls Tryd.prog 12 #[.agg cs.toArray] W (MkO k hq q p.isSome T W)
section
variable {H : Type} {enc : TypeId × Value → H}
theorem pat_pos {m : Nat} {cs : List Value} {b : Nat} {w : World} (h : PatRd enc w m cs b) : 1 ≤ m := by
  obtain ⟨x, hx, hb⟩ := h
  obtain ⟨xs, n, rfl, hxx, hl, hxl, hall⟩ := DataW.trod_struct Tryd.underlying62 hx
  omega
theorem obj_pos {m : Nat} {cs : List Value} {b : Nat} {w : World} (h : ObjRd enc w m cs b) : 1 ≤ m := by
  obtain ⟨x, hx, hb⟩ := h
  obtain ⟨xs, n, rfl, hxx, hl, hxl, hall⟩ := DataW.trod_struct Tryd.underlying33 hx
  omega
theorem cell_on {w W : World} {g o : Nat} {v : Value} (hb : Below w.heap.size w W) (h : w.cell? ⟨g, o, none⟩ = some v) : W.cell? ⟨g, o, none⟩ = some v := (hb.cell (p := ⟨g, o, none⟩) (World.block_lt_of_cell? w _ h)).trans h
theorem both (w : World) : ∀ m, (∀ cs b, PatRd enc w m cs b → b ≤ 1048576 → PatG w cs b) ∧ (∀ cs b, ObjRd enc w m cs b → b ≤ 1048576 → ObjG w cs b) := by
  intro m
  induction m using Nat.strongRecOn with
  | _ m ih =>
    refine ⟨fun cs b h hb => ?_, fun cs b h hb => ?_⟩
    · have hm := pat_pos h
      obtain ⟨ihP, ihO⟩ := ih (m - 2) (by omega)
      obtain ⟨nm, a, a', l, c, l', c', Y, Z, rfl, hs, hl, hl', _, _, r1, r2⟩ := pat_inv h
      have k1 : ∃ Ts : Nat → List UInt8, ∀ i, i < l → ElG 22 25 3 a w 21 Y i (Ts i) := by
        refine Classical.axiomOfChoice (r := fun i (T : List UInt8) => i < l → ElG 22 25 3 a w 21 Y i T) fun i => ?_
        by_cases hi : i < l
        · obtain ⟨g, o, ha, es, he, hc, hr⟩ := r1 i hi
          obtain ⟨hS, T, hT, hM⟩ := ihP es (Y i) hr (by have := sB_le Y i l hi; omega)
          exact ⟨T, fun _ => ⟨hT, g, o, ha, es, he, hc, hS, hM⟩⟩
        · exact ⟨[], fun h => absurd h hi⟩
      have k2 : ∃ Us : Nat → List UInt8, ∀ i, i < l' → ElG 12 24 4 a' w 11 Z i (Us i) := by
        refine Classical.axiomOfChoice (r := fun i (T : List UInt8) => i < l' → ElG 12 24 4 a' w 11 Z i T) fun i => ?_
        by_cases hi : i < l'
        · obtain ⟨g, o, ha, es, he, hc, hr⟩ := r2 i hi
          obtain ⟨hS, k, q, hq, p, vb, T, rfl, hT, hT2, hM⟩ := ihO es (Z i) hr (by have := sB_le Z i l' hi; omega)
          exact ⟨objT k hq q p.isSome T, fun _ => ⟨objT_len hT hT2, g, o, ha, _, he, hc, hS, fun W hW => (hM W hW).mono (mkO_E _ _ _ _ _ _)⟩⟩
        · exact ⟨[], fun h => absurd h hi⟩
      obtain ⟨Ts, hTs⟩ := k1
      obtain ⟨Us, hUs⟩ := k2
      refine ⟨fun W hW d bb h1 h2 h3 h4 => sizePat_any nm a a' l c l' c' d bb W (by omega) (by omega) (by omega) h1 h2 h3 h4 ?_ ?_, patT nm l Ts l' Us, patT_len hs (fun i hi => (hTs i hi).1) (fun i hi => (hUs i hi).1), fun W hW => toPat_any nm a a' l c l' c' Ts Us W (by omega) (by omega) ?_ ?_⟩
      · intro i hi
        obtain ⟨_, g, o, ha, es, he, hc, hS, hM⟩ := hTs i hi
        exact ⟨g, o, ha, es, he, fun j hj => by
          rw [List.getElem?_eq_getElem (by omega)]
          exact cell_on hW ((hc j hj).trans (List.getElem?_eq_getElem (by omega))), fun W' hW' => hS W' (hW.trans (hW'.mono hW.size))⟩
      · intro i hi
        obtain ⟨_, g, o, ha, es, he, hc, hS, hM⟩ := hUs i hi
        exact ⟨g, o, ha, es, he, fun j hj => by
          rw [List.getElem?_eq_getElem (by omega)]
          exact cell_on hW ((hc j hj).trans (List.getElem?_eq_getElem (by omega))), fun W' hW' => hS W' (hW.trans (hW'.mono hW.size))⟩
      · intro i hi
        obtain ⟨_, g, o, ha, es, he, hc, hS, hM⟩ := hTs i hi
        exact ⟨g, o, ha, es, he, fun j hj => by
          rw [List.getElem?_eq_getElem (by omega)]
          exact cell_on hW ((hc j hj).trans (List.getElem?_eq_getElem (by omega))), fun W' hW' => hM W' (hW.trans (hW'.mono hW.size))⟩
      · intro i hi
        obtain ⟨_, g, o, ha, es, he, hc, hS, hM⟩ := hUs i hi
        exact ⟨g, o, ha, es, he, fun j hj => by
          rw [List.getElem?_eq_getElem (by omega)]
          exact cell_on hW ((hc j hj).trans (List.getElem?_eq_getElem (by omega))), fun W' hW' => hM W' (hW.trans (hW'.mono hW.size))⟩
    · have hm := obj_pos h
      obtain ⟨ihP, ihO⟩ := ih (m - 2) (by omega)
      obtain ⟨k, q, hq, p, vb, rfl, hs, r⟩ := obj_inv h
      rcases r with rfl | ⟨g, o, rfl, es, he, hc, hr⟩
      · exact ⟨fun W hW d bb h1 h2 h3 h4 => sizeObj_any k q hq none d bb W (by omega) (by omega) h1 h2 h3 h4 (.inl rfl), k, q, hq, none, vb, [], rfl, hs, (fun h => by cases h), fun W hW => toObj_any k q hq none [] W (.inl rfl)⟩
      · obtain ⟨hS, T, hT, hM⟩ := ihP es vb hr (by omega)
        obtain ⟨e0, e1, e2, rfl⟩ := list3 es he
        have c0 := hc 0 (by omega)
        have c1 := hc 1 (by omega)
        have c2 := hc 2 (by omega)
        refine ⟨fun W hW d bb h1 h2 h3 h4 => sizeObj_any k q hq _ d bb W (by omega) (by omega) h1 h2 h3 h4 (.inr ⟨g, o, e0, e1, e2, rfl, cell_on hW c0, cell_on hW c1, cell_on hW c2, fun W' hW' => hS W' (hW.trans (hW'.mono hW.size))⟩), k, q, hq, _, vb, T, rfl, hs, fun _ => hT, fun W hW => toObj_any k q hq _ T W (.inr ⟨g, o, e0, e1, e2, rfl, cell_on hW c0, cell_on hW c1, cell_on hW c2, fun W' hW' => (hM W' (hW.trans (hW'.mono hW.size))).mono (mkP_E T W')⟩)⟩
end
end Go.Proofs.YthfhfocdbkieoaaDoor
