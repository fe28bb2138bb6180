/- How the law's recursive data read: cell by cell, with the bulk. -/
import Derived.Test.YthfhfocdbkieoaaDoorRows
import Derived.Test.YthfhfocdbkieoaaDoorSl
import Derived.ChangeArms
namespace Go.Proofs.YthfhfocdbkieoaaDoor
open Go.RowKit
set_option linter.unusedVariables false
set_option linter.unusedSimpArgs false

section
variable {H : Type} {enc : TypeId × Value → H} {w : World}
/-- These cells read as a ZPat, a ZPatObj, of bulk b. -/
def PatRd (enc : TypeId × Value → H) (w : World) (m : Nat) (cs : List Value) (b : Nat) : Prop := ∃ x, DataW.trod enc Tryd.prog w 0 (fun _ => true) true m 62 cs = some x ∧ Rows.uptoBulk x.1 = b
def ObjRd (enc : TypeId × Value → H) (w : World) (m : Nat) (cs : List Value) (b : Nat) : Prop := ∃ x, DataW.trod enc Tryd.prog w 0 (fun _ => true) true m 33 cs = some x ∧ Rows.uptoBulk x.1 = b
def sB (Y : Nat → Nat) : Nat → Nat
  | 0 => 0
  | k + 1 => sB Y k + Y k
theorem sB_congr (Y Z : Nat → Nat) : ∀ n, (∀ i, i < n → Y i = Z i) → sB Y n = sB Z n
  | 0, _ => rfl
  | n + 1, h => by show sB Y n + Y n = sB Z n + Z n; rw [sB_congr Y Z n (fun i hi => h i (by omega)), h n (by omega)]
theorem bulkAll_append {α : Type} : ∀ (a b : List (DataW α)), Rows.uptoBulkAll (a ++ b) = Rows.uptoBulkAll a + Rows.uptoBulkAll b
  | [], b => by simp [Rows.uptoBulkAll]
  | x :: a, b => by simp [Rows.uptoBulkAll, bulkAll_append a b]; omega
theorem bulkAll_sum {α : Type} (l : List (DataW α)) (Y : Nat → Nat) (h : ∀ i (hi : i < l.length), Rows.uptoBulk l[i] = Y i) : ∀ k, k ≤ l.length → Rows.uptoBulkAll (l.take k) = sB Y k
  | 0, _ => by simp [Rows.uptoBulkAll, sB]
  | k + 1, hk => by
    rw [List.take_succ_eq_append_getElem (by omega), bulkAll_append, bulkAll_sum l Y h k (by omega)]
    simp [Rows.uptoBulkAll, sB, h k (by omega)]
theorem bulk_pos {α : Type} (d : DataW α) : 1 ≤ Rows.uptoBulk d := by
  cases d with
  | lit l => cases l <;> simp [Rows.uptoBulk]
  | _ => simp [Rows.uptoBulk]
/-- A slice of structs of c cells: where the elements lie. -/
theorem slice_rd {T e : TypeId} {c : Nat} {m : Nat} {cs : List Value} {x : DataW H × List MemPlace} (hT : Tryd.prog.underlying T = some (.slice e)) (hC : Tryd.prog.cellsOf e = c) (hc0 : 0 < c)
    (h : DataW.trod enc Tryd.prog w 0 (fun _ => true) true m T cs = some x) :
    ∃ (a : Option Addr) (l cap : Nat) (Y : Nat → Nat), cs = [.slice a l cap] ∧ l + sB Y l + 1 ≤ 2 * Rows.uptoBulk x.1 ∧ sB Y l + 1 ≤ Rows.uptoBulk x.1 ∧ l + 1 ≤ Rows.uptoBulk x.1 ∧ (a = none → l = 0 ∧ cap = 0) ∧
      ∀ i, i < l → ∃ g o, a = some ⟨g, o, none⟩ ∧ ∃ es : List Value, es.length = c ∧ (∀ j, j < c → w.cell? ⟨g, o + i * c + j, none⟩ = es[j]?) ∧ ∃ y, DataW.trod enc Tryd.prog w 0 (fun _ => true) true (m - 1) e es = some y ∧ Rows.uptoBulk y.1 = Y i := by
  rcases DataW.trod_slice hT h with ⟨hcs, hx⟩ | ⟨a, len, cap, el, rs, n, rfl, hcs, hx, _, hlc, _, hel, helem, _, _⟩
  · refine ⟨none, 0, 0, fun _ => 0, hcs, ?_, ?_, ?_, fun _ => ⟨rfl, rfl⟩, fun i hi => by omega⟩
    all_goals (rw [hx]; simp [Rows.uptoBulk, sB])
  · have hY := bulkAll_sum (el.map (·.1)) (fun i => Rows.uptoBulk ((el.map (·.1)).getD i .nil)) (fun i hi => by rw [List.getD_eq_getElem?_getD, List.getElem?_eq_getElem hi]; rfl) el.length (by simp)
    rw [List.take_of_length_le (by simp)] at hY
    have hge : ∀ (l : List (DataW H)), l.length ≤ Rows.uptoBulkAll l := fun l => by
      induction l with
      | nil => simp
      | cons d l ih => have := bulk_pos d; simp [Rows.uptoBulkAll]; omega
    have hg2 := hge (el.map (·.1))
    rw [List.length_map] at hg2
    have hb : Rows.uptoBulk x.1 = Rows.uptoBulkAll (el.map (·.1)) + Rows.uptoBulkAll (rs.map (·.1)) + 1 := by rw [hx]; simp [Rows.uptoBulk]
    rw [hel] at hY hg2
    refine ⟨some a, len, cap, _, hcs, by rw [hb, ← hY]; omega, by rw [hb, ← hY]; omega, by rw [hb]; omega, (fun h => by cases h), fun i hi => ?_⟩
    have h1 := helem i hi
    rw [hC] at h1
    obtain ⟨y, hy⟩ : ∃ y, el[i]? = some y := ⟨el[i]'(by omega), List.getElem?_eq_getElem (by omega)⟩
    rw [hy] at h1
    obtain ⟨es, hes, hte⟩ := Option.bind_eq_some_iff.1 h1
    obtain ⟨_, hl2, hcc⟩ := World.cells?_some hes
    obtain ⟨g, o, rfl⟩ : ∃ g o, a = ⟨g, o, none⟩ := by
      have h1 := helem 0 (by omega)
      rw [hC] at h1
      obtain ⟨y, hy⟩ : ∃ y, el[0]? = some y := ⟨el[0]'(by omega), List.getElem?_eq_getElem (by omega)⟩
      rw [hy] at h1
      obtain ⟨es, hes, hte⟩ := Option.bind_eq_some_iff.1 h1
      obtain ⟨_, hl2, hcc⟩ := World.cells?_some hes
      have h00 := hcc 0 hc0
      rw [List.getElem?_eq_getElem (show 0 < es.length by omega), show (a.add (0 * c)).add 0 = a.add 0 by simp [Addr.add]] at h00
      exact addr_of_cell h00
    refine ⟨g, o, rfl, es, by omega, fun j hj => ?_, y, hte, ?_⟩
    · have := hcc j hj
      rw [Addr.add_lit, Addr.add_lit] at this
      exact this
    · rw [List.getD_eq_getElem?_getD, List.getElem?_map, hy]; rfl
theorem str_rd {m : Nat} {cs : List Value} {x : DataW H × List MemPlace} (h : DataW.trod enc Tryd.prog w 0 (fun _ => true) true m 9 cs = some x) : ∃ s : ByteArray, cs = [.string s] ∧ s.size + 1 = Rows.uptoBulk x.1 := by
  obtain ⟨s, hs, hx, _⟩ := DataW.trod_string Tryd.underlying9 h
  refine ⟨s, hs, ?_⟩
  rw [hx]
  simp [Rows.uptoBulk]
set_option maxRecDepth 100000 in
theorem pat_inv {m : Nat} {cs : List Value} {b : Nat} (h : PatRd enc w m cs b) :
    ∃ (nm : ByteArray) (a a' : Option Addr) (l c l' c' : Nat) (Y Z : Nat → Nat), cs = [.string nm, .slice a l c, .slice a' l' c'] ∧ nm.size + sB Y l + sB Z l' + 4 ≤ b ∧ l ≤ b ∧ l' ≤ b ∧ (a = none → l = 0 ∧ c = 0) ∧ (a' = none → l' = 0 ∧ c' = 0) ∧
      (∀ i, i < l → ∃ g o, a = some ⟨g, o, none⟩ ∧ ∃ es : List Value, es.length = 3 ∧ (∀ j, j < 3 → w.cell? ⟨g, o + i * 3 + j, none⟩ = es[j]?) ∧ PatRd enc w (m - 2) es (Y i)) ∧
      (∀ i, i < l' → ∃ g o, a' = some ⟨g, o, none⟩ ∧ ∃ es : List Value, es.length = 4 ∧ (∀ j, j < 4 → w.cell? ⟨g, o + i * 4 + j, none⟩ = es[j]?) ∧ ObjRd enc w (m - 2) es (Z i)) := by
  obtain ⟨x, hx, hb⟩ := h
  obtain ⟨xs, n, rfl, hxx, hl, hxl, hall⟩ := DataW.trod_struct Tryd.underlying62 hx
  have hl3 : cs.length = 3 := hl
  match cs, hl3 with
  | [c0, c1, c2], _ =>
    have hxl3 : xs.length = 3 := hxl
    match xs, hxl3 with
    | [x0, x1, x2], _ =>
      have f0 : DataW.trod enc Tryd.prog w 0 (fun _ => true) true n 9 [c0] = some x0 := hall 0 _ rfl
      have f1 : DataW.trod enc Tryd.prog w 0 (fun _ => true) true n 59 [c1] = some x1 := hall 1 _ rfl
      have f2 : DataW.trod enc Tryd.prog w 0 (fun _ => true) true n 60 [c2] = some x2 := hall 2 _ rfl
      obtain ⟨nm, e0, b0⟩ := str_rd f0
      obtain ⟨a, l, c, Y, e1, _, b1, b1', n1, r1⟩ := slice_rd (c := 3) Tryd.underlying59 (by kernel_rfl) (by omega) f1
      obtain ⟨a', l', c', Z, e2, _, b2, b2', n2, r2⟩ := slice_rd (c := 4) Tryd.underlying60 (by kernel_rfl) (by omega) f2
      have hbb : b = Rows.uptoBulk x0.1 + (Rows.uptoBulk x1.1 + (Rows.uptoBulk x2.1 + 0)) + 1 := by rw [← hb, hxx]; simp [Rows.uptoBulk, Rows.uptoBulkAll]
      cases e0; cases e1; cases e2
      exact ⟨nm, a, a', l, c, l', c', Y, Z, rfl, by omega, by omega, by omega, n1, n2, fun i hi => by
        obtain ⟨g, o, h1, es, h2, h3, y, h4, h5⟩ := r1 i hi
        exact ⟨g, o, h1, es, h2, h3, y, h4, h5⟩, fun i hi => by
        obtain ⟨g, o, h1, es, h2, h3, y, h4, h5⟩ := r2 i hi
        exact ⟨g, o, h1, es, h2, h3, y, h4, h5⟩⟩
set_option maxRecDepth 100000 in
theorem obj_inv {m : Nat} {cs : List Value} {b : Nat} (h : ObjRd enc w m cs b) :
    ∃ (k q : ByteArray) (hq : Bool) (p : Option Addr) (vb : Nat), cs = [.string k, .bool hq, .string q, .pointer p] ∧ k.size + q.size + vb + 4 ≤ b ∧
      (p = none ∨ ∃ g o, p = some ⟨g, o, none⟩ ∧ ∃ es : List Value, es.length = 3 ∧ (∀ j, j < 3 → w.cell? ⟨g, o + j, none⟩ = es[j]?) ∧ PatRd enc w (m - 2) es vb) := by
  obtain ⟨x, hx, hb⟩ := h
  obtain ⟨xs, n, rfl, hxx, hl, hxl, hall⟩ := DataW.trod_struct Tryd.underlying33 hx
  have hl3 : cs.length = 4 := hl
  match cs, hl3 with
  | [c0, c1, c2, c3], _ =>
    have hxl3 : xs.length = 4 := hxl
    match xs, hxl3 with
    | [x0, x1, x2, x3], _ =>
      have f0 : DataW.trod enc Tryd.prog w 0 (fun _ => true) true n 9 [c0] = some x0 := hall 0 _ rfl
      have f1 : DataW.trod enc Tryd.prog w 0 (fun _ => true) true n 4 [c1] = some x1 := hall 1 _ rfl
      have f2 : DataW.trod enc Tryd.prog w 0 (fun _ => true) true n 9 [c2] = some x2 := hall 2 _ rfl
      have f3 : DataW.trod enc Tryd.prog w 0 (fun _ => true) true n 31 [c3] = some x3 := hall 3 _ rfl
      obtain ⟨k, e0, b0⟩ := str_rd f0
      obtain ⟨q, e2, b2⟩ := str_rd f2
      obtain ⟨hq, e1, _⟩ := DataW.trod_bool Tryd.underlying4 f1
      have p1 := bulk_pos x1.1
      have p3 := bulk_pos x3.1
      have hbb : b = Rows.uptoBulk x0.1 + (Rows.uptoBulk x1.1 + (Rows.uptoBulk x2.1 + (Rows.uptoBulk x3.1 + 0))) + 1 := by rw [← hb, hxx]; simp [Rows.uptoBulk, Rows.uptoBulkAll]
      cases e0; cases e1; cases e2
      rcases DataW.trod_pointer Tryd.underlying31 f3 with ⟨e3, _⟩ | ⟨a, es, y, n', rfl, e3, hx3, hces, hy⟩
      · cases e3
        exact ⟨k, q, hq, none, 0, rfl, by omega, .inl rfl⟩
      · cases e3
        have hb3 : Rows.uptoBulk x3.1 = Rows.uptoBulk y.1 + 1 := by rw [hx3]; simp [Rows.uptoBulk]
        obtain ⟨_, hl2, hcc⟩ := World.cells?_some hces
        have hC : Tryd.prog.cellsOf 62 = 3 := by kernel_rfl
        rw [hC] at hl2 hcc
        obtain ⟨g, o, rfl⟩ : ∃ g o, a = ⟨g, o, none⟩ := by
          have h00 := hcc 0 (by omega)
          rw [List.getElem?_eq_getElem (show 0 < es.length by omega)] at h00
          exact addr_of_cell h00
        refine ⟨k, q, hq, some ⟨g, o, none⟩, Rows.uptoBulk y.1, rfl, by omega, .inr ⟨g, o, rfl, es, by omega, fun j hj => ?_, y, hy, rfl⟩⟩
        have := hcc j hj
        rw [Addr.add_lit] at this
        exact this
end
end Go.Proofs.YthfhfocdbkieoaaDoor
