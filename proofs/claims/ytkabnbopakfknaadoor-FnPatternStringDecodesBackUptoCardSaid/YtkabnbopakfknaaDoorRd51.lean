/- How the law's recursive data read: cell by cell, with the bulk. -/
import Derived.Test.YtkabnbopakfknaaDoorRows
import Derived.Test.YtkabnbopakfknaaDoorSl
import Derived.ChangeArms
namespace Go.Proofs.YtkabnbopakfknaaDoor
open Go.RowKit
set_option linter.unusedVariables false
set_option linter.unusedSimpArgs false

/-- The elements of a slice of trees, with what is said of each. -/
def ArrIn (a : Option Addr) (l : Nat) (Q : Nat → List Value → Prop) (w : World) : Prop :=
  ∀ i, i < l → ∃ g o, a = some ⟨g, o, none⟩ ∧ ∃ es : List Value, es.length = 3 ∧ (∀ j, j < 3 → w.cell? ⟨g, o + i * 3 + j, none⟩ = es[j]?) ∧ Q i es
/-- The entries of a slice of entries: the key, and the value's slice. -/
def EntIn (a : Option Addr) (l : Nat) (K : Nat → ByteArray) (av : Nat → Option Addr) (lv cv : Nat → Nat) (Q : Nat → Nat → List Value → Prop) (w : World) : Prop :=
  ∀ i, i < l → ∃ g o, a = some ⟨g, o, none⟩ ∧ w.cell? ⟨g, o + i * 2, none⟩ = some (.string (K i)) ∧ w.cell? ⟨g, o + i * 2 + 1, none⟩ = some (.slice (av i) (lv i) (cv i)) ∧ ArrIn (av i) (lv i) (Q i) w
theorem cell_on {w W : World} {g o : Nat} {v : Value} (hb : Below w.heap.size w W) (h : w.cell? ⟨g, o, none⟩ = some v) : W.cell? ⟨g, o, none⟩ = some v := (hb.cell (p := ⟨g, o, none⟩) (World.block_lt_of_cell? w _ h)).trans h
theorem ArrIn.on {a : Option Addr} {l : Nat} {Q Q' : Nat → List Value → Prop} {w W : World} (h : ArrIn a l Q w) (hb : Below w.heap.size w W) (hQ : ∀ i es, i < l → Q i es → Q' i es) : ArrIn a l Q' W := fun i hi => by
  obtain ⟨g, o, ha, es, he, hc, hq⟩ := h i hi
  exact ⟨g, o, ha, es, he, fun j hj => by
    rw [List.getElem?_eq_getElem (by omega)]
    exact cell_on hb ((hc j hj).trans (List.getElem?_eq_getElem (by omega))), hQ i es hi hq⟩
theorem EntIn.on {a : Option Addr} {l : Nat} {K : Nat → ByteArray} {av : Nat → Option Addr} {lv cv : Nat → Nat} {Q Q' : Nat → Nat → List Value → Prop} {w W : World} (h : EntIn a l K av lv cv Q w) (hb : Below w.heap.size w W) (hQ : ∀ i j es, i < l → j < lv i → Q i j es → Q' i j es) : EntIn a l K av lv cv Q' W := fun i hi => by
  obtain ⟨g, o, ha, h1, h2, h3⟩ := h i hi
  exact ⟨g, o, ha, cell_on hb h1, cell_on hb h2, h3.on hb (fun j es hj hq => hQ i j es hi hj hq)⟩
section
variable {H : Type} {enc : TypeId × Value → H} {w : World}
/-- These cells read as a tree of bulk b. -/
def PatRd (enc : TypeId × Value → H) (w : World) (m : Nat) (cs : List Value) (b : Nat) : Prop := ∃ x, DataW.trod enc Tryd.prog w 0 (fun _ => true) true m 25 cs = some x ∧ Rows.uptoBulk x.1 = b
def sB (Y : Nat → Nat) : Nat → Nat
  | 0 => 0
  | k + 1 => sB Y k + Y k
theorem sB_congr (Y Z : Nat → Nat) : ∀ n, (∀ i, i < n → Y i = Z i) → sB Y n = sB Z n
  | 0, _ => rfl
  | n + 1, h => by show sB Y n + Y n = sB Z n + Z n; rw [sB_congr Y Z n (fun i hi => h i (by omega)), h n (by omega)]
theorem bulkAll_append {α : Type} : ∀ (a b : List (DataW α)), Rows.uptoBulkAll (a ++ b) = Rows.uptoBulkAll a + Rows.uptoBulkAll b
  | [], b => by simp [Rows.uptoBulkAll]
  | x :: a, b => by simp [Rows.uptoBulkAll, bulkAll_append a b]; omega
theorem bulkAll_sum {α : Type} (l : List (DataW α)) (Y : Nat → Nat) (h : ∀ i (hi : i < l.length), Rows.uptoBulk l[i] = Y i) : ∀ k, k ≤ l.length → Rows.uptoBulkAll (l.take k) = sB Y k
  | 0, _ => by simp [Rows.uptoBulkAll, sB]
  | k + 1, hk => by
    rw [List.take_succ_eq_append_getElem (by omega), bulkAll_append, bulkAll_sum l Y h k (by omega)]
    simp [Rows.uptoBulkAll, sB, h k (by omega)]
theorem bulk_pos {α : Type} (d : DataW α) : 1 ≤ Rows.uptoBulk d := by
  cases d with
  | lit l => cases l <;> simp [Rows.uptoBulk]
  | _ => simp [Rows.uptoBulk]
/-- A slice of structs of c cells: where the elements lie. -/
theorem slice_rd {T e : TypeId} {c : Nat} {m : Nat} {cs : List Value} {x : DataW H × List MemPlace} (hT : Tryd.prog.underlying T = some (.slice e)) (hC : Tryd.prog.cellsOf e = c) (hc0 : 0 < c)
    (h : DataW.trod enc Tryd.prog w 0 (fun _ => true) true m T cs = some x) :
    ∃ (a : Option Addr) (l cap : Nat) (Y : Nat → Nat), cs = [.slice a l cap] ∧ l + sB Y l + 1 ≤ 2 * Rows.uptoBulk x.1 ∧ sB Y l + 1 ≤ Rows.uptoBulk x.1 ∧ l + 1 ≤ Rows.uptoBulk x.1 ∧ (a = none → l = 0 ∧ cap = 0) ∧
      ∀ i, i < l → ∃ g o, a = some ⟨g, o, none⟩ ∧ ∃ es : List Value, es.length = c ∧ (∀ j, j < c → w.cell? ⟨g, o + i * c + j, none⟩ = es[j]?) ∧ ∃ y, DataW.trod enc Tryd.prog w 0 (fun _ => true) true (m - 1) e es = some y ∧ Rows.uptoBulk y.1 = Y i := by
  rcases DataW.trod_slice hT h with ⟨hcs, hx⟩ | ⟨a, len, cap, el, rs, n, rfl, hcs, hx, _, hlc, _, hel, helem, _, _⟩
  · refine ⟨none, 0, 0, fun _ => 0, hcs, ?_, ?_, ?_, fun _ => ⟨rfl, rfl⟩, fun i hi => by omega⟩
    all_goals (rw [hx]; simp [Rows.uptoBulk, sB])
  · have hY := bulkAll_sum (el.map (·.1)) (fun i => Rows.uptoBulk ((el.map (·.1)).getD i .nil)) (fun i hi => by rw [List.getD_eq_getElem?_getD, List.getElem?_eq_getElem hi]; rfl) el.length (by simp)
    rw [List.take_of_length_le (by simp)] at hY
    have hge : ∀ (l : List (DataW H)), l.length ≤ Rows.uptoBulkAll l := fun l => by
      induction l with
      | nil => simp
      | cons d l ih => have := bulk_pos d; simp [Rows.uptoBulkAll]; omega
    have hg2 := hge (el.map (·.1))
    rw [List.length_map] at hg2
    have hb : Rows.uptoBulk x.1 = Rows.uptoBulkAll (el.map (·.1)) + Rows.uptoBulkAll (rs.map (·.1)) + 1 := by rw [hx]; simp [Rows.uptoBulk]
    rw [hel] at hY hg2
    refine ⟨some a, len, cap, _, hcs, by rw [hb, ← hY]; omega, by rw [hb, ← hY]; omega, by rw [hb]; omega, (fun h => by cases h), fun i hi => ?_⟩
    have h1 := helem i hi
    rw [hC] at h1
    obtain ⟨y, hy⟩ : ∃ y, el[i]? = some y := ⟨el[i]'(by omega), List.getElem?_eq_getElem (by omega)⟩
    rw [hy] at h1
    obtain ⟨es, hes, hte⟩ := Option.bind_eq_some_iff.1 h1
    obtain ⟨_, hl2, hcc⟩ := World.cells?_some hes
    obtain ⟨g, o, rfl⟩ : ∃ g o, a = ⟨g, o, none⟩ := by
      have h1 := helem 0 (by omega)
      rw [hC] at h1
      obtain ⟨y, hy⟩ : ∃ y, el[0]? = some y := ⟨el[0]'(by omega), List.getElem?_eq_getElem (by omega)⟩
      rw [hy] at h1
      obtain ⟨es, hes, hte⟩ := Option.bind_eq_some_iff.1 h1
      obtain ⟨_, hl2, hcc⟩ := World.cells?_some hes
      have h00 := hcc 0 hc0
      rw [List.getElem?_eq_getElem (show 0 < es.length by omega), show (a.add (0 * c)).add 0 = a.add 0 by simp [Addr.add]] at h00
      exact addr_of_cell h00
    refine ⟨g, o, rfl, es, by omega, fun j hj => ?_, y, hte, ?_⟩
    · have := hcc j hj
      rw [Addr.add_lit, Addr.add_lit] at this
      exact this
    · rw [List.getD_eq_getElem?_getD, List.getElem?_map, hy]; rfl
theorem str_rd {m : Nat} {cs : List Value} {x : DataW H × List MemPlace} (h : DataW.trod enc Tryd.prog w 0 (fun _ => true) true m 9 cs = some x) : ∃ s : ByteArray, cs = [.string s] ∧ s.size + 1 = Rows.uptoBulk x.1 := by
  obtain ⟨s, hs, hx, _⟩ := DataW.trod_string Tryd.underlying9 h
  refine ⟨s, hs, ?_⟩
  rw [hx]
  simp [Rows.uptoBulk]
set_option maxRecDepth 100000 in
theorem pat_inv {m : Nat} {cs : List Value} {b : Nat} (h : PatRd enc w m cs b) :
    ∃ (nm : ByteArray) (a a' : Option Addr) (l c l' c' : Nat) (Y : Nat → Nat) (K : Nat → ByteArray) (av : Nat → Option Addr) (lv cv : Nat → Nat) (Z : Nat → Nat) (U : Nat → Nat → Nat), cs = [.string nm, .slice a l c, .slice a' l' c'] ∧ nm.size + sB Y l + sB Z l' + 4 ≤ b ∧ l ≤ b ∧ l' ≤ b ∧ (∀ i, i < l' → (K i).size + sB (U i) (lv i) + 3 ≤ Z i ∧ lv i ≤ Z i) ∧
      ArrIn a l (fun i es => PatRd enc w (m - 2) es (Y i)) w ∧ EntIn a' l' K av lv cv (fun i j es => PatRd enc w (m - 4) es (U i j)) w := by
  obtain ⟨x, hx, hb⟩ := h
  obtain ⟨xs, n, rfl, hxx, hl, hxl, hall⟩ := DataW.trod_struct Tryd.underlying25 hx
  have hl3 : cs.length = 3 := hl
  match cs, hl3 with
  | [c0, c1, c2], _ =>
    have hxl3 : xs.length = 3 := hxl
    match xs, hxl3 with
    | [x0, x1, x2], _ =>
      have f0 : DataW.trod enc Tryd.prog w 0 (fun _ => true) true n 9 [c0] = some x0 := hall 0 _ rfl
      have f1 : DataW.trod enc Tryd.prog w 0 (fun _ => true) true n 22 [c1] = some x1 := hall 1 _ rfl
      have f2 : DataW.trod enc Tryd.prog w 0 (fun _ => true) true n 23 [c2] = some x2 := hall 2 _ rfl
      obtain ⟨nm, e0, b0⟩ := str_rd f0
      obtain ⟨a, l, c, Y, e1, _, b1, b1', n1, r1⟩ := slice_rd (c := 3) Tryd.underlying22 (by kernel_rfl) (by omega) f1
      obtain ⟨a', l', c', Z, e2, _, b2, b2', n2, r2⟩ := slice_rd (c := 2) Tryd.underlying23 (by kernel_rfl) (by omega) f2
      have hbb : b = Rows.uptoBulk x0.1 + (Rows.uptoBulk x1.1 + (Rows.uptoBulk x2.1 + 0)) + 1 := by rw [← hb, hxx]; simp [Rows.uptoBulk, Rows.uptoBulkAll]
      cases e0; cases e1; cases e2
      have ent : ∀ i, ∃ y : ByteArray × Option Addr × Nat × Nat × (Nat → Nat), i < l' → (y.1.size + sB y.2.2.2.2 y.2.2.1 + 3 ≤ Z i ∧ y.2.2.1 ≤ Z i) ∧ ∃ g o, a' = some ⟨g, o, none⟩ ∧ w.cell? ⟨g, o + i * 2, none⟩ = some (.string y.1) ∧ w.cell? ⟨g, o + i * 2 + 1, none⟩ = some (.slice y.2.1 y.2.2.1 y.2.2.2.1) ∧ ArrIn y.2.1 y.2.2.1 (fun j es => PatRd enc w (n + 1 - 4) es (y.2.2.2.2 j)) w := by
        intro i
        by_cases hi : i < l'
        · obtain ⟨g, o, h1, es, h2, h3, y, h4, h5⟩ := r2 i hi
          obtain ⟨ys, n', hnn, hyx, hyl, hyl2, hally⟩ := DataW.trod_struct Tryd.underlying61 h4
          have hyl3 : ys.length = 2 := hyl2
          match es, h2 with
          | [d0, d1], _ =>
            match ys, hyl3 with
            | [y0, y1], _ =>
              have k0 : DataW.trod enc Tryd.prog w 0 (fun _ => true) true n' 9 [d0] = some y0 := hally 0 _ rfl
              have k1 : DataW.trod enc Tryd.prog w 0 (fun _ => true) true n' 22 [d1] = some y1 := hally 1 _ rfl
              obtain ⟨kk, u0, q0⟩ := str_rd k0
              obtain ⟨aa, ll, cc, U, u1, _, q1, q1', _, s1⟩ := slice_rd (c := 3) Tryd.underlying22 (by kernel_rfl) (by omega) k1
              cases u0; cases u1
              have hzz : Z i = Rows.uptoBulk y0.1 + (Rows.uptoBulk y1.1 + 0) + 1 := by rw [← h5, hyx]; simp [Rows.uptoBulk, Rows.uptoBulkAll]
              refine ⟨(kk, aa, ll, cc, U), fun _ => ⟨⟨by show kk.size + sB U ll + 3 ≤ Z i; omega, by show ll ≤ Z i; omega⟩, g, o, h1, h3 0 (by omega), h3 1 (by omega), fun j hj => ?_⟩⟩
              obtain ⟨g2, o2, z1, es2, z2, z3, z4, z5, z6⟩ := s1 j hj
              have e4 : n' - 1 = n + 1 - 4 := by omega
              rw [e4] at z5
              exact ⟨g2, o2, z1, es2, z2, z3, z4, z5, z6⟩
        · exact ⟨(⟨#[]⟩, none, 0, 0, fun _ => 0), fun h => absurd h hi⟩
      obtain ⟨F, hF⟩ := Classical.axiomOfChoice ent
      exact ⟨nm, a, a', l, c, l', c', Y, fun i => (F i).1, fun i => (F i).2.1, fun i => (F i).2.2.1, fun i => (F i).2.2.2.1, Z, fun i => (F i).2.2.2.2, rfl, by omega, by omega, by omega, fun i hi => (hF i hi).1, fun i hi => by
        obtain ⟨g, o, h1, es, h2, h3, y, h4, h5⟩ := r1 i hi
        exact ⟨g, o, h1, es, h2, h3, y, h4, h5⟩, fun i hi => (hF i hi).2⟩
theorem pat_pos {m : Nat} {cs : List Value} {b : Nat} {w : World} (h : PatRd enc w m cs b) : 1 ≤ m := by
  obtain ⟨x, hx, hb⟩ := h
  obtain ⟨xs, n, rfl, hxx, hl, hxl, hall⟩ := DataW.trod_struct Tryd.underlying25 hx
  omega
end
end Go.Proofs.YtkabnbopakfknaaDoor
