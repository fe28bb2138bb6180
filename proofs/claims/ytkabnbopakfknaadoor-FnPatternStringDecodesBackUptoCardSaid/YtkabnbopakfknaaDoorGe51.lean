/- The entries that the law's reader has read: what becomes of them as the row grows. -/
import Derived.Test.YtkabnbopakfknaaDoorGt51
import Derived.Test.YtkabnbopakfknaaDoorBo51
namespace Go.Proofs.YtkabnbopakfknaaDoor
open Go.RowKit
set_option linter.unusedVariables false
set_option linter.unusedSimpArgs false

/-- Wherever the blocks from lo to hi stay, and the given data, the two rows of trees are equal. -/
def ArrM (lo hi : Nat) (v1 av : Option Addr) (m : Nat) (w W : World) : Prop := ∀ W', Same lo hi W W' → Below w.heap.size w W' → ArrEq v1 av m W'
theorem ArrM.same {lo hi : Nat} {v1 av : Option Addr} {m : Nat} {w W W' : World} (h : ArrM lo hi v1 av m w W) (k : Same lo hi W W') : ArrM lo hi v1 av m w W' := fun W'' h1 h2 => h W'' (k.trans h1) h2
def GotE (v : Value) (xs : List Value) (i E : Nat) (K : Nat → ByteArray) (av : Nat → Option Addr) (lv : Nat → Nat) (w wr : World) : Prop :=
  ∀ j, j < i → ∃ v1 c1 lo hi, xs[j * 2]? = some (.string (K j)) ∧ xs[j * 2 + 1]? = some (.slice v1 (lv j) c1) ∧ E ≤ lo ∧ hi ≤ wr.heap.size ∧ (∀ g, v.ownBlock = some g → g < lo ∨ hi ≤ g) ∧ ArrM lo hi v1 (av j) (lv j) w wr
theorem gotE_next {v v' : Value} {xs : List Value} {i E c1 : Nat} {K : Nat → ByteArray} {av : Nat → Option Addr} {lv : Nat → Nat} {w wr w1 w2 : World} {o : Obj} {v1 : Option Addr} (hG : GotE v xs i E K av lv w wr) (own : wr.ownsRow E 61 2 v i xs) (hb1 : Below wr.heap.size wr w1) (hM : ArrM wr.heap.size w1.heap.size v1 (av i) (lv i) w w1)
    (hgr : (w1.alloc o).grownBy w2 v.ownBlock) (hv : v'.ownBlock = v.ownBlock ∨ v'.ownBlock = some (w1.heap.size + 1)) (hE : E ≤ wr.heap.size) : GotE v' (xs ++ [.string (K i), .slice v1 (lv i) c1]) (i + 1) E K av lv w w2 := by
  have hz := hb1.size
  have hz2 : w1.heap.size ≤ w2.heap.size := by have := hgr.size; rw [size_alloc] at this; omega
  have hl := own.1
  intro j hj
  by_cases e : j = i
  · subst e
    refine ⟨v1, c1, wr.heap.size, w1.heap.size, ?_, ?_, hE, hz2, ?_, ?_⟩
    · rw [List.getElem?_append_right (by omega), hl, Nat.sub_self]; rfl
    · rw [List.getElem?_append_right (by omega), hl, show j * 2 + 1 - j * 2 = 1 by omega]; rfl
    · intro g hg
      rcases hv with h | h
      · rw [h] at hg; exact .inl (own.lt g hg).2
      · rw [h] at hg; cases hg; exact .inr (by omega)
    · exact hM.same (got_same (E := E) (v' := v') hb1 hgr (fun g hg => .inl (own.lt g hg).2) (Nat.le_refl _))
  · obtain ⟨y0, y1, lo, hi, h0, h1, hlo, hhi, hout, hm⟩ := hG j (by omega)
    refine ⟨y0, y1, lo, hi, ?_, ?_, hlo, by omega, ?_, ?_⟩
    · rw [List.getElem?_append_left (by omega)]; exact h0
    · rw [List.getElem?_append_left (by omega)]; exact h1
    · intro g hg
      rcases hv with h | h
      · rw [h] at hg; exact hout g hg
      · rw [h] at hg; cases hg; exact .inr (by omega)
    · exact (hm.same (Same.below hb1 hhi)).same (got_same (E := E) (v' := v') hb1 hgr hout (by omega))
/-- The whole object. -/
theorem obj_eqm {v : Value} {xs : List Value} {l c c' R : Nat} {a a' : Option Addr} {K : Nat → ByteArray} {av : Nat → Option Addr} {lv cv : Nat → Nat} {Q : Nat → Nat → List Value → Prop} {w w2 W' : World} (hl : l ≤ 1048576) (h0 : 0 < l) (own : w2.ownsRow (R + 1) 61 2 v l xs) (hG : GotE v xs l (R + 1) K av lv w w2) (hS : Same (R + 1) w2.heap.size w2 W') (hz : w2.heap.size ≤ W'.heap.size)
    (hK : ∀ i, i < l → lv i ≤ 1) (hE : EntIn a' l K av lv cv Q w) : EqM R W'.heap.size [.string ⟨#[]⟩, .slice none 0 0, v] [.string ⟨#[]⟩, .slice a 0 c, .slice a' l c'] w W' := by
  intro W1 hS1 hb1 W2 hb2
  obtain ⟨g, cap, hv⟩ : ∃ g cap, v = .slice (some ⟨g, 0, none⟩) l cap := by
    rcases own.2 with ⟨_, hn⟩ | ⟨g, cap, cur, hv, _⟩
    · omega
    · exact ⟨g, cap, hv⟩
  have hS2 : Same R W'.heap.size W1 W2 := same_under hS1 (Nat.le_refl _) hb2
  have hS3 : Same (R + 1) w2.heap.size w2 W2 := hS.trans ((hS1.trans hS2).mono (by omega) hz)
  have hb3 : Below w.heap.size w W2 := hb1.trans (hb2.mono hb1.size)
  have hob : v.ownBlock = some g := by rw [hv]; rfl
  have hgl := own.lt g hob
  have cel : ∀ k u, xs[k]? = some u → W2.cell? ⟨g, 0 + k, none⟩ = some u := by
    intro k u hk
    rw [cell_of_same hS3 hgl.1 hgl.2]
    have := own.cells hob k u hk
    rw [Addr.add_lit] at this
    exact this
  have hA : EntEq (some ⟨g, 0, none⟩) a' l W2 := by
    intro i hi
    obtain ⟨v1, c1, lo, hj, h0, h1, hlo, hhi, hout, hm⟩ := hG i hi
    obtain ⟨g', o', ha, k0, k1, _⟩ := hE i hi
    refine ⟨g, 0, g', o', rfl, ha, K i, v1, av i, lv i, c1, cv i, by have := hK i hi; omega, ?_, ?_, cell_on hb3 k0, cell_on hb3 k1, hm W2 (hS3.mono hlo hhi) hb3⟩
    · exact cel _ _ h0
    · have := cel _ _ h1; exact this
  rw [hv]
  exact eq_any ⟨#[]⟩ none a (some ⟨g, 0, none⟩) a' 0 0 c l cap c' W2 (by omega) hl (fun i hi => by omega) hA
/-- The value of an entry that was read. -/
theorem val_arrm {B : Nat} {av : Option Addr} {y0 y1 y2 : Value} {es : List Value} {w wr w1 wc : World} {g o : Nat} (hM : EqM (wr.heap.size + 1) w1.heap.size [y0, y1, y2] es w w1) (h3 : es.length = 3) (ha : av = some ⟨g, o, none⟩) (hc : ∀ j, j < 3 → w.cell? ⟨g, o + 0 * 3 + j, none⟩ = es[j]?)
    (hS : Same (wr.heap.size + 1) w1.heap.size w1 wc) (hz : w1.heap.size ≤ wc.heap.size) (hB : Nd B 25 #[y0, y1, y2] wc) (hB1 : wr.heap.size + 1 ≤ B) : ArrM wr.heap.size wc.heap.size (some ⟨B, 0, none⟩) av 1 w wc := by
  intro W' hS1 hb i hi
  obtain rfl : i = 0 := by omega
  obtain ⟨z0, z1, z2, hy⟩ := list3 es h3
  have hq := hM W' (hS.trans (hS1.mono (by omega) hz)) hb
  rw [hy] at hc hq
  have hN : Nd B 25 #[y0, y1, y2] W' := hB.same hS1 (by omega) hB.lt
  exact ⟨B, 0, g, o, rfl, ha, y0, y1, y2, z0, z1, z2, hN.cell 0 rfl, hN.cell 1 rfl, hN.cell 2 rfl, cell_on hb (hc 0 (by omega)), cell_on hb (hc 1 (by omega)), cell_on hb (hc 2 (by omega)), hq⟩
/-- An entry, appended: all that is kept. -/
theorem ent_step {R i c1 : Nat} {v : Value} {xs : List Value} {K : Nat → ByteArray} {av : Nat → Option Addr} {lv : Nat → Nat} {w W wr wc : World} {v1 : Option Addr} {k : ByteArray} {m : Nat} (hO : wr.ownsRow (R + 1) 61 2 v i xs) (hN : Nd R 25 #[.string ⟨#[]⟩, .slice none 0 0, .slice none 0 0] wr) (hG : GotE v xs i (R + 1) K av lv w wr) (hRz : R + 1 ≤ wr.heap.size) (hbw : Below R W wr)
    (hbc : Below wr.heap.size wr wc) (hM : ArrM wr.heap.size wc.heap.size v1 (av i) (lv i) w wc) (hi : i ≤ 1048576) (hk : K i = k) (hm : lv i = m) : ∃ g2 cap2 w2, (∀ ty, (Builtin.append_ #[23, 23] ty #[v, .slice (some ⟨wc.heap.size, 0, none⟩) 1 1]).run Tryd.prog (wc.alloc (.cells #[.string k, .slice v1 m c1] 61)) = .ok (.slice (some ⟨g2, 0, none⟩) (i + 1) cap2) w2) ∧
      w2.ownsRow (R + 1) 61 2 (.slice (some ⟨g2, 0, none⟩) (i + 1) cap2) (i + 1) (xs ++ [.string k, .slice v1 m c1]) ∧ Nd R 25 #[.string ⟨#[]⟩, .slice none 0 0, .slice none 0 0] w2 ∧ GotE (.slice (some ⟨g2, 0, none⟩) (i + 1) cap2) (xs ++ [.string k, .slice v1 m c1]) (i + 1) (R + 1) K av lv w w2 ∧ R + 1 ≤ w2.heap.size ∧ Below R W w2 := by
  have hz := hbc.size
  subst hk hm
  obtain ⟨v', w2, hap, ho2, hg2, hb2, hob2⟩ := app_ent (row_below hO hbc (Nat.le_refl _)) (.string (K i)) (.slice v1 (lv i) c1) rfl rfl (by omega) (by omega)
  have hG3 := gotE_next (c1 := c1) hG hO hbc hM hg2 hob2 (by omega)
  have hz2 := hb2.size
  obtain ⟨g2, cap2, hv2⟩ : ∃ g cap, v' = .slice (some ⟨g, 0, none⟩) (i + 1) cap := by
    rcases ho2.2 with ⟨_, hn⟩ | ⟨g, cap, cur, hv, _⟩
    · omega
    · exact ⟨g, cap, hv⟩
  subst hv2
  exact ⟨g2, cap2, w2, hap, ho2, (hN.below hbc (by omega)).below hb2 (by omega), hG3, by omega, (hbw.trans (hbc.mono (by omega))).trans (hb2.mono (by omega))⟩
end Go.Proofs.YtkabnbopakfknaaDoor
