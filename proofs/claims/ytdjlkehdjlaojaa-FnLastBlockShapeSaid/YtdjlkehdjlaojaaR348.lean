/- compileLast's second statement: its operations in whatever order (printed by wip/tools/gen_r348.py). -/
import Derived.Test.YtdjlkehdjlaojaaNd48
import Derived.Test.YtdjlkehdjlaojaaProg
namespace Go.Proofs.Ytdjlkehdjlaojaa
open Go.RowKit
set_option linter.unusedVariables false
set_option linter.unusedSimpArgs false

noncomputable def ops3 : Array Oper := match Try.f25.body with
  | some (.seq _ (.seq _ (.seq _ (.region _ ops _)))) => ops
  | _ => #[]
def ptr (q : Nat) : Value := .pointer (some ⟨q, 0, none⟩)
/-- The blocks of the codes, in their order. -/
def boxes3 (cp sc v3 v4 v5 : Nat) (kid : Int) (ca : Option Addr) (n cap : Nat) : List Value := [.tuple #[.iface 32 (.agg #[.int .i64 kid, .int .i64 3, .int .i64 1]), .int .i64 23], .tuple #[.iface 92 (.agg #[.int .i64 kid, .int .i64 0]), .int .i64 6], .tuple #[.iface 92 (.agg #[.int .i64 kid, .int .i64 1]), .int .i64 6], .tuple #[.iface 4 (.bool true), .int .i64 1], .tuple #[.iface 92 (.agg #[.int .i64 kid, .int .i64 2]), .int .i64 6], .tuple #[.iface 92 (.agg #[.int .i64 kid, .int .i64 0]), .int .i64 5], .tuple #[.iface 3 (.int .i64 ((n : Int) + 13)), .int .i64 9], .tuple #[.iface 92 (.agg #[.int .i64 kid, .int .i64 1]), .int .i64 5], .tuple #[.nilIface, .int .i64 22], .tuple #[.iface 92 (.agg #[.int .i64 kid, .int .i64 0]), .int .i64 6], .tuple #[.iface 4 (.bool false), .int .i64 1], .tuple #[.iface 92 (.agg #[.int .i64 kid, .int .i64 2]), .int .i64 6], .tuple #[.nilIface, .int .i64 14], .tuple #[.nilIface, .int .i64 2], .tuple #[.iface 92 (.agg #[.int .i64 kid, .int .i64 2]), .int .i64 5], .tuple #[.iface 3 (.int .i64 ((n : Int) + 17)), .int .i64 16], .tuple #[.nilIface, .int .i64 14], .tuple #[.iface 92 (.agg #[.int .i64 kid, .int .i64 0]), .int .i64 5], .tuple #[.nilIface, .int .i64 24]]
/-- What each operation leaves: a value; of a new block, its cells as a tuple; of the slice, a mark. -/
def tab3 (cp sc v3 v4 v5 : Nat) (kid : Int) (ca : Option Addr) (n cap : Nat) : List Value := [.pointer (some ⟨cp, 0, none⟩), .pointer (some ⟨sc, 0, none⟩), .pointer (some ⟨sc, 0, none⟩), .pointer (some ⟨sc, 2, none⟩), .int .i64 kid, .agg #[.int .i64 kid, .int .i64 3, .int .i64 1], .iface 32 (.agg #[.int .i64 kid, .int .i64 3, .int .i64 1]), .agg #[.iface 32 (.agg #[.int .i64 kid, .int .i64 3, .int .i64 1]), .int .i64 23], .tuple #[.iface 32 (.agg #[.int .i64 kid, .int .i64 3, .int .i64 1]), .int .i64 23], .agg #[.int .i64 kid, .int .i64 0], .iface 92 (.agg #[.int .i64 kid, .int .i64 0]), .agg #[.iface 92 (.agg #[.int .i64 kid, .int .i64 0]), .int .i64 6], .tuple #[.iface 92 (.agg #[.int .i64 kid, .int .i64 0]), .int .i64 6], .agg #[.int .i64 kid, .int .i64 1], .iface 92 (.agg #[.int .i64 kid, .int .i64 1]), .agg #[.iface 92 (.agg #[.int .i64 kid, .int .i64 1]), .int .i64 6], .tuple #[.iface 92 (.agg #[.int .i64 kid, .int .i64 1]), .int .i64 6], .iface 4 (.bool true), .agg #[.iface 4 (.bool true), .int .i64 1], .tuple #[.iface 4 (.bool true), .int .i64 1], .agg #[.int .i64 kid, .int .i64 2], .iface 92 (.agg #[.int .i64 kid, .int .i64 2]), .agg #[.iface 92 (.agg #[.int .i64 kid, .int .i64 2]), .int .i64 6], .tuple #[.iface 92 (.agg #[.int .i64 kid, .int .i64 2]), .int .i64 6], .agg #[.int .i64 kid, .int .i64 0], .iface 92 (.agg #[.int .i64 kid, .int .i64 0]), .agg #[.iface 92 (.agg #[.int .i64 kid, .int .i64 0]), .int .i64 5], .tuple #[.iface 92 (.agg #[.int .i64 kid, .int .i64 0]), .int .i64 5], .pointer (some ⟨cp, 0, none⟩), .pointer (some ⟨cp, 0, none⟩), .pointer (some ⟨cp, 5, none⟩), .slice ca n cap, .int .i64 n, .int .i64 ((n : Int) + 13), .iface 3 (.int .i64 ((n : Int) + 13)), .agg #[.iface 3 (.int .i64 ((n : Int) + 13)), .int .i64 9], .tuple #[.iface 3 (.int .i64 ((n : Int) + 13)), .int .i64 9], .agg #[.int .i64 kid, .int .i64 1], .iface 92 (.agg #[.int .i64 kid, .int .i64 1]), .agg #[.iface 92 (.agg #[.int .i64 kid, .int .i64 1]), .int .i64 5], .tuple #[.iface 92 (.agg #[.int .i64 kid, .int .i64 1]), .int .i64 5], .agg #[.nilIface, .int .i64 22], .tuple #[.nilIface, .int .i64 22], .agg #[.int .i64 kid, .int .i64 0], .iface 92 (.agg #[.int .i64 kid, .int .i64 0]), .agg #[.iface 92 (.agg #[.int .i64 kid, .int .i64 0]), .int .i64 6], .tuple #[.iface 92 (.agg #[.int .i64 kid, .int .i64 0]), .int .i64 6], .iface 4 (.bool false), .agg #[.iface 4 (.bool false), .int .i64 1], .tuple #[.iface 4 (.bool false), .int .i64 1], .agg #[.int .i64 kid, .int .i64 2], .iface 92 (.agg #[.int .i64 kid, .int .i64 2]), .agg #[.iface 92 (.agg #[.int .i64 kid, .int .i64 2]), .int .i64 6], .tuple #[.iface 92 (.agg #[.int .i64 kid, .int .i64 2]), .int .i64 6], .agg #[.nilIface, .int .i64 14], .tuple #[.nilIface, .int .i64 14], .agg #[.nilIface, .int .i64 2], .tuple #[.nilIface, .int .i64 2], .agg #[.int .i64 kid, .int .i64 2], .iface 92 (.agg #[.int .i64 kid, .int .i64 2]), .agg #[.iface 92 (.agg #[.int .i64 kid, .int .i64 2]), .int .i64 5], .tuple #[.iface 92 (.agg #[.int .i64 kid, .int .i64 2]), .int .i64 5], .pointer (some ⟨cp, 0, none⟩), .pointer (some ⟨cp, 0, none⟩), .pointer (some ⟨cp, 5, none⟩), .slice ca n cap, .int .i64 n, .int .i64 ((n : Int) + 17), .iface 3 (.int .i64 ((n : Int) + 17)), .agg #[.iface 3 (.int .i64 ((n : Int) + 17)), .int .i64 16], .tuple #[.iface 3 (.int .i64 ((n : Int) + 17)), .int .i64 16], .agg #[.nilIface, .int .i64 14], .tuple #[.nilIface, .int .i64 14], .agg #[.int .i64 kid, .int .i64 0], .iface 92 (.agg #[.int .i64 kid, .int .i64 0]), .agg #[.iface 92 (.agg #[.int .i64 kid, .int .i64 0]), .int .i64 5], .tuple #[.iface 92 (.agg #[.int .i64 kid, .int .i64 0]), .int .i64 5], .agg #[.nilIface, .int .i64 24], .tuple #[.nilIface, .int .i64 24], .chan none]
def hold (bl : List Value) (s : Value) (t B : Nat) (a : Act) (w : World) : Prop := match s with
  | .tuple cs => ∃ b, a.tmps[t]? = some (ptr b) ∧ B ≤ b ∧ Nd b 87 cs w
  | .chan none => ∃ b, ∃ ps : List Nat, a.tmps[t]? = some (.slice (some ⟨b, 0, none⟩) 19 19) ∧ B ≤ b ∧ ps.length = 19 ∧ Nd b 84 (ps.map ptr).toArray w ∧ ∀ m p : Nat, ps[m]? = some p → ∃ cs : Array Value, bl[m]? = some (Value.tuple cs) ∧ B ≤ p ∧ Nd p 87 cs w
  | v => a.tmps[t]? = some v
theorem hold_box {bl : List Value} {cs : Array Value} {t B : Nat} {a : Act} {w : World} (h : hold bl (.tuple cs) t B a w) : ∃ b, a.tmps[t]? = some (ptr b) ∧ B ≤ b ∧ Nd b 87 cs w := h
theorem put_same {a : Act} {t : Nat} {v : Value} (h : t < a.tmps.size) : (a.put (some t) v).tmps[t]? = some v := by
  show (a.tmps.setIfInBounds t v)[t]? = _
  rw [Array.getElem?_setIfInBounds_self_of_lt h]
theorem put_ne {a : Act} {t s : Nat} {v : Value} (h : t ≠ s) : (a.put (some t) v).tmps[s]? = a.tmps[s]? := by
  show (a.tmps.setIfInBounds t v)[s]? = _
  rw [Array.getElem?_setIfInBounds_ne h]
theorem hold_keep {bl : List Value} {s : Value} {t B d : Nat} {a : Act} {w w' : World} {v : Value} (h : hold bl s t B a w) (hne : d ≠ t) (hb : Below w.heap.size w w') : hold bl s t B (a.put (some d) v) w' := by
  unfold hold at *
  split at h
  · obtain ⟨b, h1, h2, h3⟩ := h
    exact ⟨b, (put_ne hne).trans h1, h2, h3.below hb h3.lt⟩
  · obtain ⟨b, ps, h1, h2, h3, h4, h5⟩ := h
    refine ⟨b, ps, (put_ne hne).trans h1, h2, h3, h4.below hb h4.lt, fun m p hp => ?_⟩
    obtain ⟨cs, h6, h7, h8⟩ := h5 m p hp
    exact ⟨cs, h6, h7, h8.below hb h8.lt⟩
  · exact (put_ne hne).trans h
/-- What is known of the world and the frame as the region begins. -/
def St3 (cp sc v3 v4 v5 : Nat) (kid : Int) (ca : Option Addr) (n cap : Nat) (W : World) (a0 : Act) : Prop :=
  W.cell? ⟨sc, 2, none⟩ = some (.int .i64 kid) ∧ W.cell? ⟨cp, 5, none⟩ = some (.slice ca n cap) ∧ (W.cell? ⟨v3, 0, none⟩ = some (.int .i64 kid) ∧ W.cell? ⟨v3, 1, none⟩ = some (.int .i64 0)) ∧ (W.cell? ⟨v4, 0, none⟩ = some (.int .i64 kid) ∧ W.cell? ⟨v4, 1, none⟩ = some (.int .i64 1)) ∧ (W.cell? ⟨v5, 0, none⟩ = some (.int .i64 kid) ∧ W.cell? ⟨v5, 1, none⟩ = some (.int .i64 2)) ∧
    a0.tmps[0]? = some (ptr cp) ∧ a0.tmps[2]? = some (ptr sc) ∧ a0.tmps[3]? = some (ptr v3) ∧ a0.tmps[4]? = some (ptr v4) ∧ a0.tmps[5]? = some (ptr v5) ∧ n ≤ 1000000000
def In3 (cp sc v3 v4 v5 : Nat) (kid : Int) (ca : Option Addr) (n cap : Nat) (W : World) (a0 : Act) (listed : Array Bool) (a : Act) (w : World) : Prop :=
  a.tmps.size = 106 ∧ a.defers = a0.defers ∧ (∀ s, s < 25 → a.tmps[s]? = a0.tmps[s]?) ∧ Below W.heap.size W w ∧ listed.size = 81 ∧ (∀ i o, listed.getD i false = true → ops3[i]? = some o → ∀ e ∈ o.after, Region.binds .any e = true → listed.getD e.on false = true) ∧ ∀ j, listed.getD j false = true → ∀ s, (tab3 cp sc v3 v4 v5 kid ca n cap)[j]? = some s → hold (boxes3 cp sc v3 v4 v5 kid ca n cap) s (25 + j) W.heap.size a w
theorem in3_put {cp sc v3 v4 v5 : Nat} {kid : Int} {ca : Option Addr} {n cap : Nat} {W : World} {a0 : Act} {listed : Array Bool} {a : Act} {w w' : World} {i : Nat} {v : Value} (hI : In3 cp sc v3 v4 v5 kid ca n cap W a0 listed a w) (hr : i ∈ Region.ready .any ops3 listed) (hb : Below w.heap.size w w') (hF : ∀ s, (tab3 cp sc v3 v4 v5 kid ca n cap)[i]? = some s → hold (boxes3 cp sc v3 v4 v5 kid ca n cap) s (25 + i) W.heap.size (a.put (some (25 + i)) v) w') :
    In3 cp sc v3 v4 v5 kid ca n cap W a0 (listed.setIfInBounds i true) (a.put (some (25 + i)) v) w' := by
  obtain ⟨h1, h2, h3, h4, h5, h6, h7⟩ := hI
  refine ⟨?_, h2, ?_, h4.trans (hb.mono h4.size), ?_, ?_, ?_⟩
  · show (a.tmps.setIfInBounds _ _).size = 106
    rw [Array.size_setIfInBounds]; exact h1
  · intro s hs
    rw [put_ne (by omega)]; exact h3 s hs
  · rw [Array.size_setIfInBounds]; exact h5
  · intro j o hj ho e he hbi
    by_cases ej : j = i
    · subst ej; exact getD_set_true (before hr ho he hbi)
    · rw [getD_set_ne false (Ne.symm ej)] at hj
      exact getD_set_true (h6 j o hj ho e he hbi)
  · intro j hj s hs
    by_cases e : j = i
    · subst e; exact hF s hs
    · rw [getD_set_ne false (Ne.symm e)] at hj
      exact hold_keep (h7 j hj s hs) (by omega) hb
def Step3 (cp sc v3 v4 v5 : Nat) (kid : Int) (ca : Option Addr) (n cap : Nat) (W : World) (a0 : Act) (i : Nat) : Prop := ∀ (Q : Exit → Act → World → Prop) (listed : Array Bool) (a : Act) (w : World), In3 cp sc v3 v4 v5 kid ca n cap W a0 listed a w → i ∈ Region.ready .any ops3 listed → wpOp Try.prog ops3 Q i (fun a' w' => In3 cp sc v3 v4 v5 kid ca n cap W a0 (listed.setIfInBounds i true) a' w') a w
theorem cell_stay {W w : World} {g o : Nat} {v : Value} (hb : Below W.heap.size W w) (h : W.cell? ⟨g, o, none⟩ = some v) : w.cell? ⟨g, o, none⟩ = some v := (hb.cell (p := ⟨g, o, none⟩) (World.block_lt_of_cell? W _ h)).trans h
section
variable {cp sc v3 v4 v5 : Nat} {kid : Int} {ca : Option Addr} {n cap : Nat} {W : World} {a0 : Act}

theorem s3_0 (hS : St3 cp sc v3 v4 v5 kid ca n cap W a0) : Step3 cp sc v3 v4 v5 kid ca n cap W a0 0 := by
  intro Q listed a w hI hr
  have ho : ops3[0]? = some (Oper.mk _ _ _ _ _ _) := rfl
  obtain ⟨hsz, hdf, hfx, hbw, hls, hclo, hgot⟩ := id hI
  have p0 : a.tmps[0]? = some (.pointer (some ⟨cp, 0, none⟩)) := (hfx 0 (by omega)).trans hS.2.2.2.2.2.1
  refine wpOp_val ho rfl (v := .pointer (some ⟨cp, 0, none⟩)) (w' := w) ?_ (in3_put hI hr (Below.refl _ _) ?_)
  · simp [execOp, go_sem, p0]
  · intro s hs
    obtain rfl : .pointer (some ⟨cp, 0, none⟩) = s := Option.some.inj hs
    exact put_same (a := a) (t := 25 + 0) (by omega)
theorem s3_1 (hS : St3 cp sc v3 v4 v5 kid ca n cap W a0) : Step3 cp sc v3 v4 v5 kid ca n cap W a0 1 := by
  intro Q listed a w hI hr
  have ho : ops3[1]? = some (Oper.mk _ _ _ _ _ _) := rfl
  obtain ⟨hsz, hdf, hfx, hbw, hls, hclo, hgot⟩ := id hI
  have p2 : a.tmps[2]? = some (.pointer (some ⟨sc, 0, none⟩)) := (hfx 2 (by omega)).trans hS.2.2.2.2.2.2.1
  refine wpOp_val ho rfl (v := .pointer (some ⟨sc, 0, none⟩)) (w' := w) ?_ (in3_put hI hr (Below.refl _ _) ?_)
  · simp [execOp, go_sem, p2]
  · intro s hs
    obtain rfl : .pointer (some ⟨sc, 0, none⟩) = s := Option.some.inj hs
    exact put_same (a := a) (t := 25 + 1) (by omega)
theorem s3_2 (hS : St3 cp sc v3 v4 v5 kid ca n cap W a0) : Step3 cp sc v3 v4 v5 kid ca n cap W a0 2 := by
  intro Q listed a w hI hr
  have ho : ops3[2]? = some (Oper.mk _ _ _ _ _ _) := rfl
  obtain ⟨hsz, hdf, hfx, hbw, hls, hclo, hgot⟩ := id hI
  have p26 : a.tmps[26]? = some (.pointer (some ⟨sc, 0, none⟩)) := hgot 1 (before hr ho (e := ⟨1, .data⟩) (by simp) rfl) _ rfl
  refine wpOp_val ho rfl (v := .pointer (some ⟨sc, 0, none⟩)) (w' := w) ?_ (in3_put hI hr (Below.refl _ _) ?_)
  · simp [execOp, go_sem, p26]
  · intro s hs
    obtain rfl : .pointer (some ⟨sc, 0, none⟩) = s := Option.some.inj hs
    exact put_same (a := a) (t := 25 + 2) (by omega)
theorem s3_3 (hS : St3 cp sc v3 v4 v5 kid ca n cap W a0) : Step3 cp sc v3 v4 v5 kid ca n cap W a0 3 := by
  intro Q listed a w hI hr
  have ho : ops3[3]? = some (Oper.mk _ _ _ _ _ _) := rfl
  obtain ⟨hsz, hdf, hfx, hbw, hls, hclo, hgot⟩ := id hI
  have p27 : a.tmps[27]? = some (.pointer (some ⟨sc, 0, none⟩)) := hgot 2 (before hr ho (e := ⟨2, .data⟩) (by simp) rfl) _ rfl
  refine wpOp_val ho rfl (v := .pointer (some ⟨sc, 2, none⟩)) (w' := w) ?_ (in3_put hI hr (Below.refl _ _) ?_)
  · simp [execOp, go_sem, p27]
  · intro s hs
    obtain rfl : .pointer (some ⟨sc, 2, none⟩) = s := Option.some.inj hs
    exact put_same (a := a) (t := 25 + 3) (by omega)
theorem s3_4 (hS : St3 cp sc v3 v4 v5 kid ca n cap W a0) : Step3 cp sc v3 v4 v5 kid ca n cap W a0 4 := by
  intro Q listed a w hI hr
  have ho : ops3[4]? = some (Oper.mk _ _ _ _ _ _) := rfl
  obtain ⟨hsz, hdf, hfx, hbw, hls, hclo, hgot⟩ := id hI
  have p28 : a.tmps[28]? = some (.pointer (some ⟨sc, 2, none⟩)) := hgot 3 (before hr ho (e := ⟨3, .data⟩) (by simp) rfl) _ rfl
  have c0 := cell_stay hbw (hS.1)
  refine wpOp_val ho rfl (v := .int .i64 kid) (w' := w) ?_ (in3_put hI hr (Below.refl _ _) ?_)
  · simp [execOp, go_sem, p28, c0]
  · intro s hs
    obtain rfl : .int .i64 kid = s := Option.some.inj hs
    exact put_same (a := a) (t := 25 + 4) (by omega)
theorem s3_5 (hS : St3 cp sc v3 v4 v5 kid ca n cap W a0) : Step3 cp sc v3 v4 v5 kid ca n cap W a0 5 := by
  intro Q listed a w hI hr
  have ho : ops3[5]? = some (Oper.mk _ _ _ _ _ _) := rfl
  obtain ⟨hsz, hdf, hfx, hbw, hls, hclo, hgot⟩ := id hI
  have p29 : a.tmps[29]? = some (.int .i64 kid) := hgot 4 (before hr ho (e := ⟨4, .data⟩) (by simp) rfl) _ rfl
  refine wpOp_val ho rfl (v := .agg #[.int .i64 kid, .int .i64 3, .int .i64 1]) (w' := w) ?_ (in3_put hI hr (Below.refl _ _) ?_)
  · simp [execOp, go_sem, p29]
  · intro s hs
    obtain rfl : .agg #[.int .i64 kid, .int .i64 3, .int .i64 1] = s := Option.some.inj hs
    exact put_same (a := a) (t := 25 + 5) (by omega)
theorem s3_6 (hS : St3 cp sc v3 v4 v5 kid ca n cap W a0) : Step3 cp sc v3 v4 v5 kid ca n cap W a0 6 := by
  intro Q listed a w hI hr
  have ho : ops3[6]? = some (Oper.mk _ _ _ _ _ _) := rfl
  obtain ⟨hsz, hdf, hfx, hbw, hls, hclo, hgot⟩ := id hI
  have p30 : a.tmps[30]? = some (.agg #[.int .i64 kid, .int .i64 3, .int .i64 1]) := hgot 5 (before hr ho (e := ⟨5, .data⟩) (by simp) rfl) _ rfl
  refine wpOp_val ho rfl (v := .iface 32 (.agg #[.int .i64 kid, .int .i64 3, .int .i64 1])) (w' := w) ?_ (in3_put hI hr (Below.refl _ _) ?_)
  · simp [execOp, go_sem, p30]
  · intro s hs
    obtain rfl : .iface 32 (.agg #[.int .i64 kid, .int .i64 3, .int .i64 1]) = s := Option.some.inj hs
    exact put_same (a := a) (t := 25 + 6) (by omega)
theorem s3_7 (hS : St3 cp sc v3 v4 v5 kid ca n cap W a0) : Step3 cp sc v3 v4 v5 kid ca n cap W a0 7 := by
  intro Q listed a w hI hr
  have ho : ops3[7]? = some (Oper.mk _ _ _ _ _ _) := rfl
  obtain ⟨hsz, hdf, hfx, hbw, hls, hclo, hgot⟩ := id hI
  have p31 : a.tmps[31]? = some (.iface 32 (.agg #[.int .i64 kid, .int .i64 3, .int .i64 1])) := hgot 6 (before hr ho (e := ⟨6, .data⟩) (by simp) rfl) _ rfl
  refine wpOp_val ho rfl (v := .agg #[.iface 32 (.agg #[.int .i64 kid, .int .i64 3, .int .i64 1]), .int .i64 23]) (w' := w) ?_ (in3_put hI hr (Below.refl _ _) ?_)
  · simp [execOp, go_sem, p31]
  · intro s hs
    obtain rfl : .agg #[.iface 32 (.agg #[.int .i64 kid, .int .i64 3, .int .i64 1]), .int .i64 23] = s := Option.some.inj hs
    exact put_same (a := a) (t := 25 + 7) (by omega)
theorem s3_8 (hS : St3 cp sc v3 v4 v5 kid ca n cap W a0) : Step3 cp sc v3 v4 v5 kid ca n cap W a0 8 := by
  intro Q listed a w hI hr
  have ho : ops3[8]? = some (Oper.mk _ _ _ _ _ _) := rfl
  obtain ⟨hsz, hdf, hfx, hbw, hls, hclo, hgot⟩ := id hI
  have p32 : a.tmps[32]? = some (.agg #[.iface 32 (.agg #[.int .i64 kid, .int .i64 3, .int .i64 1]), .int .i64 23]) := hgot 7 (before hr ho (e := ⟨7, .data⟩) (by simp) rfl) _ rfl
  refine wpOp_val ho rfl (v := ptr w.heap.size) (w' := w.alloc (.cells #[.iface 32 (.agg #[.int .i64 kid, .int .i64 3, .int .i64 1]), .int .i64 23] 87)) ?_ (in3_put hI hr ((Below.refl _ _).alloc (Nat.le_refl _) _) ?_)
  · simp [execOp, go_sem, ptr, p32]
  · intro s hs
    obtain rfl : .tuple #[.iface 32 (.agg #[.int .i64 kid, .int .i64 3, .int .i64 1]), .int .i64 23] = s := Option.some.inj hs
    exact ⟨w.heap.size, put_same (a := a) (t := 25 + 8) (by omega), hbw.size, Nd.newAt _ _ rfl⟩
theorem s3_9 (hS : St3 cp sc v3 v4 v5 kid ca n cap W a0) : Step3 cp sc v3 v4 v5 kid ca n cap W a0 9 := by
  intro Q listed a w hI hr
  have ho : ops3[9]? = some (Oper.mk _ _ _ _ _ _) := rfl
  obtain ⟨hsz, hdf, hfx, hbw, hls, hclo, hgot⟩ := id hI
  have p3 : a.tmps[3]? = some (.pointer (some ⟨v3, 0, none⟩)) := (hfx 3 (by omega)).trans hS.2.2.2.2.2.2.2.1
  have c0 := cell_stay hbw (hS.2.2.1.1)
  have c1 := cell_stay hbw (hS.2.2.1.2)
  refine wpOp_val ho rfl (v := .agg #[.int .i64 kid, .int .i64 0]) (w' := w) ?_ (in3_put hI hr (Below.refl _ _) ?_)
  · simp [execOp, go_sem, p3, c0, c1]
  · intro s hs
    obtain rfl : .agg #[.int .i64 kid, .int .i64 0] = s := Option.some.inj hs
    exact put_same (a := a) (t := 25 + 9) (by omega)
theorem s3_10 (hS : St3 cp sc v3 v4 v5 kid ca n cap W a0) : Step3 cp sc v3 v4 v5 kid ca n cap W a0 10 := by
  intro Q listed a w hI hr
  have ho : ops3[10]? = some (Oper.mk _ _ _ _ _ _) := rfl
  obtain ⟨hsz, hdf, hfx, hbw, hls, hclo, hgot⟩ := id hI
  have p34 : a.tmps[34]? = some (.agg #[.int .i64 kid, .int .i64 0]) := hgot 9 (before hr ho (e := ⟨9, .data⟩) (by simp) rfl) _ rfl
  refine wpOp_val ho rfl (v := .iface 92 (.agg #[.int .i64 kid, .int .i64 0])) (w' := w) ?_ (in3_put hI hr (Below.refl _ _) ?_)
  · simp [execOp, go_sem, p34]
  · intro s hs
    obtain rfl : .iface 92 (.agg #[.int .i64 kid, .int .i64 0]) = s := Option.some.inj hs
    exact put_same (a := a) (t := 25 + 10) (by omega)
theorem s3_11 (hS : St3 cp sc v3 v4 v5 kid ca n cap W a0) : Step3 cp sc v3 v4 v5 kid ca n cap W a0 11 := by
  intro Q listed a w hI hr
  have ho : ops3[11]? = some (Oper.mk _ _ _ _ _ _) := rfl
  obtain ⟨hsz, hdf, hfx, hbw, hls, hclo, hgot⟩ := id hI
  have p35 : a.tmps[35]? = some (.iface 92 (.agg #[.int .i64 kid, .int .i64 0])) := hgot 10 (before hr ho (e := ⟨10, .data⟩) (by simp) rfl) _ rfl
  refine wpOp_val ho rfl (v := .agg #[.iface 92 (.agg #[.int .i64 kid, .int .i64 0]), .int .i64 6]) (w' := w) ?_ (in3_put hI hr (Below.refl _ _) ?_)
  · simp [execOp, go_sem, p35]
  · intro s hs
    obtain rfl : .agg #[.iface 92 (.agg #[.int .i64 kid, .int .i64 0]), .int .i64 6] = s := Option.some.inj hs
    exact put_same (a := a) (t := 25 + 11) (by omega)
theorem s3_12 (hS : St3 cp sc v3 v4 v5 kid ca n cap W a0) : Step3 cp sc v3 v4 v5 kid ca n cap W a0 12 := by
  intro Q listed a w hI hr
  have ho : ops3[12]? = some (Oper.mk _ _ _ _ _ _) := rfl
  obtain ⟨hsz, hdf, hfx, hbw, hls, hclo, hgot⟩ := id hI
  have p36 : a.tmps[36]? = some (.agg #[.iface 92 (.agg #[.int .i64 kid, .int .i64 0]), .int .i64 6]) := hgot 11 (before hr ho (e := ⟨11, .data⟩) (by simp) rfl) _ rfl
  refine wpOp_val ho rfl (v := ptr w.heap.size) (w' := w.alloc (.cells #[.iface 92 (.agg #[.int .i64 kid, .int .i64 0]), .int .i64 6] 87)) ?_ (in3_put hI hr ((Below.refl _ _).alloc (Nat.le_refl _) _) ?_)
  · simp [execOp, go_sem, ptr, p36]
  · intro s hs
    obtain rfl : .tuple #[.iface 92 (.agg #[.int .i64 kid, .int .i64 0]), .int .i64 6] = s := Option.some.inj hs
    exact ⟨w.heap.size, put_same (a := a) (t := 25 + 12) (by omega), hbw.size, Nd.newAt _ _ rfl⟩
theorem s3_13 (hS : St3 cp sc v3 v4 v5 kid ca n cap W a0) : Step3 cp sc v3 v4 v5 kid ca n cap W a0 13 := by
  intro Q listed a w hI hr
  have ho : ops3[13]? = some (Oper.mk _ _ _ _ _ _) := rfl
  obtain ⟨hsz, hdf, hfx, hbw, hls, hclo, hgot⟩ := id hI
  have p4 : a.tmps[4]? = some (.pointer (some ⟨v4, 0, none⟩)) := (hfx 4 (by omega)).trans hS.2.2.2.2.2.2.2.2.1
  have c0 := cell_stay hbw (hS.2.2.2.1.1)
  have c1 := cell_stay hbw (hS.2.2.2.1.2)
  refine wpOp_val ho rfl (v := .agg #[.int .i64 kid, .int .i64 1]) (w' := w) ?_ (in3_put hI hr (Below.refl _ _) ?_)
  · simp [execOp, go_sem, p4, c0, c1]
  · intro s hs
    obtain rfl : .agg #[.int .i64 kid, .int .i64 1] = s := Option.some.inj hs
    exact put_same (a := a) (t := 25 + 13) (by omega)
theorem s3_14 (hS : St3 cp sc v3 v4 v5 kid ca n cap W a0) : Step3 cp sc v3 v4 v5 kid ca n cap W a0 14 := by
  intro Q listed a w hI hr
  have ho : ops3[14]? = some (Oper.mk _ _ _ _ _ _) := rfl
  obtain ⟨hsz, hdf, hfx, hbw, hls, hclo, hgot⟩ := id hI
  have p38 : a.tmps[38]? = some (.agg #[.int .i64 kid, .int .i64 1]) := hgot 13 (before hr ho (e := ⟨13, .data⟩) (by simp) rfl) _ rfl
  refine wpOp_val ho rfl (v := .iface 92 (.agg #[.int .i64 kid, .int .i64 1])) (w' := w) ?_ (in3_put hI hr (Below.refl _ _) ?_)
  · simp [execOp, go_sem, p38]
  · intro s hs
    obtain rfl : .iface 92 (.agg #[.int .i64 kid, .int .i64 1]) = s := Option.some.inj hs
    exact put_same (a := a) (t := 25 + 14) (by omega)
theorem s3_15 (hS : St3 cp sc v3 v4 v5 kid ca n cap W a0) : Step3 cp sc v3 v4 v5 kid ca n cap W a0 15 := by
  intro Q listed a w hI hr
  have ho : ops3[15]? = some (Oper.mk _ _ _ _ _ _) := rfl
  obtain ⟨hsz, hdf, hfx, hbw, hls, hclo, hgot⟩ := id hI
  have p39 : a.tmps[39]? = some (.iface 92 (.agg #[.int .i64 kid, .int .i64 1])) := hgot 14 (before hr ho (e := ⟨14, .data⟩) (by simp) rfl) _ rfl
  refine wpOp_val ho rfl (v := .agg #[.iface 92 (.agg #[.int .i64 kid, .int .i64 1]), .int .i64 6]) (w' := w) ?_ (in3_put hI hr (Below.refl _ _) ?_)
  · simp [execOp, go_sem, p39]
  · intro s hs
    obtain rfl : .agg #[.iface 92 (.agg #[.int .i64 kid, .int .i64 1]), .int .i64 6] = s := Option.some.inj hs
    exact put_same (a := a) (t := 25 + 15) (by omega)
theorem s3_16 (hS : St3 cp sc v3 v4 v5 kid ca n cap W a0) : Step3 cp sc v3 v4 v5 kid ca n cap W a0 16 := by
  intro Q listed a w hI hr
  have ho : ops3[16]? = some (Oper.mk _ _ _ _ _ _) := rfl
  obtain ⟨hsz, hdf, hfx, hbw, hls, hclo, hgot⟩ := id hI
  have p40 : a.tmps[40]? = some (.agg #[.iface 92 (.agg #[.int .i64 kid, .int .i64 1]), .int .i64 6]) := hgot 15 (before hr ho (e := ⟨15, .data⟩) (by simp) rfl) _ rfl
  refine wpOp_val ho rfl (v := ptr w.heap.size) (w' := w.alloc (.cells #[.iface 92 (.agg #[.int .i64 kid, .int .i64 1]), .int .i64 6] 87)) ?_ (in3_put hI hr ((Below.refl _ _).alloc (Nat.le_refl _) _) ?_)
  · simp [execOp, go_sem, ptr, p40]
  · intro s hs
    obtain rfl : .tuple #[.iface 92 (.agg #[.int .i64 kid, .int .i64 1]), .int .i64 6] = s := Option.some.inj hs
    exact ⟨w.heap.size, put_same (a := a) (t := 25 + 16) (by omega), hbw.size, Nd.newAt _ _ rfl⟩
theorem s3_17 (hS : St3 cp sc v3 v4 v5 kid ca n cap W a0) : Step3 cp sc v3 v4 v5 kid ca n cap W a0 17 := by
  intro Q listed a w hI hr
  have ho : ops3[17]? = some (Oper.mk _ _ _ _ _ _) := rfl
  obtain ⟨hsz, hdf, hfx, hbw, hls, hclo, hgot⟩ := id hI
  refine wpOp_val ho rfl (v := .iface 4 (.bool true)) (w' := w) ?_ (in3_put hI hr (Below.refl _ _) ?_)
  · simp [execOp, go_sem, ]
  · intro s hs
    obtain rfl : .iface 4 (.bool true) = s := Option.some.inj hs
    exact put_same (a := a) (t := 25 + 17) (by omega)
theorem s3_18 (hS : St3 cp sc v3 v4 v5 kid ca n cap W a0) : Step3 cp sc v3 v4 v5 kid ca n cap W a0 18 := by
  intro Q listed a w hI hr
  have ho : ops3[18]? = some (Oper.mk _ _ _ _ _ _) := rfl
  obtain ⟨hsz, hdf, hfx, hbw, hls, hclo, hgot⟩ := id hI
  have p42 : a.tmps[42]? = some (.iface 4 (.bool true)) := hgot 17 (before hr ho (e := ⟨17, .data⟩) (by simp) rfl) _ rfl
  refine wpOp_val ho rfl (v := .agg #[.iface 4 (.bool true), .int .i64 1]) (w' := w) ?_ (in3_put hI hr (Below.refl _ _) ?_)
  · simp [execOp, go_sem, p42]
  · intro s hs
    obtain rfl : .agg #[.iface 4 (.bool true), .int .i64 1] = s := Option.some.inj hs
    exact put_same (a := a) (t := 25 + 18) (by omega)
theorem s3_19 (hS : St3 cp sc v3 v4 v5 kid ca n cap W a0) : Step3 cp sc v3 v4 v5 kid ca n cap W a0 19 := by
  intro Q listed a w hI hr
  have ho : ops3[19]? = some (Oper.mk _ _ _ _ _ _) := rfl
  obtain ⟨hsz, hdf, hfx, hbw, hls, hclo, hgot⟩ := id hI
  have p43 : a.tmps[43]? = some (.agg #[.iface 4 (.bool true), .int .i64 1]) := hgot 18 (before hr ho (e := ⟨18, .data⟩) (by simp) rfl) _ rfl
  refine wpOp_val ho rfl (v := ptr w.heap.size) (w' := w.alloc (.cells #[.iface 4 (.bool true), .int .i64 1] 87)) ?_ (in3_put hI hr ((Below.refl _ _).alloc (Nat.le_refl _) _) ?_)
  · simp [execOp, go_sem, ptr, p43]
  · intro s hs
    obtain rfl : .tuple #[.iface 4 (.bool true), .int .i64 1] = s := Option.some.inj hs
    exact ⟨w.heap.size, put_same (a := a) (t := 25 + 19) (by omega), hbw.size, Nd.newAt _ _ rfl⟩
theorem s3_20 (hS : St3 cp sc v3 v4 v5 kid ca n cap W a0) : Step3 cp sc v3 v4 v5 kid ca n cap W a0 20 := by
  intro Q listed a w hI hr
  have ho : ops3[20]? = some (Oper.mk _ _ _ _ _ _) := rfl
  obtain ⟨hsz, hdf, hfx, hbw, hls, hclo, hgot⟩ := id hI
  have p5 : a.tmps[5]? = some (.pointer (some ⟨v5, 0, none⟩)) := (hfx 5 (by omega)).trans hS.2.2.2.2.2.2.2.2.2.1
  have c0 := cell_stay hbw (hS.2.2.2.2.1.1)
  have c1 := cell_stay hbw (hS.2.2.2.2.1.2)
  refine wpOp_val ho rfl (v := .agg #[.int .i64 kid, .int .i64 2]) (w' := w) ?_ (in3_put hI hr (Below.refl _ _) ?_)
  · simp [execOp, go_sem, p5, c0, c1]
  · intro s hs
    obtain rfl : .agg #[.int .i64 kid, .int .i64 2] = s := Option.some.inj hs
    exact put_same (a := a) (t := 25 + 20) (by omega)
theorem s3_21 (hS : St3 cp sc v3 v4 v5 kid ca n cap W a0) : Step3 cp sc v3 v4 v5 kid ca n cap W a0 21 := by
  intro Q listed a w hI hr
  have ho : ops3[21]? = some (Oper.mk _ _ _ _ _ _) := rfl
  obtain ⟨hsz, hdf, hfx, hbw, hls, hclo, hgot⟩ := id hI
  have p45 : a.tmps[45]? = some (.agg #[.int .i64 kid, .int .i64 2]) := hgot 20 (before hr ho (e := ⟨20, .data⟩) (by simp) rfl) _ rfl
  refine wpOp_val ho rfl (v := .iface 92 (.agg #[.int .i64 kid, .int .i64 2])) (w' := w) ?_ (in3_put hI hr (Below.refl _ _) ?_)
  · simp [execOp, go_sem, p45]
  · intro s hs
    obtain rfl : .iface 92 (.agg #[.int .i64 kid, .int .i64 2]) = s := Option.some.inj hs
    exact put_same (a := a) (t := 25 + 21) (by omega)
theorem s3_22 (hS : St3 cp sc v3 v4 v5 kid ca n cap W a0) : Step3 cp sc v3 v4 v5 kid ca n cap W a0 22 := by
  intro Q listed a w hI hr
  have ho : ops3[22]? = some (Oper.mk _ _ _ _ _ _) := rfl
  obtain ⟨hsz, hdf, hfx, hbw, hls, hclo, hgot⟩ := id hI
  have p46 : a.tmps[46]? = some (.iface 92 (.agg #[.int .i64 kid, .int .i64 2])) := hgot 21 (before hr ho (e := ⟨21, .data⟩) (by simp) rfl) _ rfl
  refine wpOp_val ho rfl (v := .agg #[.iface 92 (.agg #[.int .i64 kid, .int .i64 2]), .int .i64 6]) (w' := w) ?_ (in3_put hI hr (Below.refl _ _) ?_)
  · simp [execOp, go_sem, p46]
  · intro s hs
    obtain rfl : .agg #[.iface 92 (.agg #[.int .i64 kid, .int .i64 2]), .int .i64 6] = s := Option.some.inj hs
    exact put_same (a := a) (t := 25 + 22) (by omega)
theorem s3_23 (hS : St3 cp sc v3 v4 v5 kid ca n cap W a0) : Step3 cp sc v3 v4 v5 kid ca n cap W a0 23 := by
  intro Q listed a w hI hr
  have ho : ops3[23]? = some (Oper.mk _ _ _ _ _ _) := rfl
  obtain ⟨hsz, hdf, hfx, hbw, hls, hclo, hgot⟩ := id hI
  have p47 : a.tmps[47]? = some (.agg #[.iface 92 (.agg #[.int .i64 kid, .int .i64 2]), .int .i64 6]) := hgot 22 (before hr ho (e := ⟨22, .data⟩) (by simp) rfl) _ rfl
  refine wpOp_val ho rfl (v := ptr w.heap.size) (w' := w.alloc (.cells #[.iface 92 (.agg #[.int .i64 kid, .int .i64 2]), .int .i64 6] 87)) ?_ (in3_put hI hr ((Below.refl _ _).alloc (Nat.le_refl _) _) ?_)
  · simp [execOp, go_sem, ptr, p47]
  · intro s hs
    obtain rfl : .tuple #[.iface 92 (.agg #[.int .i64 kid, .int .i64 2]), .int .i64 6] = s := Option.some.inj hs
    exact ⟨w.heap.size, put_same (a := a) (t := 25 + 23) (by omega), hbw.size, Nd.newAt _ _ rfl⟩
theorem s3_24 (hS : St3 cp sc v3 v4 v5 kid ca n cap W a0) : Step3 cp sc v3 v4 v5 kid ca n cap W a0 24 := by
  intro Q listed a w hI hr
  have ho : ops3[24]? = some (Oper.mk _ _ _ _ _ _) := rfl
  obtain ⟨hsz, hdf, hfx, hbw, hls, hclo, hgot⟩ := id hI
  have p3 : a.tmps[3]? = some (.pointer (some ⟨v3, 0, none⟩)) := (hfx 3 (by omega)).trans hS.2.2.2.2.2.2.2.1
  have c0 := cell_stay hbw (hS.2.2.1.1)
  have c1 := cell_stay hbw (hS.2.2.1.2)
  refine wpOp_val ho rfl (v := .agg #[.int .i64 kid, .int .i64 0]) (w' := w) ?_ (in3_put hI hr (Below.refl _ _) ?_)
  · simp [execOp, go_sem, p3, c0, c1]
  · intro s hs
    obtain rfl : .agg #[.int .i64 kid, .int .i64 0] = s := Option.some.inj hs
    exact put_same (a := a) (t := 25 + 24) (by omega)
theorem s3_25 (hS : St3 cp sc v3 v4 v5 kid ca n cap W a0) : Step3 cp sc v3 v4 v5 kid ca n cap W a0 25 := by
  intro Q listed a w hI hr
  have ho : ops3[25]? = some (Oper.mk _ _ _ _ _ _) := rfl
  obtain ⟨hsz, hdf, hfx, hbw, hls, hclo, hgot⟩ := id hI
  have p49 : a.tmps[49]? = some (.agg #[.int .i64 kid, .int .i64 0]) := hgot 24 (before hr ho (e := ⟨24, .data⟩) (by simp) rfl) _ rfl
  refine wpOp_val ho rfl (v := .iface 92 (.agg #[.int .i64 kid, .int .i64 0])) (w' := w) ?_ (in3_put hI hr (Below.refl _ _) ?_)
  · simp [execOp, go_sem, p49]
  · intro s hs
    obtain rfl : .iface 92 (.agg #[.int .i64 kid, .int .i64 0]) = s := Option.some.inj hs
    exact put_same (a := a) (t := 25 + 25) (by omega)
theorem s3_26 (hS : St3 cp sc v3 v4 v5 kid ca n cap W a0) : Step3 cp sc v3 v4 v5 kid ca n cap W a0 26 := by
  intro Q listed a w hI hr
  have ho : ops3[26]? = some (Oper.mk _ _ _ _ _ _) := rfl
  obtain ⟨hsz, hdf, hfx, hbw, hls, hclo, hgot⟩ := id hI
  have p50 : a.tmps[50]? = some (.iface 92 (.agg #[.int .i64 kid, .int .i64 0])) := hgot 25 (before hr ho (e := ⟨25, .data⟩) (by simp) rfl) _ rfl
  refine wpOp_val ho rfl (v := .agg #[.iface 92 (.agg #[.int .i64 kid, .int .i64 0]), .int .i64 5]) (w' := w) ?_ (in3_put hI hr (Below.refl _ _) ?_)
  · simp [execOp, go_sem, p50]
  · intro s hs
    obtain rfl : .agg #[.iface 92 (.agg #[.int .i64 kid, .int .i64 0]), .int .i64 5] = s := Option.some.inj hs
    exact put_same (a := a) (t := 25 + 26) (by omega)
theorem s3_27 (hS : St3 cp sc v3 v4 v5 kid ca n cap W a0) : Step3 cp sc v3 v4 v5 kid ca n cap W a0 27 := by
  intro Q listed a w hI hr
  have ho : ops3[27]? = some (Oper.mk _ _ _ _ _ _) := rfl
  obtain ⟨hsz, hdf, hfx, hbw, hls, hclo, hgot⟩ := id hI
  have p51 : a.tmps[51]? = some (.agg #[.iface 92 (.agg #[.int .i64 kid, .int .i64 0]), .int .i64 5]) := hgot 26 (before hr ho (e := ⟨26, .data⟩) (by simp) rfl) _ rfl
  refine wpOp_val ho rfl (v := ptr w.heap.size) (w' := w.alloc (.cells #[.iface 92 (.agg #[.int .i64 kid, .int .i64 0]), .int .i64 5] 87)) ?_ (in3_put hI hr ((Below.refl _ _).alloc (Nat.le_refl _) _) ?_)
  · simp [execOp, go_sem, ptr, p51]
  · intro s hs
    obtain rfl : .tuple #[.iface 92 (.agg #[.int .i64 kid, .int .i64 0]), .int .i64 5] = s := Option.some.inj hs
    exact ⟨w.heap.size, put_same (a := a) (t := 25 + 27) (by omega), hbw.size, Nd.newAt _ _ rfl⟩
theorem s3_28 (hS : St3 cp sc v3 v4 v5 kid ca n cap W a0) : Step3 cp sc v3 v4 v5 kid ca n cap W a0 28 := by
  intro Q listed a w hI hr
  have ho : ops3[28]? = some (Oper.mk _ _ _ _ _ _) := rfl
  obtain ⟨hsz, hdf, hfx, hbw, hls, hclo, hgot⟩ := id hI
  have p0 : a.tmps[0]? = some (.pointer (some ⟨cp, 0, none⟩)) := (hfx 0 (by omega)).trans hS.2.2.2.2.2.1
  refine wpOp_val ho rfl (v := .pointer (some ⟨cp, 0, none⟩)) (w' := w) ?_ (in3_put hI hr (Below.refl _ _) ?_)
  · simp [execOp, go_sem, p0]
  · intro s hs
    obtain rfl : .pointer (some ⟨cp, 0, none⟩) = s := Option.some.inj hs
    exact put_same (a := a) (t := 25 + 28) (by omega)
theorem s3_29 (hS : St3 cp sc v3 v4 v5 kid ca n cap W a0) : Step3 cp sc v3 v4 v5 kid ca n cap W a0 29 := by
  intro Q listed a w hI hr
  have ho : ops3[29]? = some (Oper.mk _ _ _ _ _ _) := rfl
  obtain ⟨hsz, hdf, hfx, hbw, hls, hclo, hgot⟩ := id hI
  have p53 : a.tmps[53]? = some (.pointer (some ⟨cp, 0, none⟩)) := hgot 28 (before hr ho (e := ⟨28, .data⟩) (by simp) rfl) _ rfl
  refine wpOp_val ho rfl (v := .pointer (some ⟨cp, 0, none⟩)) (w' := w) ?_ (in3_put hI hr (Below.refl _ _) ?_)
  · simp [execOp, go_sem, p53]
  · intro s hs
    obtain rfl : .pointer (some ⟨cp, 0, none⟩) = s := Option.some.inj hs
    exact put_same (a := a) (t := 25 + 29) (by omega)
theorem s3_30 (hS : St3 cp sc v3 v4 v5 kid ca n cap W a0) : Step3 cp sc v3 v4 v5 kid ca n cap W a0 30 := by
  intro Q listed a w hI hr
  have ho : ops3[30]? = some (Oper.mk _ _ _ _ _ _) := rfl
  obtain ⟨hsz, hdf, hfx, hbw, hls, hclo, hgot⟩ := id hI
  have p54 : a.tmps[54]? = some (.pointer (some ⟨cp, 0, none⟩)) := hgot 29 (before hr ho (e := ⟨29, .data⟩) (by simp) rfl) _ rfl
  refine wpOp_val ho rfl (v := .pointer (some ⟨cp, 5, none⟩)) (w' := w) ?_ (in3_put hI hr (Below.refl _ _) ?_)
  · simp [execOp, go_sem, p54]
  · intro s hs
    obtain rfl : .pointer (some ⟨cp, 5, none⟩) = s := Option.some.inj hs
    exact put_same (a := a) (t := 25 + 30) (by omega)
theorem s3_31 (hS : St3 cp sc v3 v4 v5 kid ca n cap W a0) : Step3 cp sc v3 v4 v5 kid ca n cap W a0 31 := by
  intro Q listed a w hI hr
  have ho : ops3[31]? = some (Oper.mk _ _ _ _ _ _) := rfl
  obtain ⟨hsz, hdf, hfx, hbw, hls, hclo, hgot⟩ := id hI
  have p55 : a.tmps[55]? = some (.pointer (some ⟨cp, 5, none⟩)) := hgot 30 (before hr ho (e := ⟨30, .data⟩) (by simp) rfl) _ rfl
  have c0 := cell_stay hbw (hS.2.1)
  refine wpOp_val ho rfl (v := .slice ca n cap) (w' := w) ?_ (in3_put hI hr (Below.refl _ _) ?_)
  · simp [execOp, go_sem, p55, c0]
  · intro s hs
    obtain rfl : .slice ca n cap = s := Option.some.inj hs
    exact put_same (a := a) (t := 25 + 31) (by omega)
theorem s3_32 (hS : St3 cp sc v3 v4 v5 kid ca n cap W a0) : Step3 cp sc v3 v4 v5 kid ca n cap W a0 32 := by
  intro Q listed a w hI hr
  have ho : ops3[32]? = some (Oper.mk _ _ _ _ _ _) := rfl
  obtain ⟨hsz, hdf, hfx, hbw, hls, hclo, hgot⟩ := id hI
  have p56 : a.tmps[56]? = some (.slice ca n cap) := hgot 31 (before hr ho (e := ⟨31, .data⟩) (by simp) rfl) _ rfl
  refine wpOp_val ho rfl (v := .int .i64 n) (w' := w) ?_ (in3_put hI hr (Below.refl _ _) ?_)
  · simp [execOp, go_sem, p56]
  · intro s hs
    obtain rfl : .int .i64 n = s := Option.some.inj hs
    exact put_same (a := a) (t := 25 + 32) (by omega)
theorem s3_33 (hS : St3 cp sc v3 v4 v5 kid ca n cap W a0) : Step3 cp sc v3 v4 v5 kid ca n cap W a0 33 := by
  intro Q listed a w hI hr
  have ho : ops3[33]? = some (Oper.mk _ _ _ _ _ _) := rfl
  obtain ⟨hsz, hdf, hfx, hbw, hls, hclo, hgot⟩ := id hI
  have p57 : a.tmps[57]? = some (.int .i64 n) := hgot 32 (before hr ho (e := ⟨32, .data⟩) (by simp) rfl) _ rfl
  have hn := hS.2.2.2.2.2.2.2.2.2.2
  refine wpOp_val ho rfl (v := .int .i64 ((n : Int) + 13)) (w' := w) ?_ (in3_put hI hr (Below.refl _ _) ?_)
  · simp [execOp, go_sem, p57]
    rw [IntKind.wrap_i64]; omega
  · intro s hs
    obtain rfl : .int .i64 ((n : Int) + 13) = s := Option.some.inj hs
    exact put_same (a := a) (t := 25 + 33) (by omega)
theorem s3_34 (hS : St3 cp sc v3 v4 v5 kid ca n cap W a0) : Step3 cp sc v3 v4 v5 kid ca n cap W a0 34 := by
  intro Q listed a w hI hr
  have ho : ops3[34]? = some (Oper.mk _ _ _ _ _ _) := rfl
  obtain ⟨hsz, hdf, hfx, hbw, hls, hclo, hgot⟩ := id hI
  have p58 : a.tmps[58]? = some (.int .i64 ((n : Int) + 13)) := hgot 33 (before hr ho (e := ⟨33, .data⟩) (by simp) rfl) _ rfl
  refine wpOp_val ho rfl (v := .iface 3 (.int .i64 ((n : Int) + 13))) (w' := w) ?_ (in3_put hI hr (Below.refl _ _) ?_)
  · simp [execOp, go_sem, p58]
  · intro s hs
    obtain rfl : .iface 3 (.int .i64 ((n : Int) + 13)) = s := Option.some.inj hs
    exact put_same (a := a) (t := 25 + 34) (by omega)
theorem s3_35 (hS : St3 cp sc v3 v4 v5 kid ca n cap W a0) : Step3 cp sc v3 v4 v5 kid ca n cap W a0 35 := by
  intro Q listed a w hI hr
  have ho : ops3[35]? = some (Oper.mk _ _ _ _ _ _) := rfl
  obtain ⟨hsz, hdf, hfx, hbw, hls, hclo, hgot⟩ := id hI
  have p59 : a.tmps[59]? = some (.iface 3 (.int .i64 ((n : Int) + 13))) := hgot 34 (before hr ho (e := ⟨34, .data⟩) (by simp) rfl) _ rfl
  refine wpOp_val ho rfl (v := .agg #[.iface 3 (.int .i64 ((n : Int) + 13)), .int .i64 9]) (w' := w) ?_ (in3_put hI hr (Below.refl _ _) ?_)
  · simp [execOp, go_sem, p59]
  · intro s hs
    obtain rfl : .agg #[.iface 3 (.int .i64 ((n : Int) + 13)), .int .i64 9] = s := Option.some.inj hs
    exact put_same (a := a) (t := 25 + 35) (by omega)
theorem s3_36 (hS : St3 cp sc v3 v4 v5 kid ca n cap W a0) : Step3 cp sc v3 v4 v5 kid ca n cap W a0 36 := by
  intro Q listed a w hI hr
  have ho : ops3[36]? = some (Oper.mk _ _ _ _ _ _) := rfl
  obtain ⟨hsz, hdf, hfx, hbw, hls, hclo, hgot⟩ := id hI
  have p60 : a.tmps[60]? = some (.agg #[.iface 3 (.int .i64 ((n : Int) + 13)), .int .i64 9]) := hgot 35 (before hr ho (e := ⟨35, .data⟩) (by simp) rfl) _ rfl
  refine wpOp_val ho rfl (v := ptr w.heap.size) (w' := w.alloc (.cells #[.iface 3 (.int .i64 ((n : Int) + 13)), .int .i64 9] 87)) ?_ (in3_put hI hr ((Below.refl _ _).alloc (Nat.le_refl _) _) ?_)
  · simp [execOp, go_sem, ptr, p60]
  · intro s hs
    obtain rfl : .tuple #[.iface 3 (.int .i64 ((n : Int) + 13)), .int .i64 9] = s := Option.some.inj hs
    exact ⟨w.heap.size, put_same (a := a) (t := 25 + 36) (by omega), hbw.size, Nd.newAt _ _ rfl⟩
theorem s3_37 (hS : St3 cp sc v3 v4 v5 kid ca n cap W a0) : Step3 cp sc v3 v4 v5 kid ca n cap W a0 37 := by
  intro Q listed a w hI hr
  have ho : ops3[37]? = some (Oper.mk _ _ _ _ _ _) := rfl
  obtain ⟨hsz, hdf, hfx, hbw, hls, hclo, hgot⟩ := id hI
  have p4 : a.tmps[4]? = some (.pointer (some ⟨v4, 0, none⟩)) := (hfx 4 (by omega)).trans hS.2.2.2.2.2.2.2.2.1
  have c0 := cell_stay hbw (hS.2.2.2.1.1)
  have c1 := cell_stay hbw (hS.2.2.2.1.2)
  refine wpOp_val ho rfl (v := .agg #[.int .i64 kid, .int .i64 1]) (w' := w) ?_ (in3_put hI hr (Below.refl _ _) ?_)
  · simp [execOp, go_sem, p4, c0, c1]
  · intro s hs
    obtain rfl : .agg #[.int .i64 kid, .int .i64 1] = s := Option.some.inj hs
    exact put_same (a := a) (t := 25 + 37) (by omega)
theorem s3_38 (hS : St3 cp sc v3 v4 v5 kid ca n cap W a0) : Step3 cp sc v3 v4 v5 kid ca n cap W a0 38 := by
  intro Q listed a w hI hr
  have ho : ops3[38]? = some (Oper.mk _ _ _ _ _ _) := rfl
  obtain ⟨hsz, hdf, hfx, hbw, hls, hclo, hgot⟩ := id hI
  have p62 : a.tmps[62]? = some (.agg #[.int .i64 kid, .int .i64 1]) := hgot 37 (before hr ho (e := ⟨37, .data⟩) (by simp) rfl) _ rfl
  refine wpOp_val ho rfl (v := .iface 92 (.agg #[.int .i64 kid, .int .i64 1])) (w' := w) ?_ (in3_put hI hr (Below.refl _ _) ?_)
  · simp [execOp, go_sem, p62]
  · intro s hs
    obtain rfl : .iface 92 (.agg #[.int .i64 kid, .int .i64 1]) = s := Option.some.inj hs
    exact put_same (a := a) (t := 25 + 38) (by omega)
theorem s3_39 (hS : St3 cp sc v3 v4 v5 kid ca n cap W a0) : Step3 cp sc v3 v4 v5 kid ca n cap W a0 39 := by
  intro Q listed a w hI hr
  have ho : ops3[39]? = some (Oper.mk _ _ _ _ _ _) := rfl
  obtain ⟨hsz, hdf, hfx, hbw, hls, hclo, hgot⟩ := id hI
  have p63 : a.tmps[63]? = some (.iface 92 (.agg #[.int .i64 kid, .int .i64 1])) := hgot 38 (before hr ho (e := ⟨38, .data⟩) (by simp) rfl) _ rfl
  refine wpOp_val ho rfl (v := .agg #[.iface 92 (.agg #[.int .i64 kid, .int .i64 1]), .int .i64 5]) (w' := w) ?_ (in3_put hI hr (Below.refl _ _) ?_)
  · simp [execOp, go_sem, p63]
  · intro s hs
    obtain rfl : .agg #[.iface 92 (.agg #[.int .i64 kid, .int .i64 1]), .int .i64 5] = s := Option.some.inj hs
    exact put_same (a := a) (t := 25 + 39) (by omega)
theorem s3_40 (hS : St3 cp sc v3 v4 v5 kid ca n cap W a0) : Step3 cp sc v3 v4 v5 kid ca n cap W a0 40 := by
  intro Q listed a w hI hr
  have ho : ops3[40]? = some (Oper.mk _ _ _ _ _ _) := rfl
  obtain ⟨hsz, hdf, hfx, hbw, hls, hclo, hgot⟩ := id hI
  have p64 : a.tmps[64]? = some (.agg #[.iface 92 (.agg #[.int .i64 kid, .int .i64 1]), .int .i64 5]) := hgot 39 (before hr ho (e := ⟨39, .data⟩) (by simp) rfl) _ rfl
  refine wpOp_val ho rfl (v := ptr w.heap.size) (w' := w.alloc (.cells #[.iface 92 (.agg #[.int .i64 kid, .int .i64 1]), .int .i64 5] 87)) ?_ (in3_put hI hr ((Below.refl _ _).alloc (Nat.le_refl _) _) ?_)
  · simp [execOp, go_sem, ptr, p64]
  · intro s hs
    obtain rfl : .tuple #[.iface 92 (.agg #[.int .i64 kid, .int .i64 1]), .int .i64 5] = s := Option.some.inj hs
    exact ⟨w.heap.size, put_same (a := a) (t := 25 + 40) (by omega), hbw.size, Nd.newAt _ _ rfl⟩
theorem s3_41 (hS : St3 cp sc v3 v4 v5 kid ca n cap W a0) : Step3 cp sc v3 v4 v5 kid ca n cap W a0 41 := by
  intro Q listed a w hI hr
  have ho : ops3[41]? = some (Oper.mk _ _ _ _ _ _) := rfl
  obtain ⟨hsz, hdf, hfx, hbw, hls, hclo, hgot⟩ := id hI
  refine wpOp_val ho rfl (v := .agg #[.nilIface, .int .i64 22]) (w' := w) ?_ (in3_put hI hr (Below.refl _ _) ?_)
  · simp [execOp, go_sem, ]
  · intro s hs
    obtain rfl : .agg #[.nilIface, .int .i64 22] = s := Option.some.inj hs
    exact put_same (a := a) (t := 25 + 41) (by omega)
theorem s3_42 (hS : St3 cp sc v3 v4 v5 kid ca n cap W a0) : Step3 cp sc v3 v4 v5 kid ca n cap W a0 42 := by
  intro Q listed a w hI hr
  have ho : ops3[42]? = some (Oper.mk _ _ _ _ _ _) := rfl
  obtain ⟨hsz, hdf, hfx, hbw, hls, hclo, hgot⟩ := id hI
  have p66 : a.tmps[66]? = some (.agg #[.nilIface, .int .i64 22]) := hgot 41 (before hr ho (e := ⟨41, .data⟩) (by simp) rfl) _ rfl
  refine wpOp_val ho rfl (v := ptr w.heap.size) (w' := w.alloc (.cells #[.nilIface, .int .i64 22] 87)) ?_ (in3_put hI hr ((Below.refl _ _).alloc (Nat.le_refl _) _) ?_)
  · simp [execOp, go_sem, ptr, p66]
  · intro s hs
    obtain rfl : .tuple #[.nilIface, .int .i64 22] = s := Option.some.inj hs
    exact ⟨w.heap.size, put_same (a := a) (t := 25 + 42) (by omega), hbw.size, Nd.newAt _ _ rfl⟩
theorem s3_43 (hS : St3 cp sc v3 v4 v5 kid ca n cap W a0) : Step3 cp sc v3 v4 v5 kid ca n cap W a0 43 := by
  intro Q listed a w hI hr
  have ho : ops3[43]? = some (Oper.mk _ _ _ _ _ _) := rfl
  obtain ⟨hsz, hdf, hfx, hbw, hls, hclo, hgot⟩ := id hI
  have p3 : a.tmps[3]? = some (.pointer (some ⟨v3, 0, none⟩)) := (hfx 3 (by omega)).trans hS.2.2.2.2.2.2.2.1
  have c0 := cell_stay hbw (hS.2.2.1.1)
  have c1 := cell_stay hbw (hS.2.2.1.2)
  refine wpOp_val ho rfl (v := .agg #[.int .i64 kid, .int .i64 0]) (w' := w) ?_ (in3_put hI hr (Below.refl _ _) ?_)
  · simp [execOp, go_sem, p3, c0, c1]
  · intro s hs
    obtain rfl : .agg #[.int .i64 kid, .int .i64 0] = s := Option.some.inj hs
    exact put_same (a := a) (t := 25 + 43) (by omega)
theorem s3_44 (hS : St3 cp sc v3 v4 v5 kid ca n cap W a0) : Step3 cp sc v3 v4 v5 kid ca n cap W a0 44 := by
  intro Q listed a w hI hr
  have ho : ops3[44]? = some (Oper.mk _ _ _ _ _ _) := rfl
  obtain ⟨hsz, hdf, hfx, hbw, hls, hclo, hgot⟩ := id hI
  have p68 : a.tmps[68]? = some (.agg #[.int .i64 kid, .int .i64 0]) := hgot 43 (before hr ho (e := ⟨43, .data⟩) (by simp) rfl) _ rfl
  refine wpOp_val ho rfl (v := .iface 92 (.agg #[.int .i64 kid, .int .i64 0])) (w' := w) ?_ (in3_put hI hr (Below.refl _ _) ?_)
  · simp [execOp, go_sem, p68]
  · intro s hs
    obtain rfl : .iface 92 (.agg #[.int .i64 kid, .int .i64 0]) = s := Option.some.inj hs
    exact put_same (a := a) (t := 25 + 44) (by omega)
theorem s3_45 (hS : St3 cp sc v3 v4 v5 kid ca n cap W a0) : Step3 cp sc v3 v4 v5 kid ca n cap W a0 45 := by
  intro Q listed a w hI hr
  have ho : ops3[45]? = some (Oper.mk _ _ _ _ _ _) := rfl
  obtain ⟨hsz, hdf, hfx, hbw, hls, hclo, hgot⟩ := id hI
  have p69 : a.tmps[69]? = some (.iface 92 (.agg #[.int .i64 kid, .int .i64 0])) := hgot 44 (before hr ho (e := ⟨44, .data⟩) (by simp) rfl) _ rfl
  refine wpOp_val ho rfl (v := .agg #[.iface 92 (.agg #[.int .i64 kid, .int .i64 0]), .int .i64 6]) (w' := w) ?_ (in3_put hI hr (Below.refl _ _) ?_)
  · simp [execOp, go_sem, p69]
  · intro s hs
    obtain rfl : .agg #[.iface 92 (.agg #[.int .i64 kid, .int .i64 0]), .int .i64 6] = s := Option.some.inj hs
    exact put_same (a := a) (t := 25 + 45) (by omega)
theorem s3_46 (hS : St3 cp sc v3 v4 v5 kid ca n cap W a0) : Step3 cp sc v3 v4 v5 kid ca n cap W a0 46 := by
  intro Q listed a w hI hr
  have ho : ops3[46]? = some (Oper.mk _ _ _ _ _ _) := rfl
  obtain ⟨hsz, hdf, hfx, hbw, hls, hclo, hgot⟩ := id hI
  have p70 : a.tmps[70]? = some (.agg #[.iface 92 (.agg #[.int .i64 kid, .int .i64 0]), .int .i64 6]) := hgot 45 (before hr ho (e := ⟨45, .data⟩) (by simp) rfl) _ rfl
  refine wpOp_val ho rfl (v := ptr w.heap.size) (w' := w.alloc (.cells #[.iface 92 (.agg #[.int .i64 kid, .int .i64 0]), .int .i64 6] 87)) ?_ (in3_put hI hr ((Below.refl _ _).alloc (Nat.le_refl _) _) ?_)
  · simp [execOp, go_sem, ptr, p70]
  · intro s hs
    obtain rfl : .tuple #[.iface 92 (.agg #[.int .i64 kid, .int .i64 0]), .int .i64 6] = s := Option.some.inj hs
    exact ⟨w.heap.size, put_same (a := a) (t := 25 + 46) (by omega), hbw.size, Nd.newAt _ _ rfl⟩
theorem s3_47 (hS : St3 cp sc v3 v4 v5 kid ca n cap W a0) : Step3 cp sc v3 v4 v5 kid ca n cap W a0 47 := by
  intro Q listed a w hI hr
  have ho : ops3[47]? = some (Oper.mk _ _ _ _ _ _) := rfl
  obtain ⟨hsz, hdf, hfx, hbw, hls, hclo, hgot⟩ := id hI
  refine wpOp_val ho rfl (v := .iface 4 (.bool false)) (w' := w) ?_ (in3_put hI hr (Below.refl _ _) ?_)
  · simp [execOp, go_sem, ]
  · intro s hs
    obtain rfl : .iface 4 (.bool false) = s := Option.some.inj hs
    exact put_same (a := a) (t := 25 + 47) (by omega)
theorem s3_48 (hS : St3 cp sc v3 v4 v5 kid ca n cap W a0) : Step3 cp sc v3 v4 v5 kid ca n cap W a0 48 := by
  intro Q listed a w hI hr
  have ho : ops3[48]? = some (Oper.mk _ _ _ _ _ _) := rfl
  obtain ⟨hsz, hdf, hfx, hbw, hls, hclo, hgot⟩ := id hI
  have p72 : a.tmps[72]? = some (.iface 4 (.bool false)) := hgot 47 (before hr ho (e := ⟨47, .data⟩) (by simp) rfl) _ rfl
  refine wpOp_val ho rfl (v := .agg #[.iface 4 (.bool false), .int .i64 1]) (w' := w) ?_ (in3_put hI hr (Below.refl _ _) ?_)
  · simp [execOp, go_sem, p72]
  · intro s hs
    obtain rfl : .agg #[.iface 4 (.bool false), .int .i64 1] = s := Option.some.inj hs
    exact put_same (a := a) (t := 25 + 48) (by omega)
theorem s3_49 (hS : St3 cp sc v3 v4 v5 kid ca n cap W a0) : Step3 cp sc v3 v4 v5 kid ca n cap W a0 49 := by
  intro Q listed a w hI hr
  have ho : ops3[49]? = some (Oper.mk _ _ _ _ _ _) := rfl
  obtain ⟨hsz, hdf, hfx, hbw, hls, hclo, hgot⟩ := id hI
  have p73 : a.tmps[73]? = some (.agg #[.iface 4 (.bool false), .int .i64 1]) := hgot 48 (before hr ho (e := ⟨48, .data⟩) (by simp) rfl) _ rfl
  refine wpOp_val ho rfl (v := ptr w.heap.size) (w' := w.alloc (.cells #[.iface 4 (.bool false), .int .i64 1] 87)) ?_ (in3_put hI hr ((Below.refl _ _).alloc (Nat.le_refl _) _) ?_)
  · simp [execOp, go_sem, ptr, p73]
  · intro s hs
    obtain rfl : .tuple #[.iface 4 (.bool false), .int .i64 1] = s := Option.some.inj hs
    exact ⟨w.heap.size, put_same (a := a) (t := 25 + 49) (by omega), hbw.size, Nd.newAt _ _ rfl⟩
theorem s3_50 (hS : St3 cp sc v3 v4 v5 kid ca n cap W a0) : Step3 cp sc v3 v4 v5 kid ca n cap W a0 50 := by
  intro Q listed a w hI hr
  have ho : ops3[50]? = some (Oper.mk _ _ _ _ _ _) := rfl
  obtain ⟨hsz, hdf, hfx, hbw, hls, hclo, hgot⟩ := id hI
  have p5 : a.tmps[5]? = some (.pointer (some ⟨v5, 0, none⟩)) := (hfx 5 (by omega)).trans hS.2.2.2.2.2.2.2.2.2.1
  have c0 := cell_stay hbw (hS.2.2.2.2.1.1)
  have c1 := cell_stay hbw (hS.2.2.2.2.1.2)
  refine wpOp_val ho rfl (v := .agg #[.int .i64 kid, .int .i64 2]) (w' := w) ?_ (in3_put hI hr (Below.refl _ _) ?_)
  · simp [execOp, go_sem, p5, c0, c1]
  · intro s hs
    obtain rfl : .agg #[.int .i64 kid, .int .i64 2] = s := Option.some.inj hs
    exact put_same (a := a) (t := 25 + 50) (by omega)
theorem s3_51 (hS : St3 cp sc v3 v4 v5 kid ca n cap W a0) : Step3 cp sc v3 v4 v5 kid ca n cap W a0 51 := by
  intro Q listed a w hI hr
  have ho : ops3[51]? = some (Oper.mk _ _ _ _ _ _) := rfl
  obtain ⟨hsz, hdf, hfx, hbw, hls, hclo, hgot⟩ := id hI
  have p75 : a.tmps[75]? = some (.agg #[.int .i64 kid, .int .i64 2]) := hgot 50 (before hr ho (e := ⟨50, .data⟩) (by simp) rfl) _ rfl
  refine wpOp_val ho rfl (v := .iface 92 (.agg #[.int .i64 kid, .int .i64 2])) (w' := w) ?_ (in3_put hI hr (Below.refl _ _) ?_)
  · simp [execOp, go_sem, p75]
  · intro s hs
    obtain rfl : .iface 92 (.agg #[.int .i64 kid, .int .i64 2]) = s := Option.some.inj hs
    exact put_same (a := a) (t := 25 + 51) (by omega)
theorem s3_52 (hS : St3 cp sc v3 v4 v5 kid ca n cap W a0) : Step3 cp sc v3 v4 v5 kid ca n cap W a0 52 := by
  intro Q listed a w hI hr
  have ho : ops3[52]? = some (Oper.mk _ _ _ _ _ _) := rfl
  obtain ⟨hsz, hdf, hfx, hbw, hls, hclo, hgot⟩ := id hI
  have p76 : a.tmps[76]? = some (.iface 92 (.agg #[.int .i64 kid, .int .i64 2])) := hgot 51 (before hr ho (e := ⟨51, .data⟩) (by simp) rfl) _ rfl
  refine wpOp_val ho rfl (v := .agg #[.iface 92 (.agg #[.int .i64 kid, .int .i64 2]), .int .i64 6]) (w' := w) ?_ (in3_put hI hr (Below.refl _ _) ?_)
  · simp [execOp, go_sem, p76]
  · intro s hs
    obtain rfl : .agg #[.iface 92 (.agg #[.int .i64 kid, .int .i64 2]), .int .i64 6] = s := Option.some.inj hs
    exact put_same (a := a) (t := 25 + 52) (by omega)
theorem s3_53 (hS : St3 cp sc v3 v4 v5 kid ca n cap W a0) : Step3 cp sc v3 v4 v5 kid ca n cap W a0 53 := by
  intro Q listed a w hI hr
  have ho : ops3[53]? = some (Oper.mk _ _ _ _ _ _) := rfl
  obtain ⟨hsz, hdf, hfx, hbw, hls, hclo, hgot⟩ := id hI
  have p77 : a.tmps[77]? = some (.agg #[.iface 92 (.agg #[.int .i64 kid, .int .i64 2]), .int .i64 6]) := hgot 52 (before hr ho (e := ⟨52, .data⟩) (by simp) rfl) _ rfl
  refine wpOp_val ho rfl (v := ptr w.heap.size) (w' := w.alloc (.cells #[.iface 92 (.agg #[.int .i64 kid, .int .i64 2]), .int .i64 6] 87)) ?_ (in3_put hI hr ((Below.refl _ _).alloc (Nat.le_refl _) _) ?_)
  · simp [execOp, go_sem, ptr, p77]
  · intro s hs
    obtain rfl : .tuple #[.iface 92 (.agg #[.int .i64 kid, .int .i64 2]), .int .i64 6] = s := Option.some.inj hs
    exact ⟨w.heap.size, put_same (a := a) (t := 25 + 53) (by omega), hbw.size, Nd.newAt _ _ rfl⟩
theorem s3_54 (hS : St3 cp sc v3 v4 v5 kid ca n cap W a0) : Step3 cp sc v3 v4 v5 kid ca n cap W a0 54 := by
  intro Q listed a w hI hr
  have ho : ops3[54]? = some (Oper.mk _ _ _ _ _ _) := rfl
  obtain ⟨hsz, hdf, hfx, hbw, hls, hclo, hgot⟩ := id hI
  refine wpOp_val ho rfl (v := .agg #[.nilIface, .int .i64 14]) (w' := w) ?_ (in3_put hI hr (Below.refl _ _) ?_)
  · simp [execOp, go_sem, ]
  · intro s hs
    obtain rfl : .agg #[.nilIface, .int .i64 14] = s := Option.some.inj hs
    exact put_same (a := a) (t := 25 + 54) (by omega)
theorem s3_55 (hS : St3 cp sc v3 v4 v5 kid ca n cap W a0) : Step3 cp sc v3 v4 v5 kid ca n cap W a0 55 := by
  intro Q listed a w hI hr
  have ho : ops3[55]? = some (Oper.mk _ _ _ _ _ _) := rfl
  obtain ⟨hsz, hdf, hfx, hbw, hls, hclo, hgot⟩ := id hI
  have p79 : a.tmps[79]? = some (.agg #[.nilIface, .int .i64 14]) := hgot 54 (before hr ho (e := ⟨54, .data⟩) (by simp) rfl) _ rfl
  refine wpOp_val ho rfl (v := ptr w.heap.size) (w' := w.alloc (.cells #[.nilIface, .int .i64 14] 87)) ?_ (in3_put hI hr ((Below.refl _ _).alloc (Nat.le_refl _) _) ?_)
  · simp [execOp, go_sem, ptr, p79]
  · intro s hs
    obtain rfl : .tuple #[.nilIface, .int .i64 14] = s := Option.some.inj hs
    exact ⟨w.heap.size, put_same (a := a) (t := 25 + 55) (by omega), hbw.size, Nd.newAt _ _ rfl⟩
theorem s3_56 (hS : St3 cp sc v3 v4 v5 kid ca n cap W a0) : Step3 cp sc v3 v4 v5 kid ca n cap W a0 56 := by
  intro Q listed a w hI hr
  have ho : ops3[56]? = some (Oper.mk _ _ _ _ _ _) := rfl
  obtain ⟨hsz, hdf, hfx, hbw, hls, hclo, hgot⟩ := id hI
  refine wpOp_val ho rfl (v := .agg #[.nilIface, .int .i64 2]) (w' := w) ?_ (in3_put hI hr (Below.refl _ _) ?_)
  · simp [execOp, go_sem, ]
  · intro s hs
    obtain rfl : .agg #[.nilIface, .int .i64 2] = s := Option.some.inj hs
    exact put_same (a := a) (t := 25 + 56) (by omega)
theorem s3_57 (hS : St3 cp sc v3 v4 v5 kid ca n cap W a0) : Step3 cp sc v3 v4 v5 kid ca n cap W a0 57 := by
  intro Q listed a w hI hr
  have ho : ops3[57]? = some (Oper.mk _ _ _ _ _ _) := rfl
  obtain ⟨hsz, hdf, hfx, hbw, hls, hclo, hgot⟩ := id hI
  have p81 : a.tmps[81]? = some (.agg #[.nilIface, .int .i64 2]) := hgot 56 (before hr ho (e := ⟨56, .data⟩) (by simp) rfl) _ rfl
  refine wpOp_val ho rfl (v := ptr w.heap.size) (w' := w.alloc (.cells #[.nilIface, .int .i64 2] 87)) ?_ (in3_put hI hr ((Below.refl _ _).alloc (Nat.le_refl _) _) ?_)
  · simp [execOp, go_sem, ptr, p81]
  · intro s hs
    obtain rfl : .tuple #[.nilIface, .int .i64 2] = s := Option.some.inj hs
    exact ⟨w.heap.size, put_same (a := a) (t := 25 + 57) (by omega), hbw.size, Nd.newAt _ _ rfl⟩
theorem s3_58 (hS : St3 cp sc v3 v4 v5 kid ca n cap W a0) : Step3 cp sc v3 v4 v5 kid ca n cap W a0 58 := by
  intro Q listed a w hI hr
  have ho : ops3[58]? = some (Oper.mk _ _ _ _ _ _) := rfl
  obtain ⟨hsz, hdf, hfx, hbw, hls, hclo, hgot⟩ := id hI
  have p5 : a.tmps[5]? = some (.pointer (some ⟨v5, 0, none⟩)) := (hfx 5 (by omega)).trans hS.2.2.2.2.2.2.2.2.2.1
  have c0 := cell_stay hbw (hS.2.2.2.2.1.1)
  have c1 := cell_stay hbw (hS.2.2.2.2.1.2)
  refine wpOp_val ho rfl (v := .agg #[.int .i64 kid, .int .i64 2]) (w' := w) ?_ (in3_put hI hr (Below.refl _ _) ?_)
  · simp [execOp, go_sem, p5, c0, c1]
  · intro s hs
    obtain rfl : .agg #[.int .i64 kid, .int .i64 2] = s := Option.some.inj hs
    exact put_same (a := a) (t := 25 + 58) (by omega)
theorem s3_59 (hS : St3 cp sc v3 v4 v5 kid ca n cap W a0) : Step3 cp sc v3 v4 v5 kid ca n cap W a0 59 := by
  intro Q listed a w hI hr
  have ho : ops3[59]? = some (Oper.mk _ _ _ _ _ _) := rfl
  obtain ⟨hsz, hdf, hfx, hbw, hls, hclo, hgot⟩ := id hI
  have p83 : a.tmps[83]? = some (.agg #[.int .i64 kid, .int .i64 2]) := hgot 58 (before hr ho (e := ⟨58, .data⟩) (by simp) rfl) _ rfl
  refine wpOp_val ho rfl (v := .iface 92 (.agg #[.int .i64 kid, .int .i64 2])) (w' := w) ?_ (in3_put hI hr (Below.refl _ _) ?_)
  · simp [execOp, go_sem, p83]
  · intro s hs
    obtain rfl : .iface 92 (.agg #[.int .i64 kid, .int .i64 2]) = s := Option.some.inj hs
    exact put_same (a := a) (t := 25 + 59) (by omega)
theorem s3_60 (hS : St3 cp sc v3 v4 v5 kid ca n cap W a0) : Step3 cp sc v3 v4 v5 kid ca n cap W a0 60 := by
  intro Q listed a w hI hr
  have ho : ops3[60]? = some (Oper.mk _ _ _ _ _ _) := rfl
  obtain ⟨hsz, hdf, hfx, hbw, hls, hclo, hgot⟩ := id hI
  have p84 : a.tmps[84]? = some (.iface 92 (.agg #[.int .i64 kid, .int .i64 2])) := hgot 59 (before hr ho (e := ⟨59, .data⟩) (by simp) rfl) _ rfl
  refine wpOp_val ho rfl (v := .agg #[.iface 92 (.agg #[.int .i64 kid, .int .i64 2]), .int .i64 5]) (w' := w) ?_ (in3_put hI hr (Below.refl _ _) ?_)
  · simp [execOp, go_sem, p84]
  · intro s hs
    obtain rfl : .agg #[.iface 92 (.agg #[.int .i64 kid, .int .i64 2]), .int .i64 5] = s := Option.some.inj hs
    exact put_same (a := a) (t := 25 + 60) (by omega)
theorem s3_61 (hS : St3 cp sc v3 v4 v5 kid ca n cap W a0) : Step3 cp sc v3 v4 v5 kid ca n cap W a0 61 := by
  intro Q listed a w hI hr
  have ho : ops3[61]? = some (Oper.mk _ _ _ _ _ _) := rfl
  obtain ⟨hsz, hdf, hfx, hbw, hls, hclo, hgot⟩ := id hI
  have p85 : a.tmps[85]? = some (.agg #[.iface 92 (.agg #[.int .i64 kid, .int .i64 2]), .int .i64 5]) := hgot 60 (before hr ho (e := ⟨60, .data⟩) (by simp) rfl) _ rfl
  refine wpOp_val ho rfl (v := ptr w.heap.size) (w' := w.alloc (.cells #[.iface 92 (.agg #[.int .i64 kid, .int .i64 2]), .int .i64 5] 87)) ?_ (in3_put hI hr ((Below.refl _ _).alloc (Nat.le_refl _) _) ?_)
  · simp [execOp, go_sem, ptr, p85]
  · intro s hs
    obtain rfl : .tuple #[.iface 92 (.agg #[.int .i64 kid, .int .i64 2]), .int .i64 5] = s := Option.some.inj hs
    exact ⟨w.heap.size, put_same (a := a) (t := 25 + 61) (by omega), hbw.size, Nd.newAt _ _ rfl⟩
theorem s3_62 (hS : St3 cp sc v3 v4 v5 kid ca n cap W a0) : Step3 cp sc v3 v4 v5 kid ca n cap W a0 62 := by
  intro Q listed a w hI hr
  have ho : ops3[62]? = some (Oper.mk _ _ _ _ _ _) := rfl
  obtain ⟨hsz, hdf, hfx, hbw, hls, hclo, hgot⟩ := id hI
  have p0 : a.tmps[0]? = some (.pointer (some ⟨cp, 0, none⟩)) := (hfx 0 (by omega)).trans hS.2.2.2.2.2.1
  refine wpOp_val ho rfl (v := .pointer (some ⟨cp, 0, none⟩)) (w' := w) ?_ (in3_put hI hr (Below.refl _ _) ?_)
  · simp [execOp, go_sem, p0]
  · intro s hs
    obtain rfl : .pointer (some ⟨cp, 0, none⟩) = s := Option.some.inj hs
    exact put_same (a := a) (t := 25 + 62) (by omega)
theorem s3_63 (hS : St3 cp sc v3 v4 v5 kid ca n cap W a0) : Step3 cp sc v3 v4 v5 kid ca n cap W a0 63 := by
  intro Q listed a w hI hr
  have ho : ops3[63]? = some (Oper.mk _ _ _ _ _ _) := rfl
  obtain ⟨hsz, hdf, hfx, hbw, hls, hclo, hgot⟩ := id hI
  have p87 : a.tmps[87]? = some (.pointer (some ⟨cp, 0, none⟩)) := hgot 62 (before hr ho (e := ⟨62, .data⟩) (by simp) rfl) _ rfl
  refine wpOp_val ho rfl (v := .pointer (some ⟨cp, 0, none⟩)) (w' := w) ?_ (in3_put hI hr (Below.refl _ _) ?_)
  · simp [execOp, go_sem, p87]
  · intro s hs
    obtain rfl : .pointer (some ⟨cp, 0, none⟩) = s := Option.some.inj hs
    exact put_same (a := a) (t := 25 + 63) (by omega)
theorem s3_64 (hS : St3 cp sc v3 v4 v5 kid ca n cap W a0) : Step3 cp sc v3 v4 v5 kid ca n cap W a0 64 := by
  intro Q listed a w hI hr
  have ho : ops3[64]? = some (Oper.mk _ _ _ _ _ _) := rfl
  obtain ⟨hsz, hdf, hfx, hbw, hls, hclo, hgot⟩ := id hI
  have p88 : a.tmps[88]? = some (.pointer (some ⟨cp, 0, none⟩)) := hgot 63 (before hr ho (e := ⟨63, .data⟩) (by simp) rfl) _ rfl
  refine wpOp_val ho rfl (v := .pointer (some ⟨cp, 5, none⟩)) (w' := w) ?_ (in3_put hI hr (Below.refl _ _) ?_)
  · simp [execOp, go_sem, p88]
  · intro s hs
    obtain rfl : .pointer (some ⟨cp, 5, none⟩) = s := Option.some.inj hs
    exact put_same (a := a) (t := 25 + 64) (by omega)
theorem s3_65 (hS : St3 cp sc v3 v4 v5 kid ca n cap W a0) : Step3 cp sc v3 v4 v5 kid ca n cap W a0 65 := by
  intro Q listed a w hI hr
  have ho : ops3[65]? = some (Oper.mk _ _ _ _ _ _) := rfl
  obtain ⟨hsz, hdf, hfx, hbw, hls, hclo, hgot⟩ := id hI
  have p89 : a.tmps[89]? = some (.pointer (some ⟨cp, 5, none⟩)) := hgot 64 (before hr ho (e := ⟨64, .data⟩) (by simp) rfl) _ rfl
  have c0 := cell_stay hbw (hS.2.1)
  refine wpOp_val ho rfl (v := .slice ca n cap) (w' := w) ?_ (in3_put hI hr (Below.refl _ _) ?_)
  · simp [execOp, go_sem, p89, c0]
  · intro s hs
    obtain rfl : .slice ca n cap = s := Option.some.inj hs
    exact put_same (a := a) (t := 25 + 65) (by omega)
theorem s3_66 (hS : St3 cp sc v3 v4 v5 kid ca n cap W a0) : Step3 cp sc v3 v4 v5 kid ca n cap W a0 66 := by
  intro Q listed a w hI hr
  have ho : ops3[66]? = some (Oper.mk _ _ _ _ _ _) := rfl
  obtain ⟨hsz, hdf, hfx, hbw, hls, hclo, hgot⟩ := id hI
  have p90 : a.tmps[90]? = some (.slice ca n cap) := hgot 65 (before hr ho (e := ⟨65, .data⟩) (by simp) rfl) _ rfl
  refine wpOp_val ho rfl (v := .int .i64 n) (w' := w) ?_ (in3_put hI hr (Below.refl _ _) ?_)
  · simp [execOp, go_sem, p90]
  · intro s hs
    obtain rfl : .int .i64 n = s := Option.some.inj hs
    exact put_same (a := a) (t := 25 + 66) (by omega)
theorem s3_67 (hS : St3 cp sc v3 v4 v5 kid ca n cap W a0) : Step3 cp sc v3 v4 v5 kid ca n cap W a0 67 := by
  intro Q listed a w hI hr
  have ho : ops3[67]? = some (Oper.mk _ _ _ _ _ _) := rfl
  obtain ⟨hsz, hdf, hfx, hbw, hls, hclo, hgot⟩ := id hI
  have p91 : a.tmps[91]? = some (.int .i64 n) := hgot 66 (before hr ho (e := ⟨66, .data⟩) (by simp) rfl) _ rfl
  have hn := hS.2.2.2.2.2.2.2.2.2.2
  refine wpOp_val ho rfl (v := .int .i64 ((n : Int) + 17)) (w' := w) ?_ (in3_put hI hr (Below.refl _ _) ?_)
  · simp [execOp, go_sem, p91]
    rw [IntKind.wrap_i64]; omega
  · intro s hs
    obtain rfl : .int .i64 ((n : Int) + 17) = s := Option.some.inj hs
    exact put_same (a := a) (t := 25 + 67) (by omega)
theorem s3_68 (hS : St3 cp sc v3 v4 v5 kid ca n cap W a0) : Step3 cp sc v3 v4 v5 kid ca n cap W a0 68 := by
  intro Q listed a w hI hr
  have ho : ops3[68]? = some (Oper.mk _ _ _ _ _ _) := rfl
  obtain ⟨hsz, hdf, hfx, hbw, hls, hclo, hgot⟩ := id hI
  have p92 : a.tmps[92]? = some (.int .i64 ((n : Int) + 17)) := hgot 67 (before hr ho (e := ⟨67, .data⟩) (by simp) rfl) _ rfl
  refine wpOp_val ho rfl (v := .iface 3 (.int .i64 ((n : Int) + 17))) (w' := w) ?_ (in3_put hI hr (Below.refl _ _) ?_)
  · simp [execOp, go_sem, p92]
  · intro s hs
    obtain rfl : .iface 3 (.int .i64 ((n : Int) + 17)) = s := Option.some.inj hs
    exact put_same (a := a) (t := 25 + 68) (by omega)
theorem s3_69 (hS : St3 cp sc v3 v4 v5 kid ca n cap W a0) : Step3 cp sc v3 v4 v5 kid ca n cap W a0 69 := by
  intro Q listed a w hI hr
  have ho : ops3[69]? = some (Oper.mk _ _ _ _ _ _) := rfl
  obtain ⟨hsz, hdf, hfx, hbw, hls, hclo, hgot⟩ := id hI
  have p93 : a.tmps[93]? = some (.iface 3 (.int .i64 ((n : Int) + 17))) := hgot 68 (before hr ho (e := ⟨68, .data⟩) (by simp) rfl) _ rfl
  refine wpOp_val ho rfl (v := .agg #[.iface 3 (.int .i64 ((n : Int) + 17)), .int .i64 16]) (w' := w) ?_ (in3_put hI hr (Below.refl _ _) ?_)
  · simp [execOp, go_sem, p93]
  · intro s hs
    obtain rfl : .agg #[.iface 3 (.int .i64 ((n : Int) + 17)), .int .i64 16] = s := Option.some.inj hs
    exact put_same (a := a) (t := 25 + 69) (by omega)
theorem s3_70 (hS : St3 cp sc v3 v4 v5 kid ca n cap W a0) : Step3 cp sc v3 v4 v5 kid ca n cap W a0 70 := by
  intro Q listed a w hI hr
  have ho : ops3[70]? = some (Oper.mk _ _ _ _ _ _) := rfl
  obtain ⟨hsz, hdf, hfx, hbw, hls, hclo, hgot⟩ := id hI
  have p94 : a.tmps[94]? = some (.agg #[.iface 3 (.int .i64 ((n : Int) + 17)), .int .i64 16]) := hgot 69 (before hr ho (e := ⟨69, .data⟩) (by simp) rfl) _ rfl
  refine wpOp_val ho rfl (v := ptr w.heap.size) (w' := w.alloc (.cells #[.iface 3 (.int .i64 ((n : Int) + 17)), .int .i64 16] 87)) ?_ (in3_put hI hr ((Below.refl _ _).alloc (Nat.le_refl _) _) ?_)
  · simp [execOp, go_sem, ptr, p94]
  · intro s hs
    obtain rfl : .tuple #[.iface 3 (.int .i64 ((n : Int) + 17)), .int .i64 16] = s := Option.some.inj hs
    exact ⟨w.heap.size, put_same (a := a) (t := 25 + 70) (by omega), hbw.size, Nd.newAt _ _ rfl⟩
theorem s3_71 (hS : St3 cp sc v3 v4 v5 kid ca n cap W a0) : Step3 cp sc v3 v4 v5 kid ca n cap W a0 71 := by
  intro Q listed a w hI hr
  have ho : ops3[71]? = some (Oper.mk _ _ _ _ _ _) := rfl
  obtain ⟨hsz, hdf, hfx, hbw, hls, hclo, hgot⟩ := id hI
  refine wpOp_val ho rfl (v := .agg #[.nilIface, .int .i64 14]) (w' := w) ?_ (in3_put hI hr (Below.refl _ _) ?_)
  · simp [execOp, go_sem, ]
  · intro s hs
    obtain rfl : .agg #[.nilIface, .int .i64 14] = s := Option.some.inj hs
    exact put_same (a := a) (t := 25 + 71) (by omega)
theorem s3_72 (hS : St3 cp sc v3 v4 v5 kid ca n cap W a0) : Step3 cp sc v3 v4 v5 kid ca n cap W a0 72 := by
  intro Q listed a w hI hr
  have ho : ops3[72]? = some (Oper.mk _ _ _ _ _ _) := rfl
  obtain ⟨hsz, hdf, hfx, hbw, hls, hclo, hgot⟩ := id hI
  have p96 : a.tmps[96]? = some (.agg #[.nilIface, .int .i64 14]) := hgot 71 (before hr ho (e := ⟨71, .data⟩) (by simp) rfl) _ rfl
  refine wpOp_val ho rfl (v := ptr w.heap.size) (w' := w.alloc (.cells #[.nilIface, .int .i64 14] 87)) ?_ (in3_put hI hr ((Below.refl _ _).alloc (Nat.le_refl _) _) ?_)
  · simp [execOp, go_sem, ptr, p96]
  · intro s hs
    obtain rfl : .tuple #[.nilIface, .int .i64 14] = s := Option.some.inj hs
    exact ⟨w.heap.size, put_same (a := a) (t := 25 + 72) (by omega), hbw.size, Nd.newAt _ _ rfl⟩
theorem s3_73 (hS : St3 cp sc v3 v4 v5 kid ca n cap W a0) : Step3 cp sc v3 v4 v5 kid ca n cap W a0 73 := by
  intro Q listed a w hI hr
  have ho : ops3[73]? = some (Oper.mk _ _ _ _ _ _) := rfl
  obtain ⟨hsz, hdf, hfx, hbw, hls, hclo, hgot⟩ := id hI
  have p3 : a.tmps[3]? = some (.pointer (some ⟨v3, 0, none⟩)) := (hfx 3 (by omega)).trans hS.2.2.2.2.2.2.2.1
  have c0 := cell_stay hbw (hS.2.2.1.1)
  have c1 := cell_stay hbw (hS.2.2.1.2)
  refine wpOp_val ho rfl (v := .agg #[.int .i64 kid, .int .i64 0]) (w' := w) ?_ (in3_put hI hr (Below.refl _ _) ?_)
  · simp [execOp, go_sem, p3, c0, c1]
  · intro s hs
    obtain rfl : .agg #[.int .i64 kid, .int .i64 0] = s := Option.some.inj hs
    exact put_same (a := a) (t := 25 + 73) (by omega)
theorem s3_74 (hS : St3 cp sc v3 v4 v5 kid ca n cap W a0) : Step3 cp sc v3 v4 v5 kid ca n cap W a0 74 := by
  intro Q listed a w hI hr
  have ho : ops3[74]? = some (Oper.mk _ _ _ _ _ _) := rfl
  obtain ⟨hsz, hdf, hfx, hbw, hls, hclo, hgot⟩ := id hI
  have p98 : a.tmps[98]? = some (.agg #[.int .i64 kid, .int .i64 0]) := hgot 73 (before hr ho (e := ⟨73, .data⟩) (by simp) rfl) _ rfl
  refine wpOp_val ho rfl (v := .iface 92 (.agg #[.int .i64 kid, .int .i64 0])) (w' := w) ?_ (in3_put hI hr (Below.refl _ _) ?_)
  · simp [execOp, go_sem, p98]
  · intro s hs
    obtain rfl : .iface 92 (.agg #[.int .i64 kid, .int .i64 0]) = s := Option.some.inj hs
    exact put_same (a := a) (t := 25 + 74) (by omega)
theorem s3_75 (hS : St3 cp sc v3 v4 v5 kid ca n cap W a0) : Step3 cp sc v3 v4 v5 kid ca n cap W a0 75 := by
  intro Q listed a w hI hr
  have ho : ops3[75]? = some (Oper.mk _ _ _ _ _ _) := rfl
  obtain ⟨hsz, hdf, hfx, hbw, hls, hclo, hgot⟩ := id hI
  have p99 : a.tmps[99]? = some (.iface 92 (.agg #[.int .i64 kid, .int .i64 0])) := hgot 74 (before hr ho (e := ⟨74, .data⟩) (by simp) rfl) _ rfl
  refine wpOp_val ho rfl (v := .agg #[.iface 92 (.agg #[.int .i64 kid, .int .i64 0]), .int .i64 5]) (w' := w) ?_ (in3_put hI hr (Below.refl _ _) ?_)
  · simp [execOp, go_sem, p99]
  · intro s hs
    obtain rfl : .agg #[.iface 92 (.agg #[.int .i64 kid, .int .i64 0]), .int .i64 5] = s := Option.some.inj hs
    exact put_same (a := a) (t := 25 + 75) (by omega)
theorem s3_76 (hS : St3 cp sc v3 v4 v5 kid ca n cap W a0) : Step3 cp sc v3 v4 v5 kid ca n cap W a0 76 := by
  intro Q listed a w hI hr
  have ho : ops3[76]? = some (Oper.mk _ _ _ _ _ _) := rfl
  obtain ⟨hsz, hdf, hfx, hbw, hls, hclo, hgot⟩ := id hI
  have p100 : a.tmps[100]? = some (.agg #[.iface 92 (.agg #[.int .i64 kid, .int .i64 0]), .int .i64 5]) := hgot 75 (before hr ho (e := ⟨75, .data⟩) (by simp) rfl) _ rfl
  refine wpOp_val ho rfl (v := ptr w.heap.size) (w' := w.alloc (.cells #[.iface 92 (.agg #[.int .i64 kid, .int .i64 0]), .int .i64 5] 87)) ?_ (in3_put hI hr ((Below.refl _ _).alloc (Nat.le_refl _) _) ?_)
  · simp [execOp, go_sem, ptr, p100]
  · intro s hs
    obtain rfl : .tuple #[.iface 92 (.agg #[.int .i64 kid, .int .i64 0]), .int .i64 5] = s := Option.some.inj hs
    exact ⟨w.heap.size, put_same (a := a) (t := 25 + 76) (by omega), hbw.size, Nd.newAt _ _ rfl⟩
theorem s3_77 (hS : St3 cp sc v3 v4 v5 kid ca n cap W a0) : Step3 cp sc v3 v4 v5 kid ca n cap W a0 77 := by
  intro Q listed a w hI hr
  have ho : ops3[77]? = some (Oper.mk _ _ _ _ _ _) := rfl
  obtain ⟨hsz, hdf, hfx, hbw, hls, hclo, hgot⟩ := id hI
  refine wpOp_val ho rfl (v := .agg #[.nilIface, .int .i64 24]) (w' := w) ?_ (in3_put hI hr (Below.refl _ _) ?_)
  · simp [execOp, go_sem, ]
  · intro s hs
    obtain rfl : .agg #[.nilIface, .int .i64 24] = s := Option.some.inj hs
    exact put_same (a := a) (t := 25 + 77) (by omega)
theorem s3_78 (hS : St3 cp sc v3 v4 v5 kid ca n cap W a0) : Step3 cp sc v3 v4 v5 kid ca n cap W a0 78 := by
  intro Q listed a w hI hr
  have ho : ops3[78]? = some (Oper.mk _ _ _ _ _ _) := rfl
  obtain ⟨hsz, hdf, hfx, hbw, hls, hclo, hgot⟩ := id hI
  have p102 : a.tmps[102]? = some (.agg #[.nilIface, .int .i64 24]) := hgot 77 (before hr ho (e := ⟨77, .data⟩) (by simp) rfl) _ rfl
  refine wpOp_val ho rfl (v := ptr w.heap.size) (w' := w.alloc (.cells #[.nilIface, .int .i64 24] 87)) ?_ (in3_put hI hr ((Below.refl _ _).alloc (Nat.le_refl _) _) ?_)
  · simp [execOp, go_sem, ptr, p102]
  · intro s hs
    obtain rfl : .tuple #[.nilIface, .int .i64 24] = s := Option.some.inj hs
    exact ⟨w.heap.size, put_same (a := a) (t := 25 + 78) (by omega), hbw.size, Nd.newAt _ _ rfl⟩
theorem s3_79 (hS : St3 cp sc v3 v4 v5 kid ca n cap W a0) : Step3 cp sc v3 v4 v5 kid ca n cap W a0 79 := by
  intro Q listed a w hI hr
  have ho : ops3[79]? = some (Oper.mk _ _ _ _ _ _) := rfl
  obtain ⟨hsz, hdf, hfx, hbw, hls, hclo, hgot⟩ := id hI
  obtain ⟨b8, p33, g8, q8⟩ : ∃ b, a.tmps[33]? = some (ptr b) ∧ W.heap.size ≤ b ∧ Nd b 87 #[.iface 32 (.agg #[.int .i64 kid, .int .i64 3, .int .i64 1]), .int .i64 23] w := hold_box (hgot 8 (before hr ho (e := ⟨8, .data⟩) (by simp) rfl) _ rfl)
  obtain ⟨b12, p37, g12, q12⟩ : ∃ b, a.tmps[37]? = some (ptr b) ∧ W.heap.size ≤ b ∧ Nd b 87 #[.iface 92 (.agg #[.int .i64 kid, .int .i64 0]), .int .i64 6] w := hold_box (hgot 12 (before hr ho (e := ⟨12, .data⟩) (by simp) rfl) _ rfl)
  obtain ⟨b16, p41, g16, q16⟩ : ∃ b, a.tmps[41]? = some (ptr b) ∧ W.heap.size ≤ b ∧ Nd b 87 #[.iface 92 (.agg #[.int .i64 kid, .int .i64 1]), .int .i64 6] w := hold_box (hgot 16 (before hr ho (e := ⟨16, .data⟩) (by simp) rfl) _ rfl)
  obtain ⟨b19, p44, g19, q19⟩ : ∃ b, a.tmps[44]? = some (ptr b) ∧ W.heap.size ≤ b ∧ Nd b 87 #[.iface 4 (.bool true), .int .i64 1] w := hold_box (hgot 19 (before hr ho (e := ⟨19, .data⟩) (by simp) rfl) _ rfl)
  obtain ⟨b23, p48, g23, q23⟩ : ∃ b, a.tmps[48]? = some (ptr b) ∧ W.heap.size ≤ b ∧ Nd b 87 #[.iface 92 (.agg #[.int .i64 kid, .int .i64 2]), .int .i64 6] w := hold_box (hgot 23 (before hr ho (e := ⟨23, .data⟩) (by simp) rfl) _ rfl)
  obtain ⟨b27, p52, g27, q27⟩ : ∃ b, a.tmps[52]? = some (ptr b) ∧ W.heap.size ≤ b ∧ Nd b 87 #[.iface 92 (.agg #[.int .i64 kid, .int .i64 0]), .int .i64 5] w := hold_box (hgot 27 (before hr ho (e := ⟨27, .data⟩) (by simp) rfl) _ rfl)
  obtain ⟨b36, p61, g36, q36⟩ : ∃ b, a.tmps[61]? = some (ptr b) ∧ W.heap.size ≤ b ∧ Nd b 87 #[.iface 3 (.int .i64 ((n : Int) + 13)), .int .i64 9] w := hold_box (hgot 36 (before hr ho (e := ⟨36, .data⟩) (by simp) rfl) _ rfl)
  obtain ⟨b40, p65, g40, q40⟩ : ∃ b, a.tmps[65]? = some (ptr b) ∧ W.heap.size ≤ b ∧ Nd b 87 #[.iface 92 (.agg #[.int .i64 kid, .int .i64 1]), .int .i64 5] w := hold_box (hgot 40 (before hr ho (e := ⟨40, .data⟩) (by simp) rfl) _ rfl)
  obtain ⟨b42, p67, g42, q42⟩ : ∃ b, a.tmps[67]? = some (ptr b) ∧ W.heap.size ≤ b ∧ Nd b 87 #[.nilIface, .int .i64 22] w := hold_box (hgot 42 (before hr ho (e := ⟨42, .data⟩) (by simp) rfl) _ rfl)
  obtain ⟨b46, p71, g46, q46⟩ : ∃ b, a.tmps[71]? = some (ptr b) ∧ W.heap.size ≤ b ∧ Nd b 87 #[.iface 92 (.agg #[.int .i64 kid, .int .i64 0]), .int .i64 6] w := hold_box (hgot 46 (before hr ho (e := ⟨46, .data⟩) (by simp) rfl) _ rfl)
  obtain ⟨b49, p74, g49, q49⟩ : ∃ b, a.tmps[74]? = some (ptr b) ∧ W.heap.size ≤ b ∧ Nd b 87 #[.iface 4 (.bool false), .int .i64 1] w := hold_box (hgot 49 (before hr ho (e := ⟨49, .data⟩) (by simp) rfl) _ rfl)
  obtain ⟨b53, p78, g53, q53⟩ : ∃ b, a.tmps[78]? = some (ptr b) ∧ W.heap.size ≤ b ∧ Nd b 87 #[.iface 92 (.agg #[.int .i64 kid, .int .i64 2]), .int .i64 6] w := hold_box (hgot 53 (before hr ho (e := ⟨53, .data⟩) (by simp) rfl) _ rfl)
  obtain ⟨b55, p80, g55, q55⟩ : ∃ b, a.tmps[80]? = some (ptr b) ∧ W.heap.size ≤ b ∧ Nd b 87 #[.nilIface, .int .i64 14] w := hold_box (hgot 55 (before hr ho (e := ⟨55, .data⟩) (by simp) rfl) _ rfl)
  obtain ⟨b57, p82, g57, q57⟩ : ∃ b, a.tmps[82]? = some (ptr b) ∧ W.heap.size ≤ b ∧ Nd b 87 #[.nilIface, .int .i64 2] w := hold_box (hgot 57 (before hr ho (e := ⟨57, .data⟩) (by simp) rfl) _ rfl)
  obtain ⟨b61, p86, g61, q61⟩ : ∃ b, a.tmps[86]? = some (ptr b) ∧ W.heap.size ≤ b ∧ Nd b 87 #[.iface 92 (.agg #[.int .i64 kid, .int .i64 2]), .int .i64 5] w := hold_box (hgot 61 (before hr ho (e := ⟨61, .data⟩) (by simp) rfl) _ rfl)
  obtain ⟨b70, p95, g70, q70⟩ : ∃ b, a.tmps[95]? = some (ptr b) ∧ W.heap.size ≤ b ∧ Nd b 87 #[.iface 3 (.int .i64 ((n : Int) + 17)), .int .i64 16] w := hold_box (hgot 70 (before hr ho (e := ⟨70, .data⟩) (by simp) rfl) _ rfl)
  obtain ⟨b72, p97, g72, q72⟩ : ∃ b, a.tmps[97]? = some (ptr b) ∧ W.heap.size ≤ b ∧ Nd b 87 #[.nilIface, .int .i64 14] w := hold_box (hgot 72 (before hr ho (e := ⟨72, .data⟩) (by simp) rfl) _ rfl)
  obtain ⟨b76, p101, g76, q76⟩ : ∃ b, a.tmps[101]? = some (ptr b) ∧ W.heap.size ≤ b ∧ Nd b 87 #[.iface 92 (.agg #[.int .i64 kid, .int .i64 0]), .int .i64 5] w := hold_box (hgot 76 (before hr ho (e := ⟨76, .data⟩) (by simp) rfl) _ rfl)
  obtain ⟨b78, p103, g78, q78⟩ : ∃ b, a.tmps[103]? = some (ptr b) ∧ W.heap.size ≤ b ∧ Nd b 87 #[.nilIface, .int .i64 24] w := hold_box (hgot 78 (before hr ho (e := ⟨78, .data⟩) (by simp) rfl) _ rfl)
  refine wpOp_val ho rfl (v := .slice (some ⟨w.heap.size, 0, none⟩) 19 19) (w' := w.alloc (.cells ([b8, b12, b16, b19, b23, b27, b36, b40, b42, b46, b49, b53, b55, b57, b61, b70, b72, b76, b78].map ptr).toArray 84)) ?_ (in3_put hI hr ((Below.refl _ _).alloc (Nat.le_refl _) _) ?_)
  · simp [execOp, go_sem, ptr, p33, p37, p41, p44, p48, p52, p61, p65, p67, p71, p74, p78, p80, p82, p86, p95, p97, p101, p103]
  · intro s hs
    obtain rfl : .chan none = s := Option.some.inj hs
    refine ⟨w.heap.size, [b8, b12, b16, b19, b23, b27, b36, b40, b42, b46, b49, b53, b55, b57, b61, b70, b72, b76, b78], put_same (a := a) (t := 25 + 79) (by omega), hbw.size, rfl, Nd.newAt _ _ rfl, ?_⟩
    intro m p hp
    match m, hp with
    | 0, hp => cases hp; exact ⟨_, rfl, g8, q8.alloc _⟩
    | 1, hp => cases hp; exact ⟨_, rfl, g12, q12.alloc _⟩
    | 2, hp => cases hp; exact ⟨_, rfl, g16, q16.alloc _⟩
    | 3, hp => cases hp; exact ⟨_, rfl, g19, q19.alloc _⟩
    | 4, hp => cases hp; exact ⟨_, rfl, g23, q23.alloc _⟩
    | 5, hp => cases hp; exact ⟨_, rfl, g27, q27.alloc _⟩
    | 6, hp => cases hp; exact ⟨_, rfl, g36, q36.alloc _⟩
    | 7, hp => cases hp; exact ⟨_, rfl, g40, q40.alloc _⟩
    | 8, hp => cases hp; exact ⟨_, rfl, g42, q42.alloc _⟩
    | 9, hp => cases hp; exact ⟨_, rfl, g46, q46.alloc _⟩
    | 10, hp => cases hp; exact ⟨_, rfl, g49, q49.alloc _⟩
    | 11, hp => cases hp; exact ⟨_, rfl, g53, q53.alloc _⟩
    | 12, hp => cases hp; exact ⟨_, rfl, g55, q55.alloc _⟩
    | 13, hp => cases hp; exact ⟨_, rfl, g57, q57.alloc _⟩
    | 14, hp => cases hp; exact ⟨_, rfl, g61, q61.alloc _⟩
    | 15, hp => cases hp; exact ⟨_, rfl, g70, q70.alloc _⟩
    | 16, hp => cases hp; exact ⟨_, rfl, g72, q72.alloc _⟩
    | 17, hp => cases hp; exact ⟨_, rfl, g76, q76.alloc _⟩
    | 18, hp => cases hp; exact ⟨_, rfl, g78, q78.alloc _⟩
    | m + 19, hp => cases hp
theorem s3_all (hS : St3 cp sc v3 v4 v5 kid ca n cap W a0) : ∀ i, i < 80 → Step3 cp sc v3 v4 v5 kid ca n cap W a0 i := by
  intro i hi
  match i, hi with
  | 0, _ => exact s3_0 hS
  | 1, _ => exact s3_1 hS
  | 2, _ => exact s3_2 hS
  | 3, _ => exact s3_3 hS
  | 4, _ => exact s3_4 hS
  | 5, _ => exact s3_5 hS
  | 6, _ => exact s3_6 hS
  | 7, _ => exact s3_7 hS
  | 8, _ => exact s3_8 hS
  | 9, _ => exact s3_9 hS
  | 10, _ => exact s3_10 hS
  | 11, _ => exact s3_11 hS
  | 12, _ => exact s3_12 hS
  | 13, _ => exact s3_13 hS
  | 14, _ => exact s3_14 hS
  | 15, _ => exact s3_15 hS
  | 16, _ => exact s3_16 hS
  | 17, _ => exact s3_17 hS
  | 18, _ => exact s3_18 hS
  | 19, _ => exact s3_19 hS
  | 20, _ => exact s3_20 hS
  | 21, _ => exact s3_21 hS
  | 22, _ => exact s3_22 hS
  | 23, _ => exact s3_23 hS
  | 24, _ => exact s3_24 hS
  | 25, _ => exact s3_25 hS
  | 26, _ => exact s3_26 hS
  | 27, _ => exact s3_27 hS
  | 28, _ => exact s3_28 hS
  | 29, _ => exact s3_29 hS
  | 30, _ => exact s3_30 hS
  | 31, _ => exact s3_31 hS
  | 32, _ => exact s3_32 hS
  | 33, _ => exact s3_33 hS
  | 34, _ => exact s3_34 hS
  | 35, _ => exact s3_35 hS
  | 36, _ => exact s3_36 hS
  | 37, _ => exact s3_37 hS
  | 38, _ => exact s3_38 hS
  | 39, _ => exact s3_39 hS
  | 40, _ => exact s3_40 hS
  | 41, _ => exact s3_41 hS
  | 42, _ => exact s3_42 hS
  | 43, _ => exact s3_43 hS
  | 44, _ => exact s3_44 hS
  | 45, _ => exact s3_45 hS
  | 46, _ => exact s3_46 hS
  | 47, _ => exact s3_47 hS
  | 48, _ => exact s3_48 hS
  | 49, _ => exact s3_49 hS
  | 50, _ => exact s3_50 hS
  | 51, _ => exact s3_51 hS
  | 52, _ => exact s3_52 hS
  | 53, _ => exact s3_53 hS
  | 54, _ => exact s3_54 hS
  | 55, _ => exact s3_55 hS
  | 56, _ => exact s3_56 hS
  | 57, _ => exact s3_57 hS
  | 58, _ => exact s3_58 hS
  | 59, _ => exact s3_59 hS
  | 60, _ => exact s3_60 hS
  | 61, _ => exact s3_61 hS
  | 62, _ => exact s3_62 hS
  | 63, _ => exact s3_63 hS
  | 64, _ => exact s3_64 hS
  | 65, _ => exact s3_65 hS
  | 66, _ => exact s3_66 hS
  | 67, _ => exact s3_67 hS
  | 68, _ => exact s3_68 hS
  | 69, _ => exact s3_69 hS
  | 70, _ => exact s3_70 hS
  | 71, _ => exact s3_71 hS
  | 72, _ => exact s3_72 hS
  | 73, _ => exact s3_73 hS
  | 74, _ => exact s3_74 hS
  | 75, _ => exact s3_75 hS
  | 76, _ => exact s3_76 hS
  | 77, _ => exact s3_77 hS
  | 78, _ => exact s3_78 hS
  | 79, _ => exact s3_79 hS
  | i + 80, hi => omega
theorem after_lt : ((List.range 81).all fun i => match ops3[i]? with | some o => o.after.all (fun e => decide (e.on < i)) | none => true) = true := by kernel_rfl
theorem after_some : ((List.range 80).all fun j => (List.range 81).any fun i => decide (j < i) && (match ops3[i]? with | some o => o.after.toList.any (fun e => e.on == j && Region.binds .any e) | none => false)) = true := by kernel_rfl
theorem size3 : ops3.size = 81 := by kernel_rfl
theorem getD_false {listed : Array Bool} {i : Nat} (h : listed.getD i true = false) : listed.getD i false = false := by
  rw [Array.getD_eq_getD_getElem?] at h ⊢
  cases e : listed[i]? with
  | none => rfl
  | some b => rw [e] at h; exact h
theorem getD_tt {listed : Array Bool} {i : Nat} (hi : i < listed.size) (h : listed.getD i true ≠ false) : listed.getD i false = true := by
  rw [Array.getD_eq_getD_getElem?] at h ⊢
  rw [Array.getElem?_eq_getElem hi] at h ⊢
  simpa using h
/-- Where the last operation is not done, some operation may come up. -/
theorem some_ready {listed : Array Bool} (hls : listed.size = 81) (h80 : listed.getD 80 true = false) : Region.ready .any ops3 listed ≠ [] := by
  intro hr
  have all : ∀ i, i < 81 → listed.getD i false = true := by
    intro i
    induction i using Nat.strongRecOn with
    | _ i ih =>
      intro hi
      apply getD_tt (by omega)
      intro hf
      have hm : i ∈ Region.ready .any ops3 listed := by
        rw [mem_ready]
        have hlt : i < ops3.size := by rw [size3]; exact hi
        refine ⟨hf, ops3[i], Array.getElem?_eq_getElem hlt, fun e he hb => ih e.on ?_ ?_⟩
        · have h1 := List.all_eq_true.1 after_lt i (List.mem_range.2 hi)
          rw [Array.getElem?_eq_getElem hlt] at h1
          simp only [Array.all_eq_true_iff_forall_mem, decide_eq_true_eq] at h1
          exact h1 e he
        · have h1 := List.all_eq_true.1 after_lt i (List.mem_range.2 hi)
          rw [Array.getElem?_eq_getElem hlt] at h1
          simp only [Array.all_eq_true_iff_forall_mem, decide_eq_true_eq] at h1
          have := h1 e he
          omega
      rw [hr] at hm
      cases hm
  have h1 := all 80 (by omega)
  rw [getD_false h80] at h1
  cases h1
/-- As the last operation comes up, all others are done. -/
theorem all_done {listed : Array Bool} (hr : 80 ∈ Region.ready .any ops3 listed) (hclo : ∀ i o, listed.getD i false = true → ops3[i]? = some o → ∀ e ∈ o.after, Region.binds .any e = true → listed.getD e.on false = true) : ∀ d j, j < 80 → 80 - j ≤ d → listed.getD j false = true
  | 0, j, hj, hd => by omega
  | d + 1, j, hj, hd => by
    have h1 := List.all_eq_true.1 after_some j (List.mem_range.2 hj)
    obtain ⟨i, hi, h2⟩ := List.any_eq_true.1 h1
    have hi := List.mem_range.1 hi
    rw [Bool.and_eq_true, decide_eq_true_eq] at h2
    obtain ⟨hji, h3⟩ := h2
    have hlt : i < ops3.size := by rw [size3]; exact hi
    rw [Array.getElem?_eq_getElem hlt] at h3
    obtain ⟨e, he, h4⟩ := List.any_eq_true.1 h3
    have he : e ∈ ops3[i].after := by simpa using he
    rw [Bool.and_eq_true, beq_iff_eq] at h4
    rw [← h4.1]
    by_cases e80 : i = 80
    · subst e80
      exact before hr (Array.getElem?_eq_getElem hlt) he h4.2
    · exact hclo i _ (all_done hr hclo d i (by omega) (by omega)) (Array.getElem?_eq_getElem hlt) e he h4.2
theorem wpOp_call {P : Program} {ops : Array Oper} {Q : Exit → Act → World → Prop} {i : Nat} {o : Oper} {f : FuncId} {args : Array Value} {a : Act} {w : World} {K : Act → World → Prop} (ho : ops[i]? = some o) (hg : o.guard = none) (hr : (execOp a.eval o).run P w = .ok (.enter f args) w) (hc : Calls P f args w (fun e w' => ∃ v, e = .returned v ∧ K (a.put o.dst v) w')) : wpOp P ops Q i K a w := by
  have hw : Region.wanted o (yielded ops a.tmps) = true := by unfold Region.wanted; rw [hg]
  unfold wpOp
  simp only [ho, hw, if_true]
  refine .inl ?_
  unfold Oper.wp
  rw [hr]
  simp only [Oper.upon]
  refine Calls.mono hc ?_
  rintro e w' ⟨v, rfl, h⟩
  exact h
theorem region3 (hS : St3 cp sc v3 v4 v5 kid ca n cap W a0) (hsz0 : a0.tmps.size = 106) (Q : Exit → Act → World → Prop) (hcall : ∀ (a : Act) (w : World) (b : Nat) (ps : List Nat), a.tmps.size = 106 → a.defers = a0.defers → Below W.heap.size W w → W.heap.size ≤ b → ps.length = 19 → Nd b 84 (ps.map ptr).toArray w → (∀ m p : Nat, ps[m]? = some p → ∃ cs : Array Value, (boxes3 cp sc v3 v4 v5 kid ca n cap)[m]? = some (Value.tuple cs) ∧ W.heap.size ≤ p ∧ Nd p 87 cs w) →
    Calls Try.prog 33 #[ptr cp, .slice (some ⟨b, 0, none⟩) 19 19] w (fun e w' => ∃ v, e = .returned v ∧ Q .normal (a.put (some 105) v) w')) : wpAny Try.prog .any ops3 Q 81 (Array.replicate 81 false) a0 W := by
  refine wpAny_inv (fun listed a w => (listed.getD 80 true = false ∧ In3 cp sc v3 v4 v5 kid ca n cap W a0 listed a w) ∨ (listed.size = 81 ∧ (∀ i, i < 81 → listed.getD i false = true) ∧ Q .normal a w)) ?_ ?_ 81 _ a0 W (.inl ⟨by simp, hsz0, rfl, fun _ _ => rfl, Below.refl _ _, by simp, ?_, ?_⟩) (by unfold toDo; simp)
  · intro listed a w i hI hr
    have hi : i < 81 := by
      obtain ⟨_, o, ho, _⟩ := mem_ready.1 hr
      have := (Array.getElem?_eq_some_iff.1 ho).1
      rw [size3] at this
      exact this
    rcases hI with ⟨h80, hI⟩ | ⟨_, hall, _⟩
    · by_cases e : i = 80
      · subst e
        obtain ⟨hsz, hdf, hfx, hbw, hls, hclo, hgot⟩ := id hI
        have ho : ops3[80]? = some (Oper.mk _ _ _ _ _ _) := rfl
        have p25 : a.tmps[25]? = some (ptr cp) := hgot 0 (before hr ho (e := ⟨0, .data⟩) (by simp) rfl) _ rfl
        have sl : hold (boxes3 cp sc v3 v4 v5 kid ca n cap) (.chan none) 104 W.heap.size a w := hgot 79 (before hr ho (e := ⟨79, .data⟩) (by simp) rfl) _ rfl
        obtain ⟨b, ps, p104, g1, g2, g3, g4⟩ := sl
        refine wpOp_call ho rfl (f := 33) (args := #[ptr cp, .slice (some ⟨b, 0, none⟩) 19 19]) ?_ ((hcall a w b ps hsz hdf hbw g1 g2 g3 g4).mono ?_)
        · simp [execOp, go_sem, p25, p104]
        · rintro e w' ⟨v, rfl, hq⟩
          refine ⟨v, rfl, .inr ⟨by rw [Array.size_setIfInBounds]; exact hls, fun j hj => ?_, hq⟩⟩
          by_cases ej : j = 80
          · subst ej
            rw [Array.getD_eq_getD_getElem?, Array.getElem?_setIfInBounds_self_of_lt (by omega)]; rfl
          · exact getD_set_true (all_done hr hclo 80 j (by omega) (by omega))
      · exact wpOp_mono (fun a' w' h => .inl ⟨by rw [getD_set_ne true e]; exact h80, h⟩) (s3_all hS i (by omega) Q listed a w hI hr)
    · have h1 := getD_false (mem_ready.1 hr).1
      rw [hall i hi] at h1
      cases h1
  · intro listed a w hI hr
    rcases hI with ⟨h80, hI⟩ | ⟨_, _, hq⟩
    · exact absurd hr (some_ready hI.2.2.2.2.1 h80)
    · exact hq
  · intro i o h
    exfalso
    rw [Array.getD_eq_getD_getElem?] at h
    by_cases hi : i < 81
    · simp [hi] at h
    · simp [hi] at h
  · intro j h
    exfalso
    rw [Array.getD_eq_getD_getElem?] at h
    by_cases hi : j < 81
    · simp [hi] at h
    · simp [hi] at h
end
end Go.Proofs.Ytdjlkehdjlaojaa
