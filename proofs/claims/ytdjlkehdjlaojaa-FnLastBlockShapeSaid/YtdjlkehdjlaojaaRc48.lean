/- The drawn regions of lazy, appendBuiltin and lazy's closure (printed by wip/tools/gen_ch48.py). -/
import Derived.Test.YtdjlkehdjlaojaaR348
import Derived.Test.YtdjlkehdjlaojaaCh48
namespace Go.Proofs.Ytdjlkehdjlaojaa
open Go.RowKit
set_option linter.unusedVariables false
set_option linter.unusedSimpArgs false

theorem eval_tmp {a : Act} {t : Tmp} {v : Value} (h : a.tmps[t]? = some v) : a.eval (.tmp t) = v := by
  show a.tmps.getD t undef = v
  rw [Array.getD_eq_getD_getElem?, h]; rfl
noncomputable def ops35 : Array Oper := match Try.f35.body with
  | some (.seq _ (.seq _ (.seq (.region _ ops _) _))) => ops
  | _ => #[]
theorem size35 : ops35.size = 10 := by kernel_rfl
theorem back35 : edgesBack ops35 10 = true := by kernel_rfl
def tab35 (bx cp : Nat) (ca : Option Addr) (n cap : Nat) (va : Option Addr) (vn vc : Nat) (W w2 : World) : List Value := [.pointer (some ⟨cp, 0, none⟩), .pointer (some ⟨cp, 0, none⟩), .pointer (some ⟨cp, 0, none⟩), .pointer (some ⟨cp, 5, none⟩), .slice ca n cap, .slice (some ⟨W.heap.size, 0, none⟩) 1 1, .slice va vn vc, .pointer (some ⟨cp, 0, none⟩), .pointer (some ⟨cp, 5, none⟩)]
def ws35 (bx cp : Nat) (ca : Option Addr) (n cap : Nat) (va : Option Addr) (vn vc : Nat) (W w2 : World) : Nat → World
  | 0 => W
  | 1 => W.alloc (.cells #[.pointer none] 84)
  | 2 => w2
  | _ => w2.setCell ⟨cp, 5, none⟩ (.slice va vn vc)
section
variable {bx cp : Nat} {ca : Option Addr} {n cap : Nat} {va : Option Addr} {vn vc : Nat} {W w2 : World} {a0 : Act}
theorem s35_0 (h2 : a0.tmps[2]? = some (ptr bx)) (hF : ∀ s, s < 3 → (ws35 bx cp ca n cap va vn vc W w2 s).cell? ⟨bx, 0, none⟩ = some (ptr cp) ∧ (ws35 bx cp ca n cap va vn vc W w2 s).cell? ⟨cp, 5, none⟩ = some (.slice ca n cap)) (hap : ∀ ty, (Builtin.append_ #[57, 57] ty #[.slice ca n cap, .slice (some ⟨W.heap.size, 0, none⟩) 1 1]).run Try.prog (W.alloc (.cells #[.pointer none] 84)) = .ok (.slice va vn vc) w2) (hfr : w2.frozen? ⟨cp, 5, none⟩ = false) : StepC Try.prog ops35 11 10 21 (tab35 bx cp ca n cap va vn vc W w2) [5, 6, 9] (ws35 bx cp ca n cap va vn vc W w2) a0 0 := by
  intro Q listed a w hI hr
  have ho : ops35[0]? = some (Oper.mk _ _ _ _ _ _) := rfl
  obtain ⟨hsz, hdf, hfx, hls, _, hgot, hclo⟩ := id hI
  have p2 : a.tmps[2]? = some (.pointer (some ⟨bx, 0, none⟩)) := (hfx 2 (by omega)).trans h2
  have hoz : ops35[9]? = some (Oper.mk _ _ _ _ _ _) := rfl
  obtain ⟨s, hw, hs⟩ := inC_ahead hI hr (t := 2) (z := 9) rfl hoz (e := ⟨0, .phase⟩) (by simp) rfl rfl
  have c0 := (hF s (by omega)).1
  rw [← hw] at c0
  refine wpOp_val ho rfl (v := .pointer (some ⟨cp, 0, none⟩)) (w' := w) ?_ (inC_val hI hr (by omega) (by omega) (by decide) rfl)
  simp [execOp, go_sem, p2, c0, ptr]
theorem s35_1 (h2 : a0.tmps[2]? = some (ptr bx)) (hF : ∀ s, s < 3 → (ws35 bx cp ca n cap va vn vc W w2 s).cell? ⟨bx, 0, none⟩ = some (ptr cp) ∧ (ws35 bx cp ca n cap va vn vc W w2 s).cell? ⟨cp, 5, none⟩ = some (.slice ca n cap)) (hap : ∀ ty, (Builtin.append_ #[57, 57] ty #[.slice ca n cap, .slice (some ⟨W.heap.size, 0, none⟩) 1 1]).run Try.prog (W.alloc (.cells #[.pointer none] 84)) = .ok (.slice va vn vc) w2) (hfr : w2.frozen? ⟨cp, 5, none⟩ = false) : StepC Try.prog ops35 11 10 21 (tab35 bx cp ca n cap va vn vc W w2) [5, 6, 9] (ws35 bx cp ca n cap va vn vc W w2) a0 1 := by
  intro Q listed a w hI hr
  have ho : ops35[1]? = some (Oper.mk _ _ _ _ _ _) := rfl
  obtain ⟨hsz, hdf, hfx, hls, _, hgot, hclo⟩ := id hI
  have p2 : a.tmps[2]? = some (.pointer (some ⟨bx, 0, none⟩)) := (hfx 2 (by omega)).trans h2
  have hoz : ops35[9]? = some (Oper.mk _ _ _ _ _ _) := rfl
  obtain ⟨s, hw, hs⟩ := inC_ahead hI hr (t := 2) (z := 9) rfl hoz (e := ⟨1, .phase⟩) (by simp) rfl rfl
  have c0 := (hF s (by omega)).1
  rw [← hw] at c0
  refine wpOp_val ho rfl (v := .pointer (some ⟨cp, 0, none⟩)) (w' := w) ?_ (inC_val hI hr (by omega) (by omega) (by decide) rfl)
  simp [execOp, go_sem, p2, c0, ptr]
theorem s35_2 (h2 : a0.tmps[2]? = some (ptr bx)) (hF : ∀ s, s < 3 → (ws35 bx cp ca n cap va vn vc W w2 s).cell? ⟨bx, 0, none⟩ = some (ptr cp) ∧ (ws35 bx cp ca n cap va vn vc W w2 s).cell? ⟨cp, 5, none⟩ = some (.slice ca n cap)) (hap : ∀ ty, (Builtin.append_ #[57, 57] ty #[.slice ca n cap, .slice (some ⟨W.heap.size, 0, none⟩) 1 1]).run Try.prog (W.alloc (.cells #[.pointer none] 84)) = .ok (.slice va vn vc) w2) (hfr : w2.frozen? ⟨cp, 5, none⟩ = false) : StepC Try.prog ops35 11 10 21 (tab35 bx cp ca n cap va vn vc W w2) [5, 6, 9] (ws35 bx cp ca n cap va vn vc W w2) a0 2 := by
  intro Q listed a w hI hr
  have ho : ops35[2]? = some (Oper.mk _ _ _ _ _ _) := rfl
  obtain ⟨hsz, hdf, hfx, hls, _, hgot, hclo⟩ := id hI
  have p12 : a.tmps[12]? = some (.pointer (some ⟨cp, 0, none⟩)) := hgot 1 _ (before hr ho (e := ⟨1, .data⟩) (by simp) rfl) rfl
  refine wpOp_val ho rfl (v := .pointer (some ⟨cp, 0, none⟩)) (w' := w) ?_ (inC_val hI hr (by omega) (by omega) (by decide) rfl)
  simp [execOp, go_sem, p12, ptr]
theorem s35_3 (h2 : a0.tmps[2]? = some (ptr bx)) (hF : ∀ s, s < 3 → (ws35 bx cp ca n cap va vn vc W w2 s).cell? ⟨bx, 0, none⟩ = some (ptr cp) ∧ (ws35 bx cp ca n cap va vn vc W w2 s).cell? ⟨cp, 5, none⟩ = some (.slice ca n cap)) (hap : ∀ ty, (Builtin.append_ #[57, 57] ty #[.slice ca n cap, .slice (some ⟨W.heap.size, 0, none⟩) 1 1]).run Try.prog (W.alloc (.cells #[.pointer none] 84)) = .ok (.slice va vn vc) w2) (hfr : w2.frozen? ⟨cp, 5, none⟩ = false) : StepC Try.prog ops35 11 10 21 (tab35 bx cp ca n cap va vn vc W w2) [5, 6, 9] (ws35 bx cp ca n cap va vn vc W w2) a0 3 := by
  intro Q listed a w hI hr
  have ho : ops35[3]? = some (Oper.mk _ _ _ _ _ _) := rfl
  obtain ⟨hsz, hdf, hfx, hls, _, hgot, hclo⟩ := id hI
  have p13 : a.tmps[13]? = some (.pointer (some ⟨cp, 0, none⟩)) := hgot 2 _ (before hr ho (e := ⟨2, .data⟩) (by simp) rfl) rfl
  refine wpOp_val ho rfl (v := .pointer (some ⟨cp, 5, none⟩)) (w' := w) ?_ (inC_val hI hr (by omega) (by omega) (by decide) rfl)
  simp [execOp, go_sem, p13, ptr]
theorem s35_4 (h2 : a0.tmps[2]? = some (ptr bx)) (hF : ∀ s, s < 3 → (ws35 bx cp ca n cap va vn vc W w2 s).cell? ⟨bx, 0, none⟩ = some (ptr cp) ∧ (ws35 bx cp ca n cap va vn vc W w2 s).cell? ⟨cp, 5, none⟩ = some (.slice ca n cap)) (hap : ∀ ty, (Builtin.append_ #[57, 57] ty #[.slice ca n cap, .slice (some ⟨W.heap.size, 0, none⟩) 1 1]).run Try.prog (W.alloc (.cells #[.pointer none] 84)) = .ok (.slice va vn vc) w2) (hfr : w2.frozen? ⟨cp, 5, none⟩ = false) : StepC Try.prog ops35 11 10 21 (tab35 bx cp ca n cap va vn vc W w2) [5, 6, 9] (ws35 bx cp ca n cap va vn vc W w2) a0 4 := by
  intro Q listed a w hI hr
  have ho : ops35[4]? = some (Oper.mk _ _ _ _ _ _) := rfl
  obtain ⟨hsz, hdf, hfx, hls, _, hgot, hclo⟩ := id hI
  have p14 : a.tmps[14]? = some (.pointer (some ⟨cp, 5, none⟩)) := hgot 3 _ (before hr ho (e := ⟨3, .data⟩) (by simp) rfl) rfl
  have hoz : ops35[9]? = some (Oper.mk _ _ _ _ _ _) := rfl
  obtain ⟨s, hw, hs⟩ := inC_ahead hI hr (t := 2) (z := 9) rfl hoz (e := ⟨4, .phase⟩) (by simp) rfl rfl
  have c0 := (hF s (by omega)).2
  rw [← hw] at c0
  refine wpOp_val ho rfl (v := .slice ca n cap) (w' := w) ?_ (inC_val hI hr (by omega) (by omega) (by decide) rfl)
  simp [execOp, go_sem, p14, c0, ptr]
theorem s35_5 (h2 : a0.tmps[2]? = some (ptr bx)) (hF : ∀ s, s < 3 → (ws35 bx cp ca n cap va vn vc W w2 s).cell? ⟨bx, 0, none⟩ = some (ptr cp) ∧ (ws35 bx cp ca n cap va vn vc W w2 s).cell? ⟨cp, 5, none⟩ = some (.slice ca n cap)) (hap : ∀ ty, (Builtin.append_ #[57, 57] ty #[.slice ca n cap, .slice (some ⟨W.heap.size, 0, none⟩) 1 1]).run Try.prog (W.alloc (.cells #[.pointer none] 84)) = .ok (.slice va vn vc) w2) (hfr : w2.frozen? ⟨cp, 5, none⟩ = false) : StepC Try.prog ops35 11 10 21 (tab35 bx cp ca n cap va vn vc W w2) [5, 6, 9] (ws35 bx cp ca n cap va vn vc W w2) a0 5 := by
  intro Q listed a w hI hr
  have ho : ops35[5]? = some (Oper.mk _ _ _ _ _ _) := rfl
  obtain ⟨hsz, hdf, hfx, hls, _, hgot, hclo⟩ := id hI
  have hp : ∀ u j, 0 = u + 1 → ([5, 6, 9] : List Nat)[u]? = some j → listed.getD j false = true := (fun u j h _ => by omega)
  have hw : w = ws35 bx cp ca n cap va vn vc W w2 0 := inC_at hI hr (t := 0) rfl hp
  rw [hw] at hI ⊢
  refine wpOp_val ho rfl (v := .slice (some ⟨W.heap.size, 0, none⟩) 1 1) (w' := ws35 bx cp ca n cap va vn vc W w2 1) ?_ (inC_put hI hr (by omega) (by omega) (t := 0) rfl hp (by decide) rfl)
  simp [execOp, go_sem, ws35]
theorem s35_6 (h2 : a0.tmps[2]? = some (ptr bx)) (hF : ∀ s, s < 3 → (ws35 bx cp ca n cap va vn vc W w2 s).cell? ⟨bx, 0, none⟩ = some (ptr cp) ∧ (ws35 bx cp ca n cap va vn vc W w2 s).cell? ⟨cp, 5, none⟩ = some (.slice ca n cap)) (hap : ∀ ty, (Builtin.append_ #[57, 57] ty #[.slice ca n cap, .slice (some ⟨W.heap.size, 0, none⟩) 1 1]).run Try.prog (W.alloc (.cells #[.pointer none] 84)) = .ok (.slice va vn vc) w2) (hfr : w2.frozen? ⟨cp, 5, none⟩ = false) : StepC Try.prog ops35 11 10 21 (tab35 bx cp ca n cap va vn vc W w2) [5, 6, 9] (ws35 bx cp ca n cap va vn vc W w2) a0 6 := by
  intro Q listed a w hI hr
  have ho : ops35[6]? = some (Oper.mk _ _ _ _ _ _) := rfl
  obtain ⟨hsz, hdf, hfx, hls, _, hgot, hclo⟩ := id hI
  have p15 : a.tmps[15]? = some (.slice ca n cap) := hgot 4 _ (before hr ho (e := ⟨4, .data⟩) (by simp) rfl) rfl
  have p16 : a.tmps[16]? = some (.slice (some ⟨W.heap.size, 0, none⟩) 1 1) := hgot 5 _ (before hr ho (e := ⟨5, .data⟩) (by simp) rfl) rfl
  have hp : ∀ u j, 1 = u + 1 → ([5, 6, 9] : List Nat)[u]? = some j → listed.getD j false = true := (fun u j h hj => by have hu : u = 0 := (by omega); subst hu; cases hj; exact before hr ho (e := ⟨5, .data⟩) (by simp) rfl)
  have hw : w = ws35 bx cp ca n cap va vn vc W w2 1 := inC_at hI hr (t := 1) rfl hp
  rw [hw] at hI ⊢
  have e15 := eval_tmp p15
  have e16 := eval_tmp p16
  refine wpOp_val ho rfl (v := .slice va vn vc) (w' := ws35 bx cp ca n cap va vn vc W w2 2) ?_ (inC_put hI hr (by omega) (by omega) (t := 1) rfl hp (by decide) rfl)
  simp [execOp, resolve, invoke, builtin, e15, e16, ws35, hap, Result.andThen]
theorem s35_7 (h2 : a0.tmps[2]? = some (ptr bx)) (hF : ∀ s, s < 3 → (ws35 bx cp ca n cap va vn vc W w2 s).cell? ⟨bx, 0, none⟩ = some (ptr cp) ∧ (ws35 bx cp ca n cap va vn vc W w2 s).cell? ⟨cp, 5, none⟩ = some (.slice ca n cap)) (hap : ∀ ty, (Builtin.append_ #[57, 57] ty #[.slice ca n cap, .slice (some ⟨W.heap.size, 0, none⟩) 1 1]).run Try.prog (W.alloc (.cells #[.pointer none] 84)) = .ok (.slice va vn vc) w2) (hfr : w2.frozen? ⟨cp, 5, none⟩ = false) : StepC Try.prog ops35 11 10 21 (tab35 bx cp ca n cap va vn vc W w2) [5, 6, 9] (ws35 bx cp ca n cap va vn vc W w2) a0 7 := by
  intro Q listed a w hI hr
  have ho : ops35[7]? = some (Oper.mk _ _ _ _ _ _) := rfl
  obtain ⟨hsz, hdf, hfx, hls, _, hgot, hclo⟩ := id hI
  have p11 : a.tmps[11]? = some (.pointer (some ⟨cp, 0, none⟩)) := hgot 0 _ (before hr ho (e := ⟨0, .data⟩) (by simp) rfl) rfl
  refine wpOp_val ho rfl (v := .pointer (some ⟨cp, 0, none⟩)) (w' := w) ?_ (inC_val hI hr (by omega) (by omega) (by decide) rfl)
  simp [execOp, go_sem, p11, ptr]
theorem s35_8 (h2 : a0.tmps[2]? = some (ptr bx)) (hF : ∀ s, s < 3 → (ws35 bx cp ca n cap va vn vc W w2 s).cell? ⟨bx, 0, none⟩ = some (ptr cp) ∧ (ws35 bx cp ca n cap va vn vc W w2 s).cell? ⟨cp, 5, none⟩ = some (.slice ca n cap)) (hap : ∀ ty, (Builtin.append_ #[57, 57] ty #[.slice ca n cap, .slice (some ⟨W.heap.size, 0, none⟩) 1 1]).run Try.prog (W.alloc (.cells #[.pointer none] 84)) = .ok (.slice va vn vc) w2) (hfr : w2.frozen? ⟨cp, 5, none⟩ = false) : StepC Try.prog ops35 11 10 21 (tab35 bx cp ca n cap va vn vc W w2) [5, 6, 9] (ws35 bx cp ca n cap va vn vc W w2) a0 8 := by
  intro Q listed a w hI hr
  have ho : ops35[8]? = some (Oper.mk _ _ _ _ _ _) := rfl
  obtain ⟨hsz, hdf, hfx, hls, _, hgot, hclo⟩ := id hI
  have p18 : a.tmps[18]? = some (.pointer (some ⟨cp, 0, none⟩)) := hgot 7 _ (before hr ho (e := ⟨7, .data⟩) (by simp) rfl) rfl
  refine wpOp_val ho rfl (v := .pointer (some ⟨cp, 5, none⟩)) (w' := w) ?_ (inC_val hI hr (by omega) (by omega) (by decide) rfl)
  simp [execOp, go_sem, p18, ptr]
theorem s35_9 (h2 : a0.tmps[2]? = some (ptr bx)) (hF : ∀ s, s < 3 → (ws35 bx cp ca n cap va vn vc W w2 s).cell? ⟨bx, 0, none⟩ = some (ptr cp) ∧ (ws35 bx cp ca n cap va vn vc W w2 s).cell? ⟨cp, 5, none⟩ = some (.slice ca n cap)) (hap : ∀ ty, (Builtin.append_ #[57, 57] ty #[.slice ca n cap, .slice (some ⟨W.heap.size, 0, none⟩) 1 1]).run Try.prog (W.alloc (.cells #[.pointer none] 84)) = .ok (.slice va vn vc) w2) (hfr : w2.frozen? ⟨cp, 5, none⟩ = false) : StepC Try.prog ops35 11 10 21 (tab35 bx cp ca n cap va vn vc W w2) [5, 6, 9] (ws35 bx cp ca n cap va vn vc W w2) a0 9 := by
  intro Q listed a w hI hr
  have ho : ops35[9]? = some (Oper.mk _ _ _ _ _ _) := rfl
  obtain ⟨hsz, hdf, hfx, hls, _, hgot, hclo⟩ := id hI
  have p19 : a.tmps[19]? = some (.pointer (some ⟨cp, 5, none⟩)) := hgot 8 _ (before hr ho (e := ⟨8, .data⟩) (by simp) rfl) rfl
  have p17 : a.tmps[17]? = some (.slice va vn vc) := hgot 6 _ (before hr ho (e := ⟨6, .data⟩) (by simp) rfl) rfl
  have hp : ∀ u j, 2 = u + 1 → ([5, 6, 9] : List Nat)[u]? = some j → listed.getD j false = true := (fun u j h hj => by have hu : u = 1 := (by omega); subst hu; cases hj; exact before hr ho (e := ⟨6, .data⟩) (by simp) rfl)
  have hw : w = ws35 bx cp ca n cap va vn vc W w2 2 := inC_at hI hr (t := 2) rfl hp
  rw [hw] at hI ⊢
  have c0 := (hF 2 (by omega)).2
  simp only [ws35] at c0
  refine wpOp_skip ho rfl (w' := ws35 bx cp ca n cap va vn vc W w2 3) ?_ (inC_none hI hr (by omega) (t := 2) rfl hp (by decide) rfl)
  simp [execOp, go_sem, ws35, c0, hfr, p19, p17]
theorem s35_all (h2 : a0.tmps[2]? = some (ptr bx)) (hF : ∀ s, s < 3 → (ws35 bx cp ca n cap va vn vc W w2 s).cell? ⟨bx, 0, none⟩ = some (ptr cp) ∧ (ws35 bx cp ca n cap va vn vc W w2 s).cell? ⟨cp, 5, none⟩ = some (.slice ca n cap)) (hap : ∀ ty, (Builtin.append_ #[57, 57] ty #[.slice ca n cap, .slice (some ⟨W.heap.size, 0, none⟩) 1 1]).run Try.prog (W.alloc (.cells #[.pointer none] 84)) = .ok (.slice va vn vc) w2) (hfr : w2.frozen? ⟨cp, 5, none⟩ = false) : ∀ i, i < 10 → StepC Try.prog ops35 11 10 21 (tab35 bx cp ca n cap va vn vc W w2) [5, 6, 9] (ws35 bx cp ca n cap va vn vc W w2) a0 i := by
  intro i hi0
  match i, hi0 with
  | 0, _ => exact s35_0 h2 hF hap hfr
  | 1, _ => exact s35_1 h2 hF hap hfr
  | 2, _ => exact s35_2 h2 hF hap hfr
  | 3, _ => exact s35_3 h2 hF hap hfr
  | 4, _ => exact s35_4 h2 hF hap hfr
  | 5, _ => exact s35_5 h2 hF hap hfr
  | 6, _ => exact s35_6 h2 hF hap hfr
  | 7, _ => exact s35_7 h2 hF hap hfr
  | 8, _ => exact s35_8 h2 hF hap hfr
  | 9, _ => exact s35_9 h2 hF hap hfr
  | i + 10, hi => omega
theorem region35 (hn0 : a0.tmps.size = 21) (h2 : a0.tmps[2]? = some (ptr bx)) (hF : ∀ s, s < 3 → (ws35 bx cp ca n cap va vn vc W w2 s).cell? ⟨bx, 0, none⟩ = some (ptr cp) ∧ (ws35 bx cp ca n cap va vn vc W w2 s).cell? ⟨cp, 5, none⟩ = some (.slice ca n cap)) (hap : ∀ ty, (Builtin.append_ #[57, 57] ty #[.slice ca n cap, .slice (some ⟨W.heap.size, 0, none⟩) 1 1]).run Try.prog (W.alloc (.cells #[.pointer none] 84)) = .ok (.slice va vn vc) w2) (hfr : w2.frozen? ⟨cp, 5, none⟩ = false) (Q : Exit → Act → World → Prop) (hend : ∀ a : Act, a.tmps.size = 21 → a.defers = a0.defers → (∀ s, s < 11 → a.tmps[s]? = a0.tmps[s]?) → Q .normal a (w2.setCell ⟨cp, 5, none⟩ (.slice va vn vc))) : wpAny Try.prog .any ops35 Q 10 (Array.replicate 10 false) a0 W :=
  regionC (Ws := ws35 bx cp ca n cap va vn vc W w2) (c := [5, 6, 9]) size35 back35 (by decide) (s35_all h2 hF hap hfr) hn0 Q hend
end
noncomputable def ops31 : Array Oper := match Try.f31.body with
  | some (.seq _ (.seq _ (.seq _ (.seq (.region _ ops _) _)))) => ops
  | _ => #[]
theorem size31 : ops31.size = 25 := by kernel_rfl
theorem back31 : edgesBack ops31 25 = true := by kernel_rfl
def tab31 (bx nx cp bs : Nat) (nm : ByteArray) (ac : Int) (ca : Option Addr) (n cap : Nat) (fa : Option Addr) (fn fc : Nat) (va : Option Addr) (vn vc : Nat) (W w2 : World) : List Value := [.pointer (some ⟨cp, 0, none⟩), .pointer (some ⟨cp, 0, none⟩), .pointer (some ⟨cp, 7, none⟩), .pointer (some ⟨bs, 0, none⟩), .pointer (some ⟨cp, 0, none⟩), .pointer (some ⟨cp, 0, none⟩), .pointer (some ⟨cp, 7, none⟩), .pointer (some ⟨bs, 0, none⟩), .pointer (some ⟨bs, 0, none⟩), .pointer (some ⟨bs, 1, none⟩), .slice fa fn fc, .string nm, .pointer (some ⟨cp, 0, none⟩), .pointer (some ⟨cp, 0, none⟩), .pointer (some ⟨cp, 5, none⟩), .slice ca n cap, .int .i64 n, .int .i64 ac, .agg #[.string nm, .int .i64 n, .int .i64 ac], .pointer (some ⟨W.heap.size, 0, none⟩), .slice (some ⟨W.heap.size + 1, 0, none⟩) 1 1, .slice va vn vc, .pointer (some ⟨bs, 0, none⟩), .pointer (some ⟨bs, 1, none⟩)]
def ws31 (bx nx cp bs : Nat) (nm : ByteArray) (ac : Int) (ca : Option Addr) (n cap : Nat) (fa : Option Addr) (fn fc : Nat) (va : Option Addr) (vn vc : Nat) (W w2 : World) : Nat → World
  | 0 => W
  | 1 => W.alloc (.cells #[.string nm, .int .i64 n, .int .i64 ac] 91)
  | 2 => (W.alloc (.cells #[.string nm, .int .i64 n, .int .i64 ac] 91)).alloc (.cells #[ptr W.heap.size] 29)
  | 3 => w2
  | _ => w2.setCell ⟨bs, 1, none⟩ (.slice va vn vc)
section
variable {bx nx cp bs : Nat} {nm : ByteArray} {ac : Int} {ca : Option Addr} {n cap : Nat} {fa : Option Addr} {fn fc : Nat} {va : Option Addr} {vn vc : Nat} {W w2 : World} {a0 : Act}
theorem s31_0 (h2 : a0.tmps[2]? = some (.int .i64 ac)) (h3 : a0.tmps[3]? = some (ptr bx)) (h4 : a0.tmps[4]? = some (ptr nx)) (hF : ∀ s, s < 4 → (ws31 bx nx cp bs nm ac ca n cap fa fn fc va vn vc W w2 s).cell? ⟨bx, 0, none⟩ = some (ptr cp) ∧ (ws31 bx nx cp bs nm ac ca n cap fa fn fc va vn vc W w2 s).cell? ⟨nx, 0, none⟩ = some (.string nm) ∧ (ws31 bx nx cp bs nm ac ca n cap fa fn fc va vn vc W w2 s).cell? ⟨cp, 5, none⟩ = some (.slice ca n cap) ∧ (ws31 bx nx cp bs nm ac ca n cap fa fn fc va vn vc W w2 s).cell? ⟨cp, 7, none⟩ = some (ptr bs) ∧ (ws31 bx nx cp bs nm ac ca n cap fa fn fc va vn vc W w2 s).cell? ⟨bs, 1, none⟩ = some (.slice fa fn fc)) (hap : ∀ ty, (Builtin.append_ #[48, 48] ty #[.slice fa fn fc, .slice (some ⟨W.heap.size + 1, 0, none⟩) 1 1]).run Try.prog ((W.alloc (.cells #[.string nm, .int .i64 n, .int .i64 ac] 91)).alloc (.cells #[ptr W.heap.size] 29)) = .ok (.slice va vn vc) w2) (hfr : w2.frozen? ⟨bs, 1, none⟩ = false) : StepC Try.prog ops31 15 25 40 (tab31 bx nx cp bs nm ac ca n cap fa fn fc va vn vc W w2) [19, 20, 21, 24] (ws31 bx nx cp bs nm ac ca n cap fa fn fc va vn vc W w2) a0 0 := by
  intro Q listed a w hI hr
  have ho : ops31[0]? = some (Oper.mk _ _ _ _ _ _) := rfl
  obtain ⟨hsz, hdf, hfx, hls, _, hgot, hclo⟩ := id hI
  have p3 : a.tmps[3]? = some (.pointer (some ⟨bx, 0, none⟩)) := (hfx 3 (by omega)).trans h3
  have hoz : ops31[24]? = some (Oper.mk _ _ _ _ _ _) := rfl
  obtain ⟨s, hw, hs⟩ := inC_ahead hI hr (t := 3) (z := 24) rfl hoz (e := ⟨0, .phase⟩) (by simp) rfl rfl
  have c0 := (hF s (by omega)).1
  rw [← hw] at c0
  refine wpOp_val ho rfl (v := .pointer (some ⟨cp, 0, none⟩)) (w' := w) ?_ (inC_val hI hr (by omega) (by omega) (by decide) rfl)
  simp [execOp, go_sem, p3, c0, ptr]
theorem s31_1 (h2 : a0.tmps[2]? = some (.int .i64 ac)) (h3 : a0.tmps[3]? = some (ptr bx)) (h4 : a0.tmps[4]? = some (ptr nx)) (hF : ∀ s, s < 4 → (ws31 bx nx cp bs nm ac ca n cap fa fn fc va vn vc W w2 s).cell? ⟨bx, 0, none⟩ = some (ptr cp) ∧ (ws31 bx nx cp bs nm ac ca n cap fa fn fc va vn vc W w2 s).cell? ⟨nx, 0, none⟩ = some (.string nm) ∧ (ws31 bx nx cp bs nm ac ca n cap fa fn fc va vn vc W w2 s).cell? ⟨cp, 5, none⟩ = some (.slice ca n cap) ∧ (ws31 bx nx cp bs nm ac ca n cap fa fn fc va vn vc W w2 s).cell? ⟨cp, 7, none⟩ = some (ptr bs) ∧ (ws31 bx nx cp bs nm ac ca n cap fa fn fc va vn vc W w2 s).cell? ⟨bs, 1, none⟩ = some (.slice fa fn fc)) (hap : ∀ ty, (Builtin.append_ #[48, 48] ty #[.slice fa fn fc, .slice (some ⟨W.heap.size + 1, 0, none⟩) 1 1]).run Try.prog ((W.alloc (.cells #[.string nm, .int .i64 n, .int .i64 ac] 91)).alloc (.cells #[ptr W.heap.size] 29)) = .ok (.slice va vn vc) w2) (hfr : w2.frozen? ⟨bs, 1, none⟩ = false) : StepC Try.prog ops31 15 25 40 (tab31 bx nx cp bs nm ac ca n cap fa fn fc va vn vc W w2) [19, 20, 21, 24] (ws31 bx nx cp bs nm ac ca n cap fa fn fc va vn vc W w2) a0 1 := by
  intro Q listed a w hI hr
  have ho : ops31[1]? = some (Oper.mk _ _ _ _ _ _) := rfl
  obtain ⟨hsz, hdf, hfx, hls, _, hgot, hclo⟩ := id hI
  have p15 : a.tmps[15]? = some (.pointer (some ⟨cp, 0, none⟩)) := hgot 0 _ (before hr ho (e := ⟨0, .data⟩) (by simp) rfl) rfl
  refine wpOp_val ho rfl (v := .pointer (some ⟨cp, 0, none⟩)) (w' := w) ?_ (inC_val hI hr (by omega) (by omega) (by decide) rfl)
  simp [execOp, go_sem, p15, ptr]
theorem s31_2 (h2 : a0.tmps[2]? = some (.int .i64 ac)) (h3 : a0.tmps[3]? = some (ptr bx)) (h4 : a0.tmps[4]? = some (ptr nx)) (hF : ∀ s, s < 4 → (ws31 bx nx cp bs nm ac ca n cap fa fn fc va vn vc W w2 s).cell? ⟨bx, 0, none⟩ = some (ptr cp) ∧ (ws31 bx nx cp bs nm ac ca n cap fa fn fc va vn vc W w2 s).cell? ⟨nx, 0, none⟩ = some (.string nm) ∧ (ws31 bx nx cp bs nm ac ca n cap fa fn fc va vn vc W w2 s).cell? ⟨cp, 5, none⟩ = some (.slice ca n cap) ∧ (ws31 bx nx cp bs nm ac ca n cap fa fn fc va vn vc W w2 s).cell? ⟨cp, 7, none⟩ = some (ptr bs) ∧ (ws31 bx nx cp bs nm ac ca n cap fa fn fc va vn vc W w2 s).cell? ⟨bs, 1, none⟩ = some (.slice fa fn fc)) (hap : ∀ ty, (Builtin.append_ #[48, 48] ty #[.slice fa fn fc, .slice (some ⟨W.heap.size + 1, 0, none⟩) 1 1]).run Try.prog ((W.alloc (.cells #[.string nm, .int .i64 n, .int .i64 ac] 91)).alloc (.cells #[ptr W.heap.size] 29)) = .ok (.slice va vn vc) w2) (hfr : w2.frozen? ⟨bs, 1, none⟩ = false) : StepC Try.prog ops31 15 25 40 (tab31 bx nx cp bs nm ac ca n cap fa fn fc va vn vc W w2) [19, 20, 21, 24] (ws31 bx nx cp bs nm ac ca n cap fa fn fc va vn vc W w2) a0 2 := by
  intro Q listed a w hI hr
  have ho : ops31[2]? = some (Oper.mk _ _ _ _ _ _) := rfl
  obtain ⟨hsz, hdf, hfx, hls, _, hgot, hclo⟩ := id hI
  have p16 : a.tmps[16]? = some (.pointer (some ⟨cp, 0, none⟩)) := hgot 1 _ (before hr ho (e := ⟨1, .data⟩) (by simp) rfl) rfl
  refine wpOp_val ho rfl (v := .pointer (some ⟨cp, 7, none⟩)) (w' := w) ?_ (inC_val hI hr (by omega) (by omega) (by decide) rfl)
  simp [execOp, go_sem, p16, ptr]
theorem s31_3 (h2 : a0.tmps[2]? = some (.int .i64 ac)) (h3 : a0.tmps[3]? = some (ptr bx)) (h4 : a0.tmps[4]? = some (ptr nx)) (hF : ∀ s, s < 4 → (ws31 bx nx cp bs nm ac ca n cap fa fn fc va vn vc W w2 s).cell? ⟨bx, 0, none⟩ = some (ptr cp) ∧ (ws31 bx nx cp bs nm ac ca n cap fa fn fc va vn vc W w2 s).cell? ⟨nx, 0, none⟩ = some (.string nm) ∧ (ws31 bx nx cp bs nm ac ca n cap fa fn fc va vn vc W w2 s).cell? ⟨cp, 5, none⟩ = some (.slice ca n cap) ∧ (ws31 bx nx cp bs nm ac ca n cap fa fn fc va vn vc W w2 s).cell? ⟨cp, 7, none⟩ = some (ptr bs) ∧ (ws31 bx nx cp bs nm ac ca n cap fa fn fc va vn vc W w2 s).cell? ⟨bs, 1, none⟩ = some (.slice fa fn fc)) (hap : ∀ ty, (Builtin.append_ #[48, 48] ty #[.slice fa fn fc, .slice (some ⟨W.heap.size + 1, 0, none⟩) 1 1]).run Try.prog ((W.alloc (.cells #[.string nm, .int .i64 n, .int .i64 ac] 91)).alloc (.cells #[ptr W.heap.size] 29)) = .ok (.slice va vn vc) w2) (hfr : w2.frozen? ⟨bs, 1, none⟩ = false) : StepC Try.prog ops31 15 25 40 (tab31 bx nx cp bs nm ac ca n cap fa fn fc va vn vc W w2) [19, 20, 21, 24] (ws31 bx nx cp bs nm ac ca n cap fa fn fc va vn vc W w2) a0 3 := by
  intro Q listed a w hI hr
  have ho : ops31[3]? = some (Oper.mk _ _ _ _ _ _) := rfl
  obtain ⟨hsz, hdf, hfx, hls, _, hgot, hclo⟩ := id hI
  have p17 : a.tmps[17]? = some (.pointer (some ⟨cp, 7, none⟩)) := hgot 2 _ (before hr ho (e := ⟨2, .data⟩) (by simp) rfl) rfl
  have hoz : ops31[24]? = some (Oper.mk _ _ _ _ _ _) := rfl
  obtain ⟨s, hw, hs⟩ := inC_ahead hI hr (t := 3) (z := 24) rfl hoz (e := ⟨3, .phase⟩) (by simp) rfl rfl
  have c0 := (hF s (by omega)).2.2.2.1
  rw [← hw] at c0
  refine wpOp_val ho rfl (v := .pointer (some ⟨bs, 0, none⟩)) (w' := w) ?_ (inC_val hI hr (by omega) (by omega) (by decide) rfl)
  simp [execOp, go_sem, p17, c0, ptr]
theorem s31_4 (h2 : a0.tmps[2]? = some (.int .i64 ac)) (h3 : a0.tmps[3]? = some (ptr bx)) (h4 : a0.tmps[4]? = some (ptr nx)) (hF : ∀ s, s < 4 → (ws31 bx nx cp bs nm ac ca n cap fa fn fc va vn vc W w2 s).cell? ⟨bx, 0, none⟩ = some (ptr cp) ∧ (ws31 bx nx cp bs nm ac ca n cap fa fn fc va vn vc W w2 s).cell? ⟨nx, 0, none⟩ = some (.string nm) ∧ (ws31 bx nx cp bs nm ac ca n cap fa fn fc va vn vc W w2 s).cell? ⟨cp, 5, none⟩ = some (.slice ca n cap) ∧ (ws31 bx nx cp bs nm ac ca n cap fa fn fc va vn vc W w2 s).cell? ⟨cp, 7, none⟩ = some (ptr bs) ∧ (ws31 bx nx cp bs nm ac ca n cap fa fn fc va vn vc W w2 s).cell? ⟨bs, 1, none⟩ = some (.slice fa fn fc)) (hap : ∀ ty, (Builtin.append_ #[48, 48] ty #[.slice fa fn fc, .slice (some ⟨W.heap.size + 1, 0, none⟩) 1 1]).run Try.prog ((W.alloc (.cells #[.string nm, .int .i64 n, .int .i64 ac] 91)).alloc (.cells #[ptr W.heap.size] 29)) = .ok (.slice va vn vc) w2) (hfr : w2.frozen? ⟨bs, 1, none⟩ = false) : StepC Try.prog ops31 15 25 40 (tab31 bx nx cp bs nm ac ca n cap fa fn fc va vn vc W w2) [19, 20, 21, 24] (ws31 bx nx cp bs nm ac ca n cap fa fn fc va vn vc W w2) a0 4 := by
  intro Q listed a w hI hr
  have ho : ops31[4]? = some (Oper.mk _ _ _ _ _ _) := rfl
  obtain ⟨hsz, hdf, hfx, hls, _, hgot, hclo⟩ := id hI
  have p3 : a.tmps[3]? = some (.pointer (some ⟨bx, 0, none⟩)) := (hfx 3 (by omega)).trans h3
  have hoz : ops31[24]? = some (Oper.mk _ _ _ _ _ _) := rfl
  obtain ⟨s, hw, hs⟩ := inC_ahead hI hr (t := 3) (z := 24) rfl hoz (e := ⟨4, .phase⟩) (by simp) rfl rfl
  have c0 := (hF s (by omega)).1
  rw [← hw] at c0
  refine wpOp_val ho rfl (v := .pointer (some ⟨cp, 0, none⟩)) (w' := w) ?_ (inC_val hI hr (by omega) (by omega) (by decide) rfl)
  simp [execOp, go_sem, p3, c0, ptr]
theorem s31_5 (h2 : a0.tmps[2]? = some (.int .i64 ac)) (h3 : a0.tmps[3]? = some (ptr bx)) (h4 : a0.tmps[4]? = some (ptr nx)) (hF : ∀ s, s < 4 → (ws31 bx nx cp bs nm ac ca n cap fa fn fc va vn vc W w2 s).cell? ⟨bx, 0, none⟩ = some (ptr cp) ∧ (ws31 bx nx cp bs nm ac ca n cap fa fn fc va vn vc W w2 s).cell? ⟨nx, 0, none⟩ = some (.string nm) ∧ (ws31 bx nx cp bs nm ac ca n cap fa fn fc va vn vc W w2 s).cell? ⟨cp, 5, none⟩ = some (.slice ca n cap) ∧ (ws31 bx nx cp bs nm ac ca n cap fa fn fc va vn vc W w2 s).cell? ⟨cp, 7, none⟩ = some (ptr bs) ∧ (ws31 bx nx cp bs nm ac ca n cap fa fn fc va vn vc W w2 s).cell? ⟨bs, 1, none⟩ = some (.slice fa fn fc)) (hap : ∀ ty, (Builtin.append_ #[48, 48] ty #[.slice fa fn fc, .slice (some ⟨W.heap.size + 1, 0, none⟩) 1 1]).run Try.prog ((W.alloc (.cells #[.string nm, .int .i64 n, .int .i64 ac] 91)).alloc (.cells #[ptr W.heap.size] 29)) = .ok (.slice va vn vc) w2) (hfr : w2.frozen? ⟨bs, 1, none⟩ = false) : StepC Try.prog ops31 15 25 40 (tab31 bx nx cp bs nm ac ca n cap fa fn fc va vn vc W w2) [19, 20, 21, 24] (ws31 bx nx cp bs nm ac ca n cap fa fn fc va vn vc W w2) a0 5 := by
  intro Q listed a w hI hr
  have ho : ops31[5]? = some (Oper.mk _ _ _ _ _ _) := rfl
  obtain ⟨hsz, hdf, hfx, hls, _, hgot, hclo⟩ := id hI
  have p19 : a.tmps[19]? = some (.pointer (some ⟨cp, 0, none⟩)) := hgot 4 _ (before hr ho (e := ⟨4, .data⟩) (by simp) rfl) rfl
  refine wpOp_val ho rfl (v := .pointer (some ⟨cp, 0, none⟩)) (w' := w) ?_ (inC_val hI hr (by omega) (by omega) (by decide) rfl)
  simp [execOp, go_sem, p19, ptr]
theorem s31_6 (h2 : a0.tmps[2]? = some (.int .i64 ac)) (h3 : a0.tmps[3]? = some (ptr bx)) (h4 : a0.tmps[4]? = some (ptr nx)) (hF : ∀ s, s < 4 → (ws31 bx nx cp bs nm ac ca n cap fa fn fc va vn vc W w2 s).cell? ⟨bx, 0, none⟩ = some (ptr cp) ∧ (ws31 bx nx cp bs nm ac ca n cap fa fn fc va vn vc W w2 s).cell? ⟨nx, 0, none⟩ = some (.string nm) ∧ (ws31 bx nx cp bs nm ac ca n cap fa fn fc va vn vc W w2 s).cell? ⟨cp, 5, none⟩ = some (.slice ca n cap) ∧ (ws31 bx nx cp bs nm ac ca n cap fa fn fc va vn vc W w2 s).cell? ⟨cp, 7, none⟩ = some (ptr bs) ∧ (ws31 bx nx cp bs nm ac ca n cap fa fn fc va vn vc W w2 s).cell? ⟨bs, 1, none⟩ = some (.slice fa fn fc)) (hap : ∀ ty, (Builtin.append_ #[48, 48] ty #[.slice fa fn fc, .slice (some ⟨W.heap.size + 1, 0, none⟩) 1 1]).run Try.prog ((W.alloc (.cells #[.string nm, .int .i64 n, .int .i64 ac] 91)).alloc (.cells #[ptr W.heap.size] 29)) = .ok (.slice va vn vc) w2) (hfr : w2.frozen? ⟨bs, 1, none⟩ = false) : StepC Try.prog ops31 15 25 40 (tab31 bx nx cp bs nm ac ca n cap fa fn fc va vn vc W w2) [19, 20, 21, 24] (ws31 bx nx cp bs nm ac ca n cap fa fn fc va vn vc W w2) a0 6 := by
  intro Q listed a w hI hr
  have ho : ops31[6]? = some (Oper.mk _ _ _ _ _ _) := rfl
  obtain ⟨hsz, hdf, hfx, hls, _, hgot, hclo⟩ := id hI
  have p20 : a.tmps[20]? = some (.pointer (some ⟨cp, 0, none⟩)) := hgot 5 _ (before hr ho (e := ⟨5, .data⟩) (by simp) rfl) rfl
  refine wpOp_val ho rfl (v := .pointer (some ⟨cp, 7, none⟩)) (w' := w) ?_ (inC_val hI hr (by omega) (by omega) (by decide) rfl)
  simp [execOp, go_sem, p20, ptr]
theorem s31_7 (h2 : a0.tmps[2]? = some (.int .i64 ac)) (h3 : a0.tmps[3]? = some (ptr bx)) (h4 : a0.tmps[4]? = some (ptr nx)) (hF : ∀ s, s < 4 → (ws31 bx nx cp bs nm ac ca n cap fa fn fc va vn vc W w2 s).cell? ⟨bx, 0, none⟩ = some (ptr cp) ∧ (ws31 bx nx cp bs nm ac ca n cap fa fn fc va vn vc W w2 s).cell? ⟨nx, 0, none⟩ = some (.string nm) ∧ (ws31 bx nx cp bs nm ac ca n cap fa fn fc va vn vc W w2 s).cell? ⟨cp, 5, none⟩ = some (.slice ca n cap) ∧ (ws31 bx nx cp bs nm ac ca n cap fa fn fc va vn vc W w2 s).cell? ⟨cp, 7, none⟩ = some (ptr bs) ∧ (ws31 bx nx cp bs nm ac ca n cap fa fn fc va vn vc W w2 s).cell? ⟨bs, 1, none⟩ = some (.slice fa fn fc)) (hap : ∀ ty, (Builtin.append_ #[48, 48] ty #[.slice fa fn fc, .slice (some ⟨W.heap.size + 1, 0, none⟩) 1 1]).run Try.prog ((W.alloc (.cells #[.string nm, .int .i64 n, .int .i64 ac] 91)).alloc (.cells #[ptr W.heap.size] 29)) = .ok (.slice va vn vc) w2) (hfr : w2.frozen? ⟨bs, 1, none⟩ = false) : StepC Try.prog ops31 15 25 40 (tab31 bx nx cp bs nm ac ca n cap fa fn fc va vn vc W w2) [19, 20, 21, 24] (ws31 bx nx cp bs nm ac ca n cap fa fn fc va vn vc W w2) a0 7 := by
  intro Q listed a w hI hr
  have ho : ops31[7]? = some (Oper.mk _ _ _ _ _ _) := rfl
  obtain ⟨hsz, hdf, hfx, hls, _, hgot, hclo⟩ := id hI
  have p21 : a.tmps[21]? = some (.pointer (some ⟨cp, 7, none⟩)) := hgot 6 _ (before hr ho (e := ⟨6, .data⟩) (by simp) rfl) rfl
  have hoz : ops31[24]? = some (Oper.mk _ _ _ _ _ _) := rfl
  obtain ⟨s, hw, hs⟩ := inC_ahead hI hr (t := 3) (z := 24) rfl hoz (e := ⟨7, .phase⟩) (by simp) rfl rfl
  have c0 := (hF s (by omega)).2.2.2.1
  rw [← hw] at c0
  refine wpOp_val ho rfl (v := .pointer (some ⟨bs, 0, none⟩)) (w' := w) ?_ (inC_val hI hr (by omega) (by omega) (by decide) rfl)
  simp [execOp, go_sem, p21, c0, ptr]
theorem s31_8 (h2 : a0.tmps[2]? = some (.int .i64 ac)) (h3 : a0.tmps[3]? = some (ptr bx)) (h4 : a0.tmps[4]? = some (ptr nx)) (hF : ∀ s, s < 4 → (ws31 bx nx cp bs nm ac ca n cap fa fn fc va vn vc W w2 s).cell? ⟨bx, 0, none⟩ = some (ptr cp) ∧ (ws31 bx nx cp bs nm ac ca n cap fa fn fc va vn vc W w2 s).cell? ⟨nx, 0, none⟩ = some (.string nm) ∧ (ws31 bx nx cp bs nm ac ca n cap fa fn fc va vn vc W w2 s).cell? ⟨cp, 5, none⟩ = some (.slice ca n cap) ∧ (ws31 bx nx cp bs nm ac ca n cap fa fn fc va vn vc W w2 s).cell? ⟨cp, 7, none⟩ = some (ptr bs) ∧ (ws31 bx nx cp bs nm ac ca n cap fa fn fc va vn vc W w2 s).cell? ⟨bs, 1, none⟩ = some (.slice fa fn fc)) (hap : ∀ ty, (Builtin.append_ #[48, 48] ty #[.slice fa fn fc, .slice (some ⟨W.heap.size + 1, 0, none⟩) 1 1]).run Try.prog ((W.alloc (.cells #[.string nm, .int .i64 n, .int .i64 ac] 91)).alloc (.cells #[ptr W.heap.size] 29)) = .ok (.slice va vn vc) w2) (hfr : w2.frozen? ⟨bs, 1, none⟩ = false) : StepC Try.prog ops31 15 25 40 (tab31 bx nx cp bs nm ac ca n cap fa fn fc va vn vc W w2) [19, 20, 21, 24] (ws31 bx nx cp bs nm ac ca n cap fa fn fc va vn vc W w2) a0 8 := by
  intro Q listed a w hI hr
  have ho : ops31[8]? = some (Oper.mk _ _ _ _ _ _) := rfl
  obtain ⟨hsz, hdf, hfx, hls, _, hgot, hclo⟩ := id hI
  have p22 : a.tmps[22]? = some (.pointer (some ⟨bs, 0, none⟩)) := hgot 7 _ (before hr ho (e := ⟨7, .data⟩) (by simp) rfl) rfl
  refine wpOp_val ho rfl (v := .pointer (some ⟨bs, 0, none⟩)) (w' := w) ?_ (inC_val hI hr (by omega) (by omega) (by decide) rfl)
  simp [execOp, go_sem, p22, ptr]
theorem s31_9 (h2 : a0.tmps[2]? = some (.int .i64 ac)) (h3 : a0.tmps[3]? = some (ptr bx)) (h4 : a0.tmps[4]? = some (ptr nx)) (hF : ∀ s, s < 4 → (ws31 bx nx cp bs nm ac ca n cap fa fn fc va vn vc W w2 s).cell? ⟨bx, 0, none⟩ = some (ptr cp) ∧ (ws31 bx nx cp bs nm ac ca n cap fa fn fc va vn vc W w2 s).cell? ⟨nx, 0, none⟩ = some (.string nm) ∧ (ws31 bx nx cp bs nm ac ca n cap fa fn fc va vn vc W w2 s).cell? ⟨cp, 5, none⟩ = some (.slice ca n cap) ∧ (ws31 bx nx cp bs nm ac ca n cap fa fn fc va vn vc W w2 s).cell? ⟨cp, 7, none⟩ = some (ptr bs) ∧ (ws31 bx nx cp bs nm ac ca n cap fa fn fc va vn vc W w2 s).cell? ⟨bs, 1, none⟩ = some (.slice fa fn fc)) (hap : ∀ ty, (Builtin.append_ #[48, 48] ty #[.slice fa fn fc, .slice (some ⟨W.heap.size + 1, 0, none⟩) 1 1]).run Try.prog ((W.alloc (.cells #[.string nm, .int .i64 n, .int .i64 ac] 91)).alloc (.cells #[ptr W.heap.size] 29)) = .ok (.slice va vn vc) w2) (hfr : w2.frozen? ⟨bs, 1, none⟩ = false) : StepC Try.prog ops31 15 25 40 (tab31 bx nx cp bs nm ac ca n cap fa fn fc va vn vc W w2) [19, 20, 21, 24] (ws31 bx nx cp bs nm ac ca n cap fa fn fc va vn vc W w2) a0 9 := by
  intro Q listed a w hI hr
  have ho : ops31[9]? = some (Oper.mk _ _ _ _ _ _) := rfl
  obtain ⟨hsz, hdf, hfx, hls, _, hgot, hclo⟩ := id hI
  have p23 : a.tmps[23]? = some (.pointer (some ⟨bs, 0, none⟩)) := hgot 8 _ (before hr ho (e := ⟨8, .data⟩) (by simp) rfl) rfl
  refine wpOp_val ho rfl (v := .pointer (some ⟨bs, 1, none⟩)) (w' := w) ?_ (inC_val hI hr (by omega) (by omega) (by decide) rfl)
  simp [execOp, go_sem, p23, ptr]
theorem s31_10 (h2 : a0.tmps[2]? = some (.int .i64 ac)) (h3 : a0.tmps[3]? = some (ptr bx)) (h4 : a0.tmps[4]? = some (ptr nx)) (hF : ∀ s, s < 4 → (ws31 bx nx cp bs nm ac ca n cap fa fn fc va vn vc W w2 s).cell? ⟨bx, 0, none⟩ = some (ptr cp) ∧ (ws31 bx nx cp bs nm ac ca n cap fa fn fc va vn vc W w2 s).cell? ⟨nx, 0, none⟩ = some (.string nm) ∧ (ws31 bx nx cp bs nm ac ca n cap fa fn fc va vn vc W w2 s).cell? ⟨cp, 5, none⟩ = some (.slice ca n cap) ∧ (ws31 bx nx cp bs nm ac ca n cap fa fn fc va vn vc W w2 s).cell? ⟨cp, 7, none⟩ = some (ptr bs) ∧ (ws31 bx nx cp bs nm ac ca n cap fa fn fc va vn vc W w2 s).cell? ⟨bs, 1, none⟩ = some (.slice fa fn fc)) (hap : ∀ ty, (Builtin.append_ #[48, 48] ty #[.slice fa fn fc, .slice (some ⟨W.heap.size + 1, 0, none⟩) 1 1]).run Try.prog ((W.alloc (.cells #[.string nm, .int .i64 n, .int .i64 ac] 91)).alloc (.cells #[ptr W.heap.size] 29)) = .ok (.slice va vn vc) w2) (hfr : w2.frozen? ⟨bs, 1, none⟩ = false) : StepC Try.prog ops31 15 25 40 (tab31 bx nx cp bs nm ac ca n cap fa fn fc va vn vc W w2) [19, 20, 21, 24] (ws31 bx nx cp bs nm ac ca n cap fa fn fc va vn vc W w2) a0 10 := by
  intro Q listed a w hI hr
  have ho : ops31[10]? = some (Oper.mk _ _ _ _ _ _) := rfl
  obtain ⟨hsz, hdf, hfx, hls, _, hgot, hclo⟩ := id hI
  have p24 : a.tmps[24]? = some (.pointer (some ⟨bs, 1, none⟩)) := hgot 9 _ (before hr ho (e := ⟨9, .data⟩) (by simp) rfl) rfl
  have hoz : ops31[24]? = some (Oper.mk _ _ _ _ _ _) := rfl
  obtain ⟨s, hw, hs⟩ := inC_ahead hI hr (t := 3) (z := 24) rfl hoz (e := ⟨10, .phase⟩) (by simp) rfl rfl
  have c0 := (hF s (by omega)).2.2.2.2
  rw [← hw] at c0
  refine wpOp_val ho rfl (v := .slice fa fn fc) (w' := w) ?_ (inC_val hI hr (by omega) (by omega) (by decide) rfl)
  simp [execOp, go_sem, p24, c0, ptr]
theorem s31_11 (h2 : a0.tmps[2]? = some (.int .i64 ac)) (h3 : a0.tmps[3]? = some (ptr bx)) (h4 : a0.tmps[4]? = some (ptr nx)) (hF : ∀ s, s < 4 → (ws31 bx nx cp bs nm ac ca n cap fa fn fc va vn vc W w2 s).cell? ⟨bx, 0, none⟩ = some (ptr cp) ∧ (ws31 bx nx cp bs nm ac ca n cap fa fn fc va vn vc W w2 s).cell? ⟨nx, 0, none⟩ = some (.string nm) ∧ (ws31 bx nx cp bs nm ac ca n cap fa fn fc va vn vc W w2 s).cell? ⟨cp, 5, none⟩ = some (.slice ca n cap) ∧ (ws31 bx nx cp bs nm ac ca n cap fa fn fc va vn vc W w2 s).cell? ⟨cp, 7, none⟩ = some (ptr bs) ∧ (ws31 bx nx cp bs nm ac ca n cap fa fn fc va vn vc W w2 s).cell? ⟨bs, 1, none⟩ = some (.slice fa fn fc)) (hap : ∀ ty, (Builtin.append_ #[48, 48] ty #[.slice fa fn fc, .slice (some ⟨W.heap.size + 1, 0, none⟩) 1 1]).run Try.prog ((W.alloc (.cells #[.string nm, .int .i64 n, .int .i64 ac] 91)).alloc (.cells #[ptr W.heap.size] 29)) = .ok (.slice va vn vc) w2) (hfr : w2.frozen? ⟨bs, 1, none⟩ = false) : StepC Try.prog ops31 15 25 40 (tab31 bx nx cp bs nm ac ca n cap fa fn fc va vn vc W w2) [19, 20, 21, 24] (ws31 bx nx cp bs nm ac ca n cap fa fn fc va vn vc W w2) a0 11 := by
  intro Q listed a w hI hr
  have ho : ops31[11]? = some (Oper.mk _ _ _ _ _ _) := rfl
  obtain ⟨hsz, hdf, hfx, hls, _, hgot, hclo⟩ := id hI
  have p4 : a.tmps[4]? = some (.pointer (some ⟨nx, 0, none⟩)) := (hfx 4 (by omega)).trans h4
  have hoz : ops31[24]? = some (Oper.mk _ _ _ _ _ _) := rfl
  obtain ⟨s, hw, hs⟩ := inC_ahead hI hr (t := 3) (z := 24) rfl hoz (e := ⟨11, .phase⟩) (by simp) rfl rfl
  have c0 := (hF s (by omega)).2.1
  rw [← hw] at c0
  refine wpOp_val ho rfl (v := .string nm) (w' := w) ?_ (inC_val hI hr (by omega) (by omega) (by decide) rfl)
  simp [execOp, go_sem, p4, c0, ptr]
theorem s31_12 (h2 : a0.tmps[2]? = some (.int .i64 ac)) (h3 : a0.tmps[3]? = some (ptr bx)) (h4 : a0.tmps[4]? = some (ptr nx)) (hF : ∀ s, s < 4 → (ws31 bx nx cp bs nm ac ca n cap fa fn fc va vn vc W w2 s).cell? ⟨bx, 0, none⟩ = some (ptr cp) ∧ (ws31 bx nx cp bs nm ac ca n cap fa fn fc va vn vc W w2 s).cell? ⟨nx, 0, none⟩ = some (.string nm) ∧ (ws31 bx nx cp bs nm ac ca n cap fa fn fc va vn vc W w2 s).cell? ⟨cp, 5, none⟩ = some (.slice ca n cap) ∧ (ws31 bx nx cp bs nm ac ca n cap fa fn fc va vn vc W w2 s).cell? ⟨cp, 7, none⟩ = some (ptr bs) ∧ (ws31 bx nx cp bs nm ac ca n cap fa fn fc va vn vc W w2 s).cell? ⟨bs, 1, none⟩ = some (.slice fa fn fc)) (hap : ∀ ty, (Builtin.append_ #[48, 48] ty #[.slice fa fn fc, .slice (some ⟨W.heap.size + 1, 0, none⟩) 1 1]).run Try.prog ((W.alloc (.cells #[.string nm, .int .i64 n, .int .i64 ac] 91)).alloc (.cells #[ptr W.heap.size] 29)) = .ok (.slice va vn vc) w2) (hfr : w2.frozen? ⟨bs, 1, none⟩ = false) : StepC Try.prog ops31 15 25 40 (tab31 bx nx cp bs nm ac ca n cap fa fn fc va vn vc W w2) [19, 20, 21, 24] (ws31 bx nx cp bs nm ac ca n cap fa fn fc va vn vc W w2) a0 12 := by
  intro Q listed a w hI hr
  have ho : ops31[12]? = some (Oper.mk _ _ _ _ _ _) := rfl
  obtain ⟨hsz, hdf, hfx, hls, _, hgot, hclo⟩ := id hI
  have p3 : a.tmps[3]? = some (.pointer (some ⟨bx, 0, none⟩)) := (hfx 3 (by omega)).trans h3
  have hoz : ops31[24]? = some (Oper.mk _ _ _ _ _ _) := rfl
  obtain ⟨s, hw, hs⟩ := inC_ahead hI hr (t := 3) (z := 24) rfl hoz (e := ⟨12, .phase⟩) (by simp) rfl rfl
  have c0 := (hF s (by omega)).1
  rw [← hw] at c0
  refine wpOp_val ho rfl (v := .pointer (some ⟨cp, 0, none⟩)) (w' := w) ?_ (inC_val hI hr (by omega) (by omega) (by decide) rfl)
  simp [execOp, go_sem, p3, c0, ptr]
theorem s31_13 (h2 : a0.tmps[2]? = some (.int .i64 ac)) (h3 : a0.tmps[3]? = some (ptr bx)) (h4 : a0.tmps[4]? = some (ptr nx)) (hF : ∀ s, s < 4 → (ws31 bx nx cp bs nm ac ca n cap fa fn fc va vn vc W w2 s).cell? ⟨bx, 0, none⟩ = some (ptr cp) ∧ (ws31 bx nx cp bs nm ac ca n cap fa fn fc va vn vc W w2 s).cell? ⟨nx, 0, none⟩ = some (.string nm) ∧ (ws31 bx nx cp bs nm ac ca n cap fa fn fc va vn vc W w2 s).cell? ⟨cp, 5, none⟩ = some (.slice ca n cap) ∧ (ws31 bx nx cp bs nm ac ca n cap fa fn fc va vn vc W w2 s).cell? ⟨cp, 7, none⟩ = some (ptr bs) ∧ (ws31 bx nx cp bs nm ac ca n cap fa fn fc va vn vc W w2 s).cell? ⟨bs, 1, none⟩ = some (.slice fa fn fc)) (hap : ∀ ty, (Builtin.append_ #[48, 48] ty #[.slice fa fn fc, .slice (some ⟨W.heap.size + 1, 0, none⟩) 1 1]).run Try.prog ((W.alloc (.cells #[.string nm, .int .i64 n, .int .i64 ac] 91)).alloc (.cells #[ptr W.heap.size] 29)) = .ok (.slice va vn vc) w2) (hfr : w2.frozen? ⟨bs, 1, none⟩ = false) : StepC Try.prog ops31 15 25 40 (tab31 bx nx cp bs nm ac ca n cap fa fn fc va vn vc W w2) [19, 20, 21, 24] (ws31 bx nx cp bs nm ac ca n cap fa fn fc va vn vc W w2) a0 13 := by
  intro Q listed a w hI hr
  have ho : ops31[13]? = some (Oper.mk _ _ _ _ _ _) := rfl
  obtain ⟨hsz, hdf, hfx, hls, _, hgot, hclo⟩ := id hI
  have p27 : a.tmps[27]? = some (.pointer (some ⟨cp, 0, none⟩)) := hgot 12 _ (before hr ho (e := ⟨12, .data⟩) (by simp) rfl) rfl
  refine wpOp_val ho rfl (v := .pointer (some ⟨cp, 0, none⟩)) (w' := w) ?_ (inC_val hI hr (by omega) (by omega) (by decide) rfl)
  simp [execOp, go_sem, p27, ptr]
theorem s31_14 (h2 : a0.tmps[2]? = some (.int .i64 ac)) (h3 : a0.tmps[3]? = some (ptr bx)) (h4 : a0.tmps[4]? = some (ptr nx)) (hF : ∀ s, s < 4 → (ws31 bx nx cp bs nm ac ca n cap fa fn fc va vn vc W w2 s).cell? ⟨bx, 0, none⟩ = some (ptr cp) ∧ (ws31 bx nx cp bs nm ac ca n cap fa fn fc va vn vc W w2 s).cell? ⟨nx, 0, none⟩ = some (.string nm) ∧ (ws31 bx nx cp bs nm ac ca n cap fa fn fc va vn vc W w2 s).cell? ⟨cp, 5, none⟩ = some (.slice ca n cap) ∧ (ws31 bx nx cp bs nm ac ca n cap fa fn fc va vn vc W w2 s).cell? ⟨cp, 7, none⟩ = some (ptr bs) ∧ (ws31 bx nx cp bs nm ac ca n cap fa fn fc va vn vc W w2 s).cell? ⟨bs, 1, none⟩ = some (.slice fa fn fc)) (hap : ∀ ty, (Builtin.append_ #[48, 48] ty #[.slice fa fn fc, .slice (some ⟨W.heap.size + 1, 0, none⟩) 1 1]).run Try.prog ((W.alloc (.cells #[.string nm, .int .i64 n, .int .i64 ac] 91)).alloc (.cells #[ptr W.heap.size] 29)) = .ok (.slice va vn vc) w2) (hfr : w2.frozen? ⟨bs, 1, none⟩ = false) : StepC Try.prog ops31 15 25 40 (tab31 bx nx cp bs nm ac ca n cap fa fn fc va vn vc W w2) [19, 20, 21, 24] (ws31 bx nx cp bs nm ac ca n cap fa fn fc va vn vc W w2) a0 14 := by
  intro Q listed a w hI hr
  have ho : ops31[14]? = some (Oper.mk _ _ _ _ _ _) := rfl
  obtain ⟨hsz, hdf, hfx, hls, _, hgot, hclo⟩ := id hI
  have p28 : a.tmps[28]? = some (.pointer (some ⟨cp, 0, none⟩)) := hgot 13 _ (before hr ho (e := ⟨13, .data⟩) (by simp) rfl) rfl
  refine wpOp_val ho rfl (v := .pointer (some ⟨cp, 5, none⟩)) (w' := w) ?_ (inC_val hI hr (by omega) (by omega) (by decide) rfl)
  simp [execOp, go_sem, p28, ptr]
theorem s31_15 (h2 : a0.tmps[2]? = some (.int .i64 ac)) (h3 : a0.tmps[3]? = some (ptr bx)) (h4 : a0.tmps[4]? = some (ptr nx)) (hF : ∀ s, s < 4 → (ws31 bx nx cp bs nm ac ca n cap fa fn fc va vn vc W w2 s).cell? ⟨bx, 0, none⟩ = some (ptr cp) ∧ (ws31 bx nx cp bs nm ac ca n cap fa fn fc va vn vc W w2 s).cell? ⟨nx, 0, none⟩ = some (.string nm) ∧ (ws31 bx nx cp bs nm ac ca n cap fa fn fc va vn vc W w2 s).cell? ⟨cp, 5, none⟩ = some (.slice ca n cap) ∧ (ws31 bx nx cp bs nm ac ca n cap fa fn fc va vn vc W w2 s).cell? ⟨cp, 7, none⟩ = some (ptr bs) ∧ (ws31 bx nx cp bs nm ac ca n cap fa fn fc va vn vc W w2 s).cell? ⟨bs, 1, none⟩ = some (.slice fa fn fc)) (hap : ∀ ty, (Builtin.append_ #[48, 48] ty #[.slice fa fn fc, .slice (some ⟨W.heap.size + 1, 0, none⟩) 1 1]).run Try.prog ((W.alloc (.cells #[.string nm, .int .i64 n, .int .i64 ac] 91)).alloc (.cells #[ptr W.heap.size] 29)) = .ok (.slice va vn vc) w2) (hfr : w2.frozen? ⟨bs, 1, none⟩ = false) : StepC Try.prog ops31 15 25 40 (tab31 bx nx cp bs nm ac ca n cap fa fn fc va vn vc W w2) [19, 20, 21, 24] (ws31 bx nx cp bs nm ac ca n cap fa fn fc va vn vc W w2) a0 15 := by
  intro Q listed a w hI hr
  have ho : ops31[15]? = some (Oper.mk _ _ _ _ _ _) := rfl
  obtain ⟨hsz, hdf, hfx, hls, _, hgot, hclo⟩ := id hI
  have p29 : a.tmps[29]? = some (.pointer (some ⟨cp, 5, none⟩)) := hgot 14 _ (before hr ho (e := ⟨14, .data⟩) (by simp) rfl) rfl
  have hoz : ops31[24]? = some (Oper.mk _ _ _ _ _ _) := rfl
  obtain ⟨s, hw, hs⟩ := inC_ahead hI hr (t := 3) (z := 24) rfl hoz (e := ⟨15, .phase⟩) (by simp) rfl rfl
  have c0 := (hF s (by omega)).2.2.1
  rw [← hw] at c0
  refine wpOp_val ho rfl (v := .slice ca n cap) (w' := w) ?_ (inC_val hI hr (by omega) (by omega) (by decide) rfl)
  simp [execOp, go_sem, p29, c0, ptr]
theorem s31_16 (h2 : a0.tmps[2]? = some (.int .i64 ac)) (h3 : a0.tmps[3]? = some (ptr bx)) (h4 : a0.tmps[4]? = some (ptr nx)) (hF : ∀ s, s < 4 → (ws31 bx nx cp bs nm ac ca n cap fa fn fc va vn vc W w2 s).cell? ⟨bx, 0, none⟩ = some (ptr cp) ∧ (ws31 bx nx cp bs nm ac ca n cap fa fn fc va vn vc W w2 s).cell? ⟨nx, 0, none⟩ = some (.string nm) ∧ (ws31 bx nx cp bs nm ac ca n cap fa fn fc va vn vc W w2 s).cell? ⟨cp, 5, none⟩ = some (.slice ca n cap) ∧ (ws31 bx nx cp bs nm ac ca n cap fa fn fc va vn vc W w2 s).cell? ⟨cp, 7, none⟩ = some (ptr bs) ∧ (ws31 bx nx cp bs nm ac ca n cap fa fn fc va vn vc W w2 s).cell? ⟨bs, 1, none⟩ = some (.slice fa fn fc)) (hap : ∀ ty, (Builtin.append_ #[48, 48] ty #[.slice fa fn fc, .slice (some ⟨W.heap.size + 1, 0, none⟩) 1 1]).run Try.prog ((W.alloc (.cells #[.string nm, .int .i64 n, .int .i64 ac] 91)).alloc (.cells #[ptr W.heap.size] 29)) = .ok (.slice va vn vc) w2) (hfr : w2.frozen? ⟨bs, 1, none⟩ = false) : StepC Try.prog ops31 15 25 40 (tab31 bx nx cp bs nm ac ca n cap fa fn fc va vn vc W w2) [19, 20, 21, 24] (ws31 bx nx cp bs nm ac ca n cap fa fn fc va vn vc W w2) a0 16 := by
  intro Q listed a w hI hr
  have ho : ops31[16]? = some (Oper.mk _ _ _ _ _ _) := rfl
  obtain ⟨hsz, hdf, hfx, hls, _, hgot, hclo⟩ := id hI
  have p30 : a.tmps[30]? = some (.slice ca n cap) := hgot 15 _ (before hr ho (e := ⟨15, .data⟩) (by simp) rfl) rfl
  refine wpOp_val ho rfl (v := .int .i64 n) (w' := w) ?_ (inC_val hI hr (by omega) (by omega) (by decide) rfl)
  simp [execOp, go_sem, p30, ptr]
theorem s31_17 (h2 : a0.tmps[2]? = some (.int .i64 ac)) (h3 : a0.tmps[3]? = some (ptr bx)) (h4 : a0.tmps[4]? = some (ptr nx)) (hF : ∀ s, s < 4 → (ws31 bx nx cp bs nm ac ca n cap fa fn fc va vn vc W w2 s).cell? ⟨bx, 0, none⟩ = some (ptr cp) ∧ (ws31 bx nx cp bs nm ac ca n cap fa fn fc va vn vc W w2 s).cell? ⟨nx, 0, none⟩ = some (.string nm) ∧ (ws31 bx nx cp bs nm ac ca n cap fa fn fc va vn vc W w2 s).cell? ⟨cp, 5, none⟩ = some (.slice ca n cap) ∧ (ws31 bx nx cp bs nm ac ca n cap fa fn fc va vn vc W w2 s).cell? ⟨cp, 7, none⟩ = some (ptr bs) ∧ (ws31 bx nx cp bs nm ac ca n cap fa fn fc va vn vc W w2 s).cell? ⟨bs, 1, none⟩ = some (.slice fa fn fc)) (hap : ∀ ty, (Builtin.append_ #[48, 48] ty #[.slice fa fn fc, .slice (some ⟨W.heap.size + 1, 0, none⟩) 1 1]).run Try.prog ((W.alloc (.cells #[.string nm, .int .i64 n, .int .i64 ac] 91)).alloc (.cells #[ptr W.heap.size] 29)) = .ok (.slice va vn vc) w2) (hfr : w2.frozen? ⟨bs, 1, none⟩ = false) : StepC Try.prog ops31 15 25 40 (tab31 bx nx cp bs nm ac ca n cap fa fn fc va vn vc W w2) [19, 20, 21, 24] (ws31 bx nx cp bs nm ac ca n cap fa fn fc va vn vc W w2) a0 17 := by
  intro Q listed a w hI hr
  have ho : ops31[17]? = some (Oper.mk _ _ _ _ _ _) := rfl
  obtain ⟨hsz, hdf, hfx, hls, _, hgot, hclo⟩ := id hI
  have p2 : a.tmps[2]? = some (.int .i64 ac) := (hfx 2 (by omega)).trans h2
  refine wpOp_val ho rfl (v := .int .i64 ac) (w' := w) ?_ (inC_val hI hr (by omega) (by omega) (by decide) rfl)
  simp [execOp, go_sem, p2, ptr]
theorem s31_18 (h2 : a0.tmps[2]? = some (.int .i64 ac)) (h3 : a0.tmps[3]? = some (ptr bx)) (h4 : a0.tmps[4]? = some (ptr nx)) (hF : ∀ s, s < 4 → (ws31 bx nx cp bs nm ac ca n cap fa fn fc va vn vc W w2 s).cell? ⟨bx, 0, none⟩ = some (ptr cp) ∧ (ws31 bx nx cp bs nm ac ca n cap fa fn fc va vn vc W w2 s).cell? ⟨nx, 0, none⟩ = some (.string nm) ∧ (ws31 bx nx cp bs nm ac ca n cap fa fn fc va vn vc W w2 s).cell? ⟨cp, 5, none⟩ = some (.slice ca n cap) ∧ (ws31 bx nx cp bs nm ac ca n cap fa fn fc va vn vc W w2 s).cell? ⟨cp, 7, none⟩ = some (ptr bs) ∧ (ws31 bx nx cp bs nm ac ca n cap fa fn fc va vn vc W w2 s).cell? ⟨bs, 1, none⟩ = some (.slice fa fn fc)) (hap : ∀ ty, (Builtin.append_ #[48, 48] ty #[.slice fa fn fc, .slice (some ⟨W.heap.size + 1, 0, none⟩) 1 1]).run Try.prog ((W.alloc (.cells #[.string nm, .int .i64 n, .int .i64 ac] 91)).alloc (.cells #[ptr W.heap.size] 29)) = .ok (.slice va vn vc) w2) (hfr : w2.frozen? ⟨bs, 1, none⟩ = false) : StepC Try.prog ops31 15 25 40 (tab31 bx nx cp bs nm ac ca n cap fa fn fc va vn vc W w2) [19, 20, 21, 24] (ws31 bx nx cp bs nm ac ca n cap fa fn fc va vn vc W w2) a0 18 := by
  intro Q listed a w hI hr
  have ho : ops31[18]? = some (Oper.mk _ _ _ _ _ _) := rfl
  obtain ⟨hsz, hdf, hfx, hls, _, hgot, hclo⟩ := id hI
  have p26 : a.tmps[26]? = some (.string nm) := hgot 11 _ (before hr ho (e := ⟨11, .data⟩) (by simp) rfl) rfl
  have p31 : a.tmps[31]? = some (.int .i64 n) := hgot 16 _ (before hr ho (e := ⟨16, .data⟩) (by simp) rfl) rfl
  have p32 : a.tmps[32]? = some (.int .i64 ac) := hgot 17 _ (before hr ho (e := ⟨17, .data⟩) (by simp) rfl) rfl
  refine wpOp_val ho rfl (v := .agg #[.string nm, .int .i64 n, .int .i64 ac]) (w' := w) ?_ (inC_val hI hr (by omega) (by omega) (by decide) rfl)
  simp [execOp, go_sem, p26, p31, p32, ptr]
theorem s31_19 (h2 : a0.tmps[2]? = some (.int .i64 ac)) (h3 : a0.tmps[3]? = some (ptr bx)) (h4 : a0.tmps[4]? = some (ptr nx)) (hF : ∀ s, s < 4 → (ws31 bx nx cp bs nm ac ca n cap fa fn fc va vn vc W w2 s).cell? ⟨bx, 0, none⟩ = some (ptr cp) ∧ (ws31 bx nx cp bs nm ac ca n cap fa fn fc va vn vc W w2 s).cell? ⟨nx, 0, none⟩ = some (.string nm) ∧ (ws31 bx nx cp bs nm ac ca n cap fa fn fc va vn vc W w2 s).cell? ⟨cp, 5, none⟩ = some (.slice ca n cap) ∧ (ws31 bx nx cp bs nm ac ca n cap fa fn fc va vn vc W w2 s).cell? ⟨cp, 7, none⟩ = some (ptr bs) ∧ (ws31 bx nx cp bs nm ac ca n cap fa fn fc va vn vc W w2 s).cell? ⟨bs, 1, none⟩ = some (.slice fa fn fc)) (hap : ∀ ty, (Builtin.append_ #[48, 48] ty #[.slice fa fn fc, .slice (some ⟨W.heap.size + 1, 0, none⟩) 1 1]).run Try.prog ((W.alloc (.cells #[.string nm, .int .i64 n, .int .i64 ac] 91)).alloc (.cells #[ptr W.heap.size] 29)) = .ok (.slice va vn vc) w2) (hfr : w2.frozen? ⟨bs, 1, none⟩ = false) : StepC Try.prog ops31 15 25 40 (tab31 bx nx cp bs nm ac ca n cap fa fn fc va vn vc W w2) [19, 20, 21, 24] (ws31 bx nx cp bs nm ac ca n cap fa fn fc va vn vc W w2) a0 19 := by
  intro Q listed a w hI hr
  have ho : ops31[19]? = some (Oper.mk _ _ _ _ _ _) := rfl
  obtain ⟨hsz, hdf, hfx, hls, _, hgot, hclo⟩ := id hI
  have p33 : a.tmps[33]? = some (.agg #[.string nm, .int .i64 n, .int .i64 ac]) := hgot 18 _ (before hr ho (e := ⟨18, .data⟩) (by simp) rfl) rfl
  have hp : ∀ u j, 0 = u + 1 → ([19, 20, 21, 24] : List Nat)[u]? = some j → listed.getD j false = true := (fun u j h _ => by omega)
  have hw : w = ws31 bx nx cp bs nm ac ca n cap fa fn fc va vn vc W w2 0 := inC_at hI hr (t := 0) rfl hp
  rw [hw] at hI ⊢
  refine wpOp_val ho rfl (v := .pointer (some ⟨W.heap.size, 0, none⟩)) (w' := ws31 bx nx cp bs nm ac ca n cap fa fn fc va vn vc W w2 1) ?_ (inC_put hI hr (by omega) (by omega) (t := 0) rfl hp (by decide) rfl)
  simp [execOp, go_sem, ws31, p33]
theorem s31_20 (h2 : a0.tmps[2]? = some (.int .i64 ac)) (h3 : a0.tmps[3]? = some (ptr bx)) (h4 : a0.tmps[4]? = some (ptr nx)) (hF : ∀ s, s < 4 → (ws31 bx nx cp bs nm ac ca n cap fa fn fc va vn vc W w2 s).cell? ⟨bx, 0, none⟩ = some (ptr cp) ∧ (ws31 bx nx cp bs nm ac ca n cap fa fn fc va vn vc W w2 s).cell? ⟨nx, 0, none⟩ = some (.string nm) ∧ (ws31 bx nx cp bs nm ac ca n cap fa fn fc va vn vc W w2 s).cell? ⟨cp, 5, none⟩ = some (.slice ca n cap) ∧ (ws31 bx nx cp bs nm ac ca n cap fa fn fc va vn vc W w2 s).cell? ⟨cp, 7, none⟩ = some (ptr bs) ∧ (ws31 bx nx cp bs nm ac ca n cap fa fn fc va vn vc W w2 s).cell? ⟨bs, 1, none⟩ = some (.slice fa fn fc)) (hap : ∀ ty, (Builtin.append_ #[48, 48] ty #[.slice fa fn fc, .slice (some ⟨W.heap.size + 1, 0, none⟩) 1 1]).run Try.prog ((W.alloc (.cells #[.string nm, .int .i64 n, .int .i64 ac] 91)).alloc (.cells #[ptr W.heap.size] 29)) = .ok (.slice va vn vc) w2) (hfr : w2.frozen? ⟨bs, 1, none⟩ = false) : StepC Try.prog ops31 15 25 40 (tab31 bx nx cp bs nm ac ca n cap fa fn fc va vn vc W w2) [19, 20, 21, 24] (ws31 bx nx cp bs nm ac ca n cap fa fn fc va vn vc W w2) a0 20 := by
  intro Q listed a w hI hr
  have ho : ops31[20]? = some (Oper.mk _ _ _ _ _ _) := rfl
  obtain ⟨hsz, hdf, hfx, hls, _, hgot, hclo⟩ := id hI
  have p34 : a.tmps[34]? = some (.pointer (some ⟨W.heap.size, 0, none⟩)) := hgot 19 _ (before hr ho (e := ⟨19, .data⟩) (by simp) rfl) rfl
  have hp : ∀ u j, 1 = u + 1 → ([19, 20, 21, 24] : List Nat)[u]? = some j → listed.getD j false = true := (fun u j h hj => by have hu : u = 0 := (by omega); subst hu; cases hj; exact before hr ho (e := ⟨19, .data⟩) (by simp) rfl)
  have hw : w = ws31 bx nx cp bs nm ac ca n cap fa fn fc va vn vc W w2 1 := inC_at hI hr (t := 1) rfl hp
  rw [hw] at hI ⊢
  refine wpOp_val ho rfl (v := .slice (some ⟨W.heap.size + 1, 0, none⟩) 1 1) (w' := ws31 bx nx cp bs nm ac ca n cap fa fn fc va vn vc W w2 2) ?_ (inC_put hI hr (by omega) (by omega) (t := 1) rfl hp (by decide) rfl)
  simp [execOp, go_sem, ptr, ws31, p34]
theorem s31_21 (h2 : a0.tmps[2]? = some (.int .i64 ac)) (h3 : a0.tmps[3]? = some (ptr bx)) (h4 : a0.tmps[4]? = some (ptr nx)) (hF : ∀ s, s < 4 → (ws31 bx nx cp bs nm ac ca n cap fa fn fc va vn vc W w2 s).cell? ⟨bx, 0, none⟩ = some (ptr cp) ∧ (ws31 bx nx cp bs nm ac ca n cap fa fn fc va vn vc W w2 s).cell? ⟨nx, 0, none⟩ = some (.string nm) ∧ (ws31 bx nx cp bs nm ac ca n cap fa fn fc va vn vc W w2 s).cell? ⟨cp, 5, none⟩ = some (.slice ca n cap) ∧ (ws31 bx nx cp bs nm ac ca n cap fa fn fc va vn vc W w2 s).cell? ⟨cp, 7, none⟩ = some (ptr bs) ∧ (ws31 bx nx cp bs nm ac ca n cap fa fn fc va vn vc W w2 s).cell? ⟨bs, 1, none⟩ = some (.slice fa fn fc)) (hap : ∀ ty, (Builtin.append_ #[48, 48] ty #[.slice fa fn fc, .slice (some ⟨W.heap.size + 1, 0, none⟩) 1 1]).run Try.prog ((W.alloc (.cells #[.string nm, .int .i64 n, .int .i64 ac] 91)).alloc (.cells #[ptr W.heap.size] 29)) = .ok (.slice va vn vc) w2) (hfr : w2.frozen? ⟨bs, 1, none⟩ = false) : StepC Try.prog ops31 15 25 40 (tab31 bx nx cp bs nm ac ca n cap fa fn fc va vn vc W w2) [19, 20, 21, 24] (ws31 bx nx cp bs nm ac ca n cap fa fn fc va vn vc W w2) a0 21 := by
  intro Q listed a w hI hr
  have ho : ops31[21]? = some (Oper.mk _ _ _ _ _ _) := rfl
  obtain ⟨hsz, hdf, hfx, hls, _, hgot, hclo⟩ := id hI
  have p25 : a.tmps[25]? = some (.slice fa fn fc) := hgot 10 _ (before hr ho (e := ⟨10, .data⟩) (by simp) rfl) rfl
  have p35 : a.tmps[35]? = some (.slice (some ⟨W.heap.size + 1, 0, none⟩) 1 1) := hgot 20 _ (before hr ho (e := ⟨20, .data⟩) (by simp) rfl) rfl
  have hp : ∀ u j, 2 = u + 1 → ([19, 20, 21, 24] : List Nat)[u]? = some j → listed.getD j false = true := (fun u j h hj => by have hu : u = 1 := (by omega); subst hu; cases hj; exact before hr ho (e := ⟨20, .data⟩) (by simp) rfl)
  have hw : w = ws31 bx nx cp bs nm ac ca n cap fa fn fc va vn vc W w2 2 := inC_at hI hr (t := 2) rfl hp
  rw [hw] at hI ⊢
  have e25 := eval_tmp p25
  have e35 := eval_tmp p35
  refine wpOp_val ho rfl (v := .slice va vn vc) (w' := ws31 bx nx cp bs nm ac ca n cap fa fn fc va vn vc W w2 3) ?_ (inC_put hI hr (by omega) (by omega) (t := 2) rfl hp (by decide) rfl)
  simp [execOp, resolve, invoke, builtin, e25, e35, ws31, hap, Result.andThen]
theorem s31_22 (h2 : a0.tmps[2]? = some (.int .i64 ac)) (h3 : a0.tmps[3]? = some (ptr bx)) (h4 : a0.tmps[4]? = some (ptr nx)) (hF : ∀ s, s < 4 → (ws31 bx nx cp bs nm ac ca n cap fa fn fc va vn vc W w2 s).cell? ⟨bx, 0, none⟩ = some (ptr cp) ∧ (ws31 bx nx cp bs nm ac ca n cap fa fn fc va vn vc W w2 s).cell? ⟨nx, 0, none⟩ = some (.string nm) ∧ (ws31 bx nx cp bs nm ac ca n cap fa fn fc va vn vc W w2 s).cell? ⟨cp, 5, none⟩ = some (.slice ca n cap) ∧ (ws31 bx nx cp bs nm ac ca n cap fa fn fc va vn vc W w2 s).cell? ⟨cp, 7, none⟩ = some (ptr bs) ∧ (ws31 bx nx cp bs nm ac ca n cap fa fn fc va vn vc W w2 s).cell? ⟨bs, 1, none⟩ = some (.slice fa fn fc)) (hap : ∀ ty, (Builtin.append_ #[48, 48] ty #[.slice fa fn fc, .slice (some ⟨W.heap.size + 1, 0, none⟩) 1 1]).run Try.prog ((W.alloc (.cells #[.string nm, .int .i64 n, .int .i64 ac] 91)).alloc (.cells #[ptr W.heap.size] 29)) = .ok (.slice va vn vc) w2) (hfr : w2.frozen? ⟨bs, 1, none⟩ = false) : StepC Try.prog ops31 15 25 40 (tab31 bx nx cp bs nm ac ca n cap fa fn fc va vn vc W w2) [19, 20, 21, 24] (ws31 bx nx cp bs nm ac ca n cap fa fn fc va vn vc W w2) a0 22 := by
  intro Q listed a w hI hr
  have ho : ops31[22]? = some (Oper.mk _ _ _ _ _ _) := rfl
  obtain ⟨hsz, hdf, hfx, hls, _, hgot, hclo⟩ := id hI
  have p18 : a.tmps[18]? = some (.pointer (some ⟨bs, 0, none⟩)) := hgot 3 _ (before hr ho (e := ⟨3, .data⟩) (by simp) rfl) rfl
  refine wpOp_val ho rfl (v := .pointer (some ⟨bs, 0, none⟩)) (w' := w) ?_ (inC_val hI hr (by omega) (by omega) (by decide) rfl)
  simp [execOp, go_sem, p18, ptr]
theorem s31_23 (h2 : a0.tmps[2]? = some (.int .i64 ac)) (h3 : a0.tmps[3]? = some (ptr bx)) (h4 : a0.tmps[4]? = some (ptr nx)) (hF : ∀ s, s < 4 → (ws31 bx nx cp bs nm ac ca n cap fa fn fc va vn vc W w2 s).cell? ⟨bx, 0, none⟩ = some (ptr cp) ∧ (ws31 bx nx cp bs nm ac ca n cap fa fn fc va vn vc W w2 s).cell? ⟨nx, 0, none⟩ = some (.string nm) ∧ (ws31 bx nx cp bs nm ac ca n cap fa fn fc va vn vc W w2 s).cell? ⟨cp, 5, none⟩ = some (.slice ca n cap) ∧ (ws31 bx nx cp bs nm ac ca n cap fa fn fc va vn vc W w2 s).cell? ⟨cp, 7, none⟩ = some (ptr bs) ∧ (ws31 bx nx cp bs nm ac ca n cap fa fn fc va vn vc W w2 s).cell? ⟨bs, 1, none⟩ = some (.slice fa fn fc)) (hap : ∀ ty, (Builtin.append_ #[48, 48] ty #[.slice fa fn fc, .slice (some ⟨W.heap.size + 1, 0, none⟩) 1 1]).run Try.prog ((W.alloc (.cells #[.string nm, .int .i64 n, .int .i64 ac] 91)).alloc (.cells #[ptr W.heap.size] 29)) = .ok (.slice va vn vc) w2) (hfr : w2.frozen? ⟨bs, 1, none⟩ = false) : StepC Try.prog ops31 15 25 40 (tab31 bx nx cp bs nm ac ca n cap fa fn fc va vn vc W w2) [19, 20, 21, 24] (ws31 bx nx cp bs nm ac ca n cap fa fn fc va vn vc W w2) a0 23 := by
  intro Q listed a w hI hr
  have ho : ops31[23]? = some (Oper.mk _ _ _ _ _ _) := rfl
  obtain ⟨hsz, hdf, hfx, hls, _, hgot, hclo⟩ := id hI
  have p37 : a.tmps[37]? = some (.pointer (some ⟨bs, 0, none⟩)) := hgot 22 _ (before hr ho (e := ⟨22, .data⟩) (by simp) rfl) rfl
  refine wpOp_val ho rfl (v := .pointer (some ⟨bs, 1, none⟩)) (w' := w) ?_ (inC_val hI hr (by omega) (by omega) (by decide) rfl)
  simp [execOp, go_sem, p37, ptr]
theorem s31_24 (h2 : a0.tmps[2]? = some (.int .i64 ac)) (h3 : a0.tmps[3]? = some (ptr bx)) (h4 : a0.tmps[4]? = some (ptr nx)) (hF : ∀ s, s < 4 → (ws31 bx nx cp bs nm ac ca n cap fa fn fc va vn vc W w2 s).cell? ⟨bx, 0, none⟩ = some (ptr cp) ∧ (ws31 bx nx cp bs nm ac ca n cap fa fn fc va vn vc W w2 s).cell? ⟨nx, 0, none⟩ = some (.string nm) ∧ (ws31 bx nx cp bs nm ac ca n cap fa fn fc va vn vc W w2 s).cell? ⟨cp, 5, none⟩ = some (.slice ca n cap) ∧ (ws31 bx nx cp bs nm ac ca n cap fa fn fc va vn vc W w2 s).cell? ⟨cp, 7, none⟩ = some (ptr bs) ∧ (ws31 bx nx cp bs nm ac ca n cap fa fn fc va vn vc W w2 s).cell? ⟨bs, 1, none⟩ = some (.slice fa fn fc)) (hap : ∀ ty, (Builtin.append_ #[48, 48] ty #[.slice fa fn fc, .slice (some ⟨W.heap.size + 1, 0, none⟩) 1 1]).run Try.prog ((W.alloc (.cells #[.string nm, .int .i64 n, .int .i64 ac] 91)).alloc (.cells #[ptr W.heap.size] 29)) = .ok (.slice va vn vc) w2) (hfr : w2.frozen? ⟨bs, 1, none⟩ = false) : StepC Try.prog ops31 15 25 40 (tab31 bx nx cp bs nm ac ca n cap fa fn fc va vn vc W w2) [19, 20, 21, 24] (ws31 bx nx cp bs nm ac ca n cap fa fn fc va vn vc W w2) a0 24 := by
  intro Q listed a w hI hr
  have ho : ops31[24]? = some (Oper.mk _ _ _ _ _ _) := rfl
  obtain ⟨hsz, hdf, hfx, hls, _, hgot, hclo⟩ := id hI
  have p38 : a.tmps[38]? = some (.pointer (some ⟨bs, 1, none⟩)) := hgot 23 _ (before hr ho (e := ⟨23, .data⟩) (by simp) rfl) rfl
  have p36 : a.tmps[36]? = some (.slice va vn vc) := hgot 21 _ (before hr ho (e := ⟨21, .data⟩) (by simp) rfl) rfl
  have hp : ∀ u j, 3 = u + 1 → ([19, 20, 21, 24] : List Nat)[u]? = some j → listed.getD j false = true := (fun u j h hj => by have hu : u = 2 := (by omega); subst hu; cases hj; exact before hr ho (e := ⟨21, .data⟩) (by simp) rfl)
  have hw : w = ws31 bx nx cp bs nm ac ca n cap fa fn fc va vn vc W w2 3 := inC_at hI hr (t := 3) rfl hp
  rw [hw] at hI ⊢
  have c0 := (hF 3 (by omega)).2.2.2.2
  simp only [ws31] at c0
  refine wpOp_skip ho rfl (w' := ws31 bx nx cp bs nm ac ca n cap fa fn fc va vn vc W w2 4) ?_ (inC_none hI hr (by omega) (t := 3) rfl hp (by decide) rfl)
  simp [execOp, go_sem, ws31, c0, hfr, p38, p36]
theorem s31_all (h2 : a0.tmps[2]? = some (.int .i64 ac)) (h3 : a0.tmps[3]? = some (ptr bx)) (h4 : a0.tmps[4]? = some (ptr nx)) (hF : ∀ s, s < 4 → (ws31 bx nx cp bs nm ac ca n cap fa fn fc va vn vc W w2 s).cell? ⟨bx, 0, none⟩ = some (ptr cp) ∧ (ws31 bx nx cp bs nm ac ca n cap fa fn fc va vn vc W w2 s).cell? ⟨nx, 0, none⟩ = some (.string nm) ∧ (ws31 bx nx cp bs nm ac ca n cap fa fn fc va vn vc W w2 s).cell? ⟨cp, 5, none⟩ = some (.slice ca n cap) ∧ (ws31 bx nx cp bs nm ac ca n cap fa fn fc va vn vc W w2 s).cell? ⟨cp, 7, none⟩ = some (ptr bs) ∧ (ws31 bx nx cp bs nm ac ca n cap fa fn fc va vn vc W w2 s).cell? ⟨bs, 1, none⟩ = some (.slice fa fn fc)) (hap : ∀ ty, (Builtin.append_ #[48, 48] ty #[.slice fa fn fc, .slice (some ⟨W.heap.size + 1, 0, none⟩) 1 1]).run Try.prog ((W.alloc (.cells #[.string nm, .int .i64 n, .int .i64 ac] 91)).alloc (.cells #[ptr W.heap.size] 29)) = .ok (.slice va vn vc) w2) (hfr : w2.frozen? ⟨bs, 1, none⟩ = false) : ∀ i, i < 25 → StepC Try.prog ops31 15 25 40 (tab31 bx nx cp bs nm ac ca n cap fa fn fc va vn vc W w2) [19, 20, 21, 24] (ws31 bx nx cp bs nm ac ca n cap fa fn fc va vn vc W w2) a0 i := by
  intro i hi0
  match i, hi0 with
  | 0, _ => exact s31_0 h2 h3 h4 hF hap hfr
  | 1, _ => exact s31_1 h2 h3 h4 hF hap hfr
  | 2, _ => exact s31_2 h2 h3 h4 hF hap hfr
  | 3, _ => exact s31_3 h2 h3 h4 hF hap hfr
  | 4, _ => exact s31_4 h2 h3 h4 hF hap hfr
  | 5, _ => exact s31_5 h2 h3 h4 hF hap hfr
  | 6, _ => exact s31_6 h2 h3 h4 hF hap hfr
  | 7, _ => exact s31_7 h2 h3 h4 hF hap hfr
  | 8, _ => exact s31_8 h2 h3 h4 hF hap hfr
  | 9, _ => exact s31_9 h2 h3 h4 hF hap hfr
  | 10, _ => exact s31_10 h2 h3 h4 hF hap hfr
  | 11, _ => exact s31_11 h2 h3 h4 hF hap hfr
  | 12, _ => exact s31_12 h2 h3 h4 hF hap hfr
  | 13, _ => exact s31_13 h2 h3 h4 hF hap hfr
  | 14, _ => exact s31_14 h2 h3 h4 hF hap hfr
  | 15, _ => exact s31_15 h2 h3 h4 hF hap hfr
  | 16, _ => exact s31_16 h2 h3 h4 hF hap hfr
  | 17, _ => exact s31_17 h2 h3 h4 hF hap hfr
  | 18, _ => exact s31_18 h2 h3 h4 hF hap hfr
  | 19, _ => exact s31_19 h2 h3 h4 hF hap hfr
  | 20, _ => exact s31_20 h2 h3 h4 hF hap hfr
  | 21, _ => exact s31_21 h2 h3 h4 hF hap hfr
  | 22, _ => exact s31_22 h2 h3 h4 hF hap hfr
  | 23, _ => exact s31_23 h2 h3 h4 hF hap hfr
  | 24, _ => exact s31_24 h2 h3 h4 hF hap hfr
  | i + 25, hi => omega
theorem region31 (hn0 : a0.tmps.size = 40) (h2 : a0.tmps[2]? = some (.int .i64 ac)) (h3 : a0.tmps[3]? = some (ptr bx)) (h4 : a0.tmps[4]? = some (ptr nx)) (hF : ∀ s, s < 4 → (ws31 bx nx cp bs nm ac ca n cap fa fn fc va vn vc W w2 s).cell? ⟨bx, 0, none⟩ = some (ptr cp) ∧ (ws31 bx nx cp bs nm ac ca n cap fa fn fc va vn vc W w2 s).cell? ⟨nx, 0, none⟩ = some (.string nm) ∧ (ws31 bx nx cp bs nm ac ca n cap fa fn fc va vn vc W w2 s).cell? ⟨cp, 5, none⟩ = some (.slice ca n cap) ∧ (ws31 bx nx cp bs nm ac ca n cap fa fn fc va vn vc W w2 s).cell? ⟨cp, 7, none⟩ = some (ptr bs) ∧ (ws31 bx nx cp bs nm ac ca n cap fa fn fc va vn vc W w2 s).cell? ⟨bs, 1, none⟩ = some (.slice fa fn fc)) (hap : ∀ ty, (Builtin.append_ #[48, 48] ty #[.slice fa fn fc, .slice (some ⟨W.heap.size + 1, 0, none⟩) 1 1]).run Try.prog ((W.alloc (.cells #[.string nm, .int .i64 n, .int .i64 ac] 91)).alloc (.cells #[ptr W.heap.size] 29)) = .ok (.slice va vn vc) w2) (hfr : w2.frozen? ⟨bs, 1, none⟩ = false) (Q : Exit → Act → World → Prop) (hend : ∀ a : Act, a.tmps.size = 40 → a.defers = a0.defers → (∀ s, s < 15 → a.tmps[s]? = a0.tmps[s]?) → Q .normal a (w2.setCell ⟨bs, 1, none⟩ (.slice va vn vc))) : wpAny Try.prog .any ops31 Q 25 (Array.replicate 25 false) a0 W :=
  regionC (Ws := ws31 bx nx cp bs nm ac ca n cap fa fn fc va vn vc W w2) (c := [19, 20, 21, 24]) size31 back31 (by decide) (s31_all h2 h3 h4 hF hap hfr) hn0 Q hend
end
noncomputable def ops39 : Array Oper := match Try.f39.body with
  | some (.region _ ops _) => ops
  | _ => #[]
theorem size39 : ops39.size = 9 := by kernel_rfl
theorem back39 : edgesBack ops39 9 = true := by kernel_rfl
def tab39 (fx bx ix cx cp : Nat) (ii : Nat) (cg n cap : Nat) (m : Int) (W : World) : List Value := [.pointer (some ⟨cp, 0, none⟩), .pointer (some ⟨cp, 0, none⟩), .pointer (some ⟨cp, 5, none⟩), .slice (some ⟨cg, 0, none⟩) n cap, .int .i64 ii, .func (.func 36) #[] #[ptr cx], .pointer (some ⟨W.heap.size, 0, none⟩), .pointer (some ⟨cg, ii, none⟩)]
def ws39 (fx bx ix cx cp : Nat) (ii : Nat) (cg n cap : Nat) (m : Int) (W : World) : Nat → World
  | 0 => W
  | 1 => W.alloc (.cells #[.iface 3 (.int .i64 m), .int .i64 15] 87)
  | _ => (W.alloc (.cells #[.iface 3 (.int .i64 m), .int .i64 15] 87)).setCell ⟨cg, ii, none⟩ (ptr W.heap.size)
section
variable {fx bx ix cx cp : Nat} {ii : Nat} {cg n cap : Nat} {m : Int} {W : World} {a0 : Act}
theorem s39_0 (h0 : a0.tmps[0]? = some (ptr fx)) (h1 : a0.tmps[1]? = some (ptr bx)) (h2 : a0.tmps[2]? = some (ptr ix)) (hF : ∀ s, s < 2 → (ws39 fx bx ix cx cp ii cg n cap m W s).cell? ⟨bx, 0, none⟩ = some (ptr cp) ∧ (ws39 fx bx ix cx cp ii cg n cap m W s).cell? ⟨ix, 0, none⟩ = some (.int .i64 ii) ∧ (ws39 fx bx ix cx cp ii cg n cap m W s).cell? ⟨cp, 5, none⟩ = some (.slice (some ⟨cg, 0, none⟩) n cap) ∧ (ws39 fx bx ix cx cp ii cg n cap m W s).cell? ⟨fx, 0, none⟩ = some (.func (.func 36) #[] #[ptr cx])) (hc : Calls Try.prog 36 #[ptr cx] W (fun e w' => e = .returned (ptr W.heap.size) ∧ w' = W.alloc (.cells #[.iface 3 (.int .i64 m), .int .i64 15] 87))) (hi : ii < n) (hx : ((W.alloc (.cells #[.iface 3 (.int .i64 m), .int .i64 15] 87)).cell? ⟨cg, ii, none⟩).isSome = true) (hfr : (W.alloc (.cells #[.iface 3 (.int .i64 m), .int .i64 15] 87)).frozen? ⟨cg, ii, none⟩ = false) : StepC Try.prog ops39 3 9 11 (tab39 fx bx ix cx cp ii cg n cap m W) [6, 8] (ws39 fx bx ix cx cp ii cg n cap m W) a0 0 := by
  intro Q listed a w hI hr
  have ho : ops39[0]? = some (Oper.mk _ _ _ _ _ _) := rfl
  obtain ⟨hsz, hdf, hfx, hls, _, hgot, hclo⟩ := id hI
  have p1 : a.tmps[1]? = some (.pointer (some ⟨bx, 0, none⟩)) := (hfx 1 (by omega)).trans h1
  have hoz : ops39[8]? = some (Oper.mk _ _ _ _ _ _) := rfl
  obtain ⟨s, hw, hs⟩ := inC_ahead hI hr (t := 1) (z := 8) rfl hoz (e := ⟨0, .phase⟩) (by simp) rfl rfl
  have c0 := (hF s (by omega)).1
  rw [← hw] at c0
  refine wpOp_val ho rfl (v := .pointer (some ⟨cp, 0, none⟩)) (w' := w) ?_ (inC_val hI hr (by omega) (by omega) (by decide) rfl)
  simp [execOp, go_sem, p1, c0, ptr]
theorem s39_1 (h0 : a0.tmps[0]? = some (ptr fx)) (h1 : a0.tmps[1]? = some (ptr bx)) (h2 : a0.tmps[2]? = some (ptr ix)) (hF : ∀ s, s < 2 → (ws39 fx bx ix cx cp ii cg n cap m W s).cell? ⟨bx, 0, none⟩ = some (ptr cp) ∧ (ws39 fx bx ix cx cp ii cg n cap m W s).cell? ⟨ix, 0, none⟩ = some (.int .i64 ii) ∧ (ws39 fx bx ix cx cp ii cg n cap m W s).cell? ⟨cp, 5, none⟩ = some (.slice (some ⟨cg, 0, none⟩) n cap) ∧ (ws39 fx bx ix cx cp ii cg n cap m W s).cell? ⟨fx, 0, none⟩ = some (.func (.func 36) #[] #[ptr cx])) (hc : Calls Try.prog 36 #[ptr cx] W (fun e w' => e = .returned (ptr W.heap.size) ∧ w' = W.alloc (.cells #[.iface 3 (.int .i64 m), .int .i64 15] 87))) (hi : ii < n) (hx : ((W.alloc (.cells #[.iface 3 (.int .i64 m), .int .i64 15] 87)).cell? ⟨cg, ii, none⟩).isSome = true) (hfr : (W.alloc (.cells #[.iface 3 (.int .i64 m), .int .i64 15] 87)).frozen? ⟨cg, ii, none⟩ = false) : StepC Try.prog ops39 3 9 11 (tab39 fx bx ix cx cp ii cg n cap m W) [6, 8] (ws39 fx bx ix cx cp ii cg n cap m W) a0 1 := by
  intro Q listed a w hI hr
  have ho : ops39[1]? = some (Oper.mk _ _ _ _ _ _) := rfl
  obtain ⟨hsz, hdf, hfx, hls, _, hgot, hclo⟩ := id hI
  have p3 : a.tmps[3]? = some (.pointer (some ⟨cp, 0, none⟩)) := hgot 0 _ (before hr ho (e := ⟨0, .data⟩) (by simp) rfl) rfl
  refine wpOp_val ho rfl (v := .pointer (some ⟨cp, 0, none⟩)) (w' := w) ?_ (inC_val hI hr (by omega) (by omega) (by decide) rfl)
  simp [execOp, go_sem, p3, ptr]
theorem s39_2 (h0 : a0.tmps[0]? = some (ptr fx)) (h1 : a0.tmps[1]? = some (ptr bx)) (h2 : a0.tmps[2]? = some (ptr ix)) (hF : ∀ s, s < 2 → (ws39 fx bx ix cx cp ii cg n cap m W s).cell? ⟨bx, 0, none⟩ = some (ptr cp) ∧ (ws39 fx bx ix cx cp ii cg n cap m W s).cell? ⟨ix, 0, none⟩ = some (.int .i64 ii) ∧ (ws39 fx bx ix cx cp ii cg n cap m W s).cell? ⟨cp, 5, none⟩ = some (.slice (some ⟨cg, 0, none⟩) n cap) ∧ (ws39 fx bx ix cx cp ii cg n cap m W s).cell? ⟨fx, 0, none⟩ = some (.func (.func 36) #[] #[ptr cx])) (hc : Calls Try.prog 36 #[ptr cx] W (fun e w' => e = .returned (ptr W.heap.size) ∧ w' = W.alloc (.cells #[.iface 3 (.int .i64 m), .int .i64 15] 87))) (hi : ii < n) (hx : ((W.alloc (.cells #[.iface 3 (.int .i64 m), .int .i64 15] 87)).cell? ⟨cg, ii, none⟩).isSome = true) (hfr : (W.alloc (.cells #[.iface 3 (.int .i64 m), .int .i64 15] 87)).frozen? ⟨cg, ii, none⟩ = false) : StepC Try.prog ops39 3 9 11 (tab39 fx bx ix cx cp ii cg n cap m W) [6, 8] (ws39 fx bx ix cx cp ii cg n cap m W) a0 2 := by
  intro Q listed a w hI hr
  have ho : ops39[2]? = some (Oper.mk _ _ _ _ _ _) := rfl
  obtain ⟨hsz, hdf, hfx, hls, _, hgot, hclo⟩ := id hI
  have p4 : a.tmps[4]? = some (.pointer (some ⟨cp, 0, none⟩)) := hgot 1 _ (before hr ho (e := ⟨1, .data⟩) (by simp) rfl) rfl
  refine wpOp_val ho rfl (v := .pointer (some ⟨cp, 5, none⟩)) (w' := w) ?_ (inC_val hI hr (by omega) (by omega) (by decide) rfl)
  simp [execOp, go_sem, p4, ptr]
theorem s39_3 (h0 : a0.tmps[0]? = some (ptr fx)) (h1 : a0.tmps[1]? = some (ptr bx)) (h2 : a0.tmps[2]? = some (ptr ix)) (hF : ∀ s, s < 2 → (ws39 fx bx ix cx cp ii cg n cap m W s).cell? ⟨bx, 0, none⟩ = some (ptr cp) ∧ (ws39 fx bx ix cx cp ii cg n cap m W s).cell? ⟨ix, 0, none⟩ = some (.int .i64 ii) ∧ (ws39 fx bx ix cx cp ii cg n cap m W s).cell? ⟨cp, 5, none⟩ = some (.slice (some ⟨cg, 0, none⟩) n cap) ∧ (ws39 fx bx ix cx cp ii cg n cap m W s).cell? ⟨fx, 0, none⟩ = some (.func (.func 36) #[] #[ptr cx])) (hc : Calls Try.prog 36 #[ptr cx] W (fun e w' => e = .returned (ptr W.heap.size) ∧ w' = W.alloc (.cells #[.iface 3 (.int .i64 m), .int .i64 15] 87))) (hi : ii < n) (hx : ((W.alloc (.cells #[.iface 3 (.int .i64 m), .int .i64 15] 87)).cell? ⟨cg, ii, none⟩).isSome = true) (hfr : (W.alloc (.cells #[.iface 3 (.int .i64 m), .int .i64 15] 87)).frozen? ⟨cg, ii, none⟩ = false) : StepC Try.prog ops39 3 9 11 (tab39 fx bx ix cx cp ii cg n cap m W) [6, 8] (ws39 fx bx ix cx cp ii cg n cap m W) a0 3 := by
  intro Q listed a w hI hr
  have ho : ops39[3]? = some (Oper.mk _ _ _ _ _ _) := rfl
  obtain ⟨hsz, hdf, hfx, hls, _, hgot, hclo⟩ := id hI
  have p5 : a.tmps[5]? = some (.pointer (some ⟨cp, 5, none⟩)) := hgot 2 _ (before hr ho (e := ⟨2, .data⟩) (by simp) rfl) rfl
  have hoz : ops39[8]? = some (Oper.mk _ _ _ _ _ _) := rfl
  obtain ⟨s, hw, hs⟩ := inC_ahead hI hr (t := 1) (z := 8) rfl hoz (e := ⟨3, .phase⟩) (by simp) rfl rfl
  have c0 := (hF s (by omega)).2.2.1
  rw [← hw] at c0
  refine wpOp_val ho rfl (v := .slice (some ⟨cg, 0, none⟩) n cap) (w' := w) ?_ (inC_val hI hr (by omega) (by omega) (by decide) rfl)
  simp [execOp, go_sem, p5, c0, ptr]
theorem s39_4 (h0 : a0.tmps[0]? = some (ptr fx)) (h1 : a0.tmps[1]? = some (ptr bx)) (h2 : a0.tmps[2]? = some (ptr ix)) (hF : ∀ s, s < 2 → (ws39 fx bx ix cx cp ii cg n cap m W s).cell? ⟨bx, 0, none⟩ = some (ptr cp) ∧ (ws39 fx bx ix cx cp ii cg n cap m W s).cell? ⟨ix, 0, none⟩ = some (.int .i64 ii) ∧ (ws39 fx bx ix cx cp ii cg n cap m W s).cell? ⟨cp, 5, none⟩ = some (.slice (some ⟨cg, 0, none⟩) n cap) ∧ (ws39 fx bx ix cx cp ii cg n cap m W s).cell? ⟨fx, 0, none⟩ = some (.func (.func 36) #[] #[ptr cx])) (hc : Calls Try.prog 36 #[ptr cx] W (fun e w' => e = .returned (ptr W.heap.size) ∧ w' = W.alloc (.cells #[.iface 3 (.int .i64 m), .int .i64 15] 87))) (hi : ii < n) (hx : ((W.alloc (.cells #[.iface 3 (.int .i64 m), .int .i64 15] 87)).cell? ⟨cg, ii, none⟩).isSome = true) (hfr : (W.alloc (.cells #[.iface 3 (.int .i64 m), .int .i64 15] 87)).frozen? ⟨cg, ii, none⟩ = false) : StepC Try.prog ops39 3 9 11 (tab39 fx bx ix cx cp ii cg n cap m W) [6, 8] (ws39 fx bx ix cx cp ii cg n cap m W) a0 4 := by
  intro Q listed a w hI hr
  have ho : ops39[4]? = some (Oper.mk _ _ _ _ _ _) := rfl
  obtain ⟨hsz, hdf, hfx, hls, _, hgot, hclo⟩ := id hI
  have p2 : a.tmps[2]? = some (.pointer (some ⟨ix, 0, none⟩)) := (hfx 2 (by omega)).trans h2
  have hoz : ops39[8]? = some (Oper.mk _ _ _ _ _ _) := rfl
  obtain ⟨s, hw, hs⟩ := inC_ahead hI hr (t := 1) (z := 8) rfl hoz (e := ⟨4, .phase⟩) (by simp) rfl rfl
  have c0 := (hF s (by omega)).2.1
  rw [← hw] at c0
  refine wpOp_val ho rfl (v := .int .i64 ii) (w' := w) ?_ (inC_val hI hr (by omega) (by omega) (by decide) rfl)
  simp [execOp, go_sem, p2, c0, ptr]
theorem s39_5 (h0 : a0.tmps[0]? = some (ptr fx)) (h1 : a0.tmps[1]? = some (ptr bx)) (h2 : a0.tmps[2]? = some (ptr ix)) (hF : ∀ s, s < 2 → (ws39 fx bx ix cx cp ii cg n cap m W s).cell? ⟨bx, 0, none⟩ = some (ptr cp) ∧ (ws39 fx bx ix cx cp ii cg n cap m W s).cell? ⟨ix, 0, none⟩ = some (.int .i64 ii) ∧ (ws39 fx bx ix cx cp ii cg n cap m W s).cell? ⟨cp, 5, none⟩ = some (.slice (some ⟨cg, 0, none⟩) n cap) ∧ (ws39 fx bx ix cx cp ii cg n cap m W s).cell? ⟨fx, 0, none⟩ = some (.func (.func 36) #[] #[ptr cx])) (hc : Calls Try.prog 36 #[ptr cx] W (fun e w' => e = .returned (ptr W.heap.size) ∧ w' = W.alloc (.cells #[.iface 3 (.int .i64 m), .int .i64 15] 87))) (hi : ii < n) (hx : ((W.alloc (.cells #[.iface 3 (.int .i64 m), .int .i64 15] 87)).cell? ⟨cg, ii, none⟩).isSome = true) (hfr : (W.alloc (.cells #[.iface 3 (.int .i64 m), .int .i64 15] 87)).frozen? ⟨cg, ii, none⟩ = false) : StepC Try.prog ops39 3 9 11 (tab39 fx bx ix cx cp ii cg n cap m W) [6, 8] (ws39 fx bx ix cx cp ii cg n cap m W) a0 5 := by
  intro Q listed a w hI hr
  have ho : ops39[5]? = some (Oper.mk _ _ _ _ _ _) := rfl
  obtain ⟨hsz, hdf, hfx, hls, _, hgot, hclo⟩ := id hI
  have p0 : a.tmps[0]? = some (.pointer (some ⟨fx, 0, none⟩)) := (hfx 0 (by omega)).trans h0
  have hoz : ops39[8]? = some (Oper.mk _ _ _ _ _ _) := rfl
  obtain ⟨s, hw, hs⟩ := inC_ahead hI hr (t := 1) (z := 8) rfl hoz (e := ⟨5, .phase⟩) (by simp) rfl rfl
  have c0 := (hF s (by omega)).2.2.2
  rw [← hw] at c0
  refine wpOp_val ho rfl (v := .func (.func 36) #[] #[ptr cx]) (w' := w) ?_ (inC_val hI hr (by omega) (by omega) (by decide) rfl)
  simp [execOp, go_sem, p0, c0, ptr]
theorem s39_6 (h0 : a0.tmps[0]? = some (ptr fx)) (h1 : a0.tmps[1]? = some (ptr bx)) (h2 : a0.tmps[2]? = some (ptr ix)) (hF : ∀ s, s < 2 → (ws39 fx bx ix cx cp ii cg n cap m W s).cell? ⟨bx, 0, none⟩ = some (ptr cp) ∧ (ws39 fx bx ix cx cp ii cg n cap m W s).cell? ⟨ix, 0, none⟩ = some (.int .i64 ii) ∧ (ws39 fx bx ix cx cp ii cg n cap m W s).cell? ⟨cp, 5, none⟩ = some (.slice (some ⟨cg, 0, none⟩) n cap) ∧ (ws39 fx bx ix cx cp ii cg n cap m W s).cell? ⟨fx, 0, none⟩ = some (.func (.func 36) #[] #[ptr cx])) (hc : Calls Try.prog 36 #[ptr cx] W (fun e w' => e = .returned (ptr W.heap.size) ∧ w' = W.alloc (.cells #[.iface 3 (.int .i64 m), .int .i64 15] 87))) (hi : ii < n) (hx : ((W.alloc (.cells #[.iface 3 (.int .i64 m), .int .i64 15] 87)).cell? ⟨cg, ii, none⟩).isSome = true) (hfr : (W.alloc (.cells #[.iface 3 (.int .i64 m), .int .i64 15] 87)).frozen? ⟨cg, ii, none⟩ = false) : StepC Try.prog ops39 3 9 11 (tab39 fx bx ix cx cp ii cg n cap m W) [6, 8] (ws39 fx bx ix cx cp ii cg n cap m W) a0 6 := by
  intro Q listed a w hI hr
  have ho : ops39[6]? = some (Oper.mk _ _ _ _ _ _) := rfl
  obtain ⟨hsz, hdf, hfx, hls, _, hgot, hclo⟩ := id hI
  have p8 : a.tmps[8]? = some (.func (.func 36) #[] #[ptr cx]) := hgot 5 _ (before hr ho (e := ⟨5, .data⟩) (by simp) rfl) rfl
  have hp : ∀ u j, 0 = u + 1 → ([6, 8] : List Nat)[u]? = some j → listed.getD j false = true := (fun u j h _ => by omega)
  have hw : w = ws39 fx bx ix cx cp ii cg n cap m W 0 := inC_at hI hr (t := 0) rfl hp
  rw [hw] at hI ⊢
  refine wpOp_call' ho rfl (f := 36) (args := #[ptr cx]) ?_ (hc.mono (fun e w' h => ⟨_, h.1, by rw [h.2]; exact inC_put hI hr (by omega) (by omega) (t := 0) rfl hp (by decide) rfl⟩))
  simp [execOp, go_sem, ws39, ptr, p8]
theorem s39_7 (h0 : a0.tmps[0]? = some (ptr fx)) (h1 : a0.tmps[1]? = some (ptr bx)) (h2 : a0.tmps[2]? = some (ptr ix)) (hF : ∀ s, s < 2 → (ws39 fx bx ix cx cp ii cg n cap m W s).cell? ⟨bx, 0, none⟩ = some (ptr cp) ∧ (ws39 fx bx ix cx cp ii cg n cap m W s).cell? ⟨ix, 0, none⟩ = some (.int .i64 ii) ∧ (ws39 fx bx ix cx cp ii cg n cap m W s).cell? ⟨cp, 5, none⟩ = some (.slice (some ⟨cg, 0, none⟩) n cap) ∧ (ws39 fx bx ix cx cp ii cg n cap m W s).cell? ⟨fx, 0, none⟩ = some (.func (.func 36) #[] #[ptr cx])) (hc : Calls Try.prog 36 #[ptr cx] W (fun e w' => e = .returned (ptr W.heap.size) ∧ w' = W.alloc (.cells #[.iface 3 (.int .i64 m), .int .i64 15] 87))) (hi : ii < n) (hx : ((W.alloc (.cells #[.iface 3 (.int .i64 m), .int .i64 15] 87)).cell? ⟨cg, ii, none⟩).isSome = true) (hfr : (W.alloc (.cells #[.iface 3 (.int .i64 m), .int .i64 15] 87)).frozen? ⟨cg, ii, none⟩ = false) : StepC Try.prog ops39 3 9 11 (tab39 fx bx ix cx cp ii cg n cap m W) [6, 8] (ws39 fx bx ix cx cp ii cg n cap m W) a0 7 := by
  intro Q listed a w hI hr
  have ho : ops39[7]? = some (Oper.mk _ _ _ _ _ _) := rfl
  obtain ⟨hsz, hdf, hfx, hls, _, hgot, hclo⟩ := id hI
  have p6 : a.tmps[6]? = some (.slice (some ⟨cg, 0, none⟩) n cap) := hgot 3 _ (before hr ho (e := ⟨3, .data⟩) (by simp) rfl) rfl
  have p7 : a.tmps[7]? = some (.int .i64 ii) := hgot 4 _ (before hr ho (e := ⟨4, .data⟩) (by simp) rfl) rfl
  refine wpOp_val ho rfl (v := .pointer (some ⟨cg, ii, none⟩)) (w' := w) ?_ (inC_val hI hr (by omega) (by omega) (by decide) rfl)
  simp [execOp, go_sem, p6, p7, ptr]
  intro h; omega
theorem s39_8 (h0 : a0.tmps[0]? = some (ptr fx)) (h1 : a0.tmps[1]? = some (ptr bx)) (h2 : a0.tmps[2]? = some (ptr ix)) (hF : ∀ s, s < 2 → (ws39 fx bx ix cx cp ii cg n cap m W s).cell? ⟨bx, 0, none⟩ = some (ptr cp) ∧ (ws39 fx bx ix cx cp ii cg n cap m W s).cell? ⟨ix, 0, none⟩ = some (.int .i64 ii) ∧ (ws39 fx bx ix cx cp ii cg n cap m W s).cell? ⟨cp, 5, none⟩ = some (.slice (some ⟨cg, 0, none⟩) n cap) ∧ (ws39 fx bx ix cx cp ii cg n cap m W s).cell? ⟨fx, 0, none⟩ = some (.func (.func 36) #[] #[ptr cx])) (hc : Calls Try.prog 36 #[ptr cx] W (fun e w' => e = .returned (ptr W.heap.size) ∧ w' = W.alloc (.cells #[.iface 3 (.int .i64 m), .int .i64 15] 87))) (hi : ii < n) (hx : ((W.alloc (.cells #[.iface 3 (.int .i64 m), .int .i64 15] 87)).cell? ⟨cg, ii, none⟩).isSome = true) (hfr : (W.alloc (.cells #[.iface 3 (.int .i64 m), .int .i64 15] 87)).frozen? ⟨cg, ii, none⟩ = false) : StepC Try.prog ops39 3 9 11 (tab39 fx bx ix cx cp ii cg n cap m W) [6, 8] (ws39 fx bx ix cx cp ii cg n cap m W) a0 8 := by
  intro Q listed a w hI hr
  have ho : ops39[8]? = some (Oper.mk _ _ _ _ _ _) := rfl
  obtain ⟨hsz, hdf, hfx, hls, _, hgot, hclo⟩ := id hI
  have p10 : a.tmps[10]? = some (.pointer (some ⟨cg, ii, none⟩)) := hgot 7 _ (before hr ho (e := ⟨7, .data⟩) (by simp) rfl) rfl
  have p9 : a.tmps[9]? = some (.pointer (some ⟨W.heap.size, 0, none⟩)) := hgot 6 _ (before hr ho (e := ⟨6, .data⟩) (by simp) rfl) rfl
  have hp : ∀ u j, 1 = u + 1 → ([6, 8] : List Nat)[u]? = some j → listed.getD j false = true := (fun u j h hj => by have hu : u = 0 := (by omega); subst hu; cases hj; exact before hr ho (e := ⟨6, .data⟩) (by simp) rfl)
  have hw : w = ws39 fx bx ix cx cp ii cg n cap m W 1 := inC_at hI hr (t := 1) rfl hp
  rw [hw] at hI ⊢
  obtain ⟨cv, c0⟩ := Option.isSome_iff_exists.1 hx
  refine wpOp_skip ho rfl (w' := ws39 fx bx ix cx cp ii cg n cap m W 2) ?_ (inC_none hI hr (by omega) (t := 1) rfl hp (by decide) rfl)
  simp [execOp, go_sem, ws39, ptr, c0, hfr, p10, p9]
theorem s39_all (h0 : a0.tmps[0]? = some (ptr fx)) (h1 : a0.tmps[1]? = some (ptr bx)) (h2 : a0.tmps[2]? = some (ptr ix)) (hF : ∀ s, s < 2 → (ws39 fx bx ix cx cp ii cg n cap m W s).cell? ⟨bx, 0, none⟩ = some (ptr cp) ∧ (ws39 fx bx ix cx cp ii cg n cap m W s).cell? ⟨ix, 0, none⟩ = some (.int .i64 ii) ∧ (ws39 fx bx ix cx cp ii cg n cap m W s).cell? ⟨cp, 5, none⟩ = some (.slice (some ⟨cg, 0, none⟩) n cap) ∧ (ws39 fx bx ix cx cp ii cg n cap m W s).cell? ⟨fx, 0, none⟩ = some (.func (.func 36) #[] #[ptr cx])) (hc : Calls Try.prog 36 #[ptr cx] W (fun e w' => e = .returned (ptr W.heap.size) ∧ w' = W.alloc (.cells #[.iface 3 (.int .i64 m), .int .i64 15] 87))) (hi : ii < n) (hx : ((W.alloc (.cells #[.iface 3 (.int .i64 m), .int .i64 15] 87)).cell? ⟨cg, ii, none⟩).isSome = true) (hfr : (W.alloc (.cells #[.iface 3 (.int .i64 m), .int .i64 15] 87)).frozen? ⟨cg, ii, none⟩ = false) : ∀ i, i < 9 → StepC Try.prog ops39 3 9 11 (tab39 fx bx ix cx cp ii cg n cap m W) [6, 8] (ws39 fx bx ix cx cp ii cg n cap m W) a0 i := by
  intro i hi0
  match i, hi0 with
  | 0, _ => exact s39_0 h0 h1 h2 hF hc hi hx hfr
  | 1, _ => exact s39_1 h0 h1 h2 hF hc hi hx hfr
  | 2, _ => exact s39_2 h0 h1 h2 hF hc hi hx hfr
  | 3, _ => exact s39_3 h0 h1 h2 hF hc hi hx hfr
  | 4, _ => exact s39_4 h0 h1 h2 hF hc hi hx hfr
  | 5, _ => exact s39_5 h0 h1 h2 hF hc hi hx hfr
  | 6, _ => exact s39_6 h0 h1 h2 hF hc hi hx hfr
  | 7, _ => exact s39_7 h0 h1 h2 hF hc hi hx hfr
  | 8, _ => exact s39_8 h0 h1 h2 hF hc hi hx hfr
  | i + 9, hi => omega
theorem region39 (hn0 : a0.tmps.size = 11) (h0 : a0.tmps[0]? = some (ptr fx)) (h1 : a0.tmps[1]? = some (ptr bx)) (h2 : a0.tmps[2]? = some (ptr ix)) (hF : ∀ s, s < 2 → (ws39 fx bx ix cx cp ii cg n cap m W s).cell? ⟨bx, 0, none⟩ = some (ptr cp) ∧ (ws39 fx bx ix cx cp ii cg n cap m W s).cell? ⟨ix, 0, none⟩ = some (.int .i64 ii) ∧ (ws39 fx bx ix cx cp ii cg n cap m W s).cell? ⟨cp, 5, none⟩ = some (.slice (some ⟨cg, 0, none⟩) n cap) ∧ (ws39 fx bx ix cx cp ii cg n cap m W s).cell? ⟨fx, 0, none⟩ = some (.func (.func 36) #[] #[ptr cx])) (hc : Calls Try.prog 36 #[ptr cx] W (fun e w' => e = .returned (ptr W.heap.size) ∧ w' = W.alloc (.cells #[.iface 3 (.int .i64 m), .int .i64 15] 87))) (hi : ii < n) (hx : ((W.alloc (.cells #[.iface 3 (.int .i64 m), .int .i64 15] 87)).cell? ⟨cg, ii, none⟩).isSome = true) (hfr : (W.alloc (.cells #[.iface 3 (.int .i64 m), .int .i64 15] 87)).frozen? ⟨cg, ii, none⟩ = false) (Q : Exit → Act → World → Prop) (hend : ∀ a : Act, a.tmps.size = 11 → a.defers = a0.defers → (∀ s, s < 3 → a.tmps[s]? = a0.tmps[s]?) → Q .normal a ((W.alloc (.cells #[.iface 3 (.int .i64 m), .int .i64 15] 87)).setCell ⟨cg, ii, none⟩ (ptr W.heap.size))) : wpAny Try.prog .any ops39 Q 9 (Array.replicate 9 false) a0 W :=
  regionC (Ws := ws39 fx bx ix cx cp ii cg n cap m W) (c := [6, 8]) size39 back39 (by decide) (s39_all h0 h1 h2 hF hc hi hx hfr) hn0 Q hend
end
end Go.Proofs.Ytdjlkehdjlaojaa
