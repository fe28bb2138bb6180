/- The compiler behind compileLast, as the law reads it. -/
import Derived.Test.YtdjlkehdjlaojaaGe48
namespace Go.Proofs.Ytdjlkehdjlaojaa
open Go.RowKit
set_option linter.unusedVariables false
set_option linter.unusedSimpArgs false

def opT (m : Nat) : Int := ([23, 6, 6, 1, 6, 5, 9, 5, 22, 6, 1, 6, 14, 2, 5, 16, 14, 5, 24] : List Int).getD m 0
def vT (k : Int) (n m : Nat) : Value := match (last19 k n)[m]? with
  | some (.tuple cs) => cs.getD 0 undef
  | _ => undef
theorem last19_at (k : Int) (n m : Nat) (hm : m < 19) : (last19 k n)[m]? = some (.tuple #[vT k n m, .int .i64 (opT m)]) := by
  match m, hm with
  | 0, _ => rfl
  | 1, _ => rfl
  | 2, _ => rfl
  | 3, _ => rfl
  | 4, _ => rfl
  | 5, _ => rfl
  | 6, _ => rfl
  | 7, _ => rfl
  | 8, _ => rfl
  | 9, _ => rfl
  | 10, _ => rfl
  | 11, _ => rfl
  | 12, _ => rfl
  | 13, _ => rfl
  | 14, _ => rfl
  | 15, _ => rfl
  | 16, _ => rfl
  | 17, _ => rfl
  | 18, _ => rfl
  | m + 19, h => omega
theorem opT_pos (m : Nat) (hm : m < 19) : 0 ≤ opT m ∧ (decide (opT m = 9 ∨ opT m = 15 ∨ opT m = 16) = true → m = 6 ∨ m = 15) := by
  match m, hm with
  | 0, _ => decide
  | 1, _ => decide
  | 2, _ => decide
  | 3, _ => decide
  | 4, _ => decide
  | 5, _ => decide
  | 6, _ => decide
  | 7, _ => decide
  | 8, _ => decide
  | 9, _ => decide
  | 10, _ => decide
  | 11, _ => decide
  | 12, _ => decide
  | 13, _ => decide
  | 14, _ => decide
  | 15, _ => decide
  | 16, _ => decide
  | 17, _ => decide
  | 18, _ => decide
  | m + 19, h => omega
def OO (N i : Nat) : Int := if i < N then 0 else if i = N then 15 else opT (i - N - 1)
def VV (N : Nat) (k : Int) (i : Nat) : Value := if i < N then .nilIface else if i = N then .iface 3 (.int .i64 (N + 20 : Nat)) else vT k (N + 1) (i - N - 1)
def Fin3 (N : Nat) (k : Int) (cp bs fp cg cap g gcap : Nat) (w : World) : Prop :=
  w.cell? ⟨cp, 5, none⟩ = some (.slice (some ⟨cg, 0, none⟩) (N + 20) cap) ∧ (∀ i, i < N + 20 → ∃ p, w.cell? ⟨cg, i, none⟩ = some (ptr p) ∧ w.cell? ⟨p, 0, none⟩ = some (VV N k i) ∧ w.cell? ⟨p, 1, none⟩ = some (.int .i64 (OO N i))) ∧ w.cell? ⟨cp, 7, none⟩ = some (ptr bs) ∧ w.cell? ⟨bs, 1, none⟩ = some (.slice (some ⟨g, 0, none⟩) 1 gcap) ∧ w.cell? ⟨g, 0, none⟩ = some (ptr fp) ∧ w.cell? ⟨fp, 0, none⟩ = some (.string ⟨#[95, 108, 97, 115, 116]⟩) ∧ w.cell? ⟨fp, 1, none⟩ = some (.int .i64 (N + 1 : Nat)) ∧ w.cell? ⟨fp, 2, none⟩ = some (.int .i64 1) ∧ w.cell? ⟨cp, 9, none⟩ = some (.int .i64 (wrap64 (k + 1)))
theorem Fin3.on {N : Nat} {k : Int} {cp bs fp cg cap g gcap : Nat} {w w' : World} (h : Fin3 N k cp bs fp cg cap g gcap w) (hb : Below w.heap.size w w') : Fin3 N k cp bs fp cg cap g gcap w' := by
  obtain ⟨h1, h2, h3, h4, h5, h6, h7, h8, h9⟩ := h
  refine ⟨cell_stay hb h1, fun i hi => ?_, cell_stay hb h3, cell_stay hb h4, cell_stay hb h5, cell_stay hb h6, cell_stay hb h7, cell_stay hb h8, cell_stay hb h9⟩
  obtain ⟨p, g1, g2, g3⟩ := h2 i hi
  exact ⟨p, cell_stay hb g1, cell_stay hb g2, cell_stay hb g3⟩
theorem zop {N : Nat} {k : Int} {cp bs fp cg cap g gcap : Nat} {w : World} (h : Fin3 N k cp bs fp cg cap g gcap w) (hN : N ≤ 100000) (j : Nat) (hj : j < N + 20) (o : Int) (ho : OO N j = o) : Calls Try.prog 10 #[ptr cp, .int .i64 j] w fun e w' => e = .returned (.int .i64 o) ∧ w' = w := by
  obtain ⟨p, g1, g2, g3⟩ := h.2.1 j hj
  rw [ho] at g3
  exact zzOp_any cp cg (N + 20) cap j p w h.1 hj g1 o (by omega) g3
theorem zint {N : Nat} {k : Int} {cp bs fp cg cap g gcap : Nat} {w : World} (h : Fin3 N k cp bs fp cg cap g gcap w) (j : Nat) (hj : j < N + 20) (m : Int) (hm : VV N k j = .iface 3 (.int .i64 m)) : Calls Try.prog 11 #[ptr cp, .int .i64 j] w fun e w' => e = .returned (.tuple #[.int .i64 m, .bool true]) ∧ w' = w := by
  obtain ⟨p, g1, g2, g3⟩ := h.2.1 j hj
  rw [hm] at g2
  exact codeInt_any cp cg (N + 20) cap j p w h.1 hj g1 m g2
theorem ztriple {N : Nat} {k : Int} {cp bs fp cg cap g gcap : Nat} {w : World} (h : Fin3 N k cp bs fp cg cap g gcap w) (j : Nat) (hj : j < N + 20) (x y z : Int) (hm : VV N k j = .iface 32 (.agg #[.int .i64 x, .int .i64 y, .int .i64 z])) : Calls Try.prog 16 #[ptr cp, .int .i64 j] w fun e w' => e = .returned (.tuple #[.agg #[.int .i64 x, .int .i64 y, .int .i64 z], .bool true]) ∧ Below w.heap.size w w' := by
  obtain ⟨p, g1, g2, g3⟩ := h.2.1 j hj
  rw [hm] at g2
  exact codeTriple_any cp cg (N + 20) cap j p w h.1 hj g1 x y z g2
theorem zpair {N : Nat} {k : Int} {cp bs fp cg cap g gcap : Nat} {w : World} (h : Fin3 N k cp bs fp cg cap g gcap w) (hN : N ≤ 100000) (j : Nat) (hj : j < N + 20) (x y o : Int) (ho : OO N j = o) (ho0 : 0 ≤ o) (hm : VV N k j = .iface 92 (.agg #[.int .i64 x, .int .i64 y])) : Calls Try.prog 17 #[ptr cp, .int .i64 j, .int .i64 x, .int .i64 y] w fun e w' => e = .returned (.bool true) ∧ Below w.heap.size w w' := by
  obtain ⟨p, g1, g2, g3⟩ := h.2.1 j hj
  rw [hm] at g2
  rw [ho] at g3
  exact pairIs_any cp cg (N + 20) cap j p w h.1 hj g1 x y o (by omega) g3 ho0 g2
theorem OO_at (N m : Nat) : OO N (N + (m + 1)) = opT m := by
  unfold OO
  rw [if_neg (by omega), if_neg (by omega), show N + (m + 1) - N - 1 = m by omega]
theorem VV_at (N m : Nat) (k : Int) : VV N k (N + (m + 1)) = vT k (N + 1) m := by
  unfold VV
  rw [if_neg (by omega), if_neg (by omega), show N + (m + 1) - N - 1 = m by omega]
theorem OO_N (N : Nat) : OO N N = 15 := by unfold OO; rw [if_neg (by omega), if_pos rfl]
theorem VV_N (N : Nat) (k : Int) : VV N k N = .iface 3 (.int .i64 ((N : Int) + 20)) := by unfold VV; rw [if_neg (by omega), if_pos rfl]; rfl
theorem OO_lt {N i : Nat} (h : i < N) : OO N i = 0 := by unfold OO; rw [if_pos h]
/-- All codes so far are no-ops. -/
def Nops (xs : List Value) (w : World) : Prop := ∀ (j : Nat) (u : Value), xs[j]? = some u → ∃ p, u = ptr p ∧ Nd p 87 #[.nilIface, .int .i64 0] w
theorem ClE.below {cp bs base n : Nat} {k : Int} {xs : List Value} {w w' : World} {e : Ending} (h : ClE cp bs base n k xs w e w') : ∀ B, B ≤ cp → B ≤ bs → Below B w w' := by
  obtain ⟨_, C', S', v3, v2, fp, jp, ps, _, _, _, _, _, _, _, _, _, _, _, _, _, h⟩ := h
  exact h
theorem fin3_of {cp bs base N : Nat} {k : Int} {xs : List Value} {w w' : World} {e : Ending} (h : ClE cp bs base N k xs w e w') (hx : Nops xs w) (hl : xs.length = N) : ∃ fp cg cap g gcap, Fin3 N k cp bs fp cg cap g gcap w' := by
  obtain ⟨_, C', S', v3, v2, fp, jp, ps, nC, h5, h7, h9, own, njp, hps, hbx, nS, hs1, ownF, nfp, hkeep, _⟩ := h
  obtain ⟨cg, cap, rfl⟩ : ∃ cg c5, v3 = .slice (some ⟨cg, 0, none⟩) (N + 20) c5 := by
    rcases own.2 with ⟨_, h⟩ | ⟨g, cap5, cur, h, _⟩
    · omega
    · exact ⟨g, cap5, h⟩
  obtain ⟨g, gcap, rfl⟩ : ∃ cg c5, v2 = .slice (some ⟨cg, 0, none⟩) 1 c5 := by
    rcases ownF.2 with ⟨_, h⟩ | ⟨g, cap5, cur, h, _⟩
    · omega
    · exact ⟨g, cap5, h⟩
  refine ⟨fp, cg, cap, g, gcap, nC.cell 5 h5, ?_, nC.cell 7 h7, nS.cell 1 hs1, by rw [ownF.cellAt 0 (by omega)]; rfl, nfp.cell 0 rfl, nfp.cell 1 rfl, nfp.cell 2 rfl, nC.cell 9 h9⟩
  intro i hi
  have hc := own.cellAt i (by omega)
  by_cases h1 : i < N
  · rw [List.getElem?_append_left (by omega), List.getElem?_eq_getElem (by omega)] at hc
    obtain ⟨p, hp, hn⟩ := hx i _ (List.getElem?_eq_getElem (by omega))
    rw [hp] at hc
    have hn' := hkeep p _ hn
    refine ⟨p, hc, ?_, ?_⟩
    · unfold VV; rw [if_pos h1]; exact hn'.cell 0 rfl
    · unfold OO; rw [if_pos h1]; exact hn'.cell 1 rfl
  · rw [List.getElem?_append_right (by omega), hl] at hc
    by_cases h2 : i = N
    · subst h2
      rw [Nat.sub_self] at hc
      refine ⟨jp, hc, ?_, ?_⟩
      · unfold VV; rw [if_neg h1, if_pos rfl]; exact njp.cell 0 rfl
      · unfold OO; rw [if_neg h1, if_pos rfl]; exact njp.cell 1 rfl
    · obtain ⟨m, hm⟩ : ∃ m, i - N = m + 1 := ⟨i - N - 1, by omega⟩
      rw [hm, List.getElem?_cons_succ, List.getElem?_map, List.getElem?_eq_getElem (by omega)] at hc
      have hm19 : m < 19 := by omega
      obtain ⟨cs, q1, q2⟩ := hbx m ps[m] (List.getElem?_eq_getElem (by omega))
      rw [last19_at k (N + 1) m hm19] at q1
      have q3 : cs = #[vT k (N + 1) m, .int .i64 (opT m)] := by
        have := Option.some.inj q1
        cases this
        rfl
      rw [q3] at q2
      refine ⟨ps[m], hc, ?_, ?_⟩
      · unfold VV; rw [if_neg h1, if_neg h2, show i - N - 1 = m by omega]; exact q2.cell 0 rfl
      · unfold OO; rw [if_neg h1, if_neg h2, show i - N - 1 = m by omega]; exact q2.cell 1 rfl
end Go.Proofs.Ytdjlkehdjlaojaa
