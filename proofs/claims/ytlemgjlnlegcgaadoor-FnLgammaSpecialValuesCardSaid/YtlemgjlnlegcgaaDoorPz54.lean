/- math.Lgamma at 1, 2, tiny and great numbers. -/
import Derived.Test.YtlemgjlnlegcgaaDoorCv54
import Derived.Test.YtlemgjlnlegcgaaDoorLq54
namespace Go.Proofs.YtlemgjlnlegcgaaDoor
open Go.RowKit
open FL
open Go.Extern
set_option linter.unusedVariables false
set_option linter.unusedSimpArgs false

theorem eql_t {x c : Nat} (h : x = c) (hc : c < 2047 * 2 ^ 52) : (FloatKind.f64.format.order x c == some .eq) = true := by
  subst h
  rw [ord_w hc hc, Nat.compare_eq_eq.2 rfl]; rfl
set_option maxRecDepth 100000 in
theorem lgOne (x : Nat) (hx : x = 4607182418800017408) (w : World) : Calls Tryd.prog 11 #[.float .f64 x] w fun e w' => e = .returned (.tuple #[.float .f64 0, .int .i64 1]) ∧ w' = w := by
  have hfx : x < 2047 * 2 ^ 52 := by omega
  have o0 := lss_f (x := x) (c := 4291930444884082688) (by omega) hfx
  have o1 := eql_t (x := x) (c := 4607182418800017408) (by omega) (by decide)
  have ozl := lss_f (x := x) (c := 0) (by omega) hfx
  have oze := eql_f (x := x) (c := 0) (.inr (by omega)) hfx (by decide)
  have HI := Lib.hid (isInf_fin x (by omega) (by unfold Fnt rung; omega) w)
  have HN := Lib.hid (isNaN_any x w)
  rw [order_self (x := x) (by unfold Fnt rung; omega)] at HN
  clear hx hfx
  go_enter Tryd.func11, Tryd.ntmps11
  go_wp2_with fail
  refine HN.out.mono ?_
  rintro e w1 ⟨rfl, hw⟩
  obtain rfl : w = w1 := hw.symm
  go_wp2_with fail
  refine HI.out.mono ?_
  rintro e w1 ⟨rfl, hw⟩
  obtain rfl : w = w1 := hw.symm
  go_wp2_with fail
  go_returns
  exact ⟨rfl, rfl⟩
set_option maxRecDepth 100000 in
theorem lgTwo (x : Nat) (hx : x = 4611686018427387904) (w : World) : Calls Tryd.prog 11 #[.float .f64 x] w fun e w' => e = .returned (.tuple #[.float .f64 0, .int .i64 1]) ∧ w' = w := by
  have hfx : x < 2047 * 2 ^ 52 := by omega
  have o0 := lss_f (x := x) (c := 4291930444884082688) (by omega) hfx
  have o1 := eql_f (x := x) (c := 4607182418800017408) (.inr (by omega)) hfx (by decide)
  have o2 := eql_t (x := x) (c := 4611686018427387904) (by omega) (by decide)
  have ozl := lss_f (x := x) (c := 0) (by omega) hfx
  have oze := eql_f (x := x) (c := 0) (.inr (by omega)) hfx (by decide)
  have HI := Lib.hid (isInf_fin x (by omega) (by unfold Fnt rung; omega) w)
  have HN := Lib.hid (isNaN_any x w)
  rw [order_self (x := x) (by unfold Fnt rung; omega)] at HN
  clear hx hfx
  go_enter Tryd.func11, Tryd.ntmps11
  go_wp2_with fail
  refine HN.out.mono ?_
  rintro e w1 ⟨rfl, hw⟩
  obtain rfl : w = w1 := hw.symm
  go_wp2_with fail
  refine HI.out.mono ?_
  rintro e w1 ⟨rfl, hw⟩
  obtain rfl : w = w1 := hw.symm
  go_wp2_with fail
  go_returns
  exact ⟨rfl, rfl⟩
set_option maxRecDepth 100000 in
theorem lgTiny (x L : Nat) (h1 : 1 ≤ x) (h2 : x < 4291930444884082688) (hL : MathLog.archLog #[.float .f64 x] = pure (.float .f64 L)) (w : World) : Calls Tryd.prog 11 #[.float .f64 x] w fun e w' => e = .returned (.tuple #[.float .f64 (negw L), .int .i64 1]) ∧ w' = w := by
  have hfx : x < 2047 * 2 ^ 52 := by omega
  have o0 := lss_t (x := x) (c := 4291930444884082688) (by omega) (by decide)
  have ozl := lss_f (x := x) (c := 0) (by omega) hfx
  have oze := eql_f (x := x) (c := 0) (.inr (by omega)) hfx (by decide)
  have HI := Lib.hid (isInf_fin x (by omega) (by unfold Fnt rung; omega) w)
  have HN := Lib.hid (isNaN_any x w)
  rw [order_self (x := x) (by unfold Fnt rung; omega)] at HN
  have HL := Lib.hid (log_call hL w)
  obtain ⟨r, hr⟩ : ∃ r, negw L = r := ⟨_, rfl⟩
  have f1 : ∀ w, Sem.run Tryd.prog (Op.unary .neg (.float .f64 L)) w = .ok (.float .f64 r) w := fun w => run_neg w hr
  rw [hr]
  clear h1 h2 hfx hL hr
  go_enter Tryd.func11, Tryd.ntmps11
  go_wp2_with fail
  refine HN.out.mono ?_
  rintro e w1 ⟨rfl, hw⟩
  obtain rfl : w = w1 := hw.symm
  go_wp2_with fail
  refine HI.out.mono ?_
  rintro e w1 ⟨rfl, hw⟩
  obtain rfl : w = w1 := hw.symm
  go_wp2_with fail
  refine HL.out.mono ?_
  rintro e w1 ⟨rfl, hw⟩
  obtain rfl : w = w1 := hw.symm
  go_wp2_with fail
  go_returns
  exact ⟨rfl, rfl⟩
/-- Positive, and no NaN. -/
def PosR (r : Nat) : Prop := 0 < r ∧ r ≤ 2047 * 2 ^ 52
/-- Finite and negative. -/
def NegR (r : Nat) : Prop := r < 2 ^ 64 ∧ Fnt r ∧ SV r < 0
theorem posR_of {r : Nat} {p : Nat × Nat} (hg : pos p = true) (h : In p.1 p.2 r) : PosR r ∧ Fnt r := by
  obtain ⟨h64, hf, h1, _⟩ := h
  have hp : 0 < SV p.1 := of_decide_eq_true hg
  have sz : sg r = false := by
    cases e : sg r
    · rfl
    · rw [SV_neg e] at h1; omega
  have hz : r < 2 ^ 63 := by
    unfold sg at sz
    rcases Nat.lt_or_ge r (2 ^ 63) with h' | h'
    · exact h'
    · have : r / 2 ^ 63 % 2 = 1 := by omega
      rw [this] at sz
      cases sz
  have hf2 : r < 2047 * 2 ^ 52 := by unfold Fnt rung at hf; omega
  refine ⟨⟨?_, by omega⟩, hf⟩
  rcases Nat.eq_zero_or_pos r with h0 | h0
  · subst h0
    have : SV 0 = 0 := by decide +kernel
    omega
  · exact h0
theorem good_pos {e : List Nat} {r : Nat} {e' : List Nat} (h : Good pos e) (he : e = r :: e') : PosR r ∧ Fnt r := by
  obtain ⟨r', e'', p, h1, hg, hi⟩ := h
  rw [h1] at he
  obtain ⟨rfl, _⟩ := List.cons.inj he
  exact posR_of hg hi
theorem good_neg {e : List Nat} {r : Nat} {e' : List Nat} (h : Good neg e) (he : e = r :: e') : NegR r := by
  obtain ⟨r', e'', p, h1, hg, hi⟩ := h
  rw [h1] at he
  obtain ⟨rfl, _⟩ := List.cons.inj he
  have hp : SV p.2 < 0 := of_decide_eq_true hg
  exact ⟨hi.1, hi.2.1, by have := hi.2.2.2; omega⟩
theorem near_inf (neg : Bool) (mag t : Nat) : rung (Ieee.double.nearest neg mag ((t : Int) - 3000)) ≤ 2047 * 2 ^ 52 := by
  by_cases h0 : mag = 0
  · subst h0
    unfold Ieee.Format.nearest
    rw [if_pos rfl, rung_word neg (by omega)]
    omega
  · obtain ⟨r, hr, _⟩ := near_eq neg (t := t) h0
    rw [hr, rung_word neg (Nat.min_le_right _ _)]
    exact Nat.min_le_right _ _
set_option maxRecDepth 100000 in
/-- Of great numbers the product may be infinite. -/
theorem mul_great {x y : Nat} (hx1 : 1081 * 2 ^ 52 ≤ x) (hx2 : x < 2047 * 2 ^ 52) (hy : 1023 * 2 ^ 52 ≤ y) (hy2 : y < 2047 * 2 ^ 52) : ∃ r, Ieee.double.mul x y = some r ∧ PosR r := by
  have rx : rung x = x := rung_small (by omega)
  have ry : rung y = y := rung_small (by omega)
  obtain ⟨r, mag, t, c, h, hr, hc, hm⟩ := mul_rnd (x := x) (y := y) (by unfold Fnt; omega) (by unfold Fnt; omega)
  rw [sg_small (by omega : x < 2 ^ 63), sg_small (by omega : y < 2 ^ 63)] at hr
  have hr : r = Ieee.double.nearest false mag ((t : Int) - 3000) := hr
  refine ⟨r, h, ?_⟩
  have s1 : sg r = false := by rw [hr]; exact near_sign false
  have h64 : r < 2 ^ 64 := by rw [hr]; exact near_lt64 _ _ _
  have hle : rung r ≤ 2047 * 2 ^ 52 := by rw [hr]; exact near_inf _ _ _
  obtain ⟨E1, hE1⟩ : ∃ E1, 1081 = E1 := ⟨_, rfl⟩
  obtain ⟨E2, hE2⟩ : ∃ E2, 1023 = E2 := ⟨_, rfl⟩
  rw [hE1] at hx1
  rw [hE2] at hy
  have v1 := V_ge (x := x) (E := E1) (by rw [rx]; exact hx1) (by omega)
  have v2 := V_ge (x := y) (E := E2) (by rw [ry]; exact hy) (by omega)
  have hge : E1 * 2 ^ 52 ≤ rung r := by
    rw [hr]
    refine near_ge (E := E1) _ ?_ (by omega) (by omega)
    refine Nat.le_of_mul_le_mul_right ?_ (Nat.two_pow_pos c)
    rw [hm]
    refine Nat.le_trans ?_ (Nat.mul_le_mul v1 v2)
    rw [← Nat.pow_add, ← Nat.pow_add]
    exact Nat.pow_le_pow_right (by omega) (by omega)
  have hz : r < 2 ^ 63 := by
    unfold sg at s1
    rcases Nat.lt_or_ge r (2 ^ 63) with h' | h'
    · exact h'
    · have : r / 2 ^ 63 % 2 = 1 := by omega
      rw [this] at s1
      cases s1
  rw [rung_small hz] at hle hge
  exact ⟨by omega, hle⟩
theorem logE : (match logR 4868391197187506176 9218868437227405311 with
    | some L => (match auto [(1, .inl 0, .inr 4607182418800017408)] [L] with
      | some (z :: _) => decide (1023 * 2 ^ 52 ≤ z.1) && decide (z.1 < 2 ^ 63) && decide (z.2 < 2047 * 2 ^ 52)
      | _ => false)
    | none => false) = true := by decide +kernel
theorem encE {x : Nat} (h1 : 4868391197187506176 ≤ x) (h2 : x ≤ 9218868437227405311) : ∃ L, MathLog.archLog #[.float .f64 x] = pure (.float .f64 L) ∧ Runs opsE [L, x] fun e => ∃ r e', e = r :: e' ∧ PosR r := by
  have h := logE
  split at h
  · rename_i q hL
    obtain ⟨L, hL', hi⟩ := logR_ok (a := q.1) (b := q.2) h1 h2 hL
    refine ⟨L, hL', ?_⟩
    split at h
    · rename_i z l hz
      simp only [Bool.and_eq_true, decide_eq_true_eq] at h
      obtain ⟨⟨z0, z1⟩, z2⟩ := h
      obtain ⟨r, hr, hq⟩ := auto_ok (env := [L]) _ hz ⟨hi, trivial⟩
      have hq : In z.1 z.2 r := hq.1
      obtain ⟨w1, w2⟩ := words_of hq z1 (by omega) (by omega)
      obtain ⟨s, hs, hp⟩ := mul_great (x := x) (y := r) (by omega) (by omega) (by omega) (by omega)
      exact ⟨r, hr, s, hs, s, _, rfl, hp⟩
    · cases h
  · cases h
theorem logTiny : (match logR 1 4291930444884082687 with
    | some L => decide (SV L.2 < 0)
    | none => false) = true := by decide +kernel
theorem encTiny {x : Nat} (h1 : 1 ≤ x) (h2 : x < 4291930444884082688) : ∃ L, MathLog.archLog #[.float .f64 x] = pure (.float .f64 L) ∧ PosR (negw L) ∧ Fnt (negw L) := by
  have h := logTiny
  split at h
  · rename_i q hL
    obtain ⟨L, hL', hi⟩ := logR_ok (a := q.1) (b := q.2) h1 (show x ≤ 4291930444884082687 by omega) hL
    refine ⟨L, hL', ?_⟩
    have hq : SV q.2 < 0 := of_decide_eq_true h
    obtain ⟨n1, n2, n3⟩ := negw_facts L hi.1
    have n4 := SV_negw L hi.1
    have hlt := hi.2.2.2
    have hf : Fnt (negw L) := by have := hi.2.1; unfold Fnt at this ⊢; omega
    refine ⟨?_, hf⟩
    have sz : sg (negw L) = false := by
      cases e : sg (negw L)
      · rfl
      · rw [SV_neg e] at n4; omega
    have hz : negw L < 2 ^ 63 := by
      unfold sg at sz
      rcases Nat.lt_or_ge (negw L) (2 ^ 63) with h' | h'
      · exact h'
      · have : negw L / 2 ^ 63 % 2 = 1 := by omega
        rw [this] at sz
        cases sz
    refine ⟨?_, by unfold Fnt rung at hf; omega⟩
    rcases Nat.eq_zero_or_pos (negw L) with h0 | h0
    · rw [h0] at n4
      have : SV 0 = 0 := by decide +kernel
      omega
    · exact h0
  · cases h
end Go.Proofs.YtlemgjlnlegcgaaDoor
