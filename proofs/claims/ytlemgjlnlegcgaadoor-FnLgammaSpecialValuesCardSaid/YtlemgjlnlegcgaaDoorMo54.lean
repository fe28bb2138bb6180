/- math.Mod of a number by two. -/
import Derived.Test.YtlemgjlnlegcgaaDoorFr54
import Derived.Test.YtlemgjlnlegcgaaDoorTr54
namespace Go.Proofs.YtlemgjlnlegcgaaDoor
open Go.RowKit
open FL
set_option linter.unusedVariables false
set_option linter.unusedSimpArgs false

theorem Ldexp_two (e : Nat) (he : e < 64) (w : World) : Calls Tryd.prog 40 #[.float .f64 4611686018427387904, .int .i64 (e : Int)] w fun o w' => o = .returned (.float .f64 ((1024 + e) * 4503599627370496)) ∧ w' = w := by
  have HF := Lib.hid (ldexp_two e he w)
  obtain ⟨g, hg⟩ : ∃ g, (1024 + e) * 4503599627370496 = g := ⟨_, rfl⟩
  rw [hg] at HF ⊢
  clear hg
  go_enter Tryd.func40, Tryd.ntmps40
  go_wp2_with fail
  refine HF.out.mono ?_
  rintro o w1 ⟨rfl, hw⟩
  obtain rfl : w = w1 := hw.symm
  go_wp2_with fail
  go_ret
  exact ⟨rfl, rfl⟩
/-- One round: the highest digit is taken off. -/
theorem mod_step {r : Nat} (h1 : 4611686018427387904 ≤ r) (h2 : r < 2047 * 2 ^ 52) : ∃ r', Ieee.double.sub r (r / 2 ^ 52 * 2 ^ 52) = some r' ∧ In 0 (r / 2 ^ 52 * 2 ^ 52 - 1) r' := by
  obtain ⟨q, hq⟩ : ∃ q, r / 2 ^ 52 = q := ⟨_, rfl⟩
  obtain ⟨f, hf⟩ : ∃ f, r % 2 ^ 52 = f := ⟨_, rfl⟩
  have hq1 : 1024 ≤ q := by omega
  have hq2 : q ≤ 2046 := by omega
  have hr : r = q * 2 ^ 52 + f := by omega
  have hf2 : f < 2 ^ 52 := by omega
  rw [hq]
  have rr : rung r = r := rung_small (by omega)
  have rq : rung (q * 2 ^ 52) = q * 2 ^ 52 := rung_small (by omega)
  have rp : rung (q * 2 ^ 52 - 1) = q * 2 ^ 52 - 1 := rung_small (by omega)
  obtain ⟨r', hs, hz⟩ := sub_rnd (x := r) (y := q * 2 ^ 52) (by unfold Fnt; omega) (by unfold Fnt; omega)
  refine ⟨r', hs, rnk_in hz.rnk (by unfold Fnt rung; omega) (by unfold Fnt; omega) ?_ ?_⟩
  · rw [Nat.pow_zero, SV_pos (sg_small (by omega : r < 2 ^ 63)), SV_pos (sg_small (by omega : q * 2 ^ 52 < 2 ^ 63)), SV_pos (sg_small (by decide : (0 : Nat) < 2 ^ 63)), rung_zero_V (show rung 0 = 0 by unfold rung; rfl)]
    have := V_mono (x := q * 2 ^ 52) (y := r) (by omega)
    omega
  · rw [Nat.pow_zero, SV_pos (sg_small (by omega : r < 2 ^ 63)), SV_pos (sg_small (by omega : q * 2 ^ 52 < 2 ^ 63)), SV_pos (sg_small (by omega : q * 2 ^ 52 - 1 < 2 ^ 63))]
    obtain ⟨c, hc⟩ : ∃ c, 1925 = c := ⟨_, rfl⟩
    have v1 : V r = (2 ^ 52 + f) * 2 ^ (c + q) := by
      unfold V mg pl
      rw [rr, if_neg (by omega), if_neg (by omega), hf, hq, hc]
    have v2 : V (q * 2 ^ 52) = 2 ^ 52 * 2 ^ (c + q) := by
      unfold V mg pl
      rw [rq, if_neg (by omega), if_neg (by omega), Nat.mul_mod_left, Nat.mul_div_cancel _ (by decide), hc, Nat.add_zero]
    have v3 : V (q * 2 ^ 52 - 1) = (2 ^ 53 - 1) * 2 ^ (c + q - 1) := by
      unfold V mg pl
      have a : (q * 2 ^ 52 - 1) / 2 ^ 52 = q - 1 := by omega
      have b : (q * 2 ^ 52 - 1) % 2 ^ 52 = 2 ^ 52 - 1 := by omega
      rw [rp, if_neg (by omega), if_neg (by omega), a, b, hc, show c + (q - 1) = c + q - 1 by omega]
    have e : 2 ^ (c + q) = 2 * 2 ^ (c + q - 1) := by
      rw [show c + q = (c + q - 1) + 1 by omega, Nat.pow_succ, Nat.mul_comm]
      rfl
    rw [v1, v2, v3, e]
    obtain ⟨P, hP⟩ : ∃ P, 2 ^ (c + q - 1) = P := ⟨_, rfl⟩
    rw [hP]
    have e1 : (2 ^ 52 + f) * (2 * P) = 2 ^ 52 * (2 * P) + f * (2 * P) := Nat.add_mul _ _ _
    have e2 : f * (2 * P) ≤ (2 ^ 52 - 1) * (2 * P) := Nat.mul_le_mul_right _ (by omega)
    have e3 : (2 ^ 52 - 1) * (2 * P) ≤ (2 ^ 53 - 1) * P := by
      rw [← Nat.mul_assoc]
      exact Nat.mul_le_mul_right _ (by decide)
    omega
/-- How the rounds go on to the end. -/
def Rch : Nat → Nat → Nat → Prop
  | 0, r, T => T = r ∧ SV r < SV 4611686018427387904
  | n + 1, r, T => SV 4611686018427387904 ≤ SV r ∧ ∃ r', Ieee.double.sub r (r / 2 ^ 52 * 2 ^ 52) = some r' ∧ In 0 (r / 2 ^ 52 * 2 ^ 52 - 1) r' ∧ Rch n r' T
theorem two_V : 0 < V 4611686018427387904 := by
  have := V_lt (x := 0) (y := 4611686018427387904) (by unfold rung; decide)
  omega
theorem SV_two : SV 4611686018427387904 = V 4611686018427387904 := SV_pos (sg_small (by decide))
/-- A finite number from two on. -/
theorem ge_two {r : Nat} (h64 : r < 2 ^ 64) (hf : Fnt r) (h : SV 4611686018427387904 ≤ SV r) : 4611686018427387904 ≤ r ∧ r < 2047 * 2 ^ 52 := by
  have t := two_V
  rw [SV_two] at h
  have sz : sg r = false := by
    cases e : sg r
    · rfl
    · rw [SV_neg e] at h; omega
  rw [SV_pos sz] at h
  have hz : r < 2 ^ 63 := by
    unfold sg at sz
    rcases Nat.lt_or_ge r (2 ^ 63) with h' | h'
    · exact h'
    · have : r / 2 ^ 63 % 2 = 1 := by omega
      rw [this] at sz
      cases sz
  have r1 := rung_of_V (x := 4611686018427387904) (y := r) (by omega)
  rw [rung_small hz, rung_small (by decide)] at r1
  unfold Fnt at hf
  rw [rung_small hz] at hf
  exact ⟨r1, hf⟩
theorem step_V {r r' : Nat} (h1 : 4611686018427387904 ≤ r) (h2 : r < 2047 * 2 ^ 52) (h : In 0 (r / 2 ^ 52 * 2 ^ 52 - 1) r') : V r' < V r := by
  obtain ⟨h64, hf, a, b⟩ := h
  have c : V (r / 2 ^ 52 * 2 ^ 52 - 1) < V r := V_lt (by rw [rung_small (by omega), rung_small (by omega)]; omega)
  rw [SV_pos (sg_small (by omega : r / 2 ^ 52 * 2 ^ 52 - 1 < 2 ^ 63))] at b
  have z : SV 0 = 0 := by decide +kernel
  rw [z] at a
  have d := SV_abs r'
  omega
theorem rch_ex : ∀ (b r : Nat), V r < b → r < 2 ^ 64 → Fnt r → 0 ≤ SV r → ∃ n T, Rch n r T ∧ In 0 4611686018427387903 T
  | 0, r, h, _, _, _ => absurd h (Nat.not_lt_zero _)
  | b + 1, r, h, h64, hf, h0 => by
    rcases Int.lt_or_le (SV r) (SV 4611686018427387904) with hlt | hle
    · refine ⟨0, r, ⟨rfl, hlt⟩, h64, hf, by rw [show SV 0 = 0 by decide +kernel]; exact h0, ?_⟩
      have hv : V r < V 4611686018427387904 := by
        have := SV_abs r
        rw [SV_two] at hlt
        omega
      have hr : rung r ≤ rung 4611686018427387903 := by
        have e1 : rung 4611686018427387904 = 4611686018427387904 := rung_small (by decide)
        have e2 : rung 4611686018427387903 = 4611686018427387903 := rung_small (by decide)
        rcases Nat.lt_or_ge (rung r) (rung 4611686018427387904) with h' | h'
        · omega
        · have := V_mono h'; omega
      have hm := V_mono hr
      rw [SV_pos (sg_small (show 4611686018427387903 < 2 ^ 63 by decide))]
      have := SV_abs r
      omega
    · obtain ⟨g1, g2⟩ := ge_two h64 hf hle
      obtain ⟨r', hs, hi⟩ := mod_step g1 g2
      have hv := step_V g1 g2 hi
      obtain ⟨n, T, hn, hT⟩ := rch_ex b r' (by omega) hi.1 hi.2.1 (by have := hi.2.2.1; rw [show SV 0 = 0 by decide +kernel] at this; exact this)
      exact ⟨n + 1, T, ⟨hle, r', hs, hi, hn⟩, hT⟩
def fl : Value → Nat
  | .float _ n => n
  | _ => 0
/-- What the loop keeps. -/
def ModR (T : Nat) (i : Value) : Prop := ∃ r n, i = .float .f64 r ∧ r < 4841369599423283200 + 2 ^ 63 ∧ Hid (r < 2 ^ 64 ∧ Fnt r ∧ V r ≤ V 4841369599423283199 ∧ Rch n r T)
theorem geq_of {x c : Nat} (hx : Fnt x) (hc : Fnt c) (h : SV c ≤ SV x) : (FloatKind.f64.format.order x c == some .gt || FloatKind.f64.format.order x c == some .eq) = true := by
  rw [show FloatKind.f64.format.order x c = some (compare (SV x) (SV c)) from order_fin hx hc]
  rcases Int.lt_trichotomy (SV x) (SV c) with h' | h' | h'
  · omega
  · rw [Int.compare_eq_eq.2 h']; rfl
  · rw [Int.compare_eq_gt.2 h']; rfl
theorem ngeq_of {x c : Nat} (hx : Fnt x) (hc : Fnt c) (h : SV x < SV c) : (FloatKind.f64.format.order x c == some .gt || FloatKind.f64.format.order x c == some .eq) = false := by
  rw [show FloatKind.f64.format.order x c = some (compare (SV x) (SV c)) from order_fin hx hc, Int.compare_eq_lt.2 h]; rfl
set_option maxRecDepth 100000 in
theorem mod_any (x : Nat) (h1 : 4503599627370496 ≤ x) (h2 : x < 4841369599423283200) (w : World) : ∃ T, In 0 4611686018427387903 T ∧ Calls Tryd.prog 33 #[.float .f64 x, .float .f64 4611686018427387904] w fun e w' => e = .returned (.float .f64 T) ∧ w' = w := by
  have hfx : Fnt x := by unfold Fnt rung; omega
  have hf2 : Fnt 4611686018427387904 := by unfold Fnt rung; decide
  obtain ⟨n, T, hn, hT⟩ := rch_ex (V x + 1) x (by omega) (by omega) hfx (by rw [SV_pos (sg_small (by omega : x < 2 ^ 63))]; omega)
  refine ⟨T, hT, ?_⟩
  have o1 : (FloatKind.f64.format.order 4611686018427387904 0 == some .eq) = false := by decide +kernel
  have HI := Lib.hid (isInf_fin x (by omega) hfx w)
  have HN := Lib.hid (isNaN_any x w)
  rw [order_self hfx] at HN
  have HN2 := Lib.hid (isNaN_any 4611686018427387904 w)
  rw [order_self hf2] at HN2
  have HA := Lib.hid (abs_any 4611686018427387904 (by decide) w)
  rw [show 4611686018427387904 % 2 ^ 63 = 4611686018427387904 by decide] at HA
  have HF := Lib.hid (Frexp_nor 4611686018427387904 (by decide) (by decide) w)
  rw [show 4602678819172646912 + 4611686018427387904 % 4503599627370496 = 4602678819172646912 by decide, show (((4611686018427387904 / 4503599627370496 : Nat) : Int) - 1022) = 2 by decide] at HF
  have o2 : (FloatKind.f64.format.order x 0 == some .lt) = false := by
    rw [show FloatKind.f64.format.order x 0 = some (compare x 0) from order_pos (by omega) (by decide), Nat.compare_eq_gt.2 (by omega)]; rfl
  have H0 := Lib.hid (show ModR T (.float .f64 x) from ⟨x, n, rfl, by omega, Lib.hid ⟨by omega, hfx, V_mono (by rw [rung_small (by omega), rung_small (by decide)]; omega), hn⟩⟩)
  clear hn hT hfx h1 h2
  go_enter Tryd.func33, Tryd.ntmps33
  go_wp2_with fail
  refine HI.out.mono ?_
  rintro e w1 ⟨rfl, hw⟩
  obtain rfl : w = w1 := hw.symm
  go_wp2_with fail
  refine HN.out.mono ?_
  rintro e w1 ⟨rfl, hw⟩
  obtain rfl : w = w1 := hw.symm
  go_wp2_with fail
  refine HN2.out.mono ?_
  rintro e w1 ⟨rfl, hw⟩
  obtain rfl : w = w1 := hw.symm
  go_wp2_with fail
  refine HA.out.mono ?_
  rintro e w1 ⟨rfl, hw⟩
  obtain rfl : w = w1 := hw.symm
  go_wp2_with fail
  refine HF.out.mono ?_
  rintro e w1 ⟨rfl, hw⟩
  obtain rfl : w = w1 := hw.symm
  go_wp2_with fail
  go_loop [7] (ModR T) (fun i => V (fl i))
  case atStart => exact H0.out
  case round =>
    obtain ⟨r, n, rfl, -, hH⟩ := hrel
    obtain ⟨h64, hf, hvx, hn⟩ := hH.out
    clear hH
    match n, hn with
    | 0, hn =>
      obtain ⟨rfl, hlt⟩ := hn
      have g := ngeq_of hf hf2 hlt
      clear hlt hf h64 hvx
      go_wp2_with fail
      go_ret
      exact ⟨rfl, rfl⟩
    | n + 1, hn =>
      obtain ⟨hle, r', hs, hi, hn⟩ := hn
      have g := geq_of hf hf2 hle
      obtain ⟨g1, g2⟩ := ge_two h64 hf hle
      have hr4 : r < 4841369599423283200 := by
        have := rung_of_V hvx
        rw [rung_small (by omega), rung_small (by decide)] at this
        omega
      have HR := Lib.hid (Frexp_nor r (by omega) g2 w)
      obtain ⟨q, hq⟩ : ∃ q, r / 4503599627370496 = q := ⟨_, rfl⟩
      obtain ⟨f, hf'⟩ : ∃ f, 4602678819172646912 + r % 4503599627370496 = f := ⟨_, rfl⟩
      rw [hq, hf'] at HR
      have hq1 : 1024 ≤ q ∧ q ≤ 1074 := by omega
      have HL := Lib.hid (Ldexp_two (q - 1024) (by omega) w)
      have e1 : ((q - 1024 : Nat) : Int) = (q : Int) - 1022 - 2 := by omega
      have e2 : (1024 + (q - 1024)) * 4503599627370496 = r / 2 ^ 52 * 2 ^ 52 := by
        rw [show r / 2 ^ 52 = q from hq]; omega
      rw [e1, e2] at HL
      have oL : (FloatKind.f64.format.order f 4602678819172646912 == some .lt) = false := by
        rw [show FloatKind.f64.format.order f 4602678819172646912 = some (compare f 4602678819172646912) from order_pos (by omega) (by decide)]
        rcases Nat.lt_or_eq_of_le (show 4602678819172646912 ≤ f by omega) with h | h
        · rw [Nat.compare_eq_gt.2 h]; rfl
        · rw [Nat.compare_eq_eq.2 h.symm]; rfl
      have hv := step_V g1 g2 hi
      obtain ⟨y, hy⟩ : ∃ y, r / 2 ^ 52 * 2 ^ 52 = y := ⟨_, rfl⟩
      rw [hy] at hs HL
      have fs : ∀ w, Sem.run Tryd.prog (binOp .sub 22 (.float .f64 r) (.float .f64 y)) w = .ok (.float .f64 r') w := fun w => run_float_arith w .sub _ .f64 _ _ _ hs
      have hr' : r' < 4841369599423283200 + 2 ^ 63 := by
        have a := hi.2.1
        have b := rung_of_V (x := r') (y := 4841369599423283199) (by omega)
        rw [rung_small (by decide : 4841369599423283199 < 2 ^ 63)] at b
        have c := hi.1
        unfold rung at b
        omega
      have H1 := Lib.hid (show ModR T (.float .f64 r') from ⟨r', n, rfl, hr', Lib.hid ⟨hi.1, hi.2.1, by omega, hn⟩⟩)
      have hv2 := Lib.hid hv
      clear hn hi hs g1 g2 hq hf' hy e1 e2 hv hle hf h64 hvx hr'
      go_wp2_with fail
      refine HR.out.mono ?_
      rintro e w1 ⟨rfl, hw⟩
      obtain rfl : w = w1 := hw.symm
      go_wp2_with fail
      refine HL.out.mono ?_
      rintro e w1 ⟨rfl, hw⟩
      obtain rfl : w = w1 := hw.symm
      go_wp2_with fail
      go_round
      case rel => exact H1.out
      case measure => exact hv2.out
theorem Mod_any (x : Nat) (h1 : 4503599627370496 ≤ x) (h2 : x < 4841369599423283200) (w : World) : ∃ T, In 0 4611686018427387903 T ∧ Calls Tryd.prog 23 #[.float .f64 x, .float .f64 4611686018427387904] w fun e w' => e = .returned (.float .f64 T) ∧ w' = w := by
  obtain ⟨T, hT, hc⟩ := mod_any x h1 h2 w
  refine ⟨T, hT, ?_⟩
  have HC := Lib.hid hc
  clear hc h1 h2 hT
  go_enter Tryd.func23, Tryd.ntmps23
  go_wp2_with fail
  refine HC.out.mono ?_
  rintro e w1 ⟨rfl, hw⟩
  obtain rfl : w = w1 := hw.symm
  go_wp2_with fail
  go_ret
  exact ⟨rfl, rfl⟩
end Go.Proofs.YtlemgjlnlegcgaaDoor
