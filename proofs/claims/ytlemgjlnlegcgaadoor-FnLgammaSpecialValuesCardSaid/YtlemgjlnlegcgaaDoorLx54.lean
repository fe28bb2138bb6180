/- The law on the special values of lgamma. -/
import Derived.Test.YtlemgjlnlegcgaaDoorLv54
namespace Go.Proofs.YtlemgjlnlegcgaaDoor
open Go.RowKit
open FL
open Go.Extern
set_option linter.unusedVariables false
set_option linter.unusedSimpArgs false

/-! Lgamma of what is no number, of the infinities, of zero -/
set_option maxRecDepth 100000 in
theorem lgNaN (x : Nat) (h : Ieee.double.order x x = none) (w : World) : Calls Tryd.prog 11 #[.float .f64 x] w fun e w' => e = .returned (.tuple #[.float .f64 x, .int .i64 1]) ∧ w' = w := by
  have HN := Lib.hid (isNaN_any x w)
  rw [h] at HN
  clear h
  go_enter Tryd.func11, Tryd.ntmps11
  go_wp2_with fail
  refine HN.out.mono ?_
  rintro e w1 ⟨rfl, hw⟩
  obtain rfl : w = w1 := hw.symm
  go_wp2_with fail
  go_returns
  exact ⟨rfl, rfl⟩
theorem isInf_inf (x : Nat) (hx : x < 2 ^ 64) (h : x % 2 ^ 63 = 9218868437227405312) (w : World) : Calls Tryd.prog 13 #[.float .f64 x, .int .i64 0] w fun e w' => e = .returned (.bool true) ∧ w' = w := by
  have HA := Lib.hid (abs_any x hx w)
  rw [h] at HA
  have h1 : (FloatKind.f64.format.order 9218868437227405312 9218868437227405311 == some .gt) = true := by decide +kernel
  clear h hx
  go_enter Tryd.func13, Tryd.ntmps13
  go_wp2_with fail
  refine HA.out.mono ?_
  rintro e w1 ⟨rfl, hw⟩
  obtain rfl : w = w1 := hw.symm
  go_wp2_with fail
  go_ret
  exact ⟨rfl, rfl⟩
set_option maxRecDepth 100000 in
theorem lgInf (x : Nat) (hx : x < 2 ^ 64) (h : x % 2 ^ 63 = 9218868437227405312) (h0 : Ieee.double.order x x = some .eq) (w : World) : Calls Tryd.prog 11 #[.float .f64 x] w fun e w' => e = .returned (.tuple #[.float .f64 x, .int .i64 1]) ∧ w' = w := by
  have HN := Lib.hid (isNaN_any x w)
  rw [h0] at HN
  have HI := Lib.hid (isInf_inf x hx h w)
  clear h h0 hx
  go_enter Tryd.func11, Tryd.ntmps11
  go_wp2_with fail
  refine HN.out.mono ?_
  rintro e w1 ⟨rfl, hw⟩
  obtain rfl : w = w1 := hw.symm
  go_wp2_with fail
  refine HI.out.mono ?_
  rintro e w1 ⟨rfl, hw⟩
  obtain rfl : w = w1 := hw.symm
  go_wp2_with fail
  go_returns
  exact ⟨rfl, rfl⟩
set_option maxRecDepth 100000 in
theorem lgZero (x : Nat) (hx : x < 2 ^ 64) (hf : Fnt x) (h : (FloatKind.f64.format.order x 0 == some .eq) = true) (w : World) : Calls Tryd.prog 11 #[.float .f64 x] w fun e w' => e = .returned (.tuple #[.float .f64 9218868437227405312, .int .i64 1]) ∧ w' = w := by
  have HI := Lib.hid (isInf_fin x hx hf w)
  have HN := Lib.hid (isNaN_any x w)
  rw [order_self hf] at HN
  have HL := Lib.hid (inf_any w)
  clear hf hx
  go_enter Tryd.func11, Tryd.ntmps11
  go_wp2_with fail
  refine HN.out.mono ?_
  rintro e w1 ⟨rfl, hw⟩
  obtain rfl : w = w1 := hw.symm
  go_wp2_with fail
  refine HI.out.mono ?_
  rintro e w1 ⟨rfl, hw⟩
  obtain rfl : w = w1 := hw.symm
  go_wp2_with fail
  refine HL.out.mono ?_
  rintro e w1 ⟨rfl, hw⟩
  obtain rfl : w = w1 := hw.symm
  go_wp2_with fail
  go_returns
  exact ⟨rfl, rfl⟩
/-! the law's own helpers -/
theorem zzSign_zero (w : World) : Calls Tryd.prog 9 #[.float .f64 0] w fun e w' => e = .returned (.bool false) ∧ w' = w := by
  have h1 : (FloatKind.f64.format.order 0 0 == some .lt) = false := by decide +kernel
  have h2 : (FloatKind.f64.format.order 0 0 == some .eq) = true := by decide +kernel
  have h3 : (FloatKind.f64.format.order 9218868437227405312 0 == some .lt) = false := by decide +kernel
  have fd : ∀ w, Sem.run Tryd.prog (binOp .quo 22 (.float .f64 4607182418800017408) (.float .f64 0)) w = .ok (.float .f64 9218868437227405312) w := fun w => run_float_arith w .quo _ .f64 _ _ _ (by decide +kernel)
  go_enter Tryd.func9, Tryd.ntmps9
  go_wp2_with fail
  go_ret
  exact ⟨rfl, rfl⟩
theorem zzNegInt_pos (x : Nat) (h0 : Ieee.double.order x x = some .eq) (h1 : (FloatKind.f64.format.order x 0 == some .lt) = false) (w : World) : Calls Tryd.prog 8 #[.float .f64 x] w fun e w' => e = .returned (.bool false) ∧ w' = w := by
  have HN := Lib.hid (zzNaN_any x w)
  rw [h0] at HN
  clear h0
  go_enter Tryd.func8, Tryd.ntmps8
  go_wp2_with fail
  refine HN.out.mono ?_
  rintro e w1 ⟨rfl, hw⟩
  obtain rfl : w = w1 := hw.symm
  go_wp2_with fail
  go_ret
  exact ⟨rfl, rfl⟩
theorem zzNegInt_big (x : Nat) (h0 : Ieee.double.order x x = some .eq) (h1 : (FloatKind.f64.format.order x 0 == some .lt) = true) (h2 : (FloatKind.f64.format.order x 9218868437227405311 == some .gt) = false) (h3 : (FloatKind.f64.format.order x 18442240474082181119 == some .lt) = false)
    (h4 : (FloatKind.f64.format.order x 14064741636278059008 == some .lt || FloatKind.f64.format.order x 14064741636278059008 == some .eq) = true) (w : World) : Calls Tryd.prog 8 #[.float .f64 x] w fun e w' => e = .returned (.bool true) ∧ w' = w := by
  have HN := Lib.hid (zzNaN_any x w)
  rw [h0] at HN
  have HI := Lib.hid (zzInf_f x h2 h3 w)
  clear h0 h2 h3
  go_enter Tryd.func8, Tryd.ntmps8
  go_wp2_with fail
  refine HN.out.mono ?_
  rintro e w1 ⟨rfl, hw⟩
  obtain rfl : w = w1 := hw.symm
  go_wp2_with fail
  refine HI.out.mono ?_
  rintro e w1 ⟨rfl, hw⟩
  obtain rfl : w = w1 := hw.symm
  go_wp2_with fail
  go_ret
  exact ⟨rfl, rfl⟩
theorem zzNegInt_low (x z : Nat) (n : Int) (b : Bool) (h0 : Ieee.double.order x x = some .eq) (h1 : (FloatKind.f64.format.order x 0 == some .lt) = true) (h2 : (FloatKind.f64.format.order x 9218868437227405311 == some .gt) = false) (h3 : (FloatKind.f64.format.order x 18442240474082181119 == some .lt) = false)
    (h4 : (FloatKind.f64.format.order x 14064741636278059008 == some .lt || FloatKind.f64.format.order x 14064741636278059008 == some .eq) = false) (hc : floatToIntVal .f64 x .i64 = some n) (hz : floatOfInt .f64 n = z) (hb : (FloatKind.f64.format.order z x == some .eq) = b) (w : World) : Calls Tryd.prog 8 #[.float .f64 x] w fun e w' => e = .returned (.bool b) ∧ w' = w := by
  have HN := Lib.hid (zzNaN_any x w)
  rw [h0] at HN
  have HI := Lib.hid (zzInf_f x h2 h3 w)
  have cv : ∀ w, Sem.run Tryd.prog (convert 22 2 (.float .f64 x)) w = .ok (.int .i64 n) w := fun w => run_convert_float_int w _ _ .f64 .i64 x n (by kernel_rfl) (by kernel_rfl) hc
  have cw : ∀ w, Sem.run Tryd.prog (convert 2 22 (.int .i64 n)) w = .ok (.float .f64 (floatOfInt .f64 n)) w := fun w => run_convert_int_float w _ _ .i64 .f64 _ (by kernel_rfl) (by kernel_rfl)
  rw [hz] at cw
  clear h0 h2 h3 hc hz
  go_enter Tryd.func8, Tryd.ntmps8
  go_wp2_with fail
  refine HN.out.mono ?_
  rintro e w1 ⟨rfl, hw⟩
  obtain rfl : w = w1 := hw.symm
  go_wp2_with fail
  refine HI.out.mono ?_
  rintro e w1 ⟨rfl, hw⟩
  obtain rfl : w = w1 := hw.symm
  go_wp2_with fail
  go_ret
  exact ⟨rfl, rfl⟩
/-! whole numbers and their opposites -/
theorem rung_sign (a b : Bool) (mag t : Nat) : rung (Ieee.double.nearest a mag ((t : Int) - 3000)) = rung (Ieee.double.nearest b mag ((t : Int) - 3000)) := by
  by_cases h0 : mag = 0
  · subst h0
    unfold Ieee.Format.nearest
    rw [if_pos rfl, if_pos rfl, rung_word a (by omega), rung_word b (by omega)]
  · obtain ⟨ra, La, hLa, hra, hca⟩ := near_rung a (t := t) h0
    obtain ⟨rb, Lb, hLb, hrb, hcb⟩ := near_rung b (t := t) h0
    obtain rfl : La = Lb := by omega
    rw [hra, hrb]
    have e : ∀ m d, Ieee.Toward.even.cut a m d = Ieee.Toward.even.cut b m d := fun _ _ => rfl
    rcases hca with ⟨h1, ha⟩ | ⟨h1, c, hc, ha⟩
    · rcases hcb with ⟨h2, hb⟩ | ⟨h2, _⟩
      · rw [ha, hb, e]
      · omega
    · rcases hcb with ⟨h2, _⟩ | ⟨h2, c', hc', hb⟩
      · omega
      · obtain rfl : c = c' := by omega
        rw [ha, hb, e]
theorem fnInt_neg (n : Nat) : V (fnInt (-(n : Int))) = V (fnInt (n : Int)) := by
  rw [V_rung, V_rung]
  congr 1
  unfold fnInt
  rw [Int.natAbs_neg]
  have e : (0 : Int) = ((3000 : Nat) : Int) - 3000 := rfl
  rw [e]
  exact rung_sign _ _ _ _
theorem fnInt_sg (n : Nat) : sg (fnInt (n : Int)) = false := by
  unfold fnInt
  have hd : decide ((n : Int) < 0) = false := decide_eq_false (by omega)
  rw [hd]
  have e : (0 : Int) = ((3000 : Nat) : Int) - 3000 := rfl
  rw [e]
  exact near_sign false
/-- The law's test on whole numbers, below 2^52. -/
theorem negint_low {u x : Nat} (h1 : 9223372036854775808 < u) (h2 : u < 18442240474082181120) (hx : x = u - 9223372036854775808) (h52 : x < 4841369599423283200) : ∃ (n : Int) (b : Bool), floatToIntVal .f64 u .i64 = some n ∧ (FloatKind.f64.format.order (floatOfInt .f64 n) u == some .eq) = b ∧ (b = true → SV (flr x) = SV x) := by
  obtain ⟨hf, _, hv, hp⟩ := neg_facts h1 h2
  rw [← hx] at hv hp
  obtain ⟨n, k, hk, hr, b1, b2⟩ := toInt_fin hf
  obtain ⟨n', k', hk', hfl, c1, c2⟩ := flr_pos (x := x) (sg_small (by omega))
  obtain ⟨k2, hk2, hU⟩ := UK_eq
  obtain rfl : k' = k := by omega
  obtain rfl : k2 = k' := by omega
  have hVu : V u = V x := by
    have := SV_abs u
    omega
  rw [hVu] at b1 b2
  have hs : sg u = true := sg_big (by omega) (by omega)
  rw [hs] at hr
  have hr : (Ieee.double.read u).toInt .zero = some (-(n : Int)) := hr
  have hlt : SV x ≤ SV 4841369599423283200 := SV_small (by omega) (by decide)
  rw [SV_pos (sg_small (by omega : x < 2 ^ 63)), SV52, hU] at hlt
  have hkp := Nat.two_pow_pos k2
  obtain ⟨K, hK⟩ : ∃ K, 2 ^ k2 = K := ⟨_, rfl⟩
  rw [hK] at b1 b2 c1 c2 hlt hkp hU
  have hn52 : n ≤ 4503599627370496 := by
    rcases Nat.lt_or_ge 4503599627370496 n with h' | h'
    · exfalso
      have c : 4503599627370497 * K ≤ n * K := Nat.mul_le_mul_right _ h'
      omega
    · exact h'
  have hnn : n = n' := by
    rcases Nat.lt_trichotomy n n' with h | h | h
    · exfalso
      have : (n + 1) * K ≤ n' * K := Nat.mul_le_mul_right _ h
      omega
    · exact h
    · exfalso
      have : (n' + 1) * K ≤ n * K := Nat.mul_le_mul_right _ h
      omega
  subst hnn
  refine ⟨-(n : Int), _, ?_, rfl, ?_⟩
  · unfold floatToIntVal
    rw [show FloatKind.f64.decode u = Ieee.double.read u from rfl, hr]
    show (if IntKind.i64.min ≤ -(n : Int) ∧ -(n : Int) ≤ IntKind.i64.max then some (-(n : Int)) else none) = _
    rw [if_pos]
    refine ⟨?_, ?_⟩
    · show (-9223372036854775808 : Int) ≤ _; omega
    · show _ ≤ (9223372036854775807 : Int); omega
  · intro hb
    have hz : In 14064741636278059008 0 (fnInt (-(n : Int))) := by
      have e1 : SV 14064741636278059008 = -4503599627370496 * UK := by decide +kernel
      refine int_in (by decide +kernel) (by decide +kernel) ?_ ?_
      · rw [e1]
        exact Int.mul_le_mul_of_nonneg_right (by omega) (by omega)
      · rw [SV0']
        exact Int.mul_nonpos_of_nonpos_of_nonneg (by omega) (by omega)
    have ho : FloatKind.f64.format.order (floatOfInt .f64 (-(n : Int))) u = some (compare (SV (fnInt (-(n : Int)))) (SV u)) := order_fin hz.2.1 hf
    rw [ho] at hb
    have heq : SV (fnInt (-(n : Int))) = SV u := by
      rcases Int.lt_trichotomy (SV (fnInt (-(n : Int)))) (SV u) with h | h | h
      · rw [Int.compare_eq_lt.2 h] at hb; cases hb
      · exact h
      · rw [Int.compare_eq_gt.2 h] at hb; cases hb
    have hV : V (fnInt (n : Int)) = V x := by
      have a := SV_abs (fnInt (-(n : Int)))
      have c := fnInt_neg n
      omega
    rw [hfl, SV_pos (fnInt_sg n), SV_pos (sg_small (by omega : x < 2 ^ 63)), hV]
/-! the law, class by class -/
theorem lawV_nan (x : Nat) (w : World) (h : Ieee.double.order x x = none) (hc : Calls Tryd.prog 7 #[.float .f64 x] w fun e w' => e = .returned (.float .f64 x) ∧ w' = w) : Calls Tryd.prog 4 #[.float .f64 x] w (Tru w) := by
  have HN := Lib.hid (zzNaN_any x w)
  rw [h] at HN
  have HZ := Lib.hid hc
  clear h hc
  go_enter Tryd.func4, Tryd.ntmps4
  go_wp2_with fail
  refine HZ.out.mono ?_
  rintro e w1 ⟨rfl, hw⟩
  obtain rfl : w = w1 := hw.symm
  go_wp2_with fail
  refine HN.out.mono ?_
  rintro e w1 ⟨rfl, hw⟩
  obtain rfl : w = w1 := hw.symm
  go_wp2_with fail
  refine HN.out.mono ?_
  rintro e w1 ⟨rfl, hw⟩
  obtain rfl : w = w1 := hw.symm
  go_wp2_with fail
  go_ret
  exact ⟨rfl, rfl⟩
theorem lawV_pinf (x r : Nat) (w : World) (h0 : Ieee.double.order x x = some .eq) (hc : Calls Tryd.prog 7 #[.float .f64 x] w fun e w' => e = .returned (.float .f64 r) ∧ w' = w) (h1 : (FloatKind.f64.format.order x 9218868437227405311 == some .gt) = true) (h2 : (FloatKind.f64.format.order r 9218868437227405311 == some .gt) = true) : Calls Tryd.prog 4 #[.float .f64 x] w (Tru w) := by
  have HN := Lib.hid (zzNaN_any x w)
  rw [h0] at HN
  have HZ := Lib.hid hc
  clear h0 hc
  go_enter Tryd.func4, Tryd.ntmps4
  go_wp2_with fail
  refine HZ.out.mono ?_
  rintro e w1 ⟨rfl, hw⟩
  obtain rfl : w = w1 := hw.symm
  go_wp2_with fail
  refine HN.out.mono ?_
  rintro e w1 ⟨rfl, hw⟩
  obtain rfl : w = w1 := hw.symm
  go_wp2_with fail
  go_ret
  exact ⟨rfl, rfl⟩
theorem lawV_ninf (x r : Nat) (w : World) (h0 : Ieee.double.order x x = some .eq) (hc : Calls Tryd.prog 7 #[.float .f64 x] w fun e w' => e = .returned (.float .f64 r) ∧ w' = w) (h1 : (FloatKind.f64.format.order x 9218868437227405311 == some .gt) = false) (h2 : (FloatKind.f64.format.order x 18442240474082181119 == some .lt) = true) (h3 : (FloatKind.f64.format.order r 18442240474082181119 == some .lt) = true) : Calls Tryd.prog 4 #[.float .f64 x] w (Tru w) := by
  have HN := Lib.hid (zzNaN_any x w)
  rw [h0] at HN
  have HZ := Lib.hid hc
  clear h0 hc
  go_enter Tryd.func4, Tryd.ntmps4
  go_wp2_with fail
  refine HZ.out.mono ?_
  rintro e w1 ⟨rfl, hw⟩
  obtain rfl : w = w1 := hw.symm
  go_wp2_with fail
  refine HN.out.mono ?_
  rintro e w1 ⟨rfl, hw⟩
  obtain rfl : w = w1 := hw.symm
  go_wp2_with fail
  go_ret
  exact ⟨rfl, rfl⟩
theorem lawV_zero (x r : Nat) (w : World) (h0 : Ieee.double.order x x = some .eq) (hc : Calls Tryd.prog 7 #[.float .f64 x] w fun e w' => e = .returned (.float .f64 r) ∧ w' = w) (h1 : (FloatKind.f64.format.order x 9218868437227405311 == some .gt) = false) (h2 : (FloatKind.f64.format.order x 18442240474082181119 == some .lt) = false) (h3 : (FloatKind.f64.format.order x 0 == some .eq) = true) (h4 : (FloatKind.f64.format.order r 9218868437227405311 == some .gt) = true) : Calls Tryd.prog 4 #[.float .f64 x] w (Tru w) := by
  have HN := Lib.hid (zzNaN_any x w)
  rw [h0] at HN
  have HZ := Lib.hid hc
  clear h0 hc
  go_enter Tryd.func4, Tryd.ntmps4
  go_wp2_with fail
  refine HZ.out.mono ?_
  rintro e w1 ⟨rfl, hw⟩
  obtain rfl : w = w1 := hw.symm
  go_wp2_with fail
  refine HN.out.mono ?_
  rintro e w1 ⟨rfl, hw⟩
  obtain rfl : w = w1 := hw.symm
  go_wp2_with fail
  go_ret
  exact ⟨rfl, rfl⟩
theorem lawV_int (x r : Nat) (w : World) (h0 : Ieee.double.order x x = some .eq) (hc : Calls Tryd.prog 7 #[.float .f64 x] w fun e w' => e = .returned (.float .f64 r) ∧ w' = w) (h1 : (FloatKind.f64.format.order x 9218868437227405311 == some .gt) = false) (h2 : (FloatKind.f64.format.order x 18442240474082181119 == some .lt) = false) (h3 : (FloatKind.f64.format.order x 0 == some .eq) = false) (HG : Calls Tryd.prog 8 #[.float .f64 x] w fun e w' => e = .returned (.bool true) ∧ w' = w) (h4 : (FloatKind.f64.format.order r 9218868437227405311 == some .gt) = true) : Calls Tryd.prog 4 #[.float .f64 x] w (Tru w) := by
  have HN := Lib.hid (zzNaN_any x w)
  rw [h0] at HN
  have HZ := Lib.hid hc
  have HG := Lib.hid HG
  clear h0 hc
  go_enter Tryd.func4, Tryd.ntmps4
  go_wp2_with fail
  refine HZ.out.mono ?_
  rintro e w1 ⟨rfl, hw⟩
  obtain rfl : w = w1 := hw.symm
  go_wp2_with fail
  refine HN.out.mono ?_
  rintro e w1 ⟨rfl, hw⟩
  obtain rfl : w = w1 := hw.symm
  go_wp2_with fail
  refine HG.out.mono ?_
  rintro e w1 ⟨rfl, hw⟩
  obtain rfl : w = w1 := hw.symm
  go_wp2_with fail
  go_ret
  exact ⟨rfl, rfl⟩
theorem lawV_one (x r : Nat) (w : World) (h0 : Ieee.double.order x x = some .eq) (hc : Calls Tryd.prog 7 #[.float .f64 x] w fun e w' => e = .returned (.float .f64 r) ∧ w' = w) (h1 : (FloatKind.f64.format.order x 9218868437227405311 == some .gt) = false) (h2 : (FloatKind.f64.format.order x 18442240474082181119 == some .lt) = false) (h3 : (FloatKind.f64.format.order x 0 == some .eq) = false) (HG : Calls Tryd.prog 8 #[.float .f64 x] w fun e w' => e = .returned (.bool false) ∧ w' = w) (hr : r = 0) (h4 : (FloatKind.f64.format.order x 4607182418800017408 == some .eq) = true) : Calls Tryd.prog 4 #[.float .f64 x] w (Tru w) := by
  have HN := Lib.hid (zzNaN_any x w)
  rw [h0] at HN
  have HZ := Lib.hid hc
  have HG := Lib.hid HG
  have HS := Lib.hid (zzSign_zero w)
  have k : (FloatKind.f64.format.order 0 0 == some .eq) = true := by decide +kernel
  subst hr
  clear h0 hc
  go_enter Tryd.func4, Tryd.ntmps4
  go_wp2_with fail
  refine HZ.out.mono ?_
  rintro e w1 ⟨rfl, hw⟩
  obtain rfl : w = w1 := hw.symm
  go_wp2_with fail
  refine HN.out.mono ?_
  rintro e w1 ⟨rfl, hw⟩
  obtain rfl : w = w1 := hw.symm
  go_wp2_with fail
  refine HG.out.mono ?_
  rintro e w1 ⟨rfl, hw⟩
  obtain rfl : w = w1 := hw.symm
  go_wp2_with fail
  refine HS.out.mono ?_
  rintro e w1 ⟨rfl, hw⟩
  obtain rfl : w = w1 := hw.symm
  go_wp2_with fail
  go_ret
  exact ⟨rfl, rfl⟩
theorem lawV_two (x r : Nat) (w : World) (h0 : Ieee.double.order x x = some .eq) (hc : Calls Tryd.prog 7 #[.float .f64 x] w fun e w' => e = .returned (.float .f64 r) ∧ w' = w) (h1 : (FloatKind.f64.format.order x 9218868437227405311 == some .gt) = false) (h2 : (FloatKind.f64.format.order x 18442240474082181119 == some .lt) = false) (h3 : (FloatKind.f64.format.order x 0 == some .eq) = false) (HG : Calls Tryd.prog 8 #[.float .f64 x] w fun e w' => e = .returned (.bool false) ∧ w' = w) (hr : r = 0) (h4 : (FloatKind.f64.format.order x 4607182418800017408 == some .eq) = false) (h5 : (FloatKind.f64.format.order x 4611686018427387904 == some .eq) = true) : Calls Tryd.prog 4 #[.float .f64 x] w (Tru w) := by
  have HN := Lib.hid (zzNaN_any x w)
  rw [h0] at HN
  have HZ := Lib.hid hc
  have HG := Lib.hid HG
  have HS := Lib.hid (zzSign_zero w)
  have k : (FloatKind.f64.format.order 0 0 == some .eq) = true := by decide +kernel
  subst hr
  clear h0 hc
  go_enter Tryd.func4, Tryd.ntmps4
  go_wp2_with fail
  refine HZ.out.mono ?_
  rintro e w1 ⟨rfl, hw⟩
  obtain rfl : w = w1 := hw.symm
  go_wp2_with fail
  refine HN.out.mono ?_
  rintro e w1 ⟨rfl, hw⟩
  obtain rfl : w = w1 := hw.symm
  go_wp2_with fail
  refine HG.out.mono ?_
  rintro e w1 ⟨rfl, hw⟩
  obtain rfl : w = w1 := hw.symm
  go_wp2_with fail
  refine HS.out.mono ?_
  rintro e w1 ⟨rfl, hw⟩
  obtain rfl : w = w1 := hw.symm
  go_wp2_with fail
  go_ret
  exact ⟨rfl, rfl⟩
theorem lawV_rest (x r : Nat) (w : World) (h0 : Ieee.double.order x x = some .eq) (hc : Calls Tryd.prog 7 #[.float .f64 x] w fun e w' => e = .returned (.float .f64 r) ∧ w' = w) (h1 : (FloatKind.f64.format.order x 9218868437227405311 == some .gt) = false) (h2 : (FloatKind.f64.format.order x 18442240474082181119 == some .lt) = false) (h3 : (FloatKind.f64.format.order x 0 == some .eq) = false) (HG : Calls Tryd.prog 8 #[.float .f64 x] w fun e w' => e = .returned (.bool false) ∧ w' = w) (hr : Ieee.double.order r r = some .eq) (h4 : (FloatKind.f64.format.order x 4607182418800017408 == some .eq) = false) (h5 : (FloatKind.f64.format.order x 4611686018427387904 == some .eq) = false) : Calls Tryd.prog 4 #[.float .f64 x] w (Tru w) := by
  have HN := Lib.hid (zzNaN_any x w)
  rw [h0] at HN
  have HZ := Lib.hid hc
  have HG := Lib.hid HG
  have HR := Lib.hid (zzNaN_any r w)
  rw [hr] at HR
  clear h0 hc hr
  go_enter Tryd.func4, Tryd.ntmps4
  go_wp2_with fail
  refine HZ.out.mono ?_
  rintro e w1 ⟨rfl, hw⟩
  obtain rfl : w = w1 := hw.symm
  go_wp2_with fail
  refine HN.out.mono ?_
  rintro e w1 ⟨rfl, hw⟩
  obtain rfl : w = w1 := hw.symm
  go_wp2_with fail
  refine HG.out.mono ?_
  rintro e w1 ⟨rfl, hw⟩
  obtain rfl : w = w1 := hw.symm
  go_wp2_with fail
  refine HR.out.mono ?_
  rintro e w1 ⟨rfl, hw⟩
  obtain rfl : w = w1 := hw.symm
  go_wp2_with fail
  go_ret
  exact ⟨rfl, rfl⟩
theorem gM_pos {x : Nat} (h : x < 2047 * 2 ^ 52) : (FloatKind.f64.format.order x 18442240474082181119 == some .lt) = false := by
  have e : FloatKind.f64.format.order x 18442240474082181119 = some (compare (SV x) (SV 18442240474082181119)) := order_fin (by unfold Fnt rung; omega) (by unfold Fnt rung; decide)
  have s1 : SV x = V x := SV_pos (sg_small (by omega))
  have s2 : SV 18442240474082181119 < 0 := by decide +kernel
  rw [e, Int.compare_eq_gt.2 (by omega)]
  rfl
theorem max_V : SV 18442240474082181119 = -(V 9218868437227405311 : Int) := by decide +kernel
theorem p52_V : SV 14064741636278059008 = -(V 4841369599423283200 : Int) := by decide +kernel
/-- A negative number against one that is not negative. -/
theorem neg_lt {u c : Nat} (h1 : 9223372036854775808 < u) (h2 : u < 18442240474082181120) (hc : c < 2047 * 2 ^ 52) : FloatKind.f64.format.order u c = some .lt := by
  obtain ⟨hf, _, hv, hp⟩ := neg_facts h1 h2
  have e : FloatKind.f64.format.order u c = some (compare (SV u) (SV c)) := order_fin hf (by unfold Fnt rung; omega)
  have s1 : SV c = V c := SV_pos (sg_small (by omega))
  rw [e, Int.compare_eq_lt.2 (by omega)]
theorem gM_neg {u : Nat} (h1 : 9223372036854775808 < u) (h2 : u < 18442240474082181120) : (FloatKind.f64.format.order u 18442240474082181119 == some .lt) = false := by
  obtain ⟨hf, _, hv, hp⟩ := neg_facts h1 h2
  have e : FloatKind.f64.format.order u 18442240474082181119 = some (compare (SV u) (SV 18442240474082181119)) := order_fin hf (by unfold Fnt rung; decide)
  have hm := V_mono (x := u - 9223372036854775808) (y := 9218868437227405311) (by rw [rung_small (by omega), rung_small (by decide)]; omega)
  have s2 := max_V
  rw [e]
  rcases Int.lt_trichotomy (SV u) (SV 18442240474082181119) with h | h | h
  · omega
  · rw [Int.compare_eq_eq.2 h]; rfl
  · rw [Int.compare_eq_gt.2 h]; rfl
theorem leq52_t {u : Nat} (h1 : 9223372036854775808 < u) (h2 : u < 18442240474082181120) (h : 4841369599423283200 ≤ u - 9223372036854775808) : (FloatKind.f64.format.order u 14064741636278059008 == some .lt || FloatKind.f64.format.order u 14064741636278059008 == some .eq) = true := by
  obtain ⟨hf, _, hv, hp⟩ := neg_facts h1 h2
  have e : FloatKind.f64.format.order u 14064741636278059008 = some (compare (SV u) (SV 14064741636278059008)) := order_fin hf (by unfold Fnt rung; decide)
  have hm := V_mono (y := u - 9223372036854775808) (x := 4841369599423283200) (by rw [rung_small (by omega : u - 9223372036854775808 < 2 ^ 63), rung_small (by decide)]; exact h)
  have s2 := p52_V
  rw [e]
  rcases Int.lt_trichotomy (SV u) (SV 14064741636278059008) with h | h | h
  · rw [Int.compare_eq_lt.2 h]; rfl
  · rw [Int.compare_eq_eq.2 h]; rfl
  · omega
theorem leq52_f {u : Nat} (h1 : 9223372036854775808 < u) (h2 : u < 18442240474082181120) (h : u - 9223372036854775808 < 4841369599423283200) : (FloatKind.f64.format.order u 14064741636278059008 == some .lt || FloatKind.f64.format.order u 14064741636278059008 == some .eq) = false := by
  obtain ⟨hf, _, hv, hp⟩ := neg_facts h1 h2
  have e : FloatKind.f64.format.order u 14064741636278059008 = some (compare (SV u) (SV 14064741636278059008)) := order_fin hf (by unfold Fnt rung; decide)
  have hm := V_lt (x := u - 9223372036854775808) (y := 4841369599423283200) (by rw [rung_small (by omega : u - 9223372036854775808 < 2 ^ 63), rung_small (by decide)]; exact h)
  have s2 := p52_V
  rw [e, Int.compare_eq_gt.2 (by omega)]
  rfl
theorem posR_nn {r : Nat} (h : PosR r) : Ieee.double.order r r = some .eq := nn_self ⟨by have := h.2; omega, by have := h.2; unfold rung; omega⟩
theorem lt_ne {a b : Nat} (h : FloatKind.f64.format.order a b = some .lt) : (FloatKind.f64.format.order a b == some .eq) = false ∧ (FloatKind.f64.format.order a b == some .gt) = false ∧ (FloatKind.f64.format.order a b == some .lt) = true := by
  rw [h]
  exact ⟨rfl, rfl, rfl⟩
theorem lawV_pos (x : Nat) (h1 : 1 ≤ x) (h2 : x < 2047 * 2 ^ 52) (w : World) (T : Tabs w) : Calls Tryd.prog 4 #[.float .f64 x] w (Tru w) := by
  have hf : Fnt x := by unfold Fnt rung; omega
  have h0 : Ieee.double.order x x = some .eq := order_self hf
  obtain ⟨r, s, hr, hc⟩ := lg_pos x h1 h2 w T
  have HZ := zz_call hc
  have g1 := gtr_f (x := x) (c := 9218868437227405311) (by omega) (by decide)
  have g2 := gM_pos h2
  have g3 := eql_f (x := x) (c := 0) (.inr (by omega)) h2 (by decide)
  have HG := zzNegInt_pos x h0 (lss_f (x := x) (c := 0) (by omega) h2) w
  rcases hr with ⟨hx, hr⟩ | ⟨⟨hx1, hx2⟩, hr⟩ | ⟨hx, hr⟩
  · rcases hx with hx | hx
    · exact lawV_one x r w h0 HZ g1 g2 g3 HG hr (eql_t hx (by decide))
    · exact lawV_two x r w h0 HZ g1 g2 g3 HG hr (eql_f (.inr (by omega)) h2 (by decide)) (eql_t hx (by decide))
  · exact lawV_rest x r w h0 HZ g1 g2 g3 HG (order_self hr.2.1) (eql_f (.inr (by omega)) h2 (by decide)) (eql_f (.inl (by omega)) h2 (by decide))
  · exact lawV_rest x r w h0 HZ g1 g2 g3 HG (posR_nn hr) (eql_f (by omega) h2 (by decide)) (eql_f (by omega) h2 (by decide))
theorem lawV_neg (u : Nat) (h1 : 9223372036854775808 < u) (h2 : u < 18442240474082181120) (w : World) (T : Tabs w) : Calls Tryd.prog 4 #[.float .f64 u] w (Tru w) := by
  obtain ⟨hf, _, hv, hp⟩ := neg_facts h1 h2
  have h0 : Ieee.double.order u u = some .eq := order_self hf
  obtain ⟨x, hx⟩ : ∃ x, x = u - 9223372036854775808 := ⟨_, rfl⟩
  obtain ⟨r, s, hr, hc⟩ := lg_neg u x h1 h2 hx w T
  have HZ := zz_call hc
  have g1 := (lt_ne (neg_lt (c := 9218868437227405311) h1 h2 (by decide))).2.1
  have g2 := gM_neg h1 h2
  have l0 := lt_ne (neg_lt (c := 0) h1 h2 (by decide))
  have ginf : (FloatKind.f64.format.order 9218868437227405312 9218868437227405311 == some .gt) = true := by decide +kernel
  have e1 := (lt_ne (neg_lt (c := 4607182418800017408) h1 h2 (by decide))).1
  have e2 := (lt_ne (neg_lt (c := 4611686018427387904) h1 h2 (by decide))).1
  by_cases hb : 4841369599423283200 ≤ x
  · have hri := hr.2 (.inl hb)
    subst hri
    exact lawV_int u _ w h0 HZ g1 g2 l0.1 (zzNegInt_big u h0 l0.2.2 g1 g2 (leq52_t h1 h2 (by omega)) w) ginf
  · obtain ⟨n, b, hcv, hbb, himp⟩ := negint_low h1 h2 hx (by omega)
    have HG := zzNegInt_low u _ n b h0 l0.2.2 g1 g2 (leq52_f h1 h2 (by omega)) hcv rfl hbb w
    cases b
    · exact lawV_rest u r w h0 HZ g1 g2 l0.1 HG (nn_self hr.1) e1 e2
    · have hri := hr.2 (.inr (himp rfl))
      subst hri
      exact lawV_int u _ w h0 HZ g1 g2 l0.1 HG ginf
theorem lawV (x : Nat) (hx : x < 18446744073709551616) (w : World) (T : Tabs w) : Calls Tryd.prog 4 #[.float .f64 x] w (Tru w) := by
  rcases classes x (by omega) with (rfl | rfl) | ⟨h1, h2⟩ | rfl | rfl | h | ⟨h1, h2⟩
  · exact lawV_zero 0 _ w (by decide +kernel) (zz_call (lgZero 0 (by decide) (by unfold Fnt rung; decide) (by decide +kernel) w)) (by decide +kernel) (by decide +kernel) (by decide +kernel) (by decide +kernel)
  · exact lawV_zero 9223372036854775808 _ w (by decide +kernel) (zz_call (lgZero 9223372036854775808 (by decide) (by unfold Fnt rung; decide) (by decide +kernel) w)) (by decide +kernel) (by decide +kernel) (by decide +kernel) (by decide +kernel)
  · exact lawV_pos x h1 h2 w T
  · exact lawV_pinf 9218868437227405312 _ w (by decide +kernel) (zz_call (lgInf 9218868437227405312 (by decide) (by decide) (by decide +kernel) w)) (by decide +kernel) (by decide +kernel)
  · exact lawV_ninf 18442240474082181120 _ w (by decide +kernel) (zz_call (lgInf 18442240474082181120 (by decide) (by decide) (by decide +kernel) w)) (by decide +kernel) (by decide +kernel) (by decide +kernel)
  · exact lawV_nan x w (order_nan h x) (zz_call (lgNaN x (order_nan h x) w))
  · exact lawV_neg x h1 h2 w T
end Go.Proofs.YtlemgjlnlegcgaaDoor
