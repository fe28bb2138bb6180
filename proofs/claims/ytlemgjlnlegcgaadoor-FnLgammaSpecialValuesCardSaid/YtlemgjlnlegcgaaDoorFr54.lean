/- normalize and frexp, of positive finite numbers. -/
import Derived.Test.YtlemgjlnlegcgaaDoorBa54
namespace Go.Proofs.YtlemgjlnlegcgaaDoor
open Go.RowKit
open FL
set_option linter.unusedVariables false
set_option linter.unusedSimpArgs false

theorem sg_pos {x : Nat} (h : x < 2 ^ 63) : sg x = false := by
  unfold sg
  have : x / 2 ^ 63 % 2 = 0 := by omega
  rw [this]; rfl
theorem rung_pos {x : Nat} (h : x < 2 ^ 63) : rung x = x := by unfold rung; omega
theorem lt_of_sg {x : Nat} (h : sg x = false) (hx : x < 2 ^ 64) : x < 2 ^ 63 := by
  unfold sg at h
  rcases Nat.lt_or_ge x (2 ^ 63) with h' | h'
  · exact h'
  · have : x / 2 ^ 63 % 2 = 1 := by omega
    rw [this] at h
    cases h
theorem near_lt (neg : Bool) (mag : Nat) (place : Int) : Ieee.double.nearest neg mag place < 2 ^ 64 := FloatKind.f64.format.write_lt (.number neg mag place)
/-- A subnormal, scaled up. -/
theorem sub_norm {x : Nat} (h1 : 1 ≤ x) (h2 : x < 2 ^ 52) : ∃ r, Ieee.double.mul x 4841369599423283200 = some r ∧ 2 ^ 52 ≤ r ∧ r ≤ 53 * 2 ^ 52 := by
  have hx : Bd 1 x := by unfold Bd; rw [rung_pos (by omega)]; omega
  have hc : Bd 1075 4841369599423283200 := by unfold Bd rung; decide
  obtain ⟨r, hr, hb, hs⟩ := bd_mul (G := 53) hx hc (by omega) (by omega) (by omega) (by omega) (by omega) (by omega) (by omega)
  obtain ⟨r', mag, t, k, h', hr', hk, hm⟩ := mul_rnd (hx.fn (by omega)) (hc.fn (by omega))
  rw [hr] at h'
  cases h'
  have hlt : r < 2 ^ 64 := by rw [hr']; exact near_lt _ _ _
  rw [sg_pos (by omega : x < 2 ^ 63), show sg 4841369599423283200 = false by decide] at hs
  have hr63 := lt_of_sg hs hlt
  unfold Bd at hb
  rw [rung_pos hr63] at hb
  refine ⟨r, hr, ?_, hb⟩
  obtain ⟨E1, hE1⟩ : ∃ E1, 1 = E1 := ⟨_, rfl⟩
  have hge : E1 * 2 ^ 52 ≤ rung r := by
    rw [hr']
    refine near_ge (E := E1) _ ?_ (by omega) (by omega)
    obtain ⟨c, hc', vx⟩ : ∃ c, c = 1926 ∧ 2 ^ c ≤ V x := by
      unfold V mg pl
      rw [rung_pos (by omega), if_pos h2, if_pos h2]
      obtain ⟨c, hc⟩ : ∃ c, 1926 = c := ⟨_, rfl⟩
      rw [hc]
      exact ⟨c, rfl, Nat.le_mul_of_pos_left _ h1⟩
    obtain ⟨E2, hE2⟩ : ∃ E2, 1075 = E2 := ⟨_, rfl⟩
    have vc := V_ge (x := 4841369599423283200) (E := E2) (by rw [← hE2]; unfold rung; decide) (by omega)
    refine Nat.le_of_mul_le_mul_right ?_ (Nat.two_pow_pos k)
    rw [hm]
    refine Nat.le_trans ?_ (Nat.mul_le_mul vx vc)
    rw [← Nat.pow_add, ← Nat.pow_add]
    exact Nat.pow_le_pow_right (by omega) (by omega)
  rw [rung_pos hr63] at hge
  omega
/-- What normalize gives. -/
def NormE (x : Nat) (w : World) (e : Ending) (w' : World) : Prop := ∃ (r : Nat) (k : Int), e = .returned (.tuple #[.float .f64 r, .int .i64 k]) ∧ w' = w ∧ 2 ^ 52 ≤ r ∧ r < 2047 * 2 ^ 52 ∧ (k = 0 ∨ (k = -52 ∧ r ≤ 53 * 2 ^ 52))
theorem norm_any (x : Nat) (h1 : 1 ≤ x) (hx : x < 2047 * 2 ^ 52) (w : World) : Calls Tryd.prog 41 #[.float .f64 x] w (NormE x w) := by
  have HA := Lib.hid (abs_any x (by omega) w)
  rw [Nat.mod_eq_of_lt (by omega : x < 2 ^ 63)] at HA
  have ho : FloatKind.f64.format.order x 4503599627370496 = some (compare x 4503599627370496) := order_pos hx (by decide)
  by_cases h2 : x < 2 ^ 52
  · have ho2 : (compare x 4503599627370496 == .lt) = true := by rw [Nat.compare_eq_lt.2 h2]; rfl
    obtain ⟨r, hr, hr1, hr2⟩ := sub_norm h1 h2
    have hm : ∀ w, Sem.run Tryd.prog (binOp .mul 22 (.float .f64 x) (.float .f64 4841369599423283200)) w = .ok (.float .f64 r) w := fun w => run_float_arith w .mul _ .f64 x _ r hr
    have HR := Lib.hid (show NormE x w (.returned (.tuple #[.float .f64 r, .int .i64 (-52)])) w from ⟨r, -52, rfl, rfl, hr1, by omega, .inr ⟨rfl, hr2⟩⟩)
    clear h1 hx h2 hr hr1 hr2
    go_enter Tryd.func41, Tryd.ntmps41
    go_wp2_with fail
    refine HA.out.mono ?_
    rintro e w1 ⟨rfl, hw⟩
    obtain rfl : w = w1 := hw.symm
    go_wp2_with fail
    go_returns
    exact HR.out
  · have ho2 : (compare x 4503599627370496 == .lt) = false := by
      rcases Nat.lt_or_eq_of_le (Nat.le_of_not_lt h2) with h | h
      · rw [Nat.compare_eq_gt.2 (by omega : 4503599627370496 < x)]; rfl
      · rw [Nat.compare_eq_eq.2 (by omega)]; rfl
    have HR := Lib.hid (show NormE x w (.returned (.tuple #[.float .f64 x, .int .i64 0])) w from ⟨x, 0, rfl, rfl, by omega, by omega, .inl rfl⟩)
    clear h1 hx h2
    go_enter Tryd.func41, Tryd.ntmps41
    go_wp2_with fail
    refine HA.out.mono ?_
    rintro e w1 ⟨rfl, hw⟩
    obtain rfl : w = w1 := hw.symm
    go_wp2_with fail
    go_returns
    exact HR.out
theorem and_2047 (r : Nat) (h : r < 2 ^ 63) : bits .and .u64 ((r : Int) / 4503599627370496) 2047 = ((r / 4503599627370496 : Nat) : Int) := by
  have e : (r : Int) / 4503599627370496 = ((r / 4503599627370496 : Nat) : Int) := by omega
  have h2 := bits_and_u64_nat (r / 4503599627370496) 2047 (by omega) (by decide)
  rw [e]
  refine h2.trans ?_
  rw [show 2047 = 2 ^ 11 - 1 by decide, Nat.and_two_pow_sub_one_eq_mod]
  congr 1
  exact Nat.mod_eq_of_lt (by omega)
theorem andNot_exp (r : Nat) (h : r < 2 ^ 63) : bits .andNot .u64 (r : Int) 9218868437227405312 = ((r % 4503599627370496 : Nat) : Int) := by
  have h1 := andNot_nat r 9218868437227405312 (by omega) (by decide)
  refine h1.trans ?_
  congr 1
  rw [show 2 ^ 64 - 1 - 9218868437227405312 = 2 ^ 63 ||| (2 ^ 52 - 1) by decide, Nat.and_or_distrib_left, Nat.and_two_pow_sub_one_eq_mod]
  have : r &&& 2 ^ 63 = 0 := by
    apply Nat.eq_of_testBit_eq
    intro i
    rw [Nat.testBit_and, Nat.testBit_two_pow, Nat.zero_testBit]
    by_cases hi : 63 = i
    · subst hi; rw [Nat.testBit_lt_two_pow h]; rfl
    · simp [hi]
  rw [this, Nat.zero_or]
theorem or_half (f : Nat) (h : f < 4503599627370496) : bits .or .u64 (f : Int) 4602678819172646912 = ((1022 * 4503599627370496 + f : Nat) : Int) := by
  have h1 := bits_or_u64_nat f 4602678819172646912 (by omega) (by decide)
  refine h1.trans ?_
  congr 1
  rw [Nat.or_comm]
  have := Nat.two_pow_add_eq_or_of_lt (i := 52) (b := f) (by omega) 1022
  show 2 ^ 52 * 1022 ||| f = _
  rw [← this]
theorem norm_nor (x : Nat) (h1 : 4503599627370496 ≤ x) (hx : x < 2047 * 2 ^ 52) (w : World) : Calls Tryd.prog 41 #[.float .f64 x] w fun e w' => e = .returned (.tuple #[.float .f64 x, .int .i64 0]) ∧ w' = w := by
  have HA := Lib.hid (abs_any x (by omega) w)
  rw [Nat.mod_eq_of_lt (by omega : x < 2 ^ 63)] at HA
  have ho : FloatKind.f64.format.order x 4503599627370496 = some (compare x 4503599627370496) := order_pos hx (by decide)
  have ho2 : (compare x 4503599627370496 == .lt) = false := by
    rcases Nat.lt_or_eq_of_le h1 with h | h
    · rw [Nat.compare_eq_gt.2 (by omega : 4503599627370496 < x)]; rfl
    · rw [Nat.compare_eq_eq.2 (by omega)]; rfl
  clear h1 hx
  go_enter Tryd.func41, Tryd.ntmps41
  go_wp2_with fail
  refine HA.out.mono ?_
  rintro e w1 ⟨rfl, hw⟩
  obtain rfl : w = w1 := hw.symm
  go_wp2_with fail
  go_returns
  exact ⟨rfl, rfl⟩
/-- frexp of a number that is not subnormal. -/
theorem frexp_nor (x : Nat) (h1 : 4503599627370496 ≤ x) (hx : x < 2047 * 2 ^ 52) (w : World) : Calls Tryd.prog 37 #[.float .f64 x] w fun e w' => e = .returned (.tuple #[.float .f64 (4602678819172646912 + x % 4503599627370496), .int .i64 (((x / 4503599627370496 : Nat) : Int) - 1022)]) ∧ w' = w := by
  have hfx : Fnt x := by unfold Fnt; rw [rung_pos (by omega)]; exact hx
  have ho : FloatKind.f64.format.order x 0 = some (compare x 0) := order_pos hx (by decide)
  have ho2 : (compare x 0 == .eq) = false := by rw [Nat.compare_eq_gt.2 (by omega)]; rfl
  have HI := Lib.hid (isInf_fin x (by omega) hfx w)
  have HN := Lib.hid (isNaN_any x w)
  rw [order_self hfx] at HN
  have HM := Lib.hid (norm_nor x h1 hx w)
  have b1 := bits_run x
  have b2 := and_2047 x (by omega)
  have b3 := andNot_exp x (by omega)
  have b4 := or_half (x % 4503599627370496) (by omega)
  obtain ⟨q, hq⟩ : ∃ q, x / 4503599627370496 = q := ⟨_, rfl⟩
  obtain ⟨f, hf⟩ : ∃ f, x % 4503599627370496 = f := ⟨_, rfl⟩
  rw [hq] at b2
  rw [hf] at b3 b4
  rw [hq, hf]
  obtain ⟨g, hg⟩ : ∃ g, 4602678819172646912 + f = g := ⟨_, rfl⟩
  rw [hg]
  rw [show 1022 * 4503599627370496 + f = g from hg] at b4
  have b5 := from_run g
  have hq1 : 1 ≤ q := by omega
  have hq2 : q ≤ 2046 := by omega
  clear hfx h1 hx hq hf hg
  go_enter Tryd.func37, Tryd.ntmps37
  go_wp2_with fail
  refine HI.out.mono ?_
  rintro e w1 ⟨rfl, hw⟩
  obtain rfl : w = w1 := hw.symm
  go_wp2_with fail
  refine HN.out.mono ?_
  rintro e w1 ⟨rfl, hw⟩
  obtain rfl : w = w1 := hw.symm
  go_wp2_with fail
  refine HM.out.mono ?_
  rintro e w1 ⟨rfl, hw⟩
  obtain rfl : w = w1 := hw.symm
  go_wp2_with fail
  go_returns
  refine ⟨?_, rfl⟩
  rw [show ((q : Int) - 1022) = (q : Int) - 1023 + 1 by omega]
  rfl
theorem Frexp_nor (x : Nat) (h1 : 4503599627370496 ≤ x) (hx : x < 2047 * 2 ^ 52) (w : World) : Calls Tryd.prog 27 #[.float .f64 x] w fun e w' => e = .returned (.tuple #[.float .f64 (4602678819172646912 + x % 4503599627370496), .int .i64 (((x / 4503599627370496 : Nat) : Int) - 1022)]) ∧ w' = w := by
  have HF := Lib.hid (frexp_nor x h1 hx w)
  obtain ⟨g, hg⟩ : ∃ g, 4602678819172646912 + x % 4503599627370496 = g := ⟨_, rfl⟩
  obtain ⟨k, hk⟩ : ∃ k, ((x / 4503599627370496 : Nat) : Int) - 1022 = k := ⟨_, rfl⟩
  rw [hg, hk] at HF ⊢
  clear h1 hx hg hk
  go_enter Tryd.func27, Tryd.ntmps27
  go_wp2_with fail
  refine HF.out.mono ?_
  rintro e w1 ⟨rfl, hw⟩
  obtain rfl : w = w1 := hw.symm
  go_wp2_with fail
  go_returns
  exact ⟨rfl, rfl⟩
theorem one_mul_pow : ((List.range 64).all fun e => Ieee.double.mul 4607182418800017408 ((1024 + e) * 4503599627370496) == some ((1024 + e) * 4503599627370496)) = true := by decide +kernel
theorem or_zero (n : Nat) (h : n < 2 ^ 64) : bits .or .u64 0 (n : Int) = (n : Int) := by
  have h1 := bits_or_u64_nat 0 n (by decide) h
  rw [Nat.zero_or] at h1
  exact h1
set_option maxRecDepth 100000 in
/-- Two, scaled. -/
theorem ldexp_two (e : Nat) (he : e < 64) (w : World) : Calls Tryd.prog 48 #[.float .f64 4611686018427387904, .int .i64 (e : Int)] w fun o w' => o = .returned (.float .f64 ((1024 + e) * 4503599627370496)) ∧ w' = w := by
  have f2 : Fnt 4611686018427387904 := by unfold Fnt rung; decide
  have HI := Lib.hid (isInf_fin 4611686018427387904 (by decide) f2 w)
  have HN := Lib.hid (isNaN_any 4611686018427387904 w)
  rw [order_self f2] at HN
  have HM := Lib.hid (norm_nor 4611686018427387904 (by decide) (by decide) w)
  have o1 : (FloatKind.f64.format.order 4611686018427387904 0 == some .eq) = false := by decide +kernel
  have b1 := bits_run 4611686018427387904
  have b2 : bits .and .i64 1024 2047 = 1024 := by decide +kernel
  have b3 : bits .andNot .u64 4611686018427387904 9218868437227405312 = 0 := by decide +kernel
  have b4 := or_zero ((1024 + e) * 4503599627370496) (by omega)
  have b5 := from_run ((1024 + e) * 4503599627370496)
  have hm := List.all_eq_true.1 one_mul_pow e (List.mem_range.2 he)
  rw [beq_iff_eq] at hm
  have fm : ∀ w, Sem.run Tryd.prog (binOp .mul 22 (.float .f64 4607182418800017408) (.float .f64 ((1024 + e) * 4503599627370496))) w = .ok (.float .f64 ((1024 + e) * 4503599627370496)) w := fun w => run_float_arith w .mul _ .f64 _ _ _ hm
  have hw1 : (((1024 + e) * 4503599627370496 : Nat) : Int) = ((e : Int) + 1 + 1023) * 4503599627370496 := by omega
  obtain ⟨g, hg⟩ : ∃ g, (1024 + e) * 4503599627370496 = g := ⟨_, rfl⟩
  rw [hg] at b4 b5 fm hw1 ⊢
  have b6 : bits .or .u64 0 (((e : Int) + 1 + 1023) * 4503599627370496) = (g : Int) := by rw [← hw1]; exact b4
  have hd1 : decide ((e : Int) + 1 < -1075) = false := decide_eq_false (by omega)
  have hd2 : decide (1023 < (e : Int) + 1) = false := decide_eq_false (by omega)
  have hd3 : decide ((e : Int) + 1 < -1022) = false := decide_eq_false (by omega)
  clear b4 hw1
  clear hm hg f2
  go_enter Tryd.func48, Tryd.ntmps48
  go_wp2_with fail
  refine HI.out.mono ?_
  rintro o w1 ⟨rfl, hw⟩
  obtain rfl : w = w1 := hw.symm
  go_wp2_with fail
  refine HN.out.mono ?_
  rintro o w1 ⟨rfl, hw⟩
  obtain rfl : w = w1 := hw.symm
  go_wp2_with fail
  refine HM.out.mono ?_
  rintro o w1 ⟨rfl, hw⟩
  obtain rfl : w = w1 := hw.symm
  go_wp2_with fail
  go_ret
  exact ⟨rfl, rfl⟩
end Go.Proofs.YtlemgjlnlegcgaaDoor
