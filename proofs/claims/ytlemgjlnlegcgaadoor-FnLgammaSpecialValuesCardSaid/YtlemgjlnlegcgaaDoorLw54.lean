/- The law on the sign of lgamma on positive numbers. -/
import Derived.Test.YtlemgjlnlegcgaaDoorPs54
import Derived.Below
namespace Go.Proofs.YtlemgjlnlegcgaaDoor
open Go.RowKit
open FL
open Go.Extern
set_option linter.unusedVariables false
set_option linter.unusedSimpArgs false

theorem gtr_t {x c : Nat} (h : c < x) (hx : x < 2047 * 2 ^ 52) : (FloatKind.f64.format.order x c == some .gt) = true := by
  rw [ord_w hx (by omega), Nat.compare_eq_gt.2 h]; rfl
theorem gtr_f {x c : Nat} (h : x ≤ c) (hc : c < 2047 * 2 ^ 52) : (FloatKind.f64.format.order x c == some .gt) = false := by
  rw [ord_w (by omega) hc]
  rcases Nat.lt_or_eq_of_le h with h | h
  · rw [Nat.compare_eq_lt.2 h]; rfl
  · rw [Nat.compare_eq_eq.2 h]; rfl
theorem order_nan {x : Nat} (h : 2047 * 2 ^ 52 < rung x) (y : Nat) : Ieee.double.order x y = none := by
  unfold Ieee.Format.order
  unfold rung at h
  rw [rd_def, if_neg (by omega), if_neg (by omega), if_neg (by omega)]
  rfl
/-- The classes of words. -/
theorem classes (x : Nat) (hx : x < 2 ^ 64) : (x = 0 ∨ x = 9223372036854775808) ∨ (0 < x ∧ x < 2047 * 2 ^ 52) ∨ x = 9218868437227405312 ∨ x = 18442240474082181120 ∨ 2047 * 2 ^ 52 < rung x ∨ (9223372036854775808 < x ∧ x < 18442240474082181120) := by
  unfold rung
  omega
theorem sg_big {x : Nat} (h : 2 ^ 63 ≤ x) (hx : x < 2 ^ 64) : sg x = true := by
  unfold sg
  have : x / 2 ^ 63 % 2 = 1 := by omega
  rw [this]; rfl
/-- The opposite of a negative number. -/
theorem neg_facts {x : Nat} (h1 : 9223372036854775808 < x) (h2 : x < 18442240474082181120) : Fnt x ∧ negw x = x - 9223372036854775808 ∧ SV x = -(V (x - 9223372036854775808) : Int) ∧ 0 < V (x - 9223372036854775808) := by
  have hs := sg_big (x := x) (by omega) (by omega)
  have hr : rung x = x - 9223372036854775808 := by unfold rung; omega
  have hr2 : rung (x - 9223372036854775808) = x - 9223372036854775808 := by unfold rung; omega
  refine ⟨by unfold Fnt; omega, ?_, ?_, ?_⟩
  · rcases xor_sign x (by omega) with ⟨a, _⟩ | ⟨_, b⟩
    · omega
    · rw [b]
  · rw [SV_neg hs, V_rung, V_rung, hr, hr2]
  · have := V_lt (x := 0) (y := x - 9223372036854775808) (by rw [hr2]; show rung 0 < _; unfold rung; omega)
    omega
theorem SV_zero : SV 0 = 0 := by decide +kernel
theorem order_neg {x : Nat} (h1 : 9223372036854775808 < x) (h2 : x < 18442240474082181120) : Ieee.double.order x 0 = some .lt := by
  obtain ⟨hf, _, hv, hp⟩ := neg_facts h1 h2
  rw [order_fin hf (by unfold Fnt rung; omega), SV_zero, Int.compare_eq_lt.2 (by omega)]
theorem order_negR {r : Nat} (h : NegR r) : (FloatKind.f64.format.order r 0 == some .lt) = true := by
  have e : FloatKind.f64.format.order r 0 = some (compare (SV r) (SV 0)) := order_fin h.2.1 (by unfold Fnt rung; omega)
  rw [e, SV_zero, Int.compare_eq_lt.2 h.2.2]
  rfl
theorem order_posR {r : Nat} (h : PosR r) : (FloatKind.f64.format.order r 0 == some .gt) = true := by
  by_cases hi : r < 2047 * 2 ^ 52
  · exact gtr_t h.1 hi
  · have e : r = 2047 * 2 ^ 52 := by have := h.2; omega
    rw [e]
    decide +kernel
theorem zzNaN_any (x : Nat) (w : World) : Calls Tryd.prog 5 #[.float .f64 x] w fun e w' => e = .returned (.bool (Ieee.double.order x x != some .eq)) ∧ w' = w := by
  go_enter Tryd.func5, Tryd.ntmps5
  go_wp2_with fail
  go_ret
  exact ⟨rfl, rfl⟩
theorem zzInf_f (x : Nat) (h1 : (FloatKind.f64.format.order x 9218868437227405311 == some .gt) = false) (h2 : (FloatKind.f64.format.order x 18442240474082181119 == some .lt) = false) (w : World) : Calls Tryd.prog 6 #[.float .f64 x] w fun e w' => e = .returned (.bool false) ∧ w' = w := by
  go_enter Tryd.func6, Tryd.ntmps6
  go_wp2_with fail
  go_ret
  exact ⟨rfl, rfl⟩
theorem zzInf_t (x : Nat) (h1 : (FloatKind.f64.format.order x 9218868437227405311 == some .gt) = true) (w : World) : Calls Tryd.prog 6 #[.float .f64 x] w fun e w' => e = .returned (.bool true) ∧ w' = w := by
  go_enter Tryd.func6, Tryd.ntmps6
  go_wp2_with fail
  go_ret
  exact ⟨rfl, rfl⟩
theorem zz_call {x r : Nat} {s : Int} {w : World} (h : Calls Tryd.prog 11 #[.float .f64 x] w fun e w' => e = .returned (.tuple #[.float .f64 r, .int .i64 s]) ∧ w' = w) : Calls Tryd.prog 7 #[.float .f64 x] w fun e w' => e = .returned (.float .f64 r) ∧ w' = w := by
  have HL := Lib.hid h
  have h2 : Calls Tryd.prog 10 #[.float .f64 x] w fun e w' => e = .returned (.float .f64 r) ∧ w' = w := by
    clear h
    go_enter Tryd.func10, Tryd.ntmps10
    go_wp2_with fail
    refine HL.out.mono ?_
    rintro e w1 ⟨rfl, hw⟩
    obtain rfl : w = w1 := hw.symm
    go_wp2_with fail
    go_ret
    exact ⟨rfl, rfl⟩
  have HF := Lib.hid h2
  clear h h2 HL
  go_enter Tryd.func7, Tryd.ntmps7
  go_wp2_with fail
  refine HF.out.mono ?_
  rintro e w1 ⟨rfl, hw⟩
  obtain rfl : w = w1 := hw.symm
  go_wp2_with fail
  go_ret
  exact ⟨rfl, rfl⟩
/-- What a law answers. -/
def Tru (w : World) (e : Ending) (w' : World) : Prop := e = .returned (.bool true) ∧ w' = w
theorem lawS_nan (x : Nat) (h : 2047 * 2 ^ 52 < rung x) (w : World) : Calls Tryd.prog 3 #[.float .f64 x] w (Tru w) := by
  have HN := Lib.hid (zzNaN_any x w)
  rw [order_nan h] at HN
  clear h
  go_enter Tryd.func3, Tryd.ntmps3
  go_wp2_with fail
  refine HN.out.mono ?_
  rintro e w1 ⟨rfl, hw⟩
  obtain rfl : w = w1 := hw.symm
  go_wp2_with fail
  go_ret
  exact ⟨rfl, rfl⟩
theorem lawS_le (x : Nat) (h0 : Ieee.double.order x x = some .eq) (h1 : (FloatKind.f64.format.order x 0 == some .gt) = false) (w : World) : Calls Tryd.prog 3 #[.float .f64 x] w (Tru w) := by
  have HN := Lib.hid (zzNaN_any x w)
  rw [h0] at HN
  clear h0
  go_enter Tryd.func3, Tryd.ntmps3
  go_wp2_with fail
  refine HN.out.mono ?_
  rintro e w1 ⟨rfl, hw⟩
  obtain rfl : w = w1 := hw.symm
  go_wp2_with fail
  go_ret
  exact ⟨rfl, rfl⟩
theorem lawS_inf (x : Nat) (h0 : Ieee.double.order x x = some .eq) (h1 : (FloatKind.f64.format.order x 0 == some .gt) = true) (h2 : (FloatKind.f64.format.order x 9218868437227405311 == some .gt) = true) (w : World) : Calls Tryd.prog 3 #[.float .f64 x] w (Tru w) := by
  have HN := Lib.hid (zzNaN_any x w)
  rw [h0] at HN
  have HI := Lib.hid (zzInf_t x h2 w)
  clear h0 h2
  go_enter Tryd.func3, Tryd.ntmps3
  go_wp2_with fail
  refine HN.out.mono ?_
  rintro e w1 ⟨rfl, hw⟩
  obtain rfl : w = w1 := hw.symm
  go_wp2_with fail
  refine HI.out.mono ?_
  rintro e w1 ⟨rfl, hw⟩
  obtain rfl : w = w1 := hw.symm
  go_wp2_with fail
  go_ret
  exact ⟨rfl, rfl⟩
theorem lawS_pos (x : Nat) (h1 : 1 ≤ x) (h2 : x < 2047 * 2 ^ 52) (w : World) (T : Tabs w) : Calls Tryd.prog 3 #[.float .f64 x] w (Tru w) := by
  have hf : Fnt x := by unfold Fnt rung; omega
  have HN := Lib.hid (zzNaN_any x w)
  rw [order_self hf] at HN
  have g0 := gtr_t (x := x) (c := 0) (by omega) h2
  have gM : (FloatKind.f64.format.order x 18442240474082181119 == some .lt) = false := by
    have e : FloatKind.f64.format.order x 18442240474082181119 = some (compare (SV x) (SV 18442240474082181119)) := order_fin hf (by unfold Fnt rung; decide)
    have s1 : SV x = V x := SV_pos (sg_small (by omega))
    have s2 : SV 18442240474082181119 < 0 := by decide +kernel
    rw [e, Int.compare_eq_gt.2 (by omega)]
    rfl
  have HI := Lib.hid (zzInf_f x (gtr_f (by omega) (by decide)) gM w)
  clear gM
  obtain ⟨r, s, hr, hc⟩ := lg_pos x h1 h2 w T
  have HZ := Lib.hid (zz_call hc)
  clear hc T
  rcases hr with ⟨hx, rfl⟩ | ⟨⟨hx1, hx2⟩, hr⟩ | ⟨hx, hr⟩
  · have k : (FloatKind.f64.format.order 0 0 == some .eq) = true := by decide +kernel
    rcases hx with hx | hx
    · have e1 := eql_t (x := x) (c := 4607182418800017408) hx (by decide)
      clear hx h1 h2 hf
      go_enter Tryd.func3, Tryd.ntmps3
      go_wp2_with fail
      refine HN.out.mono ?_
      rintro e w1 ⟨rfl, hw⟩
      obtain rfl : w = w1 := hw.symm
      go_wp2_with fail
      refine HI.out.mono ?_
      rintro e w1 ⟨rfl, hw⟩
      obtain rfl : w = w1 := hw.symm
      go_wp2_with fail
      refine HZ.out.mono ?_
      rintro e w1 ⟨rfl, hw⟩
      obtain rfl : w = w1 := hw.symm
      go_wp2_with fail
      go_ret
      exact ⟨rfl, rfl⟩
    · have e1 := eql_f (x := x) (c := 4607182418800017408) (.inr (by omega)) h2 (by decide)
      have e2 := eql_t (x := x) (c := 4611686018427387904) hx (by decide)
      clear hx h1 h2 hf
      go_enter Tryd.func3, Tryd.ntmps3
      go_wp2_with fail
      refine HN.out.mono ?_
      rintro e w1 ⟨rfl, hw⟩
      obtain rfl : w = w1 := hw.symm
      go_wp2_with fail
      refine HI.out.mono ?_
      rintro e w1 ⟨rfl, hw⟩
      obtain rfl : w = w1 := hw.symm
      go_wp2_with fail
      refine HZ.out.mono ?_
      rintro e w1 ⟨rfl, hw⟩
      obtain rfl : w = w1 := hw.symm
      go_wp2_with fail
      go_ret
      exact ⟨rfl, rfl⟩
  · have e1 := eql_f (x := x) (c := 4607182418800017408) (.inr (by omega)) h2 (by decide)
    have e2 := eql_f (x := x) (c := 4611686018427387904) (.inl (by omega)) h2 (by decide)
    have e3 := gtr_t (x := x) (c := 4607182418800017408) hx1 h2
    have e4 := lss_t (x := x) (c := 4611686018427387904) hx2 (by decide)
    have k := order_negR hr
    clear hx1 hx2 h1 h2 hf hr
    go_enter Tryd.func3, Tryd.ntmps3
    go_wp2_with fail
    refine HN.out.mono ?_
    rintro e w1 ⟨rfl, hw⟩
    obtain rfl : w = w1 := hw.symm
    go_wp2_with fail
    refine HI.out.mono ?_
    rintro e w1 ⟨rfl, hw⟩
    obtain rfl : w = w1 := hw.symm
    go_wp2_with fail
    refine HZ.out.mono ?_
    rintro e w1 ⟨rfl, hw⟩
    obtain rfl : w = w1 := hw.symm
    go_wp2_with fail
    go_ret
    exact ⟨rfl, rfl⟩
  · have k := order_posR hr
    clear hr
    rcases hx with hx | hx
    · have e1 := eql_f (x := x) (c := 4607182418800017408) (.inl (by omega)) h2 (by decide)
      have e2 := eql_f (x := x) (c := 4611686018427387904) (.inl (by omega)) h2 (by decide)
      have e3 := gtr_f (x := x) (c := 4607182418800017408) (by omega) (by decide)
      clear hx h1 h2 hf
      go_enter Tryd.func3, Tryd.ntmps3
      go_wp2_with fail
      refine HN.out.mono ?_
      rintro e w1 ⟨rfl, hw⟩
      obtain rfl : w = w1 := hw.symm
      go_wp2_with fail
      refine HI.out.mono ?_
      rintro e w1 ⟨rfl, hw⟩
      obtain rfl : w = w1 := hw.symm
      go_wp2_with fail
      refine HZ.out.mono ?_
      rintro e w1 ⟨rfl, hw⟩
      obtain rfl : w = w1 := hw.symm
      go_wp2_with fail
      go_ret
      exact ⟨rfl, rfl⟩
    · have e1 := eql_f (x := x) (c := 4607182418800017408) (.inr (by omega)) h2 (by decide)
      have e2 := eql_f (x := x) (c := 4611686018427387904) (.inr (by omega)) h2 (by decide)
      have e3 := gtr_t (x := x) (c := 4607182418800017408) (by omega) h2
      have e4 := lss_f (x := x) (c := 4611686018427387904) (by omega) h2
      clear hx h1 h2 hf
      go_enter Tryd.func3, Tryd.ntmps3
      go_wp2_with fail
      refine HN.out.mono ?_
      rintro e w1 ⟨rfl, hw⟩
      obtain rfl : w = w1 := hw.symm
      go_wp2_with fail
      refine HI.out.mono ?_
      rintro e w1 ⟨rfl, hw⟩
      obtain rfl : w = w1 := hw.symm
      go_wp2_with fail
      refine HZ.out.mono ?_
      rintro e w1 ⟨rfl, hw⟩
      obtain rfl : w = w1 := hw.symm
      go_wp2_with fail
      go_ret
      exact ⟨rfl, rfl⟩
theorem lawS (x : Nat) (hx : x < 18446744073709551616) (w : World) (T : Tabs w) : Calls Tryd.prog 3 #[.float .f64 x] w (Tru w) := by
  rcases classes x (by omega) with (rfl | rfl) | ⟨h1, h2⟩ | rfl | rfl | h | ⟨h1, h2⟩
  · exact lawS_le 0 (by decide +kernel) (by decide +kernel) w
  · exact lawS_le _ (by decide +kernel) (by decide +kernel) w
  · exact lawS_pos x h1 h2 w T
  · exact lawS_inf _ (by decide +kernel) (by decide +kernel) (by decide +kernel) w
  · exact lawS_le _ (by decide +kernel) (by decide +kernel) w
  · exact lawS_nan x h w
  · refine lawS_le x (order_self (neg_facts h1 h2).1) ?_ w
    rw [show FloatKind.f64.format.order x 0 = some .lt from order_neg h1 h2]
    rfl
end Go.Proofs.YtlemgjlnlegcgaaDoor
