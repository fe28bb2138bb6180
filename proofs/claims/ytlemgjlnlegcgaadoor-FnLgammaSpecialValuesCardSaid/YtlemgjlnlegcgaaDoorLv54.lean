/- math.Lgamma of negative numbers: no NaN; and of what is no number. -/
import Derived.Test.YtlemgjlnlegcgaaDoorSp54
import Derived.Test.YtlemgjlnlegcgaaDoorLw54
import Derived.Test.YtlemgjlnlegcgaaDoorNa54
import Derived.Test.YtlemgjlnlegcgaaDoorNb54
import Derived.Test.YtlemgjlnlegcgaaDoorNc54
namespace Go.Proofs.YtlemgjlnlegcgaaDoor
open Go.RowKit
open FL
open Go.Extern
set_option linter.unusedVariables false
set_option linter.unusedSimpArgs false

/-- No NaN. -/
def NotNaN (r : Nat) : Prop := r < 2 ^ 64 ∧ rung r ≤ 2047 * 2 ^ 52
theorem nn_fin {r : Nat} (h : r < 2 ^ 64) (hf : Fnt r) : NotNaN r := ⟨h, Nat.le_of_lt hf⟩
theorem nn_self {r : Nat} (h : NotNaN r) : Ieee.double.order r r = some .eq := by
  by_cases hf : rung r < 2047 * 2 ^ 52
  · exact order_self hf
  · have h1 := h.1
    have h2 := h.2
    unfold rung at hf h2
    have : r = 9218868437227405312 ∨ r = 18442240474082181120 := by omega
    rcases this with rfl | rfl
    · decide +kernel
    · decide +kernel
theorem sub_nn {a q : Nat} (ha : Fnt a ∨ a = 9218868437227405312) (hq : Fnt q) : ∃ r, Ieee.double.sub a q = some r ∧ NotNaN r := by
  rcases ha with ha | rfl
  · obtain ⟨r, hr, hz⟩ := sub_rnd ha hq
    refine ⟨r, hr, ?_⟩
    obtain ⟨neg, mag, t, hr', _⟩ := hz
    rw [hr']
    exact ⟨near_lt64 _ _ _, near_inf _ _ _⟩
  · refine ⟨9218868437227405312, ?_, by decide, by unfold rung; decide⟩
    unfold Ieee.Format.sub
    rw [read_fin hq]
    rfl
theorem good_fnt {g : Nat × Nat → Bool} {e : List Nat} (h : Good g e) : ∃ q e', e = q :: e' ∧ Fnt q := by
  obtain ⟨r, e', p, h1, _, hi⟩ := h
  exact ⟨r, e', h1, hi.2.1⟩
theorem fin_sub {nadj : Nat} (hn : Fnt nadj ∨ nadj = 9218868437227405312) {g : Nat × Nat → Bool} {e : List Nat} (h : Good g e) : ∃ q e' r, e = q :: e' ∧ floatBits .sub .f64 nadj q = some r ∧ NotNaN r := by
  obtain ⟨q, e', he, hq⟩ := good_fnt h
  obtain ⟨r, hr, hn⟩ := sub_nn hn hq
  exact ⟨q, e', r, he, hr, hn⟩
set_option maxRecDepth 100000 in
theorem lgNegTiny (x u L : Nat) (hu : u < 2 ^ 64) (hf : Fnt u) (hn : FloatKind.f64.format.order u 0 = some .lt) (hneg : ∀ w, Sem.run Tryd.prog (Op.unary .neg (.float .f64 u)) w = .ok (.float .f64 x) w) (h2 : x < 4291930444884082688) (hL : MathLog.archLog #[.float .f64 x] = pure (.float .f64 L)) (w : World) : Calls Tryd.prog 11 #[.float .f64 u] w fun e w' => e = .returned (.tuple #[.float .f64 (negw L), .int .i64 (-1)]) ∧ w' = w := by
  have o0 := lss_t (x := x) (c := 4291930444884082688) (by omega) (by decide)
  have HI := Lib.hid (isInf_fin u hu hf w)
  have HN := Lib.hid (isNaN_any u w)
  rw [order_self (x := u) hf] at HN
  have HL := Lib.hid (log_call hL w)
  obtain ⟨r, hr⟩ : ∃ r, negw L = r := ⟨_, rfl⟩
  have f1 : ∀ w, Sem.run Tryd.prog (Op.unary .neg (.float .f64 L)) w = .ok (.float .f64 r) w := fun w => run_neg w hr
  rw [hr]
  clear h2 hf hL hr hu
  go_enter Tryd.func11, Tryd.ntmps11
  go_wp2_with fail
  refine HN.out.mono ?_
  rintro e w1 ⟨rfl, hw⟩
  obtain rfl : w = w1 := hw.symm
  go_wp2_with fail
  refine HI.out.mono ?_
  rintro e w1 ⟨rfl, hw⟩
  obtain rfl : w = w1 := hw.symm
  go_wp2_with fail
  refine HL.out.mono ?_
  rintro e w1 ⟨rfl, hw⟩
  obtain rfl : w = w1 := hw.symm
  go_wp2_with fail
  go_returns
  exact ⟨rfl, rfl⟩
set_option maxRecDepth 100000 in
theorem lgNegBig (x u : Nat) (hu : u < 2 ^ 64) (hf : Fnt u) (hn : FloatKind.f64.format.order u 0 = some .lt) (hneg : ∀ w, Sem.run Tryd.prog (Op.unary .neg (.float .f64 u)) w = .ok (.float .f64 x) w) (h1 : 4841369599423283200 ≤ x) (h2 : x < 2047 * 2 ^ 52) (w : World) : Calls Tryd.prog 11 #[.float .f64 u] w fun e w' => e = .returned (.tuple #[.float .f64 9218868437227405312, .int .i64 1]) ∧ w' = w := by
  have o0 := lss_f (x := x) (c := 4291930444884082688) (by omega) h2
  have o52 := geq_t (x := x) (c := 4841369599423283200) h1 h2
  have HI := Lib.hid (isInf_fin u hu hf w)
  have HN := Lib.hid (isNaN_any u w)
  rw [order_self (x := u) hf] at HN
  have HL := Lib.hid (inf_any w)
  clear h1 h2 hf hu
  go_enter Tryd.func11, Tryd.ntmps11
  go_wp2_with fail
  refine HN.out.mono ?_
  rintro e w1 ⟨rfl, hw⟩
  obtain rfl : w = w1 := hw.symm
  go_wp2_with fail
  refine HI.out.mono ?_
  rintro e w1 ⟨rfl, hw⟩
  obtain rfl : w = w1 := hw.symm
  go_wp2_with fail
  refine HL.out.mono ?_
  rintro e w1 ⟨rfl, hw⟩
  obtain rfl : w = w1 := hw.symm
  go_wp2_with fail
  go_returns
  exact ⟨rfl, rfl⟩
set_option maxRecDepth 100000 in
theorem lgNegInt (x u t : Nat) (hu : u < 2 ^ 64) (hf : Fnt u) (hn : FloatKind.f64.format.order u 0 = some .lt) (hneg : ∀ w, Sem.run Tryd.prog (Op.unary .neg (.float .f64 u)) w = .ok (.float .f64 x) w) (h1 : 4291930444884082688 ≤ x) (h2 : x < 4841369599423283200) (w : World)
    (HS : Calls Tryd.prog 16 #[.float .f64 x] w fun e w' => e = .returned (.float .f64 t) ∧ w' = w) (ht : FloatKind.f64.format.order t 0 = some .eq) : Calls Tryd.prog 11 #[.float .f64 u] w fun e w' => e = .returned (.tuple #[.float .f64 9218868437227405312, .int .i64 1]) ∧ w' = w := by
  have o0 := lss_f (x := x) (c := 4291930444884082688) (by omega) (by omega)
  have o52 := geq_f (x := x) (c := 4841369599423283200) h2 (by decide)
  have HI := Lib.hid (isInf_fin u hu hf w)
  have HN := Lib.hid (isNaN_any u w)
  rw [order_self (x := u) hf] at HN
  have HL := Lib.hid (inf_any w)
  have HC := Lib.hid HS
  clear h1 h2 hf hu HS
  go_enter Tryd.func11, Tryd.ntmps11
  go_wp2_with fail
  refine HN.out.mono ?_
  rintro e w1 ⟨rfl, hw⟩
  obtain rfl : w = w1 := hw.symm
  go_wp2_with fail
  refine HI.out.mono ?_
  rintro e w1 ⟨rfl, hw⟩
  obtain rfl : w = w1 := hw.symm
  go_wp2_with fail
  refine HC.out.mono ?_
  rintro e w1 ⟨rfl, hw⟩
  obtain rfl : w = w1 := hw.symm
  go_wp2_with fail
  refine HL.out.mono ?_
  rintro e w1 ⟨rfl, hw⟩
  obtain rfl : w = w1 := hw.symm
  go_wp2_with fail
  go_returns
  exact ⟨rfl, rfl⟩
theorem small_bd {t : Nat} (h : Small t) : Bd 1063 t := by
  have a1 := h.2.2.1
  have a2 := h.2.2.2
  have s1 : SV 14010698440749613056 = -SV 4787326403894837248 := by decide +kernel
  have s2 := SV_pos (sg_small (show 4787326403894837248 < 2 ^ 63 by decide))
  have s3 := SV_abs t
  have := rung_of_V (x := t) (y := 4787326403894837248) (by omega)
  have e : rung 4787326403894837248 = 4787326403894837248 := rung_small (by decide)
  unfold Bd
  omega
/-- t * x. -/
theorem prod_tx {t x : Nat} (ht : Small t) (hx : x < 4841369599423283200) : ∃ m, floatBits .mul .f64 t x = some m ∧ m < 2 ^ 64 ∧ m % 2 ^ 63 ≤ 1115 * 2 ^ 52 := by
  have h1 := small_bd ht
  have h2 : Bd 1075 x := by unfold Bd; rw [rung_small (by omega)]; omega
  obtain ⟨r, hr, hb, _⟩ := bd_mul (G := 1115) h1 h2 (by decide) (by decide) (by decide) (by decide) (by decide) (by decide) (by decide)
  obtain ⟨r', mag, p, c, h', hr', _⟩ := mul_rnd (h1.fn (by decide)) (h2.fn (by decide))
  rw [hr] at h'
  cases h'
  exact ⟨r, hr, by rw [hr']; exact near_lt64 _ _ _, hb⟩
theorem VR_one : ∃ c, c = 1926 ∧ VR 1 = 2 ^ c := by
  obtain ⟨c, hc, h⟩ := VR_sub (R := 1) (by decide)
  exact ⟨c, hc, by rw [h, Nat.one_mul]⟩
theorem div_zero : Ieee.double.div 4614256656552045848 0 = some 9218868437227405312 := by decide +kernel
/-- Pi / y. -/
theorem quo_pi {y : Nat} (hy : y ≤ 1115 * 2 ^ 52) : ∃ d, floatBits .quo .f64 4614256656552045848 y = some d ∧ 1 ≤ d ∧ d ≤ 9218868437227405312 := by
  by_cases h0 : y = 0
  · subst h0
    exact ⟨9218868437227405312, div_zero, by decide, by decide⟩
  · have ry : rung y = y := rung_small (by omega)
    obtain ⟨E1, hE1⟩ : ∃ E1, 1115 = E1 := ⟨_, rfl⟩
    obtain ⟨E2, hE2⟩ : ∃ E2, 1024 = E2 := ⟨_, rfl⟩
    have fy : Fnt y := by unfold Fnt; omega
    have fp : Fnt 4614256656552045848 := by unfold Fnt rung; decide
    have hv0 : 0 < V y := by
      have h0 : rung 0 = 0 := by unfold rung; rfl
      have := V_lt (x := 0) (y := y) (by rw [ry, h0]; omega)
      omega
    rw [hE1] at hy
    have v1 := V_le (x := y) (E := E1) (by rw [ry]; exact hy) (by omega)
    have v2 := V_ge (x := 4614256656552045848) (E := E2) (by rw [← hE2]; unfold rung; decide) (by omega)
    obtain ⟨r, mag, t, k, hk, hd, hr, _, hge⟩ := div_mag fp fy hv0
    obtain ⟨c, hc, hc1⟩ := VR_one
    have h1 : 1 ≤ rung r := by
      rw [hr]
      refine near_ge_R _ (hge 1 ?_) (by decide)
      rw [hc1]
      refine Nat.le_trans (Nat.mul_le_mul_left _ v1) (Nat.le_trans ?_ (Nat.mul_le_mul_right _ v2))
      rw [← Nat.pow_add, ← Nat.pow_add]
      exact Nat.pow_le_pow_right (by omega) (by omega)
    have h2 : rung r ≤ 2047 * 2 ^ 52 := by rw [hr]; exact near_inf _ _ _
    have h64 : r < 2 ^ 64 := by rw [hr]; exact near_lt64 _ _ _
    have s1 : sg r = false := by
      rw [hr, sg_small (by omega : y < 2 ^ 63), sg_small (by decide : 4614256656552045848 < 2 ^ 63)]
      exact near_sign _
    have hz : r < 2 ^ 63 := by
      unfold sg at s1
      rcases Nat.lt_or_ge r (2 ^ 63) with h' | h'
      · exact h'
      · have : r / 2 ^ 63 % 2 = 1 := by omega
        rw [this] at s1
        cases s1
    rw [rung_small hz] at h1 h2
    exact ⟨r, hd, h1, by omega⟩
theorem log_all : (logR 1 9218868437227405311).isSome = true := by decide +kernel
theorem log_d {d : Nat} (h1 : 1 ≤ d) (h2 : d ≤ 9218868437227405312) : ∃ nadj, MathLog.archLog #[.float .f64 d] = pure (.float .f64 nadj) ∧ (Fnt nadj ∨ nadj = 9218868437227405312) := by
  by_cases hi : d = 9218868437227405312
  · subst hi
    exact ⟨9218868437227405312, by kernel_rfl, .inr rfl⟩
  · obtain ⟨q, hq⟩ := Option.isSome_iff_exists.1 log_all
    obtain ⟨L, hL, hin⟩ := logR_ok (a := q.1) (b := q.2) h1 (show d ≤ 9218868437227405311 by omega) hq
    exact ⟨L, hL, .inl hin.2.1⟩
theorem SV_one : SV 4607182418800017408 = UK := by decide +kernel
/-- Below one there is no whole number but nought. -/
theorem flr_low {x : Nat} (h1 : 1 ≤ x) (h2 : x < 4607182418800017408) : SV (flr x) ≠ SV x := by
  intro h
  obtain ⟨n, k, hk, hfl, b1, b2⟩ := flr_pos (x := x) (sg_small (by omega))
  obtain ⟨k', hk', hU⟩ := UK_eq
  obtain rfl : k' = k := by omega
  have s1 := SV_one
  rw [hU, SV_pos (sg_small (by decide))] at s1
  have hlt := V_lt (x := x) (y := 4607182418800017408) (by rw [rung_small (by omega), rung_small (by decide)]; exact h2)
  have hn : n = 0 := by
    rcases Nat.eq_zero_or_pos n with h' | h'
    · exact h'
    · exfalso
      have : 1 * 2 ^ k' ≤ n * 2 ^ k' := Nat.mul_le_mul_right _ h'
      omega
  rw [hfl, hn] at h
  have h0 : SV (fnInt ((0 : Nat) : Int)) = 0 := by decide +kernel
  rw [h0, SV_pos (sg_small (by omega))] at h
  have hr : rung 0 = 0 := by unfold rung; rfl
  have := V_lt (x := 0) (y := x) (by rw [rung_small (by omega : x < 2 ^ 63), hr]; omega)
  omega
theorem order_tri {t : Nat} (h : Fnt t) : FloatKind.f64.format.order t 0 = some .eq ∨ (SV t ≠ 0 ∧ (FloatKind.f64.format.order t 0 = some .lt ∨ FloatKind.f64.format.order t 0 = some .gt)) := by
  have e : FloatKind.f64.format.order t 0 = some (compare (SV t) (SV 0)) := order_fin h (by unfold Fnt rung; omega)
  rw [e, SV0']
  rcases Int.lt_trichotomy (SV t) 0 with h' | h' | h'
  · rw [Int.compare_eq_lt.2 h']; exact .inr ⟨by omega, .inl rfl⟩
  · rw [Int.compare_eq_eq.2 h']; exact .inl rfl
  · rw [Int.compare_eq_gt.2 h']; exact .inr ⟨by omega, .inr rfl⟩
/-- What Lgamma gives of the negative number -x. -/
def NegOk (x r : Nat) : Prop := NotNaN r ∧ (4841369599423283200 ≤ x ∨ SV (flr x) = SV x → r = 9218868437227405312)
theorem lg_neg (u x : Nat) (h1 : 9223372036854775808 < u) (h2 : u < 18442240474082181120) (hx : x = u - 9223372036854775808) (w : World) (T : Tabs w) : ∃ r s, NegOk x r ∧ Calls Tryd.prog 11 #[.float .f64 u] w fun e w' => e = .returned (.tuple #[.float .f64 r, .int .i64 s]) ∧ w' = w := by
  obtain ⟨hf, hnw, _, _⟩ := neg_facts h1 h2
  have hu : u < 2 ^ 64 := by omega
  have hn : FloatKind.f64.format.order u 0 = some .lt := order_neg h1 h2
  have hneg : ∀ w, Sem.run Tryd.prog (Op.unary .neg (.float .f64 u)) w = .ok (.float .f64 x) w := fun w => run_neg w (by rw [hnw, hx])
  have hi : NotNaN 9218868437227405312 := ⟨by decide, by unfold rung; decide⟩
  by_cases c0 : x < 4291930444884082688
  · obtain ⟨L, hL, hp, hfn⟩ := encTiny (x := x) (by omega) c0
    exact ⟨_, _, ⟨nn_fin (by have := hp.2; omega) hfn, fun h => by
      rcases h with h | h
      · omega
      · exact absurd h (flr_low (by omega) (by omega))⟩, lgNegTiny x u L hu hf hn hneg c0 hL w⟩
  by_cases c52 : 4841369599423283200 ≤ x
  · exact ⟨_, _, ⟨hi, fun _ => rfl⟩, lgNegBig x u hu hf hn hneg c52 (by omega) w⟩
  have h52 : x < 4841369599423283200 := by omega
  obtain ⟨t, hst, hit, HS⟩ := sinPi_any x (by omega) h52 w T
  rcases order_tri hst.2.1 with ht | ⟨ht0, ht⟩
  · exact ⟨_, _, ⟨hi, fun _ => rfl⟩, lgNegInt x u t hu hf hn hneg (by omega) h52 w HS ht⟩
  have hni : SV (flr x) ≠ SV x := by
    intro h
    by_cases hq : 4598175219545276416 ≤ x
    · rw [hit hq h] at ht0
      exact ht0 (by decide +kernel)
    · exact flr_low (by omega) (by omega) h
  have hn1 : x ≠ 4607182418800017408 := by
    intro h
    rw [h] at hni
    exact hni (by decide +kernel)
  have hn2 : x ≠ 4611686018427387904 := by
    intro h
    rw [h] at hni
    exact hni (by decide +kernel)
  obtain ⟨m, hm, hm64, hmb⟩ := prod_tx hst h52
  obtain ⟨d, hd, d1, d2⟩ := quo_pi hmb
  obtain ⟨nadj, hl, hnf⟩ := log_d d1 d2
  have fin : ∀ {r : Nat}, NotNaN r → NegOk x r := fun hr => ⟨hr, fun h => by
    rcases h with h | h
    · omega
    · exact absurd h hni⟩
  by_cases pA2 : x < 4596072295943909225
  · obtain ⟨r, s, hq, hc⟩ := negA2 x u t m d nadj hu hf hn hneg (by omega) (by omega) h52 w T HS ht hm hm64 hd hl (Q := NotNaN) (by
      obtain ⟨L, hL, hr⟩ := encA2 (x := x) (by omega) (by omega)
      exact ⟨L, hL, hr.mono fun e he => fin_sub hnf he⟩)
    exact ⟨r, s, fin hq, hc⟩
  by_cases pA1 : x < 4604765176056180002
  · obtain ⟨r, s, hq, hc⟩ := negA1 x u t m d nadj hu hf hn hneg (by omega) (by omega) h52 w T HS ht hm hm64 hd hl (Q := NotNaN) (by
      obtain ⟨L, hL, hr⟩ := encA1 (x := x) (by omega) (by omega)
      exact ⟨L, hL, hr.mono fun e he => fin_sub hnf he⟩)
    exact ⟨r, s, fin hq, hc⟩
  by_cases pA0 : x < 4606281698874543310
  · obtain ⟨r, s, hq, hc⟩ := negA0 x u t m d nadj hu hf hn hneg (by omega) (by omega) h52 w T HS ht hm hm64 hd hl (Q := NotNaN) (by
      obtain ⟨L, hL, hr⟩ := encA0 (x := x) (by omega) (by omega)
      exact ⟨L, hL, hr.mono fun e he => fin_sub hnf he⟩)
    exact ⟨r, s, fin hq, hc⟩
  by_cases pB2 : x < 4607182418800017408
  · obtain ⟨r, s, hq, hc⟩ := negB2 x u t m d nadj hu hf hn hneg (by omega) (by omega) h52 w T HS ht hm hm64 hd hl (Q := NotNaN) ((encB2 (x := x) (by omega) (by omega)).mono fun e he => fin_sub hnf he)
    exact ⟨r, s, fin hq, hc⟩
  by_cases pB3 : x < 4608045453256689133
  · obtain ⟨r, s, hq, hc⟩ := negB3 x u t m d nadj hu hf hn hneg (by omega) (by omega) h52 w T HS ht hm hm64 hd hl (Q := NotNaN) ((encB3 (x := x) (by omega) (by omega)).mono fun e he => fin_sub hnf he)
    exact ⟨r, s, fin hq, hc⟩
  by_cases pB1 : x < 4610477397055469201
  · obtain ⟨r, s, hq, hc⟩ := negB1 x u t m d nadj hu hf hn hneg (by omega) (by omega) h52 w T HS ht hm hm64 hd hl (Q := NotNaN) ((encB1 (x := x) (by omega) (by omega)).mono fun e he => fin_sub hnf he)
    exact ⟨r, s, fin hq, hc⟩
  by_cases pB0 : x < 4611686018427387904
  · obtain ⟨r, s, hq, hc⟩ := negB0 x u t m d nadj hu hf hn hneg (by omega) (by omega) h52 w T HS ht hm hm64 hd hl (Q := NotNaN) ((encB0 (x := x) (by omega) (by omega)).mono fun e he => fin_sub hnf he)
    exact ⟨r, s, fin hq, hc⟩
  by_cases pC2 : x < 4613937818241073152
  · obtain ⟨r, s, hq, hc⟩ := negC2 x u t m d nadj hu hf hn hneg (by omega) (by omega) h52 w T HS ht hm hm64 hd hl (Q := NotNaN) ((encC2 (x := x) (by omega) (by omega)).mono fun e he => fin_sub hnf he)
    exact ⟨r, s, fin hq, hc⟩
  by_cases pC3 : x < 4616189618054758400
  · obtain ⟨r, s, hq, hc⟩ := negC3 x u t m d nadj hu hf hn hneg (by omega) (by omega) h52 w T HS ht hm hm64 hd hl (Q := NotNaN) ((encC3 (x := x) (by omega) (by omega)).mono fun e he => by
      obtain ⟨z, e2, h0, L, hL, hr⟩ := he
      exact ⟨z, e2, h0, L, hL, hr.mono fun e he => fin_sub hnf he⟩)
    exact ⟨r, s, fin hq, hc⟩
  by_cases pC4 : x < 4617315517961601024
  · obtain ⟨r, s, hq, hc⟩ := negC4 x u t m d nadj hu hf hn hneg (by omega) (by omega) h52 w T HS ht hm hm64 hd hl (Q := NotNaN) ((encC4 (x := x) (by omega) (by omega)).mono fun e he => by
      obtain ⟨z, e2, h0, L, hL, hr⟩ := he
      exact ⟨z, e2, h0, L, hL, hr.mono fun e he => fin_sub hnf he⟩)
    exact ⟨r, s, fin hq, hc⟩
  by_cases pC5 : x < 4618441417868443648
  · obtain ⟨r, s, hq, hc⟩ := negC5 x u t m d nadj hu hf hn hneg (by omega) (by omega) h52 w T HS ht hm hm64 hd hl (Q := NotNaN) ((encC5 (x := x) (by omega) (by omega)).mono fun e he => by
      obtain ⟨z, e2, h0, L, hL, hr⟩ := he
      exact ⟨z, e2, h0, L, hL, hr.mono fun e he => fin_sub hnf he⟩)
    exact ⟨r, s, fin hq, hc⟩
  by_cases pC6 : x < 4619567317775286272
  · obtain ⟨r, s, hq, hc⟩ := negC6 x u t m d nadj hu hf hn hneg (by omega) (by omega) h52 w T HS ht hm hm64 hd hl (Q := NotNaN) ((encC6 (x := x) (by omega) (by omega)).mono fun e he => by
      obtain ⟨z, e2, h0, L, hL, hr⟩ := he
      exact ⟨z, e2, h0, L, hL, hr.mono fun e he => fin_sub hnf he⟩)
    exact ⟨r, s, fin hq, hc⟩
  by_cases pC7 : x < 4620693217682128896
  · obtain ⟨r, s, hq, hc⟩ := negC7 x u t m d nadj hu hf hn hneg (by omega) (by omega) h52 w T HS ht hm hm64 hd hl (Q := NotNaN) ((encC7 (x := x) (by omega) (by omega)).mono fun e he => by
      obtain ⟨z, e2, h0, L, hL, hr⟩ := he
      exact ⟨z, e2, h0, L, hL, hr.mono fun e he => fin_sub hnf he⟩)
    exact ⟨r, s, fin hq, hc⟩
  obtain ⟨r, s, hq, hc⟩ := negD x u t m d nadj hu hf hn hneg (by omega) (by omega) h52 w T HS ht hm hm64 hd hl (Q := NotNaN) (by
    obtain ⟨L, hL, hr⟩ := encD (x := x) (by omega) (by omega)
    exact ⟨L, hL, hr.mono fun e he => fin_sub hnf he⟩)
  exact ⟨r, s, fin hq, hc⟩
end Go.Proofs.YtlemgjlnlegcgaaDoor
