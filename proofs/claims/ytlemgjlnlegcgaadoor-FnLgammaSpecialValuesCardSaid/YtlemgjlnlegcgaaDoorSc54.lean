/- math.Sin and math.Cos of small numbers: the result is small and finite. -/
import Derived.Test.YtlemgjlnlegcgaaDoorSn54
import Derived.Test.YtlemgjlnlegcgaaDoorCv54
import Derived.Laws.Bits64b
namespace Go.Proofs.YtlemgjlnlegcgaaDoor
open Go.RowKit
open FL
open Go.Extern
set_option linter.unusedVariables false
set_option linter.unusedSimpArgs false

/-- Within 2^40. -/
def small (p : Nat × Nat) : Bool := decide (SV 14010698440749613056 ≤ SV p.1) && decide (SV p.2 ≤ SV 4787326403894837248)
def Small (x : Nat) : Prop := In 14010698440749613056 4787326403894837248 x
theorem good_small {e : List Nat} {r : Nat} {e' : List Nat} (h : Good small e) (he : e = r :: e') : Small r := by
  obtain ⟨r', e'', p, h1, hg, hi⟩ := h
  rw [h1] at he
  obtain ⟨rfl, _⟩ := List.cons.inj he
  unfold small at hg
  rw [Bool.and_eq_true, decide_eq_true_eq, decide_eq_true_eq] at hg
  exact hi.mono hg.1 hg.2
theorem foi (n : Int) : floatOfInt .f64 n = fnInt n := rfl
theorem SV21 : SV 4626604192193052672 = 21 * UK := by decide +kernel
theorem SV0' : SV 0 = 0 := by decide +kernel
theorem UK_pos : 0 < UK := by
  obtain ⟨k, _, hU⟩ := UK_eq
  rw [hU]
  have := Nat.two_pow_pos k
  omega
theorem sg0_small : sg 4626604192193052672 = false := by decide +kernel
/-- uint64 of a number up to 21. -/
theorem trunc_u64 {r : Nat} (h : In 0 4626604192193052672 r) : ∃ n : Nat, n ≤ 21 ∧ floatToIntVal .f64 r .u64 = some (n : Int) := by
  obtain ⟨n, k, hk, hr, b1, b2⟩ := toInt_fin h.2.1
  obtain ⟨k', hk', hU⟩ := UK_eq
  obtain rfl : k' = k := by omega
  have a1 := h.2.2.1
  have a2 := h.2.2.2
  rw [SV21, hU] at a2
  rw [SV0'] at a1
  have hp := Nat.two_pow_pos k'
  obtain ⟨K, hK⟩ : ∃ K, 2 ^ k' = K := ⟨_, rfl⟩
  rw [hK] at a2 b1 b2 hp
  have hv : (V r : Int) = SV r := by
    have := SV_abs r
    omega
  have hn : n ≤ 21 := by
    rcases Nat.lt_or_ge 21 n with h' | h'
    · exfalso
      have c : 22 * K ≤ n * K := Nat.mul_le_mul_right _ h'
      omega
    · exact h'
  have hs : (if sg r = true then -(n : Int) else (n : Int)) = (n : Int) := by
    cases e : sg r
    · rfl
    · have hz : V r = 0 := by
        have := SV_neg e
        omega
      have : n = 0 := by
        rcases Nat.eq_zero_or_pos n with h' | h'
        · exact h'
        · exfalso
          have := Nat.mul_pos h' hp
          omega
      subst this
      rfl
  refine ⟨n, hn, ?_⟩
  unfold floatToIntVal
  rw [show FloatKind.f64.decode r = Ieee.double.read r from rfl, hr]
  rw [hs]
  show (if IntKind.u64.min ≤ (n : Int) ∧ (n : Int) ≤ IntKind.u64.max then some (n : Int) else none) = _
  rw [if_pos]
  refine ⟨?_, ?_⟩
  · show (0 : Int) ≤ _; omega
  · show _ ≤ (18446744073709551615 : Int); omega
theorem float_j {n : Nat} (h : n ≤ 21) : In 0 4626604192193052672 (floatOfInt .f64 (n : Int)) := by
  have hU := UK_pos
  refine int_in (by decide +kernel) (by decide +kernel) ?_ ?_
  · rw [SV0']
    exact Int.mul_nonneg (by omega) (by omega)
  · rw [SV21]
    exact Int.mul_le_mul_of_nonneg_right (by omega) (by omega)
theorem and_1 (j : Nat) (h : j ≤ 30) : bits .and .u64 (j : Int) 1 = ((j % 2 : Nat) : Int) := by
  have h2 := bits_and_u64_nat j 1 (by omega) (by decide)
  refine h2.trans ?_
  rw [Nat.and_one_is_mod]
theorem and_7 (j : Nat) (h : j ≤ 30) : bits .and .u64 (j : Int) 7 = ((j % 8 : Nat) : Int) := by
  have h2 := bits_and_u64_nat j 7 (by omega) (by decide)
  refine h2.trans ?_
  rw [show 7 = 2 ^ 3 - 1 by decide, Nat.and_two_pow_sub_one_eq_mod]
/-- The phase, of a number up to 16. -/
theorem phase {xa : Nat} (h : In 0 4625196817309499392 xa) : ∃ r1, Ieee.double.mul xa 4608412980311869571 = some r1 ∧ In 0 4626604192193052672 r1 := by
  have hk : (match auto [(2, .inl 0, .inr 4608412980311869571)] [(0, 4625196817309499392)] with
    | some (z :: _) => decide (SV 0 ≤ SV z.1) && decide (SV z.2 ≤ SV 4626604192193052672)
    | _ => false) = true := by decide +kernel
  split at hk
  · rename_i z l hz
    rw [Bool.and_eq_true, decide_eq_true_eq, decide_eq_true_eq] at hk
    obtain ⟨r, hr, hq⟩ := auto_ok (env := [xa]) _ hz ⟨h, trivial⟩
    exact ⟨r, hr, hq.1.mono hk.1 hk.2⟩
  · cases hk
def rngs : List (Nat × Nat) := [(0, 4626604192193052672), (0, 4626604192193052672), (0, 4625196817309499392)]
theorem runs_small {ops : List (Nat × Sum Nat Nat × Sum Nat Nat)} (hk : lastOk small (auto ops rngs) = true) {y r1 xa : Nat} (h1 : In 0 4626604192193052672 y) (h2 : In 0 4626604192193052672 r1) (h3 : In 0 4625196817309499392 xa) : Runs ops [y, r1, xa] (Good small) := by
  obtain ⟨p, l, ho, hg⟩ := last_ok hk
  exact (auto_ok (env := [y, r1, xa]) ops ho ⟨h1, h2, h3, trivial⟩).mono fun e he => good_of hg he
theorem ck_sinO0B0S0 : lastOk small (auto ops_sinO0B0S0 rngs) = true := by decide +kernel
theorem ck_sinO0B0S1 : lastOk small (auto ops_sinO0B0S1 rngs) = true := by decide +kernel
theorem ck_sinO0B1S0 : lastOk small (auto ops_sinO0B1S0 rngs) = true := by decide +kernel
theorem ck_sinO0B1S1 : lastOk small (auto ops_sinO0B1S1 rngs) = true := by decide +kernel
theorem ck_sinO1B0S0 : lastOk small (auto ops_sinO1B0S0 rngs) = true := by decide +kernel
theorem ck_sinO1B0S1 : lastOk small (auto ops_sinO1B0S1 rngs) = true := by decide +kernel
theorem ck_sinO1B1S0 : lastOk small (auto ops_sinO1B1S0 rngs) = true := by decide +kernel
theorem ck_sinO1B1S1 : lastOk small (auto ops_sinO1B1S1 rngs) = true := by decide +kernel
theorem ck_cosO0B0S0 : lastOk small (auto ops_cosO0B0S0 rngs) = true := by decide +kernel
theorem ck_cosO0B0S1 : lastOk small (auto ops_cosO0B0S1 rngs) = true := by decide +kernel
theorem ck_cosO0B1S0 : lastOk small (auto ops_cosO0B1S0 rngs) = true := by decide +kernel
theorem ck_cosO0B1S1 : lastOk small (auto ops_cosO0B1S1 rngs) = true := by decide +kernel
theorem ck_cosO1B0S0 : lastOk small (auto ops_cosO1B0S0 rngs) = true := by decide +kernel
theorem ck_cosO1B0S1 : lastOk small (auto ops_cosO1B0S1 rngs) = true := by decide +kernel
theorem ck_cosO1B1S0 : lastOk small (auto ops_cosO1B1S0 rngs) = true := by decide +kernel
theorem ck_cosO1B1S1 : lastOk small (auto ops_cosO1B1S1 rngs) = true := by decide +kernel
theorem order_negw {x : Nat} (h1 : 9223372036854775808 < x) (h2 : x < 18442240474082181120) : FloatKind.f64.format.order x 0 = some .lt := by
  have hs : sg x = true := by
    unfold sg
    have : x / 2 ^ 63 % 2 = 1 := by omega
    rw [this]; rfl
  have hr : rung x = x - 9223372036854775808 := by unfold rung; omega
  have hv : 0 < V x := by
    have h0 : rung 0 = 0 := by unfold rung; rfl
    have := V_lt (x := 0) (y := x) (by rw [hr, h0]; omega)
    omega
  have e : FloatKind.f64.format.order x 0 = some (compare (SV x) (SV 0)) := order_fin (by unfold Fnt; omega) (by unfold Fnt rung; omega)
  rw [e, SV0', SV_neg hs, Int.compare_eq_lt.2 (by omega)]
theorem small_words {xa : Nat} (h : xa ≤ 4625196817309499392) : In 0 4625196817309499392 xa := in_words (Nat.zero_le _) h (by decide)
set_option maxRecDepth 100000 in
theorem sin_pos (x : Nat) (h1 : 0 < x) (h2 : x ≤ 4625196817309499392) (w : World) (T : Tabs w) : ∃ t, Small t ∧ Calls Tryd.prog 29 #[.float .f64 x] w fun e w' => e = .returned (.float .f64 t) ∧ w' = w := by
  obtain ⟨xa, hxa⟩ : ∃ xa, x = xa := ⟨_, rfl⟩
  have hx64 : x < 2 ^ 64 := by omega
  have hf : Fnt x := by unfold Fnt rung; omega
  have hxi : In 0 4625196817309499392 xa := small_words (by omega)
  have hn : FloatKind.f64.format.order x 0 = some .gt := by rw [ord_w (by omega) (by decide), Nat.compare_eq_gt.2 h1]
  have hlow : xa < 4737786807993761792 := by omega
  have oth := geq_f (x := xa) (c := 4737786807993761792) hlow (by decide)
  obtain ⟨r1, e0, hr1⟩ := phase hxi
  obtain ⟨j, hj, hc⟩ := trunc_u64 hr1
  have hy := float_j hj
  have b1 := and_1 j (by omega)
  have fin : ∀ {r : Nat} {e : List Nat}, Good small (r :: e) → Small r := fun h => good_small h rfl
  by_cases ho : j % 2 = 0
  · have b7 := and_7 j (by omega)
    rw [show j % 2 = 0 by omega] at b1
    by_cases k0 : j % 8 = 0
    · rw [k0] at b7
      obtain ⟨r, e, hq, hcall⟩ := sin_p00 x xa r1 j hx64 hf (by omega) hn hxa oth e0 hc b1 b7 w T (runs_small ck_sinO0B0S0 hy hr1 hxi)
      exact ⟨r, fin hq, hcall⟩
    by_cases k2 : j % 8 = 2
    · rw [k2] at b7
      obtain ⟨r, e, hq, hcall⟩ := sin_p02 x xa r1 j hx64 hf (by omega) hn hxa oth e0 hc b1 b7 w T (runs_small ck_sinO0B1S0 hy hr1 hxi)
      exact ⟨r, fin hq, hcall⟩
    by_cases k4 : j % 8 = 4
    · rw [k4] at b7
      obtain ⟨r, e, hq, hcall⟩ := sin_p04 x xa r1 j hx64 hf (by omega) hn hxa oth e0 hc b1 b7 w T (runs_small ck_sinO0B0S1 hy hr1 hxi)
      exact ⟨r, fin hq, hcall⟩
    rw [show j % 8 = 6 by omega] at b7
    obtain ⟨r, e, hq, hcall⟩ := sin_p06 x xa r1 j hx64 hf (by omega) hn hxa oth e0 hc b1 b7 w T (runs_small ck_sinO0B1S1 hy hr1 hxi)
    exact ⟨r, fin hq, hcall⟩
  · have b7 := and_7 (j + 1) (by omega)
    rw [show ((j + 1 : Nat) : Int) = (j : Int) + 1 by omega] at b7
    rw [show j % 2 = 1 by omega] at b1
    by_cases k0 : (j + 1) % 8 = 0
    · rw [k0] at b7
      obtain ⟨r, e, hq, hcall⟩ := sin_p10 x xa r1 j hx64 hf (by omega) hn hxa oth e0 hc b1 b7 w T (runs_small ck_sinO1B0S0 hy hr1 hxi)
      exact ⟨r, fin hq, hcall⟩
    by_cases k2 : (j + 1) % 8 = 2
    · rw [k2] at b7
      obtain ⟨r, e, hq, hcall⟩ := sin_p12 x xa r1 j hx64 hf (by omega) hn hxa oth e0 hc b1 b7 w T (runs_small ck_sinO1B1S0 hy hr1 hxi)
      exact ⟨r, fin hq, hcall⟩
    by_cases k4 : (j + 1) % 8 = 4
    · rw [k4] at b7
      obtain ⟨r, e, hq, hcall⟩ := sin_p14 x xa r1 j hx64 hf (by omega) hn hxa oth e0 hc b1 b7 w T (runs_small ck_sinO1B0S1 hy hr1 hxi)
      exact ⟨r, fin hq, hcall⟩
    rw [show (j + 1) % 8 = 6 by omega] at b7
    obtain ⟨r, e, hq, hcall⟩ := sin_p16 x xa r1 j hx64 hf (by omega) hn hxa oth e0 hc b1 b7 w T (runs_small ck_sinO1B1S1 hy hr1 hxi)
    exact ⟨r, fin hq, hcall⟩
set_option maxRecDepth 100000 in
theorem sin_neg (x : Nat) (h1 : 9223372036854775808 < x) (h2 : x ≤ 13848568854164275200) (w : World) (T : Tabs w) : ∃ t, Small t ∧ Calls Tryd.prog 29 #[.float .f64 x] w fun e w' => e = .returned (.float .f64 t) ∧ w' = w := by
  obtain ⟨xa, hxa⟩ : ∃ xa, negw x = xa := ⟨_, rfl⟩
  have hx64 : x < 2 ^ 64 := by omega
  have hxe : xa = x - 9223372036854775808 := by
    rw [← hxa]
    rcases xor_sign x hx64 with ⟨a, _⟩ | ⟨_, b⟩
    · omega
    · rw [b]
  have hf : Fnt x := by unfold Fnt rung; omega
  have hxi : In 0 4625196817309499392 xa := small_words (by omega)
  have hn : FloatKind.f64.format.order x 0 = some .lt := order_negw h1 (by omega)
  have hlow : xa < 4737786807993761792 := by omega
  have oth := geq_f (x := xa) (c := 4737786807993761792) hlow (by decide)
  obtain ⟨r1, e0, hr1⟩ := phase hxi
  obtain ⟨j, hj, hc⟩ := trunc_u64 hr1
  have hy := float_j hj
  have b1 := and_1 j (by omega)
  have fin : ∀ {r : Nat} {e : List Nat}, Good small (r :: e) → Small r := fun h => good_small h rfl
  by_cases ho : j % 2 = 0
  · have b7 := and_7 j (by omega)
    rw [show j % 2 = 0 by omega] at b1
    by_cases k0 : j % 8 = 0
    · rw [k0] at b7
      obtain ⟨r, e, hq, hcall⟩ := sin_n00 x xa r1 j hx64 hf (by omega) hn hxa oth e0 hc b1 b7 w T (runs_small ck_sinO0B0S1 hy hr1 hxi)
      exact ⟨r, fin hq, hcall⟩
    by_cases k2 : j % 8 = 2
    · rw [k2] at b7
      obtain ⟨r, e, hq, hcall⟩ := sin_n02 x xa r1 j hx64 hf (by omega) hn hxa oth e0 hc b1 b7 w T (runs_small ck_sinO0B1S1 hy hr1 hxi)
      exact ⟨r, fin hq, hcall⟩
    by_cases k4 : j % 8 = 4
    · rw [k4] at b7
      obtain ⟨r, e, hq, hcall⟩ := sin_n04 x xa r1 j hx64 hf (by omega) hn hxa oth e0 hc b1 b7 w T (runs_small ck_sinO0B0S0 hy hr1 hxi)
      exact ⟨r, fin hq, hcall⟩
    rw [show j % 8 = 6 by omega] at b7
    obtain ⟨r, e, hq, hcall⟩ := sin_n06 x xa r1 j hx64 hf (by omega) hn hxa oth e0 hc b1 b7 w T (runs_small ck_sinO0B1S0 hy hr1 hxi)
    exact ⟨r, fin hq, hcall⟩
  · have b7 := and_7 (j + 1) (by omega)
    rw [show ((j + 1 : Nat) : Int) = (j : Int) + 1 by omega] at b7
    rw [show j % 2 = 1 by omega] at b1
    by_cases k0 : (j + 1) % 8 = 0
    · rw [k0] at b7
      obtain ⟨r, e, hq, hcall⟩ := sin_n10 x xa r1 j hx64 hf (by omega) hn hxa oth e0 hc b1 b7 w T (runs_small ck_sinO1B0S1 hy hr1 hxi)
      exact ⟨r, fin hq, hcall⟩
    by_cases k2 : (j + 1) % 8 = 2
    · rw [k2] at b7
      obtain ⟨r, e, hq, hcall⟩ := sin_n12 x xa r1 j hx64 hf (by omega) hn hxa oth e0 hc b1 b7 w T (runs_small ck_sinO1B1S1 hy hr1 hxi)
      exact ⟨r, fin hq, hcall⟩
    by_cases k4 : (j + 1) % 8 = 4
    · rw [k4] at b7
      obtain ⟨r, e, hq, hcall⟩ := sin_n14 x xa r1 j hx64 hf (by omega) hn hxa oth e0 hc b1 b7 w T (runs_small ck_sinO1B0S0 hy hr1 hxi)
      exact ⟨r, fin hq, hcall⟩
    rw [show (j + 1) % 8 = 6 by omega] at b7
    obtain ⟨r, e, hq, hcall⟩ := sin_n16 x xa r1 j hx64 hf (by omega) hn hxa oth e0 hc b1 b7 w T (runs_small ck_sinO1B1S0 hy hr1 hxi)
    exact ⟨r, fin hq, hcall⟩
set_option maxRecDepth 100000 in
theorem cos_fin (x : Nat) (hx64 : x < 2 ^ 64) (h2 : x % 2 ^ 63 ≤ 4625196817309499392) (w : World) (T : Tabs w) : ∃ t, Small t ∧ Calls Tryd.prog 35 #[.float .f64 x] w fun e w' => e = .returned (.float .f64 t) ∧ w' = w := by
  obtain ⟨xa, hxa⟩ : ∃ xa, x % 2 ^ 63 = xa := ⟨_, rfl⟩
  have hf : Fnt x := by unfold Fnt rung; omega
  have hxi : In 0 4625196817309499392 xa := small_words (by omega)
  have hlow : xa < 4737786807993761792 := by omega
  have oth := geq_f (x := xa) (c := 4737786807993761792) hlow (by decide)
  obtain ⟨r1, e0, hr1⟩ := phase hxi
  obtain ⟨j, hj, hc⟩ := trunc_u64 hr1
  have hy := float_j hj
  have b1 := and_1 j (by omega)
  have fin : ∀ {r : Nat} {e : List Nat}, Good small (r :: e) → Small r := fun h => good_small h rfl
  by_cases ho : j % 2 = 0
  · have b7 := and_7 j (by omega)
    rw [show j % 2 = 0 by omega] at b1
    by_cases k0 : j % 8 = 0
    · rw [k0] at b7
      obtain ⟨r, e, hq, hcall⟩ := cos_p00 x xa r1 j hx64 hf (by omega) hxa oth e0 hc b1 b7 w T (runs_small ck_cosO0B0S0 hy hr1 hxi)
      exact ⟨r, fin hq, hcall⟩
    by_cases k2 : j % 8 = 2
    · rw [k2] at b7
      obtain ⟨r, e, hq, hcall⟩ := cos_p02 x xa r1 j hx64 hf (by omega) hxa oth e0 hc b1 b7 w T (runs_small ck_cosO0B1S1 hy hr1 hxi)
      exact ⟨r, fin hq, hcall⟩
    by_cases k4 : j % 8 = 4
    · rw [k4] at b7
      obtain ⟨r, e, hq, hcall⟩ := cos_p04 x xa r1 j hx64 hf (by omega) hxa oth e0 hc b1 b7 w T (runs_small ck_cosO0B0S1 hy hr1 hxi)
      exact ⟨r, fin hq, hcall⟩
    rw [show j % 8 = 6 by omega] at b7
    obtain ⟨r, e, hq, hcall⟩ := cos_p06 x xa r1 j hx64 hf (by omega) hxa oth e0 hc b1 b7 w T (runs_small ck_cosO0B1S0 hy hr1 hxi)
    exact ⟨r, fin hq, hcall⟩
  · have b7 := and_7 (j + 1) (by omega)
    rw [show ((j + 1 : Nat) : Int) = (j : Int) + 1 by omega] at b7
    rw [show j % 2 = 1 by omega] at b1
    by_cases k0 : (j + 1) % 8 = 0
    · rw [k0] at b7
      obtain ⟨r, e, hq, hcall⟩ := cos_p10 x xa r1 j hx64 hf (by omega) hxa oth e0 hc b1 b7 w T (runs_small ck_cosO1B0S0 hy hr1 hxi)
      exact ⟨r, fin hq, hcall⟩
    by_cases k2 : (j + 1) % 8 = 2
    · rw [k2] at b7
      obtain ⟨r, e, hq, hcall⟩ := cos_p12 x xa r1 j hx64 hf (by omega) hxa oth e0 hc b1 b7 w T (runs_small ck_cosO1B1S1 hy hr1 hxi)
      exact ⟨r, fin hq, hcall⟩
    by_cases k4 : (j + 1) % 8 = 4
    · rw [k4] at b7
      obtain ⟨r, e, hq, hcall⟩ := cos_p14 x xa r1 j hx64 hf (by omega) hxa oth e0 hc b1 b7 w T (runs_small ck_cosO1B0S1 hy hr1 hxi)
      exact ⟨r, fin hq, hcall⟩
    rw [show (j + 1) % 8 = 6 by omega] at b7
    obtain ⟨r, e, hq, hcall⟩ := cos_p16 x xa r1 j hx64 hf (by omega) hxa oth e0 hc b1 b7 w T (runs_small ck_cosO1B1S0 hy hr1 hxi)
    exact ⟨r, fin hq, hcall⟩
set_option maxRecDepth 100000 in
theorem sin_zero (x : Nat) (h : FloatKind.f64.format.order x 0 = some .eq) (w : World) : Calls Tryd.prog 29 #[.float .f64 x] w fun e w' => e = .returned (.float .f64 x) ∧ w' = w := by
  go_enter Tryd.func29, Tryd.ntmps29
  go_wp2_with fail
  go_ret
  exact ⟨rfl, rfl⟩
/-- Of a magnitude up to 16. -/
def Sixteen (x : Nat) : Prop := In 13848568854164275200 4625196817309499392 x
theorem sixteen_rung {x : Nat} (h : Sixteen x) : x % 2 ^ 63 ≤ 4625196817309499392 := by
  have a1 := h.2.2.1
  have a2 := h.2.2.2
  have s1 : SV 13848568854164275200 = -SV 4625196817309499392 := by decide +kernel
  have s2 := SV_pos (sg_small (show 4625196817309499392 < 2 ^ 63 by decide))
  have s3 := SV_abs x
  have := rung_of_V (x := x) (y := 4625196817309499392) (by omega)
  have e : rung 4625196817309499392 = 4625196817309499392 := rung_small (by decide)
  rw [e] at this
  exact this
theorem sin_fin (x : Nat) (h : Sixteen x) (w : World) (T : Tabs w) : ∃ t, Small t ∧ Calls Tryd.prog 29 #[.float .f64 x] w fun e w' => e = .returned (.float .f64 t) ∧ w' = w := by
  have h63 := sixteen_rung h
  have h64 := h.1
  by_cases h0 : x % 2 ^ 63 = 0
  · have hz : x = 0 ∨ x = 9223372036854775808 := by omega
    rcases hz with rfl | rfl
    · exact ⟨0, ⟨by decide, by unfold Fnt rung; decide, by decide +kernel, by decide +kernel⟩, sin_zero _ (by decide +kernel) w⟩
    · exact ⟨9223372036854775808, ⟨by decide, by unfold Fnt rung; decide, by decide +kernel, by decide +kernel⟩, sin_zero _ (by decide +kernel) w⟩
  · by_cases hs : x < 2 ^ 63
    · exact sin_pos x (by omega) (by omega) w T
    · exact sin_neg x (by omega) (by omega) w T
theorem Sin_call {x t : Nat} {w : World} (h : Calls Tryd.prog 29 #[.float .f64 x] w fun e w' => e = .returned (.float .f64 t) ∧ w' = w) : Calls Tryd.prog 21 #[.float .f64 x] w fun e w' => e = .returned (.float .f64 t) ∧ w' = w := by
  have HC := Lib.hid h
  clear h
  go_enter Tryd.func21, Tryd.ntmps21
  go_wp2_with fail
  refine HC.out.mono ?_
  rintro e w1 ⟨rfl, hw⟩
  obtain rfl : w = w1 := hw.symm
  go_wp2_with fail
  go_ret
  exact ⟨rfl, rfl⟩
theorem Cos_call {x t : Nat} {w : World} (h : Calls Tryd.prog 35 #[.float .f64 x] w fun e w' => e = .returned (.float .f64 t) ∧ w' = w) : Calls Tryd.prog 25 #[.float .f64 x] w fun e w' => e = .returned (.float .f64 t) ∧ w' = w := by
  have HC := Lib.hid h
  clear h
  go_enter Tryd.func25, Tryd.ntmps25
  go_wp2_with fail
  refine HC.out.mono ?_
  rintro e w1 ⟨rfl, hw⟩
  obtain rfl : w = w1 := hw.symm
  go_wp2_with fail
  go_ret
  exact ⟨rfl, rfl⟩
theorem Sin_fin (x : Nat) (h : Sixteen x) (w : World) (T : Tabs w) : ∃ t, Small t ∧ Calls Tryd.prog 21 #[.float .f64 x] w fun e w' => e = .returned (.float .f64 t) ∧ w' = w := by
  obtain ⟨t, ht, hc⟩ := sin_fin x h w T
  exact ⟨t, ht, Sin_call hc⟩
theorem Cos_fin (x : Nat) (h : Sixteen x) (w : World) (T : Tabs w) : ∃ t, Small t ∧ Calls Tryd.prog 25 #[.float .f64 x] w fun e w' => e = .returned (.float .f64 t) ∧ w' = w := by
  obtain ⟨t, ht, hc⟩ := cos_fin x h.1 (sixteen_rung h) w T
  exact ⟨t, ht, Cos_call hc⟩
end Go.Proofs.YtlemgjlnlegcgaaDoor
