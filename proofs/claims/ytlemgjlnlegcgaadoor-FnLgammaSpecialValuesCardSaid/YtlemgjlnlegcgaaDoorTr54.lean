/- Whole numbers out of doubles. -/
import Derived.Test.YtlemgjlnlegcgaaDoorLo54
namespace Go.Proofs.YtlemgjlnlegcgaaDoor
open Go.RowKit
open FL
set_option linter.unusedVariables false
set_option linter.unusedSimpArgs false

theorem gap_div (m d : Nat) : m / (1 <<< min d (m.log2 + 2)) = m / 2 ^ d := by
  obtain ⟨L, hL⟩ : ∃ L, m.log2 = L := ⟨_, rfl⟩
  rw [hL, Nat.shiftLeft_eq, Nat.one_mul]
  by_cases hd : d ≤ L + 2
  · rw [Nat.min_eq_left hd]
  · have h1 : m < 2 ^ (L + 1) := by
      by_cases h0 : m = 0
      · subst h0; exact Nat.two_pow_pos _
      · rw [← hL]; exact (log2_bounds h0).2
    have h2 : 2 ^ (L + 1) ≤ 2 ^ (L + 2) := Nat.pow_le_pow_right (by omega) (by omega)
    have h3 : 2 ^ (L + 2) ≤ 2 ^ d := Nat.pow_le_pow_right (by omega) (by omega)
    rw [Nat.min_eq_right (by omega), Nat.div_eq_of_lt (by omega), Nat.div_eq_of_lt (by omega)]
theorem cut_zero_div (s : Bool) (m d : Nat) : Ieee.Toward.zero.cut s m d = m / 2 ^ d := by
  unfold Ieee.Toward.cut
  simp only [gap_div]
  rfl
theorem cut_down_div (m d : Nat) : Ieee.Toward.down.cut false m d = m / 2 ^ d := by
  unfold Ieee.Toward.cut
  simp only [gap_div, Bool.false_and]
  rfl
/-- The whole part of a magnitude, k being 3000. -/
theorem whole (x k : Nat) (hk : k = 3000) : ∃ n, (mg x <<< ((pl x : Int) - 3000).toNat) / 2 ^ (-((pl x : Int) - 3000)).toNat = n ∧ n * 2 ^ k ≤ V x ∧ V x < (n + 1) * 2 ^ k := by
  refine ⟨_, rfl, ?_⟩
  unfold V
  obtain ⟨m, hm⟩ : ∃ m, mg x = m := ⟨_, rfl⟩
  obtain ⟨p, hp⟩ : ∃ p, pl x = p := ⟨_, rfl⟩
  rw [hm, hp, Nat.shiftLeft_eq]
  by_cases h : k ≤ p
  · rw [show ((p : Int) - 3000).toNat = p - k by omega, show (-((p : Int) - 3000)).toNat = 0 by omega, Nat.pow_zero, Nat.div_one, Nat.mul_assoc, ← Nat.pow_add, Nat.sub_add_cancel h]
    refine ⟨Nat.le_refl _, ?_⟩
    rw [Nat.add_mul, Nat.mul_assoc, ← Nat.pow_add, Nat.sub_add_cancel h]
    have := Nat.two_pow_pos k
    omega
  · rw [show ((p : Int) - 3000).toNat = 0 by omega, show (-((p : Int) - 3000)).toNat = k - p by omega, Nat.pow_zero, Nat.mul_one]
    have e : 2 ^ k = 2 ^ (k - p) * 2 ^ p := by rw [← Nat.pow_add, Nat.sub_add_cancel (by omega)]
    rw [e, ← Nat.mul_assoc, ← Nat.mul_assoc]
    obtain ⟨G, hG⟩ : ∃ G, 2 ^ (k - p) = G := ⟨_, rfl⟩
    have hGp : 0 < G := by rw [← hG]; exact Nat.two_pow_pos _
    rw [hG]
    refine ⟨Nat.mul_le_mul_right _ (Nat.div_mul_le_self m G), Nat.mul_lt_mul_of_pos_right ?_ (Nat.two_pow_pos p)⟩
    have := Nat.lt_div_mul_add hGp (a := m)
    rw [Nat.add_mul]
    omega
theorem toInt_fin {x : Nat} (h : Fnt x) : ∃ n k : Nat, k = 3000 ∧ (Ieee.double.read x).toInt .zero = some (if sg x then -(n : Int) else (n : Int)) ∧ n * 2 ^ k ≤ V x ∧ V x < (n + 1) * 2 ^ k := by
  obtain ⟨k, hk⟩ : ∃ k : Nat, k = 3000 := ⟨_, rfl⟩
  obtain ⟨n, h1, h2⟩ := whole x k hk
  refine ⟨n, k, hk, ?_, h2⟩
  rw [read_fin h]
  show some (Ieee.signed (sg x) (Ieee.Toward.zero.cut (sg x) (mg x <<< ((pl x : Int) - 3000).toNat) (-((pl x : Int) - 3000)).toNat) 0) = _
  rw [cut_zero_div, h1]
  unfold Ieee.signed
  rw [Nat.shiftLeft_zero]
theorem flr_pos {x : Nat} (h : sg x = false) : ∃ n k : Nat, k = 3000 ∧ flr x = fnInt n ∧ n * 2 ^ k ≤ V x ∧ V x < (n + 1) * 2 ^ k := by
  obtain ⟨k, hk⟩ : ∃ k : Nat, k = 3000 := ⟨_, rfl⟩
  obtain ⟨n, h1, h2⟩ := whole x k hk
  refine ⟨n, k, hk, ?_, h2⟩
  unfold flr fnInt
  rw [h, cut_down_div, h1, Int.natAbs_natCast]
  have : decide ((n : Int) < 0) = false := decide_eq_false (by omega)
  rw [this]
/-- int(x) of an x between two words. -/
theorem trunc_any {x lo hi : Nat} {i : Nat} (hx : x < 2047 * 2 ^ 52) (hi63 : hi < 2 ^ 63) (hc : (decide ((i : Int) * UK ≤ SV lo) && decide (SV hi < ((i : Int) + 1) * UK) && decide (i < 2 ^ 63)) = true) (h1 : lo ≤ x) (h2 : x ≤ hi) : floatToIntVal .f64 x .i64 = some (i : Int) := by
  simp only [Bool.and_eq_true, decide_eq_true_eq] at hc
  obtain ⟨⟨c1, c2⟩, c3⟩ := hc
  have a1 := SV_small h1 (by omega)
  have a2 := SV_small h2 (by omega)
  obtain ⟨n, k, hk, hr, b1, b2⟩ := toInt_fin (x := x) (by unfold Fnt rung; omega)
  obtain ⟨k', hk', hU⟩ := UK_eq
  obtain rfl : k' = k := by omega
  have hsg : sg x = false := sg_small (by omega)
  have hv := SV_pos hsg
  rw [hsg] at hr
  have hp : (0 : Int) < ((2 ^ k' : Nat) : Int) := by have := Nat.two_pow_pos k'; omega
  rw [hU] at c1 c2
  obtain ⟨K, hK⟩ : ∃ K : Nat, 2 ^ k' = K := ⟨_, rfl⟩
  rw [hK] at c1 c2 b1 b2 hp
  have d1 : ((n * K : Nat) : Int) = (n : Int) * K := by push_cast; rfl
  have d2 : (((n + 1) * K : Nat) : Int) = ((n : Int) + 1) * K := by push_cast; rfl
  have hin : n = i := by
    rcases Nat.lt_trichotomy n i with h | h | h
    · exfalso
      have : ((n : Int) + 1) * K ≤ (i : Int) * K := Int.mul_le_mul_of_nonneg_right (by omega) (by omega)
      omega
    · exact h
    · exfalso
      have : ((i : Int) + 1) * K ≤ (n : Int) * K := Int.mul_le_mul_of_nonneg_right (by omega) (by omega)
      omega
  subst hin
  unfold floatToIntVal
  rw [show FloatKind.f64.decode x = Ieee.double.read x from rfl, hr]
  show (if IntKind.i64.min ≤ (n : Int) ∧ (n : Int) ≤ IntKind.i64.max then some (n : Int) else none) = _
  rw [if_pos]
  refine ⟨?_, ?_⟩
  · show (-9223372036854775808 : Int) ≤ _; omega
  · show _ ≤ (9223372036854775807 : Int); omega
end Go.Proofs.YtlemgjlnlegcgaaDoor
