/- Plain: rounding against any double; a checker of straight float code by intervals. -/
import Derived.Test.YtlemgjlnlegcgaaDoorFl54
import Derived.Laws.FloatBits
namespace Go.Proofs.YtlemgjlnlegcgaaDoor.FL
open Ieee

theorem cut_le_of (neg : Bool) {n d Q : Nat} (h : n ≤ Q * 2 ^ d) : Toward.even.cut neg n d ≤ Q := by
  unfold Toward.cut
  simp only
  obtain ⟨L, hL⟩ : ∃ L, n.log2 = L := ⟨_, rfl⟩
  rw [hL]
  by_cases hd : d ≤ L + 2
  · rw [Nat.min_eq_left hd, Nat.shiftLeft_eq, Nat.one_mul]
    have hp : 0 < 2 ^ d := Nat.two_pow_pos d
    have h1 : n / 2 ^ d ≤ Q := Nat.div_le_of_le_mul (by rw [Nat.mul_comm]; exact h)
    by_cases he : n / 2 ^ d = Q
    · have h2 := Nat.div_add_mod n (2 ^ d)
      rw [he, Nat.mul_comm] at h2
      have h3 : n % 2 ^ d = 0 := by omega
      have h5 : (2 ^ d == 2 * 0) = false := by simp
      rw [he, h3, h5]
      simp
    · have : ∀ b : Bool, b.toNat ≤ 1 := fun b => by cases b <;> simp
      have h4 := this (decide (2 ^ d < 2 * (n % 2 ^ d)) || 2 ^ d == 2 * (n % 2 ^ d) && n / 2 ^ d % 2 == 1)
      omega
  · rw [Nat.min_eq_right (by omega), Nat.shiftLeft_eq, Nat.one_mul]
    have h1 : n < 2 ^ (L + 1) := by
      by_cases h0 : n = 0
      · subst h0; exact Nat.two_pow_pos _
      · rw [← hL]; exact (log2_bounds h0).2
    have h2 : 2 ^ (L + 2) = 2 ^ (L + 1) * 2 := Nat.pow_succ ..
    have h3 : n / 2 ^ (L + 2) = 0 := Nat.div_eq_of_lt (by omega)
    have h4 : n % 2 ^ (L + 2) = n := Nat.mod_eq_of_lt (by omega)
    rw [h3, h4]
    have h5 : decide (2 ^ (L + 2) < 2 * n) = false := decide_eq_false (by omega)
    rw [h5]
    simp
theorem cut_ge_of (neg : Bool) {n d Q : Nat} (h : Q * 2 ^ d ≤ n) : Q ≤ Toward.even.cut neg n d := by
  refine Nat.le_trans ?_ (cut_ge .even neg n d)
  obtain ⟨L, hL⟩ : ∃ L, n.log2 = L := ⟨_, rfl⟩
  rw [hL]
  by_cases hd : d ≤ L + 2
  · rw [Nat.min_eq_left hd, Nat.shiftLeft_eq, Nat.one_mul, Nat.le_div_iff_mul_le (Nat.two_pow_pos d)]
    exact h
  · by_cases h0 : Q = 0
    · subst h0; exact Nat.zero_le _
    · have h1 : n < 2 ^ (L + 1) := by
        by_cases h0 : n = 0
        · subst h0; exact Nat.two_pow_pos _
        · rw [← hL]; exact (log2_bounds h0).2
      have h2 : 2 ^ (L + 1) ≤ 2 ^ d := Nat.pow_le_pow_right (by omega) (by omega)
      have h3 : 2 ^ d ≤ Q * 2 ^ d := Nat.le_mul_of_pos_left _ (by omega)
      omega
/-- The magnitude of a rung, in units of 2^-3000. -/
def VR (R : Nat) : Nat := (if R < 2 ^ 52 then R else 2 ^ 52 + R % 2 ^ 52) * 2 ^ (if R < 2 ^ 52 then 1926 else 1925 + R / 2 ^ 52)
theorem V_rung (x : Nat) : V x = VR (rung x) := rfl
theorem VR_sub {R : Nat} (h : R < 2 ^ 52) : ∃ c, c = 1926 ∧ VR R = R * 2 ^ c := by
  unfold VR
  rw [if_pos h, if_pos h]
  exact ⟨_, rfl, rfl⟩
theorem VR_nor {R : Nat} (h : ¬ R < 2 ^ 52) : ∃ c, c = 1925 + R / 2 ^ 52 ∧ VR R = (2 ^ 52 + R % 2 ^ 52) * 2 ^ c := by
  unfold VR
  rw [if_neg h, if_neg h]
  exact ⟨_, rfl, rfl⟩
/-- The rung that a magnitude is rounded to. -/
theorem near_rung (neg : Bool) {mag t : Nat} (h : mag ≠ 0) : ∃ r L : Nat, mag.log2 = L ∧ rung (double.nearest neg mag ((t : Int) - 3000)) = min r (2047 * 2 ^ 52) ∧
    ((1978 ≤ t + L ∧ r = (t + L - 1978) * 2 ^ 52 + Toward.even.cut neg (mag <<< (52 - L)) (L - 52)) ∨ (t + L < 1978 ∧ ∃ c, c = 1926 ∧ r = Toward.even.cut neg (mag <<< (t - c)) (c - t))) := by
  have hl : double.leastPlace = -1074 := by decide
  have hb : double.binade = 2 ^ 52 := rfl
  have hi : double.infRung = 2047 * 2 ^ 52 := by decide
  obtain ⟨L, hL⟩ : ∃ L, mag.log2 = L := ⟨_, rfl⟩
  unfold Format.nearest
  rw [if_neg h]
  simp only [hl, hb, hi, hL]
  refine ⟨_, L, rfl, rung_word neg (Nat.min_le_right _ _), ?_⟩
  by_cases hn : 1978 ≤ t + L
  · refine .inl ⟨hn, ?_⟩
    have e1 : max ((t : Int) - 3000 + L - (double.fractionBits : Nat)) (-1074) = (t : Int) - 3000 + L - 52 := by
      show max ((t : Int) - 3000 + L - 52) (-1074) = _
      omega
    rw [e1]
    rw [show ((t : Int) - 3000 + L - 52 - -1074).toNat = t + L - 1978 by omega, show ((t : Int) - 3000 - ((t : Int) - 3000 + L - 52)).toNat = 52 - L by omega, show ((t : Int) - 3000 + L - 52 - ((t : Int) - 3000)).toNat = L - 52 by omega]
  · refine .inr ⟨by omega, 1926, rfl, ?_⟩
    have e1 : max ((t : Int) - 3000 + L - (double.fractionBits : Nat)) (-1074) = -1074 := by
      show max ((t : Int) - 3000 + L - 52) (-1074) = _
      omega
    rw [e1]
    rw [show ((-1074 : Int) - -1074).toNat = 0 by omega, Nat.zero_mul, Nat.zero_add]
    rw [show ((t : Int) - 3000 - -1074).toNat = t - 1926 by omega, show (-1074 - ((t : Int) - 3000)).toNat = 1926 - t by omega]
theorem pow_le_iff {a b : Nat} : 2 ^ a ≤ 2 ^ b ↔ a ≤ b := Nat.pow_le_pow_iff_right (by omega)
theorem pow_lt_iff {a b : Nat} : 2 ^ a < 2 ^ b ↔ a < b := Nat.pow_lt_pow_iff_right (by omega)
theorem near_le_R (neg : Bool) {mag t R : Nat} (h : mag * 2 ^ t ≤ VR R) (hR : R < 2047 * 2 ^ 52) : rung (double.nearest neg mag ((t : Int) - 3000)) ≤ R := by
  by_cases h0 : mag = 0
  · subst h0
    unfold Format.nearest
    rw [if_pos rfl, rung_word neg (by omega)]
    omega
  obtain ⟨r, L, hL, hr, hc⟩ := near_rung neg (t := t) h0
  obtain ⟨g1, g2⟩ := log2_bounds h0
  obtain ⟨k1, k2, k3⟩ := kept_normal neg h0
  rw [hL] at g1 g2 k1 k2 k3
  rw [hr]
  refine Nat.le_trans (Nat.min_le_left _ _) ?_
  have hlow : 2 ^ (L + t) ≤ VR R := by
    refine Nat.le_trans ?_ h
    rw [Nat.pow_add]
    exact Nat.mul_le_mul_right _ g1
  by_cases hs : R < 2 ^ 52
  · obtain ⟨c, hc2, hv⟩ := VR_sub hs
    rw [hv] at h hlow
    have hlt : L + t < 52 + c := by
      refine pow_lt_iff.1 (Nat.lt_of_le_of_lt hlow ?_)
      rw [Nat.pow_add]
      exact Nat.mul_lt_mul_of_pos_right hs (Nat.two_pow_pos _)
    rcases hc with ⟨hn, _⟩ | ⟨_, c', hc', rfl⟩
    · omega
    · obtain rfl : c' = c := by omega
      refine cut_le_of neg ?_
      rw [Nat.shiftLeft_eq]
      by_cases ht : t ≤ c'
      · rw [show t - c' = 0 by omega, Nat.pow_zero, Nat.mul_one]
        refine Nat.le_of_mul_le_mul_right ?_ (Nat.two_pow_pos t)
        rw [Nat.mul_assoc, ← Nat.pow_add, Nat.sub_add_cancel ht]
        exact h
      · rw [show c' - t = 0 by omega, Nat.pow_zero, Nat.mul_one]
        refine Nat.le_of_mul_le_mul_right ?_ (Nat.two_pow_pos c')
        rw [Nat.mul_assoc, ← Nat.pow_add, Nat.sub_add_cancel (by omega)]
        exact h
  · obtain ⟨c, hc2, hv⟩ := VR_nor hs
    rw [hv] at h hlow
    have hq : R = R / 2 ^ 52 * 2 ^ 52 + R % 2 ^ 52 := by omega
    obtain ⟨q, hq'⟩ : ∃ q, R / 2 ^ 52 = q := ⟨_, rfl⟩
    obtain ⟨F, hF⟩ : ∃ F, R % 2 ^ 52 = F := ⟨_, rfl⟩
    have hF2 : F < 2 ^ 52 := by omega
    rw [hq', hF] at hq
    rw [hF] at h hlow
    rw [hq'] at hc2
    have hlt : L + t < 53 + c := by
      refine pow_lt_iff.1 (Nat.lt_of_le_of_lt hlow ?_)
      rw [Nat.pow_add]
      exact Nat.mul_lt_mul_of_pos_right (by omega) (Nat.two_pow_pos _)
    have hq1 : 1 ≤ q := by omega
    rcases hc with ⟨hn, rfl⟩ | ⟨hn, c', hc', rfl⟩
    · by_cases he : t + L - 1978 ≤ q - 2
      · by_cases hq2 : 2 ≤ q
        · omega
        · have : t + L - 1978 = 0 := by omega
          have hq3 : q = 1 := by omega
          have e3 : L + t = 52 + c := by omega
          rw [this]
          suffices Toward.even.cut neg (mag <<< (52 - L)) (L - 52) ≤ 2 ^ 52 + F by omega
          refine cut_le_of neg ?_
          rw [Nat.shiftLeft_eq]
          by_cases hl : L ≤ 52
          · rw [show L - 52 = 0 by omega, Nat.pow_zero, Nat.mul_one]
            refine Nat.le_of_mul_le_mul_right ?_ (Nat.two_pow_pos c)
            rw [Nat.mul_assoc, ← Nat.pow_add, show 52 - L + c = t by omega]
            exact h
          · rw [show 52 - L = 0 by omega, Nat.pow_zero, Nat.mul_one]
            refine Nat.le_of_mul_le_mul_right ?_ (Nat.two_pow_pos t)
            rw [Nat.mul_assoc (2 ^ 52 + F), ← Nat.pow_add, show L - 52 + t = c by omega]
            exact h
      · have e3 : L + t = 52 + c := by omega
        suffices Toward.even.cut neg (mag <<< (52 - L)) (L - 52) ≤ 2 ^ 52 + F by omega
        refine cut_le_of neg ?_
        rw [Nat.shiftLeft_eq]
        by_cases hl : L ≤ 52
        · rw [show L - 52 = 0 by omega, Nat.pow_zero, Nat.mul_one]
          refine Nat.le_of_mul_le_mul_right ?_ (Nat.two_pow_pos c)
          rw [Nat.mul_assoc, ← Nat.pow_add, show 52 - L + c = t by omega]
          exact h
        · rw [show 52 - L = 0 by omega, Nat.pow_zero, Nat.mul_one]
          refine Nat.le_of_mul_le_mul_right ?_ (Nat.two_pow_pos t)
          rw [Nat.mul_assoc (2 ^ 52 + F), ← Nat.pow_add, show L - 52 + t = c by omega]
          exact h
    · have : Toward.even.cut neg (mag <<< (t - c')) (c' - t) ≤ 2 ^ 52 := kept_sub neg h0 (by omega) (by rw [hL]; omega)
      omega
theorem near_ge_R (neg : Bool) {mag t R : Nat} (h : VR R ≤ mag * 2 ^ t) (hR : R < 2047 * 2 ^ 52) : R ≤ rung (double.nearest neg mag ((t : Int) - 3000)) := by
  by_cases hR0 : R = 0
  · omega
  by_cases h0 : mag = 0
  · subst h0
    exfalso
    rw [Nat.zero_mul] at h
    by_cases hs : R < 2 ^ 52
    · obtain ⟨c, hc2, hv⟩ := VR_sub hs
      rw [hv] at h
      have := Nat.mul_pos (Nat.pos_of_ne_zero hR0) (Nat.two_pow_pos c)
      omega
    · obtain ⟨c, hc2, hv⟩ := VR_nor hs
      rw [hv] at h
      have := Nat.mul_pos (show 0 < 2 ^ 52 + R % 2 ^ 52 by omega) (Nat.two_pow_pos c)
      omega
  obtain ⟨r, L, hL, hr, hc⟩ := near_rung neg (t := t) h0
  obtain ⟨g1, g2⟩ := log2_bounds h0
  obtain ⟨k1, k2, k3⟩ := kept_normal neg h0
  rw [hL] at g1 g2 k1 k2 k3
  rw [hr]
  refine Nat.le_min.2 ⟨?_, by omega⟩
  have hhi : VR R < 2 ^ (L + 1 + t) := by
    refine Nat.lt_of_le_of_lt h ?_
    rw [Nat.pow_add _ (L + 1)]
    exact Nat.mul_lt_mul_of_pos_right g2 (Nat.two_pow_pos _)
  by_cases hs : R < 2 ^ 52
  · obtain ⟨c, hc2, hv⟩ := VR_sub hs
    rw [hv] at h hhi
    rcases hc with ⟨hn, rfl⟩ | ⟨_, c', hc', rfl⟩
    · omega
    · obtain rfl : c' = c := by omega
      refine cut_ge_of neg ?_
      rw [Nat.shiftLeft_eq]
      by_cases ht : t ≤ c'
      · rw [show t - c' = 0 by omega, Nat.pow_zero, Nat.mul_one]
        refine Nat.le_of_mul_le_mul_right ?_ (Nat.two_pow_pos t)
        rw [Nat.mul_assoc, ← Nat.pow_add, Nat.sub_add_cancel ht]
        exact h
      · rw [show c' - t = 0 by omega, Nat.pow_zero, Nat.mul_one]
        refine Nat.le_of_mul_le_mul_right ?_ (Nat.two_pow_pos c')
        rw [Nat.mul_assoc, ← Nat.pow_add, Nat.sub_add_cancel (by omega)]
        exact h
  · obtain ⟨c, hc2, hv⟩ := VR_nor hs
    rw [hv] at h hhi
    have hq : R = R / 2 ^ 52 * 2 ^ 52 + R % 2 ^ 52 := by omega
    obtain ⟨q, hq'⟩ : ∃ q, R / 2 ^ 52 = q := ⟨_, rfl⟩
    obtain ⟨F, hF⟩ : ∃ F, R % 2 ^ 52 = F := ⟨_, rfl⟩
    have hF2 : F < 2 ^ 52 := by omega
    rw [hq', hF] at hq
    rw [hF] at h hhi
    rw [hq'] at hc2
    have hlt : 52 + c < L + 1 + t := by
      refine pow_lt_iff.1 (Nat.lt_of_le_of_lt ?_ hhi)
      rw [Nat.pow_add]
      exact Nat.mul_le_mul_right _ (by omega)
    have hq1 : 1 ≤ q := by omega
    rcases hc with ⟨hn, rfl⟩ | ⟨hn, c', hc', rfl⟩
    · by_cases he : q ≤ t + L - 1978
      · omega
      · have e3 : L + t = 52 + c := by omega
        suffices 2 ^ 52 + F ≤ Toward.even.cut neg (mag <<< (52 - L)) (L - 52) by omega
        refine cut_ge_of neg ?_
        rw [Nat.shiftLeft_eq]
        by_cases hl : L ≤ 52
        · rw [show L - 52 = 0 by omega, Nat.pow_zero, Nat.mul_one]
          refine Nat.le_of_mul_le_mul_right ?_ (Nat.two_pow_pos c)
          rw [Nat.mul_assoc mag, ← Nat.pow_add, show 52 - L + c = t by omega]
          exact h
        · rw [show 52 - L = 0 by omega, Nat.pow_zero, Nat.mul_one]
          refine Nat.le_of_mul_le_mul_right ?_ (Nat.two_pow_pos t)
          rw [Nat.mul_assoc, ← Nat.pow_add, show L - 52 + t = c by omega]
          exact h
    · omega
theorem V_mono {x y : Nat} (h : rung x ≤ rung y) : V x ≤ V y := by
  rcases Nat.lt_or_eq_of_le h with h | h
  · exact Nat.le_of_lt (V_lt h)
  · rw [V_rung, V_rung, h]; exact Nat.le_refl _
theorem rung_of_V {x y : Nat} (h : V x ≤ V y) : rung x ≤ rung y := by
  rcases Nat.lt_or_ge (rung y) (rung x) with h' | h'
  · have := V_lt h'; omega
  · exact h'
/-- What the exact number z, in units of 2^-(3000 + k), is rounded to. -/
def Rnk (z : Int) (k r : Nat) : Prop := ∃ (neg : Bool) (mag t : Nat), r = double.nearest neg mag ((t : Int) - 3000) ∧ mag * 2 ^ t * 2 ^ k = z.natAbs ∧ (0 < z → neg = false) ∧ (z < 0 → neg = true)
theorem Rnd.rnk {z : Int} {r : Nat} (h : Rnd z r) : Rnk z 0 r := by
  obtain ⟨neg, mag, t, h1, h2, h3, h4⟩ := h
  exact ⟨neg, mag, t, h1, by rw [Nat.pow_zero, Nat.mul_one]; exact h2, h3, h4⟩
theorem SV_pos {x : Nat} (h : sg x = false) : SV x = V x := by unfold SV; rw [h]; rfl
theorem SV_neg {x : Nat} (h : sg x = true) : SV x = -(V x : Int) := by unfold SV; rw [h]; rfl
/-- x lies between two words. -/
def In (lo hi x : Nat) : Prop := x < 2 ^ 64 ∧ Fnt x ∧ SV lo ≤ SV x ∧ SV x ≤ SV hi
theorem In.mono {lo hi lo' hi' x : Nat} (h : In lo hi x) (h1 : SV lo' ≤ SV lo) (h2 : SV hi ≤ SV hi') : In lo' hi' x := ⟨h.1, h.2.1, by have := h.2.2.1; omega, by have := h.2.2.2; omega⟩
theorem near_lt64 (neg : Bool) (mag : Nat) (place : Int) : double.nearest neg mag place < 2 ^ 64 := double.write_lt (.number neg mag place)
theorem rnk_in {z : Int} {k r lo hi : Nat} (h : Rnk z k r) (flo : Fnt lo) (fhi : Fnt hi) (h1 : SV lo * ((2 ^ k : Nat) : Int) ≤ z) (h2 : z ≤ SV hi * ((2 ^ k : Nat) : Int)) : In lo hi r := by
  obtain ⟨neg, mag, t, hr, hm, hp, hn⟩ := h
  have h64 : r < 2 ^ 64 := by rw [hr]; exact near_lt64 _ _ _
  have hk : 0 < 2 ^ k := Nat.two_pow_pos k
  obtain ⟨K, hK⟩ : ∃ K, 2 ^ k = K := ⟨_, rfl⟩
  rw [hK] at hk hm h1 h2
  have hsg : sg r = neg := by rw [hr]; exact near_sign neg
  rcases Int.lt_trichotomy z 0 with hz | hz | hz
  · have hneg := hn hz
    rw [hneg] at hsg
    have s1 : sg lo = true := by
      cases e : sg lo
      · exfalso
        rw [SV_pos e] at h1
        have : (0 : Int) ≤ (V lo : Int) * (K : Int) := Int.mul_nonneg (by omega) (by omega)
        omega
      · rfl
    rw [SV_neg s1] at h1
    have hle : mag * 2 ^ t ≤ VR (rung lo) := by
      rw [← V_rung]
      refine Nat.le_of_mul_le_mul_right ?_ hk
      rw [hm]
      have e : -(V lo : Int) * (K : Int) = -((V lo * K : Nat) : Int) := by push_cast; exact Int.neg_mul _ _
      omega
    have hrl : rung r ≤ rung lo := by rw [hr]; exact near_le_R neg hle flo
    refine ⟨h64, Nat.lt_of_le_of_lt hrl flo, ?_, ?_⟩
    · rw [SV_neg s1, SV_neg hsg]
      have := V_mono hrl
      omega
    · rw [SV_neg hsg]
      cases e : sg hi
      · rw [SV_pos e]; omega
      · rw [SV_neg e] at h2 ⊢
        have hge : VR (rung hi) ≤ mag * 2 ^ t := by
          rw [← V_rung]
          refine Nat.le_of_mul_le_mul_right ?_ hk
          rw [hm]
          have e : -(V hi : Int) * (K : Int) = -((V hi * K : Nat) : Int) := by push_cast; exact Int.neg_mul _ _
          omega
        have hrh : rung hi ≤ rung r := by rw [hr]; exact near_ge_R neg hge fhi
        have := V_mono hrh
        omega
  · have hmag : mag = 0 := by
      rw [hz] at hm
      have : mag * 2 ^ t * K = 0 := hm
      rcases Nat.mul_eq_zero.1 this with h | h
      · rcases Nat.mul_eq_zero.1 h with h | h
        · exact h
        · have := Nat.two_pow_pos t; omega
      · omega
    have hrr : rung r = 0 := by
      rw [hr, hmag]
      unfold Format.nearest
      rw [if_pos rfl, rung_word neg (by omega)]
    have hv : SV r = 0 := by
      have := rung_zero_V hrr
      cases e : sg r
      · rw [SV_pos e, this]; rfl
      · rw [SV_neg e, this]; rfl
    refine ⟨h64, by unfold Fnt; omega, ?_, ?_⟩
    · rw [hv]
      rw [hz] at h1
      rcases Int.lt_or_le 0 (SV lo) with h | h
      · have := Int.mul_pos h (show (0 : Int) < K by omega); omega
      · exact h
    · rw [hv]
      rw [hz] at h2
      rcases Int.lt_or_le (SV hi) 0 with h | h
      · have := Int.mul_neg_of_neg_of_pos h (show (0 : Int) < K by omega); omega
      · exact h
  · have hneg := hp hz
    rw [hneg] at hsg
    have s1 : sg hi = false := by
      cases e : sg hi
      · rfl
      · exfalso
        rw [SV_neg e] at h2
        have : (0 : Int) ≤ (V hi : Int) * (K : Int) := Int.mul_nonneg (by omega) (by omega)
        have e2 : -(V hi : Int) * (K : Int) = -((V hi : Int) * (K : Int)) := Int.neg_mul _ _
        omega
    rw [SV_pos s1] at h2
    have hle : mag * 2 ^ t ≤ VR (rung hi) := by
      rw [← V_rung]
      refine Nat.le_of_mul_le_mul_right ?_ hk
      rw [hm]
      have e : (V hi : Int) * (K : Int) = ((V hi * K : Nat) : Int) := by push_cast; rfl
      omega
    have hrl : rung r ≤ rung hi := by rw [hr]; exact near_le_R neg hle fhi
    refine ⟨h64, Nat.lt_of_le_of_lt hrl fhi, ?_, ?_⟩
    · rw [SV_pos hsg]
      cases e : sg lo
      · rw [SV_pos e] at h1 ⊢
        have hge : VR (rung lo) ≤ mag * 2 ^ t := by
          rw [← V_rung]
          refine Nat.le_of_mul_le_mul_right ?_ hk
          rw [hm]
          have e : (V lo : Int) * (K : Int) = ((V lo * K : Nat) : Int) := by push_cast; rfl
          omega
        have hrh : rung lo ≤ rung r := by rw [hr]; exact near_ge_R neg hge flo
        have := V_mono hrh
        omega
      · rw [SV_neg e]; omega
    · rw [SV_pos s1, SV_pos hsg]
      have := V_mono hrl
      omega
theorem mul_rnk {x y : Nat} (hx : Fnt x) (hy : Fnt y) : ∃ r k, k = 3000 ∧ double.mul x y = some r ∧ Rnk (SV x * SV y) k r := by
  obtain ⟨r, mag, t, c, h, hr, hc, hm⟩ := mul_rnd hx hy
  refine ⟨r, c, hc, h, sg x ^^ sg y, mag, t, hr, ?_, ?_, ?_⟩
  · rw [hm, Int.natAbs_mul, SV_abs, SV_abs]
  · intro h
    cases e1 : sg x <;> cases e2 : sg y <;> try rfl
    · exfalso
      rw [SV_pos e1, SV_neg e2] at h
      have : (0 : Int) ≤ (V x : Int) * (V y : Int) := Int.mul_nonneg (by omega) (by omega)
      have e : (V x : Int) * -(V y : Int) = -((V x : Int) * (V y : Int)) := Int.mul_neg _ _
      omega
    · exfalso
      rw [SV_neg e1, SV_pos e2] at h
      have : (0 : Int) ≤ (V x : Int) * (V y : Int) := Int.mul_nonneg (by omega) (by omega)
      have e : -(V x : Int) * (V y : Int) = -((V x : Int) * (V y : Int)) := Int.neg_mul _ _
      omega
  · intro h
    cases e1 : sg x <;> cases e2 : sg y <;> try rfl
    · exfalso
      rw [SV_pos e1, SV_pos e2] at h
      have : (0 : Int) ≤ (V x : Int) * (V y : Int) := Int.mul_nonneg (by omega) (by omega)
      omega
    · exfalso
      rw [SV_neg e1, SV_neg e2] at h
      have : (0 : Int) ≤ (V x : Int) * (V y : Int) := Int.mul_nonneg (by omega) (by omega)
      have e : -(V x : Int) * -(V y : Int) = (V x : Int) * (V y : Int) := Int.neg_mul_neg _ _
      omega
end Go.Proofs.YtlemgjlnlegcgaaDoor.FL
