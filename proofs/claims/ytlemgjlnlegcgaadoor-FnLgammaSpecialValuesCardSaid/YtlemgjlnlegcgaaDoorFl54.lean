/- Plain: rounding to doubles, in terms of the rungs of words. -/
import GoSem.Core.Float
namespace Go.Proofs.YtlemgjlnlegcgaaDoor.FL
open Ieee

theorem cut_le (way : Toward) (neg : Bool) (n drop : Nat) : way.cut neg n drop ≤ n / (1 <<< min drop (n.log2 + 2)) + 1 := by
  unfold Toward.cut
  simp only
  have : ∀ b : Bool, b.toNat ≤ 1 := fun b => by cases b <;> simp
  exact Nat.add_le_add_left (this _) _
theorem cut_ge (way : Toward) (neg : Bool) (n drop : Nat) : n / (1 <<< min drop (n.log2 + 2)) ≤ way.cut neg n drop := by
  unfold Toward.cut
  simp only
  exact Nat.le_add_right _ _
theorem cut_zero (neg : Bool) (n : Nat) : Toward.even.cut neg n 0 = n := by
  unfold Toward.cut
  simp [Nat.mod_one]
theorem log2_bounds {m : Nat} (h : m ≠ 0) : 2 ^ m.log2 ≤ m ∧ m < 2 ^ (m.log2 + 1) := ⟨Nat.log2_self_le h, Nat.lt_log2_self⟩
theorem pow_split (a b : Nat) (h : b ≤ a) : 2 ^ a = 2 ^ (a - b) * 2 ^ b := by rw [← Nat.pow_add, Nat.sub_add_cancel h]
/-- A significand of 53 digits, rounded. -/
theorem kept_normal (neg : Bool) {mag : Nat} (h : mag ≠ 0) :
    2 ^ 52 ≤ Toward.even.cut neg (mag <<< (52 - mag.log2)) (mag.log2 - 52) ∧ Toward.even.cut neg (mag <<< (52 - mag.log2)) (mag.log2 - 52) ≤ 2 ^ 53 ∧ (mag = 2 ^ mag.log2 → Toward.even.cut neg (mag <<< (52 - mag.log2)) (mag.log2 - 52) = 2 ^ 52) := by
  obtain ⟨h1, h2⟩ := log2_bounds h
  obtain ⟨L, hL⟩ : ∃ L, mag.log2 = L := ⟨_, rfl⟩
  rw [hL] at h1 h2 ⊢
  by_cases hb : L ≤ 52
  · have e1 : L - 52 = 0 := by omega
    rw [e1, cut_zero, Nat.shiftLeft_eq]
    refine ⟨?_, ?_, ?_⟩
    · rw [pow_split 52 L hb, Nat.mul_comm]
      exact Nat.mul_le_mul_right _ h1
    · refine Nat.le_of_lt ?_
      rw [show 53 = (L + 1) + (52 - L) by omega, Nat.pow_add]
      exact Nat.mul_lt_mul_of_pos_right h2 (Nat.two_pow_pos _)
    · intro e
      rw [e, ← Nat.pow_add, show L + (52 - L) = 52 by omega]
  · have e1 : 52 - L = 0 := by omega
    have e2 : min (L - 52) ((mag <<< (52 - L)).log2 + 2) = L - 52 := by
      rw [e1, Nat.shiftLeft_zero, hL]
      omega
    have e3 : mag <<< (52 - L) = mag := by rw [e1, Nat.shiftLeft_zero]
    have k1 := cut_le .even neg (mag <<< (52 - L)) (L - 52)
    have k2 := cut_ge .even neg (mag <<< (52 - L)) (L - 52)
    rw [e2, e3, Nat.shiftLeft_eq, Nat.one_mul] at k1 k2
    rw [e3]
    have g1 : 2 ^ 52 ≤ mag / 2 ^ (L - 52) := by
      rw [Nat.le_div_iff_mul_le (Nat.two_pow_pos _), ← Nat.pow_add, show 52 + (L - 52) = L by omega]
      exact h1
    have g2 : mag / 2 ^ (L - 52) < 2 ^ 53 := by
      rw [Nat.div_lt_iff_lt_mul (Nat.two_pow_pos _), ← Nat.pow_add, show 53 + (L - 52) = L + 1 by omega]
      exact h2
    refine ⟨by omega, by omega, fun e => ?_⟩
    unfold Toward.cut
    simp only
    rw [hL, show min (L - 52) (L + 2) = L - 52 by omega, Nat.shiftLeft_eq, Nat.one_mul]
    have d1 : mag / 2 ^ (L - 52) = 2 ^ 52 := by
      rw [e, pow_split L (L - 52) (by omega), Nat.mul_div_cancel _ (Nat.two_pow_pos _), show L - (L - 52) = 52 by omega]
    have d2 : mag % 2 ^ (L - 52) = 0 := by
      rw [e, pow_split L (L - 52) (by omega), Nat.mul_mod_left]
    rw [d1, d2]
    have : 0 < 2 ^ (L - 52) := Nat.two_pow_pos _
    simp
/-- A subnormal's, rounded. -/
theorem kept_sub (neg : Bool) {mag up drop : Nat} (h : mag ≠ 0) (hz : up = 0 ∨ drop = 0) (hlt : mag.log2 + 1 + up ≤ 52 + drop) : Toward.even.cut neg (mag <<< up) drop ≤ 2 ^ 52 := by
  obtain ⟨h1, h2⟩ := log2_bounds h
  obtain ⟨L, hL⟩ : ∃ L, mag.log2 = L := ⟨_, rfl⟩
  rw [hL] at h1 h2 hlt
  rcases hz with rfl | rfl
  · rw [Nat.shiftLeft_zero]
    have k1 := cut_le .even neg mag drop
    rw [hL, Nat.shiftLeft_eq, Nat.one_mul] at k1
    by_cases hd : drop ≤ L + 2
    · rw [Nat.min_eq_left hd] at k1
      have : mag / 2 ^ drop < 2 ^ 52 := by
        rw [Nat.div_lt_iff_lt_mul (Nat.two_pow_pos _), ← Nat.pow_add]
        exact Nat.lt_of_lt_of_le h2 (Nat.pow_le_pow_right (by omega) (by omega))
      omega
    · rw [Nat.min_eq_right (by omega)] at k1
      have : mag / 2 ^ (L + 2) = 0 := Nat.div_eq_of_lt (Nat.lt_of_lt_of_le h2 (Nat.pow_le_pow_right (by omega) (by omega)))
      rw [this] at k1
      have : 1 ≤ 2 ^ 52 := Nat.two_pow_pos _
      omega
  · rw [cut_zero, Nat.shiftLeft_eq]
    refine Nat.le_of_lt (Nat.lt_of_lt_of_le (Nat.mul_lt_mul_of_pos_right h2 (Nat.two_pow_pos _)) ?_)
    rw [← Nat.pow_add]
    exact Nat.pow_le_pow_right (by omega) (by omega)
/-- The rung of a word. -/
def rung (x : Nat) : Nat := x % 2 ^ 63
theorem rung_word (neg : Bool) {r : Nat} (h : r ≤ 2047 * 2 ^ 52) : rung (double.word neg r) = r := by
  unfold rung Format.word Format.signWeight double
  cases neg
  · simp only [Bool.false_eq_true, if_false]; omega
  · simp only [if_true]; omega
theorem sign_word (neg : Bool) {r : Nat} (h : r ≤ 2047 * 2 ^ 52) : (double.word neg r / 2 ^ 63 % 2 == 1) = neg := by
  unfold Format.word Format.signWeight double
  cases neg
  · simp only [Bool.false_eq_true, if_false]
    have : r / 2 ^ 63 % 2 = 0 := by omega
    rw [this]; rfl
  · simp only [if_true]
    have : (2 ^ (11 + 52) + r) / 2 ^ 63 % 2 = 1 := by omega
    rw [this]; rfl
theorem near_eq (neg : Bool) {mag t : Nat} (h : mag ≠ 0) : ∃ r, double.nearest neg mag ((t : Int) - 3000) = double.word neg (min r (2047 * 2 ^ 52)) ∧
    ((1978 ≤ t + mag.log2 ∧ r = (t + mag.log2 - 1978) * 2 ^ 52 + Toward.even.cut neg (mag <<< (52 - mag.log2)) (mag.log2 - 52)) ∨ (t + mag.log2 < 1978 ∧ r ≤ 2 ^ 52)) := by
  have hl : double.leastPlace = -1074 := by decide
  have hb : double.binade = 2 ^ 52 := rfl
  have hi : double.infRung = 2047 * 2 ^ 52 := by decide
  unfold Format.nearest
  rw [if_neg h]
  simp only [hl, hb, hi]
  refine ⟨_, rfl, ?_⟩
  by_cases hn : 1978 ≤ t + mag.log2
  · refine .inl ⟨hn, ?_⟩
    have e1 : max ((t : Int) - 3000 + mag.log2 - (double.fractionBits : Nat)) (-1074) = (t : Int) - 3000 + mag.log2 - 52 := by
      show max ((t : Int) - 3000 + mag.log2 - 52) (-1074) = _
      omega
    rw [e1]
    rw [show ((t : Int) - 3000 + mag.log2 - 52 - -1074).toNat = t + mag.log2 - 1978 by omega, show ((t : Int) - 3000 - ((t : Int) - 3000 + mag.log2 - 52)).toNat = 52 - mag.log2 by omega, show ((t : Int) - 3000 + mag.log2 - 52 - ((t : Int) - 3000)).toNat = mag.log2 - 52 by omega]
  · refine .inr ⟨by omega, ?_⟩
    have e1 : max ((t : Int) - 3000 + mag.log2 - (double.fractionBits : Nat)) (-1074) = -1074 := by
      show max ((t : Int) - 3000 + mag.log2 - 52) (-1074) = _
      omega
    rw [e1]
    rw [show ((-1074 : Int) - -1074).toNat = 0 by omega, Nat.zero_mul, Nat.zero_add]
    exact kept_sub neg h (by omega) (by omega)
theorem near_le (neg : Bool) {mag t E : Nat} (h : mag * 2 ^ t ≤ 2 ^ (E + 1977)) (h1 : 1 ≤ E) (h2 : E ≤ 2046) : rung (double.nearest neg mag ((t : Int) - 3000)) ≤ E * 2 ^ 52 := by
  by_cases h0 : mag = 0
  · subst h0
    unfold Format.nearest
    rw [if_pos rfl, rung_word neg (by omega)]
    omega
  obtain ⟨r, hr, hc⟩ := near_eq neg (t := t) h0
  rw [hr, rung_word neg (Nat.min_le_right _ _)]
  refine Nat.le_trans (Nat.min_le_left _ _) ?_
  obtain ⟨g1, g2⟩ := log2_bounds h0
  obtain ⟨k1, k2, k3⟩ := kept_normal neg h0
  rcases hc with ⟨hn, rfl⟩ | ⟨_, hr⟩
  · have hle : 2 ^ (mag.log2 + t) ≤ 2 ^ (E + 1977) := by
      refine Nat.le_trans ?_ h
      rw [Nat.pow_add]
      exact Nat.mul_le_mul_right _ g1
    have hle' : mag.log2 + t ≤ E + 1977 := (Nat.pow_le_pow_iff_right (by omega)).1 hle
    by_cases he : mag.log2 + t = E + 1977
    · have hm : mag = 2 ^ mag.log2 := by
        refine Nat.le_antisymm ?_ g1
        rw [← he, Nat.pow_add] at h
        exact Nat.le_of_mul_le_mul_right h (Nat.two_pow_pos _)
      rw [k3 hm]
      have : t + mag.log2 - 1978 = E - 1 := by omega
      rw [this]
      omega
    · have : t + mag.log2 - 1978 ≤ E - 2 := by omega
      omega
  · omega
theorem near_ge (neg : Bool) {mag t E : Nat} (h : 2 ^ (E + 1977) ≤ mag * 2 ^ t) (h1 : 1 ≤ E) (h2 : E ≤ 2047) : E * 2 ^ 52 ≤ rung (double.nearest neg mag ((t : Int) - 3000)) := by
  have h0 : mag ≠ 0 := by
    intro e
    rw [e, Nat.zero_mul] at h
    have := Nat.two_pow_pos (E + 1977)
    omega
  obtain ⟨r, hr, hc⟩ := near_eq neg (t := t) h0
  rw [hr, rung_word neg (Nat.min_le_right _ _)]
  refine Nat.le_min.2 ⟨?_, by omega⟩
  obtain ⟨g1, g2⟩ := log2_bounds h0
  obtain ⟨k1, k2, k3⟩ := kept_normal neg h0
  have hlt : 2 ^ (E + 1977) < 2 ^ (mag.log2 + 1 + t) := by
    refine Nat.lt_of_le_of_lt h ?_
    rw [Nat.pow_add _ (mag.log2 + 1)]
    exact Nat.mul_lt_mul_of_pos_right g2 (Nat.two_pow_pos _)
  have hlt' : E + 1977 < mag.log2 + 1 + t := (Nat.pow_lt_pow_iff_right (by omega)).1 hlt
  rcases hc with ⟨hn, rfl⟩ | ⟨hn, hr⟩
  · have : E - 1 ≤ t + mag.log2 - 1978 := by omega
    omega
  · omega
theorem near_sign (neg : Bool) {mag t : Nat} : (double.nearest neg mag ((t : Int) - 3000) / 2 ^ 63 % 2 == 1) = neg := by
  by_cases h0 : mag = 0
  · subst h0
    unfold Format.nearest
    rw [if_pos rfl]
    exact sign_word neg (by omega)
  · obtain ⟨r, hr, _⟩ := near_eq neg (t := t) h0
    rw [hr]
    exact sign_word neg (Nat.min_le_right _ _)

def sg (x : Nat) : Bool := x / 2 ^ 63 % 2 == 1
def mg (x : Nat) : Nat := if rung x < 2 ^ 52 then rung x else 2 ^ 52 + rung x % 2 ^ 52
def pl (x : Nat) : Nat := if rung x < 2 ^ 52 then 1926 else 1925 + rung x / 2 ^ 52
/-- A finite number. -/
def Fnt (x : Nat) : Prop := rung x < 2047 * 2 ^ 52
/-- Its magnitude, in units of 2^-3000. -/
def V (x : Nat) : Nat := mg x * 2 ^ pl x
def SV (x : Nat) : Int := if sg x then -(V x : Int) else (V x : Int)
theorem rd_def (x : Nat) : double.read x = (if x % 2 ^ 63 < 2 ^ 52 then .number (x / 2 ^ 63 % 2 == 1) (x % 2 ^ 63) (-1074)
    else if x % 2 ^ 63 < 2047 * 2 ^ 52 then .number (x / 2 ^ 63 % 2 == 1) (2 ^ 52 + x % 2 ^ 63 % 2 ^ 52) (-1074 + (x % 2 ^ 63 / 2 ^ 52 - 1 : Nat))
    else if x % 2 ^ 63 = 2047 * 2 ^ 52 then .infinity (x / 2 ^ 63 % 2 == 1)
    else .nan (x / 2 ^ 63 % 2 == 1) (x % 2 ^ 63 - 2047 * 2 ^ 52)) := rfl
theorem read_fin {x : Nat} (h : Fnt x) : double.read x = .number (sg x) (mg x) ((pl x : Int) - 3000) := by
  unfold Fnt rung at h
  rw [rd_def]
  unfold mg pl rung sg
  by_cases h1 : x % 2 ^ 63 < 2 ^ 52
  · rw [if_pos h1, if_pos h1, if_pos h1]
    rfl
  · rw [if_neg h1, if_neg h1, if_neg h1, if_pos h]
    congr 1
    have : 1 ≤ x % 2 ^ 63 / 2 ^ 52 := by
      rw [Nat.le_div_iff_mul_le (by decide)]
      omega
    omega
theorem V_le {x E : Nat} (h : rung x ≤ E * 2 ^ 52) (h1 : 1 ≤ E) : V x ≤ 2 ^ (E + 1977) := by
  unfold V mg pl
  by_cases h2 : rung x < 2 ^ 52
  · rw [if_pos h2, if_pos h2]
    obtain ⟨c, hc⟩ : ∃ c, 1926 = c := ⟨_, rfl⟩
    rw [hc]
    refine Nat.le_of_lt (Nat.lt_of_lt_of_le (Nat.mul_lt_mul_of_pos_right h2 (Nat.two_pow_pos _)) ?_)
    rw [← Nat.pow_add]
    exact Nat.pow_le_pow_right (by omega) (by omega)
  · rw [if_neg h2, if_neg h2]
    obtain ⟨q, hq⟩ : ∃ q, rung x / 2 ^ 52 = q := ⟨_, rfl⟩
    rw [hq]
    have hm : rung x % 2 ^ 52 < 2 ^ 52 := Nat.mod_lt _ (by decide)
    by_cases h3 : q + 1 ≤ E
    · refine Nat.le_of_lt (Nat.lt_of_lt_of_le (Nat.mul_lt_mul_of_pos_right (show 2 ^ 52 + rung x % 2 ^ 52 < 2 ^ 53 by omega) (Nat.two_pow_pos _)) ?_)
      rw [← Nat.pow_add]
      exact Nat.pow_le_pow_right (by omega) (by omega)
    · have hr : rung x % 2 ^ 52 = 0 := by omega
      have hqE : q = E := by omega
      rw [hr, hqE, Nat.add_zero, ← Nat.pow_add]
      exact Nat.pow_le_pow_right (by omega) (by omega)
theorem V_ge {x E : Nat} (h : E * 2 ^ 52 ≤ rung x) (h1 : 1 ≤ E) : 2 ^ (E + 1977) ≤ V x := by
  unfold V mg pl
  have h2 : ¬ rung x < 2 ^ 52 := by omega
  rw [if_neg h2, if_neg h2]
  have hq : E ≤ rung x / 2 ^ 52 := by
    rw [Nat.le_div_iff_mul_le (by decide)]
    exact h
  refine Nat.le_trans ?_ (Nat.mul_le_mul_right _ (Nat.le_add_right _ _))
  rw [← Nat.pow_add]
  exact Nat.pow_le_pow_right (by omega) (by omega)
theorem pl_ge (x : Nat) : 1926 ≤ pl x := by
  unfold pl
  split
  · exact Nat.le_refl _
  · have : 1 ≤ rung x / 2 ^ 52 := by
      rw [Nat.le_div_iff_mul_le (by decide)]
      omega
    omega
/-- What an exact result is rounded to. -/
def Rnd (z : Int) (r : Nat) : Prop := ∃ (neg : Bool) (mag t : Nat), r = double.nearest neg mag ((t : Int) - 3000) ∧ mag * 2 ^ t = z.natAbs ∧ (0 < z → neg = false) ∧ (z < 0 → neg = true)
theorem Rnd.le {z : Int} {r E : Nat} (h : Rnd z r) (hz : z.natAbs ≤ 2 ^ (E + 1977)) (h1 : 1 ≤ E) (h2 : E ≤ 2046) : rung r ≤ E * 2 ^ 52 := by
  obtain ⟨neg, mag, t, rfl, hm, _⟩ := h
  exact near_le neg (by rw [hm]; exact hz) h1 h2
theorem Rnd.ge {z : Int} {r E : Nat} (h : Rnd z r) (hz : 2 ^ (E + 1977) ≤ z.natAbs) (h1 : 1 ≤ E) (h2 : E ≤ 2047) : E * 2 ^ 52 ≤ rung r := by
  obtain ⟨neg, mag, t, rfl, hm, _⟩ := h
  exact near_ge neg (by rw [hm]; exact hz) h1 h2
theorem Rnd.pos {z : Int} {r : Nat} (h : Rnd z r) (hz : 0 < z) : sg r = false := by
  obtain ⟨neg, mag, t, rfl, hm, hp, _⟩ := h
  rw [hp hz]
  exact near_sign false
theorem Rnd.neg {z : Int} {r : Nat} (h : Rnd z r) (hz : z < 0) : sg r = true := by
  obtain ⟨neg, mag, t, rfl, hm, _, hp⟩ := h
  rw [hp hz]
  exact near_sign true
theorem signed_shift (s : Bool) (m a t : Nat) : signed s m a * 2 ^ t = if s then -((m * 2 ^ (a + t) : Nat) : Int) else ((m * 2 ^ (a + t) : Nat) : Int) := by
  unfold signed
  have e : ((m <<< a : Nat) : Int) * 2 ^ t = ((m * 2 ^ (a + t) : Nat) : Int) := by
    rw [Nat.shiftLeft_eq, Nat.pow_add, ← Nat.mul_assoc]
    push_cast
    rfl
  cases s
  · simp only [Bool.false_eq_true, if_false]; exact e
  · simp only [if_true]
    rw [← e]
    exact Int.neg_mul _ _
theorem sum_rnd {s t : Bool} {m n i j : Nat} : ∃ d, Datum.sum (.number s m ((i : Int) - 3000)) (.number t n ((j : Int) - 3000)) = some d ∧ Rnd ((if s then -((m * 2 ^ i : Nat) : Int) else ((m * 2 ^ i : Nat) : Int)) + (if t then -((n * 2 ^ j : Nat) : Int) else ((n * 2 ^ j : Nat) : Int))) (double.write d) := by
  refine ⟨_, rfl, ?_⟩
  obtain ⟨b, hb⟩ : ∃ b, min i j = b := ⟨_, rfl⟩
  have hbi : b ≤ i := by omega
  have hbj : b ≤ j := by omega
  have e0 : min ((i : Int) - 3000) ((j : Int) - 3000) = (b : Int) - 3000 := by omega
  simp only [e0]
  rw [show ((i : Int) - 3000 - ((b : Int) - 3000)).toNat = i - b by omega, show ((j : Int) - 3000 - ((b : Int) - 3000)).toNat = j - b by omega]
  obtain ⟨T, hT⟩ : ∃ T, signed s m (i - b) + signed t n (j - b) = T := ⟨_, rfl⟩
  have hz : T * 2 ^ b = (if s then -((m * 2 ^ i : Nat) : Int) else ((m * 2 ^ i : Nat) : Int)) + (if t then -((n * 2 ^ j : Nat) : Int) else ((n * 2 ^ j : Nat) : Int)) := by
    rw [← hT, Int.add_mul, signed_shift, signed_shift, Nat.sub_add_cancel hbi, Nat.sub_add_cancel hbj]
  rw [hT, ← hz]
  have hp : (0 : Int) < 2 ^ b := by
    have := Nat.two_pow_pos b
    exact_mod_cast this
  refine ⟨_, T.natAbs, b, rfl, ?_, ?_, ?_⟩
  · rw [Int.natAbs_mul]
    congr 1
  · intro h
    have hT0 : 0 < T := by
      rcases Int.lt_trichotomy T 0 with h' | h' | h'
      · have := Int.mul_neg_of_neg_of_pos h' hp; omega
      · rw [h', Int.zero_mul] at h; omega
      · exact h'
    rw [if_neg (by omega)]
    first | (simp; done) | (simp; omega)
  · intro h
    have hT0 : T < 0 := by
      rcases Int.lt_trichotomy T 0 with h' | h' | h'
      · exact h'
      · rw [h', Int.zero_mul] at h; omega
      · have := Int.mul_pos h' hp; omega
    rw [if_neg (by omega)]
    first | (simp; done) | (simp; omega)
theorem add_rnd {x y : Nat} (hx : Fnt x) (hy : Fnt y) : ∃ r, double.add x y = some r ∧ Rnd (SV x + SV y) r := by
  unfold Format.add
  rw [read_fin hx, read_fin hy]
  obtain ⟨d, h1, h2⟩ := sum_rnd (s := sg x) (t := sg y) (m := mg x) (n := mg y) (i := pl x) (j := pl y)
  rw [h1]
  exact ⟨_, rfl, h2⟩
theorem sub_rnd {x y : Nat} (hx : Fnt x) (hy : Fnt y) : ∃ r, double.sub x y = some r ∧ Rnd (SV x - SV y) r := by
  unfold Format.sub
  rw [read_fin hx, read_fin hy]
  obtain ⟨d, h1, h2⟩ := sum_rnd (s := sg x) (t := !sg y) (m := mg x) (n := mg y) (i := pl x) (j := pl y)
  show ∃ r, ((Datum.number (sg x) (mg x) ((pl x : Int) - 3000)).sum (.number (!sg y) (mg y) ((pl y : Int) - 3000))).map _ = some r ∧ _
  rw [h1]
  refine ⟨_, rfl, ?_⟩
  have e : SV x - SV y = (if sg x then -((mg x * 2 ^ pl x : Nat) : Int) else ((mg x * 2 ^ pl x : Nat) : Int)) + (if (!sg y) then -((mg y * 2 ^ pl y : Nat) : Int) else ((mg y * 2 ^ pl y : Nat) : Int)) := by
    unfold SV V
    cases sg y <;> simp <;> omega
  rw [e]
  exact h2

theorem rung_zero_V {x : Nat} (h : rung x = 0) : V x = 0 := by
  unfold V mg pl
  rw [if_pos (by omega), h, Nat.zero_mul]
theorem Rnd.nonneg {z : Int} {r : Nat} (h : Rnd z r) (hz : 0 ≤ z) : 0 ≤ SV r := by
  by_cases h0 : z = 0
  · obtain ⟨neg, mag, t, hr, hm, _⟩ := h
    have hmag : mag = 0 := by
      rw [h0] at hm
      have : mag * 2 ^ t = 0 := hm
      rcases Nat.mul_eq_zero.1 this with h | h
      · exact h
      · have := Nat.two_pow_pos t; omega
    have hz : V r = 0 := by
      apply rung_zero_V
      rw [hr, hmag]
      unfold Format.nearest
      rw [if_pos rfl, rung_word neg (by omega)]
    unfold SV
    rw [hz]
    split <;> simp
  · unfold SV
    rw [h.pos (by omega)]
    simp
theorem SV_abs (x : Nat) : (SV x).natAbs = V x := by
  unfold SV
  split
  · rw [Int.natAbs_neg]; rfl
  · rfl
theorem Fnt_of {x E : Nat} (h : rung x ≤ E * 2 ^ 52) (hE : E ≤ 2046) : Fnt x := by unfold Fnt; omega
/-- |x| is at most 2^(E - 1023). -/
def Bd (E x : Nat) : Prop := rung x ≤ E * 2 ^ 52
theorem Bd.fn {E x : Nat} (h : Bd E x) (hE : E ≤ 2046) : Fnt x := Fnt_of h hE
theorem Bd.mono {E F x : Nat} (h : Bd E x) (hE : E ≤ F) : Bd F x := Nat.le_trans h (Nat.mul_le_mul_right _ hE)
theorem bd_add {E F G x y : Nat} (hx : Bd E x) (hy : Bd F y) (h1 : 1 ≤ E) (h1' : 1 ≤ F) (hE : E + 1 ≤ G) (hF : F + 1 ≤ G) (hG : G ≤ 2046) : ∃ r, double.add x y = some r ∧ Bd G r ∧ Rnd (SV x + SV y) r := by
  obtain ⟨r, h, hr⟩ := add_rnd (hx.fn (by omega)) (hy.fn (by omega))
  refine ⟨r, h, hr.le ?_ (by omega) hG, hr⟩
  have a := V_le hx h1
  have b := V_le hy h1'
  have a' : 2 ^ (E + 1977) ≤ 2 ^ (G - 1 + 1977) := Nat.pow_le_pow_right (by omega) (by omega)
  have b' : 2 ^ (F + 1977) ≤ 2 ^ (G - 1 + 1977) := Nat.pow_le_pow_right (by omega) (by omega)
  have c : 2 ^ (G + 1977) = 2 ^ (G - 1 + 1977) + 2 ^ (G - 1 + 1977) := by
    rw [show G + 1977 = (G - 1 + 1977) + 1 by omega, Nat.pow_succ]; omega
  have d := SV_abs x
  have e := SV_abs y
  generalize 2 ^ (G - 1 + 1977) = P at *
  generalize 2 ^ (G + 1977) = P2 at *
  omega
theorem bd_sub {E F G x y : Nat} (hx : Bd E x) (hy : Bd F y) (h1 : 1 ≤ E) (h1' : 1 ≤ F) (hE : E + 1 ≤ G) (hF : F + 1 ≤ G) (hG : G ≤ 2046) : ∃ r, double.sub x y = some r ∧ Bd G r ∧ Rnd (SV x - SV y) r := by
  obtain ⟨r, h, hr⟩ := sub_rnd (hx.fn (by omega)) (hy.fn (by omega))
  refine ⟨r, h, hr.le ?_ (by omega) hG, hr⟩
  have a := V_le hx h1
  have b := V_le hy h1'
  have a' : 2 ^ (E + 1977) ≤ 2 ^ (G - 1 + 1977) := Nat.pow_le_pow_right (by omega) (by omega)
  have b' : 2 ^ (F + 1977) ≤ 2 ^ (G - 1 + 1977) := Nat.pow_le_pow_right (by omega) (by omega)
  have c : 2 ^ (G + 1977) = 2 ^ (G - 1 + 1977) + 2 ^ (G - 1 + 1977) := by
    rw [show G + 1977 = (G - 1 + 1977) + 1 by omega, Nat.pow_succ]; omega
  have d := SV_abs x
  have e := SV_abs y
  generalize 2 ^ (G - 1 + 1977) = P at *
  generalize 2 ^ (G + 1977) = P2 at *
  omega
theorem mul_rnd {x y : Nat} (hx : Fnt x) (hy : Fnt y) : ∃ (r mag t c : Nat), double.mul x y = some r ∧ r = double.nearest (sg x ^^ sg y) mag ((t : Int) - 3000) ∧ c = 3000 ∧ mag * 2 ^ t * 2 ^ c = V x * V y := by
  have p1 := pl_ge x
  have p2 := pl_ge y
  unfold Format.mul
  rw [read_fin hx, read_fin hy]
  refine ⟨_, mg x * mg y, pl x + pl y - 3000, 3000, rfl, ?_, rfl, ?_⟩
  · show double.nearest (sg x ^^ sg y) (mg x * mg y) ((pl x : Int) - 3000 + ((pl y : Int) - 3000)) = _
    have e : (pl x : Int) - 3000 + ((pl y : Int) - 3000) = ((pl x + pl y - 3000 : Nat) : Int) - 3000 := by omega
    rw [e]
  · have hle : 3000 ≤ pl x + pl y := by omega
    obtain ⟨c, hc⟩ : ∃ c, 3000 = c := ⟨_, rfl⟩
    rw [hc] at hle ⊢
    unfold V
    rw [Nat.mul_assoc (mg x * mg y), ← Nat.pow_add, Nat.sub_add_cancel (by omega), Nat.pow_add]
    ac_rfl
theorem bd_mul {E F G x y : Nat} (hx : Bd E x) (hy : Bd F y) (h1 : 1 ≤ E) (h1' : 1 ≤ F) (hE : E ≤ 2046) (hF : F ≤ 2046) (hG : E + F ≤ G + 1023) (hG1 : 1 ≤ G) (hG2 : G ≤ 2046) : ∃ r, double.mul x y = some r ∧ Bd G r ∧ (sg r = (sg x ^^ sg y)) := by
  obtain ⟨r, mag, t, k, h, hr, hk, hm⟩ := mul_rnd (hx.fn hE) (hy.fn hF)
  refine ⟨r, h, ?_, by rw [hr]; exact near_sign _⟩
  show rung r ≤ _
  rw [hr]
  refine near_le _ ?_ hG1 hG2
  have a := V_le hx h1
  have b := V_le hy h1'
  have c := Nat.mul_le_mul a b
  rw [← hm, ← Nat.pow_add] at c
  refine Nat.le_of_mul_le_mul_right (Nat.le_trans c ?_) (Nat.two_pow_pos k)
  rw [← Nat.pow_add]
  exact Nat.pow_le_pow_right (by omega) (by omega)

/-- The magnitude of a rung, strictly rising. -/
theorem V_lt {x y : Nat} (h : rung x < rung y) : V x < V y := by
  have hm : rung x % 2 ^ 52 < 2 ^ 52 := Nat.mod_lt _ (by decide)
  unfold V mg pl
  by_cases h1 : rung x < 2 ^ 52
  · rw [if_pos h1, if_pos h1]
    by_cases h2 : rung y < 2 ^ 52
    · rw [if_pos h2, if_pos h2]
      obtain ⟨c, hc⟩ : ∃ c, 1926 = c := ⟨_, rfl⟩
      rw [hc]
      exact Nat.mul_lt_mul_of_pos_right h (Nat.two_pow_pos _)
    · rw [if_neg h2, if_neg h2]
      have hq : 1 ≤ rung y / 2 ^ 52 := by
        rw [Nat.le_div_iff_mul_le (by decide)]
        omega
      obtain ⟨c, hc⟩ : ∃ c, 1926 = c := ⟨_, rfl⟩
      rw [hc]
      have a : rung x * 2 ^ c < 2 ^ 52 * 2 ^ c := Nat.mul_lt_mul_of_pos_right h1 (Nat.two_pow_pos _)
      have b : 2 ^ c ≤ 2 ^ (1925 + rung y / 2 ^ 52) := Nat.pow_le_pow_right (by omega) (by omega)
      exact Nat.lt_of_lt_of_le a (Nat.mul_le_mul (Nat.le_add_right _ _) b)
  · have h2 : ¬ rung y < 2 ^ 52 := by omega
    rw [if_neg h1, if_neg h1, if_neg h2, if_neg h2]
    have hq : rung x / 2 ^ 52 ≤ rung y / 2 ^ 52 := Nat.div_le_div_right (Nat.le_of_lt h)
    by_cases he : rung x / 2 ^ 52 = rung y / 2 ^ 52
    · rw [he]
      refine Nat.mul_lt_mul_of_pos_right ?_ (Nat.two_pow_pos _)
      omega
    · have a : (2 ^ 52 + rung x % 2 ^ 52) * 2 ^ (1925 + rung x / 2 ^ 52) < 2 ^ 53 * 2 ^ (1925 + rung x / 2 ^ 52) := Nat.mul_lt_mul_of_pos_right (by omega) (Nat.two_pow_pos _)
      have b : 2 ^ 53 * 2 ^ (1925 + rung x / 2 ^ 52) = 2 ^ 52 * 2 ^ (1926 + rung x / 2 ^ 52) := by
        rw [← Nat.pow_add, ← Nat.pow_add]
        congr 1
        omega
      have c : 2 ^ (1926 + rung x / 2 ^ 52) ≤ 2 ^ (1925 + rung y / 2 ^ 52) := Nat.pow_le_pow_right (by omega) (by omega)
      rw [b] at a
      exact Nat.lt_of_lt_of_le a (Nat.mul_le_mul (Nat.le_add_right _ _) c)
theorem compare_mul (a b : Int) {c : Int} (hc : 0 < c) : compare (a * c) (b * c) = compare a b := by
  rcases Int.lt_trichotomy a b with h | h | h
  · rw [Int.compare_eq_lt.2 h, Int.compare_eq_lt.2 (Int.mul_lt_mul_of_pos_right h hc)]
  · subst h; rw [Int.compare_eq_eq.2 rfl, Int.compare_eq_eq.2 rfl]
  · rw [Int.compare_eq_gt.2 h, Int.compare_eq_gt.2 (Int.mul_lt_mul_of_pos_right h hc)]
theorem order_fin {x y : Nat} (hx : Fnt x) (hy : Fnt y) : double.order x y = some (compare (SV x) (SV y)) := by
  unfold Format.order
  rw [read_fin hx, read_fin hy]
  obtain ⟨b, hb⟩ : ∃ b, min (pl x) (pl y) = b := ⟨_, rfl⟩
  have e0 : min ((pl x : Int) - 3000) ((pl y : Int) - 3000) = (b : Int) - 3000 := by omega
  show some (compare (signed (sg x) (mg x) ((pl x : Int) - 3000 - min ((pl x : Int) - 3000) ((pl y : Int) - 3000)).toNat) (signed (sg y) (mg y) ((pl y : Int) - 3000 - min ((pl x : Int) - 3000) ((pl y : Int) - 3000)).toNat)) = _
  rw [e0]
  have a1 : ((pl x : Int) - 3000 - ((b : Int) - 3000)).toNat = pl x - b := by omega
  have a2 : ((pl y : Int) - 3000 - ((b : Int) - 3000)).toNat = pl y - b := by omega
  rw [a1, a2]
  have hp : (0 : Int) < 2 ^ b := by
    have := Nat.two_pow_pos b
    exact_mod_cast this
  rw [← compare_mul _ _ hp, signed_shift, signed_shift, Nat.sub_add_cancel (by omega), Nat.sub_add_cancel (by omega)]
  rfl
/-- Of two words that are not negative and no NaN: as the words. -/
theorem order_pos {x y : Nat} (hx : x < 2047 * 2 ^ 52) (hy : y < 2047 * 2 ^ 52) : double.order x y = some (compare x y) := by
  have rx : rung x = x := by unfold rung; omega
  have ry : rung y = y := by unfold rung; omega
  have sx : sg x = false := by
    unfold sg
    have : x / 2 ^ 63 % 2 = 0 := by omega
    rw [this]; rfl
  have sy : sg y = false := by
    unfold sg
    have : y / 2 ^ 63 % 2 = 0 := by omega
    rw [this]; rfl
  rw [order_fin (by unfold Fnt; omega) (by unfold Fnt; omega)]
  unfold SV
  rw [sx, sy]
  simp only [Bool.false_eq_true, if_false]
  rcases Nat.lt_trichotomy x y with h | h | h
  · have := V_lt (x := x) (y := y) (by omega)
    rw [Nat.compare_eq_lt.2 h, Int.compare_eq_lt.2 (by omega)]
  · subst h; rw [Nat.compare_eq_eq.2 rfl, Int.compare_eq_eq.2 rfl]
  · have := V_lt (x := y) (y := x) (by omega)
    rw [Nat.compare_eq_gt.2 h, Int.compare_eq_gt.2 (by omega)]

theorem mg_lt (x : Nat) : mg x < 2 ^ 53 := by
  unfold mg
  have hm : rung x % 2 ^ 52 < 2 ^ 52 := Nat.mod_lt _ (by decide)
  split <;> omega
theorem pl_le {x : Nat} (h : Fnt x) : pl x ≤ 3971 := by
  unfold pl
  unfold Fnt at h
  split
  · omega
  · have : rung x / 2 ^ 52 ≤ 2046 := by
      have : rung x / 2 ^ 52 < 2047 := by
        rw [Nat.div_lt_iff_lt_mul (by decide)]
        exact h
      omega
    omega
theorem log2_lt53 {m : Nat} (h : m < 2 ^ 53) : m.log2 ≤ 52 := by
  by_cases h0 : m = 0
  · subst h0; decide
  · have := (Nat.log2_lt h0).2 h
    omega
/-- What a truncated quotient with its sticky digit is at most. -/
theorem sticky_le {D n a : Nat} (hn : 0 < n) (h : D ≤ n * 2 ^ a) : 2 * (D / n) + (D % n != 0).toNat ≤ 2 ^ (a + 1) := by
  have h1 : D / n ≤ 2 ^ a := by
    rw [Nat.div_le_iff_le_mul_add_pred hn]
    omega
  rw [Nat.pow_succ]
  by_cases he : D / n = 2 ^ a
  · have h2 := Nat.div_add_mod D n
    rw [he] at h2
    have h3 : D % n = 0 := by omega
    rw [he, h3]
    simp
    omega
  · have : (D % n != 0).toNat ≤ 1 := by cases (D % n != 0) <;> simp
    omega
theorem bd_div {E F G x y : Nat} (hx : Bd E x) (hy : F * 2 ^ 52 ≤ rung y) (hfy : Fnt y) (h1 : 1 ≤ E) (hE : E ≤ 2046) (hF : 1 ≤ F) (hG : E + 1023 ≤ G + F) (hG1 : 1 ≤ G) (hG2 : G ≤ 2046) : ∃ r, double.div x y = some r ∧ Bd G r ∧ sg r = (sg x ^^ sg y) := by
  have hfx := hx.fn hE
  have p1 := pl_ge x
  have p2 := pl_le hfy
  have hVx := V_le hx h1
  have hVy := V_ge hy hF
  have hmx := log2_lt53 (mg_lt x)
  have hmy := log2_lt53 (mg_lt y)
  have hn0 : mg y ≠ 0 := by
    intro e
    unfold V at hVy
    rw [e, Nat.zero_mul] at hVy
    have := Nat.two_pow_pos (F + 1977)
    omega
  obtain ⟨m, hm⟩ : ∃ m, mg x = m := ⟨_, rfl⟩
  obtain ⟨n, hn⟩ : ∃ n, mg y = n := ⟨_, rfl⟩
  unfold V at hVx hVy
  unfold Format.div
  rw [read_fin hfx, read_fin hfy]
  rw [hm] at hVx hmx ⊢
  rw [hn] at hVy hmy hn0 ⊢
  obtain ⟨mo, hmo⟩ : ∃ mo, 54 + n.log2 - m.log2 = mo := ⟨_, rfl⟩
  obtain ⟨t, ht⟩ : ∃ t : Nat, pl x + 2999 - pl y - mo = t := ⟨_, rfl⟩
  have hq : Datum.quotient (double.fractionBits + 2) (.number (sg x) m ((pl x : Int) - 3000)) (.number (sg y) n ((pl y : Int) - 3000)) = some (.number (sg x ^^ sg y) (2 * (m <<< mo / n) + (m <<< mo % n != 0).toNat) ((t : Int) - 3000)) := by
    show (if n = 0 then _ else _) = _
    rw [if_neg hn0]
    show some (Datum.number (sg x ^^ sg y) (2 * (m <<< (54 + n.log2 - m.log2) / n) + (m <<< (54 + n.log2 - m.log2) % n != 0).toNat) ((pl x : Int) - 3000 - ((pl y : Int) - 3000) - (54 + n.log2 - m.log2 : Nat) - 1)) = _
    rw [hmo]
    have e : (pl x : Int) - 3000 - ((pl y : Int) - 3000) - (mo : Nat) - 1 = (t : Int) - 3000 := by omega
    rw [e]
  rw [hq]
  refine ⟨_, rfl, ?_, near_sign _⟩
  refine near_le _ ?_ hG1 hG2
  by_cases hm0 : m = 0
  · subst hm0
    simp
  have hnp : 0 < n := by omega
  obtain ⟨l1, l2⟩ := log2_bounds hm0
  obtain ⟨k1, k2⟩ := log2_bounds hn0
  rw [Nat.shiftLeft_eq]
  have hDn : n ≤ m * 2 ^ mo := by
    refine Nat.le_trans (Nat.le_of_lt k2) ?_
    refine Nat.le_trans ?_ (Nat.mul_le_mul_right _ l1)
    rw [← Nat.pow_add]
    exact Nat.pow_le_pow_right (by omega) (by omega)
  have hmain : m * 2 ^ mo * 2 ^ (pl x + F) ≤ n * 2 ^ (E + mo + pl y) := by
    have c := Nat.mul_le_mul hVx hVy
    obtain ⟨z, hz⟩ : ∃ z, 1977 = z := ⟨_, rfl⟩
    rw [hz] at c
    refine Nat.le_of_mul_le_mul_right ?_ (Nat.two_pow_pos z)
    have e1 : m * 2 ^ mo * 2 ^ (pl x + F) * 2 ^ z = m * 2 ^ pl x * 2 ^ (F + z) * 2 ^ mo := by
      rw [Nat.pow_add, Nat.pow_add]; ac_rfl
    have e2 : n * 2 ^ (E + mo + pl y) * 2 ^ z = 2 ^ (E + z) * (n * 2 ^ pl y) * 2 ^ mo := by
      rw [Nat.pow_add, Nat.pow_add, Nat.pow_add]; ac_rfl
    rw [e1, e2]
    exact Nat.mul_le_mul_right _ c
  have hle : pl x + F ≤ E + mo + pl y := by
    have c : n * 2 ^ (pl x + F) ≤ n * 2 ^ (E + mo + pl y) := Nat.le_trans (Nat.mul_le_mul_right _ hDn) hmain
    exact (Nat.pow_le_pow_iff_right (by omega)).1 (Nat.le_of_mul_le_mul_left c hnp)
  obtain ⟨a, ha⟩ : ∃ a, E + mo + pl y - (pl x + F) = a := ⟨_, rfl⟩
  have hD : m * 2 ^ mo ≤ n * 2 ^ a := by
    refine Nat.le_of_mul_le_mul_right ?_ (Nat.two_pow_pos (pl x + F))
    rw [Nat.mul_assoc n, ← Nat.pow_add, show a + (pl x + F) = E + mo + pl y by omega]
    exact hmain
  refine Nat.le_trans (Nat.mul_le_mul_right _ (sticky_le hnp hD)) ?_
  rw [← Nat.pow_add]
  exact Nat.pow_le_pow_right (by omega) (by omega)
end Go.Proofs.YtlemgjlnlegcgaaDoor.FL
