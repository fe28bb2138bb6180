/- Plain: a checker of straight float code by intervals. -/
import Derived.Test.YtlemgjlnlegcgaaDoorFm54
namespace Go.Proofs.YtlemgjlnlegcgaaDoor.FL
open Ieee

theorem div_mag {x y : Nat} (hx : Fnt x) (hy : Fnt y) (hn0 : 0 < V y) : ∃ r mag t k : Nat, k = 3000 ∧ double.div x y = some r ∧ r = double.nearest (sg x ^^ sg y) mag ((t : Int) - 3000) ∧
    (∀ R, V x * 2 ^ k ≤ VR R * V y → mag * 2 ^ t ≤ VR R) ∧ (∀ R, VR R * V y ≤ V x * 2 ^ k → VR R ≤ mag * 2 ^ t) := by
  have p1 := pl_ge x
  have p2 := pl_le hy
  have hmx := log2_lt53 (mg_lt x)
  have hmy := mg_lt y
  obtain ⟨m, hm⟩ : ∃ m, mg x = m := ⟨_, rfl⟩
  obtain ⟨n, hn⟩ : ∃ n, mg y = n := ⟨_, rfl⟩
  obtain ⟨i, hi⟩ : ∃ i, pl x = i := ⟨_, rfl⟩
  obtain ⟨j, hj⟩ : ∃ j, pl y = j := ⟨_, rfl⟩
  unfold V at hn0 ⊢
  unfold Format.div
  rw [read_fin hx, read_fin hy]
  rw [hm] at hmx ⊢
  rw [hn] at hmy hn0 ⊢
  rw [hi] at p1 ⊢
  rw [hj] at p2 hn0 ⊢
  have hnp : 0 < n := Nat.pos_of_mul_pos_right hn0
  have hmy2 := log2_lt53 hmy
  obtain ⟨mo, hmo⟩ : ∃ mo, 54 + n.log2 - m.log2 = mo := ⟨_, rfl⟩
  obtain ⟨t, ht⟩ : ∃ t : Nat, i + 2999 - j - mo = t := ⟨_, rfl⟩
  have hq : Datum.quotient (double.fractionBits + 2) (.number (sg x) m ((i : Int) - 3000)) (.number (sg y) n ((j : Int) - 3000)) = some (.number (sg x ^^ sg y) (2 * (m <<< mo / n) + (m <<< mo % n != 0).toNat) ((t : Int) - 3000)) := by
    show (if n = 0 then _ else _) = _
    rw [if_neg (by omega)]
    show some (Datum.number (sg x ^^ sg y) (2 * (m <<< (54 + n.log2 - m.log2) / n) + (m <<< (54 + n.log2 - m.log2) % n != 0).toNat) ((i : Int) - 3000 - ((j : Int) - 3000) - (54 + n.log2 - m.log2 : Nat) - 1)) = _
    rw [hmo]
    have e : (i : Int) - 3000 - ((j : Int) - 3000) - (mo : Nat) - 1 = (t : Int) - 3000 := by omega
    rw [e]
  rw [hq]
  refine ⟨_, _, t, 3000, rfl, rfl, rfl, ?_⟩
  obtain ⟨k, hk⟩ : ∃ k, 3000 = k := ⟨_, rfl⟩
  rw [hk, Nat.shiftLeft_eq]
  have hik : i + k = t + 1 + j + mo := by omega
  obtain ⟨D, hD⟩ : ∃ D, m * 2 ^ mo = D := ⟨_, rfl⟩
  rw [hD]
  have eD : m * 2 ^ i * 2 ^ k = D * 2 ^ (t + 1) * 2 ^ j := by
    rw [← hD, Nat.mul_assoc m, ← Nat.pow_add, hik, Nat.mul_assoc m, ← Nat.pow_add, Nat.mul_assoc m, ← Nat.pow_add]
    congr 2
    omega
  have hDn : m ≠ 0 → 2 ^ 53 * n < D := by
    intro hm0
    obtain ⟨l1, l2⟩ := log2_bounds hm0
    obtain ⟨k1, k2⟩ := log2_bounds (show n ≠ 0 by omega)
    rw [← hD]
    refine Nat.lt_of_lt_of_le (Nat.mul_lt_mul_of_pos_left k2 (Nat.two_pow_pos _)) ?_
    refine Nat.le_trans ?_ (Nat.mul_le_mul_right _ l1)
    rw [← Nat.pow_add, ← Nat.pow_add]
    exact Nat.pow_le_pow_right (by omega) (by omega)
  have hVR : ∀ R, ∃ M p, VR R = M * 2 ^ p ∧ M < 2 ^ 53 := by
    intro R
    by_cases hs : R < 2 ^ 52
    · obtain ⟨c, _, h⟩ := VR_sub hs
      exact ⟨R, c, h, by omega⟩
    · obtain ⟨c, _, h⟩ := VR_nor hs
      exact ⟨_, c, h, by have : R % 2 ^ 52 < 2 ^ 52 := Nat.mod_lt _ (by decide); omega⟩
  have hjp := Nat.two_pow_pos j
  refine ⟨fun R h => ?_, fun R h => ?_⟩
  · obtain ⟨M, p, hM, hM2⟩ := hVR R
    rw [hM] at h ⊢
    rw [eD] at h
    have h1 : D * 2 ^ (t + 1) ≤ M * 2 ^ p * n := by
      refine Nat.le_of_mul_le_mul_right ?_ hjp
      rw [Nat.mul_assoc (M * 2 ^ p)]
      exact h
    by_cases hm0 : m = 0
    · have hD0 : D = 0 := by rw [← hD, hm0, Nat.zero_mul]
      rw [hD0]
      simp
    by_cases hp : t + 1 ≤ p
    · have h2 : D ≤ M * 2 ^ (p - (t + 1)) * n := by
        refine Nat.le_of_mul_le_mul_right ?_ (Nat.two_pow_pos (t + 1))
        refine Nat.le_trans h1 (Nat.le_of_eq ?_)
        rw [pow_split p (t + 1) hp]
        ac_rfl
      obtain ⟨T, hT⟩ : ∃ T, M * 2 ^ (p - (t + 1)) = T := ⟨_, rfl⟩
      rw [hT] at h2
      have h3 : 2 * (D / n) + (D % n != 0).toNat ≤ 2 * T := by
        have h4 : D / n ≤ T := by
          rw [Nat.div_le_iff_le_mul_add_pred hnp]
          rw [Nat.mul_comm] at h2
          omega
        by_cases he : D / n = T
        · have h5 := Nat.div_add_mod D n
          rw [he, Nat.mul_comm] at h5
          have h6 : D % n = 0 := by omega
          rw [he, h6]
          simp
        · have : (D % n != 0).toNat ≤ 1 := by cases (D % n != 0) <;> simp
          omega
      refine Nat.le_trans (Nat.mul_le_mul_right _ h3) (Nat.le_of_eq ?_)
      rw [← hT, pow_split p (t + 1) hp, Nat.pow_succ]
      ac_rfl
    · exfalso
      have h2 := hDn hm0
      have h3 : M * 2 ^ p * n < D * 2 ^ (t + 1) := by
        have a : M * 2 ^ p * n ≤ 2 ^ 53 * n * 2 ^ p := by
          have : M * 2 ^ p * n = M * n * 2 ^ p := by ac_rfl
          rw [this]
          exact Nat.mul_le_mul_right _ (Nat.mul_le_mul_right _ (by omega))
        have b : 2 ^ 53 * n * 2 ^ p < D * 2 ^ p := Nat.mul_lt_mul_of_pos_right h2 (Nat.two_pow_pos _)
        have c : D * 2 ^ p ≤ D * 2 ^ (t + 1) := Nat.mul_le_mul_left _ (Nat.pow_le_pow_right (by omega) (by omega))
        omega
      omega
  · obtain ⟨M, p, hM, hM2⟩ := hVR R
    rw [hM] at h ⊢
    rw [eD] at h
    have h1 : M * 2 ^ p * n ≤ D * 2 ^ (t + 1) := by
      refine Nat.le_of_mul_le_mul_right ?_ hjp
      rw [Nat.mul_assoc (M * 2 ^ p)]
      exact h
    by_cases hm0 : m = 0
    · have hD0 : D = 0 := by rw [← hD, hm0, Nat.zero_mul]
      rw [hD0, Nat.zero_mul] at h1
      have : M * 2 ^ p = 0 := by
        rcases Nat.mul_eq_zero.1 (Nat.le_zero.1 h1) with h | h
        · exact h
        · omega
      rw [this]
      exact Nat.zero_le _
    by_cases hp : t + 1 ≤ p
    · have h2 : M * 2 ^ (p - (t + 1)) * n ≤ D := by
        refine Nat.le_of_mul_le_mul_right ?_ (Nat.two_pow_pos (t + 1))
        refine Nat.le_trans (Nat.le_of_eq ?_) h1
        rw [pow_split p (t + 1) hp]
        ac_rfl
      have h3 : M * 2 ^ (p - (t + 1)) ≤ D / n := by
        rw [Nat.le_div_iff_mul_le hnp]
        exact h2
      have h4 : M * 2 ^ p = 2 * (M * 2 ^ (p - (t + 1))) * 2 ^ t := by
        rw [pow_split p (t + 1) hp, Nat.pow_succ]
        ac_rfl
      rw [h4]
      exact Nat.mul_le_mul_right _ (by omega)
    · have h2 := hDn hm0
      have h3 : 2 ^ 53 ≤ D / n := by
        rw [Nat.le_div_iff_mul_le hnp]
        omega
      have a : M * 2 ^ p ≤ 2 ^ 53 * 2 ^ p := Nat.mul_le_mul_right _ (by omega)
      have b : 2 ^ 53 * 2 ^ p ≤ 2 ^ 53 * 2 ^ t := Nat.mul_le_mul_left _ (Nat.pow_le_pow_right (by omega) (by omega))
      have c : 2 ^ 53 * 2 ^ t ≤ (2 * (D / n) + (D % n != 0).toNat) * 2 ^ t := Nat.mul_le_mul_right _ (by omega)
      omega
theorem nm (a b : Int) : -a * b = -(a * b) := Int.neg_mul _ _
theorem div_in {x y lo hi k : Nat} (hk3 : k = 3000) (hx : Fnt x) (hy : Fnt y) (hy0 : 0 < SV y) (flo : Fnt lo) (fhi : Fnt hi)
    (h1 : SV lo * SV y ≤ SV x * ((2 ^ k : Nat) : Int)) (h2 : SV x * ((2 ^ k : Nat) : Int) ≤ SV hi * SV y) : ∃ r, double.div x y = some r ∧ In lo hi r := by
  have sy : sg y = false := by
    cases e : sg y
    · rfl
    · rw [SV_neg e] at hy0; omega
  rw [SV_pos sy] at hy0 h1 h2
  obtain ⟨r, mag, t, k', hk', hd, hr, hle, hge⟩ := div_mag hx hy (by omega)
  obtain rfl : k' = k := by omega
  clear hk3 hk'
  have hp : 0 < 2 ^ k' := Nat.two_pow_pos k'
  obtain ⟨K, hK⟩ : ∃ K, 2 ^ k' = K := ⟨_, rfl⟩
  rw [hK] at hp h1 h2 hle hge
  have h64 : r < 2 ^ 64 := by rw [hr]; exact near_lt64 _ _ _
  have hsg : sg r = sg x := by rw [hr, sy]; rw [show (sg x ^^ false) = sg x by cases sg x <;> rfl]; exact near_sign _
  have nn : ∀ a b : Nat, (0 : Int) ≤ (a : Int) * (b : Int) := fun a b => Int.mul_nonneg (by omega) (by omega)
  have cst : ∀ a b : Nat, (a : Int) * (b : Int) = ((a * b : Nat) : Int) := fun a b => by push_cast; rfl
  refine ⟨r, hd, h64, ?_⟩
  cases sx : sg x
  · rw [SV_pos sx] at h1 h2
    rw [sx] at hsg
    by_cases hv : V x = 0
    · have hm0 : rung r = 0 := by
        have : rung r ≤ 0 := by
          rw [hr]
          refine near_le_R _ (hle 0 ?_) (by omega)
          rw [hv, Nat.zero_mul]; exact Nat.zero_le _
        omega
      have hr0 : V r = 0 := rung_zero_V hm0
      rw [hv] at h1 h2
      refine ⟨by unfold Fnt; omega, ?_, ?_⟩
      · rw [SV_pos hsg, hr0]
        rcases Int.lt_or_le 0 (SV lo) with h | h
        · have := Int.mul_pos h (show (0 : Int) < V y by omega); omega
        · exact h
      · rw [SV_pos hsg, hr0]
        rcases Int.lt_or_le (SV hi) 0 with h | h
        · have := Int.mul_neg_of_neg_of_pos h (show (0 : Int) < V y by omega); omega
        · exact h
    have hxk : 0 < V x * K := Nat.mul_pos (by omega) hp
    have s1 : sg hi = false := by
      cases e : sg hi
      · rfl
      · exfalso
        rw [SV_neg e, nm] at h2
        have := nn (V hi) (V y)
        rw [cst] at h2
        omega
    rw [SV_pos s1, cst, cst] at h2
    have hrl : rung r ≤ rung hi := by
      rw [hr]
      exact near_le_R _ (hle _ (by rw [← V_rung]; omega)) fhi
    refine ⟨Nat.lt_of_le_of_lt hrl fhi, ?_, ?_⟩
    · rw [SV_pos hsg]
      cases e : sg lo
      · rw [SV_pos e, cst, cst] at h1
        rw [SV_pos e]
        have hrh : rung lo ≤ rung r := by
          rw [hr]
          exact near_ge_R _ (hge _ (by rw [← V_rung]; omega)) flo
        have := V_mono hrh
        omega
      · rw [SV_neg e]; omega
    · rw [SV_pos s1, SV_pos hsg]
      have := V_mono hrl
      omega
  · rw [SV_neg sx, nm] at h1 h2
    rw [sx] at hsg
    by_cases hv : V x = 0
    · have hm0 : rung r = 0 := by
        have : rung r ≤ 0 := by
          rw [hr]
          refine near_le_R _ (hle 0 ?_) (by omega)
          rw [hv, Nat.zero_mul]; exact Nat.zero_le _
        omega
      have hr0 : V r = 0 := rung_zero_V hm0
      rw [hv] at h1 h2
      refine ⟨by unfold Fnt; omega, ?_, ?_⟩
      · rw [SV_neg hsg, hr0]
        rcases Int.lt_or_le 0 (SV lo) with h | h
        · have := Int.mul_pos h (show (0 : Int) < V y by omega); omega
        · omega
      · rw [SV_neg hsg, hr0]
        rcases Int.lt_or_le (SV hi) 0 with h | h
        · have := Int.mul_neg_of_neg_of_pos h (show (0 : Int) < V y by omega); omega
        · omega
    have hxk : 0 < V x * K := Nat.mul_pos (by omega) hp
    have s1 : sg lo = true := by
      cases e : sg lo
      · exfalso
        rw [SV_pos e, cst] at h1
        have := nn (V lo) (V y)
        rw [cst] at h1
        omega
      · rfl
    rw [SV_neg s1, nm, cst, cst] at h1
    have hrl : rung r ≤ rung lo := by
      rw [hr]
      exact near_le_R _ (hle _ (by rw [← V_rung]; omega)) flo
    refine ⟨Nat.lt_of_le_of_lt hrl flo, ?_, ?_⟩
    · rw [SV_neg s1, SV_neg hsg]
      have := V_mono hrl
      omega
    · rw [SV_neg hsg]
      cases e : sg hi
      · rw [SV_pos e]; omega
      · rw [SV_neg e, nm, cst, cst] at h2
        rw [SV_neg e]
        have hrh : rung hi ≤ rung r := by
          rw [hr]
          exact near_ge_R _ (hge _ (by rw [← V_rung]; omega)) fhi
        have := V_mono hrh
        omega
/-- A word's value times another: between the four corners. -/
theorem mul_corner_lo {a b x y m : Int} (h1 : a ≤ x) (h2 : x ≤ b) (ha : m ≤ a * y) (hb : m ≤ b * y) : m ≤ x * y := by
  rcases Int.lt_or_le y 0 with h | h
  · have := Int.mul_le_mul_of_nonpos_right h2 (show y ≤ 0 by omega)
    omega
  · have := Int.mul_le_mul_of_nonneg_right h1 h
    omega
theorem mul_corner_hi {a b x y m : Int} (h1 : a ≤ x) (h2 : x ≤ b) (ha : a * y ≤ m) (hb : b * y ≤ m) : x * y ≤ m := by
  rcases Int.lt_or_le y 0 with h | h
  · have := Int.mul_le_mul_of_nonpos_right h1 (show y ≤ 0 by omega)
    omega
  · have := Int.mul_le_mul_of_nonneg_right h2 h
    omega
theorem mul_four_lo {a b c d x y m : Int} (h1 : a ≤ x) (h2 : x ≤ b) (h3 : c ≤ y) (h4 : y ≤ d) (e1 : m ≤ a * c) (e2 : m ≤ a * d) (e3 : m ≤ b * c) (e4 : m ≤ b * d) : m ≤ x * y := by
  refine mul_corner_lo h1 h2 ?_ ?_
  · rw [Int.mul_comm]
    exact mul_corner_lo h3 h4 (by rw [Int.mul_comm]; exact e1) (by rw [Int.mul_comm]; exact e2)
  · rw [Int.mul_comm]
    exact mul_corner_lo h3 h4 (by rw [Int.mul_comm]; exact e3) (by rw [Int.mul_comm]; exact e4)
theorem mul_four_hi {a b c d x y m : Int} (h1 : a ≤ x) (h2 : x ≤ b) (h3 : c ≤ y) (h4 : y ≤ d) (e1 : a * c ≤ m) (e2 : a * d ≤ m) (e3 : b * c ≤ m) (e4 : b * d ≤ m) : x * y ≤ m := by
  refine mul_corner_hi h1 h2 ?_ ?_
  · rw [Int.mul_comm]
    exact mul_corner_hi h3 h4 (by rw [Int.mul_comm]; exact e1) (by rw [Int.mul_comm]; exact e2)
  · rw [Int.mul_comm]
    exact mul_corner_hi h3 h4 (by rw [Int.mul_comm]; exact e3) (by rw [Int.mul_comm]; exact e4)

/-- Straight code: an operation (0 +, 1 -, 2 *, 3 /, 4 the first operand's opposite), its operands (an earlier result or a word). -/
def argv (env : List Nat) : Sum Nat Nat → Nat
  | .inl i => env.getD i 0
  | .inr c => c
def negw (x : Nat) : Nat := x ^^^ 2 ^ 63
def fop : Nat → Nat → Nat → Option Nat
  | 0, x, y => double.add x y
  | 1, x, y => double.sub x y
  | 2, x, y => double.mul x y
  | 3, x, y => double.div x y
  | _, x, _ => some (negw x)
def Runs : List (Nat × Sum Nat Nat × Sum Nat Nat) → List Nat → (List Nat → Prop) → Prop
  | [], env, Q => Q env
  | (o, a, b) :: is, env, Q => ∃ r, fop o (argv env a) (argv env b) = some r ∧ Runs is (r :: env) Q
theorem Runs.mono : ∀ {is : List (Nat × Sum Nat Nat × Sum Nat Nat)} {env : List Nat} {Q Q' : List Nat → Prop}, Runs is env Q → (∀ e, Q e → Q' e) → Runs is env Q'
  | [], _, _, _, h, hq => hq _ h
  | (_, _, _) :: _, _, _, _, ⟨r, hr, h⟩, hq => ⟨r, hr, h.mono hq⟩
theorem Runs.append : ∀ {is js : List (Nat × Sum Nat Nat × Sum Nat Nat)} {env : List Nat} {Q : List Nat → Prop}, Runs is env (fun e => Runs js e Q) → Runs (is ++ js) env Q
  | [], _, _, _, h => h
  | (_, _, _) :: _, _, _, _, ⟨r, hr, h⟩ => ⟨r, hr, h.append⟩
def argi (ivs : List (Nat × Nat)) : Sum Nat Nat → Nat × Nat
  | .inl i => ivs.getD i (0, 0)
  | .inr c => (c, c)
def finb (x : Nat) : Bool := decide (x < 2 ^ 64) && decide (rung x < 2047 * 2 ^ 52)
def cok : Sum Nat Nat → Bool
  | .inl _ => true
  | .inr c => finb c
def same : Sum Nat Nat → Sum Nat Nat → Bool
  | .inl i, .inl j => i == j
  | _, _ => false
def UK : Int := ((2 ^ 3000 : Nat) : Int)
def opOk : Nat → Bool → Int → Int → Int → Int → Int → Int → Bool
  | 0, _, a, b, c, d, lo, hi => decide (lo ≤ a + c) && decide (b + d ≤ hi)
  | 1, _, a, b, c, d, lo, hi => decide (lo ≤ a - d) && decide (b - c ≤ hi)
  | 2, false, a, b, c, d, lo, hi => decide (lo * UK ≤ a * c) && decide (lo * UK ≤ a * d) && decide (lo * UK ≤ b * c) && decide (lo * UK ≤ b * d) && decide (a * c ≤ hi * UK) && decide (a * d ≤ hi * UK) && decide (b * c ≤ hi * UK) && decide (b * d ≤ hi * UK)
  | 2, true, a, b, _, _, lo, hi => decide (lo ≤ 0) && decide (a * b ≤ hi * UK) && decide (a * a ≤ hi * UK) && decide (b * b ≤ hi * UK)
  | 3, _, a, b, c, d, lo, hi => decide (0 < c) && decide (lo * c ≤ a * UK) && decide (lo * d ≤ a * UK) && decide (b * UK ≤ hi * c) && decide (b * UK ≤ hi * d)
  | _, _, a, b, _, _, lo, hi => decide (lo ≤ -b) && decide (-a ≤ hi)
/-- The next word below, the next above. -/
def dnw (w : Nat) : Nat := if 2 ^ 63 ≤ w then w + 1 else if w = 0 then 2 ^ 63 + 1 else w - 1
def upw (w : Nat) : Nat := if w < 2 ^ 63 then w + 1 else if w = 2 ^ 63 then 1 else w - 1
def gd (x : Option Nat) : Nat := x.getD 0
/-- Bounds of a result that are likely right: each is looked at afterwards. -/
def least (a b : Nat × Int) : Nat × Int := if a.2 ≤ b.2 then a else b
def most (a b : Nat × Int) : Nat × Int := if a.2 ≤ b.2 then b else a
def fixLo (c : Nat) (ok : Int → Bool) : Nat := if ok (SV c) then c else dnw c
def fixHi (c : Nat) (ok : Int → Bool) : Nat := if ok (SV c) then c else upw c
def prod (x y : Nat) : Nat × Int := (gd (double.mul x y), SV x * SV y)
def cand : Nat → Bool → Nat × Nat → Nat × Nat → Nat × Nat
  | 0, _, A, B => (fixLo (gd (double.add A.1 B.1)) fun l => decide (l ≤ SV A.1 + SV B.1), fixHi (gd (double.add A.2 B.2)) fun h => decide (SV A.2 + SV B.2 ≤ h))
  | 1, _, A, B => (fixLo (gd (double.sub A.1 B.2)) fun l => decide (l ≤ SV A.1 - SV B.2), fixHi (gd (double.sub A.2 B.1)) fun h => decide (SV A.2 - SV B.1 ≤ h))
  | 2, s, A, B =>
    let p := prod A.1 B.1
    let q := prod A.1 B.2
    let r := prod A.2 B.1
    let t := prod A.2 B.2
    let l := least (least p q) (least r t)
    let m := most (most p q) (most r t)
    (if s && decide (l.2 < 0) then 0 else fixLo l.1 fun x => decide (x * UK ≤ l.2), fixHi m.1 fun x => decide (m.2 ≤ x * UK))
  | 3, _, A, B =>
    let b := if 0 ≤ SV A.1 then B.2 else B.1
    let c := if 0 ≤ SV A.2 then B.1 else B.2
    (fixLo (gd (double.div A.1 b)) fun x => decide (x * SV b ≤ SV A.1 * UK), fixHi (gd (double.div A.2 c)) fun x => decide (SV A.2 * UK ≤ x * SV c))
  | _, _, A, _ => (negw A.2, negw A.1)
def auto : List (Nat × Sum Nat Nat × Sum Nat Nat) → List (Nat × Nat) → Option (List (Nat × Nat))
  | [], ivs => some ivs
  | (o, a, b) :: is, ivs =>
    let A := argi ivs a
    let B := argi ivs b
    let s := same a b
    let c := cand o s A B
    if finb c.1 && finb c.2 && cok a && cok b && opOk o (s && decide (SV c.1 ≤ 0)) (SV A.1) (SV A.2) (SV B.1) (SV B.2) (SV c.1) (SV c.2) then auto is (c :: ivs) else none
def Ins : List Nat → List (Nat × Nat) → Prop
  | [], [] => True
  | x :: xs, i :: is => In i.1 i.2 x ∧ Ins xs is
  | _, _ => False
theorem fin_of {x : Nat} (h : finb x = true) : x < 2 ^ 64 ∧ Fnt x := by
  unfold finb at h
  rw [Bool.and_eq_true] at h
  exact ⟨of_decide_eq_true h.1, (of_decide_eq_true h.2 : rung x < 2047 * 2 ^ 52)⟩
theorem zero_fin : In 0 0 0 := ⟨by decide, by unfold Fnt rung; decide, Int.le_refl _, Int.le_refl _⟩
theorem arg_in : ∀ {env : List Nat} {ivs : List (Nat × Nat)}, Ins env ivs → ∀ a, cok a = true → In (argi ivs a).1 (argi ivs a).2 (argv env a)
  | _, _, _, .inr c, hc => by
    obtain ⟨h1, h2⟩ := fin_of (x := c) hc
    exact ⟨h1, h2, Int.le_refl _, Int.le_refl _⟩
  | [], [], _, .inl i, _ => zero_fin
  | [], _ :: _, h, .inl _, _ => h.elim
  | _ :: _, [], h, .inl _, _ => h.elim
  | _ :: _, _ :: _, h, .inl 0, _ => h.1
  | _ :: _, _ :: _, h, .inl (i + 1), _ => arg_in h.2 (.inl i) rfl
theorem UK_eq : ∃ k, k = 3000 ∧ UK = ((2 ^ k : Nat) : Int) := ⟨_, rfl, rfl⟩
theorem xor_sign (x : Nat) (h : x < 2 ^ 64) : (x < 2 ^ 63 ∧ negw x = x + 2 ^ 63) ∨ (2 ^ 63 ≤ x ∧ negw x = x - 2 ^ 63) := by
  unfold negw
  rcases Nat.lt_or_ge x (2 ^ 63) with h' | h'
  · refine .inl ⟨h', ?_⟩
    have := Nat.two_pow_add_eq_or_of_lt (i := 63) (b := x) h' 1
    rw [Nat.mul_one] at this
    rw [Nat.add_comm, this]
    apply Nat.eq_of_testBit_eq
    intro i
    rw [Nat.testBit_xor, Nat.testBit_or, Nat.testBit_two_pow]
    by_cases hi : 63 = i
    · subst hi
      rw [Nat.testBit_lt_two_pow h']
      rfl
    · simp [hi]
  · refine .inr ⟨h', ?_⟩
    obtain ⟨y, rfl⟩ : ∃ y, x = 2 ^ 63 + y := ⟨x - 2 ^ 63, by omega⟩
    have hy : y < 2 ^ 63 := by omega
    have := Nat.two_pow_add_eq_or_of_lt (i := 63) (b := y) hy 1
    rw [Nat.mul_one] at this
    rw [this]
    rw [← this, Nat.add_sub_cancel_left, this]
    apply Nat.eq_of_testBit_eq
    intro i
    rw [Nat.testBit_xor, Nat.testBit_or, Nat.testBit_two_pow]
    by_cases hi : 63 = i
    · subst hi
      rw [Nat.testBit_lt_two_pow hy]
      rfl
    · simp [hi]
theorem negw_facts (x : Nat) (h : x < 2 ^ 64) : negw x < 2 ^ 64 ∧ rung (negw x) = rung x ∧ sg (negw x) = !sg x := by
  unfold rung sg
  rcases xor_sign x h with ⟨h1, h2⟩ | ⟨h1, h2⟩
  · rw [h2]
    refine ⟨by omega, by omega, ?_⟩
    have a : (x + 2 ^ 63) / 2 ^ 63 % 2 = 1 := by omega
    have b : x / 2 ^ 63 % 2 = 0 := by omega
    rw [a, b]; rfl
  · rw [h2]
    refine ⟨by omega, by omega, ?_⟩
    have a : (x - 2 ^ 63) / 2 ^ 63 % 2 = 0 := by omega
    have b : x / 2 ^ 63 % 2 = 1 := by omega
    rw [a, b]; rfl
theorem SV_negw (x : Nat) (h : x < 2 ^ 64) : SV (negw x) = -SV x := by
  obtain ⟨_, h2, h3⟩ := negw_facts x h
  have hv : V (negw x) = V x := by rw [V_rung, V_rung, h2]
  cases e : sg x
  · rw [e] at h3
    rw [SV_neg h3, SV_pos e, hv]
  · rw [e] at h3
    rw [SV_pos h3, SV_neg e, hv]
    omega
theorem op_ok {o : Nat} {s : Bool} {x y a b c d lo hi : Nat} (h : opOk o (s && decide (SV lo ≤ 0)) (SV a) (SV b) (SV c) (SV d) (SV lo) (SV hi) = true) (hs : s = true → x = y ∧ a = c ∧ b = d) (flo : Fnt lo) (fhi : Fnt hi) (hx : In a b x) (hy : In c d y) : ∃ r, fop o x y = some r ∧ In lo hi r := by
  obtain ⟨x64, fx, x1, x2⟩ := hx
  obtain ⟨_, fy, y1, y2⟩ := hy
  obtain ⟨k, hk, hUK⟩ := UK_eq
  match o, h with
  | 0, h =>
    have h : (decide (SV lo ≤ SV a + SV c) && decide (SV b + SV d ≤ SV hi)) = true := h
    rw [Bool.and_eq_true, decide_eq_true_eq, decide_eq_true_eq] at h
    obtain ⟨r, hr, hz⟩ := add_rnd fx fy
    refine ⟨r, hr, rnk_in hz.rnk flo fhi ?_ ?_⟩
    · rw [Nat.pow_zero]; omega
    · rw [Nat.pow_zero]; omega
  | 1, h =>
    have h : (decide (SV lo ≤ SV a - SV d) && decide (SV b - SV c ≤ SV hi)) = true := h
    rw [Bool.and_eq_true, decide_eq_true_eq, decide_eq_true_eq] at h
    obtain ⟨r, hr, hz⟩ := sub_rnd fx fy
    refine ⟨r, hr, rnk_in hz.rnk flo fhi ?_ ?_⟩
    · rw [Nat.pow_zero]; omega
    · rw [Nat.pow_zero]; omega
  | 2, h =>
    obtain ⟨r, k', hk', hr, hz⟩ := mul_rnk fx fy
    obtain rfl : k' = k := by omega
    refine ⟨r, hr, ?_⟩
    cases hq : (s && decide (SV lo ≤ 0))
    · rw [hq] at h
      have h : (decide (SV lo * UK ≤ SV a * SV c) && decide (SV lo * UK ≤ SV a * SV d) && decide (SV lo * UK ≤ SV b * SV c) && decide (SV lo * UK ≤ SV b * SV d) && decide (SV a * SV c ≤ SV hi * UK) && decide (SV a * SV d ≤ SV hi * UK) && decide (SV b * SV c ≤ SV hi * UK) && decide (SV b * SV d ≤ SV hi * UK)) = true := h
      simp only [Bool.and_eq_true, decide_eq_true_eq, hUK] at h
      obtain ⟨⟨⟨⟨⟨⟨⟨h1, h2⟩, h3⟩, h4⟩, h5⟩, h6⟩, h7⟩, h8⟩ := h
      exact rnk_in hz flo fhi (mul_four_lo x1 x2 y1 y2 h1 h2 h3 h4) (mul_four_hi x1 x2 y1 y2 h5 h6 h7 h8)
    · rw [hq] at h
      rw [Bool.and_eq_true, decide_eq_true_eq] at hq
      obtain ⟨rfl, rfl, rfl⟩ := hs hq.1
      have h : (decide (SV lo ≤ 0) && decide (SV a * SV b ≤ SV hi * UK) && decide (SV a * SV a ≤ SV hi * UK) && decide (SV b * SV b ≤ SV hi * UK)) = true := h
      simp only [Bool.and_eq_true, decide_eq_true_eq, hUK] at h
      obtain ⟨⟨⟨h1, h2⟩, h3⟩, h4⟩ := h
      refine rnk_in hz flo fhi ?_ (mul_four_hi x1 x2 y1 y2 h3 h2 (by rw [Int.mul_comm]; exact h2) h4)
      have e1 : SV lo * ((2 ^ k' : Nat) : Int) ≤ 0 := Int.mul_nonpos_of_nonpos_of_nonneg h1 (Int.natCast_nonneg _)
      have e2 : 0 ≤ SV x * SV x := by
        rcases Int.lt_or_le (SV x) 0 with h | h
        · exact Int.le_of_lt (Int.mul_pos_of_neg_of_neg h h)
        · exact Int.mul_nonneg h h
      omega
  | o + 4, h =>
    have h : (decide (SV lo ≤ -SV b) && decide (-SV a ≤ SV hi)) = true := h
    rw [Bool.and_eq_true, decide_eq_true_eq, decide_eq_true_eq] at h
    obtain ⟨n1, n2, _⟩ := negw_facts x x64
    have n3 := SV_negw x x64
    exact ⟨_, rfl, n1, by unfold Fnt at fx ⊢; omega, by omega, by omega⟩
  | 3, h =>
    have h : (decide (0 < SV c) && decide (SV lo * SV c ≤ SV a * UK) && decide (SV lo * SV d ≤ SV a * UK) && decide (SV b * UK ≤ SV hi * SV c) && decide (SV b * UK ≤ SV hi * SV d)) = true := h
    simp only [Bool.and_eq_true, decide_eq_true_eq, hUK] at h
    obtain ⟨⟨⟨⟨h0, h1⟩, h2⟩, h3⟩, h4⟩ := h
    have hK : (0 : Int) ≤ ((2 ^ k : Nat) : Int) := Int.natCast_nonneg _
    have hxa := Int.mul_le_mul_of_nonneg_right x1 hK
    have hxb := Int.mul_le_mul_of_nonneg_right x2 hK
    refine div_in hk fx fy (by omega) flo fhi ?_ ?_
    · have := mul_corner_hi (y := SV lo) y1 y2 (m := SV a * ((2 ^ k : Nat) : Int)) (by rw [Int.mul_comm (SV c)]; exact h1) (by rw [Int.mul_comm (SV d)]; exact h2)
      rw [Int.mul_comm (SV lo)]
      omega
    · have := mul_corner_lo (y := SV hi) y1 y2 (m := SV b * ((2 ^ k : Nat) : Int)) (by rw [Int.mul_comm (SV c)]; exact h3) (by rw [Int.mul_comm (SV d)]; exact h4)
      rw [Int.mul_comm (SV hi)]
      omega
theorem same_of {a b : Sum Nat Nat} (h : same a b = true) : a = b := by
  unfold same at h
  split at h
  · rw [beq_iff_eq] at h; rw [h]
  · cases h
theorem auto_ok : ∀ (is : List (Nat × Sum Nat Nat × Sum Nat Nat)) {env : List Nat} {ivs out : List (Nat × Nat)}, auto is ivs = some out → Ins env ivs → Runs is env fun env' => Ins env' out
  | [], _, _, _, h, hi => by
    cases h
    exact hi
  | (o, a, b) :: is, env, ivs, out, h, hi => by
    unfold auto at h
    simp only at h
    obtain ⟨c, hc⟩ : ∃ c, cand o (same a b) (argi ivs a) (argi ivs b) = c := ⟨_, rfl⟩
    rw [hc] at h
    split at h
    · rename_i hok
      simp only [Bool.and_eq_true] at hok
      obtain ⟨⟨⟨⟨h1, h2⟩, h3⟩, h4⟩, h5⟩ := hok
      obtain ⟨l1, l2⟩ := fin_of h1
      obtain ⟨k1, k2⟩ := fin_of h2
      obtain ⟨r, hr, hir⟩ := op_ok (x := argv env a) (y := argv env b) h5 (fun e => by rw [same_of e]; exact ⟨rfl, rfl, rfl⟩) l2 k2 (arg_in hi a h3) (arg_in hi b h4)
      exact ⟨r, hr, auto_ok is h ⟨hir, hi⟩⟩
    · cases h
end Go.Proofs.YtlemgjlnlegcgaaDoor.FL
