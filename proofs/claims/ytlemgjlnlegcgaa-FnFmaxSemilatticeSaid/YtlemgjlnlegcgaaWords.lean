/- Plain laws on float64 words: NaN, sign, key; max, min, negation and the law's own sameness in terms of the key. -/
import Derived.Test.YtlemgjlnlegcgaaPlain
namespace Go.Proofs.Ytlemgjlnlegcgaa
open Ieee

def rd (x : Nat) : Datum := FloatKind.f64.decode x
def ord (x y : Nat) : Option Ordering := FloatKind.f64.format.order x y
theorem ord_rd (x y : Nat) : ord x y = (rd x).order (rd y) := rfl

theorem rd_def (x : Nat) : rd x = (
    if x % 9223372036854775808 < 4503599627370496 then .number (x / 9223372036854775808 % 2 == 1) (x % 9223372036854775808) (-1074)
    else if x % 9223372036854775808 < 9218868437227405312 then .number (x / 9223372036854775808 % 2 == 1) (4503599627370496 + x % 9223372036854775808 % 4503599627370496) (-1074 + (x % 9223372036854775808 / 4503599627370496 - 1 : Nat))
    else if x % 9223372036854775808 = 9218868437227405312 then .infinity (x / 9223372036854775808 % 2 == 1)
    else .nan (x / 9223372036854775808 % 2 == 1) (x % 9223372036854775808 - 9218868437227405312)) := rfl

def nanB (x : Nat) : Bool := ord x x != some .eq

theorem good_or (x : Nat) : Good (rd x) ∨ ∃ s t, rd x = .nan s t := by
  rw [rd_def]
  split
  · refine .inl ⟨by omega, by omega, ?_⟩
    omega
  · split
    · refine .inl ⟨by omega, by omega, ?_⟩
      omega
    · split
      · exact .inl trivial
      · exact .inr ⟨_, _, rfl⟩

theorem good_of (x : Nat) (h : nanB x = false) : Good (rd x) := by
  rcases good_or x with h1 | ⟨s, t, h1⟩
  · exact h1
  · unfold nanB at h
    rw [ord_rd, h1] at h
    simp [Datum.order] at h
theorem nan_of (x : Nat) (h : nanB x = true) : ∃ s t, rd x = .nan s t := by
  rcases good_or x with h1 | h1
  · unfold nanB at h
    rw [ord_rd, order_val _ _ h1 h1] at h
    simp at h
  · exact h1

def negB (x : Nat) : Bool := (rd x).neg
def key (x : Nat) : Int := 2 * val (rd x) + (if negB x then 0 else 1)

theorem ord_key (x y : Nat) (hx : nanB x = false) (hy : nanB y = false) : ord x y = some (compare (val (rd x)) (val (rd y))) := by
  rw [ord_rd]; exact order_val _ _ (good_of x hx) (good_of y hy)

def maxW (x y : Nat) : Nat := match ord x y with
  | some .lt => y
  | some .gt => x
  | _ => if negB x then y else x
def minW (x y : Nat) : Nat := match ord x y with
  | some .lt => x
  | some .gt => y
  | _ => if negB x then x else y

theorem max_pick (x y : Nat) : maxW x y = x ∨ maxW x y = y := by
  unfold maxW; split
  · exact .inr rfl
  · exact .inl rfl
  · split
    · exact .inr rfl
    · exact .inl rfl
theorem min_pick (x y : Nat) : minW x y = x ∨ minW x y = y := by
  unfold minW; split
  · exact .inl rfl
  · exact .inr rfl
  · split
    · exact .inl rfl
    · exact .inr rfl

theorem max_key (x y : Nat) (hx : nanB x = false) (hy : nanB y = false) : key (maxW x y) = max (key x) (key y) := by
  unfold maxW
  rw [ord_key x y hx hy]
  unfold key
  rcases Int.lt_trichotomy (val (rd x)) (val (rd y)) with h | h | h
  · rw [Int.compare_eq_lt.2 h]
    simp only
    cases negB x <;> cases negB y <;> simp <;> omega
  · rw [Int.compare_eq_eq.2 h]
    simp only
    cases hn : negB x <;> simp only [Bool.false_eq_true, if_false, if_true, hn] <;> cases negB y <;> simp <;> omega
  · rw [Int.compare_eq_gt.2 h]
    simp only
    cases negB x <;> cases negB y <;> simp <;> omega
theorem min_key (x y : Nat) (hx : nanB x = false) (hy : nanB y = false) : key (minW x y) = min (key x) (key y) := by
  unfold minW
  rw [ord_key x y hx hy]
  unfold key
  rcases Int.lt_trichotomy (val (rd x)) (val (rd y)) with h | h | h
  · rw [Int.compare_eq_lt.2 h]
    simp only
    cases negB x <;> cases negB y <;> simp <;> omega
  · rw [Int.compare_eq_eq.2 h]
    simp only
    cases hn : negB x <;> simp only [Bool.false_eq_true, if_false, if_true, hn] <;> cases negB y <;> simp <;> omega
  · rw [Int.compare_eq_gt.2 h]
    simp only
    cases negB x <;> cases negB y <;> simp <;> omega

theorem key_eq (x y : Nat) (hx : nanB x = false) (hy : nanB y = false) (h : key x = key y) : ord x y = some .eq ∧ negB x = negB y := by
  unfold key at h
  have e : val (rd x) = val (rd y) ∧ negB x = negB y := by
    cases h1 : negB x <;> cases h2 : negB y <;> rw [h1, h2] at h <;> simp at h <;> constructor <;> first | rfl | omega
  refine ⟨?_, e.2⟩
  rw [ord_key x y hx hy, e.1]
  simp

/-- The negation of a word. -/
def negW (x : Nat) : Nat := Op.negFloat .f64 x
theorem negW_def (x : Nat) : negW x = x ^^^ 2 ^ 63 := rfl
theorem negW_mod (x : Nat) : negW x % 9223372036854775808 = x % 9223372036854775808 := by
  rw [negW_def, show (9223372036854775808 : Nat) = 2 ^ 63 from rfl, Nat.xor_mod_two_pow]
  simp
theorem negW_div (x : Nat) (hx : x < 18446744073709551616) : negW x / 9223372036854775808 = 1 - x / 9223372036854775808 := by
  rw [negW_def, show (9223372036854775808 : Nat) = 2 ^ 63 from rfl, Nat.xor_div_two_pow]
  have : x / 2 ^ 63 = 0 ∨ x / 2 ^ 63 = 1 := by omega
  rcases this with h | h <;> rw [h] <;> rfl
theorem negW_lt (x : Nat) (hx : x < 18446744073709551616) : negW x < 18446744073709551616 := by
  have h1 := negW_div x hx
  omega
theorem negW_rd (x : Nat) (hx : x < 18446744073709551616) : rd (negW x) = (rd x).opposite := by
  have hs : (negW x / 9223372036854775808 % 2 == 1) = !(x / 9223372036854775808 % 2 == 1) := by
    rw [negW_div x hx]
    have : x / 9223372036854775808 = 0 ∨ x / 9223372036854775808 = 1 := by omega
    rcases this with h | h <;> rw [h] <;> rfl
  rw [rd_def, rd_def, negW_mod, hs]
  split
  · rfl
  · split
    · rfl
    · split <;> rfl
theorem opp_val (d : Datum) : val d.opposite = - val d := by
  cases d with
  | number s m i => cases s <;> simp [Datum.opposite, val, signed]
  | infinity s => cases s <;> simp [Datum.opposite, val]
  | nan => simp [Datum.opposite, val]
theorem opp_neg (d : Datum) : d.opposite.neg = !d.neg := by cases d <;> rfl
theorem opp_good (d : Datum) (h : Good d) : Good d.opposite := by cases d <;> exact h
theorem negW_nan (x : Nat) (hx : x < 18446744073709551616) : nanB (negW x) = nanB x := by
  cases h : nanB x
  · have g := opp_good _ (good_of x h)
    rw [← negW_rd x hx] at g
    unfold nanB
    rw [ord_rd, order_val _ _ g g]
    simp
  · obtain ⟨s, t, h1⟩ := nan_of x h
    unfold nanB
    rw [ord_rd, negW_rd x hx, h1]
    rfl
theorem negW_key (x : Nat) (hx : x < 18446744073709551616) : key (negW x) = 1 - key x := by
  unfold key negB
  rw [negW_rd x hx, opp_val, opp_neg]
  cases (rd x).neg <;> simp <;> omega

/-- What the law calls the same: both NaN, or equal with the same sign. -/
def sameB (x y : Nat) : Bool := if nanB x || nanB y then nanB x && nanB y else (ord x y == some .eq) && (negB x == negB y)
theorem same_key (x y : Nat) (hx : nanB x = false) (hy : nanB y = false) (h : key x = key y) : sameB x y = true := by
  obtain ⟨h1, h2⟩ := key_eq x y hx hy h
  unfold sameB
  rw [hx, hy, h1, h2]
  simp
theorem same_nan (x y : Nat) (hx : nanB x = true) (hy : nanB y = true) : sameB x y = true := by
  unfold sameB; rw [hx, hy]; rfl

def fmaxW (x y : Nat) : Nat := if nanB x then y else if nanB y then x else maxW x y
def fminW (x y : Nat) : Nat := if nanB x then y else if nanB y then x else minW x y

theorem fmax_nan (x y : Nat) : nanB (fmaxW x y) = (nanB x && nanB y) := by
  unfold fmaxW
  cases hx : nanB x
  · cases hy : nanB y
    · simp only [Bool.false_eq_true, if_false]
      rcases max_pick x y with h | h <;> rw [h] <;> simp [hx, hy]
    · simp [hx]
  · simp
theorem fmin_nan (x y : Nat) : nanB (fminW x y) = (nanB x && nanB y) := by
  unfold fminW
  cases hx : nanB x
  · cases hy : nanB y
    · simp only [Bool.false_eq_true, if_false]
      rcases min_pick x y with h | h <;> rw [h] <;> simp [hx, hy]
    · simp [hx]
  · simp
theorem fmax_l (x y : Nat) (hx : nanB x = true) : fmaxW x y = y := by unfold fmaxW; rw [hx]; rfl
theorem fmax_r (x y : Nat) (hx : nanB x = false) (hy : nanB y = true) : fmaxW x y = x := by unfold fmaxW; rw [hx, hy]; rfl
theorem fmax_k (x y : Nat) (hx : nanB x = false) (hy : nanB y = false) : key (fmaxW x y) = max (key x) (key y) := by
  unfold fmaxW; rw [hx, hy]; exact max_key x y hx hy

theorem same_refl (x : Nat) : sameB x x = true := by
  cases h : nanB x
  · exact same_key x x h h rfl
  · exact same_nan x x h h
theorem fmax_comm (x y : Nat) : sameB (fmaxW x y) (fmaxW y x) = true := by
  cases hx : nanB x <;> cases hy : nanB y
  · exact same_key _ _ (by rw [fmax_nan, hx]; rfl) (by rw [fmax_nan, hy]; rfl) (by rw [fmax_k x y hx hy, fmax_k y x hy hx]; omega)
  · rw [fmax_r x y hx hy, fmax_l y x hy]; exact same_refl x
  · rw [fmax_l x y hx, fmax_r y x hy hx]; exact same_refl y
  · exact same_nan _ _ (by rw [fmax_nan, hx, hy]; rfl) (by rw [fmax_nan, hx, hy]; rfl)
theorem fmax_idem (x : Nat) : sameB (fmaxW x x) x = true := by
  cases hx : nanB x
  · exact same_key _ _ (by rw [fmax_nan, hx]; rfl) hx (by rw [fmax_k x x hx hx]; omega)
  · rw [fmax_l x x hx]; exact same_refl x
theorem fmax_assoc (x y z : Nat) : sameB (fmaxW (fmaxW x y) z) (fmaxW x (fmaxW y z)) = true := by
  cases hx : nanB x
  · cases hy : nanB y
    · have h1 : nanB (fmaxW x y) = false := by rw [fmax_nan, hx]; rfl
      have h2 : nanB (fmaxW y z) = false := by rw [fmax_nan, hy]; rfl
      have h3 : nanB (fmaxW (fmaxW x y) z) = false := by rw [fmax_nan, h1]; rfl
      have h4 : nanB (fmaxW x (fmaxW y z)) = false := by rw [fmax_nan, hx]; rfl
      refine same_key _ _ h3 h4 ?_
      rw [fmax_k x _ hx h2]
      cases hz : nanB z
      · rw [fmax_k _ z h1 hz, fmax_k x y hx hy, fmax_k y z hy hz]; omega
      · rw [fmax_r _ z h1 hz, fmax_r y z hy hz, fmax_k x y hx hy]
    · rw [fmax_r x y hx hy, fmax_l y z hy]; exact same_refl _
  · rw [fmax_l x y hx, fmax_l x _ hx]; exact same_refl _
theorem fmin_dual (x y : Nat) (hx' : x < 18446744073709551616) (hy' : y < 18446744073709551616) (hm : fmaxW (negW x) (negW y) < 18446744073709551616) :
    sameB (fminW x y) (negW (fmaxW (negW x) (negW y))) = true := by
  cases hx : nanB x <;> cases hy : nanB y
  · have nx : nanB (negW x) = false := by rw [negW_nan x hx', hx]
    have ny : nanB (negW y) = false := by rw [negW_nan y hy', hy]
    have h1 : nanB (fminW x y) = false := by rw [fmin_nan, hx]; rfl
    have h2 : nanB (negW (fmaxW (negW x) (negW y))) = false := by rw [negW_nan _ hm, fmax_nan, nx]; rfl
    refine same_key _ _ h1 h2 ?_
    rw [negW_key _ hm, fmax_k _ _ nx ny, negW_key x hx', negW_key y hy']
    have : key (fminW x y) = min (key x) (key y) := by unfold fminW; rw [hx, hy]; exact min_key x y hx hy
    rw [this]; omega
  · have nx : nanB (negW x) = false := by rw [negW_nan x hx', hx]
    have ny : nanB (negW y) = true := by rw [negW_nan y hy', hy]
    have e : fminW x y = x := by unfold fminW; rw [hx, hy]; rfl
    rw [fmax_r _ _ nx ny] at hm ⊢
    rw [e]
    refine same_key _ _ hx (by rw [negW_nan _ hm, nx]) ?_
    rw [negW_key _ hm, negW_key x hx']; omega
  · have nx : nanB (negW x) = true := by rw [negW_nan x hx', hx]
    have ny : nanB (negW y) = false := by rw [negW_nan y hy', hy]
    have e : fminW x y = y := by unfold fminW; rw [hx]; rfl
    rw [fmax_l _ _ nx] at hm ⊢
    rw [e]
    refine same_key _ _ hy (by rw [negW_nan _ hm, ny]) ?_
    rw [negW_key _ hm, negW_key y hy']; omega
  · have nx : nanB (negW x) = true := by rw [negW_nan x hx', hx]
    have ny : nanB (negW y) = true := by rw [negW_nan y hy', hy]
    exact same_nan _ _ (by rw [fmin_nan, hx, hy]; rfl) (by rw [negW_nan _ hm, fmax_nan, nx, ny]; rfl)
theorem fmax_lt (x y : Nat) (hx : x < 18446744073709551616) (hy : y < 18446744073709551616) : fmaxW x y < 18446744073709551616 := by
  unfold fmaxW
  split
  · exact hy
  · split
    · exact hx
    · rcases max_pick x y with h | h <;> rw [h] <;> assumption
theorem fmin_lt (x y : Nat) (hx : x < 18446744073709551616) (hy : y < 18446744073709551616) : fminW x y < 18446744073709551616 := by
  unfold fminW
  split
  · exact hy
  · split
    · exact hx
    · rcases min_pick x y with h | h <;> rw [h] <;> assumption

end Go.Proofs.Ytlemgjlnlegcgaa
