/- Plain laws on float64 words: every word that is no NaN has a whole number as its key, so that order, max, min and negation are those of the keys. -/
import Derived.Test.YtlemgjlnlegcgaaRows
import Derived.Test.YtlemgjlnlegcgaaKit
namespace Go.Proofs.Ytlemgjlnlegcgaa
open Ieee

def bigN (k : Nat) : Nat := 2 ^ k
theorem bigN_pos (k : Nat) : 0 < bigN k := Nat.two_pow_pos k
theorem bigN_le {k a : Nat} (h : k ≤ a) : 2 ^ k ≤ bigN a := Nat.pow_le_pow_right (by omega) h
def big : Int := (bigN 2100 : Int)

/-- The number as a whole multiple of the least place; the infinities beyond all of them. -/
def val : Datum → Int
  | .number s m i => signed s m (i + 1074).toNat
  | .infinity s => if s then -big else big
  | .nan _ _ => 0

def Good : Datum → Prop
  | .number _ m i => -1074 ≤ i ∧ i ≤ 972 ∧ m < 2 ^ 53
  | .infinity _ => True
  | .nan _ _ => False

theorem signed_add (s : Bool) (m a b : Nat) : signed s m (a + b) = signed s m a * ((2 ^ b : Nat) : Int) := by
  unfold signed
  cases s
  · simp only [Bool.false_eq_true, if_false, Nat.shiftLeft_eq, Nat.pow_add]
    rw [← Nat.mul_assoc, Int.natCast_mul]
  · simp only [if_true, Nat.shiftLeft_eq, Nat.pow_add]
    rw [← Nat.mul_assoc, Int.natCast_mul, Int.neg_mul]

theorem val_lt (s : Bool) (m : Nat) (i : Int) (h : Good (.number s m i)) : -big < val (.number s m i) ∧ val (.number s m i) < big := by
  obtain ⟨h1, h2, h3⟩ := h
  have hk : (i + 1074).toNat ≤ 2046 := by omega
  have hm : m <<< (i + 1074).toNat < bigN 2100 := by
    rw [Nat.shiftLeft_eq]
    calc m * 2 ^ (i + 1074).toNat < 2 ^ 53 * 2 ^ (i + 1074).toNat := Nat.mul_lt_mul_of_pos_right h3 (Nat.two_pow_pos _)
      _ = 2 ^ (53 + (i + 1074).toNat) := by rw [Nat.pow_add]
      _ ≤ bigN 2100 := bigN_le (by omega)
  have hb : big = ((bigN 2100 : Nat) : Int) := rfl
  generalize hM : m <<< (i + 1074).toNat = M at *
  have e : val (.number s m i) = if s then -(M : Int) else (M : Int) := by
    show signed s m _ = _
    unfold signed; rw [hM]
  rw [e, hb]
  generalize bigN 2100 = Z at *
  cases s <;> simp <;> omega

theorem big_pos : 0 < big := by have := bigN_pos 2100; unfold big; omega

theorem cmp_mul (a b : Int) (c : Nat) : compare (a * ((2 ^ c : Nat) : Int)) (b * ((2 ^ c : Nat) : Int)) = compare a b := by
  have hc : (0 : Int) < ((2 ^ c : Nat) : Int) := by exact_mod_cast Nat.two_pow_pos c
  generalize ((2 ^ c : Nat) : Int) = z at *
  rcases Int.lt_trichotomy a b with h | h | h
  · have h' : a * z < b * z := Int.mul_lt_mul_of_pos_right h hc
    rw [Int.compare_eq_lt.2 h, Int.compare_eq_lt.2 h']
  · subst h; simp
  · have h' : b * z < a * z := Int.mul_lt_mul_of_pos_right h hc
    rw [Int.compare_eq_gt.2 h, Int.compare_eq_gt.2 h']

theorem order_val (d e : Datum) (hd : Good d) (he : Good e) : d.order e = some (compare (val d) (val e)) := by
  cases d with
  | nan => exact hd.elim
  | infinity s =>
    cases e with
    | nan => exact he.elim
    | infinity t =>
      have := big_pos
      cases s <;> cases t <;> simp only [Datum.order, val, Option.some.injEq]
      · simp
      · rw [show compare (true.toNat) (false.toNat) = .gt from rfl]; simp; symm; rw [Int.compare_eq_gt]; omega
      · rw [show compare (false.toNat) (true.toNat) = .lt from rfl]; simp; symm; rw [Int.compare_eq_lt]; omega
      · simp
    | number t n j =>
      have := val_lt t n j he
      generalize hv : val (.number t n j) = v at *
      cases s <;> simp only [Datum.order, val, Option.some.injEq]
      · simp; symm; rw [Int.compare_eq_gt]; rw [← hv] at this ⊢; exact this.2
      · simp; symm; rw [Int.compare_eq_lt]; rw [← hv] at this ⊢; exact this.1
  | number s m i =>
    cases e with
    | nan => exact he.elim
    | infinity t =>
      have := val_lt s m i hd
      cases t <;> simp only [Datum.order, Option.some.injEq]
      · simp; symm; rw [Int.compare_eq_lt]; exact this.2
      · simp; symm; rw [Int.compare_eq_gt]; exact this.1
    | number t n j =>
      obtain ⟨h1, _, _⟩ := hd
      obtain ⟨h2, _, _⟩ := he
      simp only [Datum.order, val, Option.some.injEq]
      have e1 : (i + 1074).toNat = (i - min i j).toNat + (min i j + 1074).toNat := by omega
      have e2 : (j + 1074).toNat = (j - min i j).toNat + (min i j + 1074).toNat := by omega
      rw [e1, e2, signed_add, signed_add, cmp_mul]

end Go.Proofs.Ytlemgjlnlegcgaa
