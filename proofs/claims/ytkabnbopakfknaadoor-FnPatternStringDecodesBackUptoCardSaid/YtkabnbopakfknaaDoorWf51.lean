/- The law's character classes, and its test of a pattern's form. -/
import Derived.Test.YtkabnbopakfknaaDoorBg51
namespace Go.Proofs.YtkabnbopakfknaaDoor
open Go.RowKit
set_option linter.unusedVariables false
set_option linter.unusedSimpArgs false

def identN (n : Nat) : Bool := decide (n = 95 ∨ (97 ≤ n ∧ n ≤ 122) ∨ (65 ≤ n ∧ n ≤ 90) ∨ (48 ≤ n ∧ n ≤ 57))
def keyN (n : Nat) : Bool := identN n || decide (n = 36)
theorem ident_any (n : Nat) (hn : n ≤ 255) (w : World) : Calls Tryd.prog 19 #[.int .u8 n] w fun e w' => e = .returned (.bool (identN n)) ∧ w' = w := by
  go_enter Tryd.func19, Tryd.ntmps19
  go_wp2
  all_goals
    go_ret
    refine ⟨ret_bool ?_, by first | rfl | trivial⟩
    unfold identN
    try simp only [beq_iff_eq, beq_eq_false_iff_ne, ne_eq, decide_eq_true_eq, decide_eq_false_iff_not] at *
    first | omega | (rw [Bool.eq_iff_iff]; simp only [decide_eq_true_eq, Bool.false_eq_true, iff_true, true_iff, false_iff, iff_false, iff_self]; omega) | (rw [Bool.eq_iff_iff]; simp only [Bool.or_eq_true, Bool.and_eq_true, beq_iff_eq, decide_eq_true_eq]; omega)
theorem keyN_36 : keyN 36 = true := by decide
theorem key_any (n : Nat) (hn : n ≤ 255) (w : World) : Calls Tryd.prog 20 #[.int .u8 n] w fun e w' => e = .returned (.bool (keyN n)) ∧ w' = w := by
  go_enter Tryd.func20, Tryd.ntmps20
  go_wp2_with fail
  refine (ident_any n hn w).mono ?_
  rintro e w1 ⟨rfl, rfl⟩
  obtain ⟨v, hv⟩ : ∃ v, identN n = v := ⟨_, rfl⟩
  have hk : keyN n = (v || decide (n = 36)) := by unfold keyN; rw [hv]
  rw [hv]
  have HK := Lib.hid hk
  clear hk hv
  cases v
  all_goals
    go_wp2_with fail
    go_ret
    refine ⟨ret_bool ?_, by first | rfl | trivial⟩
    rw [HK.out]
    try simp only [beq_iff_eq, beq_eq_false_iff_ne, ne_eq, decide_eq_true_eq, decide_eq_false_iff_not] at *
    first | rfl | (simp; done) | (rw [Bool.eq_iff_iff]; simp; omega) | (simp; omega)
end Go.Proofs.YtkabnbopakfknaaDoor
