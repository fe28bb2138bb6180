/- The small functions of package math that Lgamma rests on. -/
import Derived.Test.YtlemgjlnlegcgaaDoorKit
import Derived.Test.YtlemgjlnlegcgaaDoorProg
import Derived.Test.YtlemgjlnlegcgaaDoorFl54
import Derived.Laws.FloatArith
import Derived.Laws.Bits64b
import Derived.Outline
import Derived.Handy
namespace Go.Proofs.YtlemgjlnlegcgaaDoor
open Go.RowKit
open FL
set_option linter.unusedVariables false
set_option linter.unusedSimpArgs false

theorem bits_run (x : Nat) (w : World) : Sem.run Tryd.prog (callFunc 24 #[.float .f64 x]) w = .ok (.value (.int .u64 x)) w := by kernel_rfl
theorem from_run (x : Nat) (w : World) : Sem.run Tryd.prog (callFunc 18 #[.int .u64 x]) w = .ok (.value (.float .f64 x)) w := by kernel_rfl
theorem from_lit (x : Int) (w : World) : Sem.run Tryd.prog (callFunc 18 #[.int .u64 x]) w = .ok (.value (.float .f64 x.toNat)) w := by kernel_rfl
theorem andNot_nat (a b : Nat) (ha : a < 2 ^ 64) (hb : b < 2 ^ 64) : bits .andNot .u64 (a : Int) (b : Int) = ((a &&& (2 ^ 64 - 1 - b) : Nat) : Int) := by
  have hx : a &&& (2 ^ 64 - 1 - b) < 2 ^ 64 := Nat.and_lt_two_pow _ (by omega)
  have h1 : (BitVec.ofInt 64 (a : Int)).toNat = a := by
    rw [BitVec.ofInt_natCast, BitVec.toNat_ofNat]; exact Nat.mod_eq_of_lt (by omega)
  have h2 : (BitVec.ofInt 64 (b : Int)).toNat = b := by
    rw [BitVec.ofInt_natCast, BitVec.toNat_ofNat]; exact Nat.mod_eq_of_lt (by omega)
  show IntKind.u64.wrap ((BitVec.ofInt 64 (a : Int) &&& ~~~ BitVec.ofInt 64 (b : Int)).toNat : Int) = _
  rw [BitVec.toNat_and, BitVec.toNat_not, h1, h2, IntKind.wrap_u64]
  omega
theorem andNot_sign (a : Nat) (ha : a < 2 ^ 64) : bits .andNot .u64 (a : Int) 9223372036854775808 = ((a % 2 ^ 63 : Nat) : Int) := by
  have h := andNot_nat a 9223372036854775808 ha (by decide)
  rw [show 2 ^ 64 - 1 - 9223372036854775808 = 2 ^ 63 - 1 by decide, Nat.and_two_pow_sub_one_eq_mod] at h
  exact h
theorem abs_any (x : Nat) (hx : x < 2 ^ 64) (w : World) : Calls Tryd.prog 17 #[.float .f64 x] w fun e w' => e = .returned (.float .f64 (x % 2 ^ 63)) ∧ w' = w := by
  have h1 := bits_run x
  have h2 : ∀ w, Sem.run Tryd.prog (callFunc 18 #[.int .u64 (bits .andNot .u64 (x : Int) 9223372036854775808)]) w = .ok (.value (.float .f64 (x % 2 ^ 63))) w := fun w => by
    rw [andNot_sign x hx]
    exact from_run _ w
  go_enter Tryd.func17, Tryd.ntmps17
  go_wp2_with fail
  go_ret
  exact ⟨rfl, rfl⟩
theorem isNaN_any (x : Nat) (w : World) : Calls Tryd.prog 12 #[.float .f64 x] w fun e w' => e = .returned (.bool (Ieee.double.order x x != some .eq)) ∧ w' = w := by
  go_enter Tryd.func12, Tryd.ntmps12
  go_wp2_with fail
  go_ret
  exact ⟨rfl, rfl⟩
theorem inf_any (w : World) : Calls Tryd.prog 14 #[.int .i64 1] w fun e w' => e = .returned (.float .f64 9218868437227405312) ∧ w' = w := by
  have h2 := from_lit 9218868437227405312
  go_enter Tryd.func14, Tryd.ntmps14
  go_wp2_with fail
  go_ret
  exact ⟨rfl, rfl⟩
theorem ninf_any (w : World) : Calls Tryd.prog 14 #[.int .i64 (-1)] w fun e w' => e = .returned (.float .f64 18442240474082181120) ∧ w' = w := by
  have h2 := from_lit 18442240474082181120
  go_enter Tryd.func14, Tryd.ntmps14
  go_wp2_with fail
  go_ret
  exact ⟨rfl, rfl⟩
theorem order_self {x : Nat} (hx : Fnt x) : Ieee.double.order x x = some .eq := by
  rw [order_fin hx hx, Int.compare_eq_eq.2 rfl]
/-- Of finite numbers. -/
theorem isInf_fin (x : Nat) (hx : x < 2 ^ 64) (hf : Fnt x) (w : World) : Calls Tryd.prog 13 #[.float .f64 x, .int .i64 0] w fun e w' => e = .returned (.bool false) ∧ w' = w := by
  have hf' : x % 2 ^ 63 < 2047 * 2 ^ 52 := hf
  have HA := Lib.hid (abs_any x hx w)
  have h1 : FloatKind.f64.format.order (x % 2 ^ 63) 9218868437227405311 = some (compare (x % 2 ^ 63) 9218868437227405311) := order_pos hf' (by decide)
  have h2 : (compare (x % 2 ^ 63) 9218868437227405311 == .gt) = false := by
    rcases Nat.lt_trichotomy (x % 2 ^ 63) 9218868437227405311 with h | h | h
    · rw [Nat.compare_eq_lt.2 h]; rfl
    · rw [Nat.compare_eq_eq.2 h]; rfl
    · omega
  obtain ⟨y, hy⟩ : ∃ y, x % 2 ^ 63 = y := ⟨_, rfl⟩
  rw [hy] at h1 h2 HA
  clear hf hf' hx hy
  go_enter Tryd.func13, Tryd.ntmps13
  go_wp2_with fail
  refine HA.out.mono ?_
  rintro e w1 ⟨rfl, hw⟩
  obtain rfl : w = w1 := hw.symm
  go_wp2_with fail
  trace_state
  go_ret
  exact ⟨rfl, rfl⟩
end Go.Proofs.YtlemgjlnlegcgaaDoor
