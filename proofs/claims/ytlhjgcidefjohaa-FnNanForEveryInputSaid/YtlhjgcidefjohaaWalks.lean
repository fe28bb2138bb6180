/- Contracts of math.NaN, funcNan and the exports; the law's walk. -/
import Derived.Test.YtlhjgcidefjohaaRows
import Derived.Test.YtlhjgcidefjohaaKit
import Derived.Outline
namespace Go.Proofs.Ytlhjgcidefjohaa
open Go.RowKit

def nanBits : Nat := 9221120237041090561
theorem frombits (W : World) : Sem.run Try.prog (callFunc 12 #[.int .u64 9221120237041090561]) W = .ok (Next.value (.float .f64 nanBits)) W := by kernel_rfl
theorem nan_ne : (FloatKind.f64.format.order nanBits nanBits != some .eq) = true := by decide +kernel

set_option maxHeartbeats 400000 in
theorem nan_any (w : World) : Calls Try.prog 11 #[] w fun e w' => e = .returned (.float .f64 nanBits) ∧ w = w' := by
  have hf := frombits
  go_enter Try.func11, Try.ntmps11
  go_wp2
  go_ret
  exact ⟨rfl, rfl⟩

theorem funcNan_any (v : Value) (w : World) : Calls Try.prog 10 #[v] w fun e w' => e = .returned (.iface 22 (.float .f64 nanBits)) ∧ w = w' := by
  go_enter Try.func10, Try.ntmps10
  go_wp2_with (go_at_call 11; refine (nan_any _).mono ?_; rintro e w' ⟨rfl, rfl⟩)
  go_ret
  exact ⟨rfl, rfl⟩

theorem assert22 (W : World) (v : Value) : (Instr.typeAssert (.iface 22 v) 20 22 true).run Try.prog W = .ok (.tuple #[v, .bool true]) W := by kernel_rfl

theorem zzF_any (x : Nat) (w : World) : Calls Try.prog 5 #[.float .f64 x] w fun e w' => e = .returned (.tuple #[.float .f64 nanBits, .bool true]) ∧ w = w' := by
  have ha := fun (W : World) => assert22 W (.float .f64 nanBits)
  go_enter Try.func5, Try.ntmps5
  go_wp2_with (go_at_call 10; refine (funcNan_any _ _).mono ?_; rintro e w' ⟨rfl, rfl⟩)
  go_ret2
  exact ⟨rfl, rfl⟩
theorem zzI_any (x : Int) (w : World) : Calls Try.prog 7 #[.int .i64 x] w fun e w' => e = .returned (.tuple #[.float .f64 nanBits, .bool true]) ∧ w = w' := by
  have ha := fun (W : World) => assert22 W (.float .f64 nanBits)
  go_enter Try.func7, Try.ntmps7
  go_wp2_with (go_at_call 10; refine (funcNan_any _ _).mono ?_; rintro e w' ⟨rfl, rfl⟩)
  go_ret2
  exact ⟨rfl, rfl⟩
theorem zzN_any (w : World) : Calls Try.prog 8 #[] w fun e w' => e = .returned (.tuple #[.float .f64 nanBits, .bool true]) ∧ w = w' := by
  have ha := fun (W : World) => assert22 W (.float .f64 nanBits)
  go_enter Try.func8, Try.ntmps8
  go_wp2_with (go_at_call 10; refine (funcNan_any _ _).mono ?_; rintro e w' ⟨rfl, rfl⟩)
  go_ret2
  exact ⟨rfl, rfl⟩
theorem zzS_any (x : ByteArray) (w : World) : Calls Try.prog 9 #[.string x] w fun e w' => e = .returned (.tuple #[.float .f64 nanBits, .bool true]) ∧ w = w' := by
  have ha := fun (W : World) => assert22 W (.float .f64 nanBits)
  go_enter Try.func9, Try.ntmps9
  go_wp2_with (go_at_call 10; refine (funcNan_any _ _).mono ?_; rintro e w' ⟨rfl, rfl⟩)
  go_ret2
  exact ⟨rfl, rfl⟩
theorem isNaN_any (w : World) : Calls Try.prog 6 #[.float .f64 nanBits] w fun e w' => e = .returned (.bool true) ∧ w = w' := by
  have h := nan_ne
  go_enter Try.func6, Try.ntmps6
  go_wp2
  go_ret
  exact ⟨rfl, rfl⟩
theorem bytes_any (f : Nat) (n : Int) (s : ByteArray) (w : World) (v : Bool) (hv : decide (s.size ≤ 1048576) = v) (hm : s.size ≤ maxLen) :
    Calls Try.prog 4 #[.float .f64 f, .int .i64 n, .string s] w fun e w' => e = .returned (.bool v) ∧ w = w' := by
  unfold maxLen at hm
  subst hv
  go_enter Try.func4, Try.ntmps4
  go_wp2
  all_goals (go_ret; exact ⟨ret_bool (by simp; omega), rfl⟩)

set_option maxHeartbeats 400000 in
theorem law3 (f : Nat) (n : Int) (s : ByteArray) (w : World) (hm : s.size ≤ maxLen) :
    Calls Try.prog 3 #[.float .f64 f, .int .i64 n, .string s] w fun e w' => e = .returned (.bool true) ∧ w = w' := by
  by_cases hs : s.size ≤ 1048576
  · have HB : Hid (decide (s.size ≤ 1048576) = true) := Lib.hid (by simpa using hs)
    go_enter Try.func3, Try.ntmps3
    go_wp2_with (first
      | (go_at_call 4; refine (bytes_any _ _ _ _ _ HB.out hm).mono ?_; rintro e w' ⟨rfl, rfl⟩)
      | (go_at_call 5; refine (zzF_any _ _).mono ?_; rintro e w' ⟨rfl, rfl⟩)
      | (go_at_call 7; refine (zzI_any _ _).mono ?_; rintro e w' ⟨rfl, rfl⟩)
      | (go_at_call 8; refine (zzN_any _).mono ?_; rintro e w' ⟨rfl, rfl⟩)
      | (go_at_call 9; refine (zzS_any _ _).mono ?_; rintro e w' ⟨rfl, rfl⟩)
      | (go_at_call 6; refine (isNaN_any _).mono ?_; rintro e w' ⟨rfl, rfl⟩))
    go_ret
    exact ⟨rfl, rfl⟩
  · have HB : Hid (decide (s.size ≤ 1048576) = false) := Lib.hid (by simpa using hs)
    go_enter Try.func3, Try.ntmps3
    go_wp2_with (go_at_call 4; refine (bytes_any _ _ _ _ _ HB.out hm).mono ?_; rintro e w' ⟨rfl, rfl⟩)
    go_ret
    exact ⟨rfl, rfl⟩

end Go.Proofs.Ytlhjgcidefjohaa
