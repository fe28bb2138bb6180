/- Contracts of the law's own allIdentTail and of the bounds on length. -/
import Derived.Test.YtanhgoafnfmpkaaValid
namespace Go.Proofs.Ytanhgoafnfmpkaa
open Go.RowKit

set_option maxHeartbeats 400000 in
theorem all_any (s : ByteArray) (k m : Nat) (w : World) (hk : k ≤ m) (hm : m ≤ s.size) (hs : s.size ≤ 1048577) (v : Bool) (hv : decide (m ≤ scanEnd s k) = v) :
    Calls Try.prog 11 #[.string s, .int .i64 k, .int .i64 m] w fun e w' => e = .returned (.bool v) ∧ w = w' := by
  have HV := Lib.hid hv
  clear hv
  go_enter Try.func11, Try.ntmps11
  go_wp2_with fail
  go_loop [7] (fun i => ∃ j : Nat, k ≤ j ∧ j ≤ m ∧ i = .int .i64 j ∧ scanEnd s j = scanEnd s k) (fun i => m - (intOf i).toNat)
  case atStart => exact ⟨k, Nat.le_refl _, hk, rfl, rfl⟩
  case round =>
    obtain ⟨j, hkj, hjm, rfl, he⟩ := hrel
    have HE := Lib.hid he
    clear he
    by_cases hlt : j < m
    · have hlt2 : j < s.size := by omega
      have ha := at0_of s j hlt2
      cases hi : identB (s[j].toNat : Int) true
      · have hi' : identB (at0 s j) true = false := by rw [ha]; exact hi
        have HST := Lib.hid (end_stop s j hi')
        clear hi' ha
        go_wp2_with fail
        refine (tail_any _ _).mono ?_
        rintro e w' ⟨rfl, rfl⟩
        go_wp2_with fail
        go_ret
        refine ⟨ret_bool ?_, rfl⟩
        have e1 : scanEnd s k = j := HE.out.symm.trans HST.out
        have := HV.out
        rw [e1] at this
        rw [← this]; simp; omega
      · have hi' : identB (at0 s j) true = true := by rw [ha]; exact hi
        have HST := Lib.hid (end_step s j hi').2
        clear hi' ha
        go_wp2_with fail
        refine (tail_any _ _).mono ?_
        rintro e w' ⟨rfl, rfl⟩
        go_wp2_with fail
        go_round
        case rel => exact ⟨j + 1, by omega, by omega, by go_num, HST.out.symm.trans HE.out⟩
        case measure => simp [intOf]; omega
    · obtain rfl : j = m := by omega
      go_wp2_with fail
      go_ret
      refine ⟨ret_bool ?_, rfl⟩
      have := HV.out
      rw [← HE.out] at this
      rw [← this]; simp [le_end]

theorem bytes8 (s : ByteArray) (w : World) (v : Bool) (hv : decide (s.size ≤ 1048576) = v) (hm : s.size ≤ maxLen) :
    Calls Try.prog 8 #[.string s] w fun e w' => e = .returned (.bool v) ∧ w = w' := by
  unfold maxLen at hm
  subst hv
  go_enter Try.func8, Try.ntmps8
  go_wp2
  all_goals (go_ret; exact ⟨ret_bool (by simp; omega), rfl⟩)
theorem bytes12 (s : ByteArray) (c : Int) (w : World) (v : Bool) (hv : decide (s.size ≤ 1048576) = v) (hm : s.size ≤ maxLen) :
    Calls Try.prog 12 #[.string s, .int .u8 c] w fun e w' => e = .returned (.bool v) ∧ w = w' := by
  unfold maxLen at hm
  subst hv
  go_enter Try.func12, Try.ntmps12
  go_wp2
  all_goals (go_ret; exact ⟨ret_bool (by simp; omega), rfl⟩)
theorem bytes14 (s : ByteArray) (k : Int) (w : World) (v : Bool) (hv : decide (s.size ≤ 1048576) = v) (hm : s.size ≤ maxLen) :
    Calls Try.prog 14 #[.string s, .int .i64 k] w fun e w' => e = .returned (.bool v) ∧ w = w' := by
  unfold maxLen at hm
  subst hv
  go_enter Try.func14, Try.ntmps14
  go_wp2
  all_goals (go_ret; exact ⟨ret_bool (by simp; omega), rfl⟩)
theorem bytes16 (s : ByteArray) (k : Int) (w : World) (v : Bool) (hv : decide (s.size ≤ 1048576) = v) (hm : s.size ≤ maxLen) :
    Calls Try.prog 16 #[.string s, .int .i64 k] w fun e w' => e = .returned (.bool v) ∧ w = w' := by
  unfold maxLen at hm
  subst hv
  go_enter Try.func16, Try.ntmps16
  go_wp2
  all_goals (go_ret; exact ⟨ret_bool (by simp; omega), rfl⟩)
theorem bytes17 (s : ByteArray) (k : Int) (w : World) (v : Bool) (hv : decide (s.size ≤ 1048576) = v) (hm : s.size ≤ maxLen) :
    Calls Try.prog 17 #[.string s, .int .i64 k] w fun e w' => e = .returned (.bool v) ∧ w = w' := by
  unfold maxLen at hm
  subst hv
  go_enter Try.func17, Try.ntmps17
  go_wp2
  all_goals (go_ret; exact ⟨ret_bool (by simp; omega), rfl⟩)

end Go.Proofs.Ytanhgoafnfmpkaa
