/- Contracts of isNumber, isIdent, isHex, their exports, and the law's own helpers zzB1In, zzB1Lower, zzB1Upper: what each computes on a byte. -/
import Derived.Test.YtbkpaakbodhmjaaRows
import Derived.WalkKit
import Derived.WalkSpells
import Derived.WalkLawsBesides
import Derived.Lib.Hide
namespace Go.Proofs.Ytbkpaakbodhmjaa
open Go.RowKit

def numB (c : Int) : Bool := decide (48 ≤ c) && decide (c ≤ 57)
def lowB (c : Int) : Bool := decide (97 ≤ c) && decide (c ≤ 122)
def uppB (c : Int) : Bool := decide (65 ≤ c) && decide (c ≤ 90)
def identB (c : Int) (t : Bool) : Bool := lowB c || uppB c || (c == 95) || (t && numB c)
def hexB (c : Int) : Bool := (decide (97 ≤ c) && decide (c ≤ 102)) || (decide (65 ≤ c) && decide (c ≤ 70)) || numB c

theorem ret_bool {a b : Bool} (h : a = b) : Ending.returned (.bool a) = .returned (.bool b) := by rw [h]

set_option maxHeartbeats 400000 in
theorem isNumber_any (c : Int) (w : World) :
    Calls Try.prog 23 #[.int .u8 c] w fun e w' => e = .returned (.bool (numB c)) ∧ w = w' := by
  go_enter Try.func23, Try.ntmps23
  go_wp2
  all_goals (go_ret; exact ⟨ret_bool (by unfold numB; simp; omega), rfl⟩)

set_option maxHeartbeats 400000 in
theorem isIdent_any (c : Int) (t : Bool) (w : World) :
    Calls Try.prog 24 #[.int .u8 c, .bool t] w fun e w' => e = .returned (.bool (identB c t)) ∧ w = w' := by
  cases t
  all_goals
    go_enter Try.func24, Try.ntmps24
    go_wp2_with (go_at_call 23; refine (isNumber_any _ _).mono ?_; rintro e w' ⟨rfl, rfl⟩)
    all_goals (go_ret; exact ⟨ret_bool (by unfold identB lowB uppB numB; rw [Bool.eq_iff_iff]; simp; try omega), rfl⟩)

set_option maxHeartbeats 400000 in
theorem isHex_any (c : Int) (w : World) :
    Calls Try.prog 22 #[.int .u8 c] w fun e w' => e = .returned (.bool (hexB c)) ∧ w = w' := by
  go_enter Try.func22, Try.ntmps22
  go_wp2_with (go_at_call 23; refine (isNumber_any _ _).mono ?_; rintro e w' ⟨rfl, rfl⟩)
  all_goals (go_ret; exact ⟨ret_bool (by unfold hexB numB; rw [Bool.eq_iff_iff]; simp; omega), rfl⟩)

theorem zzHex_any (c : Int) (w : World) :
    Calls Try.prog 10 #[.int .u8 c] w fun e w' => e = .returned (.bool (hexB c)) ∧ w = w' := by
  go_enter Try.func10, Try.ntmps10
  go_wp2_with (go_at_call 22; refine (isHex_any _ _).mono ?_; rintro e w' ⟨rfl, rfl⟩)
  go_ret
  exact ⟨rfl, rfl⟩

theorem zzNum_any (c : Int) (w : World) :
    Calls Try.prog 12 #[.int .u8 c] w fun e w' => e = .returned (.bool (numB c)) ∧ w = w' := by
  go_enter Try.func12, Try.ntmps12
  go_wp2_with (go_at_call 23; refine (isNumber_any _ _).mono ?_; rintro e w' ⟨rfl, rfl⟩)
  go_ret
  exact ⟨rfl, rfl⟩

theorem zzIdent_any (c : Int) (t : Bool) (w : World) :
    Calls Try.prog 13 #[.int .u8 c, .bool t] w fun e w' => e = .returned (.bool (identB c t)) ∧ w = w' := by
  go_enter Try.func13, Try.ntmps13
  go_wp2_with (go_at_call 24; refine (isIdent_any _ _ _).mono ?_; rintro e w' ⟨rfl, rfl⟩)
  go_ret
  exact ⟨rfl, rfl⟩

def lowerN (c : Int) : Int := if 65 ≤ c ∧ c ≤ 90 then c + 32 else c
def upperN (c : Int) : Int := if 97 ≤ c ∧ c ≤ 122 then c - 32 else c

theorem ret_int {k : IntKind} {a b : Int} (h : a = b) : Ending.returned (.int k a) = .returned (.int k b) := by rw [h]

set_option maxHeartbeats 400000 in
theorem lower_any (c : Int) (w : World) (h0 : 0 ≤ c) (h1 : c ≤ 255) :
    Calls Try.prog 14 #[.int .u8 c] w fun e w' => e = .returned (.int .u8 (lowerN c)) ∧ w = w' := by
  go_enter Try.func14, Try.ntmps14
  go_wp2
  all_goals (go_ret; exact ⟨ret_int (by unfold lowerN; first | rw [if_pos (by omega)] | rw [if_neg (by omega)]), rfl⟩)

set_option maxHeartbeats 400000 in
theorem upper_any (c : Int) (w : World) (h0 : 0 ≤ c) (h1 : c ≤ 255) :
    Calls Try.prog 15 #[.int .u8 c] w fun e w' => e = .returned (.int .u8 (upperN c)) ∧ w = w' := by
  go_enter Try.func15, Try.ntmps15
  go_wp2
  all_goals (go_ret; exact ⟨ret_int (by unfold upperN; first | rw [if_pos (by omega)] | rw [if_neg (by omega)]), rfl⟩)

def inB (c : Int) (l : List UInt8) : Bool := l.any fun b => (b.toNat : Int) == c

theorem take_snoc (s : ByteArray) (k : Nat) (h : k < s.size) : s.data.toList.take (k + 1) = s.data.toList.take k ++ [s[k]] := by
  rw [List.take_succ_eq_append_getElem (by simpa using h)]; rfl

theorem inB_snoc (c : Int) (l : List UInt8) (b : UInt8) : inB c (l ++ [b]) = (inB c l || ((b.toNat : Int) == c)) := by
  simp [inB]

theorem inB_of_mem (c : Int) (s : ByteArray) (k : Nat) (h : k < s.size) (hc : ((s[k].toNat : Int) == c) = true) : inB c s.data.toList = true := by
  unfold inB
  rw [List.any_eq_true]
  exact ⟨s[k], by simp [ByteArray.getElem_eq_getElem_data], hc⟩

set_option maxHeartbeats 400000 in
theorem in_any (c : Int) (s : ByteArray) (w : World) (hs : s.size ≤ maxLen) :
    Calls Try.prog 11 #[.int .u8 c, .string s] w fun e w' => e = .returned (.bool (inB c s.data.toList)) ∧ w = w' := by
  unfold maxLen at hs
  go_enter Try.func11, Try.ntmps11
  go_wp2
  go_loop [5] (fun i => ∃ k : Nat, k ≤ s.size ∧ i = .int .i64 k ∧ inB c (s.data.toList.take k) = false) (fun i => s.size - (intOf i).toNat)
  case atStart => exact ⟨0, Nat.zero_le _, rfl, rfl⟩
  case round =>
    obtain ⟨k, hk, rfl, hin⟩ := hrel
    have HIN := Lib.hid hin
    clear hin
    by_cases hlt : k < s.size
    · by_cases hc : ((s[k].toNat : Int) == c) = true
      · have HS := Lib.hid (inB_of_mem c s k hlt hc)
        go_wp2
        go_ret
        exact ⟨ret_bool HS.out.symm, rfl⟩
      · have hc' : ((s[k].toNat : Int) == c) = false := by simpa using hc
        have HS : Hid (inB c (s.data.toList.take (k + 1)) = false) := Lib.hid (by rw [take_snoc s k hlt, inB_snoc, HIN.out, hc']; rfl)
        clear hc
        go_wp2
        go_round
        case rel => exact ⟨k + 1, by omega, by go_num, HS.out⟩
        case measure => simp [intOf]; omega
    · go_wp2
      go_ret
      have h := HIN.out
      rw [List.take_of_length_le (by simp; omega)] at h
      exact ⟨ret_bool h.symm, rfl⟩

end Go.Proofs.Ytbkpaakbodhmjaa
