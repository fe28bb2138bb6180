/- Contracts of isNumber and isIdent: what each answers on a byte. -/
import Derived.Test.YtanhgoafnfmpkaaRows
import Derived.Test.YtanhgoafnfmpkaaKit
namespace Go.Proofs.Ytanhgoafnfmpkaa
open Go.RowKit

def numB (c : Int) : Bool := decide (48 ≤ c) && decide (c ≤ 57)
def lowB (c : Int) : Bool := decide (97 ≤ c) && decide (c ≤ 122)
def uppB (c : Int) : Bool := decide (65 ≤ c) && decide (c ≤ 90)
def identB (c : Int) (t : Bool) : Bool := lowB c || uppB c || (c == 95) || (t && numB c)

set_option maxHeartbeats 400000 in
theorem isNumber_any (c : Int) (w : World) :
    Calls Try.prog 25 #[.int .u8 c] w fun e w' => e = .returned (.bool (numB c)) ∧ w = w' := by
  go_enter Try.func25, Try.ntmps25
  go_wp2
  all_goals (go_ret; exact ⟨ret_bool (by unfold numB; simp; omega), rfl⟩)

set_option maxHeartbeats 400000 in
theorem isIdent_any (c : Int) (t : Bool) (w : World) :
    Calls Try.prog 24 #[.int .u8 c, .bool t] w fun e w' => e = .returned (.bool (identB c t)) ∧ w = w' := by
  cases t
  all_goals
    go_enter Try.func24, Try.ntmps24
    go_wp2_with (go_at_call 25; refine (isNumber_any _ _).mono ?_; rintro e w' ⟨rfl, rfl⟩)
    all_goals (go_ret; exact ⟨ret_bool (by unfold identB lowB uppB numB; rw [Bool.eq_iff_iff]; simp; try omega), rfl⟩)

end Go.Proofs.Ytanhgoafnfmpkaa
