/- The operators' spellings: Operator.String and the law's own table. -/
import Derived.Test.YtkabnbopakfknaaDoorNodeKit
namespace Go.Proofs.YtkabnbopakfknaaDoor
open Go.RowKit

def spells : List (List UInt8) := [[], [124], [44], [43], [45], [42], [47], [37], [61, 61], [33, 61], [62], [60], [62, 61], [60, 61], [97, 110, 100], [111, 114], [47, 47], [61], [124, 61], [43, 61], [45, 61], [42, 61], [47, 61], [37, 61], [47, 47, 61]]
def spell (op : Int) : List UInt8 := spells.getD op.toNat []
theorem ops24 {op : Int} (h1 : 1 ≤ op) (h2 : op ≤ 24) : op = 1 ∨ op = 2 ∨ op = 3 ∨ op = 4 ∨ op = 5 ∨ op = 6 ∨ op = 7 ∨ op = 8 ∨ op = 9 ∨ op = 10 ∨ op = 11 ∨ op = 12 ∨ op = 13 ∨ op = 14 ∨ op = 15 ∨ op = 16 ∨ op = 17 ∨ op = 18 ∨ op = 19 ∨ op = 20 ∨ op = 21 ∨ op = 22 ∨ op = 23 ∨ op = 24 := by omega
theorem spell_safe {op : Int} (h1 : 1 ≤ op) (h2 : op ≤ 24) : spell op ≠ [] ∧ Safe (spell op) ∧ (spell op).length ≤ 3 := by
  rcases ops24 h1 h2 with rfl | rfl | rfl | rfl | rfl | rfl | rfl | rfl | rfl | rfl | rfl | rfl | rfl | rfl | rfl | rfl | rfl | rfl | rfl | rfl | rfl | rfl | rfl | rfl
  all_goals exact ⟨by decide, fun c hc => by simp [spell, spells] at hc; subst hc; decide, by decide⟩

set_option maxHeartbeats 4000000 in
theorem opStr_any (op : Int) (h1 : 1 ≤ op) (h2 : op ≤ 24) (w : World) :
    Calls Tryd.prog 27 #[.int .i64 op] w fun e w' => e = .returned (.string ⟨(spell op).toArray⟩) ∧ w = w' := by
  rcases ops24 h1 h2 with rfl | rfl | rfl | rfl | rfl | rfl | rfl | rfl | rfl | rfl | rfl | rfl | rfl | rfl | rfl | rfl | rfl | rfl | rfl | rfl | rfl | rfl | rfl | rfl
  all_goals
    go_enter Tryd.func27, Tryd.ntmps27
    go_wp2_with fail
    go_ret
    exact ⟨rfl, rfl⟩
end Go.Proofs.YtkabnbopakfknaaDoor
