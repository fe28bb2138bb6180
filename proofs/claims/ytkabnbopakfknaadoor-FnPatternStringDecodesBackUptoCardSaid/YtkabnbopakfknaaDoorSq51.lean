/- Plain: where an element stands in a sequence's text. -/
import Derived.Test.YtkabnbopakfknaaDoorOt51
namespace Go.Proofs.YtkabnbopakfknaaDoor
open Go.RowKit
set_option linter.unusedVariables false

def sepT (i : Nat) : List UInt8 := if i = 0 then [] else [44, 32]
theorem seqT_split (Ts : Nat → List UInt8) (i : Nat) : ∀ l, i < l → ∃ rest, seqT [44, 32] Ts l = seqT [44, 32] Ts i ++ sepT i ++ Ts i ++ rest ∧ (i + 1 = l → rest = []) ∧ (i + 1 < l → ∃ r, rest = [44, 32] ++ r)
  | l + 1, h => by
    by_cases e : i = l
    · subst e
      exact ⟨[], by simp [seqT, sepT], fun _ => rfl, fun h => by omega⟩
    · obtain ⟨rest, h1, h2, h3⟩ := seqT_split Ts i l (by omega)
      refine ⟨rest ++ ([44, 32] ++ Ts l), ?_, fun h => by omega, fun _ => ?_⟩
      · show seqT [44, 32] Ts l ++ (if l = 0 then [] else [44, 32]) ++ Ts l = _
        rw [h1, if_neg (by omega)]
        simp [List.append_assoc]
      · by_cases e2 : i + 1 = l
        · rw [h2 e2]; exact ⟨Ts l, rfl⟩
        · obtain ⟨r, hr⟩ := h3 (by omega)
          exact ⟨r ++ ([44, 32] ++ Ts l), by rw [hr, List.append_assoc]⟩
/-- Behind each element stands a comma or the closing byte: no byte of a name. -/
theorem post_ok {rest post : List UInt8} {cl : UInt8} {i l : Nat} (hi : i < l) (h2 : i + 1 = l → rest = []) (h3 : i + 1 < l → ∃ r, rest = [44, 32] ++ r) (hcl : identN cl.toNat = false) : ∀ c, (rest ++ [cl] ++ post).head? = some c → identN c.toNat = false := by
  intro c hc
  by_cases e : i + 1 = l
  · rw [h2 e] at hc
    simp at hc
    rw [← hc]; exact hcl
  · obtain ⟨r, hr⟩ := h3 (by omega)
    rw [hr] at hc
    simp at hc
    rw [← hc]; decide
end Go.Proofs.YtkabnbopakfknaaDoor
