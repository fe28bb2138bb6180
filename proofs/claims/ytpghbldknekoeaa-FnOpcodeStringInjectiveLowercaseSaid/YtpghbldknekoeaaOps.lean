/- Contracts of (opcode).String and of the law's own zzNthWord. -/
import Derived.Test.YtpghbldknekoeaaRows
import Derived.Test.YtpghbldknekoeaaKit
namespace Go.Proofs.Ytpghbldknekoeaa
open Go.RowKit

/-- The thirty names, byte by byte, in declaration order. -/
def names : List (List UInt8) := [
  [110, 111, 112],
  [112, 117, 115, 104],
  [112, 111, 112],
  [100, 117, 112],
  [99, 111, 110, 115, 116],
  [108, 111, 97, 100],
  [115, 116, 111, 114, 101],
  [111, 98, 106, 101, 99, 116],
  [97, 112, 112, 101, 110, 100],
  [102, 111, 114, 107],
  [102, 111, 114, 107, 116, 114, 121, 98, 101, 103, 105, 110],
  [102, 111, 114, 107, 116, 114, 121, 101, 110, 100],
  [102, 111, 114, 107, 97, 108, 116],
  [102, 111, 114, 107, 108, 97, 98, 101, 108],
  [98, 97, 99, 107, 116, 114, 97, 99, 107],
  [106, 117, 109, 112],
  [106, 117, 109, 112, 105, 102, 110, 111, 116],
  [105, 110, 100, 101, 120],
  [105, 110, 100, 101, 120, 97, 114, 114, 97, 121],
  [99, 97, 108, 108],
  [99, 97, 108, 108, 114, 101, 99],
  [112, 117, 115, 104, 112, 99],
  [99, 97, 108, 108, 112, 99],
  [115, 99, 111, 112, 101],
  [114, 101, 116],
  [105, 116, 101, 114],
  [101, 120, 112, 98, 101, 103, 105, 110],
  [101, 120, 112, 101, 110, 100],
  [112, 97, 116, 104, 98, 101, 103, 105, 110],
  [112, 97, 116, 104, 101, 110, 100]]
def nameOf (n : Nat) : ByteArray := ⟨(names.getD n []).toArray⟩

theorem upto29 {P : Nat → Prop} (h : ∀ n ∈ List.range 30, P n) (n : Nat) (hn : n ≤ 29) : P n := h n (by rw [List.mem_range]; omega)

set_option maxHeartbeats 4000000 in
theorem opString_any (n : Nat) (w : World) (hn : n ≤ 29) :
    Calls Try.prog 7 #[.int .i64 n] w fun e w' => e = .returned (.string (nameOf n)) ∧ w = w' := by
  have hd : ∀ m ∈ List.range 30, Hid (Calls Try.prog 7 #[.int .i64 m] w fun e w' => e = .returned (.string (nameOf m)) ∧ w = w') := by
    simp only [List.range, List.range.loop, List.mem_cons, List.not_mem_nil, or_false, forall_eq_or_imp, forall_eq]
    refine ⟨?_, ?_, ?_, ?_, ?_, ?_, ?_, ?_, ?_, ?_, ?_, ?_, ?_, ?_, ?_, ?_, ?_, ?_, ?_, ?_, ?_, ?_, ?_, ?_, ?_, ?_, ?_, ?_, ?_, ?_⟩
    all_goals
      show Calls _ _ _ _ _
      go_enter Try.func7, Try.ntmps7
      go_wp2
      go_ret
      exact ⟨rfl, rfl⟩
  exact (hd n (by rw [List.mem_range]; omega)).out

theorem zzOp_any (n : Nat) (w : World) (hn : n ≤ 29) :
    Calls Try.prog 5 #[.int .i64 n] w fun e w' => e = .returned (.string (nameOf n)) ∧ w = w' := by
  go_enter Try.func5, Try.ntmps5
  go_wp2_with (go_at_call 7; refine (opString_any _ _ hn).mono ?_; rintro e w' ⟨rfl, rfl⟩)
  go_ret
  exact ⟨rfl, rfl⟩

end Go.Proofs.Ytpghbldknekoeaa
