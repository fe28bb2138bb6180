/- Contracts of argFunc3 and accept. -/
import Derived.Test.YtohlglecpbgekaaRows
import Derived.Test.YtohlglecpbgekaaKit
import Derived.Laws.EntriesVeiled
import Derived.Outline
namespace Go.Proofs.Ytohlglecpbgekaa
open Go.RowKit

set_option maxHeartbeats 400000 in
theorem arg3_any (w : World) :
    Calls Try.prog 6 #[.nilFunc] w fun e w' => e = .returned (.agg #[.int .i64 8, .bool false, .func (.func 8) #[] #[.pointer (some ⟨w.heap.size, 0, none⟩)]]) ∧ Below w.heap.size w w' := by
  go_enter Try.func6, Try.ntmps6
  go_wp2
  exact bodyPost_ret (v := .agg #[.int .i64 8, .bool false, .func (.func 8) #[] #[.pointer (some ⟨w.heap.size, 0, none⟩)]]) (by simp [results, Try.results6, go_sem]) rfl ⟨rfl, (((Below.refl _ _).alloc (Nat.le_refl _) _).alloc (by simp) _)⟩

theorem shifts : (List.range 65).all (fun k => (bits .and .i64 8 (wrap64 (2 ^ k)) != 0) == (k == 3)) = true := by decide +kernel
theorem arity (c : Nat) : (bits .and .i64 8 (wrap64 (2 ^ min c 64)) != 0) = (c == 3) := by
  have h := List.all_eq_true.1 shifts (min c 64) (by rw [List.mem_range]; omega)
  have h2 := eq_of_beq h
  rw [h2, Bool.eq_iff_iff]
  simp only [beq_iff_eq]
  omega

set_option maxHeartbeats 400000 in
theorem accept_any (c : Nat) (f : Value) (w : World) (_hc : c ≤ 65536) :
    Calls Try.prog 7 #[.agg #[.int .i64 8, .bool false, f], .int .i64 c] w fun e w' => e = .returned (.bool (c == 3)) ∧ Below w.heap.size w w' := by
  go_enter Try.func7, Try.ntmps7
  go_wp2
  go_quiet (fail)
  go_wp2
  go_ret
  exact ⟨ret_bool (arity c), below_drewN ((Below.refl _ _).alloc (Nat.le_refl _) _) _⟩

theorem field1 (v : Value) (W : World) : (Instr.field 26 (.agg #[.int .i64 8, .bool false, v]) 1).run Try.prog W = .ok (.bool false) W := by kernel_rfl

theorem iter_any (w : World) : Calls Try.prog 4 #[] w fun e w' => e = .returned (.bool false) ∧ Below w.heap.size w w' := by
  have hf := field1
  go_enter Try.func4, Try.ntmps4
  go_wp2_with fail
  refine (arg3_any _).mono ?_
  rintro e w1 ⟨rfl, b1⟩
  go_wp2_with fail
  go_ret
  exact ⟨rfl, b1⟩

theorem accepts_any (c : Nat) (w : World) (hc : c ≤ 65536) :
    Calls Try.prog 5 #[.int .i64 c] w fun e w' => e = .returned (.bool (c == 3)) ∧ Below w.heap.size w w' := by
  go_enter Try.func5, Try.ntmps5
  go_wp2_with fail
  refine (arg3_any _).mono ?_
  rintro e w1 ⟨rfl, b1⟩
  go_wp2_with fail
  refine (accept_any c _ _ hc).mono ?_
  rintro e w2 ⟨rfl, b2⟩
  go_wp2_with fail
  go_ret
  exact ⟨rfl, b1.trans (b2.mono b1.size)⟩

theorem law3 (c : Nat) (w : World) (hc : c ≤ 65536) :
    Calls Try.prog 3 #[.int .i64 c] w fun e w' => e = .returned (.bool true) ∧ Below w.heap.size w w' := by
  go_enter Try.func3, Try.ntmps3
  go_wp2_with fail
  refine (iter_any _).mono ?_
  rintro e w1 ⟨rfl, b1⟩
  go_wp2_with fail
  refine (accepts_any c _ hc).mono ?_
  rintro e w2 ⟨rfl, b2⟩
  go_wp2_with fail
  go_ret
  refine ⟨ret_bool ?_, b1.trans (b2.mono b1.size)⟩
  have : (c == 3) = ((c : Int) == 3) := by rw [Bool.eq_iff_iff]; simp only [beq_iff_eq]; omega
  rw [this]; simp

theorem out3 (c : Int) (w : World) (hc : ¬ (0 ≤ c ∧ c ≤ 65536)) :
    Calls Try.prog 3 #[.int .i64 c] w fun e w' => e = .returned (.bool true) ∧ Below w.heap.size w w' := by
  go_enter Try.func3, Try.ntmps3
  go_wp2_with fail
  all_goals first | omega | (go_ret; exact ⟨rfl, Below.refl _ _⟩)

end Go.Proofs.Ytohlglecpbgekaa
