/- math.Log and math.Floor, called. -/
import Derived.Test.YtlemgjlnlegcgaaDoorLg54
namespace Go.Proofs.YtlemgjlnlegcgaaDoor
open Go.RowKit
open FL
open Go.Extern
set_option linter.unusedVariables false
set_option linter.unusedSimpArgs false

theorem archLog_run (x : Nat) (w : World) : Sem.run Tryd.prog (callFunc 19 #[.float .f64 x]) w = Sem.run Tryd.prog (MathLog.archLog #[.float .f64 x] >>= fun v => pure (.value v)) w := by kernel_rfl
theorem archFloor_run (x : Nat) (w : World) : Sem.run Tryd.prog (callFunc 30 #[.float .f64 x]) w = Sem.run Tryd.prog (MathFloor.toIntegral "math.archFloor" .down #[.float .f64 x] >>= fun v => pure (.value v)) w := by kernel_rfl
theorem log_call {x r : Nat} (h : MathLog.archLog #[.float .f64 x] = pure (.float .f64 r)) (w : World) : Calls Tryd.prog 15 #[.float .f64 x] w fun e w' => e = .returned (.float .f64 r) ∧ w' = w := by
  have h2 : ∀ w, Sem.run Tryd.prog (callFunc 19 #[.float .f64 x]) w = .ok (.value (.float .f64 r)) w := fun w => by
    rw [archLog_run, h]
    rfl
  clear h
  go_enter Tryd.func15, Tryd.ntmps15
  go_wp2_with fail
  go_ret
  exact ⟨rfl, rfl⟩
theorem log_inf (w : World) : Calls Tryd.prog 15 #[.float .f64 9218868437227405312] w fun e w' => e = .returned (.float .f64 9218868437227405312) ∧ w' = w :=
  log_call (by kernel_rfl) w
/-- The greatest whole number not above a number that is not negative. -/
def flr (x : Nat) : Nat := Ieee.double.nearest (sg x) (Ieee.Toward.down.cut (sg x) (mg x <<< ((pl x : Int) - 3000).toNat) (-((pl x : Int) - 3000)).toNat) 0
theorem floor_call {x : Nat} (h : Fnt x) (w : World) : Calls Tryd.prog 22 #[.float .f64 x] w fun e w' => e = .returned (.float .f64 (flr x)) ∧ w' = w := by
  have h2 : ∀ w, Sem.run Tryd.prog (callFunc 30 #[.float .f64 x]) w = .ok (.value (.float .f64 (flr x))) w := fun w => by
    rw [archFloor_run]
    have e : MathFloor.toIntegral "math.archFloor" .down #[.float .f64 x] = pure (.float .f64 (flr x)) := by
      have hr := read_fin h
      show (match Ieee.double.read x with
        | .nan s t => _
        | d => _) = _
      rw [hr]
      rfl
    rw [e]
    rfl
  clear h
  go_enter Tryd.func22, Tryd.ntmps22
  go_wp2_with fail
  go_ret
  exact ⟨rfl, rfl⟩
end Go.Proofs.YtlemgjlnlegcgaaDoor
