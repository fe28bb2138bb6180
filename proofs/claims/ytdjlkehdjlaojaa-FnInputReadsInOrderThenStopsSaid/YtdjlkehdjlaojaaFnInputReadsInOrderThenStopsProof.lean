/- Proved: for every input the law FnInputReadsInOrderThenStops returns true and leaves its arguments as they were. Conditions: none beyond the given statement. -/
import Derived.Test.YtdjlkehdjlaojaaRows
import Derived.WalkKit
import Derived.ProofKit
import Derived.OpenShut
import Derived.ShutString
import Derived.ChangeOld
import Derived.Below
import Derived.WalkLawsBesides
import Derived.Test.YtdjlkehdjlaojaaLawInp48
namespace Go.Proofs.Ytdjlkehdjlaojaa.fnInputReadsInOrderThenStops
open Go.ChangeShapes Go.WideShapes Go.ChangeAt Go.RowKit
open Go.ChangeMaps (open_string shut_string)
set_option linter.unusedVariables false

theorem own : ownKnob Try.prog.godebug = none := by kernel_rfl
theorem laidOut : laidOutB Try.prog = true := by kernel_rfl

set_option maxRecDepth 100000 in
theorem walk (H : Type) (enc : TypeId × Value → H) (base : Nat) (v0 : Value) (d0 : DataW H) (p0 : List MemPlace) (a1 : Int) (w : World) (o0 : Value.okWide Try.prog w .any base 40 v0) (k0 : DataW.Trod enc Try.prog w 0 (fun _ => true) true 40 v0 d0 p0) (lt0 : ∀ x ∈ p0, x.block < w.heap.size) (w1 : (Lit.int .i64 a1).wf = true) :
    Calls Try.prog 4 #[v0, .int .i64 a1] w fun e w' => e = .returned (.bool true) ∧ Below w.heap.size w w' := by
  obtain ⟨xs, hs, _⟩ := open_is Try.underlying40 Try.underlying3 (by kernel_rfl) o0 k0
  obtain ⟨h1, h2⟩ := bounds_i64 w1
  exact lawInp v0 xs a1 w hs h1 h2

set_option maxRecDepth 100000 in
theorem lifted (os : Os) (started : os.Started) (H : Type) (enc : TypeId × Value → H) :
    ReturnsInHanded {} Try.checked os 4 .any (Rows.fnInputReadsInOrderThenStopsSpec.pre6 enc Try.prog Try.f4 Rows.fnInputReadsInOrderThenStopsRow.domain false) (Rows.fnInputReadsInOrderThenStopsSpec.post enc Try.prog Try.f4 false true false false) := by
  refine returnsInHanded_of_change (C := Try.checked) own started (by kernel_rfl) Try.func4
    (ChangeSpec.witness6 (enc := enc) (C := Try.checked) false ⟨#[], #[.slice none 0 0, .int .i64 0], []⟩ 8 (by kernel_rfl) (by kernel_rfl) (by kernel_rfl) (by kernel_rfl)) ?_
  intro W base args ds gs before hval0 hW hcnd _
  have hval : ∀ (j : Nat) t v, Try.f4.params[j]? = some t → args[j]? = some v → Value.okWide Try.prog W .any base t v := hval0
  have hW' := hW
  obtain ⟨p, q, hA0, hV, rfl, hfz, hnd⟩ := hW
  have hA : DataW.TrodAll enc Try.prog W 0 (fun _ => true) true Try.f4.params.toList args.toList ds p := hA0
  rw [Try.params4] at hA hval
  obtain ⟨v0, vs0, d0, ds0, p0, q0, hargs, rfl, rfl, h0, r0⟩ := trodAll_cons hA
  obtain ⟨v1, vs1, d1, ds1, p1, q1, rfl, rfl, rfl, h1, r1⟩ := trodAll_cons r0
  obtain ⟨rfl, rfl, rfl⟩ := trodAll_nil r1
  obtain rfl : args = #[v0, v1] := by cases args; simp_all
  obtain ⟨rfl, rfl⟩ := trodVars_none hV
  have lt0 : ∀ x ∈ p0, x.block < W.heap.size := by obtain ⟨m, hm⟩ := h0; exact DataW.trod_lt m _ _ _ hm
  obtain ⟨a1, rfl, rfl, rfl, w1⟩ := open_int Try.underlying3 (hval 1 3 v1 rfl rfl) h1
  clear hA0 hval0
  refine (walk H enc base v0 d0 p0 a1 W (hval 0 40 v0 rfl rfl) h0 lt0 w1).mono fun e W' ⟨he, bel⟩ => ?_
  subst he
  exact ⟨_, rfl, _, _, _, [], _, [], hW', trodAll_mk1 (shut_bool Try.underlying4 _), (trodAll_cons_mk (Below.trod laidOut (by kernel_rfl) (of_decide_eq_true (by kernel_rfl)) h0 bel lt0) (trodAll_cons_mk (shut_int Try.underlying3 w1) trodAll_mk0)), rfl, bel.frame _, fun h => by cases h⟩

theorem over : Rows.fnInputReadsInOrderThenStopsRow.holds Try.pinned (OpenSpec.ofChange Rows.fnInputReadsInOrderThenStopsSpec) :=
  OpenClaim.holds_of_wide 4 Try.f4 rfl rfl rfl rfl rfl rfl rfl ⟨rfl, rfl, rfl, rfl, rfl⟩ rfl rfl rfl rfl rfl (by kernel_rfl) Try.func4 (by kernel_rfl)
    (of_decide_eq_true (by kernel_rfl)) (by unfold Func.isWrapper; first | (rw [if_pos (by decide +kernel)]; kernel_rfl) | (rw [if_neg (by decide +kernel)]; exact ⟨rfl, rfl⟩))
    (fun os started H enc _ => lifted os started H enc)

/-- The given statement. -/
theorem proved : Rows.FnInputReadsInOrderThenStopsSaid := over
#print axioms proved
end Go.Proofs.Ytdjlkehdjlaojaa.fnInputReadsInOrderThenStops
