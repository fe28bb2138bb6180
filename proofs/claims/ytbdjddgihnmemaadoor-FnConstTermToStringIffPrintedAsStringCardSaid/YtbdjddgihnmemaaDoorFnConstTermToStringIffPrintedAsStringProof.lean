/- Proved: for every input the law FnConstTermToStringIffPrintedAsString returns true and leaves its arguments as they were, the listed variables being as the program's text lays them (a tied card). Conditions: none beyond the given statement. -/
import Derived.Test.YtbdjddgihnmemaaDoorCards
import Derived.Test.YtbdjddgihnmemaaDoorTie
import Derived.WalkKit
import Derived.ProofKit
import Derived.OpenShut
import Derived.ShutString
import Derived.ChangeOld
import Derived.Below
import Derived.WalkLawsBesides
import Derived.Deep.DeepHandedRow
import Derived.Test.YtbdjddgihnmemaaDoorLaid
import Derived.Test.YtbdjddgihnmemaaDoorLawT41
import Derived.Test.YtbdjddgihnmemaaDoorLaid
import Derived.PinnedBridge
namespace Go.Proofs.YtbdjddgihnmemaaDoor.fnConstTermToStringIffPrintedAsString
open Go.ChangeShapes Go.WideShapes Go.ChangeAt Go.RowKit
open Go.ChangeMaps (open_string shut_string)
set_option linter.unusedVariables false

set_option maxRecDepth 100000 in
theorem walk (H : Type) (enc : TypeId × Value → H) (base : Nat) (a0 : Bool) (a1 : Bool) (a2 : Bool) (a3 : Int) (a4 : Bool) (a5 : Bool) (a6 : Bool) (a7 : ByteArray) (w : World) (w3 : (Lit.int .i64 a3).wf = true) (w7 : a7.size ≤ maxLen) (hL : laidMetH Tryd.prog Rows.fnConstTermToStringIffPrintedAsStringRow.laid w) :
    Calls Tryd.prog 4 #[.bool a0, .bool a1, .bool a2, .int .i64 a3, .bool a4, .bool a5, .bool a6, .string a7] w fun e w' => e = .returned (.bool true) ∧ Below w.heap.size w w' := by
  have hT := tabs_of (l := Rows.fnConstTermToStringIffPrintedAsStringRow.laid) (by kernel_rfl) (by rw [← Pinned.utf8First_eq]; first | exact List.Mem.head _ | exact List.Mem.tail _ (List.Mem.head _)) (by rw [show Lib.acceptData = Rows.laid_unicode_utf8_acceptRanges from by kernel_rfl]; first | exact List.Mem.head _ | exact List.Mem.tail _ (List.Mem.head _)) hL
  exact lawT a0 a1 a2 a3 a4 a5 a6 a7 w hT (bounds_i64 w3).1 (bounds_i64 w3).2 w7

theorem laid_met (os : Os) : laidMet Tryd.prog Rows.fnConstTermToStringIffPrintedAsStringRow.laid ((laidWorld os).forCall (fun _ _ => 0) ⟨#[], #[.bool false, .bool false, .bool false, .int .i64 0, .bool false, .bool false, .bool false, .string ByteArray.empty], []⟩).memory :=
  laidMet_of_run' 8 (by kernel_rfl) (by kernel_rfl)
theorem reads (os : Os) {H : Type} (enc : TypeId × Value → H) : ∃ places, DataW.whole enc Tryd.prog ((laidWorld os).forCall (fun _ _ => 0) ⟨#[], #[.bool false, .bool false, .bool false, .int .i64 0, .bool false, .bool false, .bool false, .string ByteArray.empty], []⟩).memory Tryd.f4.params.toList Rows.fnConstTermToStringIffPrintedAsStringSpec.vars false (#[.bool false, .bool false, .bool false, .int .i64 0, .bool false, .bool false, .bool false, .string ByteArray.empty] : Array Value).toList 8 = some ([.lit (.bool false), .lit (.bool false), .lit (.bool false), .lit (.int .i64 0), .lit (.bool false), .lit (.bool false), .lit (.bool false), .lit (.string [])], [], places) :=
  ⟨[], by kernel_rfl⟩

set_option maxRecDepth 100000 in
theorem lifted (os : Os) (started : os.Started) (H : Type) (enc : TypeId × Value → H) (F : Stop.Interp) :
    ReturnsInHanded {} Tryd.checked os 4 .any ((OpenSpec.ofChange Rows.fnConstTermToStringIffPrintedAsStringSpec).preRow enc Tryd.prog Tryd.f4 Rows.fnConstTermToStringIffPrintedAsStringRow.domain false Rows.fnConstTermToStringIffPrintedAsStringRow.laid) (((OpenSpec.ofChange Rows.fnConstTermToStringIffPrintedAsStringSpec).at F).post enc Tryd.prog Tryd.f4 false true false false) := by
  obtain ⟨places, hx⟩ := reads os enc
  refine returnsInHanded_of_row (C := Tryd.checked) (s := OpenSpec.ofChange Rows.fnConstTermToStringIffPrintedAsStringSpec) own started (by kernel_rfl) Tryd.func4
    (witness_row_at (enc := enc) (C := Tryd.checked) false (laidWorld os) #[.bool false, .bool false, .bool false, .int .i64 0, .bool false, .bool false, .bool false, .string ByteArray.empty] rfl (by kernel_rfl) (by kernel_rfl) (by kernel_rfl)
      (OpenSpec.preRow_of_cond 8 hx (by kernel_rfl) (fun k hk => by cases hk) (by kernel_rfl) (laid_met os))) ?_
  intro W base args ds gs before hval0 hW _ hcond _ hL _ _
  have hval : ∀ (j : Nat) t v, Tryd.f4.params[j]? = some t → args[j]? = some v → Value.okWide Tryd.prog W .any base t v := hval0
  have hW' := hW
  obtain ⟨p, q, hA0, hV, rfl, hfz, hnd⟩ := hW
  have hA : DataW.TrodAll enc Tryd.prog W 0 (fun _ => true) true Tryd.f4.params.toList args.toList ds p := hA0
  rw [Tryd.params4] at hA hval
  obtain ⟨v0, vs0, d0, ds0, p0, q0, hargs, rfl, rfl, h0, r0⟩ := trodAll_cons hA
  obtain ⟨v1, vs1, d1, ds1, p1, q1, rfl, rfl, rfl, h1, r1⟩ := trodAll_cons r0
  obtain ⟨v2, vs2, d2, ds2, p2, q2, rfl, rfl, rfl, h2, r2⟩ := trodAll_cons r1
  obtain ⟨v3, vs3, d3, ds3, p3, q3, rfl, rfl, rfl, h3, r3⟩ := trodAll_cons r2
  obtain ⟨v4, vs4, d4, ds4, p4, q4, rfl, rfl, rfl, h4, r4⟩ := trodAll_cons r3
  obtain ⟨v5, vs5, d5, ds5, p5, q5, rfl, rfl, rfl, h5, r5⟩ := trodAll_cons r4
  obtain ⟨v6, vs6, d6, ds6, p6, q6, rfl, rfl, rfl, h6, r6⟩ := trodAll_cons r5
  obtain ⟨v7, vs7, d7, ds7, p7, q7, rfl, rfl, rfl, h7, r7⟩ := trodAll_cons r6
  obtain ⟨rfl, rfl, rfl⟩ := trodAll_nil r7
  obtain rfl : args = #[v0, v1, v2, v3, v4, v5, v6, v7] := by cases args; simp_all
  obtain ⟨rfl, rfl⟩ := trodVars_none hV
  obtain ⟨a0, rfl, rfl, rfl⟩ := open_bool Tryd.underlying4 (hval 0 4 v0 rfl rfl) h0
  obtain ⟨a1, rfl, rfl, rfl⟩ := open_bool Tryd.underlying4 (hval 1 4 v1 rfl rfl) h1
  obtain ⟨a2, rfl, rfl, rfl⟩ := open_bool Tryd.underlying4 (hval 2 4 v2 rfl rfl) h2
  obtain ⟨a3, rfl, rfl, rfl, w3⟩ := open_int Tryd.underlying2 (hval 3 2 v3 rfl rfl) h3
  obtain ⟨a4, rfl, rfl, rfl⟩ := open_bool Tryd.underlying4 (hval 4 4 v4 rfl rfl) h4
  obtain ⟨a5, rfl, rfl, rfl⟩ := open_bool Tryd.underlying4 (hval 5 4 v5 rfl rfl) h5
  obtain ⟨a6, rfl, rfl, rfl⟩ := open_bool Tryd.underlying4 (hval 6 4 v6 rfl rfl) h6
  obtain ⟨a7, rfl, rfl, rfl, w7⟩ := open_string Tryd.underlying9 (hval 7 9 v7 rfl rfl) h7
  clear hA0 hval0
  refine (walk H enc base a0 a1 a2 a3 a4 a5 a6 a7 W w3 w7 hL).mono fun e W' ⟨he, bel⟩ => ?_
  subst he
  exact ⟨_, rfl, _, _, _, [], _, [], hW', trodAll_mk1 (shut_bool Tryd.underlying4 _), (trodAll_cons_mk (shut_bool Tryd.underlying4 _) (trodAll_cons_mk (shut_bool Tryd.underlying4 _) (trodAll_cons_mk (shut_bool Tryd.underlying4 _) (trodAll_cons_mk (shut_int Tryd.underlying2 w3) (trodAll_cons_mk (shut_bool Tryd.underlying4 _) (trodAll_cons_mk (shut_bool Tryd.underlying4 _) (trodAll_cons_mk (shut_bool Tryd.underlying4 _) (trodAll_cons_mk (shut_string Tryd.underlying9 w7) trodAll_mk0)))))))), rfl, bel.frame _, fun h => by cases h⟩

theorem over : Rows.fnConstTermToStringIffPrintedAsStringRow.holds Tryd.pinned (OpenSpec.ofChange Rows.fnConstTermToStringIffPrintedAsStringSpec) :=
  OpenClaim.holds_of_cond 4 Tryd.f4 rfl rfl rfl rfl rfl rfl rfl ⟨rfl, rfl, rfl, rfl, rfl⟩ rfl rfl rfl rfl rfl (by kernel_rfl) Tryd.func4 (by kernel_rfl)
    (of_decide_eq_true (by kernel_rfl)) (by unfold Func.isWrapper; first | (rw [if_pos (by decide +kernel)]; kernel_rfl) | (rw [if_neg (by decide +kernel)]; exact ⟨rfl, rfl⟩))
    (fun os started H enc _ F => by rw [OpenClaim.pre_eq_preRow]; exact lifted os started H enc F)

theorem plain (f : FuncId) (fn : Func) (hf : Tryd.pinned.checked.prog.funcNamed "github.com/itchyny/gojq/n001_41.FnConstTermToStringIffPrintedAsString" = some f) (hfn : Tryd.pinned.checked.prog.funcs[f]? = some fn) :
    false = Tryd.pinned.checked.prog.looks [] ∧ ∀ (j : Nat) t, fn.params[j]? = some t → Tryd.pinned.checked.prog.wantsStandIn t = false := by
  obtain rfl : f = 4 := Option.some.inj ((show Tryd.prog.funcNamed "github.com/itchyny/gojq/n001_41.FnConstTermToStringIffPrintedAsString" = some 4 by kernel_rfl).symm.trans hf) |>.symm
  obtain rfl : fn = Tryd.f4 := (Option.some.inj (Tryd.func4.symm.trans hfn)).symm
  refine ⟨by kernel_rfl, fun j t ht => ?_⟩
  rw [Tryd.params4] at ht
  have hm := Array.mem_of_getElem? ht
  have ht' : t = 4 ∨ t = 4 ∨ t = 4 ∨ t = 2 ∨ t = 4 ∨ t = 4 ∨ t = 4 ∨ t = 9 := by simpa using hm
  rcases ht' with rfl | rfl | rfl | rfl | rfl | rfl | rfl | rfl
  · exact (show Tryd.prog.wantsStandIn 4 = false by kernel_rfl)
  · exact (show Tryd.prog.wantsStandIn 4 = false by kernel_rfl)
  · exact (show Tryd.prog.wantsStandIn 4 = false by kernel_rfl)
  · exact (show Tryd.prog.wantsStandIn 2 = false by kernel_rfl)
  · exact (show Tryd.prog.wantsStandIn 4 = false by kernel_rfl)
  · exact (show Tryd.prog.wantsStandIn 4 = false by kernel_rfl)
  · exact (show Tryd.prog.wantsStandIn 4 = false by kernel_rfl)
  · exact (show Tryd.prog.wantsStandIn 9 = false by kernel_rfl)

/-- The given statement. -/
theorem proved : Rows.FnConstTermToStringIffPrintedAsStringCardSaid :=
  Claim7.holds_tied_plain_at .later [] _ _ _ _ over (fun _ h => by cases h) (by kernel_rfl) (fun _ h => by cases h) fnConstTermToStringIffPrintedAsString_row_tie rfl ⟨rfl, rfl⟩ (by kernel_rfl) rfl plain (by kernel_rfl)
#print axioms proved
end Go.Proofs.YtbdjddgihnmemaaDoor.fnConstTermToStringIffPrintedAsString
