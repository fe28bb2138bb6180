/- Proved: for every input of bulk at most 1048576 the law FnPatternObjectStringInBraces returns true and leaves its arguments as they were, the listed variables being as the program's text lays them (a tied card). Conditions: none beyond the given statement. -/
import Derived.Test.YthfhfocdbkieoaaDoorCards
import Derived.Test.YthfhfocdbkieoaaDoorTie
import Derived.WalkKit
import Derived.ProofKit
import Derived.OpenShut
import Derived.ShutString
import Derived.ChangeOld
import Derived.Below
import Derived.WalkLawsBesides
import Derived.Deep.DeepHandedRow
import Derived.Test.YthfhfocdbkieoaaDoorLaid
import Derived.Test.YthfhfocdbkieoaaDoorLawS36
import Derived.PinnedBridge
namespace Go.Proofs.YthfhfocdbkieoaaDoor.fnPatternObjectStringInBracesUpto
open Go.ChangeShapes Go.WideShapes Go.ChangeAt Go.RowKit
open Go.ChangeMaps (open_string shut_string)
set_option linter.unusedVariables false

set_option maxRecDepth 100000 in
theorem walk (H : Type) (enc : TypeId × Value → H) (base : Nat) (v0 : Value) (d0 : DataW H) (p0 : List MemPlace) (a1 : Int) (w : World) (o0 : Value.okWide Tryd.prog w .any base 33 v0) (k0 : DataW.Trod enc Tryd.prog w 0 (fun _ => true) true 33 v0 d0 p0) (lt0 : ∀ x ∈ p0, x.block < w.heap.size) (w1 : (Lit.int .i64 a1).wf = true) (small : Rows.uptoBulkAll (H := H) [d0, .lit (.int .i64 a1)] ≤ 1048576) (hL : laidMetH Tryd.prog Rows.fnPatternObjectStringInBracesUptoRow.laid w) :
    Calls Tryd.prog 5 #[v0, .int .i64 a1] w fun e w' => e = .returned (.bool true) ∧ Below w.heap.size w w' := by
  have hT := tabs_of (l := Rows.fnPatternObjectStringInBracesUptoRow.laid) (by kernel_rfl) (by rw [← Pinned.utf8First_eq]; first | exact List.Mem.head _ | exact List.Mem.tail _ (List.Mem.head _)) (by rw [show Lib.acceptData = Rows.laid_unicode_utf8_acceptRanges from by kernel_rfl]; first | exact List.Mem.head _ | exact List.Mem.tail _ (List.Mem.head _)) hL
  obtain ⟨cs, rfl, hsz⟩ := okWide_struct Tryd.underlying33 o0
  obtain ⟨m, hm⟩ := k0
  have hsm : Rows.uptoBulk d0 ≤ 1048576 := by
    simp only [Rows.uptoBulkAll, Rows.uptoBulk] at small
    omega
  obtain ⟨hS, k, q, hq, p, vb, T, hcs, hle, hTl, hM⟩ := (both (enc := enc) w m).2 cs.toList (Rows.uptoBulk d0) ⟨(d0, p0), hm, rfl⟩ (by omega)
  obtain rfl : cs = #[.string k, .bool hq, .string q, .pointer p] := Array.toList_inj.1 hcs
  exact lawS k q hq p vb (Rows.uptoBulk d0) T a1 w hle hsm hTl hS hM hT

theorem laid_met (os : Os) : laidMet Tryd.prog Rows.fnPatternObjectStringInBracesUptoRow.laid ((laidWorld os).forCall (fun _ _ => 0) ⟨#[], #[.agg #[.string ByteArray.empty, .bool false, .string ByteArray.empty, .pointer none], .int .i64 0], []⟩).memory :=
  laidMet_of_run' 8 (by kernel_rfl) (by kernel_rfl)
theorem reads (os : Os) {H : Type} (enc : TypeId × Value → H) : ∃ places, DataW.whole enc Tryd.prog ((laidWorld os).forCall (fun _ _ => 0) ⟨#[], #[.agg #[.string ByteArray.empty, .bool false, .string ByteArray.empty, .pointer none], .int .i64 0], []⟩).memory Tryd.f5.params.toList Rows.fnPatternObjectStringInBracesSpec.vars false (#[.agg #[.string ByteArray.empty, .bool false, .string ByteArray.empty, .pointer none], .int .i64 0] : Array Value).toList 8 = some ([.agg [.lit (.string []), .lit (.bool false), .lit (.string []), .nil], .lit (.int .i64 0)], [], places) :=
  ⟨[], by kernel_rfl⟩

set_option maxRecDepth 100000 in
theorem lifted (os : Os) (started : os.Started) (H : Type) (enc : TypeId × Value → H) (F : Stop.Interp) :
    ReturnsInHanded {} Tryd.checked os 5 .any ((Rows.OpenSpec.upto Rows.fnPatternObjectStringInBracesSpec).preRow enc Tryd.prog Tryd.f5 Rows.fnPatternObjectStringInBracesUptoRow.domain false Rows.fnPatternObjectStringInBracesUptoRow.laid) (((Rows.OpenSpec.upto Rows.fnPatternObjectStringInBracesSpec).at F).post enc Tryd.prog Tryd.f5 false true false false) := by
  obtain ⟨places, hx⟩ := reads os enc
  refine returnsInHanded_of_row (C := Tryd.checked) (s := Rows.OpenSpec.upto Rows.fnPatternObjectStringInBracesSpec) own started (by kernel_rfl) Tryd.func5
    (witness_row_at (enc := enc) (C := Tryd.checked) false (laidWorld os) #[.agg #[.string ByteArray.empty, .bool false, .string ByteArray.empty, .pointer none], .int .i64 0] rfl (by kernel_rfl) (by kernel_rfl) (by kernel_rfl)
      (OpenSpec.preRow_of_cond 8 hx (by kernel_rfl) (fun k hk => by cases hk; kernel_rfl) (by kernel_rfl) (laid_met os))) ?_
  intro W base args ds gs before hval0 hW _ hcond _ hL _ _
  have hval : ∀ (j : Nat) t v, Tryd.f5.params[j]? = some t → args[j]? = some v → Value.okWide Tryd.prog W .any base t v := hval0
  have hW' := hW
  obtain ⟨p, q, hA0, hV, rfl, hfz, hnd⟩ := hW
  have hA : DataW.TrodAll enc Tryd.prog W 0 (fun _ => true) true Tryd.f5.params.toList args.toList ds p := hA0
  rw [Tryd.params5] at hA hval
  obtain ⟨v0, vs0, d0, ds0, p0, q0, hargs, rfl, rfl, h0, r0⟩ := trodAll_cons hA
  obtain ⟨v1, vs1, d1, ds1, p1, q1, rfl, rfl, rfl, h1, r1⟩ := trodAll_cons r0
  obtain ⟨rfl, rfl, rfl⟩ := trodAll_nil r1
  obtain rfl : args = #[v0, v1] := by cases args; simp_all
  obtain ⟨rfl, rfl⟩ := trodVars_none hV
  have lt0 : ∀ x ∈ p0, x.block < W.heap.size := by obtain ⟨m, hm⟩ := h0; exact DataW.trod_lt m _ _ _ hm
  obtain ⟨a1, rfl, rfl, rfl, w1⟩ := open_int Tryd.underlying3 (hval 1 3 v1 rfl rfl) h1
  have small : Rows.uptoBulkAll (H := H) [d0, .lit (.int .i64 a1)] ≤ 1048576 := of_decide_eq_true (hcond _ rfl)
  clear hA0 hval0
  refine (walk H enc base v0 d0 p0 a1 W (hval 0 33 v0 rfl rfl) h0 lt0 w1 small hL).mono fun e W' ⟨he, bel⟩ => ?_
  subst he
  exact ⟨_, rfl, _, _, _, [], _, [], hW', trodAll_mk1 (shut_bool Tryd.underlying4 _), (trodAll_cons_mk (Below.trod laidOut (by kernel_rfl) (of_decide_eq_true (by kernel_rfl)) h0 bel lt0) (trodAll_cons_mk (shut_int Tryd.underlying3 w1) trodAll_mk0)), rfl, bel.frame _, fun h => by cases h⟩

theorem over : Rows.fnPatternObjectStringInBracesUptoRow.holds Tryd.pinned (Rows.OpenSpec.upto Rows.fnPatternObjectStringInBracesSpec) :=
  OpenClaim.holds_of_cond 5 Tryd.f5 rfl rfl rfl rfl rfl rfl rfl ⟨rfl, rfl, rfl, rfl, rfl⟩ rfl rfl rfl rfl rfl (by kernel_rfl) Tryd.func5 (by kernel_rfl)
    (of_decide_eq_true (by kernel_rfl)) (by unfold Func.isWrapper; first | (rw [if_pos (by decide +kernel)]; kernel_rfl) | (rw [if_neg (by decide +kernel)]; exact ⟨rfl, rfl⟩))
    (fun os started H enc _ F => by rw [OpenClaim.pre_eq_preRow]; exact lifted os started H enc F)

theorem plain (f : FuncId) (fn : Func) (hf : Tryd.pinned.checked.prog.funcNamed "github.com/itchyny/gojq/n001_36.FnPatternObjectStringInBraces" = some f) (hfn : Tryd.pinned.checked.prog.funcs[f]? = some fn) :
    false = Tryd.pinned.checked.prog.looks [] ∧ ∀ (j : Nat) t, fn.params[j]? = some t → Tryd.pinned.checked.prog.wantsStandIn t = false := by
  obtain rfl : f = 5 := Option.some.inj ((show Tryd.prog.funcNamed "github.com/itchyny/gojq/n001_36.FnPatternObjectStringInBraces" = some 5 by kernel_rfl).symm.trans hf) |>.symm
  obtain rfl : fn = Tryd.f5 := (Option.some.inj (Tryd.func5.symm.trans hfn)).symm
  refine ⟨by kernel_rfl, fun j t ht => ?_⟩
  rw [Tryd.params5] at ht
  have hm := Array.mem_of_getElem? ht
  have ht' : t = 33 ∨ t = 3 := by simpa using hm
  rcases ht' with rfl | rfl
  · exact (show Tryd.prog.wantsStandIn 33 = false by kernel_rfl)
  · exact (show Tryd.prog.wantsStandIn 3 = false by kernel_rfl)

/-- The given statement. -/
theorem proved : Rows.FnPatternObjectStringInBracesUptoCardSaid :=
  Claim7.holds_tied_plain_at .later [] _ _ _ _ over (fun _ h => by cases h) (by kernel_rfl) (fun _ h => by cases h) fnPatternObjectStringInBracesUpto_row_tie rfl ⟨rfl, rfl⟩ (by kernel_rfl) rfl plain (by kernel_rfl)
#print axioms proved
end Go.Proofs.YthfhfocdbkieoaaDoor.fnPatternObjectStringInBracesUpto
