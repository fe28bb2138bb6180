/- Proved: for every input of bulk at most 1048576 the law FnPatternObjectWriteToKeyWins returns true and leaves its arguments as they were, the listed variables being as the program's text lays them (a tied card). Conditions: none beyond the given statement. -/
import Derived.Test.YthfhfocdbkieoaaDoorCards
import Derived.Test.YthfhfocdbkieoaaDoorTie
import Derived.WalkKit
import Derived.ProofKit
import Derived.OpenShut
import Derived.ShutString
import Derived.ChangeOld
import Derived.Below
import Derived.WalkLawsBesides
import Derived.Deep.DeepHandedRow
import Derived.Test.YthfhfocdbkieoaaDoorLaid
import Derived.Test.YthfhfocdbkieoaaDoorLawK36
import Derived.PinnedBridge
namespace Go.Proofs.YthfhfocdbkieoaaDoor.fnPatternObjectWriteToKeyWinsUpto
open Go.ChangeShapes Go.WideShapes Go.ChangeAt Go.RowKit
open Go.ChangeMaps (open_string shut_string)
set_option linter.unusedVariables false

set_option maxRecDepth 100000 in
theorem walk (H : Type) (enc : TypeId × Value → H) (base : Nat) (a0 : ByteArray) (v1 : Value) (d1 : DataW H) (p1 : List MemPlace) (w : World) (w0 : a0.size ≤ maxLen) (o1 : Value.okWide Tryd.prog w .any base 33 v1) (k1 : DataW.Trod enc Tryd.prog w 0 (fun _ => true) true 33 v1 d1 p1) (lt1 : ∀ x ∈ p1, x.block < w.heap.size) (small : Rows.uptoBulkAll (H := H) [.lit (.string a0.data.toList), d1] ≤ 1048576) (hL : laidMetH Tryd.prog Rows.fnPatternObjectWriteToKeyWinsUptoRow.laid w) :
    Calls Tryd.prog 4 #[.string a0, v1] w fun e w' => e = .returned (.bool true) ∧ Below w.heap.size w w' := by
  have hT := tabs_of (l := Rows.fnPatternObjectWriteToKeyWinsUptoRow.laid) (by kernel_rfl) (by rw [← Pinned.utf8First_eq]; first | exact List.Mem.head _ | exact List.Mem.tail _ (List.Mem.head _)) (by rw [show Lib.acceptData = Rows.laid_unicode_utf8_acceptRanges from by kernel_rfl]; first | exact List.Mem.head _ | exact List.Mem.tail _ (List.Mem.head _)) hL
  obtain ⟨cs, rfl, hsz⟩ := okWide_struct Tryd.underlying33 o1
  obtain ⟨m, hm⟩ := k1
  have hsm : a0.size + Rows.uptoBulk d1 ≤ 1048576 := by
    have e : a0.data.toList.length = a0.size := by rw [Array.length_toList]; rfl
    simp only [Rows.uptoBulkAll, Rows.uptoBulk] at small
    omega
  obtain ⟨hS, k, q, hq, p, vb, T, hcs, hle, hTl, hM⟩ := (both (enc := enc) w m).2 cs.toList (Rows.uptoBulk d1) ⟨(d1, p1), hm, rfl⟩ (by omega)
  obtain rfl : cs = #[.string k, .bool hq, .string q, .pointer p] := Array.toList_inj.1 hcs
  exact lawK a0 k q hq p vb (Rows.uptoBulk d1) T w hle hsm hTl hS hM hT

theorem laid_met (os : Os) : laidMet Tryd.prog Rows.fnPatternObjectWriteToKeyWinsUptoRow.laid ((laidWorld os).forCall (fun _ _ => 0) ⟨#[], #[.string ByteArray.empty, .agg #[.string ByteArray.empty, .bool false, .string ByteArray.empty, .pointer none]], []⟩).memory :=
  laidMet_of_run' 8 (by kernel_rfl) (by kernel_rfl)
theorem reads (os : Os) {H : Type} (enc : TypeId × Value → H) : ∃ places, DataW.whole enc Tryd.prog ((laidWorld os).forCall (fun _ _ => 0) ⟨#[], #[.string ByteArray.empty, .agg #[.string ByteArray.empty, .bool false, .string ByteArray.empty, .pointer none]], []⟩).memory Tryd.f4.params.toList Rows.fnPatternObjectWriteToKeyWinsSpec.vars false (#[.string ByteArray.empty, .agg #[.string ByteArray.empty, .bool false, .string ByteArray.empty, .pointer none]] : Array Value).toList 8 = some ([.lit (.string []), .agg [.lit (.string []), .lit (.bool false), .lit (.string []), .nil]], [], places) :=
  ⟨[], by kernel_rfl⟩

set_option maxRecDepth 100000 in
theorem lifted (os : Os) (started : os.Started) (H : Type) (enc : TypeId × Value → H) (F : Stop.Interp) :
    ReturnsInHanded {} Tryd.checked os 4 .any ((Rows.OpenSpec.upto Rows.fnPatternObjectWriteToKeyWinsSpec).preRow enc Tryd.prog Tryd.f4 Rows.fnPatternObjectWriteToKeyWinsUptoRow.domain false Rows.fnPatternObjectWriteToKeyWinsUptoRow.laid) (((Rows.OpenSpec.upto Rows.fnPatternObjectWriteToKeyWinsSpec).at F).post enc Tryd.prog Tryd.f4 false true false false) := by
  obtain ⟨places, hx⟩ := reads os enc
  refine returnsInHanded_of_row (C := Tryd.checked) (s := Rows.OpenSpec.upto Rows.fnPatternObjectWriteToKeyWinsSpec) own started (by kernel_rfl) Tryd.func4
    (witness_row_at (enc := enc) (C := Tryd.checked) false (laidWorld os) #[.string ByteArray.empty, .agg #[.string ByteArray.empty, .bool false, .string ByteArray.empty, .pointer none]] rfl (by kernel_rfl) (by kernel_rfl) (by kernel_rfl)
      (OpenSpec.preRow_of_cond 8 hx (by kernel_rfl) (fun k hk => by cases hk; kernel_rfl) (by kernel_rfl) (laid_met os))) ?_
  intro W base args ds gs before hval0 hW _ hcond _ hL _ _
  have hval : ∀ (j : Nat) t v, Tryd.f4.params[j]? = some t → args[j]? = some v → Value.okWide Tryd.prog W .any base t v := hval0
  have hW' := hW
  obtain ⟨p, q, hA0, hV, rfl, hfz, hnd⟩ := hW
  have hA : DataW.TrodAll enc Tryd.prog W 0 (fun _ => true) true Tryd.f4.params.toList args.toList ds p := hA0
  rw [Tryd.params4] at hA hval
  obtain ⟨v0, vs0, d0, ds0, p0, q0, hargs, rfl, rfl, h0, r0⟩ := trodAll_cons hA
  obtain ⟨v1, vs1, d1, ds1, p1, q1, rfl, rfl, rfl, h1, r1⟩ := trodAll_cons r0
  obtain ⟨rfl, rfl, rfl⟩ := trodAll_nil r1
  obtain rfl : args = #[v0, v1] := by cases args; simp_all
  obtain ⟨rfl, rfl⟩ := trodVars_none hV
  obtain ⟨a0, rfl, rfl, rfl, w0⟩ := open_string Tryd.underlying9 (hval 0 9 v0 rfl rfl) h0
  have lt1 : ∀ x ∈ p1, x.block < W.heap.size := by obtain ⟨m, hm⟩ := h1; exact DataW.trod_lt m _ _ _ hm
  have small : Rows.uptoBulkAll (H := H) [.lit (.string a0.data.toList), d1] ≤ 1048576 := of_decide_eq_true (hcond _ rfl)
  clear hA0 hval0
  refine (walk H enc base a0 v1 d1 p1 W w0 (hval 1 33 v1 rfl rfl) h1 lt1 small hL).mono fun e W' ⟨he, bel⟩ => ?_
  subst he
  exact ⟨_, rfl, _, _, _, [], _, [], hW', trodAll_mk1 (shut_bool Tryd.underlying4 _), (trodAll_cons_mk (shut_string Tryd.underlying9 w0) (trodAll_cons_mk (Below.trod laidOut (by kernel_rfl) (of_decide_eq_true (by kernel_rfl)) h1 bel lt1) trodAll_mk0)), rfl, bel.frame _, fun h => by cases h⟩

theorem over : Rows.fnPatternObjectWriteToKeyWinsUptoRow.holds Tryd.pinned (Rows.OpenSpec.upto Rows.fnPatternObjectWriteToKeyWinsSpec) :=
  OpenClaim.holds_of_cond 4 Tryd.f4 rfl rfl rfl rfl rfl rfl rfl ⟨rfl, rfl, rfl, rfl, rfl⟩ rfl rfl rfl rfl rfl (by kernel_rfl) Tryd.func4 (by kernel_rfl)
    (of_decide_eq_true (by kernel_rfl)) (by unfold Func.isWrapper; first | (rw [if_pos (by decide +kernel)]; kernel_rfl) | (rw [if_neg (by decide +kernel)]; exact ⟨rfl, rfl⟩))
    (fun os started H enc _ F => by rw [OpenClaim.pre_eq_preRow]; exact lifted os started H enc F)

theorem plain (f : FuncId) (fn : Func) (hf : Tryd.pinned.checked.prog.funcNamed "github.com/itchyny/gojq/n001_36.FnPatternObjectWriteToKeyWins" = some f) (hfn : Tryd.pinned.checked.prog.funcs[f]? = some fn) :
    false = Tryd.pinned.checked.prog.looks [] ∧ ∀ (j : Nat) t, fn.params[j]? = some t → Tryd.pinned.checked.prog.wantsStandIn t = false := by
  obtain rfl : f = 4 := Option.some.inj ((show Tryd.prog.funcNamed "github.com/itchyny/gojq/n001_36.FnPatternObjectWriteToKeyWins" = some 4 by kernel_rfl).symm.trans hf) |>.symm
  obtain rfl : fn = Tryd.f4 := (Option.some.inj (Tryd.func4.symm.trans hfn)).symm
  refine ⟨by kernel_rfl, fun j t ht => ?_⟩
  rw [Tryd.params4] at ht
  have hm := Array.mem_of_getElem? ht
  have ht' : t = 9 ∨ t = 33 := by simpa using hm
  rcases ht' with rfl | rfl
  · exact (show Tryd.prog.wantsStandIn 9 = false by kernel_rfl)
  · exact (show Tryd.prog.wantsStandIn 33 = false by kernel_rfl)

/-- The given statement. -/
theorem proved : Rows.FnPatternObjectWriteToKeyWinsUptoCardSaid :=
  Claim7.holds_tied_plain_at .later [] _ _ _ _ over (fun _ h => by cases h) (by kernel_rfl) (fun _ h => by cases h) fnPatternObjectWriteToKeyWinsUpto_row_tie rfl ⟨rfl, rfl⟩ (by kernel_rfl) rfl plain (by kernel_rfl)
#print axioms proved
end Go.Proofs.YthfhfocdbkieoaaDoor.fnPatternObjectWriteToKeyWinsUpto
