/- Proved: for every input the law FnFuncWriteToAfterAnyPrefix returns true and leaves its arguments as they were, the listed variables being as the program's text lays them (a tied card). Conditions: none beyond the given statement. -/
import Derived.Test.YtommggamdgajcaaDoorCards
import Derived.Test.YtommggamdgajcaaDoorTie
import Derived.WalkKit
import Derived.ProofKit
import Derived.OpenShut
import Derived.ShutString
import Derived.ChangeOld
import Derived.Below
import Derived.WalkLawsBesides
import Derived.Deep.DeepHandedRow
import Derived.Test.YtommggamdgajcaaDoorLaid
import Derived.Test.YtommggamdgajcaaDoorFM49
import Derived.Test.YtommggamdgajcaaDoorLaid
import Derived.PinnedBridge
namespace Go.Proofs.YtommggamdgajcaaDoor.fnFuncWriteToAfterAnyPrefix
open Go.ChangeShapes Go.WideShapes Go.ChangeAt Go.RowKit
open Go.ChangeMaps (open_string shut_string)
set_option linter.unusedVariables false

set_option maxRecDepth 100000 in
theorem walk (H : Type) (enc : TypeId × Value → H) (base : Nat) (a0 : ByteArray) (a1 : ByteArray) (v2 : Value) (d2 : DataW H) (p2 : List MemPlace) (v3 : Value) (d3 : DataW H) (p3 : List MemPlace) (w : World) (w0 : a0.size ≤ maxLen) (w1 : a1.size ≤ maxLen) (o2 : Value.okWide Tryd.prog w .any base 31 v2) (k2 : DataW.Trod enc Tryd.prog w 0 (fun _ => true) true 31 v2 d2 p2) (lt2 : ∀ x ∈ p2, x.block < w.heap.size) (o3 : Value.okWide Tryd.prog w .any base 32 v3) (k3 : DataW.Trod enc Tryd.prog w 0 (fun _ => true) true 32 v3 d3 p3) (lt3 : ∀ x ∈ p3, x.block < w.heap.size) (hL : laidMetH Tryd.prog Rows.fnFuncWriteToAfterAnyPrefixRow.laid w) :
    Calls Tryd.prog 5 #[.string a0, .string a1, v2, v3] w fun e w' => e = .returned (.bool true) ∧ Below w.heap.size w w' := by
  have hT := tabs_of (l := Rows.fnFuncWriteToAfterAnyPrefixRow.laid) (by kernel_rfl) (by rw [← Pinned.utf8First_eq]; first | exact List.Mem.head _ | exact List.Mem.tail _ (List.Mem.head _)) (by rw [show Lib.acceptData = Rows.laid_unicode_utf8_acceptRanges from by kernel_rfl]; first | exact List.Mem.head _ | exact List.Mem.tail _ (List.Mem.head _)) hL
  obtain ⟨ss, hs, hz⟩ := open_ss Tryd.underlying31 Tryd.underlying9 (by kernel_rfl) o2 k2
  obtain ⟨bs, hb⟩ := open_bs Tryd.underlying32 Tryd.underlying4 (by kernel_rfl) o3 k3
  exact lawFW a0 a1 v2 v3 ss bs w hT w0 w1 hs hz hb

theorem laid_met (os : Os) : laidMet Tryd.prog Rows.fnFuncWriteToAfterAnyPrefixRow.laid ((laidWorld os).forCall (fun _ _ => 0) ⟨#[], #[.string ByteArray.empty, .string ByteArray.empty, .slice none 0 0, .slice none 0 0], []⟩).memory :=
  laidMet_of_run' 8 (by kernel_rfl) (by kernel_rfl)
theorem reads (os : Os) {H : Type} (enc : TypeId × Value → H) : ∃ places, DataW.whole enc Tryd.prog ((laidWorld os).forCall (fun _ _ => 0) ⟨#[], #[.string ByteArray.empty, .string ByteArray.empty, .slice none 0 0, .slice none 0 0], []⟩).memory Tryd.f5.params.toList Rows.fnFuncWriteToAfterAnyPrefixSpec.vars false (#[.string ByteArray.empty, .string ByteArray.empty, .slice none 0 0, .slice none 0 0] : Array Value).toList 8 = some ([.lit (.string []), .lit (.string []), .nil, .nil], [], places) :=
  ⟨[], by kernel_rfl⟩

set_option maxRecDepth 100000 in
theorem lifted (os : Os) (started : os.Started) (H : Type) (enc : TypeId × Value → H) (F : Stop.Interp) :
    ReturnsInHanded {} Tryd.checked os 5 .any ((OpenSpec.ofChange Rows.fnFuncWriteToAfterAnyPrefixSpec).preRow enc Tryd.prog Tryd.f5 Rows.fnFuncWriteToAfterAnyPrefixRow.domain false Rows.fnFuncWriteToAfterAnyPrefixRow.laid) (((OpenSpec.ofChange Rows.fnFuncWriteToAfterAnyPrefixSpec).at F).post enc Tryd.prog Tryd.f5 false true false false) := by
  obtain ⟨places, hx⟩ := reads os enc
  refine returnsInHanded_of_row (C := Tryd.checked) (s := OpenSpec.ofChange Rows.fnFuncWriteToAfterAnyPrefixSpec) own started (by kernel_rfl) Tryd.func5
    (witness_row_at (enc := enc) (C := Tryd.checked) false (laidWorld os) #[.string ByteArray.empty, .string ByteArray.empty, .slice none 0 0, .slice none 0 0] rfl (by kernel_rfl) (by kernel_rfl) (by kernel_rfl)
      (OpenSpec.preRow_of_cond 8 hx (by kernel_rfl) (fun k hk => by cases hk) (by kernel_rfl) (laid_met os))) ?_
  intro W base args ds gs before hval0 hW _ hcond _ hL _ _
  have hval : ∀ (j : Nat) t v, Tryd.f5.params[j]? = some t → args[j]? = some v → Value.okWide Tryd.prog W .any base t v := hval0
  have hW' := hW
  obtain ⟨p, q, hA0, hV, rfl, hfz, hnd⟩ := hW
  have hA : DataW.TrodAll enc Tryd.prog W 0 (fun _ => true) true Tryd.f5.params.toList args.toList ds p := hA0
  rw [Tryd.params5] at hA hval
  obtain ⟨v0, vs0, d0, ds0, p0, q0, hargs, rfl, rfl, h0, r0⟩ := trodAll_cons hA
  obtain ⟨v1, vs1, d1, ds1, p1, q1, rfl, rfl, rfl, h1, r1⟩ := trodAll_cons r0
  obtain ⟨v2, vs2, d2, ds2, p2, q2, rfl, rfl, rfl, h2, r2⟩ := trodAll_cons r1
  obtain ⟨v3, vs3, d3, ds3, p3, q3, rfl, rfl, rfl, h3, r3⟩ := trodAll_cons r2
  obtain ⟨rfl, rfl, rfl⟩ := trodAll_nil r3
  obtain rfl : args = #[v0, v1, v2, v3] := by cases args; simp_all
  obtain ⟨rfl, rfl⟩ := trodVars_none hV
  obtain ⟨a0, rfl, rfl, rfl, w0⟩ := open_string Tryd.underlying9 (hval 0 9 v0 rfl rfl) h0
  obtain ⟨a1, rfl, rfl, rfl, w1⟩ := open_string Tryd.underlying9 (hval 1 9 v1 rfl rfl) h1
  have lt2 : ∀ x ∈ p2, x.block < W.heap.size := by obtain ⟨m, hm⟩ := h2; exact DataW.trod_lt m _ _ _ hm
  have lt3 : ∀ x ∈ p3, x.block < W.heap.size := by obtain ⟨m, hm⟩ := h3; exact DataW.trod_lt m _ _ _ hm
  clear hA0 hval0
  refine (walk H enc base a0 a1 v2 d2 p2 v3 d3 p3 W w0 w1 (hval 2 31 v2 rfl rfl) h2 lt2 (hval 3 32 v3 rfl rfl) h3 lt3 hL).mono fun e W' ⟨he, bel⟩ => ?_
  subst he
  exact ⟨_, rfl, _, _, _, [], _, [], hW', trodAll_mk1 (shut_bool Tryd.underlying4 _), (trodAll_cons_mk (shut_string Tryd.underlying9 w0) (trodAll_cons_mk (shut_string Tryd.underlying9 w1) (trodAll_cons_mk (Below.trod laidOut (by kernel_rfl) (of_decide_eq_true (by kernel_rfl)) h2 bel lt2) (trodAll_cons_mk (Below.trod laidOut (by kernel_rfl) (of_decide_eq_true (by kernel_rfl)) h3 bel lt3) trodAll_mk0)))), rfl, bel.frame _, fun h => by cases h⟩

theorem over : Rows.fnFuncWriteToAfterAnyPrefixRow.holds Tryd.pinned (OpenSpec.ofChange Rows.fnFuncWriteToAfterAnyPrefixSpec) :=
  OpenClaim.holds_of_cond 5 Tryd.f5 rfl rfl rfl rfl rfl rfl rfl ⟨rfl, rfl, rfl, rfl, rfl⟩ rfl rfl rfl rfl rfl (by kernel_rfl) Tryd.func5 (by kernel_rfl)
    (of_decide_eq_true (by kernel_rfl)) (by unfold Func.isWrapper; first | (rw [if_pos (by decide +kernel)]; kernel_rfl) | (rw [if_neg (by decide +kernel)]; exact ⟨rfl, rfl⟩))
    (fun os started H enc _ F => by rw [OpenClaim.pre_eq_preRow]; exact lifted os started H enc F)

theorem plain (f : FuncId) (fn : Func) (hf : Tryd.pinned.checked.prog.funcNamed "github.com/itchyny/gojq/n001_49.FnFuncWriteToAfterAnyPrefix" = some f) (hfn : Tryd.pinned.checked.prog.funcs[f]? = some fn) :
    false = Tryd.pinned.checked.prog.looks [] ∧ ∀ (j : Nat) t, fn.params[j]? = some t → Tryd.pinned.checked.prog.wantsStandIn t = false := by
  obtain rfl : f = 5 := Option.some.inj ((show Tryd.prog.funcNamed "github.com/itchyny/gojq/n001_49.FnFuncWriteToAfterAnyPrefix" = some 5 by kernel_rfl).symm.trans hf) |>.symm
  obtain rfl : fn = Tryd.f5 := (Option.some.inj (Tryd.func5.symm.trans hfn)).symm
  refine ⟨by kernel_rfl, fun j t ht => ?_⟩
  rw [Tryd.params5] at ht
  have hm := Array.mem_of_getElem? ht
  have ht' : t = 9 ∨ t = 9 ∨ t = 31 ∨ t = 32 := by simpa using hm
  rcases ht' with rfl | rfl | rfl | rfl
  · exact (show Tryd.prog.wantsStandIn 9 = false by kernel_rfl)
  · exact (show Tryd.prog.wantsStandIn 9 = false by kernel_rfl)
  · exact (show Tryd.prog.wantsStandIn 31 = false by kernel_rfl)
  · exact (show Tryd.prog.wantsStandIn 32 = false by kernel_rfl)

/-- The given statement. -/
theorem proved : Rows.FnFuncWriteToAfterAnyPrefixCardSaid :=
  Claim7.holds_tied_plain_at .later [] _ _ _ _ over (fun _ h => by cases h) (by kernel_rfl) (fun _ h => by cases h) fnFuncWriteToAfterAnyPrefix_row_tie rfl ⟨rfl, rfl⟩ (by kernel_rfl) rfl plain (by kernel_rfl)
#print axioms proved
end Go.Proofs.YtommggamdgajcaaDoor.fnFuncWriteToAfterAnyPrefix
