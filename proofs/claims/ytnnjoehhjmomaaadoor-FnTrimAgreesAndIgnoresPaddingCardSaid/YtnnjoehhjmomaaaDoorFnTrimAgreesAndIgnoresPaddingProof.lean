/- Proved: for every input the law FnTrimAgreesAndIgnoresPadding returns true and leaves its arguments as they were, the listed variables being as the program's text lays them (a tied card). Conditions: none beyond the given statement. -/
import Derived.Test.YtnnjoehhjmomaaaDoorCards
import Derived.Test.YtnnjoehhjmomaaaDoorTie
import Derived.WalkKit
import Derived.ProofKit
import Derived.OpenShut
import Derived.ShutString
import Derived.ChangeOld
import Derived.Below
import Derived.WalkLawsBesides
import Derived.Deep.DeepHandedRow
import Derived.Test.YtnnjoehhjmomaaaDoorLaid
import Derived.Test.YtnnjoehhjmomaaaDoorLawP31
import Derived.Test.YtnnjoehhjmomaaaDoorTabs31
import Derived.PinnedBridge
import Derived.Deep.DeepWitnessRowRef
namespace Go.Proofs.YtnnjoehhjmomaaaDoor.fnTrimAgreesAndIgnoresPadding
open Go.ChangeShapes Go.WideShapes Go.ChangeAt Go.RowKit
open Go.ChangeMaps (open_string shut_string)
set_option linter.unusedVariables false

set_option maxRecDepth 100000 in
theorem walk (H : Type) (enc : TypeId × Value → H) (base : Nat) (a0 : ByteArray) (v1 : Value) (d1 : DataW H) (p1 : List MemPlace) (v2 : Value) (d2 : DataW H) (p2 : List MemPlace) (w : World) (w0 : a0.size ≤ maxLen) (o1 : Value.okWide Tryd.prog w .any base 22 v1) (k1 : DataW.Trod enc Tryd.prog w 0 (fun _ => true) true 22 v1 d1 p1) (lt1 : ∀ x ∈ p1, x.block < w.heap.size) (o2 : Value.okWide Tryd.prog w .any base 22 v2) (k2 : DataW.Trod enc Tryd.prog w 0 (fun _ => true) true 22 v2 d2 p2) (lt2 : ∀ x ∈ p2, x.block < w.heap.size) (hL : laidMetH Tryd.prog Rows.fnTrimAgreesAndIgnoresPaddingRow.laid w) :
    Calls Tryd.prog 5 #[.string a0, v1, v2] w fun e w' => e = .returned (.bool true) ∧ Below w.heap.size w w' := by
  have hU := ut_of (l := Rows.fnTrimAgreesAndIgnoresPaddingRow.laid) (by kernel_rfl) (by rw [← Pinned.utf8First_eq]; repeat (first | exact List.Mem.head _ | apply List.Mem.tail)) (by rw [show Lib.acceptData = Rows.laid_unicode_utf8_acceptRanges from by kernel_rfl]; repeat (first | exact List.Mem.head _ | apply List.Mem.tail)) hL
  have hW := wt_of (l := Rows.fnTrimAgreesAndIgnoresPaddingRow.laid) (by kernel_rfl) (by rw [show Lib.whiteData = Rows.laid_unicode_White_Space from by kernel_rfl]; repeat (first | exact List.Mem.head _ | apply List.Mem.tail)) hL
  have hA := at_of (l := Rows.fnTrimAgreesAndIgnoresPaddingRow.laid) (by kernel_rfl) (by rw [show (Lib.tabData .u8 Lib.asciiSpaceTab : DataW Unit) = Rows.laid_strings_asciiSpace from by kernel_rfl]; repeat (first | exact List.Mem.head _ | apply List.Mem.tail)) hL
  obtain ⟨zs, hs, hz⟩ := open_is Tryd.underlying22 Tryd.underlying5 (by kernel_rfl) o1 k1
  obtain ⟨bs, hb⟩ := u8_list zs hz
  rw [hb] at hs
  obtain ⟨ys, gs, gz⟩ := open_is Tryd.underlying22 Tryd.underlying5 (by kernel_rfl) o2 k2
  obtain ⟨cs, gb⟩ := u8_list ys gz
  rw [gb] at gs
  exact lawTPad a0 v1 v2 bs cs w w0 hs gs hU hW hA

theorem laid_met (os : Os) : laidMet Tryd.prog Rows.fnTrimAgreesAndIgnoresPaddingRow.laid ((laidWorld os).forCall (fun _ _ => 0) ⟨#[], #[.string ByteArray.empty, .slice none 0 0, .slice none 0 0], []⟩).memory :=
  laidMet_of_run' 8 (by kernel_rfl) (by kernel_rfl)
theorem reads (os : Os) {H : Type} (enc : TypeId × Value → H) : ∃ places, DataW.whole enc Tryd.prog ((laidWorld os).forCall (fun _ _ => 0) ⟨#[], #[.string ByteArray.empty, .slice none 0 0, .slice none 0 0], []⟩).memory Tryd.f5.params.toList Rows.fnTrimAgreesAndIgnoresPaddingSpec.vars false (#[.string ByteArray.empty, .slice none 0 0, .slice none 0 0] : Array Value).toList 8 = some ([.lit (.string []), .nil, .nil], [], places) :=
  ⟨[], by kernel_rfl⟩

set_option maxRecDepth 100000 in
theorem lifted (os : Os) (started : os.Started) (H : Type) (enc : TypeId × Value → H) (F : Stop.Interp) :
    ReturnsInHanded {} Tryd.checked os 5 .any ((OpenSpec.ofChange Rows.fnTrimAgreesAndIgnoresPaddingSpec).preRow enc Tryd.prog Tryd.f5 Rows.fnTrimAgreesAndIgnoresPaddingRow.domain false Rows.fnTrimAgreesAndIgnoresPaddingRow.laid) (((OpenSpec.ofChange Rows.fnTrimAgreesAndIgnoresPaddingSpec).at F).post enc Tryd.prog Tryd.f5 false true false false) := by
  obtain ⟨places, hx⟩ := reads os enc
  refine returnsInHanded_of_row (C := Tryd.checked) (s := OpenSpec.ofChange Rows.fnTrimAgreesAndIgnoresPaddingSpec) own started (by kernel_rfl) Tryd.func5
    (witness_row_atRef (enc := enc) (C := Tryd.checked) false (laidWorld os) #[.string ByteArray.empty, .slice none 0 0, .slice none 0 0] rfl (by kernel_rfl) (by kernel_rfl) (by kernel_rfl)
      (OpenSpec.preRow_of_cond 8 hx (by kernel_rfl) (fun k hk => by cases hk) (by kernel_rfl) (laid_met os))) ?_
  intro W base args ds gs before hval0 hW _ hcond _ hL _ _
  have hval : ∀ (j : Nat) t v, Tryd.f5.params[j]? = some t → args[j]? = some v → Value.okWide Tryd.prog W .any base t v := hval0
  have hW' := hW
  obtain ⟨p, q, hA0, hV, rfl, hfz, hnd⟩ := hW
  have hA : DataW.TrodAll enc Tryd.prog W 0 (fun _ => true) true Tryd.f5.params.toList args.toList ds p := hA0
  rw [Tryd.params5] at hA hval
  obtain ⟨v0, vs0, d0, ds0, p0, q0, hargs, rfl, rfl, h0, r0⟩ := trodAll_cons hA
  obtain ⟨v1, vs1, d1, ds1, p1, q1, rfl, rfl, rfl, h1, r1⟩ := trodAll_cons r0
  obtain ⟨v2, vs2, d2, ds2, p2, q2, rfl, rfl, rfl, h2, r2⟩ := trodAll_cons r1
  obtain ⟨rfl, rfl, rfl⟩ := trodAll_nil r2
  obtain rfl : args = #[v0, v1, v2] := by cases args; simp_all
  obtain ⟨rfl, rfl⟩ := trodVars_none hV
  obtain ⟨a0, rfl, rfl, rfl, w0⟩ := open_string Tryd.underlying9 (hval 0 9 v0 rfl rfl) h0
  have lt1 : ∀ x ∈ p1, x.block < W.heap.size := by obtain ⟨m, hm⟩ := h1; exact DataW.trod_lt m _ _ _ hm
  have lt2 : ∀ x ∈ p2, x.block < W.heap.size := by obtain ⟨m, hm⟩ := h2; exact DataW.trod_lt m _ _ _ hm
  clear hA0 hval0
  refine (walk H enc base a0 v1 d1 p1 v2 d2 p2 W w0 (hval 1 22 v1 rfl rfl) h1 lt1 (hval 2 22 v2 rfl rfl) h2 lt2 hL).mono fun e W' ⟨he, bel⟩ => ?_
  subst he
  exact ⟨_, rfl, _, _, _, [], _, [], hW', trodAll_mk1 (shut_bool Tryd.underlying4 _), (trodAll_cons_mk (shut_string Tryd.underlying9 w0) (trodAll_cons_mk (Below.trod laidOut (by kernel_rfl) (of_decide_eq_true (by kernel_rfl)) h1 bel lt1) (trodAll_cons_mk (Below.trod laidOut (by kernel_rfl) (of_decide_eq_true (by kernel_rfl)) h2 bel lt2) trodAll_mk0))), rfl, bel.frame _, fun h => by cases h⟩

theorem over : Rows.fnTrimAgreesAndIgnoresPaddingRow.holds Tryd.pinned (OpenSpec.ofChange Rows.fnTrimAgreesAndIgnoresPaddingSpec) :=
  OpenClaim.holds_of_cond 5 Tryd.f5 rfl rfl rfl rfl rfl rfl rfl ⟨rfl, rfl, rfl, rfl, rfl⟩ rfl rfl rfl rfl rfl (by kernel_rfl) Tryd.func5 (by kernel_rfl)
    (of_decide_eq_true (by kernel_rfl)) (by unfold Func.isWrapper; first | (rw [if_pos (by decide +kernel)]; kernel_rfl) | (rw [if_neg (by decide +kernel)]; exact ⟨rfl, rfl⟩))
    (fun os started H enc _ F => by rw [OpenClaim.pre_eq_preRow]; exact lifted os started H enc F)

theorem plain (f : FuncId) (fn : Func) (hf : Tryd.pinned.checked.prog.funcNamed "github.com/itchyny/gojq/n001_31.FnTrimAgreesAndIgnoresPadding" = some f) (hfn : Tryd.pinned.checked.prog.funcs[f]? = some fn) :
    true = Tryd.pinned.checked.prog.looks [] ∧ ∀ (j : Nat) t, fn.params[j]? = some t → Tryd.pinned.checked.prog.wantsStandIn t = false := by
  obtain rfl : f = 5 := Option.some.inj ((show Tryd.prog.funcNamed "github.com/itchyny/gojq/n001_31.FnTrimAgreesAndIgnoresPadding" = some 5 by kernel_rfl).symm.trans hf) |>.symm
  obtain rfl : fn = Tryd.f5 := (Option.some.inj (Tryd.func5.symm.trans hfn)).symm
  refine ⟨by kernel_rfl, fun j t ht => ?_⟩
  rw [Tryd.params5] at ht
  have hm := Array.mem_of_getElem? ht
  have ht' : t = 9 ∨ t = 22 ∨ t = 22 := by simpa using hm
  rcases ht' with rfl | rfl | rfl
  · exact (show Tryd.prog.wantsStandIn 9 = false by kernel_rfl)
  · exact (show Tryd.prog.wantsStandIn 22 = false by kernel_rfl)
  · exact (show Tryd.prog.wantsStandIn 22 = false by kernel_rfl)

/-- The given statement. -/
theorem proved : Rows.FnTrimAgreesAndIgnoresPaddingCardSaid :=
  Claim7.holds_tied_plain_at .later [] _ _ _ _ over (fun _ h => by cases h) (by kernel_rfl) (fun _ h => by cases h) fnTrimAgreesAndIgnoresPadding_row_tie rfl ⟨rfl, rfl⟩ (by kernel_rfl) rfl plain (by kernel_rfl)
#print axioms proved
end Go.Proofs.YtnnjoehhjmomaaaDoor.fnTrimAgreesAndIgnoresPadding
