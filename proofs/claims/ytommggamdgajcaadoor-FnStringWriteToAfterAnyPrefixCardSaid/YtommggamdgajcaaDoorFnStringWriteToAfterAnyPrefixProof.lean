/- Proved: for every input the law FnStringWriteToAfterAnyPrefix returns true and leaves its arguments as they were, the listed variables being as the program's text lays them (a tied card). Conditions: none beyond the given statement. -/
import Derived.Test.YtommggamdgajcaaDoorCards
import Derived.Test.YtommggamdgajcaaDoorTie
import Derived.WalkKit
import Derived.ProofKit
import Derived.OpenShut
import Derived.ShutString
import Derived.ChangeOld
import Derived.Below
import Derived.WalkLawsBesides
import Derived.Deep.DeepHandedRow
import Derived.Test.YtommggamdgajcaaDoorLaid
import Derived.Test.YtommggamdgajcaaDoorLawSW49
import Derived.Test.YtommggamdgajcaaDoorLaid
import Derived.PinnedBridge
namespace Go.Proofs.YtommggamdgajcaaDoor.fnStringWriteToAfterAnyPrefix
open Go.ChangeShapes Go.WideShapes Go.ChangeAt Go.RowKit
open Go.ChangeMaps (open_string shut_string)
set_option linter.unusedVariables false

set_option maxRecDepth 100000 in
theorem walk (H : Type) (enc : TypeId × Value → H) (base : Nat) (a0 : ByteArray) (a1 : ByteArray) (v2 : Value) (d2 : DataW H) (p2 : List MemPlace) (v3 : Value) (d3 : DataW H) (p3 : List MemPlace) (a4 : Bool) (w : World) (w0 : a0.size ≤ maxLen) (w1 : a1.size ≤ maxLen) (o2 : Value.okWide Tryd.prog w .any base 31 v2) (k2 : DataW.Trod enc Tryd.prog w 0 (fun _ => true) true 31 v2 d2 p2) (lt2 : ∀ x ∈ p2, x.block < w.heap.size) (o3 : Value.okWide Tryd.prog w .any base 32 v3) (k3 : DataW.Trod enc Tryd.prog w 0 (fun _ => true) true 32 v3 d3 p3) (lt3 : ∀ x ∈ p3, x.block < w.heap.size) (hL : laidMetH Tryd.prog Rows.fnStringWriteToAfterAnyPrefixRow.laid w) :
    Calls Tryd.prog 8 #[.string a0, .string a1, v2, v3, .bool a4] w fun e w' => e = .returned (.bool true) ∧ Below w.heap.size w w' := by
  have hT := tabs_of (l := Rows.fnStringWriteToAfterAnyPrefixRow.laid) (by kernel_rfl) (by rw [← Pinned.utf8First_eq]; first | exact List.Mem.head _ | exact List.Mem.tail _ (List.Mem.head _)) (by rw [show Lib.acceptData = Rows.laid_unicode_utf8_acceptRanges from by kernel_rfl]; first | exact List.Mem.head _ | exact List.Mem.tail _ (List.Mem.head _)) hL
  obtain ⟨ss, hs, hz⟩ := open_ss Tryd.underlying31 Tryd.underlying9 (by kernel_rfl) o2 k2
  obtain ⟨bs, hb⟩ := open_bs Tryd.underlying32 Tryd.underlying4 (by kernel_rfl) o3 k3
  exact lawSW a0 a1 v2 v3 a4 ss bs w hT w0 w1 hs hz hb

theorem laid_met (os : Os) : laidMet Tryd.prog Rows.fnStringWriteToAfterAnyPrefixRow.laid ((laidWorld os).forCall (fun _ _ => 0) ⟨#[], #[.string ByteArray.empty, .string ByteArray.empty, .slice none 0 0, .slice none 0 0, .bool false], []⟩).memory :=
  laidMet_of_run' 8 (by kernel_rfl) (by kernel_rfl)
theorem reads (os : Os) {H : Type} (enc : TypeId × Value → H) : ∃ places, DataW.whole enc Tryd.prog ((laidWorld os).forCall (fun _ _ => 0) ⟨#[], #[.string ByteArray.empty, .string ByteArray.empty, .slice none 0 0, .slice none 0 0, .bool false], []⟩).memory Tryd.f8.params.toList Rows.fnStringWriteToAfterAnyPrefixSpec.vars false (#[.string ByteArray.empty, .string ByteArray.empty, .slice none 0 0, .slice none 0 0, .bool false] : Array Value).toList 8 = some ([.lit (.string []), .lit (.string []), .nil, .nil, .lit (.bool false)], [], places) :=
  ⟨[], by kernel_rfl⟩

set_option maxRecDepth 100000 in
theorem lifted (os : Os) (started : os.Started) (H : Type) (enc : TypeId × Value → H) (F : Stop.Interp) :
    ReturnsInHanded {} Tryd.checked os 8 .any ((OpenSpec.ofChange Rows.fnStringWriteToAfterAnyPrefixSpec).preRow enc Tryd.prog Tryd.f8 Rows.fnStringWriteToAfterAnyPrefixRow.domain false Rows.fnStringWriteToAfterAnyPrefixRow.laid) (((OpenSpec.ofChange Rows.fnStringWriteToAfterAnyPrefixSpec).at F).post enc Tryd.prog Tryd.f8 false true false false) := by
  obtain ⟨places, hx⟩ := reads os enc
  refine returnsInHanded_of_row (C := Tryd.checked) (s := OpenSpec.ofChange Rows.fnStringWriteToAfterAnyPrefixSpec) own started (by kernel_rfl) Tryd.func8
    (witness_row_at (enc := enc) (C := Tryd.checked) false (laidWorld os) #[.string ByteArray.empty, .string ByteArray.empty, .slice none 0 0, .slice none 0 0, .bool false] rfl (by kernel_rfl) (by kernel_rfl) (by kernel_rfl)
      (OpenSpec.preRow_of_cond 8 hx (by kernel_rfl) (fun k hk => by cases hk) (by kernel_rfl) (laid_met os))) ?_
  intro W base args ds gs before hval0 hW _ hcond _ hL _ _
  have hval : ∀ (j : Nat) t v, Tryd.f8.params[j]? = some t → args[j]? = some v → Value.okWide Tryd.prog W .any base t v := hval0
  have hW' := hW
  obtain ⟨p, q, hA0, hV, rfl, hfz, hnd⟩ := hW
  have hA : DataW.TrodAll enc Tryd.prog W 0 (fun _ => true) true Tryd.f8.params.toList args.toList ds p := hA0
  rw [Tryd.params8] at hA hval
  obtain ⟨v0, vs0, d0, ds0, p0, q0, hargs, rfl, rfl, h0, r0⟩ := trodAll_cons hA
  obtain ⟨v1, vs1, d1, ds1, p1, q1, rfl, rfl, rfl, h1, r1⟩ := trodAll_cons r0
  obtain ⟨v2, vs2, d2, ds2, p2, q2, rfl, rfl, rfl, h2, r2⟩ := trodAll_cons r1
  obtain ⟨v3, vs3, d3, ds3, p3, q3, rfl, rfl, rfl, h3, r3⟩ := trodAll_cons r2
  obtain ⟨v4, vs4, d4, ds4, p4, q4, rfl, rfl, rfl, h4, r4⟩ := trodAll_cons r3
  obtain ⟨rfl, rfl, rfl⟩ := trodAll_nil r4
  obtain rfl : args = #[v0, v1, v2, v3, v4] := by cases args; simp_all
  obtain ⟨rfl, rfl⟩ := trodVars_none hV
  obtain ⟨a0, rfl, rfl, rfl, w0⟩ := open_string Tryd.underlying9 (hval 0 9 v0 rfl rfl) h0
  obtain ⟨a1, rfl, rfl, rfl, w1⟩ := open_string Tryd.underlying9 (hval 1 9 v1 rfl rfl) h1
  have lt2 : ∀ x ∈ p2, x.block < W.heap.size := by obtain ⟨m, hm⟩ := h2; exact DataW.trod_lt m _ _ _ hm
  have lt3 : ∀ x ∈ p3, x.block < W.heap.size := by obtain ⟨m, hm⟩ := h3; exact DataW.trod_lt m _ _ _ hm
  obtain ⟨a4, rfl, rfl, rfl⟩ := open_bool Tryd.underlying4 (hval 4 4 v4 rfl rfl) h4
  clear hA0 hval0
  refine (walk H enc base a0 a1 v2 d2 p2 v3 d3 p3 a4 W w0 w1 (hval 2 31 v2 rfl rfl) h2 lt2 (hval 3 32 v3 rfl rfl) h3 lt3 hL).mono fun e W' ⟨he, bel⟩ => ?_
  subst he
  exact ⟨_, rfl, _, _, _, [], _, [], hW', trodAll_mk1 (shut_bool Tryd.underlying4 _), (trodAll_cons_mk (shut_string Tryd.underlying9 w0) (trodAll_cons_mk (shut_string Tryd.underlying9 w1) (trodAll_cons_mk (Below.trod laidOut (by kernel_rfl) (of_decide_eq_true (by kernel_rfl)) h2 bel lt2) (trodAll_cons_mk (Below.trod laidOut (by kernel_rfl) (of_decide_eq_true (by kernel_rfl)) h3 bel lt3) (trodAll_cons_mk (shut_bool Tryd.underlying4 _) trodAll_mk0))))), rfl, bel.frame _, fun h => by cases h⟩

theorem over : Rows.fnStringWriteToAfterAnyPrefixRow.holds Tryd.pinned (OpenSpec.ofChange Rows.fnStringWriteToAfterAnyPrefixSpec) :=
  OpenClaim.holds_of_cond 8 Tryd.f8 rfl rfl rfl rfl rfl rfl rfl ⟨rfl, rfl, rfl, rfl, rfl⟩ rfl rfl rfl rfl rfl (by kernel_rfl) Tryd.func8 (by kernel_rfl)
    (of_decide_eq_true (by kernel_rfl)) (by unfold Func.isWrapper; first | (rw [if_pos (by decide +kernel)]; kernel_rfl) | (rw [if_neg (by decide +kernel)]; exact ⟨rfl, rfl⟩))
    (fun os started H enc _ F => by rw [OpenClaim.pre_eq_preRow]; exact lifted os started H enc F)

theorem plain (f : FuncId) (fn : Func) (hf : Tryd.pinned.checked.prog.funcNamed "github.com/itchyny/gojq/n001_49.FnStringWriteToAfterAnyPrefix" = some f) (hfn : Tryd.pinned.checked.prog.funcs[f]? = some fn) :
    false = Tryd.pinned.checked.prog.looks [] ∧ ∀ (j : Nat) t, fn.params[j]? = some t → Tryd.pinned.checked.prog.wantsStandIn t = false := by
  obtain rfl : f = 8 := Option.some.inj ((show Tryd.prog.funcNamed "github.com/itchyny/gojq/n001_49.FnStringWriteToAfterAnyPrefix" = some 8 by kernel_rfl).symm.trans hf) |>.symm
  obtain rfl : fn = Tryd.f8 := (Option.some.inj (Tryd.func8.symm.trans hfn)).symm
  refine ⟨by kernel_rfl, fun j t ht => ?_⟩
  rw [Tryd.params8] at ht
  have hm := Array.mem_of_getElem? ht
  have ht' : t = 9 ∨ t = 9 ∨ t = 31 ∨ t = 32 ∨ t = 4 := by simpa using hm
  rcases ht' with rfl | rfl | rfl | rfl | rfl
  · exact (show Tryd.prog.wantsStandIn 9 = false by kernel_rfl)
  · exact (show Tryd.prog.wantsStandIn 9 = false by kernel_rfl)
  · exact (show Tryd.prog.wantsStandIn 31 = false by kernel_rfl)
  · exact (show Tryd.prog.wantsStandIn 32 = false by kernel_rfl)
  · exact (show Tryd.prog.wantsStandIn 4 = false by kernel_rfl)

/-- The given statement. -/
theorem proved : Rows.FnStringWriteToAfterAnyPrefixCardSaid :=
  Claim7.holds_tied_plain_at .later [] _ _ _ _ over (fun _ h => by cases h) (by kernel_rfl) (fun _ h => by cases h) fnStringWriteToAfterAnyPrefix_row_tie rfl ⟨rfl, rfl⟩ (by kernel_rfl) rfl plain (by kernel_rfl)
#print axioms proved
end Go.Proofs.YtommggamdgajcaaDoor.fnStringWriteToAfterAnyPrefix
