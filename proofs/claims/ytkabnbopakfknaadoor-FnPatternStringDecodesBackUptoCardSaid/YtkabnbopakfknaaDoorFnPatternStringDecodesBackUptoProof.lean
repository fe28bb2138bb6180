/- Proved: for every input of bulk at most 1048576 the law FnPatternStringDecodesBack returns true and leaves its arguments as they were, the listed variables being as the program's text lays them (a tied card). Conditions: none beyond the given statement. -/
import Derived.Test.YtkabnbopakfknaaDoorCards
import Derived.Test.YtkabnbopakfknaaDoorTie
import Derived.WalkKit
import Derived.ProofKit
import Derived.OpenShut
import Derived.ShutString
import Derived.ChangeOld
import Derived.Below
import Derived.WalkLawsBesides
import Derived.Deep.DeepHandedRow
import Derived.Test.YtkabnbopakfknaaDoorLaid
import Derived.Test.YtkabnbopakfknaaDoorLawP51
import Derived.PinnedBridge
namespace Go.Proofs.YtkabnbopakfknaaDoor.fnPatternStringDecodesBackUpto
open Go.ChangeShapes Go.WideShapes Go.ChangeAt Go.RowKit
open Go.ChangeMaps (open_string shut_string)
set_option linter.unusedVariables false

set_option maxRecDepth 100000 in
theorem walk (H : Type) (enc : TypeId × Value → H) (base : Nat) (v0 : Value) (d0 : DataW H) (p0 : List MemPlace) (w : World) (o0 : Value.okWide Tryd.prog w .any base 25 v0) (k0 : DataW.Trod enc Tryd.prog w 0 (fun _ => true) true 25 v0 d0 p0) (lt0 : ∀ x ∈ p0, x.block < w.heap.size) (small : Rows.uptoBulkAll (H := H) [d0] ≤ 1048576) (hL : laidMetH Tryd.prog Rows.fnPatternStringDecodesBackUptoRow.laid w) :
    Calls Tryd.prog 3 #[v0] w fun e w' => e = .returned (.bool true) ∧ Below w.heap.size w w' := by
  have hT := tabs_of (l := Rows.fnPatternStringDecodesBackUptoRow.laid) (by kernel_rfl) (by rw [← Pinned.utf8First_eq]; first | exact List.Mem.head _ | exact List.Mem.tail _ (List.Mem.head _)) (by rw [show Lib.acceptData = Rows.laid_unicode_utf8_acceptRanges from by kernel_rfl]; first | exact List.Mem.head _ | exact List.Mem.tail _ (List.Mem.head _)) hL
  obtain ⟨cs, rfl, hsz⟩ := okWide_struct Tryd.underlying25 o0
  obtain ⟨m, hm⟩ := k0
  have hsm : Rows.uptoBulk d0 ≤ 1048576 := by
    simp only [Rows.uptoBulkAll] at small
    omega
  have hrd : PatRd enc w m cs.toList (Rows.uptoBulk d0) := ⟨(d0, p0), hm, rfl⟩
  have hG := pat_all (enc := enc) w m cs.toList (Rows.uptoBulk d0) hrd (by omega)
  obtain ⟨nm, a, a', l, c, l', c', Y, K, av, lv, cv, Z, U, hcs, _, _, _, _, _, _⟩ := pat_inv hrd
  rw [hcs] at hG
  obtain rfl : cs = #[.string nm, .slice a l c, .slice a' l' c'] := Array.toList_inj.1 hcs
  exact lawP nm a a' l c l' c' (Rows.uptoBulk d0) w hsm hG hT

theorem laid_met (os : Os) : laidMet Tryd.prog Rows.fnPatternStringDecodesBackUptoRow.laid ((laidWorld os).forCall (fun _ _ => 0) ⟨#[], #[.agg #[.string ByteArray.empty, .slice none 0 0, .slice none 0 0]], []⟩).memory :=
  laidMet_of_run' 8 (by kernel_rfl) (by kernel_rfl)
theorem reads (os : Os) {H : Type} (enc : TypeId × Value → H) : ∃ places, DataW.whole enc Tryd.prog ((laidWorld os).forCall (fun _ _ => 0) ⟨#[], #[.agg #[.string ByteArray.empty, .slice none 0 0, .slice none 0 0]], []⟩).memory Tryd.f3.params.toList Rows.fnPatternStringDecodesBackSpec.vars false (#[.agg #[.string ByteArray.empty, .slice none 0 0, .slice none 0 0]] : Array Value).toList 8 = some ([.agg [.lit (.string []), .nil, .nil]], [], places) :=
  ⟨[], by kernel_rfl⟩

set_option maxRecDepth 100000 in
theorem lifted (os : Os) (started : os.Started) (H : Type) (enc : TypeId × Value → H) (F : Stop.Interp) :
    ReturnsInHanded {} Tryd.checked os 3 .any ((Rows.OpenSpec.upto Rows.fnPatternStringDecodesBackSpec).preRow enc Tryd.prog Tryd.f3 Rows.fnPatternStringDecodesBackUptoRow.domain false Rows.fnPatternStringDecodesBackUptoRow.laid) (((Rows.OpenSpec.upto Rows.fnPatternStringDecodesBackSpec).at F).post enc Tryd.prog Tryd.f3 false true false false) := by
  obtain ⟨places, hx⟩ := reads os enc
  refine returnsInHanded_of_row (C := Tryd.checked) (s := Rows.OpenSpec.upto Rows.fnPatternStringDecodesBackSpec) own started (by kernel_rfl) Tryd.func3
    (witness_row_at (enc := enc) (C := Tryd.checked) false (laidWorld os) #[.agg #[.string ByteArray.empty, .slice none 0 0, .slice none 0 0]] rfl (by kernel_rfl) (by kernel_rfl) (by kernel_rfl)
      (OpenSpec.preRow_of_cond 8 hx (by kernel_rfl) (fun k hk => by cases hk; kernel_rfl) (by kernel_rfl) (laid_met os))) ?_
  intro W base args ds gs before hval0 hW _ hcond _ hL _ _
  have hval : ∀ (j : Nat) t v, Tryd.f3.params[j]? = some t → args[j]? = some v → Value.okWide Tryd.prog W .any base t v := hval0
  have hW' := hW
  obtain ⟨p, q, hA0, hV, rfl, hfz, hnd⟩ := hW
  have hA : DataW.TrodAll enc Tryd.prog W 0 (fun _ => true) true Tryd.f3.params.toList args.toList ds p := hA0
  rw [Tryd.params3] at hA hval
  obtain ⟨v0, vs0, d0, ds0, p0, q0, hargs, rfl, rfl, h0, r0⟩ := trodAll_cons hA
  obtain ⟨rfl, rfl, rfl⟩ := trodAll_nil r0
  obtain rfl : args = #[v0] := by cases args; simp_all
  obtain ⟨rfl, rfl⟩ := trodVars_none hV
  have lt0 : ∀ x ∈ p0, x.block < W.heap.size := by obtain ⟨m, hm⟩ := h0; exact DataW.trod_lt m _ _ _ hm
  have small : Rows.uptoBulkAll (H := H) [d0] ≤ 1048576 := of_decide_eq_true (hcond _ rfl)
  clear hA0 hval0
  refine (walk H enc base v0 d0 p0 W (hval 0 25 v0 rfl rfl) h0 lt0 small hL).mono fun e W' ⟨he, bel⟩ => ?_
  subst he
  exact ⟨_, rfl, _, _, _, [], _, [], hW', trodAll_mk1 (shut_bool Tryd.underlying4 _), (trodAll_cons_mk (Below.trod laidOut (by kernel_rfl) (of_decide_eq_true (by kernel_rfl)) h0 bel lt0) trodAll_mk0), rfl, bel.frame _, fun h => by cases h⟩

theorem over : Rows.fnPatternStringDecodesBackUptoRow.holds Tryd.pinned (Rows.OpenSpec.upto Rows.fnPatternStringDecodesBackSpec) :=
  OpenClaim.holds_of_cond 3 Tryd.f3 rfl rfl rfl rfl rfl rfl rfl ⟨rfl, rfl, rfl, rfl, rfl⟩ rfl rfl rfl rfl rfl (by kernel_rfl) Tryd.func3 (by kernel_rfl)
    (of_decide_eq_true (by kernel_rfl)) (by unfold Func.isWrapper; first | (rw [if_pos (by decide +kernel)]; kernel_rfl) | (rw [if_neg (by decide +kernel)]; exact ⟨rfl, rfl⟩))
    (fun os started H enc _ F => by rw [OpenClaim.pre_eq_preRow]; exact lifted os started H enc F)

theorem plain (f : FuncId) (fn : Func) (hf : Tryd.pinned.checked.prog.funcNamed "github.com/itchyny/gojq/n001_51.FnPatternStringDecodesBack" = some f) (hfn : Tryd.pinned.checked.prog.funcs[f]? = some fn) :
    false = Tryd.pinned.checked.prog.looks [] ∧ ∀ (j : Nat) t, fn.params[j]? = some t → Tryd.pinned.checked.prog.wantsStandIn t = false := by
  obtain rfl : f = 3 := Option.some.inj ((show Tryd.prog.funcNamed "github.com/itchyny/gojq/n001_51.FnPatternStringDecodesBack" = some 3 by kernel_rfl).symm.trans hf) |>.symm
  obtain rfl : fn = Tryd.f3 := (Option.some.inj (Tryd.func3.symm.trans hfn)).symm
  refine ⟨by kernel_rfl, fun j t ht => ?_⟩
  rw [Tryd.params3] at ht
  have hm := Array.mem_of_getElem? ht
  have ht' : t = 25 := by simpa using hm
  rcases ht' with rfl
  · exact (show Tryd.prog.wantsStandIn 25 = false by kernel_rfl)

/-- The given statement. -/
theorem proved : Rows.FnPatternStringDecodesBackUptoCardSaid :=
  Claim7.holds_tied_plain_at .later [] _ _ _ _ over (fun _ h => by cases h) (by kernel_rfl) (fun _ h => by cases h) fnPatternStringDecodesBackUpto_row_tie rfl ⟨rfl, rfl⟩ (by kernel_rfl) rfl plain (by kernel_rfl)
#print axioms proved
end Go.Proofs.YtkabnbopakfknaaDoor.fnPatternStringDecodesBackUpto
