/- The law's test of a pattern's form: an array, an object, neither. -/
import Derived.Test.YtkabnbopakfknaaDoorWn51
namespace Go.Proofs.YtkabnbopakfknaaDoor
open Go.RowKit
set_option linter.unusedVariables false
set_option linter.unusedSimpArgs false

def WfC (es : List Value) (v : Bool) (w : World) : Prop := ∀ W, Below w.heap.size w W → Calls Tryd.prog 7 #[.agg es.toArray] W (fun e W' => e = .returned (.bool v) ∧ Below W.heap.size W W')
def NoRel (W : World) (vi : Value) (wr : World) : Prop := vi = .int .i64 0 ∧ wr = W
def WaRel (v : Nat → Bool) (l B : Nat) (pc : Array Value) (w : World) (vi : Value) (wr : World) : Prop :=
  ∃ i : Nat, i ≤ l ∧ vi = .int .i64 i ∧ allB v i = true ∧ Hid (Nd B 25 pc wr) ∧ Below B w wr
set_option maxHeartbeats 2000000 in
set_option maxRecDepth 100000 in
theorem wf_arr (a a' : Option Addr) (l c c' : Nat) (v : Nat → Bool) (w : World) (hl : l ≤ 1048576) (h0 : 0 < l) (hE : ArrIn a l (fun i es => WfC es (v i) w) w) :
    Calls Tryd.prog 7 #[.agg #[.string ⟨#[]⟩, .slice a l c, .slice a' 0 c']] w (fun e w' => e = .returned (.bool (allB v l)) ∧ Below w.heap.size w w') := by
  obtain ⟨B, hB⟩ : ∃ B, w.heap.size = B := ⟨_, rfl⟩
  have HE := Lib.hid hE
  clear hE
  obtain ⟨WA, hWA⟩ : ∃ W, W = w.alloc (.cells #[.string ⟨#[]⟩, .slice a l c, .slice a' 0 c'] 25) := ⟨_, rfl⟩
  have hP : Nd B 25 #[.string ⟨#[]⟩, .slice a l c, .slice a' 0 c'] WA := by rw [hWA]; exact Nd.newAt _ _ hB.symm
  have hbw : Below B w WA := by rw [hWA, ← hB]; exact (Below.refl _ _).alloc (Nat.le_refl _) _
  have HB := Lib.hid hB
  have HW := Lib.hid hWA
  clear hWA
  go_enter Tryd.func7, Tryd.ntmps7
  go_wp2_with fail
  try rw [← HW.out]
  clear hB HW
  obtain ⟨PC, hPCe⟩ : ∃ PC : Array Value, PC = #[.string ⟨#[]⟩, .slice a l c, .slice a' 0 c'] := ⟨_, rfl⟩
  have hPC1 : PC[1]? = some (.slice a l c) := by rw [hPCe]; rfl
  have hPC2 : PC[2]? = some (.slice a' 0 c') := by rw [hPCe]; rfl
  rw [← hPCe] at hP
  clear hPCe
  go_loopw [5] (WaRel v l B PC w) (fun i _ => l - (Go.RowKit.intOf i).toNat)
  case atStart => exact ⟨0, Nat.zero_le _, rfl, rfl, Lib.hid hP, hbw⟩
  case round =>
    clear hP hbw
    obtain ⟨i, hi, rfl, hall, hP, hbw⟩ := hrel
    have q1 := hP.out.cell 1 hPC1
    by_cases hlt : i < l
    · obtain ⟨g, o, ha, es, hel, hcell, hcall⟩ := HE.out i hlt
      subst ha
      obtain ⟨e0, e1, e2, rfl⟩ := list3 es hel
      clear hel
      have hbx := hbw
      rw [← HB.out] at hbx
      have d0 : wr.cell? ⟨g, o + i * 3, none⟩ = some e0 := cell_on hbx (hcell 0 (by omega))
      have d1 : wr.cell? ⟨g, o + i * 3 + 1, none⟩ = some e1 := cell_on hbx (hcell 1 (by omega))
      have d2 : wr.cell? ⟨g, o + i * 3 + 2, none⟩ = some e2 := cell_on hbx (hcell 2 (by omega))
      have HC := Lib.hid (hcall wr hbx)
      have HALL := Lib.hid hall
      clear hcell hcall hbx hall
      go_wp2_with fail
      refine HC.out.mono ?_
      rintro e w1 ⟨rfl, hb1⟩
      have hPl := hP.out.lt
      have hP1 := Lib.hid (hP.out.below hb1 hPl)
      have hbw1 : Below B w w1 := hbw.trans (hb1.mono (by omega))
      obtain ⟨x, hx⟩ : ∃ x, v i = x := ⟨_, rfl⟩
      rw [hx]
      have HX := Lib.hid hx
      clear hP hb1 q1 hx HC
      cases x with
      | false =>
        go_wp2_with fail
        go_ret
        exact ⟨ret_bool (by rw [allB_false HX.out hlt]), by first | exact hbw1 | (rw [HB.out]; exact hbw1)⟩
      | true =>
        go_wp2_with fail
        go_roundw
        case rel => exact ⟨i + 1, by omega, by go_num, by show (allB v i && v i) = true; rw [HALL.out, HX.out]; rfl, hP1, hbw1⟩
        case measure => first | omega | (simp; omega) | (simp [Go.RowKit.intOf]; omega)
    · obtain rfl : i = l := by omega
      have q2 := hP.out.cell 2 hPC2
      have HALL := Lib.hid hall
      clear hall
      go_wp2_with fail
      have HP := hP
      have HBW := Lib.hid hbw
      clear hP hbw q1 q2
      go_loopw [6] (NoRel wr) (fun i _ => 0)
      case atStart => exact ⟨rfl, rfl⟩
      case round =>
        obtain ⟨rfl, rfl⟩ := hrel
        have q2 := HP.out.cell 2 hPC2
        go_wp2_with fail
        go_ret
        exact ⟨ret_bool (by rw [HALL.out]), by first | exact HBW.out | (rw [HB.out]; exact HBW.out)⟩
end Go.Proofs.YtkabnbopakfknaaDoor
