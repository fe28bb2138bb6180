/- The law's equality of two trees: true where the parts are equal. -/
import Derived.Test.YtkabnbopakfknaaDoorMk51
import Derived.BigQuiet
namespace Go.Proofs.YtkabnbopakfknaaDoor
open Go.RowKit
set_option linter.unusedVariables false
set_option linter.unusedSimpArgs false

/-- The law's equality is true of these two trees. -/
def EqC (es1 es : List Value) (w : World) : Prop := ∀ W, Below w.heap.size w W → Calls Tryd.prog 11 #[.agg es1.toArray, .agg es.toArray] W (fun e W' => e = .returned (.bool true) ∧ Below W.heap.size W W')
def ArrEq (a1 a : Option Addr) (l : Nat) (w : World) : Prop :=
  ∀ i, i < l → ∃ g1 o1 g o, a1 = some ⟨g1, o1, none⟩ ∧ a = some ⟨g, o, none⟩ ∧ ∃ x0 x1 x2 y0 y1 y2, w.cell? ⟨g1, o1 + i * 3, none⟩ = some x0 ∧ w.cell? ⟨g1, o1 + i * 3 + 1, none⟩ = some x1 ∧ w.cell? ⟨g1, o1 + i * 3 + 2, none⟩ = some x2 ∧
    w.cell? ⟨g, o + i * 3, none⟩ = some y0 ∧ w.cell? ⟨g, o + i * 3 + 1, none⟩ = some y1 ∧ w.cell? ⟨g, o + i * 3 + 2, none⟩ = some y2 ∧ EqC [x0, x1, x2] [y0, y1, y2] w
def EntEq (a1 a : Option Addr) (l : Nat) (w : World) : Prop :=
  ∀ i, i < l → ∃ g1 o1 g o, a1 = some ⟨g1, o1, none⟩ ∧ a = some ⟨g, o, none⟩ ∧ ∃ (k : ByteArray) (v1 v : Option Addr) (m c1 c : Nat), m ≤ 1048576 ∧ w.cell? ⟨g1, o1 + i * 2, none⟩ = some (.string k) ∧ w.cell? ⟨g1, o1 + i * 2 + 1, none⟩ = some (.slice v1 m c1) ∧
    w.cell? ⟨g, o + i * 2, none⟩ = some (.string k) ∧ w.cell? ⟨g, o + i * 2 + 1, none⟩ = some (.slice v m c) ∧ ArrEq v1 v m w
def EqRel (l B : Nat) (p1 p2 : Array Value) (w : World) (vi : Value) (wr : World) : Prop :=
  ∃ i : Nat, i ≤ l ∧ vi = .int .i64 i ∧ Hid (Nd B 25 p1 wr) ∧ Hid (Nd (B + 1) 25 p2 wr) ∧ Below B w wr
theorem below_dr {B n : Nat} {w w' : World} (h : Below B w w') : Below B w (w'.drewN n) := ⟨h.os, h.tape, h.output, h.size, h.block⟩
set_option maxHeartbeats 4000000 in
set_option maxRecDepth 100000 in
theorem eq_any (nm : ByteArray) (a1 a o1' o' : Option Addr) (l c1 c l' d1 d : Nat) (w : World) (hl : l ≤ 1048576) (hl' : l' ≤ 1048576) (hE : ArrEq a1 a l w) (hO : EntEq o1' o' l' w) :
    Calls Tryd.prog 11 #[.agg #[.string nm, .slice a1 l c1, .slice o1' l' d1], .agg #[.string nm, .slice a l c, .slice o' l' d]] w (fun e w' => e = .returned (.bool true) ∧ Below w.heap.size w w') := by
  have HE := Lib.hid hE
  have HO := Lib.hid hO
  clear hE hO
  obtain ⟨B, hB⟩ : ∃ B, w.heap.size = B := ⟨_, rfl⟩
  obtain ⟨P1, hP1⟩ : ∃ P : Array Value, P = #[.string nm, .slice a1 l c1, .slice o1' l' d1] := ⟨_, rfl⟩
  obtain ⟨P2, hP2⟩ : ∃ P : Array Value, P = #[.string nm, .slice a l c, .slice o' l' d] := ⟨_, rfl⟩
  obtain ⟨WA, hWA⟩ : ∃ W, W = (w.alloc (.cells #[.string nm, .slice a1 l c1, .slice o1' l' d1] 25)).alloc (.cells #[.string nm, .slice a l c, .slice o' l' d] 25) := ⟨_, rfl⟩
  have hN1 : Nd B 25 P1 WA := by rw [hWA, hP1]; exact (Nd.newAt _ _ hB.symm).alloc _
  have hN2 : Nd (B + 1) 25 P2 WA := by rw [hWA, hP2]; exact Nd.newAt _ _ (by rw [size_alloc, hB])
  have hbw : Below B w WA := by rw [hWA, ← hB]; exact ((Below.refl _ _).alloc (Nat.le_refl _) _).alloc (by simp) _
  have hp11 : P1[1]? = some (.slice a1 l c1) := by rw [hP1]; rfl
  have hp12 : P1[2]? = some (.slice o1' l' d1) := by rw [hP1]; rfl
  have hp21 : P2[1]? = some (.slice a l c) := by rw [hP2]; rfl
  have hp22 : P2[2]? = some (.slice o' l' d) := by rw [hP2]; rfl
  have HB := Lib.hid hB
  have HW := Lib.hid hWA
  clear hWA hP1 hP2
  go_enter Tryd.func11, Tryd.ntmps11
  go_wp2_with fail
  try rw [← HW.out]
  clear HW hB
  go_loopw [5] (EqRel l B P1 P2 w) (fun i _ => l - (Go.RowKit.intOf i).toNat)
  case atStart => exact ⟨0, Nat.zero_le _, rfl, Lib.hid hN1, Lib.hid hN2, hbw⟩
  case round =>
    clear hN1 hN2 hbw
    obtain ⟨i, hi, rfl, hN1, hN2, hbw⟩ := hrel
    have q1 := hN1.out.cell 1 hp11
    have r1 := hN2.out.cell 1 hp21
    by_cases hlt : i < l
    · obtain ⟨g1, o1, g, o, ha1, ha, x0, x1, x2, y0, y1, y2, s0, s1, s2, t0, t1, t2, hcall⟩ := HE.out i hlt
      subst ha1 ha
      have hbx := hbw
      rw [← HB.out] at hbx
      replace s0 := cell_on hbx s0
      replace s1 := cell_on hbx s1
      replace s2 := cell_on hbx s2
      replace t0 := cell_on hbx t0
      replace t1 := cell_on hbx t1
      replace t2 := cell_on hbx t2
      have HC := Lib.hid (hcall wr.drew hbx.drew)
      have hBl1 : B < wr.drew.heap.size := hN1.out.lt
      have hBl2 : B + 1 < wr.drew.heap.size := hN2.out.lt
      have hgl1 : g1 < wr.drew.heap.size := World.block_lt_of_cell? wr _ s0
      have hgl2 : g < wr.drew.heap.size := World.block_lt_of_cell? wr _ t0
      have HG1 := Lib.hid hgl1
      clear hbx hcall
      go_wp2_with fail
      go_region_held3 (fun W => W.cell? ⟨B, 1, none⟩ = some (.slice (some ⟨g1, o1, none⟩) l c1) ∧ W.cell? ⟨B + 1, 1, none⟩ = some (.slice (some ⟨g, o, none⟩) l c) ∧ W.cell? ⟨g1, o1 + i * 3, none⟩ = some (x0) ∧ W.cell? ⟨g1, o1 + i * 3 + 1, none⟩ = some (x1) ∧ W.cell? ⟨g1, o1 + i * 3 + 2, none⟩ = some (x2) ∧ W.cell? ⟨g, o + i * 3, none⟩ = some (y0) ∧ W.cell? ⟨g, o + i * 3 + 1, none⟩ = some (y1) ∧ W.cell? ⟨g, o + i * 3 + 2, none⟩ = some (y2)) (first | go_keep | exact ⟨q1', r1', s0', s1', s2', t0', t1', t2'⟩)
        (first | (go_at_call 11; refine HC.out.mono ?_; rintro e W1 ⟨rfl, hb1'⟩; have hb1 := Lib.hid hb1'; clear hb1'; have q1' := (hb1.out.cell (p := ⟨B, 1, none⟩) hBl1).trans q1; have r1' := (hb1.out.cell (p := ⟨B + 1, 1, none⟩) hBl2).trans r1; have s0' := (hb1.out.cell (p := ⟨g1, o1 + i * 3, none⟩) hgl1).trans s0; have s1' := (hb1.out.cell (p := ⟨g1, o1 + i * 3 + 1, none⟩) hgl1).trans s1; have s2' := (hb1.out.cell (p := ⟨g1, o1 + i * 3 + 2, none⟩) hgl1).trans s2; have t0' := (hb1.out.cell (p := ⟨g, o + i * 3, none⟩) hgl2).trans t0; have t1' := (hb1.out.cell (p := ⟨g, o + i * 3 + 1, none⟩) hgl2).trans t1; have t2' := (hb1.out.cell (p := ⟨g, o + i * 3 + 2, none⟩) hgl2).trans t2))
      have hP1 := hN1.out.lt
      have hP2 := hN2.out.lt
      have hbq : Below wr.heap.size wr W1 := ⟨hb1.out.os, hb1.out.tape, hb1.out.output, hb1.out.size, hb1.out.block⟩
      have N1 := Lib.hid (hN1.out.below hbq hP1)
      have N2 := Lib.hid (hN2.out.below hbq hP2)
      have hbw1 : Below B w W1 := hbw.trans (hbq.mono (by omega))
      clear hbq
      clear hN1 hN2 q1 r1 s0 s1 s2 t0 t1 t2 q1' r1' s0' s1' s2' t0' t1' t2' hbw
      go_wp2_with fail
      go_roundw
      case rel => exact ⟨i + 1, by omega, by go_num, N1, N2, hbw1⟩
      case measure => first | omega | (simp; omega) | (simp [Go.RowKit.intOf]; omega)
    · obtain rfl : i = l := by omega
      have q2 := hN1.out.cell 2 hp12
      have r2 := hN2.out.cell 2 hp22
      go_wp2_with fail
      clear q1 r1 q2 r2
      go_loopw [6] (EqRel l' B P1 P2 w) (fun i _ => l' - (Go.RowKit.intOf i).toNat)
      case atStart => exact ⟨0, Nat.zero_le _, rfl, hN1, hN2, hbw⟩
      case round =>
        clear hN1 hN2 hbw
        obtain ⟨i, hi, rfl, hN1, hN2, hbw⟩ := hrel
        have q2 := hN1.out.cell 2 hp12
        have r2 := hN2.out.cell 2 hp22
        by_cases hlt : i < l'
        · obtain ⟨g1, o1, g, o, ha1, ha, k, v1, v, m, cc1, cc, hm, s0, s1, t0, t1, hA⟩ := HO.out i hlt
          subst ha1 ha
          have HA := Lib.hid hA
          have hbx := hbw
          rw [← HB.out] at hbx
          have HS1 := Lib.hid s1
          have HT1 := Lib.hid t1
          replace s0 := cell_on hbx s0
          replace s1 := cell_on hbx s1
          replace t0 := cell_on hbx t0
          replace t1 := cell_on hbx t1
          clear hbx hA
          go_wp2_with fail
          go_quiet (fail)
          clear s0 s1 t0 t1 q2 r2
          go_wp2_with fail
          go_loopw [7] (EqRel m B P1 P2 w) (fun j _ => m - (Go.RowKit.intOf j).toNat)
          case atStart => exact ⟨0, Nat.zero_le _, rfl, Lib.hid (by exact hN1.out), Lib.hid (by exact hN2.out), below_dr hbw⟩
          case round =>
            clear hN1 hN2 hbw
            obtain ⟨j, hj, rfl, hN1, hN2, hbw⟩ := hrel
            have q2 := hN1.out.cell 2 hp12
            have r2 := hN2.out.cell 2 hp22
            have hbx := hbw
            rw [← HB.out] at hbx
            have s1 := cell_on hbx HS1.out
            have t1 := cell_on hbx HT1.out
            by_cases hjt : j < m
            · obtain ⟨h1, p1, h, p, hb1, hb, x0, x1, x2, y0, y1, y2, s4, s5, s6, t4, t5, t6, hcall⟩ := HA.out j hjt
              rw [hb1] at s1
              rw [hb] at t1
              replace s4 := cell_on hbx s4
              replace s5 := cell_on hbx s5
              replace s6 := cell_on hbx s6
              replace t4 := cell_on hbx t4
              replace t5 := cell_on hbx t5
              replace t6 := cell_on hbx t6
              have HC := Lib.hid (hcall wr.drew hbx.drew)
              have hBl1 : B < wr.drew.heap.size := hN1.out.lt
              have hBl2 : B + 1 < wr.drew.heap.size := hN2.out.lt
              have hgl1 : g1 < wr.drew.heap.size := World.block_lt_of_cell? wr _ s1
              have hgl2 : g < wr.drew.heap.size := World.block_lt_of_cell? wr _ t1
              have hhl1 : h1 < wr.drew.heap.size := World.block_lt_of_cell? wr _ s4
              have hhl2 : h < wr.drew.heap.size := World.block_lt_of_cell? wr _ t4
              clear hbx hcall hb1 hb
              go_wp2_with fail
              go_region_held3 (fun W => W.cell? ⟨B, 2, none⟩ = some (.slice (some ⟨g1, o1, none⟩) l' d1) ∧ W.cell? ⟨B + 1, 2, none⟩ = some (.slice (some ⟨g, o, none⟩) l' d) ∧ W.cell? ⟨g1, o1 + i * 2 + 1, none⟩ = some (.slice (some ⟨h1, p1, none⟩) m cc1) ∧ W.cell? ⟨g, o + i * 2 + 1, none⟩ = some (.slice (some ⟨h, p, none⟩) m cc) ∧ W.cell? ⟨h1, p1 + j * 3, none⟩ = some (x0) ∧ W.cell? ⟨h1, p1 + j * 3 + 1, none⟩ = some (x1) ∧ W.cell? ⟨h1, p1 + j * 3 + 2, none⟩ = some (x2) ∧ W.cell? ⟨h, p + j * 3, none⟩ = some (y0) ∧ W.cell? ⟨h, p + j * 3 + 1, none⟩ = some (y1) ∧ W.cell? ⟨h, p + j * 3 + 2, none⟩ = some (y2)) (first | go_keep | exact ⟨q2', r2', s1', t1', s4', s5', s6', t4', t5', t6'⟩)
                (first | (go_at_call 11; refine HC.out.mono ?_; rintro e W1 ⟨rfl, hb1'⟩; have hb1 := Lib.hid hb1'; clear hb1'; have q2' := (hb1.out.cell (p := ⟨B, 2, none⟩) hBl1).trans q2; have r2' := (hb1.out.cell (p := ⟨B + 1, 2, none⟩) hBl2).trans r2; have s1' := (hb1.out.cell (p := ⟨g1, o1 + i * 2 + 1, none⟩) hgl1).trans s1; have t1' := (hb1.out.cell (p := ⟨g, o + i * 2 + 1, none⟩) hgl2).trans t1; have s4' := (hb1.out.cell (p := ⟨h1, p1 + j * 3, none⟩) hhl1).trans s4; have s5' := (hb1.out.cell (p := ⟨h1, p1 + j * 3 + 1, none⟩) hhl1).trans s5; have s6' := (hb1.out.cell (p := ⟨h1, p1 + j * 3 + 2, none⟩) hhl1).trans s6; have t4' := (hb1.out.cell (p := ⟨h, p + j * 3, none⟩) hhl2).trans t4; have t5' := (hb1.out.cell (p := ⟨h, p + j * 3 + 1, none⟩) hhl2).trans t5; have t6' := (hb1.out.cell (p := ⟨h, p + j * 3 + 2, none⟩) hhl2).trans t6))
              have hP1 := hN1.out.lt
              have hP2 := hN2.out.lt
              have hbq : Below wr.heap.size wr W1 := ⟨hb1.out.os, hb1.out.tape, hb1.out.output, hb1.out.size, hb1.out.block⟩
              have N1 := Lib.hid (hN1.out.below hbq hP1)
              have N2 := Lib.hid (hN2.out.below hbq hP2)
              have hbw1 : Below B w W1 := hbw.trans (hbq.mono (by omega))
              clear hbq hN1 hN2 q2 r2 s1 t1 s4 s5 s6 t4 t5 t6 q2' r2' s1' t1' s4' s5' s6' t4' t5' t6' hbw
              go_wp2_with fail
              go_roundw
              case rel => exact ⟨j + 1, by omega, by go_num, N1, N2, hbw1⟩
              case measure => first | omega | (simp; omega) | (simp [Go.RowKit.intOf]; omega)
            · obtain rfl : j = m := by omega
              clear hbx
              go_wp2_with fail
              go_roundw
              case rel => exact ⟨i + 1, by omega, by go_num, hN1, hN2, hbw⟩
              case measure => first | omega | (simp; omega) | (simp [Go.RowKit.intOf]; omega)
        · obtain rfl : i = l' := by omega
          go_wp2_with fail
          go_ret
          exact ⟨rfl, by first | exact hbw | (rw [HB.out]; exact hbw)⟩
end Go.Proofs.YtkabnbopakfknaaDoor
