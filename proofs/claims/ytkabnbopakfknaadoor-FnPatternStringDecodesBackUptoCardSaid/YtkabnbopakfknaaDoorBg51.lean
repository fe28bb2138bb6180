/- The law's budget of a pattern: some number. -/
import Derived.Test.YtkabnbopakfknaaDoorMade
import Derived.Test.YtkabnbopakfknaaDoorSlKit
import Derived.Test.YtkabnbopakfknaaDoorRd51
import Derived.Outline
namespace Go.Proofs.YtkabnbopakfknaaDoor
open Go.RowKit
set_option linter.unusedVariables false
set_option linter.unusedSimpArgs false

theorem list3 (es : List Value) (h : es.length = 3) : ∃ e0 e1 e2, es = [e0, e1, e2] := by
  match es, h with
  | [a, b, c], _ => exact ⟨a, b, c, rfl⟩
def SzE (w : World) (e : Ending) (w' : World) : Prop := ∃ r : Int, e = .returned (.int .i64 r) ∧ -20000000 ≤ r ∧ r ≤ 1048576 ∧ Below w.heap.size w w'
def SzC (es : List Value) (W0 : World) : Prop := ∀ W, Below W0.heap.size W0 W → ∀ b : Int, 0 ≤ b → b ≤ 1048576 → Calls Tryd.prog 6 #[.agg es.toArray, .int .i64 b] W (SzE W)
def SzRel (l B : Nat) (pc : Array Value) (w : World) (vb vi : Value) (wr : World) : Prop :=
  ∃ (i : Nat) (bud : Int), i ≤ l ∧ vi = .int .i64 i ∧ vb = .int .i64 bud ∧ 0 ≤ bud ∧ bud ≤ 1048576 ∧ Hid (Nd B 25 pc wr) ∧ Below B w wr
set_option maxHeartbeats 4000000 in
set_option maxRecDepth 100000 in
theorem budget_any (nm : ByteArray) (a a' : Option Addr) (l c l' c' : Nat) (K : Nat → ByteArray) (av : Nat → Option Addr) (lv cv : Nat → Nat) (b : Int) (w : World) (hn : nm.size ≤ 1048576) (hl : l ≤ 1048576) (hl' : l' ≤ 1048576) (hK : ∀ i, i < l' → (K i).size ≤ 1048576 ∧ lv i ≤ 1048576) (hb0 : 0 ≤ b) (hb : b ≤ 1048576)
    (hE : ArrIn a l (fun _ es => SzC es w) w) (hO : EntIn a' l' K av lv cv (fun _ _ es => SzC es w) w) :
    Calls Tryd.prog 6 #[.agg #[.string nm, .slice a l c, .slice a' l' c'], .int .i64 b] w (SzE w) := by
  obtain ⟨B, hB⟩ : ∃ B, w.heap.size = B := ⟨_, rfl⟩
  have HE := Lib.hid hE
  have HO := Lib.hid hO
  have HK := Lib.hid hK
  clear hE hO hK
  obtain ⟨WA, hWA⟩ : ∃ W, W = w.alloc (.cells #[.string nm, .slice a l c, .slice a' l' c'] 25) := ⟨_, rfl⟩
  have hP : Nd B 25 #[.string nm, .slice a l c, .slice a' l' c'] WA := by rw [hWA]; exact Nd.newAt _ _ hB.symm
  have hbw : Below B w WA := by rw [hWA, ← hB]; exact (Below.refl _ _).alloc (Nat.le_refl _) _
  have HB := Lib.hid hB
  have HW := Lib.hid hWA
  clear hWA
  obtain ⟨n, hc⟩ : ∃ n : Int, b - nm.size = n := ⟨_, rfl⟩
  by_cases h2 : n < 0
  · go_enter Tryd.func6, Tryd.ntmps6
    go_wp2_with fail
    go_ret
    exact ⟨n, rfl, by omega, by omega, by rw [← HW.out, HB.out]; exact hbw⟩
  obtain ⟨q8, hq8⟩ : ∃ q : Int, Int.tdiv n 8 = q := ⟨_, rfl⟩
  have hq0 : 0 ≤ q8 := by rw [← hq8]; exact Int.tdiv_nonneg (by omega) (by omega)
  have hq1 : q8 ≤ 1048576 := by rw [← hq8, Int.tdiv_eq_ediv_of_nonneg (by omega)]; omega
  by_cases h3 : q8 + 1 < l
  · go_enter Tryd.func6, Tryd.ntmps6
    go_wp2_with fail
    go_ret
    exact ⟨-1, rfl, by omega, by omega, by rw [← HW.out, HB.out]; exact hbw⟩
  obtain ⟨n2, hc2⟩ : ∃ n2 : Int, n - 8 * l = n2 := ⟨_, rfl⟩
  by_cases h4 : n2 < 0
  · go_enter Tryd.func6, Tryd.ntmps6
    go_wp2_with fail
    go_ret
    exact ⟨n2, rfl, by omega, by omega, by rw [← HW.out, HB.out]; exact hbw⟩
  go_enter Tryd.func6, Tryd.ntmps6
  go_wp2_with fail
  rw [← HW.out]
  clear HW
  obtain ⟨PC, hPCe⟩ : ∃ PC : Array Value, PC = #[.string nm, .slice a l c, .slice a' l' c'] := ⟨_, rfl⟩
  have hPC1 : PC[1]? = some (.slice a l c) := by rw [hPCe]; rfl
  have hPC2 : PC[2]? = some (.slice a' l' c') := by rw [hPCe]; rfl
  rw [← hPCe] at hP
  clear hPCe hB
  have hn20 : 0 ≤ n2 := by omega
  have hn21 : n2 ≤ 1048576 := by omega
  clear hc2 h4 hq8 h3 h2 hc hq0 hq1
  go_loopw [1, 5] (SzRel l B PC w) (fun _ i _ => l - (Go.RowKit.intOf i).toNat)
  case atStart => exact ⟨0, n2, Nat.zero_le _, rfl, rfl, hn20, hn21, Lib.hid hP, hbw⟩
  case round =>
    clear hP hbw hn20 hn21
    obtain ⟨i, bud, hi, rfl, rfl, hbu0, hbu1, hP, hbw⟩ := hrel
    have q1 := hP.out.cell 1 hPC1
    by_cases hlt : i < l
    · obtain ⟨g, o, ha, es, hel, hcell, hcall⟩ := HE.out i hlt
      subst ha
      obtain ⟨e0, e1, e2, rfl⟩ := list3 es hel
      clear hel
      have hbx := hbw
      rw [← HB.out] at hbx
      have d0 : wr.cell? ⟨g, o + i * 3, none⟩ = some e0 := cell_on hbx (hcell 0 (by omega))
      have d1 : wr.cell? ⟨g, o + i * 3 + 1, none⟩ = some e1 := cell_on hbx (hcell 1 (by omega))
      have d2 : wr.cell? ⟨g, o + i * 3 + 2, none⟩ = some e2 := cell_on hbx (hcell 2 (by omega))
      have HC := Lib.hid (hcall wr hbx bud (by omega) (by omega))
      clear hcell hcall hbx
      go_wp2_with fail
      refine HC.out.mono ?_
      rintro e w1 ⟨r, rfl, r1, r2, hb1⟩
      have hPl := hP.out.lt
      have hP1 := Lib.hid (hP.out.below hb1 hPl)
      have hbw1 : Below B w w1 := hbw.trans (hb1.mono (by omega))
      clear hP hb1 q1
      by_cases hr : r < 0
      · go_wp2_with fail
        go_ret
        exact ⟨r, rfl, by omega, by omega, by rw [HB.out]; exact hbw1⟩
      · go_wp2_with fail
        go_roundw
        case rel => exact ⟨i + 1, r, by omega, by go_num, rfl, by omega, by omega, hP1, hbw1⟩
        case measure => first | omega | (simp; omega) | (simp [Go.RowKit.intOf]; omega)
    · obtain rfl : i = l := by omega
      have q2 := hP.out.cell 2 hPC2
      obtain ⟨p8, hp8⟩ : ∃ q : Int, Int.tdiv bud 8 = q := ⟨_, rfl⟩
      have hp0 : 0 ≤ p8 := by rw [← hp8]; exact Int.tdiv_nonneg (by omega) (by omega)
      have hp1 : p8 ≤ 1048576 := by rw [← hp8, Int.tdiv_eq_ediv_of_nonneg (by omega)]; omega
      by_cases t5 : p8 + 1 < l'
      · go_wp2_with fail
        go_ret
        exact ⟨-1, rfl, by omega, by omega, by rw [HB.out]; exact hbw⟩
      obtain ⟨n3, hn3⟩ : ∃ n3 : Int, bud - 8 * l' = n3 := ⟨_, rfl⟩
      by_cases t6 : n3 < 0
      · go_wp2_with fail
        go_ret
        exact ⟨n3, rfl, by omega, by omega, by rw [HB.out]; exact hbw⟩
      go_wp2_with fail
      clear q1 q2
      go_loopw [1, 6] (SzRel l' B PC w) (fun _ i _ => l' - (Go.RowKit.intOf i).toNat)
      case atStart => exact ⟨0, n3, Nat.zero_le _, rfl, rfl, by omega, by omega, hP, hbw⟩
      case round =>
        clear hP hbw
        obtain ⟨i, bud, hi, rfl, rfl, hbu0, hbu1, hP, hbw⟩ := hrel
        have q2 := hP.out.cell 2 hPC2
        by_cases hlt : i < l'
        · obtain ⟨g, o, ha, hk, hkv, hv⟩ := HO.out i hlt
          obtain ⟨hK1, hK2⟩ := HK.out i hlt
          subst ha
          have hbx := hbw
          rw [← HB.out] at hbx
          have d0 := cell_on hbx hk
          have d1 := cell_on hbx hkv
          have HKV := Lib.hid hkv
          have HV := Lib.hid hv
          clear hk hkv hv hbx
          obtain ⟨m0, hm0⟩ : ∃ m : Int, bud - (K i).size = m := ⟨_, rfl⟩
          by_cases t1 : m0 < 0
          · go_wp2_with fail
            go_ret
            exact ⟨m0, by go_num, by omega, by omega, by rw [HB.out]; exact hbw⟩
          obtain ⟨q8, hq8⟩ : ∃ q : Int, Int.tdiv m0 8 = q := ⟨_, rfl⟩
          have hq0 : 0 ≤ q8 := by rw [← hq8]; exact Int.tdiv_nonneg (by omega) (by omega)
          have hq1 : q8 ≤ 1048576 := by rw [← hq8, Int.tdiv_eq_ediv_of_nonneg (by omega)]; omega
          by_cases t2 : q8 + 1 < lv i
          · go_wp2_with fail
            go_ret
            exact ⟨-1, by go_num, by omega, by omega, by rw [HB.out]; exact hbw⟩
          obtain ⟨m2, hm2⟩ : ∃ m2 : Int, m0 - 8 * lv i = m2 := ⟨_, rfl⟩
          by_cases t3 : m2 < 0
          · go_wp2_with fail
            go_ret
            exact ⟨m2, by go_num, by omega, by omega, by rw [HB.out]; exact hbw⟩
          have hm20 : 0 ≤ m2 := by omega
          have hm21 : m2 ≤ 1048576 := by omega
          go_wp2_with fail
          go_loopw [1, 7] (SzRel (lv i) B PC w) (fun _ j _ => lv i - (Go.RowKit.intOf j).toNat)
          case atStart => exact ⟨0, m2, Nat.zero_le _, rfl, rfl, hm20, hm21, hP, hbw⟩
          case round =>
            clear hP hbw hm20 hm21
            obtain ⟨j, bud, hj, rfl, rfl, hbu0, hbu1, hP, hbw⟩ := hrel
            have q2 := hP.out.cell 2 hPC2
            have hbx := hbw
            rw [← HB.out] at hbx
            have kv := cell_on hbx HKV.out
            by_cases hlt : j < lv i
            · obtain ⟨g2, o2, ha2, es, hel, hcell, hcall⟩ := HV.out j hlt
              obtain ⟨e0, e1, e2, rfl⟩ := list3 es hel
              clear hel
              have d0 : wr.cell? ⟨g2, o2 + j * 3, none⟩ = some e0 := cell_on hbx (hcell 0 (by omega))
              have d1 : wr.cell? ⟨g2, o2 + j * 3 + 1, none⟩ = some e1 := cell_on hbx (hcell 1 (by omega))
              have d2 : wr.cell? ⟨g2, o2 + j * 3 + 2, none⟩ = some e2 := cell_on hbx (hcell 2 (by omega))
              rw [ha2] at kv
              have HC := Lib.hid (hcall wr hbx bud (by omega) (by omega))
              clear hcell hcall hbx ha2
              go_wp2_with fail
              refine HC.out.mono ?_
              rintro e w1 ⟨r, rfl, r1, r2, hb1⟩
              have hPl := hP.out.lt
              have hP1 := Lib.hid (hP.out.below hb1 hPl)
              have hbw1 : Below B w w1 := hbw.trans (hb1.mono (by omega))
              clear hP hb1 q2 kv d0 d1 d2
              by_cases hr : r < 0
              · go_wp2_with fail
                go_ret
                exact ⟨r, rfl, by omega, by omega, by rw [HB.out]; exact hbw1⟩
              · go_wp2_with fail
                go_roundw
                case rel => exact ⟨j + 1, r, by omega, by go_num, rfl, by omega, by omega, hP1, hbw1⟩
                case measure => first | omega | (simp; omega) | (simp [Go.RowKit.intOf]; omega)
            · obtain rfl : j = lv i := by omega
              clear hbx
              go_wp2_with fail
              go_roundw
              case rel => exact ⟨i + 1, bud, by omega, by go_num, rfl, by omega, by omega, hP, hbw⟩
              case measure => first | omega | (simp; omega) | (simp [Go.RowKit.intOf]; omega)
        · obtain rfl : i = l' := by omega
          go_wp2_with fail
          go_ret
          exact ⟨bud, rfl, by omega, by omega, by rw [HB.out]; exact hbw⟩
end Go.Proofs.YtkabnbopakfknaaDoor
