/- The law's measure of a pattern: some number. -/
import Derived.Test.YthfhfocdbkieoaaDoorTp36
import Derived.Test.YthfhfocdbkieoaaDoorRd36
namespace Go.Proofs.YthfhfocdbkieoaaDoor
open Go.RowKit
set_option linter.unusedVariables false

def SzE (w : World) (e : Ending) (w' : World) : Prop := ∃ r : Int, e = .returned (.int .i64 r) ∧ -20000000 ≤ r ∧ r ≤ 1048576 ∧ Below w.heap.size w w'
def SzC (F : FuncId) (es : List Value) (W0 : World) : Prop := ∀ W, Below W0.heap.size W0 W → ∀ d b : Int, 0 ≤ d → d ≤ 201 → 0 ≤ b → b ≤ 1048576 → Calls Tryd.prog F #[.agg es.toArray, .int .i64 d, .int .i64 b] W (SzE W)
def SVIn (pp : Option Addr) (w : World) : Prop :=
  pp = none ∨ ∃ g o e0 e1 e2, pp = some ⟨g, o, none⟩ ∧ w.cell? ⟨g, o, none⟩ = some e0 ∧ w.cell? ⟨g, o + 1, none⟩ = some e1 ∧ w.cell? ⟨g, o + 2, none⟩ = some e2 ∧ SzC 21 [e0, e1, e2] w
def SIn (F : FuncId) (c : Nat) (a : Option Addr) (l : Nat) (w : World) : Prop :=
  ∀ i, i < l → ∃ g o, a = some ⟨g, o, none⟩ ∧ ∃ es : List Value, es.length = c ∧ (∀ j, j < c → w.cell? ⟨g, o + i * c + j, none⟩ = es[j]?) ∧ SzC F es w
set_option maxHeartbeats 1000000 in
set_option maxRecDepth 100000 in
theorem sizeObj_any (k q : ByteArray) (hq : Bool) (pp : Option Addr) (d b : Int) (w : World) (hk : k.size ≤ 1048576) (hqs : q.size ≤ 1048576) (hd0 : 0 ≤ d) (hd : d ≤ 201) (hb0 : 0 ≤ b) (hb : b ≤ 1048576) (hv : SVIn pp w) :
    Calls Tryd.prog 11 #[.agg #[.string k, .bool hq, .string q, .pointer pp], .int .i64 d, .int .i64 b] w (SzE w) := by
  have hB : Below w.heap.size w (w.alloc (.cells #[.string k, .bool hq, .string q, .pointer pp] 33)) := (Below.refl _ _).alloc (Nat.le_refl _) _
  by_cases h1 : 200 < d
  · go_enter Tryd.func11, Tryd.ntmps11
    go_wp2_with fail
    go_ret
    exact ⟨-1, rfl, by omega, by omega, hB⟩
  · obtain ⟨c, hc⟩ : ∃ c : Int, b - (1 + k.size + q.size) = c := ⟨_, rfl⟩
    by_cases h2 : c < 0
    · go_enter Tryd.func11, Tryd.ntmps11
      go_wp2_with fail
      go_ret
      exact ⟨c, by go_num, by omega, by omega, hB⟩
    · rcases hv with rfl | ⟨g, o, e0, e1, e2, rfl, d0, d1, d2, hcall⟩
      · go_enter Tryd.func11, Tryd.ntmps11
        go_wp2_with fail
        go_ret
        exact ⟨c, by go_num, by omega, by omega, hB⟩
      · have f0 := (hB.cell (p := ⟨g, o, none⟩) (World.block_lt_of_cell? w _ d0)).trans d0
        have f1 := (hB.cell (p := ⟨g, o + 1, none⟩) (World.block_lt_of_cell? w _ d1)).trans d1
        have f2 := (hB.cell (p := ⟨g, o + 2, none⟩) (World.block_lt_of_cell? w _ d2)).trans d2
        have HC := Lib.hid (hcall _ hB (d + 1) c (by omega) (by omega) (by omega) (by omega))
        clear hcall
        go_enter Tryd.func11, Tryd.ntmps11
        go_wp2_with fail
        refine HC.out.mono ?_
        rintro e w1 ⟨r, rfl, r1, r2, hb1⟩
        go_wp2_with fail
        go_ret
        exact ⟨r, rfl, r1, r2, hB.trans (hb1.mono (by rw [size_alloc]; omega))⟩
def SzRel (l B : Nat) (pc : Array Value) (w : World) (vb vi : Value) (wr : World) : Prop :=
  ∃ (i : Nat) (bud : Int), i ≤ l ∧ vi = .int .i64 i ∧ vb = .int .i64 bud ∧ 0 ≤ bud ∧ bud ≤ 1048576 ∧ Hid (Nd B 62 pc wr) ∧ Below B w wr
set_option maxHeartbeats 1000000 in
set_option maxRecDepth 100000 in
theorem sizePat_any (nm : ByteArray) (a a' : Option Addr) (l c l' c' : Nat) (d b : Int) (w : World) (hn : nm.size ≤ 1048576) (hl : l ≤ 1048576) (hl' : l' ≤ 1048576) (hd0 : 0 ≤ d) (hd : d ≤ 201) (hb0 : 0 ≤ b) (hb : b ≤ 1048576)
    (hE : SIn 21 3 a l w) (hO : SIn 11 4 a' l' w) :
    Calls Tryd.prog 21 #[.agg #[.string nm, .slice a l c, .slice a' l' c'], .int .i64 d, .int .i64 b] w (SzE w) := by
  obtain ⟨B, hB⟩ : ∃ B, w.heap.size = B := ⟨_, rfl⟩
  have HE := Lib.hid hE
  have HO := Lib.hid hO
  clear hE hO
  obtain ⟨WA, hWA⟩ : ∃ W, W = w.alloc (.cells #[.string nm, .slice a l c, .slice a' l' c'] 62) := ⟨_, rfl⟩
  have hP : Nd B 62 #[.string nm, .slice a l c, .slice a' l' c'] WA := by rw [hWA]; exact Nd.newAt _ _ hB.symm
  have hbw : Below B w WA := by rw [hWA, ← hB]; exact (Below.refl _ _).alloc (Nat.le_refl _) _
  have HB := Lib.hid hB
  have HW := Lib.hid hWA
  clear hWA
  by_cases h1 : 200 < d
  · go_enter Tryd.func21, Tryd.ntmps21
    go_wp2_with fail
    go_ret
    exact ⟨-1, rfl, by omega, by omega, by rw [← HW.out, HB.out]; exact hbw⟩
  · obtain ⟨n, hc⟩ : ∃ n : Int, b - (1 + nm.size + 8 * l + 8 * l') = n := ⟨_, rfl⟩
    by_cases h2 : n < 0
    · go_enter Tryd.func21, Tryd.ntmps21
      go_wp2_with fail
      go_ret
      exact ⟨n, by go_num, by omega, by omega, by rw [← HW.out, HB.out]; exact hbw⟩
    · go_enter Tryd.func21, Tryd.ntmps21
      go_wp2_with fail
      rw [← HW.out]
      clear HW
      obtain ⟨bud, hbud⟩ : ∃ bud, n = bud := ⟨_, rfl⟩
      have hbu0 : 0 ≤ bud := by omega
      have hbu1 : bud ≤ 1048576 := by omega
      rw [hbud]
      clear hbud hc h2 n
      obtain ⟨PC, hPCe⟩ : ∃ PC : Array Value, PC = #[.string nm, .slice a l c, .slice a' l' c'] := ⟨_, rfl⟩
      have hPC1 : PC[1]? = some (.slice a l c) := by rw [hPCe]; rfl
      have hPC2 : PC[2]? = some (.slice a' l' c') := by rw [hPCe]; rfl
      rw [← hPCe] at hP
      clear hPCe hB

      go_loopw [2, 7] (SzRel l B PC w) (fun _ i _ => l - (Go.RowKit.intOf i).toNat)
      case atStart => exact ⟨0, bud, Nat.zero_le _, rfl, rfl, hbu0, hbu1, Lib.hid hP, hbw⟩
      case round =>
        clear hP hbw hbu0 hbu1
        obtain ⟨i, bud, hi, rfl, rfl, hbu0, hbu1, hP, hb⟩ := hrel
        have q1 := hP.out.cell 1 hPC1
        by_cases hlt : i < l
        · obtain ⟨g, o, ha, es, hel, hcell, hcall⟩ := HE.out i hlt
          subst ha
          obtain ⟨e0, e1, e2, rfl⟩ := list3 es hel
          clear hel
          have hgl := World.block_lt_of_cell? w _ (hcell 0 (by omega))
          simp only at hgl
          have d0 := (hb.cell (p := ⟨g, o + i * 3, none⟩) (by rw [← HB.out]; exact hgl)).trans (hcell 0 (by omega))
          have d1 := (hb.cell (p := ⟨g, o + i * 3 + 1, none⟩) (by rw [← HB.out]; exact hgl)).trans (hcell 1 (by omega))
          have d2 := (hb.cell (p := ⟨g, o + i * 3 + 2, none⟩) (by rw [← HB.out]; exact hgl)).trans (hcell 2 (by omega))
          have hb' := hb
          rw [← HB.out] at hb'
          have HC := Lib.hid (hcall wr hb' (d + 1) bud (by omega) (by omega) hbu0 hbu1)
          clear hcell hcall hb'
          go_wp2_with fail
          refine HC.out.mono ?_
          rintro e w1 ⟨r, rfl, r1, r2, hb1⟩
          have hPl := hP.out.lt
          have hP1 := Lib.hid (hP.out.below hb1 hPl)
          have hbw1 : Below B w w1 := hb.trans (hb1.mono (by omega))
          clear hP hb1 q1
          by_cases hr : r < 0
          · go_wp2_with fail
            go_ret
            exact ⟨r, rfl, by omega, by omega, by rw [HB.out]; exact hbw1⟩
          · go_wp2_with fail
            go_roundw
            case rel => exact ⟨i + 1, r, by omega, by go_num, rfl, by omega, by omega, hP1, hbw1⟩
            case measure => simp [Go.RowKit.intOf]; omega
        · obtain rfl : i = l := by omega
          have q2 := hP.out.cell 2 hPC2
          go_wp2_with fail
          clear q1 q2
          have hbw := hb
          clear hb
          replace hP := hP.out

          go_loopw [2, 8] (SzRel l' B PC w) (fun _ i _ => l' - (Go.RowKit.intOf i).toNat)
          case atStart => exact ⟨0, bud, Nat.zero_le _, rfl, rfl, hbu0, hbu1, Lib.hid hP, hbw⟩
          case round =>
            clear hP hbw hbu0 hbu1
            obtain ⟨i, bud, hi, rfl, rfl, hbu0, hbu1, hP, hb⟩ := hrel
            have q1 := hP.out.cell 2 hPC2
            by_cases hlt : i < l'
            · obtain ⟨g, o, ha, es, hel, hcell, hcall⟩ := HO.out i hlt
              subst ha
              obtain ⟨e0, e1, e2, e3, rfl⟩ := list4 es hel
              clear hel
              have hgl := World.block_lt_of_cell? w _ (hcell 0 (by omega))
              simp only at hgl
              have d0 := (hb.cell (p := ⟨g, o + i * 4, none⟩) (by rw [← HB.out]; exact hgl)).trans (hcell 0 (by omega))
              have d1 := (hb.cell (p := ⟨g, o + i * 4 + 1, none⟩) (by rw [← HB.out]; exact hgl)).trans (hcell 1 (by omega))
              have d2 := (hb.cell (p := ⟨g, o + i * 4 + 2, none⟩) (by rw [← HB.out]; exact hgl)).trans (hcell 2 (by omega))
              have d3 := (hb.cell (p := ⟨g, o + i * 4 + 3, none⟩) (by rw [← HB.out]; exact hgl)).trans (hcell 3 (by omega))
              have hb' := hb
              rw [← HB.out] at hb'
              have HC := Lib.hid (hcall wr hb' (d + 1) bud (by omega) (by omega) hbu0 hbu1)
              clear hcell hcall hb'
              go_wp2_with fail
              refine HC.out.mono ?_
              rintro e w1 ⟨r, rfl, r1, r2, hb1⟩
              have hPl := hP.out.lt
              have hP1 := Lib.hid (hP.out.below hb1 hPl)
              have hbw1 : Below B w w1 := hb.trans (hb1.mono (by omega))
              clear hP hb1 q1
              by_cases hr : r < 0
              · go_wp2_with fail
                go_ret
                exact ⟨r, rfl, by omega, by omega, by rw [HB.out]; exact hbw1⟩
              · go_wp2_with fail
                go_roundw
                case rel => exact ⟨i + 1, r, by omega, by go_num, rfl, by omega, by omega, hP1, hbw1⟩
                case measure => simp [Go.RowKit.intOf]; omega
            · obtain rfl : i = l' := by omega
              have q2 := hP.out.cell 2 hPC2
              go_wp2_with fail
              go_ret
              exact ⟨bud, rfl, by omega, by omega, by rw [HB.out]; exact hb⟩
end Go.Proofs.YthfhfocdbkieoaaDoor
