/- The law's test of a pattern's form: an object, neither. -/
import Derived.Test.YtkabnbopakfknaaDoorWa51
namespace Go.Proofs.YtkabnbopakfknaaDoor
open Go.RowKit
set_option linter.unusedVariables false
set_option linter.unusedSimpArgs false

def kyP (s : ByteArray) (j : Nat) : Bool := keyN (byteN s j)
def entOk (k : ByteArray) (m : Nat) (u : Bool) : Bool := decide (k.size ≠ 0) && decide (m ≤ 1) && allB (kyP k) k.size && (decide (m = 0) || u)
def KyRel (k : ByteArray) (W : World) (vi : Value) (wr : World) : Prop := ∃ j : Nat, j ≤ k.size ∧ vi = .int .i64 j ∧ allB (kyP k) j = true ∧ wr = W
theorem wf_zero (a a' : Option Addr) (c c' : Nat) (w : World) :
    Calls Tryd.prog 7 #[.agg #[.string ⟨#[]⟩, .slice a 0 c, .slice a' 0 c']] w (fun e w' => e = .returned (.bool false) ∧ Below w.heap.size w w') := by
  go_enter Tryd.func7, Tryd.ntmps7
  go_wp2_with fail
  go_ret
  exact ⟨rfl, (Below.refl _ _).alloc (Nat.le_refl _) _⟩
set_option maxHeartbeats 1000000 in
theorem wf_two (nm : ByteArray) (a a' : Option Addr) (l c l' c' : Nat) (w : World) (hl : l ≤ 1048576) (hl' : l' ≤ 1048576) (h : (nm.size ≠ 0 ∧ 0 < l) ∨ (nm.size ≠ 0 ∧ 0 < l') ∨ (0 < l ∧ 0 < l')) :
    Calls Tryd.prog 7 #[.agg #[.string nm, .slice a l c, .slice a' l' c']] w (fun e w' => e = .returned (.bool false) ∧ Below w.heap.size w w') := by
  have hB := (Below.refl w.heap.size w).alloc (Nat.le_refl _) (.cells #[.string nm, .slice a l c, .slice a' l' c'] 25)
  have HB := Lib.hid hB
  clear hB
  by_cases h1 : nm.size = 0
  · obtain rfl : nm = ⟨#[]⟩ := by
      apply ByteArray.ext
      exact Array.eq_empty_of_size_eq_zero h1
    have h2 : 0 < l := by rcases h with h | h | h <;> first | exact absurd rfl h.1 | exact h.1
    have h3 : 0 < l' := by rcases h with h | h | h <;> first | exact absurd rfl h.1 | exact h.2
    clear h h1
    go_enter Tryd.func7, Tryd.ntmps7
    go_wp2_with fail
    go_ret
    exact ⟨rfl, HB.out⟩
  · have hne : nm.toList.isEmpty = false := ne_empty h1
    by_cases h2 : 0 < l
    · by_cases h3 : 0 < l'
      · clear h h1
        go_enter Tryd.func7, Tryd.ntmps7
        go_wp2_with fail
        go_ret
        exact ⟨rfl, HB.out⟩
      · obtain rfl : l' = 0 := by omega
        clear h h1
        go_enter Tryd.func7, Tryd.ntmps7
        go_wp2_with fail
        go_ret
        exact ⟨rfl, HB.out⟩
    · obtain rfl : l = 0 := by omega
      have h3 : 0 < l' := by rcases h with h | h | h <;> omega
      clear h h1
      go_enter Tryd.func7, Tryd.ntmps7
      go_wp2_with fail
      go_ret
      exact ⟨rfl, HB.out⟩
set_option maxHeartbeats 2000000 in
set_option maxRecDepth 100000 in
theorem wf_obj (a a' : Option Addr) (c l' c' : Nat) (K : Nat → ByteArray) (av : Nat → Option Addr) (lv cv : Nat → Nat) (u : Nat → Nat → Bool) (w : World) (hl' : l' ≤ 1048576) (hK : ∀ i, i < l' → (K i).size ≤ 1048576 ∧ lv i ≤ 1048576) (h0 : 0 < l') (hO : EntIn a' l' K av lv cv (fun i j es => WfC es (u i j) w) w) :
    Calls Tryd.prog 7 #[.agg #[.string ⟨#[]⟩, .slice a 0 c, .slice a' l' c']] w (fun e w' => e = .returned (.bool (allB (fun i => entOk (K i) (lv i) (u i 0)) l')) ∧ Below w.heap.size w w') := by
  obtain ⟨B, hB⟩ : ∃ B, w.heap.size = B := ⟨_, rfl⟩
  have HO := Lib.hid hO
  have HK := Lib.hid hK
  clear hO hK
  obtain ⟨WA, hWA⟩ : ∃ W, W = w.alloc (.cells #[.string ⟨#[]⟩, .slice a 0 c, .slice a' l' c'] 25) := ⟨_, rfl⟩
  have hP : Nd B 25 #[.string ⟨#[]⟩, .slice a 0 c, .slice a' l' c'] WA := by rw [hWA]; exact Nd.newAt _ _ hB.symm
  have hbw : Below B w WA := by rw [hWA, ← hB]; exact (Below.refl _ _).alloc (Nat.le_refl _) _
  have HB := Lib.hid hB
  have HW := Lib.hid hWA
  clear hWA
  go_enter Tryd.func7, Tryd.ntmps7
  go_wp2_with fail
  try rw [← HW.out]
  clear hB HW
  obtain ⟨PC, hPCe⟩ : ∃ PC : Array Value, PC = #[.string ⟨#[]⟩, .slice a 0 c, .slice a' l' c'] := ⟨_, rfl⟩
  have hPC1 : PC[1]? = some (.slice a 0 c) := by rw [hPCe]; rfl
  have hPC2 : PC[2]? = some (.slice a' l' c') := by rw [hPCe]; rfl
  rw [← hPCe] at hP
  have HP := Lib.hid hP
  have HBW := Lib.hid hbw
  clear hPCe hP hbw
  go_loopw [5] (NoRel WA) (fun i _ => 0)
  case atStart => exact ⟨rfl, rfl⟩
  case round =>
    obtain ⟨rfl, rfl⟩ := hrel
    have q1 := HP.out.cell 1 hPC1
    go_wp2_with fail
    clear q1
    have hP := HP.out
    have hbw := HBW.out
    clear HP HBW
    go_loopw [6] (WaRel (fun i => entOk (K i) (lv i) (u i 0)) l' B PC w) (fun i _ => l' - (Go.RowKit.intOf i).toNat)
    case atStart => exact ⟨0, Nat.zero_le _, rfl, rfl, Lib.hid hP, hbw⟩
    case round =>
      clear hP hbw
      obtain ⟨i, hi, rfl, hall, hP, hbw⟩ := hrel
      have q2 := hP.out.cell 2 hPC2
      have HALL := Lib.hid hall
      clear hall
      by_cases hlt : i < l'
      · obtain ⟨g, o, ha, hk, hkv, hv⟩ := HO.out i hlt
        obtain ⟨hK1, hK2⟩ := HK.out i hlt
        subst ha
        have hbx := hbw
        rw [← HB.out] at hbx
        have d0 := cell_on hbx hk
        have d1 := cell_on hbx hkv
        have HBX := Lib.hid hbx
        obtain ⟨k, hke⟩ : ∃ k, K i = k := ⟨_, rfl⟩
        obtain ⟨m, hme⟩ : ∃ m, lv i = m := ⟨_, rfl⟩
        obtain ⟨u0, hue⟩ : ∃ x, u i 0 = x := ⟨_, rfl⟩
        have hent : entOk (K i) (lv i) (u i 0) = entOk k m u0 := by rw [hke, hme, hue]
        rw [hke] at d0 hK1
        rw [hme] at d1 hv hK2
        have hv0 : 0 < m → _ := fun h => hv 0 h
        have HV := Lib.hid hv0
        have HU := Lib.hid hue
        have HENT := Lib.hid hent
        clear hk hkv hv hv0 hbx hke hme hue hent
        by_cases hk0 : k.size = 0
        · obtain rfl : k = ⟨#[]⟩ := by
            apply ByteArray.ext
            exact Array.eq_empty_of_size_eq_zero hk0
          go_wp2_with fail
          go_ret
          exact ⟨ret_bool (by rw [allB_false (by rw [HENT.out]; rfl) hlt]), by rw [HB.out]; exact hbw.alloc (by have := HB.out; have := hbw.size; omega) _⟩
        have hne : k.toList.isEmpty = false := ne_empty hk0
        by_cases hm : 1 < m
        · go_wp2_with fail
          go_ret
          exact ⟨ret_bool (by rw [allB_false (by rw [HENT.out]; unfold entOk; rw [show decide (m ≤ 1) = false from decide_eq_false (by omega)]; simp) hlt]), by rw [HB.out]; exact hbw.alloc (by have := HB.out; have := hbw.size; omega) _⟩
        go_wp2_with fail
        obtain ⟨xa, hxa⟩ : ∃ x, av i = x := ⟨_, rfl⟩
        obtain ⟨xc, hxc⟩ : ∃ x, cv i = x := ⟨_, rfl⟩
        rw [hxa, hxc]
        rw [hxa] at HV
        obtain ⟨E, hE⟩ : ∃ E, wr.heap.size = E := ⟨_, rfl⟩
        obtain ⟨W1, hW1⟩ : ∃ W, W = wr.alloc (.cells #[.string k, .slice xa m xc] 61) := ⟨_, rfl⟩
        have hNE : Nd E 61 #[.string k, .slice xa m xc] W1 := by rw [hW1]; exact Nd.newAt _ _ hE.symm
        have hP1 := hP.out.alloc (.cells #[.string k, .slice xa m xc] 61)
        have hbw1 : Below B w W1 := by rw [hW1]; exact hbw.alloc (by have := HB.out; have := hbw.size; omega) _
        rw [← hW1] at hP1
        rw [hE, ← hW1]
        have e0 := hNE.cell 0 rfl
        have e1 := hNE.cell 1 rfl
        simp only [List.getElem_toArray, List.getElem_cons_succ, List.getElem_cons_zero] at e0 e1
        have HP1 := Lib.hid hP1
        clear hP1 hW1 hE d0 d1 q2 hP hxa hxc hNE HBX hbw
        go_loopw [8] (KyRel k W1) (fun j _ => k.size - (Go.RowKit.intOf j).toNat)
        case atStart => exact ⟨0, Nat.zero_le _, rfl, rfl, rfl⟩
        case round =>
          obtain ⟨j, hj, rfl, hka, rfl⟩ := hrel
          by_cases hjt : j < k.size
          · have hy := byteN_at hjt
            obtain ⟨y, hye⟩ : ∃ y, byteN k j = y := ⟨_, rfl⟩
            have HC := Lib.hid (key_any y (by rw [← hye]; exact byteN_le k j) wr)
            rw [hye] at hy
            have hp : kyP k j = keyN y := by unfold kyP; rw [hye]
            have HP2 := Lib.hid hp
            have HKA := Lib.hid hka
            have hy' : (((k[j]'hjt).toNat : Nat) : Int) = (y : Int) := by rw [hy]
            clear hp hka hye
            go_wp2_with fail
            refine HC.out.mono ?_
            rintro e w1 ⟨rfl, rfl⟩
            obtain ⟨v, hv⟩ : ∃ v, keyN y = v := ⟨_, rfl⟩
            rw [hv] at HP2 ⊢
            clear hv HC
            cases v with
            | false =>
              go_wp2_with fail
              go_ret
              exact ⟨ret_bool (by rw [allB_false (by rw [HENT.out]; unfold entOk; rw [allB_false HP2.out hjt]; simp) hlt]), by first | exact hbw1 | (rw [HB.out]; exact hbw1)⟩
            | true =>
              go_wp2_with fail
              go_roundw
              case rel => exact ⟨j + 1, by omega, by go_num, by show (allB (kyP k) j && kyP k j) = true; rw [HKA.out, HP2.out]; rfl, rfl⟩
              case measure => first | omega | (simp; omega) | (simp [Go.RowKit.intOf]; omega)
          · obtain rfl : j = k.size := by omega
            have HKA := Lib.hid hka
            clear hka
            by_cases hm0 : m = 0
            · subst hm0
              go_wp2_with fail
              go_roundw
              case rel => exact ⟨i + 1, by omega, by go_num, by show (allB _ i && entOk (K i) (lv i) (u i 0)) = true; rw [HALL.out, HENT.out]; unfold entOk; rw [HKA.out]; simp [hk0], HP1, hbw1⟩
              case measure => first | omega | (simp; omega) | (simp [Go.RowKit.intOf]; omega)
            · obtain rfl : m = 1 := by omega
              obtain ⟨g2, o2, ha2, es, hel, hcell, hcall⟩ := HV.out (by omega)
              subst ha2
              obtain ⟨f0, f1, f2, rfl⟩ := list3 es hel
              clear hel
              have hbx := hbw1
              rw [← HB.out] at hbx
              have d0 : wr.cell? ⟨g2, o2, none⟩ = some f0 := cell_on hbx (by have := hcell 0 (by omega); simpa using this)
              have d1 : wr.cell? ⟨g2, o2 + 1, none⟩ = some f1 := cell_on hbx (by have := hcell 1 (by omega); simpa using this)
              have d2 : wr.cell? ⟨g2, o2 + 2, none⟩ = some f2 := cell_on hbx (by have := hcell 2 (by omega); simpa using this)
              have HC := Lib.hid (hcall wr hbx)
              clear hcell hcall hbx
              go_wp2_with fail
              refine HC.out.mono ?_
              rintro e w1 ⟨rfl, hb1⟩
              have hPl := HP1.out.lt
              have HP3 := Lib.hid (HP1.out.below hb1 hPl)
              have hbw3 : Below B w w1 := hbw1.trans (hb1.mono (by omega))
              rw [HU.out]
              clear hb1 HC HP1
              cases u0 with
              | false =>
                go_wp2_with fail
                go_ret
                exact ⟨ret_bool (by rw [allB_false (by rw [HENT.out]; unfold entOk; simp) hlt]), by first | exact hbw3 | (rw [HB.out]; exact hbw3)⟩
              | true =>
                go_wp2_with fail
                go_roundw
                case rel => exact ⟨i + 1, by omega, by go_num, by show (allB _ i && entOk (K i) (lv i) (u i 0)) = true; rw [HALL.out, HENT.out]; unfold entOk; rw [HKA.out]; simp [hk0], HP3, hbw3⟩
                case measure => first | omega | (simp; omega) | (simp [Go.RowKit.intOf]; omega)
      · obtain rfl : i = l' := by omega
        go_wp2_with fail
        go_ret
        exact ⟨ret_bool (by rw [HALL.out]), by first | exact hbw | (rw [HB.out]; exact hbw)⟩
end Go.Proofs.YtkabnbopakfknaaDoor
