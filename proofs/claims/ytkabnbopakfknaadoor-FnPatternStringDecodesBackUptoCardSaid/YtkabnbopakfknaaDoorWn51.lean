/- The law's test of a pattern's form: a name. -/
import Derived.Test.YtkabnbopakfknaaDoorWf51
import Derived.Test.YtkabnbopakfknaaDoorNodeKit
namespace Go.Proofs.YtkabnbopakfknaaDoor
open Go.RowKit
set_option linter.unusedVariables false
set_option linter.unusedSimpArgs false

def allB (p : Nat → Bool) : Nat → Bool
  | 0 => true
  | k + 1 => allB p k && p k
theorem allB_false {p : Nat → Bool} {i : Nat} (h : p i = false) : ∀ {n}, i < n → allB p n = false
  | n + 1, hi => by
    show (allB p n && p n) = false
    by_cases e : i = n
    · subst e; rw [h, Bool.and_false]
    · rw [allB_false h (show i < n by omega), Bool.false_and]
theorem allB_true {p : Nat → Bool} : ∀ {n}, allB p n = true → ∀ i, i < n → p i = true
  | n + 1, h, i, hi => by
    have h' : (allB p n && p n) = true := h
    rw [Bool.and_eq_true] at h'
    by_cases e : i = n
    · subst e; exact h'.2
    · exact allB_true h'.1 i (by omega)
def byteN (s : ByteArray) (i : Nat) : Nat := if h : i < s.size then s[i].toNat else 0
theorem byteN_at {s : ByteArray} {i : Nat} (h : i < s.size) : byteN s i = s[i].toNat := dif_pos h
def nmP (s : ByteArray) (i : Nat) : Bool := decide (i = 0) || identN (byteN s i)
def nameOk (s : ByteArray) : Bool := decide (2 ≤ s.size) && decide (byteN s 0 = 36) && allB (nmP s) s.size
def WRel1 (nm : ByteArray) (B : Nat) (pc : Array Value) (w : World) (vi : Value) (wr : World) : Prop :=
  ∃ i : Nat, 1 ≤ i ∧ i ≤ nm.size ∧ vi = .int .i64 i ∧ allB (nmP nm) i = true ∧ Hid (Nd B 25 pc wr) ∧ Below B w wr
theorem byteN_le (s : ByteArray) (i : Nat) : byteN s i ≤ 255 := by
  unfold byteN
  split
  · have := UInt8.toNat_lt s[i]; omega
  · omega
set_option maxHeartbeats 2000000 in
set_option maxRecDepth 100000 in
theorem wf_name (nm : ByteArray) (a a' : Option Addr) (c c' : Nat) (w : World) (hn : nm.size ≤ 1048576) (h0 : nm.size ≠ 0) :
    Calls Tryd.prog 7 #[.agg #[.string nm, .slice a 0 c, .slice a' 0 c']] w (fun e w' => e = .returned (.bool (nameOk nm)) ∧ Below w.heap.size w w') := by
  obtain ⟨B, hB⟩ : ∃ B, w.heap.size = B := ⟨_, rfl⟩
  have hne : nm.toList.isEmpty = false := ne_empty h0
  obtain ⟨WA, hWA⟩ : ∃ W, W = w.alloc (.cells #[.string nm, .slice a 0 c, .slice a' 0 c'] 25) := ⟨_, rfl⟩
  have hP : Nd B 25 #[.string nm, .slice a 0 c, .slice a' 0 c'] WA := by rw [hWA]; exact Nd.newAt _ _ hB.symm
  have hbw : Below B w WA := by rw [hWA, ← hB]; exact (Below.refl _ _).alloc (Nat.le_refl _) _
  have HB := Lib.hid hB
  have HW := Lib.hid hWA
  clear hWA
  by_cases h1 : nm.size < 2
  · go_enter Tryd.func7, Tryd.ntmps7
    go_wp2_with fail
    go_ret
    exact ⟨ret_bool (by unfold nameOk; rw [decide_eq_false (by omega)]; rfl), by first | exact hbw | (rw [HB.out]; exact hbw) | (rw [← HW.out]; exact hbw) | (rw [← HW.out, HB.out]; exact hbw)⟩
  obtain ⟨x, hx⟩ : ∃ x, (nm[0]'(by omega)).toNat = x := ⟨_, rfl⟩
  have hb0 : byteN nm 0 = x := by rw [byteN_at (by omega)]; exact hx
  by_cases hx36 : x = 36
  · have ht : (((nm[0]'(by omega)).toNat : Int) != 36) = false := by rw [hx, hx36]; rfl
    go_enter Tryd.func7, Tryd.ntmps7
    go_wp2_with fail
    try rw [← HW.out]
    have HX := Lib.hid hx
    have HB0 := Lib.hid hb0
    have HX36 := Lib.hid hx36
    clear hx hb0 hx36 ht hB HW
    go_loopw [4] (WRel1 nm B #[.string nm, .slice a 0 c, .slice a' 0 c'] w) (fun i _ => nm.size - (Go.RowKit.intOf i).toNat)
    case atStart => exact ⟨1, Nat.le_refl _, by omega, rfl, by simp [allB, nmP], Lib.hid hP, hbw⟩
    case round =>
      clear hP hbw
      obtain ⟨i, hi1, hi, rfl, hall, hP, hbw⟩ := hrel
      have q0 := hP.out.cell 0 rfl
      have q1 := hP.out.cell 1 rfl
      have q2 := hP.out.cell 2 rfl
      simp only [List.getElem_toArray, List.getElem_cons_succ, List.getElem_cons_zero] at q0 q1 q2
      by_cases hlt : i < nm.size
      · have hy := byteN_at hlt
        have HC := Lib.hid (ident_any (byteN nm i) (byteN_le nm i) wr)
        obtain ⟨y, hye⟩ : ∃ y, byteN nm i = y := ⟨_, rfl⟩
        rw [hye] at hy HC
        have hp : nmP nm i = identN y := by unfold nmP; rw [hye, decide_eq_false (by omega), Bool.false_or]
        have HP2 := Lib.hid hp
        have HALL := Lib.hid hall
        clear hp hall
        have hy' : (((nm[i]'hlt).toNat : Nat) : Int) = (y : Int) := by rw [hy]
        clear hye
        go_wp2_with fail
        refine HC.out.mono ?_
        rintro e w1 ⟨rfl, rfl⟩
        obtain ⟨v, hv⟩ : ∃ v, identN y = v := ⟨_, rfl⟩
        rw [hv] at HP2 ⊢
        clear hv HC
        cases v with
        | false =>
          go_wp2_with fail
          go_ret
          exact ⟨ret_bool (by unfold nameOk; rw [allB_false HP2.out hlt, Bool.and_false]), by first | exact hbw | (rw [HB.out]; exact hbw)⟩
        | true =>
          go_wp2_with fail
          go_roundw
          case rel => exact ⟨i + 1, by omega, by omega, by go_num, by show (allB (nmP nm) i && nmP nm i) = true; rw [HALL.out, HP2.out]; rfl, hP, hbw⟩
          case measure => first | omega | (simp; omega) | (simp [Go.RowKit.intOf]; omega)
      · obtain rfl : i = nm.size := by omega
        go_wp2_with fail
        go_ret
        exact ⟨ret_bool (by unfold nameOk; rw [HB0.out, HX36.out, hall, decide_eq_true (by omega)]; rfl), by first | exact hbw | (rw [HB.out]; exact hbw)⟩
  · have ht : ((x : Int) != 36) = true := by simp; omega
    go_enter Tryd.func7, Tryd.ntmps7
    go_wp2_with fail
    go_ret
    exact ⟨ret_bool (by unfold nameOk; rw [hb0, decide_eq_false hx36]; simp), by first | exact hbw | (rw [HB.out]; exact hbw) | (rw [← HW.out]; exact hbw) | (rw [← HW.out, HB.out]; exact hbw)⟩
end Go.Proofs.YtkabnbopakfknaaDoor
