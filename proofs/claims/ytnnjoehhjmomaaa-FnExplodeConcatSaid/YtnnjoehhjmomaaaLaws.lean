/- The walks of FnExplodeSpec and FnFuncExplodeSpec. -/
import Derived.Test.YtnnjoehhjmomaaaRunes
namespace Go.Proofs.Ytnnjoehhjmomaaa
open Go.RowKit

def True1 (w : World) (e : Ending) (w' : World) : Prop := e = .returned (.bool true) ∧ Below w.heap.size w w'

theorem dec_v (s : ByteArray) (i : Nat) (w : World) (hs : s.size ≤ 1048576) (hi : i < s.size) (r m : Nat) (k : Bool) (h1 : (Utf8.decode s i).1 = r) (h2 : (Utf8.decode s i).2 = m) (h3 : okB s i = k) :
    Calls Try.prog 14 #[.string s, .int .i64 i] w fun e w' => e = .returned (.tuple #[.int .i64 (r : Int), .int .i64 (m : Int), .bool k]) ∧ w = w' := by
  subst h1; subst h2; subst h3; exact dec_any s i w hs hi

set_option maxHeartbeats 400000 in
theorem matches_any (s : ByteArray) (b n : Nat) (w : World) (hs : s.size ≤ 1048576) (hn : (R s 0).length = n) (hB : Blk 3 b ((R s 0).map nv) w) :
    Calls Try.prog 7 #[.string s, .slice (some ⟨b, 0, none⟩) n n] w fun e w' => e = .returned (.bool true) ∧ w = w' := by
  have hn2 : n ≤ 1048576 := by rw [← hn]; exact Nat.le_trans (R_len s) hs
  have HN := Lib.hid hn
  have HB := Lib.hid hB
  clear hn hB
  go_enter Try.func7, Try.ntmps7
  go_wp2_with fail
  go_loop [5, 6] (fun p k => ∃ (pos : Nat) (D : List Nat), pos ≤ s.size ∧ p = .int .i64 pos ∧ k = .int .i64 D.length ∧ Hid (D ++ R s pos = R s 0)) (fun p _ => s.size - (intOf p).toNat)
  case atStart => exact ⟨0, [], Nat.zero_le _, rfl, rfl, rfl⟩
  case round =>
    obtain ⟨pos, D, hp, rfl, rfl, hD⟩ := hrel
    by_cases hlt : pos < s.size
    · have hwp := Lib.decode_width_pos s pos hlt
      have hpl := decode_pos_le s pos hlt
      have hR := R_step s pos hlt
      generalize hdv : (Utf8.decode s pos).1 = r at *
      generalize hdw : (Utf8.decode s pos).2 = m at *
      generalize hdk : okB s pos = k at *
      have HC := Lib.hid (fun W => dec_v s pos W hs hlt r m k hdv hdw hdk)
      have hDn : D.length < n := by
        have := HN.out; rw [← hD.out, hR] at this; simp at this; omega
      have c0 : w.cell? ⟨b, D.length, none⟩ = some (.int .i64 (r : Int)) := by
        have h1 : D.length < ((R s 0).map nv).length := by rw [List.length_map, HN.out]; exact hDn
        rw [HB.out.cell h1]
        simp [← hD.out, hR, nv]
      have HD : Hid ((D ++ [r]) ++ R s (pos + m) = R s 0) := Lib.hid (by rw [← hD.out, hR]; simp)
      clear hdv hdw hdk hR hD
      go_wp2_with fail
      refine (HC.out _).mono ?_
      rintro e w' ⟨rfl, rfl⟩
      go_wp2_with fail
      go_round
      case rel => exact ⟨pos + m, D ++ [r], hpl, by go_num, by simp, HD⟩
      case measure => simp [intOf]; omega
    · have hE := hD.out
      rw [R_end s pos hlt, List.append_nil] at hE
      have hDn : D.length = n := by rw [hE, HN.out]
      have hq : ((D.length : Int) == (n : Int)) = true := by simp [hDn]
      clear hE hDn
      go_wp2_with fail
      go_ret
      exact ⟨rfl, rfl⟩

theorem bytes6 (s : ByteArray) (w : World) (v : Bool) (hv : decide (s.size ≤ 1048576) = v) (hm : s.size ≤ maxLen) :
    Calls Try.prog 6 #[.string s] w fun e w' => e = .returned (.bool v) ∧ w = w' := by
  unfold maxLen at hm
  subst hv
  go_enter Try.func6, Try.ntmps6
  go_wp2
  all_goals (go_ret; exact ⟨ret_bool (by simp; omega), rfl⟩)
theorem bytes9 (s : ByteArray) (w : World) (v : Bool) (hv : decide (s.size ≤ 1048576) = v) (hm : s.size ≤ maxLen) :
    Calls Try.prog 9 #[.string s] w fun e w' => e = .returned (.bool v) ∧ w = w' := by
  unfold maxLen at hm
  subst hv
  go_enter Try.func9, Try.ntmps9
  go_wp2
  all_goals (go_ret; exact ⟨ret_bool (by simp; omega), rfl⟩)

set_option maxHeartbeats 400000 in
theorem law3 (s : ByteArray) (w : World) (hm : s.size ≤ maxLen) : Calls Try.prog 3 #[.string s] w (True1 w) := by
  by_cases hs : s.size ≤ 1048576
  · have HB : Hid (decide (s.size ≤ 1048576) = true) := Lib.hid (by simpa using hs)
    go_enter Try.func3, Try.ntmps3
    go_wp2_with fail
    refine (bytes6 _ _ _ HB.out hm).mono ?_
    rintro e w' ⟨rfl, rfl⟩
    go_wp2_with fail
    refine (zzExplode_any s _ hs _ rfl).mono ?_
    rintro e w1 ⟨b, rfl, hb, hB, hbel⟩
    generalize hn : (R s 0).length = n at *
    have HN := Lib.hid hn
    have HBL := Lib.hid hB
    clear hn hB
    go_wp2_with fail
    refine (matches_any s b n _ hs HN.out HBL.out).mono ?_
    rintro e w' ⟨rfl, rfl⟩
    go_wp2_with fail
    go_ret
    exact ⟨rfl, hbel⟩
  · have HB : Hid (decide (s.size ≤ 1048576) = false) := Lib.hid (by simpa using hs)
    go_enter Try.func3, Try.ntmps3
    go_wp2_with fail
    refine (bytes6 _ _ _ HB.out hm).mono ?_
    rintro e w' ⟨rfl, rfl⟩
    go_wp2_with fail
    go_ret
    exact ⟨rfl, Below.refl _ _⟩

set_option maxHeartbeats 400000 in
theorem law4 (s : ByteArray) (w : World) (hm : s.size ≤ maxLen) : Calls Try.prog 4 #[.string s] w (True1 w) := by
  by_cases hs : s.size ≤ 1048576
  · have HB : Hid (decide (s.size ≤ 1048576) = true) := Lib.hid (by simpa using hs)
    go_enter Try.func4, Try.ntmps4
    go_wp2_with fail
    refine (bytes9 _ _ _ HB.out hm).mono ?_
    rintro e w' ⟨rfl, rfl⟩
    go_wp2_with fail
    refine (zzFunc_any s _ hs _ rfl).mono ?_
    rintro e w1 ⟨b, rfl, hb, hB, hbel⟩
    generalize hn : (R s 0).length = n at *
    have HN := Lib.hid hn
    have HBL := Lib.hid hB
    clear hn hB
    go_wp2_with fail
    refine (matches_any s b n _ hs HN.out HBL.out).mono ?_
    rintro e w' ⟨rfl, rfl⟩
    go_wp2_with fail
    go_ret
    exact ⟨rfl, hbel⟩
  · have HB : Hid (decide (s.size ≤ 1048576) = false) := Lib.hid (by simpa using hs)
    go_enter Try.func4, Try.ntmps4
    go_wp2_with fail
    refine (bytes9 _ _ _ HB.out hm).mono ?_
    rintro e w' ⟨rfl, rfl⟩
    go_wp2_with fail
    go_ret
    exact ⟨rfl, Below.refl _ _⟩

end Go.Proofs.Ytnnjoehhjmomaaa
