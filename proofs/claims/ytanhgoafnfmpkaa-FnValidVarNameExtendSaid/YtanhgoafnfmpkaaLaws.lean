/- The walks of the five laws on the lexer's scans, inside their own bounds. -/
import Derived.Test.YtanhgoafnfmpkaaHelpers
namespace Go.Proofs.Ytanhgoafnfmpkaa
open Go.RowKit

def True1 (w : World) (e : Ending) (w' : World) : Prop := e = .returned (.bool true) ∧ Below w.heap.size w w'

theorem ident_at (s : ByteArray) (j : Nat) (h : j < s.size) (t v : Bool) (hv : identB (at0 s j) t = v) : identB (s[j].toNat : Int) t = v := by
  rw [at0_of s j h] at hv; exact hv

set_option maxHeartbeats 1000000 in
theorem law6 (s : ByteArray) (k : Nat) (w : World) (hk : k ≤ s.size) (hs : s.size ≤ 1048576) :
    Calls Try.prog 6 #[.string s, .int .i64 k] w (True1 w) := by
  obtain ⟨j, hj⟩ : ∃ j, scanEnd s k = j := ⟨_, rfl⟩
  have hkj : k ≤ j := by rw [← hj]; exact le_end s k
  have hjs : j ≤ s.size := by rw [← hj]; exact end_le s k hk
  have hno : identB (at0 s j) true = false := by rw [← hj]; exact end_no s k
  have HALL : Hid (decide (j ≤ scanEnd s k) = true) := Lib.hid (by rw [hj]; simp)
  have HJ := Lib.hid hj
  clear hj
  have HB : Hid (decide (s.size ≤ 1048576) = true) := Lib.hid (by simpa using hs)
  by_cases hlt : j < s.size
  · have hno' := ident_at s j hlt true false hno
    clear hno
    go_enter Try.func6, Try.ntmps6
    go_wp2_with fail
    refine (bytes16 _ _ _ _ HB.out (by unfold maxLen; omega)).mono ?_
    rintro e w' ⟨rfl, rfl⟩
    go_wp2_with fail
    refine (zzScan_any s k _ hk (by omega) j HJ.out).mono ?_
    rintro e w1 ⟨rfl, b1⟩
    go_wp2_with fail
    refine (all_any s k j _ hkj hjs (by omega) _ HALL.out).mono ?_
    rintro e w' ⟨rfl, rfl⟩
    go_wp2_with fail
    refine (tail_any _ _).mono ?_
    rintro e w' ⟨rfl, rfl⟩
    go_wp2_with fail
    go_ret
    exact ⟨rfl, b1⟩
  · clear hno
    go_enter Try.func6, Try.ntmps6
    go_wp2_with fail
    refine (bytes16 _ _ _ _ HB.out (by unfold maxLen; omega)).mono ?_
    rintro e w' ⟨rfl, rfl⟩
    go_wp2_with fail
    refine (zzScan_any s k _ hk (by omega) j HJ.out).mono ?_
    rintro e w1 ⟨rfl, b1⟩
    go_wp2_with fail
    refine (all_any s k j _ hkj hjs (by omega) _ HALL.out).mono ?_
    rintro e w' ⟨rfl, rfl⟩
    go_wp2_with fail
    go_ret
    exact ⟨rfl, b1⟩

set_option maxHeartbeats 1000000 in
theorem law5 (s : ByteArray) (k : Nat) (w : World) (hk : k ≤ s.size) (hs : s.size ≤ 1048576) :
    Calls Try.prog 5 #[.string s, .int .i64 k] w (True1 w) := by
  obtain ⟨j, hj⟩ : ∃ j, scanEnd s k = j := ⟨_, rfl⟩
  have hkj : k ≤ j := by rw [← hj]; exact le_end s k
  have hjs : j ≤ s.size := by rw [← hj]; exact end_le s k hk
  have HI : Hid (scanEnd s j = j) := Lib.hid (by rw [← hj]; exact end_idem s k)
  have HS : Hid (scanEnd (s.extract k s.size) 0 = j - k) := Lib.hid (by have := shift s k; omega)
  have hxs : (s.extract k s.size).size ≤ 1048577 := by simp; omega
  have HJ := Lib.hid hj
  clear hj
  have HB : Hid (decide (s.size ≤ 1048576) = true) := Lib.hid (by simpa using hs)
  go_enter Try.func5, Try.ntmps5
  go_wp2_with fail
  refine (bytes14 _ _ _ _ HB.out (by unfold maxLen; omega)).mono ?_
  rintro e w' ⟨rfl, rfl⟩
  go_wp2_with fail
  refine (zzScan_any s k _ hk (by omega) j HJ.out).mono ?_
  rintro e w1 ⟨rfl, b1⟩
  go_wp2_with fail
  refine (zzScan_any s j _ hjs (by omega) j HI.out).mono ?_
  rintro e w2 ⟨rfl, b2⟩
  have b12 := b1.trans (b2.mono b1.size)
  clear b2
  go_wp2_with fail
  refine (zzScan_any (s.extract k s.size) 0 _ (Nat.zero_le _) hxs (j - k) HS.out).mono ?_
  rintro e w3 ⟨rfl, b3⟩
  have b13 := b12.trans (b3.mono b12.size)
  clear b3
  go_wp2_with fail
  go_ret
  refine ⟨ret_bool ?_, b13⟩
  simp; omega

theorem neq_at (s : ByteArray) (j : Nat) (c : Int) (h : j < s.size) (hv : at0 s j = c) : ((s[j].toNat : Int) != c) = false := by
  rw [at0_of s j h] at hv; rw [hv]; simp

set_option maxHeartbeats 1000000 in
theorem law7_yes (s : ByteArray) (k j r : Nat) (w : World) (hk : k ≤ s.size) (hs : s.size ≤ 1048576) (hj : scanEnd s k = j) (hm : modIdx s k = (r, true))
    (hkj : k ≤ j) (hr : j + 3 ≤ r) (hrs : r ≤ s.size) (h1 : at0 s j = 58) (h2 : at0 s (j + 1) = 58) (h3 : identB (at0 s (j + 2)) false = true) :
    Calls Try.prog 7 #[.string s, .int .i64 k] w (True1 w) := by
  have g1 := neq_at s j 58 (by omega) h1
  have g2 := neq_at s (j + 1) 58 (by omega) h2
  have g3 := ident_at s (j + 2) (by omega) false true h3
  have hrj : ((r : Int) != (j : Int)) = true := by simp; omega
  have HJ := Lib.hid hj
  have HM := Lib.hid hm
  clear hj hm h1 h2 h3
  have HB : Hid (decide (s.size ≤ 1048576) = true) := Lib.hid (by simpa using hs)
  go_enter Try.func7, Try.ntmps7
  go_wp2_with fail
  refine (bytes17 _ _ _ _ HB.out (by unfold maxLen; omega)).mono ?_
  rintro e w' ⟨rfl, rfl⟩
  go_wp2_with fail
  refine (zzScan_any s k _ hk (by omega) j HJ.out).mono ?_
  rintro e w1 ⟨rfl, b1⟩
  go_wp2_with fail
  refine (zzModule_any s k _ hk (by omega) r true HM.out).mono ?_
  rintro e w2 ⟨rfl, b2⟩
  have b12 := b1.trans (b2.mono b1.size)
  clear b2 b1
  go_wp2_with fail
  refine (head_any _ _).mono ?_
  rintro e w' ⟨rfl, rfl⟩
  go_wp2_with fail
  go_ret
  exact ⟨rfl, b12⟩

set_option maxHeartbeats 1000000 in
theorem law7_no (s : ByteArray) (k j : Nat) (w : World) (hk : k ≤ s.size) (hs : s.size ≤ 1048576) (hj : scanEnd s k = j) (hm : modIdx s k = (j, false))
    (hkj : k ≤ j) (hrs : j ≤ s.size) :
    Calls Try.prog 7 #[.string s, .int .i64 k] w (True1 w) := by
  have HJ := Lib.hid hj
  have HM := Lib.hid hm
  clear hj hm
  have HB : Hid (decide (s.size ≤ 1048576) = true) := Lib.hid (by simpa using hs)
  go_enter Try.func7, Try.ntmps7
  go_wp2_with fail
  refine (bytes17 _ _ _ _ HB.out (by unfold maxLen; omega)).mono ?_
  rintro e w' ⟨rfl, rfl⟩
  go_wp2_with fail
  refine (zzScan_any s k _ hk (by omega) j HJ.out).mono ?_
  rintro e w1 ⟨rfl, b1⟩
  go_wp2_with fail
  refine (zzModule_any s k _ hk (by omega) j false HM.out).mono ?_
  rintro e w2 ⟨rfl, b2⟩
  have b12 := b1.trans (b2.mono b1.size)
  clear b2 b1
  go_wp2_with fail
  go_ret
  exact ⟨rfl, b12⟩

theorem law7 (s : ByteArray) (k : Nat) (w : World) (hk : k ≤ s.size) (hs : s.size ≤ 1048576) :
    Calls Try.prog 7 #[.string s, .int .i64 k] w (True1 w) := by
  have hkj := le_end s k
  have hjs := end_le s k hk
  by_cases h : at0 s (scanEnd s k) = 58 ∧ at0 s (scanEnd s k + 1) = 58 ∧ identB (at0 s (scanEnd s k + 2)) false = true
  · have h3 := lt_of_ident h.2.2
    exact law7_yes s k _ (scanEnd s (scanEnd s k + 3)) w hk hs rfl (if_pos h) hkj (le_end _ _) (end_le _ _ (by omega)) h.1 h.2.1 h.2.2
  · exact law7_no s k _ w hk hs rfl (if_neg h) hkj hjs

set_option maxHeartbeats 1000000 in
theorem out5 (s : ByteArray) (k : Int) (w : World) (hm : s.size ≤ maxLen) (h : ¬ (0 ≤ k ∧ k ≤ s.size ∧ s.size ≤ 1048576)) :
    Calls Try.prog 5 #[.string s, .int .i64 k] w (True1 w) := by
  have H := Lib.hid h
  clear h
  by_cases hs : s.size ≤ 1048576
  · have HB : Hid (decide (s.size ≤ 1048576) = true) := Lib.hid (by simpa using hs)
    have hk : k < 0 ∨ (s.size : Int) < k := by have := H.out; omega
    go_enter Try.func5, Try.ntmps5
    go_wp2_with (go_at_call 14; refine (bytes14 _ _ _ _ HB.out hm).mono ?_; rintro e w' ⟨rfl, rfl⟩)
    all_goals first | omega | (go_ret; exact ⟨rfl, Below.refl _ _⟩)
  · have HB : Hid (decide (s.size ≤ 1048576) = false) := Lib.hid (by simpa using hs)
    go_enter Try.func5, Try.ntmps5
    go_wp2_with (go_at_call 14; refine (bytes14 _ _ _ _ HB.out hm).mono ?_; rintro e w' ⟨rfl, rfl⟩)
    go_ret
    exact ⟨rfl, Below.refl _ _⟩

set_option maxHeartbeats 1000000 in
theorem out6 (s : ByteArray) (k : Int) (w : World) (hm : s.size ≤ maxLen) (h : ¬ (0 ≤ k ∧ k ≤ s.size ∧ s.size ≤ 1048576)) :
    Calls Try.prog 6 #[.string s, .int .i64 k] w (True1 w) := by
  have H := Lib.hid h
  clear h
  by_cases hs : s.size ≤ 1048576
  · have HB : Hid (decide (s.size ≤ 1048576) = true) := Lib.hid (by simpa using hs)
    have hk : k < 0 ∨ (s.size : Int) < k := by have := H.out; omega
    go_enter Try.func6, Try.ntmps6
    go_wp2_with (go_at_call 16; refine (bytes16 _ _ _ _ HB.out hm).mono ?_; rintro e w' ⟨rfl, rfl⟩)
    all_goals first | omega | (go_ret; exact ⟨rfl, Below.refl _ _⟩)
  · have HB : Hid (decide (s.size ≤ 1048576) = false) := Lib.hid (by simpa using hs)
    go_enter Try.func6, Try.ntmps6
    go_wp2_with (go_at_call 16; refine (bytes16 _ _ _ _ HB.out hm).mono ?_; rintro e w' ⟨rfl, rfl⟩)
    go_ret
    exact ⟨rfl, Below.refl _ _⟩

set_option maxHeartbeats 1000000 in
theorem out7 (s : ByteArray) (k : Int) (w : World) (hm : s.size ≤ maxLen) (h : ¬ (0 ≤ k ∧ k ≤ s.size ∧ s.size ≤ 1048576)) :
    Calls Try.prog 7 #[.string s, .int .i64 k] w (True1 w) := by
  have H := Lib.hid h
  clear h
  by_cases hs : s.size ≤ 1048576
  · have HB : Hid (decide (s.size ≤ 1048576) = true) := Lib.hid (by simpa using hs)
    have hk : k < 0 ∨ (s.size : Int) < k := by have := H.out; omega
    go_enter Try.func7, Try.ntmps7
    go_wp2_with (go_at_call 17; refine (bytes17 _ _ _ _ HB.out hm).mono ?_; rintro e w' ⟨rfl, rfl⟩)
    all_goals first | omega | (go_ret; exact ⟨rfl, Below.refl _ _⟩)
  · have HB : Hid (decide (s.size ≤ 1048576) = false) := Lib.hid (by simpa using hs)
    go_enter Try.func7, Try.ntmps7
    go_wp2_with (go_at_call 17; refine (bytes17 _ _ _ _ HB.out hm).mono ?_; rintro e w' ⟨rfl, rfl⟩)
    go_ret
    exact ⟨rfl, Below.refl _ _⟩

end Go.Proofs.Ytanhgoafnfmpkaa
