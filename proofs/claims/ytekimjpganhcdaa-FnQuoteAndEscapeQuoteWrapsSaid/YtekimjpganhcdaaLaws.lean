/- The walks of the two laws on quoteAndEscape. -/
import Derived.Test.YtekimjpganhcdaaWalks
namespace Go.Proofs.Ytekimjpganhcdaa
open Go.RowKit

def QPost (src : ByteArray) (q : Bool) (n : Nat) (w : World) (e : Ending) (w' : World) : Prop :=
  e = .returned (.slice (some ⟨w.heap.size, 0, none⟩) n n) ∧ Blk w.heap.size (out q src.data.toList) w' ∧ Below w.heap.size w w'

theorem zzQ_any (src : ByteArray) (q : Bool) (c n : Nat) (w : World) (hs : src.size ≤ 1048576) (hc : ctl src.data.toList = c) (hn : (out q src.data.toList).length = n) :
    Calls Try.prog 7 #[.string src, .bool q, .int .i64 c] w (QPost src q n w) := by
  have hq : Hid (∀ W : World, Calls Try.prog 9 #[.string src, .bool q, .int .i64 c] W (QPost src q n W)) := by
    intro W
    have hsz : src.data.toList.length = src.size := rfl
    rw [out_length, hc, hsz] at hn
    cases q
    · exact qe_plain src c n W hs hc (by simp at hn; omega)
    · exact qe_quote src c n W hs hc (by simp at hn; omega)
  go_enter Try.func7, Try.ntmps7
  go_wp2_with fail
  refine (hq.out _).mono ?_
  rintro e w1 ⟨rfl, h1, b1⟩
  go_wp2_with fail
  go_ret
  exact ⟨rfl, h1, b1⟩

theorem ctl_snoc (l : List UInt8) (b : UInt8) : ctl (l ++ [b]) = ctl l + if b < 32 then 1 else 0 := by
  unfold ctl; rw [List.countP_append, List.countP_singleton]; simp

set_option maxHeartbeats 400000 in
theorem count_any (s : ByteArray) (w : World) (hs : s.size ≤ 1048576) :
    Calls Try.prog 6 #[.string s] w fun e w' => e = .returned (.int .i64 (ctl s.data.toList)) ∧ w = w' := by
  go_enter Try.func6, Try.ntmps6
  go_wp2
  go_loop [3, 4] (fun c i => ∃ k m : Nat, k ≤ s.size ∧ i = .int .i64 k ∧ c = .int .i64 m ∧ Hid (ctl (s.data.toList.take k) = m) ∧ m ≤ k) (fun _ i => s.size - (intOf i).toNat)
  case atStart => exact ⟨0, 0, Nat.zero_le _, rfl, rfl, rfl, Nat.le_refl _⟩
  case round =>
    obtain ⟨k, m, hk, rfl, rfl, hm, hmk⟩ := hrel
    by_cases hlt : k < s.size
    · have HS : Hid (ctl (s.data.toList.take (k + 1)) = m + if s[k] < 32 then 1 else 0) := Lib.hid (by rw [take_snoc s k hlt, ctl_snoc, hm.out])
      by_cases hc : s[k] < 32
      · rw [if_pos hc] at HS
        have h32 : ((s[k].toNat : Int) < 32) := by rw [UInt8.lt_iff_toNat_lt] at hc; simp at hc; omega
        clear hc
        go_wp2
        go_round
        case rel => exact ⟨k + 1, m + 1, by omega, by go_num, by go_num, HS, by omega⟩
        case measure => simp [intOf]; omega
      · rw [if_neg hc] at HS
        have h32 : ¬ ((s[k].toNat : Int) < 32) := by rw [UInt8.not_lt, UInt8.le_iff_toNat_le] at hc; simp at hc; omega
        clear hc
        go_wp2
        go_round
        case rel => exact ⟨k + 1, m, by omega, by go_num, rfl, HS, by omega⟩
        case measure => simp [intOf]; omega
    · go_wp2
      go_ret
      have h := hm.out
      rw [List.take_of_length_le (by simp; omega)] at h
      rw [h]
      exact ⟨rfl, rfl⟩

theorem bytes5 (s : ByteArray) (q : Bool) (k : Int) (w : World) (v : Bool) (hv : decide (s.size ≤ 1048576) = v) (hm : s.size ≤ maxLen) :
    Calls Try.prog 5 #[.string s, .bool q, .int .i64 k] w fun e w' => e = .returned (.bool v) ∧ w = w' := by
  unfold maxLen at hm
  subst hv
  go_enter Try.func5, Try.ntmps5
  go_wp2
  all_goals (go_ret; exact ⟨ret_bool (by simp; omega), rfl⟩)
theorem bytes8 (s : ByteArray) (k : Int) (w : World) (v : Bool) (hv : decide (s.size ≤ 1048576) = v) (hm : s.size ≤ maxLen) :
    Calls Try.prog 8 #[.string s, .int .i64 k] w fun e w' => e = .returned (.bool v) ∧ w = w' := by
  unfold maxLen at hm
  subst hv
  go_enter Try.func8, Try.ntmps8
  go_wp2
  all_goals (go_ret; exact ⟨ret_bool (by simp; omega), rfl⟩)

def True1 (w : World) (e : Ending) (w' : World) : Prop := e = .returned (.bool true) ∧ Below w.heap.size w w'

set_option maxHeartbeats 1000000 in
theorem out3 (s : ByteArray) (q : Bool) (k : Int) (w : World) (hm : s.size ≤ maxLen) (h : ¬ (s.size ≤ 1048576 ∧ k = ctl s.data.toList)) :
    Calls Try.prog 3 #[.string s, .bool q, .int .i64 k] w (True1 w) := by
  have H := Lib.hid h
  clear h
  by_cases hs : s.size ≤ 1048576
  · have HB : Hid (decide (s.size ≤ 1048576) = true) := Lib.hid (by simpa using hs)
    have hk : (k != (ctl s.data.toList : Int)) = true := by rw [bne_iff_ne]; exact fun e => H.out ⟨hs, e⟩
    go_enter Try.func3, Try.ntmps3
    go_wp2_with (first | (go_at_call 5; refine (bytes5 _ _ _ _ _ HB.out hm).mono ?_; rintro e w' ⟨rfl, rfl⟩) | (go_at_call 6; refine (count_any _ _ hs).mono ?_; rintro e w' ⟨rfl, rfl⟩))
    go_ret
    exact ⟨rfl, Below.refl _ _⟩
  · have HB : Hid (decide (s.size ≤ 1048576) = false) := Lib.hid (by simpa using hs)
    go_enter Try.func3, Try.ntmps3
    go_wp2_with (go_at_call 5; refine (bytes5 _ _ _ _ _ HB.out hm).mono ?_; rintro e w' ⟨rfl, rfl⟩)
    go_ret
    exact ⟨rfl, Below.refl _ _⟩
set_option maxHeartbeats 1000000 in
theorem out4 (s : ByteArray) (k : Int) (w : World) (hm : s.size ≤ maxLen) (h : ¬ (s.size ≤ 1048576 ∧ k = ctl s.data.toList)) :
    Calls Try.prog 4 #[.string s, .int .i64 k] w (True1 w) := by
  have H := Lib.hid h
  clear h
  by_cases hs : s.size ≤ 1048576
  · have HB : Hid (decide (s.size ≤ 1048576) = true) := Lib.hid (by simpa using hs)
    have hk : (k != (ctl s.data.toList : Int)) = true := by rw [bne_iff_ne]; exact fun e => H.out ⟨hs, e⟩
    go_enter Try.func4, Try.ntmps4
    go_wp2_with (first | (go_at_call 8; refine (bytes8 _ _ _ _ HB.out hm).mono ?_; rintro e w' ⟨rfl, rfl⟩) | (go_at_call 6; refine (count_any _ _ hs).mono ?_; rintro e w' ⟨rfl, rfl⟩))
    go_ret
    exact ⟨rfl, Below.refl _ _⟩
  · have HB : Hid (decide (s.size ≤ 1048576) = false) := Lib.hid (by simpa using hs)
    go_enter Try.func4, Try.ntmps4
    go_wp2_with (go_at_call 8; refine (bytes8 _ _ _ _ HB.out hm).mono ?_; rintro e w' ⟨rfl, rfl⟩)
    go_ret
    exact ⟨rfl, Below.refl _ _⟩

set_option maxHeartbeats 1000000 in
theorem law3_false (s : ByteArray) (w : World) (hs : s.size ≤ 1048576) (c n : Nat) (hc : ctl s.data.toList = c) (hn : (out false s.data.toList).length = n) (hl : n = s.size + 5 * c) (hcl : c ≤ s.size) :
    Calls Try.prog 3 #[.string s, .bool false, .int .i64 c] w (True1 w) := by
  have HB : Hid (decide (s.size ≤ 1048576) = true) := Lib.hid (by simpa using hs)
  have HGE := Lib.hid (out_ge false s.data.toList)
  have HN := Lib.hid hn
  have HC := Lib.hid hc
  have HCC : Hid (∀ W : World, Calls Try.prog 6 #[.string s] W fun e w' => e = .returned (.int .i64 c) ∧ W = w') := by
    intro W; rw [← hc]; exact count_any s W hs
  have hne : ((n : Int) != (s.size : Int) + 5 * (c : Int)) = false := by rw [bne_eq_false_iff_eq]; omega
  have hn3 : n ≤ 7000000 := by omega
  have hm : s.size ≤ maxLen := by unfold maxLen; omega
  clear hn hc hl
  go_enter Try.func3, Try.ntmps3
  go_wp2_with fail
  refine (bytes5 _ _ _ _ _ HB.out hm).mono ?_
  rintro e w' ⟨rfl, rfl⟩
  go_wp2_with fail
  refine (HCC.out _).mono ?_
  rintro e w' ⟨rfl, rfl⟩
  go_wp2_with fail
  refine (zzQ_any s _ c n _ hs HC.out HN.out).mono ?_
  rintro e w1 ⟨rfl, hB, hbel⟩
  obtain ⟨b, hb⟩ : ∃ b, b = w.heap.size := ⟨_, rfl⟩
  rw [← hb] at hB hbel ⊢
  have HBB := Lib.hid hb
  have HBL := Lib.hid hB
  clear hb hB
  go_wp2_with fail
  go_loop [9] (fun i => ∃ k : Nat, k ≤ n ∧ i = .int .i64 k) (fun i => n - (intOf i).toNat)
  case atStart => exact ⟨0, Nat.zero_le _, rfl⟩
  case round =>
    obtain ⟨k, hk, rfl⟩ := hrel
    by_cases hlt : k < n
    · have hlt2 : k < (out false s.data.toList).length := by rw [HN.out]; exact hlt
      have hx := HGE.out _ (List.getElem_mem hlt2)
      have c1 := HBL.out.cell hlt2
      generalize (out false s.data.toList)[k] = x at *
      clear hlt2
      go_wp2_with fail
      go_round
      case rel => exact ⟨k + 1, by omega, by go_num⟩
      case measure => simp [intOf]; omega
    · go_wp2_with fail
      go_ret
      refine ⟨rfl, ?_⟩
      rw [← HBB.out]; exact hbel

set_option maxHeartbeats 1000000 in
theorem law3_true (s : ByteArray) (w : World) (hs : s.size ≤ 1048576) (c n : Nat) (hc : ctl s.data.toList = c) (hn : (out true s.data.toList).length = n) (hl : n = s.size + 5 * c + 2) (hcl : c ≤ s.size) :
    Calls Try.prog 3 #[.string s, .bool true, .int .i64 c] w (True1 w) := by
  have HB : Hid (decide (s.size ≤ 1048576) = true) := Lib.hid (by simpa using hs)
  have HGE := Lib.hid (out_ge true s.data.toList)
  have HN := Lib.hid hn
  have HC := Lib.hid hc
  have HCC : Hid (∀ W : World, Calls Try.prog 6 #[.string s] W fun e w' => e = .returned (.int .i64 c) ∧ W = w') := by
    intro W; rw [← hc]; exact count_any s W hs
  have hne : ((n : Int) != (s.size : Int) + 5 * (c : Int) + 2) = false := by rw [bne_eq_false_iff_eq]; omega
  have hn3 : n ≤ 7000000 := by omega
  have hm : s.size ≤ maxLen := by unfold maxLen; omega
  clear hn hc hl
  go_enter Try.func3, Try.ntmps3
  go_wp2_with fail
  refine (bytes5 _ _ _ _ _ HB.out hm).mono ?_
  rintro e w' ⟨rfl, rfl⟩
  go_wp2_with fail
  refine (HCC.out _).mono ?_
  rintro e w' ⟨rfl, rfl⟩
  go_wp2_with fail
  refine (zzQ_any s _ c n _ hs HC.out HN.out).mono ?_
  rintro e w1 ⟨rfl, hB, hbel⟩
  obtain ⟨b, hb⟩ : ∃ b, b = w.heap.size := ⟨_, rfl⟩
  rw [← hb] at hB hbel ⊢
  have HBB := Lib.hid hb
  have HBL := Lib.hid hB
  clear hb hB
  go_wp2_with fail
  go_loop [9] (fun i => ∃ k : Nat, k ≤ n ∧ i = .int .i64 k) (fun i => n - (intOf i).toNat)
  case atStart => exact ⟨0, Nat.zero_le _, rfl⟩
  case round =>
    obtain ⟨k, hk, rfl⟩ := hrel
    by_cases hlt : k < n
    · have hlt2 : k < (out true s.data.toList).length := by rw [HN.out]; exact hlt
      have hx := HGE.out _ (List.getElem_mem hlt2)
      have c1 := HBL.out.cell hlt2
      generalize (out true s.data.toList)[k] = x at *
      clear hlt2
      go_wp2_with fail
      go_round
      case rel => exact ⟨k + 1, by omega, by go_num⟩
      case measure => simp [intOf]; omega
    · go_wp2_with fail
      go_ret
      refine ⟨rfl, ?_⟩
      rw [← HBB.out]; exact hbel

theorem law3 (s : ByteArray) (q : Bool) (w : World) (hs : s.size ≤ 1048576) :
    Calls Try.prog 3 #[.string s, .bool q, .int .i64 (ctl s.data.toList)] w (True1 w) := by
  have hlen := out_length q s.data.toList
  have hcl := ctl_le s.data.toList
  have hsz : s.data.toList.length = s.size := rfl
  rw [hsz] at hlen hcl
  cases q
  · exact law3_false s w hs _ _ rfl rfl (by simpa using hlen) hcl
  · exact law3_true s w hs _ _ rfl rfl (by simpa using hlen) hcl

end Go.Proofs.Ytekimjpganhcdaa
