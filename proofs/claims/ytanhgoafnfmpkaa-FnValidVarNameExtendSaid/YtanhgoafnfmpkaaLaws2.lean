/- The walks of the two laws on validVarName. -/
import Derived.Test.YtanhgoafnfmpkaaLaws
import Derived.Outline
namespace Go.Proofs.Ytanhgoafnfmpkaa
open Go.RowKit

theorem head_tail (c : Int) (h : identB c false = true) : identB c true = true := by unfold identB at *; simp_all

theorem zzValid_v (src : ByteArray) (w : World) (hs : src.size ≤ 1048577) (v : Bool) (hv : validB src = v) :
    Calls Try.prog 9 #[.string src] w fun e w' => e = .returned (.bool v) ∧ Below w.heap.size w w' := by
  subst hv; exact zzValid_any src w hs

theorem valid_short (s : ByteArray) (h : s.size < 2) : validB s = false := by
  unfold validB
  have : identB (at0 s 1) false = false := by rw [at0_end s 1 (by omega), ident0]
  rw [this]; simp
theorem valid_long (s : ByteArray) (h1 : at0 s 0 = 36) (h2 : identB (at0 s 1) false = true) (hs : 2 ≤ s.size) : validB s = decide (s.size ≤ scanEnd s 2) := by
  unfold validB
  have e := (end_step s 1 (head_tail _ h2)).2
  have hl := end_le s 2 hs
  rw [h1, h2, e, Bool.eq_iff_iff]
  simp; omega
theorem eq_at (s : ByteArray) (j : Nat) (c : Int) (v : Bool) (h : j < s.size) (hv : (at0 s j == c) = v) : ((s[j].toNat : Int) == c) = v := by
  rw [at0_of s j h] at hv; exact hv

set_option maxHeartbeats 1000000 in
theorem law3 (s : ByteArray) (w : World) (hs : s.size ≤ 1048576) :
    Calls Try.prog 3 #[.string s] w (True1 w) := by
  have HB : Hid (decide (s.size ≤ 1048576) = true) := Lib.hid (by simpa using hs)
  by_cases h2 : s.size < 2
  · have HV := Lib.hid (valid_short s h2)
    go_enter Try.func3, Try.ntmps3
    go_wp2_with fail
    refine (bytes8 _ _ _ HB.out (by unfold maxLen; omega)).mono ?_
    rintro e w' ⟨rfl, rfl⟩
    go_wp2_with fail
    refine (zzValid_v s _ (by omega) _ HV.out).mono ?_
    rintro e w1 ⟨rfl, b1⟩
    go_wp2_with fail
    go_ret
    exact ⟨rfl, b1⟩
  · have h2' : 2 ≤ s.size := by omega
    clear h2
    cases e0 : (at0 s 0 == 36)
    · have HV : Hid (validB s = false) := Lib.hid (by unfold validB; rw [e0]; rfl)
      have e0' := eq_at s 0 36 false (by omega) e0
      clear e0
      go_enter Try.func3, Try.ntmps3
      go_wp2_with fail
      refine (bytes8 _ _ _ HB.out (by unfold maxLen; omega)).mono ?_
      rintro e w' ⟨rfl, rfl⟩
      go_wp2_with fail
      refine (zzValid_v s _ (by omega) _ HV.out).mono ?_
      rintro e w1 ⟨rfl, b1⟩
      go_wp2_with fail
      go_ret
      exact ⟨rfl, b1⟩
    · cases e1 : identB (at0 s 1) false
      · have HV : Hid (validB s = false) := Lib.hid (by unfold validB; rw [e1]; simp)
        have e0' := eq_at s 0 36 true (by omega) e0
        have e1' := ident_at s 1 (by omega) false false e1
        clear e0 e1
        go_enter Try.func3, Try.ntmps3
        go_wp2_with fail
        refine (bytes8 _ _ _ HB.out (by unfold maxLen; omega)).mono ?_
        rintro e w' ⟨rfl, rfl⟩
        go_wp2_with fail
        refine (zzValid_v s _ (by omega) _ HV.out).mono ?_
        rintro e w1 ⟨rfl, b1⟩
        go_wp2_with fail
        refine (head_any _ _).mono ?_
        rintro e w' ⟨rfl, rfl⟩
        go_wp2_with fail
        go_ret
        exact ⟨rfl, b1⟩
      · have HV := Lib.hid (valid_long s (by simpa using e0) e1 h2')
        obtain ⟨v, hv⟩ : ∃ v, decide (s.size ≤ scanEnd s 2) = v := ⟨_, rfl⟩
        rw [hv] at HV
        have HA := Lib.hid hv
        have e0' := eq_at s 0 36 true (by omega) e0
        have e1' := ident_at s 1 (by omega) false true e1
        clear e0 e1 hv
        go_enter Try.func3, Try.ntmps3
        go_wp2_with fail
        refine (bytes8 _ _ _ HB.out (by unfold maxLen; omega)).mono ?_
        rintro e w' ⟨rfl, rfl⟩
        go_wp2_with fail
        refine (zzValid_v s _ (by omega) _ HV.out).mono ?_
        rintro e w1 ⟨rfl, b1⟩
        go_wp2_with fail
        refine (head_any _ _).mono ?_
        rintro e w' ⟨rfl, rfl⟩
        go_wp2_with fail
        refine (all_any s 2 s.size _ h2' (Nat.le_refl _) (by omega) _ HA.out).mono ?_
        rintro e w' ⟨rfl, rfl⟩
        go_wp2_with fail
        go_ret
        exact ⟨ret_bool (by simp), b1⟩

set_option maxHeartbeats 1000000 in
theorem out3 (s : ByteArray) (w : World) (hm : s.size ≤ maxLen) (h : ¬ s.size ≤ 1048576) :
    Calls Try.prog 3 #[.string s] w (True1 w) := by
  have HB : Hid (decide (s.size ≤ 1048576) = false) := Lib.hid (by simpa using h)
  go_enter Try.func3, Try.ntmps3
  go_wp2_with (go_at_call 8; refine (bytes8 _ _ _ HB.out hm).mono ?_; rintro e w' ⟨rfl, rfl⟩)
  go_ret
  exact ⟨rfl, Below.refl _ _⟩

theorem app_size (s : ByteArray) (c : Int) : (s ++ strOfNums [c]).size = s.size + 1 := by
  rw [ByteArray.size_append, strOfNums_size]; rfl
theorem app_old (s : ByteArray) (c : Int) (k : Nat) (h : k < s.size) : at0 (s ++ strOfNums [c]) k = at0 s k := by
  rw [at0_of _ _ (by rw [app_size]; omega), at0_of _ _ h, ByteArray.getElem_append_left h]
theorem app_new (s : ByteArray) (c : Int) (c0 : 0 ≤ c) (c1 : c ≤ 255) : at0 (s ++ strOfNums [c]) s.size = c := by
  rw [at0_of _ _ (by rw [app_size]; omega), ByteArray.getElem_append_right (Nat.le_refl _)]
  have e : (strOfNums [c])[s.size - s.size]'(by simp [strOfNums_size]) = UInt8.ofNat c.toNat := by
    simp [strOfNums, ByteArray.getElem_eq_getElem_data]
  rw [e]
  simp
  omega

theorem app_end (s : ByteArray) (c : Int) (c0 : 0 ≤ c) (c1 : c ≤ 255) (n : Nat) : ∀ k, s.size - k = n → k ≤ s.size →
    scanEnd (s ++ strOfNums [c]) k = if scanEnd s k < s.size then scanEnd s k else if identB c true = true then s.size + 1 else s.size := by
  induction n with
  | zero =>
    intro k hk hle
    obtain rfl : k = s.size := by omega
    have hs : scanEnd s s.size = s.size := end_stop _ _ (by rw [at0_end _ _ (Nat.le_refl _), ident0])
    rw [hs, if_neg (Nat.lt_irrefl _)]
    cases hi : identB c true
    · rw [if_neg (by simp)]
      exact end_stop _ _ (by rw [app_new s c c0 c1]; exact hi)
    · rw [if_pos rfl, (end_step _ _ (by rw [app_new s c c0 c1]; exact hi)).2]
      exact end_stop _ _ (by rw [at0_end _ _ (by rw [app_size]; exact Nat.le_refl _), ident0])
  | succ n ih =>
    intro k hk hle
    have hlt : k < s.size := by omega
    cases hi : identB (at0 s k) true
    · rw [end_stop _ _ (by rw [app_old s c k hlt]; exact hi), end_stop _ _ hi, if_pos hlt]
    · rw [(end_step _ _ (by rw [app_old s c k hlt]; exact hi)).2, (end_step _ _ hi).2]
      exact ih (k + 1) (by omega) (by omega)

theorem valid_ext (s : ByteArray) (c : Int) (h2 : 2 ≤ s.size) (c0 : 0 ≤ c) (c1 : c ≤ 255) : validB (s ++ strOfNums [c]) = (validB s && identB c true) := by
  unfold validB
  rw [app_old s c 0 (by omega), app_old s c 1 (by omega), app_end s c c0 c1 _ 1 rfl (by omega), app_size]
  have hle := end_le s 1 (by omega)
  cases (at0 s 0 == 36)
  · rfl
  · cases identB (at0 s 1) false
    · rfl
    · cases hi : identB c true
      · by_cases h : scanEnd s 1 < s.size
        · rw [if_pos h]; simp; omega
        · rw [if_neg h]; simp
      · by_cases h : scanEnd s 1 < s.size
        · rw [if_pos h, Bool.eq_iff_iff]; simp; omega
        · rw [if_neg h, Bool.eq_iff_iff]; simp; omega

set_option maxHeartbeats 1000000 in
set_option maxRecDepth 100000 in
theorem law4 (s : ByteArray) (c : Int) (w : World) (hs : s.size ≤ 1048576) (h2 : 2 ≤ s.size) (c0 : 0 ≤ c) (c1 : c ≤ 255) :
    Calls Try.prog 4 #[.string s, .int .u8 c] w (True1 w) := by
  have HB : Hid (decide (s.size ≤ 1048576) = true) := Lib.hid (by simpa using hs)
  have hz : (strOfNums [c]).size ≤ 1 := by rw [strOfNums_size]; exact Nat.le_refl _
  have HX := Lib.hid (valid_ext s c h2 c0 c1)
  have HA := Lib.hid (app_size s c)
  cases hv : validB s
  · have HV := Lib.hid hv
    rw [hv] at HX
    clear hv
    go_enter Try.func4, Try.ntmps4
    go_wp2_with fail
    refine (bytes12 _ _ _ _ HB.out (by unfold maxLen; omega)).mono ?_
    rintro e w' ⟨rfl, rfl⟩
    go_wp2_with fail
    refine (zzValid_v s _ (by omega) _ HV.out).mono ?_
    rintro e w1 ⟨rfl, b1⟩
    have hcv : (convert 26 9 (.slice (some ⟨w1.heap.size, 0, none⟩) 1 1)).run Try.prog (w1.alloc (.cells #[.int .u8 c] 5)) = .ok (.string (strOfNums [c])) (w1.alloc (.cells #[.int .u8 c] 5)) :=
      run_convert_bytes_arg _ 26 5 Try.underlying26 Try.underlying5 _ 0 1 1 [c] rfl (by intro i hi; obtain rfl : i = 0 := (by omega); exact cell_of_block (heap_alloc_at _ _) rfl) 9 Try.underlying9
    go_wp2_with fail
    refine (zzValid_v (s ++ strOfNums [c]) _ (by rw [HA.out]; omega) _ HX.out).mono ?_
    rintro e w2 ⟨rfl, b2⟩
    have b12 := (b1.alloc b1.size (.cells #[.int .u8 c] 5)).trans (b2.mono (Nat.le_trans b1.size (by simp)))
    clear hcv
    go_wp2_with fail
    go_ret
    exact ⟨rfl, b12⟩
  · have HV := Lib.hid hv
    rw [hv] at HX
    clear hv
    go_enter Try.func4, Try.ntmps4
    go_wp2_with fail
    refine (bytes12 _ _ _ _ HB.out (by unfold maxLen; omega)).mono ?_
    rintro e w' ⟨rfl, rfl⟩
    go_wp2_with fail
    refine (zzValid_v s _ (by omega) _ HV.out).mono ?_
    rintro e w1 ⟨rfl, b1⟩
    have hcv : (convert 26 9 (.slice (some ⟨w1.heap.size, 0, none⟩) 1 1)).run Try.prog (w1.alloc (.cells #[.int .u8 c] 5)) = .ok (.string (strOfNums [c])) (w1.alloc (.cells #[.int .u8 c] 5)) :=
      run_convert_bytes_arg _ 26 5 Try.underlying26 Try.underlying5 _ 0 1 1 [c] rfl (by intro i hi; obtain rfl : i = 0 := (by omega); exact cell_of_block (heap_alloc_at _ _) rfl) 9 Try.underlying9
    go_wp2_with fail
    refine (zzValid_v (s ++ strOfNums [c]) _ (by rw [HA.out]; omega) _ HX.out).mono ?_
    rintro e w2 ⟨rfl, b2⟩
    have b12 := (b1.alloc b1.size (.cells #[.int .u8 c] 5)).trans (b2.mono (Nat.le_trans b1.size (by simp)))
    clear hcv
    go_wp2_with fail
    refine (tail_any _ _).mono ?_
    rintro e w' ⟨rfl, rfl⟩
    go_wp2_with fail
    go_ret
    exact ⟨ret_bool (by simp), b12⟩

set_option maxHeartbeats 1000000 in
theorem out4 (s : ByteArray) (c : Int) (w : World) (hm : s.size ≤ maxLen) (h : ¬ (s.size ≤ 1048576 ∧ 2 ≤ s.size)) :
    Calls Try.prog 4 #[.string s, .int .u8 c] w (True1 w) := by
  have H := Lib.hid h
  clear h
  by_cases hs : s.size ≤ 1048576
  · have HB : Hid (decide (s.size ≤ 1048576) = true) := Lib.hid (by simpa using hs)
    have hk : s.size < 2 := by have := H.out; omega
    go_enter Try.func4, Try.ntmps4
    go_wp2_with (go_at_call 12; refine (bytes12 _ _ _ _ HB.out hm).mono ?_; rintro e w' ⟨rfl, rfl⟩)
    all_goals first | omega | (go_ret; exact ⟨rfl, Below.refl _ _⟩)
  · have HB : Hid (decide (s.size ≤ 1048576) = false) := Lib.hid (by simpa using hs)
    go_enter Try.func4, Try.ntmps4
    go_wp2_with (go_at_call 12; refine (bytes12 _ _ _ _ HB.out hm).mono ?_; rintro e w' ⟨rfl, rfl⟩)
    go_ret
    exact ⟨rfl, Below.refl _ _⟩

end Go.Proofs.Ytanhgoafnfmpkaa
