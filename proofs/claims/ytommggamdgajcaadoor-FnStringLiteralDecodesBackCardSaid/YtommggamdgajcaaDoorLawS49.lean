/- The two laws on string literals. -/
import Derived.Test.YtommggamdgajcaaDoorJson
import Derived.Test.YtommggamdgajcaaDoorStr
import Derived.Test.YtommggamdgajcaaDoorU49
namespace Go.Proofs.YtommggamdgajcaaDoor
open Go.RowKit

def fitB (n : Nat) : Bool := decide (n ≤ 1048576)
theorem bytesM_any (s : ByteArray) (w : World) (hs : s.size ≤ maxLen) :
    Calls Tryd.prog 9 #[.string s] w fun e w' => e = .returned (.bool (fitB s.size)) ∧ w = w' := by
  unfold maxLen at hs
  go_enter Tryd.func9, Tryd.ntmps9
  go_wp2
  all_goals (go_ret; exact ⟨ret_bool (by unfold fitB; simp; omega), rfl⟩)
theorem bytesD_any (s : ByteArray) (w : World) (hs : s.size ≤ maxLen) :
    Calls Tryd.prog 13 #[.string s] w fun e w' => e = .returned (.bool (fitB s.size)) ∧ w = w' := by
  unfold maxLen at hs
  go_enter Tryd.func13, Tryd.ntmps13
  go_wp2
  all_goals (go_ret; exact ⟨ret_bool (by unfold fitB; simp; omega), rfl⟩)

set_option maxHeartbeats 1000000 in
theorem lawM (s : ByteArray) (w : World) (hsl : s.size ≤ maxLen) (hT : Lib.Utf8Tabs 0 1 w) :
    Calls Tryd.prog 3 #[.string s] w fun e w' => e = .returned (.bool true) ∧ Below w.heap.size w w' := by
  by_cases hs : s.size ≤ 1048576
  · have hf : fitB s.size = true := by unfold fitB; simpa using hs
    by_cases hA : asciiB s = true
    · have hW : Below w.heap.size w (w.alloc (.cells #[.string s, .slice none 0 0] 26)) := (Below.refl _ _).alloc (Nat.le_refl _) _
      have hP := prints_string_lit (Nd.new w 26 #[.string s, .slice none 0 0]) (by omega)
      rw [quoted_ascii s hA] at hP
      have hl := escs_len s.data.toList
      have hsd : s.data.toList.length = s.size := rfl
      have HC := Lib.hid (str_String hP trivial (tabs_below hT hW (by have := tabs_size hT; omega) (by have := tabs_size hT; omega)) (by simp only [List.length_append, List.length_cons, List.length_nil]; omega))
      have HA := Lib.hid hA
      have HW := Lib.hid hW
      clear hT hW hP hl hsd
      go_enter Tryd.func3, Tryd.ntmps3
      go_wp2_with (first | (go_at_call 9; refine (bytesM_any _ _ hsl).mono ?_; rintro e w' ⟨rfl, rfl⟩) | (go_at_call 10; refine (plain_any _ _ hs).mono ?_; rintro e w' ⟨rfl, rfl⟩))
      refine HC.out.mono ?_
      rintro e w1 ⟨rfl, hb1⟩
      have hbw1 := HW.out.trans (hb1.mono HW.out.size)
      clear HC hb1
      go_wp2_with fail
      refine (quoted_any s w1 hs HA.out).mono ?_
      rintro e w2 ⟨rfl, hb2⟩
      go_wp2_with fail
      go_ret
      exact ⟨ret_bool (by simp), hbw1.trans (hb2.mono hbw1.size)⟩
    · have hA' : asciiB s = false := by simpa using hA
      clear hT hA
      go_enter Tryd.func3, Tryd.ntmps3
      go_wp2_with (first | (go_at_call 9; refine (bytesM_any _ _ hsl).mono ?_; rintro e w' ⟨rfl, rfl⟩) | (go_at_call 10; refine (plain_any _ _ hs).mono ?_; rintro e w' ⟨rfl, rfl⟩))
      go_ret
      exact ⟨rfl, Below.refl _ _⟩
  · have hf : fitB s.size = false := by unfold fitB; simpa using hs
    clear hT hs
    go_enter Tryd.func3, Tryd.ntmps3
    go_wp2_with (go_at_call 9; refine (bytesM_any _ _ hsl).mono ?_; rintro e w' ⟨rfl, rfl⟩)
    go_ret
    exact ⟨rfl, Below.refl _ _⟩

set_option maxHeartbeats 1000000 in
theorem lawD (s : ByteArray) (w : World) (hsl : s.size ≤ maxLen) (hT : Lib.Utf8Tabs 0 1 w) :
    Calls Tryd.prog 4 #[.string s] w fun e w' => e = .returned (.bool true) ∧ Below w.heap.size w w' := by
  by_cases hs : s.size ≤ 1048576
  · have hf : fitB s.size = true := by unfold fitB; simpa using hs
    by_cases hA : asciiB s = true
    · have hW : Below w.heap.size w (w.alloc (.cells #[.string s, .slice none 0 0] 26)) := (Below.refl _ _).alloc (Nat.le_refl _) _
      have hP := prints_string_lit (Nd.new w 26 #[.string s, .slice none 0 0]) (by omega)
      rw [quoted_ascii s hA] at hP
      have hl := escs_len s.data.toList
      have hsd : s.data.toList.length = s.size := rfl
      have HC := Lib.hid (str_String hP trivial (tabs_below hT hW (by have := tabs_size hT; omega) (by have := tabs_size hT; omega)) (by simp only [List.length_append, List.length_cons, List.length_nil]; omega))
      have HA := Lib.hid hA
      have HW := Lib.hid hW
      clear hT hW hP hl hsd
      obtain ⟨t, ht⟩ : ∃ t : ByteArray, t = ⟨([34] ++ escs s.data.toList ++ [34]).toArray⟩ := ⟨_, rfl⟩
      have HTT : Hid (t.data.toList = [34] ++ escs s.data.toList ++ [34]) := Lib.hid (by rw [ht])
      have HC : Hid (Calls Tryd.prog 11 #[.pointer (some ⟨w.heap.size, 0, none⟩)] (w.alloc (.cells #[.string s, .slice none 0 0] 26)) fun e w' => e = .returned (.string t) ∧ Below (w.alloc (.cells #[.string s, .slice none 0 0] 26)).heap.size (w.alloc (.cells #[.string s, .slice none 0 0] 26)) w') := by rw [ht]; exact HC
      clear ht
      go_enter Tryd.func4, Tryd.ntmps4
      go_wp2_with (first | (go_at_call 13; refine (bytesD_any _ _ hsl).mono ?_; rintro e w' ⟨rfl, rfl⟩) | (go_at_call 10; refine (plain_any _ _ hs).mono ?_; rintro e w' ⟨rfl, rfl⟩))
      refine HC.out.mono ?_
      rintro e w1 ⟨rfl, hb1⟩
      have hbw1 := HW.out.trans (hb1.mono HW.out.size)
      clear HC hb1
      go_wp2_with fail
      refine (unq_any s t w1 hs HA.out HTT.out).mono ?_
      rintro e w2 ⟨rfl, hb2⟩
      go_wp2_with fail
      go_ret
      exact ⟨ret_bool (by simp), hbw1.trans (hb2.mono hbw1.size)⟩
    · have hA' : asciiB s = false := by simpa using hA
      clear hT hA
      go_enter Tryd.func4, Tryd.ntmps4
      go_wp2_with (first | (go_at_call 13; refine (bytesD_any _ _ hsl).mono ?_; rintro e w' ⟨rfl, rfl⟩) | (go_at_call 10; refine (plain_any _ _ hs).mono ?_; rintro e w' ⟨rfl, rfl⟩))
      go_ret
      exact ⟨rfl, Below.refl _ _⟩
  · have hf : fitB s.size = false := by unfold fitB; simpa using hs
    clear hT hs
    go_enter Tryd.func4, Tryd.ntmps4
    go_wp2_with (go_at_call 13; refine (bytesD_any _ _ hsl).mono ?_; rintro e w' ⟨rfl, rfl⟩)
    go_ret
    exact ⟨rfl, Below.refl _ _⟩
end Go.Proofs.YtommggamdgajcaaDoor
