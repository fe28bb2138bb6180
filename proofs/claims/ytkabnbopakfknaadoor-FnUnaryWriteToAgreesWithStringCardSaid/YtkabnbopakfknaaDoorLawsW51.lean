/- The law FnUnaryWriteToAgreesWithString. -/
import Derived.Test.YtkabnbopakfknaaDoorLaws51
namespace Go.Proofs.YtkabnbopakfknaaDoor
open Go.RowKit

set_option maxHeartbeats 2000000 in
theorem lawW_plain (p : ByteArray) (o t : Int) (s : ByteArray) (w : World) (hp : p.size ≤ 524288) (hs : s.size ≤ 524288) (hT : Lib.Utf8Tabs 0 1 w) (o1 : 1 ≤ o) (o2 : o ≤ 24) (ht : simpleB t = true) (h6 : t = 6 → s.size ≠ 0) (h6b : ((t == 6) = false) ∨ ((t == 6) = true ∧ s.toList.isEmpty = false)) :
    Calls Tryd.prog 5 #[.string p, .int .i64 o, .int .i64 0, .int .i64 t, .string s] w fun e w' => e = .returned (.bool true) ∧ Below w.heap.size w w' := by
  have hf : fitB (p.size + s.size) = true := by unfold fitB; simp; omega
  have hsl : s.size ≤ maxLen := by unfold maxLen; omega
  have hpl : p.size ≤ maxLen := by unfold maxLen; omega
  have d1 : decide (o < 1) = false := by simp; omega
  have d2 : decide (24 < o) = false := by simp; omega
  have d5 : decide ((524288 : Int) < p.size) = false := by simp; omega
  have d6 : decide ((524288 : Int) < s.size) = false := by simp; omega
  have hTm := tmText_len t s
  have hso := spell_safe o1 o2
  have HT := Lib.hid hT
  have H6 := Lib.hid h6
  have HO := Lib.hid (And.intro o1 o2)
  have HSO := Lib.hid hso
  clear hT h6 o1 o2 hso
  rcases h6b with h6b | ⟨h6b, h6c⟩
  all_goals
    go_enter Tryd.func5, Tryd.ntmps5
    go_wp2_with (first | (go_at_call 17; refine (bytesW_any _ _ _ _ _ _ hpl hsl).mono ?_; rintro e w' ⟨rfl, rfl⟩) | (go_at_call 13; refine (simple_any _ _).mono ?_; rintro e w' ⟨rfl, rfl⟩))
    refine (mk_any t s _ ht H6.out).mono ?_
    rintro e w1 ⟨t1, rfl, ht1, hp1, hb1⟩
    have HP1 := Lib.hid hp1
    clear hp1
    go_wp2_with fail
    obtain ⟨W, hW⟩ : ∃ W, W = w1.alloc (.cells #[.int .i64 o, .pointer (some ⟨t1, 0, none⟩)] 41) := ⟨_, rfl⟩
    rw [← hW]
    have hNv : Nd w1.heap.size 41 #[.int .i64 o, .pointer (some ⟨t1, 0, none⟩)] W := by rw [hW]; exact Nd.new _ _ _
    have hbW : Below w1.heap.size w1 W := by rw [hW]; exact (Below.refl _ _).alloc (Nat.le_refl _) _
    clear hW
    have hbw : Below w.heap.size w W := hb1.trans (hbW.mono hb1.size)
    have hTW := tabs_below HT.out hbw (by have := tabs_size HT.out; omega) (by have := tabs_size HT.out; omega)
    have PV := prints_unary hNv HO.out.1 HO.out.2 (fun pre => Safe.behind HSO.out.1 HSO.out.2.1 pre) (HP1.out.pres (Pres.below hbW (Nat.le_refl _)))
    clear hNv HP1
    have HPV := Lib.hid PV
    have HTW := Lib.hid hTW
    have HC := Lib.hid (after_Unary p PV trivial hTW (by have := HSO.out.2.2; rw [List.length_append]; omega))
    clear PV hTW
    refine HC.out.mono ?_
    rintro e w2 ⟨rfl, hb2⟩
    have HC2 := Lib.hid (str_Unary (HPV.out.pres (Pres.below hb2 (Nat.le_refl _))) trivial (tabs_below HTW.out hb2 (by have := tabs_size HTW.out; omega) (by have := tabs_size HTW.out; omega)) (by have := HSO.out.2.2; rw [List.length_append]; omega))
    clear HC HPV
    go_wp2_with fail
    refine HC2.out.mono ?_
    rintro e w3 ⟨rfl, hb3⟩
    have hz : p.size + (⟨(spell o ++ tmText t s).toArray⟩ : ByteArray).size ≤ 9223372036854775807 := by
      have h2 := HSO.out.2.2
      simp only [ByteArray.size, List.size_toArray]
      have : p.data.size = p.size := rfl
      rw [List.length_append]; omega
    clear HC2
    go_wp2_with fail
    go_ret
    refine ⟨ret_bool ?_, hbw.trans ((hb2.mono hbw.size).trans (hb3.mono (Nat.le_trans hbw.size hb2.size)))⟩
    rw [ByteArray.toList_eq, ByteArray.data_append]
    simp

set_option maxHeartbeats 2000000 in
theorem lawW_nest (p : ByteArray) (o i t : Int) (s : ByteArray) (w : World) (hp : p.size ≤ 524288) (hs : s.size ≤ 524288) (hT : Lib.Utf8Tabs 0 1 w) (o1 : 1 ≤ o) (o2 : o ≤ 24) (i1 : 1 ≤ i) (i2 : i ≤ 24) (ht : simpleB t = true) (h6 : t = 6 → s.size ≠ 0) (h6b : ((t == 6) = false) ∨ ((t == 6) = true ∧ s.toList.isEmpty = false)) :
    Calls Tryd.prog 5 #[.string p, .int .i64 o, .int .i64 i, .int .i64 t, .string s] w fun e w' => e = .returned (.bool true) ∧ Below w.heap.size w w' := by
  have hi0 : decide (0 < i) = true := by simp; omega
  have hf : fitB (p.size + s.size) = true := by unfold fitB; simp; omega
  have hsl : s.size ≤ maxLen := by unfold maxLen; omega
  have hpl : p.size ≤ maxLen := by unfold maxLen; omega
  have d1 : decide (o < 1) = false := by simp; omega
  have d2 : decide (24 < o) = false := by simp; omega
  have d3 : decide (i < 0) = false := by simp; omega
  have d4 : decide (24 < i) = false := by simp; omega
  have d5 : decide ((524288 : Int) < p.size) = false := by simp; omega
  have d6 : decide ((524288 : Int) < s.size) = false := by simp; omega
  have hTm := tmText_len t s
  have hso := spell_safe o1 o2
  have HT := Lib.hid hT
  have H6 := Lib.hid h6
  have HO := Lib.hid (And.intro o1 o2)
  have HSO := Lib.hid hso
  have hsi := spell_safe i1 i2
  have HI := Lib.hid (And.intro i1 i2)
  have HSI := Lib.hid hsi
  clear hT h6 o1 o2 hso i1 i2 hsi
  rcases h6b with h6b | ⟨h6b, h6c⟩
  all_goals
    go_enter Tryd.func5, Tryd.ntmps5
    go_wp2_with (first | (go_at_call 17; refine (bytesW_any _ _ _ _ _ _ hpl hsl).mono ?_; rintro e w' ⟨rfl, rfl⟩) | (go_at_call 13; refine (simple_any _ _).mono ?_; rintro e w' ⟨rfl, rfl⟩))
    refine (mk_any t s _ ht H6.out).mono ?_
    rintro e w1 ⟨t1, rfl, ht1, hp1, hb1⟩
    have HP1 := Lib.hid hp1
    clear hp1
    go_wp2_with fail
    obtain ⟨W, hW⟩ : ∃ W, W = ((w1.alloc (.cells #[.int .i64 i, .pointer (some ⟨t1, 0, none⟩)] 41)).alloc (.cells #[.int .i64 11, .pointer none, .pointer none, .pointer none, .pointer none, .string ⟨#[]⟩, .pointer (some ⟨w1.heap.size, 0, none⟩), .string ⟨#[]⟩, .pointer none, .pointer none, .pointer none, .pointer none, .pointer none, .pointer none, .string ⟨#[]⟩, .pointer none, .slice none 0 0] 56)).alloc (.cells #[.int .i64 o, .pointer (some ⟨w1.heap.size + 1, 0, none⟩)] 41) := ⟨_, rfl⟩
    rw [← hW]
    have hNu : Nd w1.heap.size 41 #[.int .i64 i, .pointer (some ⟨t1, 0, none⟩)] W := by rw [hW]; exact ((Nd.new _ _ _).alloc _).alloc _
    have hNt : Nd (w1.heap.size + 1) 56 #[.int .i64 11, .pointer none, .pointer none, .pointer none, .pointer none, .string ⟨#[]⟩, .pointer (some ⟨w1.heap.size, 0, none⟩), .string ⟨#[]⟩, .pointer none, .pointer none, .pointer none, .pointer none, .pointer none, .pointer none, .string ⟨#[]⟩, .pointer none, .slice none 0 0] W := by rw [hW]; exact (Nd.newAt _ _ (by simp)).alloc _
    have hNv : Nd (w1.heap.size + 1 + 1) 41 #[.int .i64 o, .pointer (some ⟨w1.heap.size + 1, 0, none⟩)] W := by rw [hW]; exact Nd.newAt _ _ (by simp)
    have hbW : Below w1.heap.size w1 W := by rw [hW]; exact (((Below.refl _ _).alloc (Nat.le_refl _) _).alloc (by simp) _).alloc (by simp; omega) _
    clear hW
    have hbw : Below w.heap.size w W := hb1.trans (hbW.mono hb1.size)
    have hTW := tabs_below HT.out hbw (by have := tabs_size HT.out; omega) (by have := tabs_size HT.out; omega)
    have PU := prints_unary hNu HI.out.1 HI.out.2 (fun pre => Safe.behind HSI.out.1 HSI.out.2.1 pre) (HP1.out.pres (Pres.below hbW (Nat.le_refl _)))
    have PV := prints_unary hNv HO.out.1 HO.out.2 (fun _ => trivial) (prints_term_Unary hNt PU)
    clear PU hNu hNt hNv HP1
    have HPV := Lib.hid PV
    have HTW := Lib.hid hTW
    have HC := Lib.hid (after_Unary p PV trivial hTW (by have := HSO.out.2.2; have := HSI.out.2.2; rw [List.length_append, List.length_append]; omega))
    clear PV hTW
    refine HC.out.mono ?_
    rintro e w2 ⟨rfl, hb2⟩
    have HC2 := Lib.hid (str_Unary (HPV.out.pres (Pres.below hb2 (Nat.le_refl _))) trivial (tabs_below HTW.out hb2 (by have := tabs_size HTW.out; omega) (by have := tabs_size HTW.out; omega)) (by have := HSO.out.2.2; have := HSI.out.2.2; rw [List.length_append, List.length_append]; omega))
    clear HC HPV
    go_wp2_with fail
    refine HC2.out.mono ?_
    rintro e w3 ⟨rfl, hb3⟩
    have hz : p.size + (⟨(spell o ++ (spell i ++ tmText t s)).toArray⟩ : ByteArray).size ≤ 9223372036854775807 := by
      have h2 := HSO.out.2.2
      simp only [ByteArray.size, List.size_toArray]
      have : p.data.size = p.size := rfl
      have := HSI.out.2.2; rw [List.length_append, List.length_append]; omega
    clear HC2
    go_wp2_with fail
    go_ret
    refine ⟨ret_bool ?_, hbw.trans ((hb2.mono hbw.size).trans (hb3.mono (Nat.le_trans hbw.size hb2.size)))⟩
    rw [ByteArray.toList_eq, ByteArray.data_append]
    simp

set_option maxHeartbeats 2000000 in
theorem lawW (p : ByteArray) (o i t : Int) (s : ByteArray) (w : World) (hpl : p.size ≤ maxLen) (hsl : s.size ≤ maxLen) (hT : Lib.Utf8Tabs 0 1 w) :
    Calls Tryd.prog 5 #[.string p, .int .i64 o, .int .i64 i, .int .i64 t, .string s] w fun e w' => e = .returned (.bool true) ∧ Below w.heap.size w w' := by
  have hsm := hsl
  have hpm := hpl
  unfold maxLen at hsm hpm
  by_cases hf0 : p.size + s.size ≤ 1048576
  · have hf : fitB (p.size + s.size) = true := by unfold fitB; simpa using hf0
    by_cases hs : p.size ≤ 524288 ∧ s.size ≤ 524288
    · obtain ⟨hp, hs⟩ := hs
      by_cases hr : (1 ≤ o ∧ o ≤ 24) ∧ 0 ≤ i ∧ i ≤ 24
      · obtain ⟨⟨o1, o2⟩, i1, i2⟩ := hr
        by_cases ht : simpleB t = true
        · by_cases h6 : t = 6 ∧ s.size = 0
          · obtain ⟨rfl, h0⟩ := h6
            have he := empty_iff h0
            have d1 : decide (o < 1) = false := by simp; omega
            have d2 : decide (24 < o) = false := by simp; omega
            have d3 : decide (i < 0) = false := by simp; omega
            have d4 : decide (24 < i) = false := by simp; omega
            have d5 : decide ((524288 : Int) < p.size) = false := by simp; omega
            have d6 : decide ((524288 : Int) < s.size) = false := by simp; omega
            clear hT h0 hs hp hf0
            go_enter Tryd.func5, Tryd.ntmps5
            go_wp2_with (first | (go_at_call 17; refine (bytesW_any _ _ _ _ _ _ hpl hsl).mono ?_; rintro e w' ⟨rfl, rfl⟩) | (go_at_call 13; refine (simple_any _ _).mono ?_; rintro e w' ⟨rfl, rfl⟩))
            go_ret
            exact ⟨rfl, Below.refl _ _⟩
          · have hb6 : ((t == 6) = false) ∨ ((t == 6) = true ∧ s.toList.isEmpty = false) := by
              by_cases e : t = 6
              · exact .inr ⟨by simpa using e, ne_empty (fun h => h6 ⟨e, h⟩)⟩
              · exact .inl (by simpa using e)
            by_cases hi : i = 0
            · subst hi; exact lawW_plain p o t s w hp hs hT o1 o2 ht (fun e h => h6 ⟨e, h⟩) hb6
            · exact lawW_nest p o i t s w hp hs hT o1 o2 (by omega) i2 ht (fun e h => h6 ⟨e, h⟩) hb6
        · have ht' : simpleB t = false := by simpa using ht
          have d1 : decide (o < 1) = false := by simp; omega
          have d2 : decide (24 < o) = false := by simp; omega
          have d3 : decide (i < 0) = false := by simp; omega
          have d4 : decide (24 < i) = false := by simp; omega
          have d5 : decide ((524288 : Int) < p.size) = false := by simp; omega
          have d6 : decide ((524288 : Int) < s.size) = false := by simp; omega
          clear hT hs ht hp hf0
          go_enter Tryd.func5, Tryd.ntmps5
          go_wp2_with (first | (go_at_call 17; refine (bytesW_any _ _ _ _ _ _ hpl hsl).mono ?_; rintro e w' ⟨rfl, rfl⟩) | (go_at_call 13; refine (simple_any _ _).mono ?_; rintro e w' ⟨rfl, rfl⟩))
          go_ret
          exact ⟨rfl, Below.refl _ _⟩
      · have d5 : decide ((524288 : Int) < p.size) = false := by simp; omega
        have d6 : decide ((524288 : Int) < s.size) = false := by simp; omega
        rcases (by omega : o < 1 ∨ (1 ≤ o ∧ 24 < o) ∨ (1 ≤ o ∧ o ≤ 24 ∧ i < 0) ∨ (1 ≤ o ∧ o ≤ 24 ∧ 0 ≤ i ∧ 24 < i)) with h | ⟨h, h1⟩ | ⟨h, h1, h2⟩ | ⟨h, h1, h2, h3⟩
        all_goals
          clear hr hT hs hp hf0
          go_enter Tryd.func5, Tryd.ntmps5
          go_wp2_with (first | (go_at_call 17; refine (bytesW_any _ _ _ _ _ _ hpl hsl).mono ?_; rintro e w' ⟨rfl, rfl⟩) | (go_at_call 13; refine (simple_any _ _).mono ?_; rintro e w' ⟨rfl, rfl⟩))
          go_ret
          exact ⟨rfl, Below.refl _ _⟩
    · rcases (by omega : 524288 < p.size ∨ (p.size ≤ 524288 ∧ 524288 < s.size)) with h | ⟨h, h1⟩
      all_goals
        clear hs hT hf0
        go_enter Tryd.func5, Tryd.ntmps5
        go_wp2_with (first | (go_at_call 17; refine (bytesW_any _ _ _ _ _ _ hpl hsl).mono ?_; rintro e w' ⟨rfl, rfl⟩) | (go_at_call 13; refine (simple_any _ _).mono ?_; rintro e w' ⟨rfl, rfl⟩))
        go_ret
        exact ⟨rfl, Below.refl _ _⟩
  · have hf : fitB (p.size + s.size) = false := by unfold fitB; simpa using hf0
    clear hT hf0
    go_enter Tryd.func5, Tryd.ntmps5
    go_wp2_with (first | (go_at_call 17; refine (bytesW_any _ _ _ _ _ _ hpl hsl).mono ?_; rintro e w' ⟨rfl, rfl⟩) | (go_at_call 13; refine (simple_any _ _).mono ?_; rintro e w' ⟨rfl, rfl⟩))
    go_ret
    exact ⟨rfl, Below.refl _ _⟩
end Go.Proofs.YtkabnbopakfknaaDoor
