/- The two laws on unary operators: the law's own helpers. -/
import Derived.Test.YtkabnbopakfknaaDoorNodes
import Derived.Test.YtkabnbopakfknaaDoorStr
namespace Go.Proofs.YtkabnbopakfknaaDoor
open Go.RowKit

set_option maxHeartbeats 4000000 in
theorem opSpell_any (op : Int) (h1 : 1 ≤ op) (h2 : op ≤ 24) (w : World) :
    Calls Tryd.prog 16 #[.int .i64 op] w fun e w' => e = .returned (.string ⟨(spell op).toArray⟩) ∧ w = w' := by
  rcases ops24 h1 h2 with rfl | rfl | rfl | rfl | rfl | rfl | rfl | rfl | rfl | rfl | rfl | rfl | rfl | rfl | rfl | rfl | rfl | rfl | rfl | rfl | rfl | rfl | rfl | rfl
  all_goals
    go_enter Tryd.func16, Tryd.ntmps16
    go_wp2_with fail
    go_ret
    exact ⟨rfl, rfl⟩

def fitB (n : Nat) : Bool := decide (n ≤ 1048576)
theorem bytesN_any (a b c : Int) (s : ByteArray) (w : World) (hs : s.size ≤ maxLen) :
    Calls Tryd.prog 12 #[.int .i64 a, .int .i64 b, .int .i64 c, .string s] w fun e w' => e = .returned (.bool (fitB s.size)) ∧ w = w' := by
  unfold maxLen at hs
  go_enter Tryd.func12, Tryd.ntmps12
  go_wp2
  all_goals (go_ret; exact ⟨ret_bool (by unfold fitB; simp; omega), rfl⟩)
theorem bytesW_any (p : ByteArray) (a b c : Int) (s : ByteArray) (w : World) (hp : p.size ≤ maxLen) (hs : s.size ≤ maxLen) :
    Calls Tryd.prog 17 #[.string p, .int .i64 a, .int .i64 b, .int .i64 c, .string s] w fun e w' => e = .returned (.bool (fitB (p.size + s.size))) ∧ w = w' := by
  unfold maxLen at hs hp
  go_enter Tryd.func17, Tryd.ntmps17
  go_wp2
  all_goals (go_ret; exact ⟨ret_bool (by unfold fitB; simp; omega), rfl⟩)

def simpleB (t : Int) : Bool := decide (t = 1 ∨ t = 2 ∨ t = 3 ∨ t = 4 ∨ t = 5 ∨ t = 6 ∨ t = 10)
theorem simple_any (t : Int) (w : World) :
    Calls Tryd.prog 13 #[.int .i64 t] w fun e w' => e = .returned (.bool (simpleB t)) ∧ w = w' := by
  by_cases h : t = 1 ∨ t = 2 ∨ t = 3 ∨ t = 4 ∨ t = 5 ∨ t = 6 ∨ t = 10
  · have hs : simpleB t = true := by unfold simpleB; simpa using h
    rw [hs]
    rcases h with rfl | rfl | rfl | rfl | rfl | rfl | rfl
    all_goals
      go_enter Tryd.func13, Tryd.ntmps13
      go_wp2
      go_ret
      exact ⟨rfl, rfl⟩
  · have hs : simpleB t = false := by unfold simpleB; simpa using h
    rw [hs]
    have n1 : (t == 1) = false := by simp; omega
    have n2 : (t == 2) = false := by simp; omega
    have n3 : (t == 3) = false := by simp; omega
    have n4 : (t == 4) = false := by simp; omega
    have n5 : (t == 5) = false := by simp; omega
    have n6 : (t == 6) = false := by simp; omega
    have n10 : (t == 10) = false := by simp; omega
    clear h hs
    go_enter Tryd.func13, Tryd.ntmps13
    go_wp2
    go_ret
    exact ⟨rfl, rfl⟩

/-- How a simple term is written. -/
def tmText (t : Int) (s : ByteArray) : List UInt8 :=
  if t = 1 then [46] else if t = 2 then [46, 46] else if t = 3 then [110, 117, 108, 108] else if t = 4 then [116, 114, 117, 101] else if t = 5 then [102, 97, 108, 115, 101] else if t = 6 then [46] ++ s.data.toList else s.data.toList
theorem tmText_len (t : Int) (s : ByteArray) : (tmText t s).length ≤ s.size + 5 := by
  have : s.data.toList.length = s.size := rfl
  unfold tmText; repeat' split
  all_goals simp
  all_goals omega

/-- What mkTerm leaves. -/
def MkT (w : World) (T : List UInt8) (e : Ending) (w' : World) : Prop := ∃ t, e = .returned (.pointer (some ⟨t, 0, none⟩)) ∧ w.heap.size ≤ t ∧ Prints 28 t Safe T w' ∧ Below w.heap.size w w'
theorem Prints.safe {f : FuncId} {p : Nat} {T : List UInt8} {w : World} (h : Prints f p Any T w) : Prints f p Safe T w := fun B b pre w' hp hb hB hB2 hT _ hlen => h B b pre w' hp hb hB hB2 hT trivial hlen

set_option maxRecDepth 100000 in
set_option maxHeartbeats 1000000 in
theorem mk_any (t : Int) (s : ByteArray) (w : World) (ht : simpleB t = true) (h6 : t = 6 → s.size ≠ 0) :
    Calls Tryd.prog 14 #[.int .i64 t, .string s] w (MkT w (tmText t s)) := by
  have h : t = 1 ∨ t = 2 ∨ t = 3 ∨ t = 4 ∨ t = 5 ∨ t = 6 ∨ t = 10 := by unfold simpleB at ht; simpa using ht
  clear ht
  rcases h with rfl | rfl | rfl | rfl | rfl | rfl | rfl
  all_goals
    go_enter Tryd.func14, Tryd.ntmps14
    go_wp2_with fail
    go_ret
  · exact ⟨_, rfl, Nat.le_refl _, (prints_term_Identity (Nd.new _ _ _)).safe, (Below.refl _ _).alloc (Nat.le_refl _) _⟩
  · exact ⟨_, rfl, Nat.le_refl _, (prints_term_Recurse (Nd.new _ _ _)).safe, (Below.refl _ _).alloc (Nat.le_refl _) _⟩
  · exact ⟨_, rfl, Nat.le_refl _, (prints_term_Null (Nd.new _ _ _)).safe, (Below.refl _ _).alloc (Nat.le_refl _) _⟩
  · exact ⟨_, rfl, Nat.le_refl _, (prints_term_True (Nd.new _ _ _)).safe, (Below.refl _ _).alloc (Nat.le_refl _) _⟩
  · exact ⟨_, rfl, Nat.le_refl _, (prints_term_False (Nd.new _ _ _)).safe, (Below.refl _ _).alloc (Nat.le_refl _) _⟩
  · exact ⟨_, rfl, Nat.le_refl _, prints_term_Index ((Nd.new _ _ _).alloc _) (prints_index (suffix_name (Nd.newAt _ _ (by simp)) (h6 trivial))), ((Below.refl _ _).alloc (Nat.le_refl _) _).alloc (by simp) _⟩
  · exact ⟨_, rfl, Nat.le_refl _, (prints_term_Number (Nd.new _ _ _)).safe, (Below.refl _ _).alloc (Nat.le_refl _) _⟩

theorem empty_iff {s : ByteArray} (h : s.size = 0) : s.toList.isEmpty = true := by
  rw [ByteArray.toList_eq]
  cases e : s.data.toList with
  | nil => rfl
  | cons a l => exact absurd h (by show ¬ s.data.size = 0; rw [← Array.length_toList, e]; simp)

theorem str_cat (a b : List UInt8) : (⟨a.toArray⟩ : ByteArray) ++ ⟨b.toArray⟩ = ⟨(a ++ b).toArray⟩ := by
  apply ByteArray.ext
  rw [ByteArray.data_append]
  simp

set_option maxHeartbeats 1000000 in
theorem lawN_good (o i t : Int) (s : ByteArray) (w : World) (hs : s.size ≤ 1048576) (hT : Lib.Utf8Tabs 0 1 w) (o1 : 1 ≤ o) (o2 : o ≤ 24) (i1 : 1 ≤ i) (i2 : i ≤ 24) (ht : simpleB t = true) (h6 : t = 6 → s.size ≠ 0) (h6b : ((t == 6) = false) ∨ ((t == 6) = true ∧ s.toList.isEmpty = false)) :
    Calls Tryd.prog 4 #[.int .i64 o, .int .i64 i, .int .i64 t, .string s] w fun e w' => e = .returned (.bool true) ∧ Below w.heap.size w w' := by
  have hf : fitB s.size = true := by unfold fitB; simpa using hs
  have hsl : s.size ≤ maxLen := by unfold maxLen; omega
  have d1 : decide (o < 1) = false := by simp; omega
  have d2 : decide (24 < o) = false := by simp; omega
  have d3 : decide (i < 1) = false := by simp; omega
  have d4 : decide (24 < i) = false := by simp; omega
  have d5 : decide ((1048576 : Int) < s.size) = false := by simp; omega
  have hTm := tmText_len t s
  have hsi := spell_safe i1 i2
  have hso := spell_safe o1 o2
  have HT := Lib.hid hT
  have H6 := Lib.hid h6
  have HI := Lib.hid (And.intro i1 i2)
  have HO := Lib.hid (And.intro o1 o2)
  have HSI := Lib.hid hsi
  have HSO := Lib.hid hso
  clear hT h6 i1 i2 o1 o2 hsi hso
  rcases h6b with h6b | ⟨h6b, h6c⟩
  all_goals
    go_enter Tryd.func4, Tryd.ntmps4
    go_wp2_with (first | (go_at_call 12; refine (bytesN_any _ _ _ _ _ hsl).mono ?_; rintro e w' ⟨rfl, rfl⟩) | (go_at_call 13; refine (simple_any _ _).mono ?_; rintro e w' ⟨rfl, rfl⟩))
    refine (mk_any t s _ ht H6.out).mono ?_
    rintro e w1 ⟨t1, rfl, ht1, hp1, hb1⟩
    have HP1 := Lib.hid hp1
    clear hp1
    go_wp2_with fail
    obtain ⟨W, hW⟩ : ∃ W, W = ((w1.alloc (.cells #[.int .i64 i, .pointer (some ⟨t1, 0, none⟩)] 41)).alloc (.cells #[.int .i64 11, .pointer none, .pointer none, .pointer none, .pointer none, .string ⟨#[]⟩, .pointer (some ⟨w1.heap.size, 0, none⟩), .string ⟨#[]⟩, .pointer none, .pointer none, .pointer none, .pointer none, .pointer none, .pointer none, .string ⟨#[]⟩, .pointer none, .slice none 0 0] 56)).alloc (.cells #[.int .i64 o, .pointer (some ⟨w1.heap.size + 1, 0, none⟩)] 41) := ⟨_, rfl⟩
    rw [← hW]
    have hNu : Nd w1.heap.size 41 #[.int .i64 i, .pointer (some ⟨t1, 0, none⟩)] W := by rw [hW]; exact ((Nd.new _ _ _).alloc _).alloc _
    have hNt : Nd (w1.heap.size + 1) 56 #[.int .i64 11, .pointer none, .pointer none, .pointer none, .pointer none, .string ⟨#[]⟩, .pointer (some ⟨w1.heap.size, 0, none⟩), .string ⟨#[]⟩, .pointer none, .pointer none, .pointer none, .pointer none, .pointer none, .pointer none, .string ⟨#[]⟩, .pointer none, .slice none 0 0] W := by rw [hW]; exact (Nd.newAt _ _ (by simp)).alloc _
    have hNv : Nd (w1.heap.size + 1 + 1) 41 #[.int .i64 o, .pointer (some ⟨w1.heap.size + 1, 0, none⟩)] W := by rw [hW]; exact Nd.newAt _ _ (by simp)
    have hbW : Below w1.heap.size w1 W := by rw [hW]; exact (((Below.refl _ _).alloc (Nat.le_refl _) _).alloc (by simp) _).alloc (by simp; omega) _
    clear hW
    have hbw : Below w.heap.size w W := hb1.trans (hbW.mono hb1.size)
    have hTW := tabs_below HT.out hbw (by have := tabs_size HT.out; omega) (by have := tabs_size HT.out; omega)
    have PU := prints_unary hNu HI.out.1 HI.out.2 (fun pre => Safe.behind HSI.out.1 HSI.out.2.1 pre) (HP1.out.pres (Pres.below hbW (Nat.le_refl _)))
    have PV := prints_unary hNv HO.out.1 HO.out.2 (fun _ => trivial) (prints_term_Unary hNt PU)
    have HPV := Lib.hid PV
    have HC := Lib.hid (str_Unary PU trivial hTW (by have := HSI.out.2.2; rw [List.length_append]; omega))
    have HTW := Lib.hid hTW
    clear PU PV hNu hNt hNv hTW HP1
    refine HC.out.mono ?_
    rintro e w2 ⟨rfl, hb2⟩
    have HC2 := Lib.hid (str_Unary (HPV.out.pres (Pres.below hb2 (Nat.le_refl _))) trivial (tabs_below HTW.out hb2 (by have := tabs_size HTW.out; omega) (by have := tabs_size HTW.out; omega)) (by have := HSI.out.2.2; have := HSO.out.2.2; rw [List.length_append, List.length_append]; omega))
    clear HC HPV
    go_wp2_with fail
    refine HC2.out.mono ?_
    rintro e w3 ⟨rfl, hb3⟩
    go_wp2_with fail
    refine (opSpell_any o HO.out.1 HO.out.2 _).mono ?_
    rintro e w' ⟨rfl, rfl⟩
    have hz : (⟨(spell o).toArray⟩ : ByteArray).size + (⟨(spell i ++ tmText t s).toArray⟩ : ByteArray).size ≤ 9223372036854775807 := by
      have h1 := HSI.out.2.2
      have h2 := HSO.out.2.2
      simp only [ByteArray.size, List.size_toArray, List.length_append]; omega
    clear HC2
    go_wp2_with fail
    go_ret
    exact ⟨ret_bool (by rw [str_cat, ByteArray.toList_eq]; simp), hbw.trans ((hb2.mono hbw.size).trans (hb3.mono (Nat.le_trans hbw.size hb2.size)))⟩

set_option maxHeartbeats 1000000 in
theorem lawN (o i t : Int) (s : ByteArray) (w : World) (hsl : s.size ≤ maxLen) (hT : Lib.Utf8Tabs 0 1 w) :
    Calls Tryd.prog 4 #[.int .i64 o, .int .i64 i, .int .i64 t, .string s] w fun e w' => e = .returned (.bool true) ∧ Below w.heap.size w w' := by
  have hsm := hsl
  unfold maxLen at hsm
  by_cases hs : s.size ≤ 1048576
  · by_cases hr : (1 ≤ o ∧ o ≤ 24) ∧ 1 ≤ i ∧ i ≤ 24
    · by_cases ht : simpleB t = true
      · by_cases h6 : t = 6 ∧ s.size = 0
        · obtain ⟨rfl, h0⟩ := h6
          have he := empty_iff h0
          have hf : fitB s.size = true := by unfold fitB; simpa using hs
          obtain ⟨⟨o1, o2⟩, i1, i2⟩ := hr
          have d1 : decide (o < 1) = false := by simp; omega
          have d2 : decide (24 < o) = false := by simp; omega
          have d3 : decide (i < 1) = false := by simp; omega
          have d4 : decide (24 < i) = false := by simp; omega
          have d5 : decide ((1048576 : Int) < s.size) = false := by simp; omega
          clear hT h0 hs
          go_enter Tryd.func4, Tryd.ntmps4
          go_wp2_with (first | (go_at_call 12; refine (bytesN_any _ _ _ _ _ hsl).mono ?_; rintro e w' ⟨rfl, rfl⟩) | (go_at_call 13; refine (simple_any _ _).mono ?_; rintro e w' ⟨rfl, rfl⟩))
          go_ret
          exact ⟨rfl, Below.refl _ _⟩
        · refine lawN_good o i t s w hs hT hr.1.1 hr.1.2 hr.2.1 hr.2.2 ht (fun e h => h6 ⟨e, h⟩) ?_
          by_cases e : t = 6
          · exact .inr ⟨by simpa using e, ne_empty (fun h => h6 ⟨e, h⟩)⟩
          · exact .inl (by simpa using e)
      · have hf : fitB s.size = true := by unfold fitB; simpa using hs
        have ht' : simpleB t = false := by simpa using ht
        obtain ⟨⟨o1, o2⟩, i1, i2⟩ := hr
        have d1 : decide (o < 1) = false := by simp; omega
        have d2 : decide (24 < o) = false := by simp; omega
        have d3 : decide (i < 1) = false := by simp; omega
        have d4 : decide (24 < i) = false := by simp; omega
        have d5 : decide ((1048576 : Int) < s.size) = false := by simp; omega
        clear hT hs ht
        go_enter Tryd.func4, Tryd.ntmps4
        go_wp2_with (first | (go_at_call 12; refine (bytesN_any _ _ _ _ _ hsl).mono ?_; rintro e w' ⟨rfl, rfl⟩) | (go_at_call 13; refine (simple_any _ _).mono ?_; rintro e w' ⟨rfl, rfl⟩))
        go_ret
        exact ⟨rfl, Below.refl _ _⟩
    · have hf : fitB s.size = true := by unfold fitB; simpa using hs
      have d5 : decide ((1048576 : Int) < s.size) = false := by simp; omega
      have hor : (decide (o < 1) || decide (24 < o) || decide (i < 1) || decide (24 < i)) = true := by simp; omega
      rcases (by omega : o < 1 ∨ (1 ≤ o ∧ 24 < o) ∨ (1 ≤ o ∧ o ≤ 24 ∧ i < 1) ∨ (1 ≤ o ∧ o ≤ 24 ∧ 1 ≤ i ∧ 24 < i)) with h | ⟨h, h1⟩ | ⟨h, h1, h2⟩ | ⟨h, h1, h2, h3⟩
      all_goals
        clear hr hT hs hor
        go_enter Tryd.func4, Tryd.ntmps4
        go_wp2_with (first | (go_at_call 12; refine (bytesN_any _ _ _ _ _ hsl).mono ?_; rintro e w' ⟨rfl, rfl⟩) | (go_at_call 13; refine (simple_any _ _).mono ?_; rintro e w' ⟨rfl, rfl⟩))
        go_ret
        exact ⟨rfl, Below.refl _ _⟩
  · have hf : fitB s.size = false := by unfold fitB; simpa using hs
    clear hT hs
    go_enter Tryd.func4, Tryd.ntmps4
    go_wp2_with (first | (go_at_call 12; refine (bytesN_any _ _ _ _ _ hsl).mono ?_; rintro e w' ⟨rfl, rfl⟩) | (go_at_call 13; refine (simple_any _ _).mono ?_; rintro e w' ⟨rfl, rfl⟩))
    go_ret
    exact ⟨rfl, Below.refl _ _⟩
end Go.Proofs.YtkabnbopakfknaaDoor
