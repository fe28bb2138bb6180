/- What rtrim, ltrim and trim answer; the law's helpers on runs of white space. Conditions: the library's tables as laid; a bound on the length. -/
import Derived.Test.YtnnjoehhjmomaaaDoorSpc31
import Derived.Test.YtnnjoehhjmomaaaDoorTabs31
import Derived.Stop.Asserts
namespace Go.Proofs.YtnnjoehhjmomaaaDoor
open Go.RowKit Go.Lib
set_option linter.unusedVariables false

def strOf (l : List UInt8) : ByteArray := ⟨l.toArray⟩
theorem strOf_data (l : List UInt8) : (strOf l).data.toList = l := rfl
theorem strOf_size (l : List UInt8) : (strOf l).size = l.length := by show l.toArray.size = _; simp
theorem strOf_self (s : ByteArray) : strOf s.data.toList = s := by cases s; rfl
theorem strOf_eq {s : ByteArray} {l : List UInt8} (h : s.data.toList = l) : s = strOf l := by rw [← h, strOf_self]
def rtS (s : ByteArray) : ByteArray := strOf (RT s.data.toList)
def ltS (s : ByteArray) : ByteArray := strOf (LT s.data.toList)
def trS (s : ByteArray) : ByteArray := strOf (RT (LT s.data.toList))
theorem rtS_le (s : ByteArray) : (rtS s).size ≤ s.size := by unfold rtS; rw [strOf_size]; exact RT_le _
theorem ltS_le (s : ByteArray) : (ltS s).size ≤ s.size := by unfold ltS; rw [strOf_size]; exact LT_le _
theorem trS_le (s : ByteArray) : (trS s).size ≤ s.size := by unfold trS; rw [strOf_size]; exact Nat.le_trans (RT_le _) (LT_le _)

theorem right_any (s : ByteArray) (w : World) (hs : s.size ≤ 100000000) (hT : UT w) (hW : WT w) :
    Calls Tryd.prog 24 #[.string s, .func (.func 25) #[] #[]] w fun e w' => e = .returned (.string (rtS s)) ∧ Below w.heap.size w w' := by
  have h := Any.strings_TrimRightFunc_space (P := Tryd.prog) (ρ := Tryd.lays163_ren) { Tryd.lays163 with } { Tryd.lays163 with } s w (by omega) hT hW
  rw [strOf_eq ((goTrimRight_eq s).trans (RT_D _))] at h
  exact h
theorem left_any (s : ByteArray) (w : World) (hs : s.size ≤ 100000000) (hW : WT w) :
    Calls Tryd.prog 27 #[.string s, .func (.func 25) #[] #[]] w fun e w' => e = .returned (.string (ltS s)) ∧ Below w.heap.size w w' := by
  have h := Any.strings_TrimLeftFunc_space (P := Tryd.prog) (ρ := Tryd.lays163_ren) { Tryd.lays163 with } { Tryd.lays163 with } s w hW
  rw [strOf_eq ((goTrimLeft_eq s).trans (LT_D _))] at h
  exact h
theorem space_any (s : ByteArray) (w : World) (hs : s.size ≤ 100000000) (hT : UT w) (hW : WT w) (hA : AT w) :
    Calls Tryd.prog 26 #[.string s] w fun e w' => e = .returned (.string (trS s)) ∧ Below w.heap.size w w' := by
  have h := Tryd.strings_TrimSpace_any s w (by omega) hA hT hW
  rw [TR_D] at h
  exact h
theorem ta_str (s : ByteArray) (W : World) : Sem.run Tryd.prog (Instr.typeAssert (Value.iface 9 (.string s)) 20 9 true) W = .ok (.tuple #[.string s, .bool true]) W := by kernel_rfl
set_option maxRecDepth 100000 in
theorem zrt (s : ByteArray) (w : World) (hs : s.size ≤ 100000000) (hT : UT w) (hW : WT w) :
    Calls Tryd.prog 9 #[.string s] w fun e w' => e = .returned (.tuple #[.string (rtS s), .bool true]) ∧ Below w.heap.size w w' := by
  have cM : Hid (Calls Tryd.prog 20 #[.iface 9 (.string s)] w fun e w' => e = .returned (.iface 9 (.string (rtS s))) ∧ Below w.heap.size w w') := Lib.hid (by
    have cM := Lib.hid (right_any s w hs hT hW)
    generalize rtS s = OUT at cM ⊢
    have h1 := ta_str
    clear hT hW
    go_enter Tryd.func20, Tryd.ntmps20
    go_wp2_with fail
    refine cM.out.mono ?_
    rintro e w' ⟨rfl, hb⟩
    go_wp2_with fail
    go_ret
    exact ⟨rfl, hb⟩)
  generalize rtS s = OUT at cM ⊢
  have h1 := ta_str
  clear hT hW
  go_enter Tryd.func9, Tryd.ntmps9
  go_wp2_with fail
  refine cM.out.mono ?_
  rintro e w' ⟨rfl, hb⟩
  go_wp2_with fail
  go_ret2
  exact ⟨rfl, hb⟩
set_option maxRecDepth 100000 in
theorem zlt (s : ByteArray) (w : World) (hs : s.size ≤ 100000000) (hW : WT w) :
    Calls Tryd.prog 16 #[.string s] w fun e w' => e = .returned (.tuple #[.string (ltS s), .bool true]) ∧ Below w.heap.size w w' := by
  have cM : Hid (Calls Tryd.prog 23 #[.iface 9 (.string s)] w fun e w' => e = .returned (.iface 9 (.string (ltS s))) ∧ Below w.heap.size w w') := Lib.hid (by
    have cM := Lib.hid (left_any s w hs hW)
    generalize ltS s = OUT at cM ⊢
    have h1 := ta_str
    clear hW
    go_enter Tryd.func23, Tryd.ntmps23
    go_wp2_with fail
    refine cM.out.mono ?_
    rintro e w' ⟨rfl, hb⟩
    go_wp2_with fail
    go_ret
    exact ⟨rfl, hb⟩)
  generalize ltS s = OUT at cM ⊢
  have h1 := ta_str
  clear hW
  go_enter Tryd.func16, Tryd.ntmps16
  go_wp2_with fail
  refine cM.out.mono ?_
  rintro e w' ⟨rfl, hb⟩
  go_wp2_with fail
  go_ret2
  exact ⟨rfl, hb⟩
set_option maxRecDepth 100000 in
theorem ztr (s : ByteArray) (w : World) (hs : s.size ≤ 100000000) (hT : UT w) (hW : WT w) (hA : AT w) :
    Calls Tryd.prog 15 #[.string s] w fun e w' => e = .returned (.tuple #[.string (trS s), .bool true]) ∧ Below w.heap.size w w' := by
  have cM : Hid (Calls Tryd.prog 22 #[.iface 9 (.string s)] w fun e w' => e = .returned (.iface 9 (.string (trS s))) ∧ Below w.heap.size w w') := Lib.hid (by
    have cM := Lib.hid (space_any s w hs hT hW hA)
    generalize trS s = OUT at cM ⊢
    have h1 := ta_str
    clear hT hW hA
    go_enter Tryd.func22, Tryd.ntmps22
    go_wp2_with fail
    refine cM.out.mono ?_
    rintro e w' ⟨rfl, hb⟩
    go_wp2_with fail
    go_ret
    exact ⟨rfl, hb⟩)
  generalize trS s = OUT at cM ⊢
  have h1 := ta_str
  clear hT hW hA
  go_enter Tryd.func15, Tryd.ntmps15
  go_wp2_with fail
  refine cM.out.mono ?_
  rintro e w' ⟨rfl, hb⟩
  go_wp2_with fail
  go_ret2
  exact ⟨rfl, hb⟩

/-! the helpers -/
theorem sp_step {l : List UInt8} (h : Sp l) (hne : l ≠ []) : headSpace l ≠ 0 ∧ Sp (l.drop (headSpace l)) := by
  obtain ⟨qs, hqs, rfl⟩ := h
  induction qs with
  | nil => exact absurd rfl hne
  | cons q qs ih =>
    have hq := hqs q (by simp)
    have hl := seq_len q hq
    rw [List.flatten_cons] at hne ⊢
    rw [head_of hq (List.prefix_append q _)]
    exact ⟨by omega, by rw [List.drop_left]; exact ⟨qs, fun r hr => hqs r (by simp [hr]), rfl⟩⟩
theorem drop_ne (s : ByteArray) (p : Nat) (h : p < s.size) : s.data.toList.drop p ≠ [] := by
  intro h0
  have h2 : s.size ≤ p := by simpa using List.drop_eq_nil_iff.1 h0
  omega
set_option maxRecDepth 100000 in
theorem allSp (s : ByteArray) (w : World) (hs : s.size ≤ 100000000) (h : Sp s.data.toList) :
    Calls Tryd.prog 12 #[.string s] w fun e w' => e = .returned (.bool true) ∧ w = w' := by
  have H0 := Lib.hid h
  clear h
  go_enter Tryd.func12, Tryd.ntmps12
  go_wp2_with fail
  go_loop [3] (fun i => ∃ p : Nat, p ≤ s.size ∧ i = .int .i64 p ∧ Hid (Sp (s.data.toList.drop p))) (fun i => s.size - (RowKit.intOf i).toNat)
  case atStart => exact ⟨0, Nat.zero_le _, rfl, Lib.hid H0.out⟩
  case round =>
    obtain ⟨p, hp, rfl, hV⟩ := hrel
    by_cases hlt : p < s.size
    · obtain ⟨hn0, hS⟩ := sp_step hV.out (drop_ne s p hlt)
      have hle := hs_le s p hp
      have HC := Lib.hid (spl_any s p w hs hp)
      change HS s p ≠ 0 at hn0
      rw [List.drop_drop] at hS
      change Sp (s.data.toList.drop (p + HS s p)) at hS
      obtain ⟨n, hn⟩ : ∃ n, HS s p = n := ⟨_, rfl⟩
      rw [hn] at HC hn0 hS hle
      have HS2 := Lib.hid hS
      have hn1 : ((n : Int) == 0) = false := by simp; omega
      clear hn hV hS
      go_wp2_with fail
      refine HC.out.mono ?_
      rintro e w' ⟨rfl, rfl⟩
      go_wp2_with fail
      go_round
      case rel => exact ⟨p + n, by omega, by go_num, HS2⟩
      case measure => simp [RowKit.intOf]; omega
    · obtain rfl : p = s.size := by omega
      clear hV
      go_wp2_with fail
      go_ret
      exact ⟨rfl, rfl⟩
theorem ends_none (s : ByteArray) (h : tailSpace s.data.toList = 0) (k : Nat) (hk : 1 ≤ k) (hle : k ≤ s.size) : HS s (s.size - k) ≠ k := by
  intro hh
  have hne : headSpace (s.data.toList.drop (s.size - k)) ≠ 0 := by change HS s (s.size - k) ≠ 0; omega
  obtain ⟨q, hq, hp, e⟩ := head_some hne
  change HS s (s.size - k) = q.length at e
  have hl := len_at s (s.size - k)
  have : q = s.data.toList.drop (s.size - k) := hp.eq_of_length (by omega)
  exact tail_none h hq (this ▸ List.drop_suffix _ _)
set_option maxRecDepth 100000 in
theorem endsNo (s : ByteArray) (w : World) (hs : s.size ≤ 100000000) (h : tailSpace s.data.toList = 0) :
    Calls Tryd.prog 13 #[.string s] w fun e w' => e = .returned (.bool false) ∧ w = w' := by
  have H0 := Lib.hid h
  clear h
  go_enter Tryd.func13, Tryd.ntmps13
  go_wp2_with fail
  go_loop [3] (fun i => ∃ k : Nat, 1 ≤ k ∧ k ≤ 4 ∧ i = .int .i64 k) (fun i => 4 - (RowKit.intOf i).toNat)
  case atStart => exact ⟨1, by omega, by omega, rfl⟩
  case round =>
    obtain ⟨k, hk1, hk4, rfl⟩ := hrel
    by_cases hlt : k ≤ 3
    · by_cases hle : k ≤ s.size
      · have hne := ends_none s H0.out k hk1 hle
        have HC := Lib.hid (spl_any s (s.size - k) w hs (by omega))
        have hcast : ((s.size - k : Nat) : Int) = (s.size : Int) - (k : Int) := by omega
        rw [hcast] at HC
        obtain ⟨n, hn⟩ : ∃ n, HS s (s.size - k) = n := ⟨_, rfl⟩
        rw [hn] at HC hne
        have hne2 : ((n : Int) == (k : Int)) = false := by simp; omega
        clear hn hne hcast
        go_wp2_with fail
        refine HC.out.mono ?_
        rintro e w' ⟨rfl, rfl⟩
        go_wp2_with fail
        go_round
        case rel => exact ⟨k + 1, by omega, by omega, by go_num⟩
        case measure => simp [RowKit.intOf]; omega
      · go_wp2_with fail
        go_round
        case rel => exact ⟨k + 1, by omega, by omega, by go_num⟩
        case measure => simp [RowKit.intOf]; omega
    · go_wp2_with fail
      go_ret
      exact ⟨rfl, rfl⟩
theorem startsNo (s : ByteArray) (w : World) (hs : s.size ≤ 100000000) (h : headSpace s.data.toList = 0) :
    Calls Tryd.prog 19 #[.string s] w fun e w' => e = .returned (.bool false) ∧ w = w' := by
  have HC := Lib.hid (spl_any s 0 w hs (Nat.zero_le _))
  have e : HS s 0 = 0 := h
  rw [e] at HC
  clear e h
  go_enter Tryd.func19, Tryd.ntmps19
  go_wp2_with fail
  refine HC.out.mono ?_
  rintro e w' ⟨rfl, rfl⟩
  go_wp2_with fail
  go_ret
  exact ⟨rfl, rfl⟩
theorem zb_FnRtrimSpec (s : ByteArray) (w : World) (hm : s.size ≤ maxLen) :
    Calls Tryd.prog 11 #[.string s] w fun e w' => e = .returned (.bool (decide (s.size ≤ 1048576))) ∧ w = w' := by
  unfold maxLen at hm
  obtain ⟨b, hb⟩ : ∃ b, decide (s.size ≤ 1048576) = b := ⟨_, rfl⟩
  rw [hb]
  have HB := Lib.hid hb
  clear hb
  go_enter Tryd.func11, Tryd.ntmps11
  go_wp2_with fail
  all_goals (go_ret; exact ⟨ret_bool (by rw [← HB.out]; simp; omega), rfl⟩)
theorem zb_FnTrimSpec (s : ByteArray) (w : World) (hm : s.size ≤ maxLen) :
    Calls Tryd.prog 17 #[.string s] w fun e w' => e = .returned (.bool (decide (s.size ≤ 1048576))) ∧ w = w' := by
  unfold maxLen at hm
  obtain ⟨b, hb⟩ : ∃ b, decide (s.size ≤ 1048576) = b := ⟨_, rfl⟩
  rw [hb]
  have HB := Lib.hid hb
  clear hb
  go_enter Tryd.func17, Tryd.ntmps17
  go_wp2_with fail
  all_goals (go_ret; exact ⟨ret_bool (by rw [← HB.out]; simp; omega), rfl⟩)
end Go.Proofs.YtnnjoehhjmomaaaDoor
