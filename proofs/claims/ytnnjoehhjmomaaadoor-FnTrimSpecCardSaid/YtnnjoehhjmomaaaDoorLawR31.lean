/- The laws FnRtrimSpec and FnTrimSpec. -/
import Derived.Test.YtnnjoehhjmomaaaDoorFns31
namespace Go.Proofs.YtnnjoehhjmomaaaDoor
open Go.RowKit Go.Lib
set_option linter.unusedVariables false

theorem str_ext {a b : ByteArray} (h : a.data.toList = b.data.toList) : a = b := by
  cases a; cases b; congr; exact Array.ext' h
theorem ext_at (s : ByteArray) (a b : Nat) : (s.extract a b).data.toList = (s.data.toList.drop a).take (b - a) := Lib.extract_data s a b
theorem len_of (s : ByteArray) : s.data.toList.length = s.size := by simp
/-- The pieces of a text around a middle. -/
theorem cut_mid {s r : ByteArray} {x z : List UInt8} (h : s.data.toList = x ++ (r.data.toList ++ z)) : s.extract x.length (x.length + r.size) = r := by
  apply str_ext
  rw [ext_at, h, List.drop_left, Nat.add_sub_cancel_left, ← len_of r, List.take_left]
theorem cut_end {s r : ByteArray} {x z : List UInt8} (h : s.data.toList = x ++ (r.data.toList ++ z)) : (s.extract (x.length + r.size) s.size).data.toList = z := by
  rw [ext_at, ← List.drop_drop, h, List.drop_left, ← len_of r, List.drop_left, ← len_of s, h]
  apply List.take_of_length_le
  simp; omega
set_option maxRecDepth 100000 in
theorem lawRtrim (s : ByteArray) (w : World) (hm : s.size ≤ maxLen) (hT : UT w) (hW : WT w) :
    Calls Tryd.prog 4 #[.string s] w fun e w' => e = .returned (.bool true) ∧ Below w.heap.size w w' := by
  have HBy := Lib.hid (zb_FnRtrimSpec s w hm)
  by_cases hs : s.size ≤ 1048576
  · have hd : decide (s.size ≤ 1048576) = true := by simp; omega
    rw [hd] at HBy
    have HC1 := Lib.hid (zrt s w (by omega) hT hW)
    obtain ⟨z, hz, h1, h2⟩ := RT_spec _ s.data.toList (Nat.le_refl _)
    have hle := rtS_le s
    have hD : s.data.toList = [] ++ ((rtS s).data.toList ++ z) := h1
    have hx := cut_mid hD
    have hy := cut_end hD
    simp only [List.length_nil, Nat.zero_add] at hx hy
    have HA := Lib.hid (fun w1 => allSp (s.extract (rtS s).size s.size) w1 (by rw [ByteArray.size_extract]; omega) (by rw [hy]; exact hz))
    have HE := Lib.hid (fun w1 => endsNo (rtS s) w1 (by omega) h2)
    obtain ⟨R, hR⟩ : ∃ R, rtS s = R := ⟨_, rfl⟩
    rw [hR] at HC1 hle hx HA HE
    have HX := Lib.hid hx
    have HR := Lib.hid hR
    clear hT hW hd hz h1 h2 hD hx hy hR
    go_enter Tryd.func4, Tryd.ntmps4
    go_wp2_with fail
    refine HBy.out.mono ?_
    rintro e w' ⟨rfl, rfl⟩
    go_wp2_with fail
    refine HC1.out.mono ?_
    rintro e w1 ⟨rfl, hb1⟩
    have hx := HX.out
    go_wp2_with fail
    refine (HA.out w1).mono ?_
    rintro e w' ⟨rfl, rfl⟩
    go_wp2_with fail
    refine (HE.out w1).mono ?_
    rintro e w' ⟨rfl, rfl⟩
    go_wp2_with fail
    go_ret
    exact ⟨rfl, hb1⟩
  · obtain ⟨b, hb⟩ : ∃ b, decide (s.size ≤ 1048576) = b := ⟨_, rfl⟩
    rw [hb] at HBy
    clear hb hT hW
    unfold maxLen at hm
    cases b with
    | false =>
      go_enter Tryd.func4, Tryd.ntmps4
      go_wp2_with fail
      refine HBy.out.mono ?_
      rintro e w' ⟨rfl, rfl⟩
      go_wp2_with fail
      go_ret
      exact ⟨rfl, Below.refl _ _⟩
    | true =>
      go_enter Tryd.func4, Tryd.ntmps4
      go_wp2_with fail
      refine HBy.out.mono ?_
      rintro e w' ⟨rfl, rfl⟩
      go_wp2_with fail
      go_ret
      exact ⟨rfl, Below.refl _ _⟩
/-- While the leading run is read off. -/
def LRel (s : ByteArray) (x : Nat) (vi : Value) : Prop := ∃ p : Nat, p ≤ x ∧ vi = .int .i64 p ∧ Hid (∃ z, Sp z ∧ s.data.toList.drop p = z ++ s.data.toList.drop x)
set_option maxRecDepth 100000 in
theorem lawTrim (s : ByteArray) (w : World) (hm : s.size ≤ maxLen) (hT : UT w) (hW : WT w) (hA : AT w) :
    Calls Tryd.prog 6 #[.string s] w fun e w' => e = .returned (.bool true) ∧ Below w.heap.size w w' := by
  have HBy := Lib.hid (zb_FnTrimSpec s w hm)
  by_cases hs : s.size ≤ 1048576
  · have hd : decide (s.size ≤ 1048576) = true := by simp; omega
    rw [hd] at HBy
    have HC1 := Lib.hid (ztr s w (by omega) hT hW hA)
    obtain ⟨x, hx, h1, hh⟩ := LT_spec _ s.data.toList (Nat.le_refl _)
    obtain ⟨z, hz, h2, ht, hhr⟩ := TR_spec s.data.toList
    have hle := trS_le s
    have hD : s.data.toList = x ++ ((trS s).data.toList ++ z) := by
      show _ = x ++ (RT (LT s.data.toList) ++ z)
      rw [← h2]; exact h1
    have hxl : x.length + (trS s).size ≤ s.size := by
      have := congrArg List.length hD
      rw [len_of, List.length_append, List.length_append, len_of] at this
      omega
    have hdx : s.data.toList.drop x.length = LT s.data.toList := by conv => lhs; rw [h1, List.drop_left]
    have HH0 : Hid (HS s x.length = 0) := Lib.hid (by unfold HS; rw [hdx]; exact hh)
    have HL0 : Hid (∃ y, Sp y ∧ s.data.toList.drop 0 = y ++ s.data.toList.drop x.length) := Lib.hid ⟨x, hx, by rw [hdx, List.drop_zero]; exact h1⟩
    have hx1 := cut_mid hD
    have hy := cut_end hD
    have HA := Lib.hid (fun w1 => allSp (s.extract (x.length + (trS s).size) s.size) w1 (by rw [ByteArray.size_extract]; omega) (by rw [hy]; exact hz))
    have HE := Lib.hid (fun w1 => endsNo (trS s) w1 (by omega) ht)
    have HST := Lib.hid (fun w1 => startsNo (trS s) w1 (by omega) hhr)
    obtain ⟨R, hR⟩ : ∃ R, trS s = R := ⟨_, rfl⟩
    rw [hR] at HC1 hle hx1 HA HE HST hxl
    obtain ⟨X, hX⟩ : ∃ X, x.length = X := ⟨_, rfl⟩
    rw [hX] at hx1 HA hxl HH0 HL0
    have HX := Lib.hid hx1
    clear hT hW hA hd hz h1 h2 hD hx1 hy hR hX hx hh ht hhr hdx
    go_enter Tryd.func6, Tryd.ntmps6
    go_wp2_with fail
    refine HBy.out.mono ?_
    rintro e w' ⟨rfl, rfl⟩
    go_wp2_with fail
    refine HC1.out.mono ?_
    rintro e w1 ⟨rfl, hb1⟩
    go_wp2_with fail
    go_loop [5] (LRel s X) (fun i => s.size - (RowKit.intOf i).toNat)
    case atStart => exact ⟨0, Nat.zero_le _, rfl, HL0⟩
    case round =>
      obtain ⟨p, hp, rfl, hV⟩ := hrel
      by_cases hlt : p < X
      · have hps : p < s.size := by omega
        have HC := Lib.hid (spl_any s p w1 (by omega) (by omega))
        obtain ⟨hn0, hpx, hS⟩ : HS s p ≠ 0 ∧ p + HS s p ≤ X ∧ ∃ z, Sp z ∧ s.data.toList.drop (p + HS s p) = z ++ s.data.toList.drop X := by
          obtain ⟨y, hy, e⟩ := hV.out
          have hyl : y.length = X - p := by
            have := congrArg List.length e
            rw [List.length_append, len_at, len_at] at this
            omega
          have hyn : y ≠ [] := by intro h0; rw [h0] at hyl; simp at hyl; omega
          obtain ⟨g1, g2⟩ := sp_step hy hyn
          obtain ⟨q, hq, ⟨t, rfl⟩, e2⟩ := head_some g1
          have e3 : HS s p = q.length := by
            unfold HS
            rw [e]
            exact head_of hq (by rw [List.append_assoc]; exact List.prefix_append q _)
          rw [e2, List.drop_left] at g2
          have hql := seq_len q hq
          rw [List.length_append] at hyl
          refine ⟨by omega, by omega, t, g2, ?_⟩
          rw [← List.drop_drop, e, e3, List.append_assoc, List.drop_left]
        obtain ⟨n, hn⟩ : ∃ n, HS s p = n := ⟨_, rfl⟩
        rw [hn] at HC hn0 hpx hS
        have HS2 := Lib.hid hS
        have hn1 : ((n : Int) == 0) = false := by simp; omega
        clear hn hV hS
        go_wp2_with fail
        refine HC.out.mono ?_
        rintro e w' ⟨rfl, rfl⟩
        go_wp2_with fail
        go_round
        case rel => exact ⟨p + n, by omega, by go_num, HS2⟩
        case measure => simp [RowKit.intOf]; omega
      · obtain rfl : p = X := by omega
        clear hV
        have HC := Lib.hid (spl_any s p w1 (by omega) (by omega))
        rw [HH0.out] at HC
        have hx := HX.out
        by_cases hps : p < s.size
        · go_wp2_with fail
          refine HC.out.mono ?_
          rintro e w' ⟨rfl, rfl⟩
          go_wp2_with fail
          refine (HA.out w1).mono ?_
          rintro e w' ⟨rfl, rfl⟩
          by_cases hR0 : 0 < R.size
          · go_wp2_with fail
            refine (HST.out w1).mono ?_
            rintro e w' ⟨rfl, rfl⟩
            go_wp2_with fail
            refine (HE.out w1).mono ?_
            rintro e w' ⟨rfl, rfl⟩
            go_wp2_with fail
            go_ret
            exact ⟨rfl, hb1⟩
          · go_wp2_with fail
            go_ret
            exact ⟨rfl, hb1⟩
        · have hR0 : ¬ 0 < R.size := by omega
          go_wp2_with fail
          refine (HA.out w1).mono ?_
          rintro e w' ⟨rfl, rfl⟩
          go_wp2_with fail
          go_ret
          exact ⟨rfl, hb1⟩
  · obtain ⟨b, hb⟩ : ∃ b, decide (s.size ≤ 1048576) = b := ⟨_, rfl⟩
    rw [hb] at HBy
    clear hb hT hW hA
    unfold maxLen at hm
    cases b with
    | false =>
      go_enter Tryd.func6, Tryd.ntmps6
      go_wp2_with fail
      refine HBy.out.mono ?_
      rintro e w' ⟨rfl, rfl⟩
      go_wp2_with fail
      go_ret
      exact ⟨rfl, Below.refl _ _⟩
    | true =>
      go_enter Tryd.func6, Tryd.ntmps6
      go_wp2_with fail
      refine HBy.out.mono ?_
      rintro e w' ⟨rfl, rfl⟩
      go_wp2_with fail
      go_ret
      exact ⟨rfl, Below.refl _ _⟩
end Go.Proofs.YtnnjoehhjmomaaaDoor
