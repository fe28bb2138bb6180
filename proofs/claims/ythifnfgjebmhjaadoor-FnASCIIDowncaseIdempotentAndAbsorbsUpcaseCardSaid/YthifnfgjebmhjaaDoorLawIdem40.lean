/- The law FnASCIIDowncaseIdempotentAndAbsorbsUpcase. -/
import Derived.Test.YthifnfgjebmhjaaDoorWalk40
namespace Go.Proofs.YthifnfgjebmhjaaDoor
open Go.RowKit

theorem encode_len (x : Int) : (Lib.encodeRune x).length ≤ 4 := by
  unfold Lib.encodeRune Lib.encodeRuneZ
  repeat' split
  all_goals simp
theorem mapD_len (f : Int → Int) : ∀ (n : Nat) (l : List UInt8), l.length ≤ n → (Lib.mapD f l).length ≤ 4 * l.length := by
  intro n
  induction n with
  | zero => intro l hl; obtain rfl : l = [] := List.eq_nil_of_length_eq_zero (by omega); exact Nat.zero_le _
  | succ n ih =>
    intro l hl
    by_cases hne : l = []
    · subst hne; exact Nat.zero_le _
    · have hw := Lib.decodeL_width l
      have hlp : 0 < l.length := List.length_pos_iff.2 hne
      rw [Lib.mapD_step f l hne, List.length_append]
      have h1 := ih (l.drop (Lib.decodeL l).2) (by rw [List.length_drop]; omega)
      rw [List.length_drop] at h1
      have h2 := encode_len (f (Lib.decodeL l).1)
      split
      · omega
      · simp; omega
set_option maxRecDepth 100000 in
theorem lawIdem (s : ByteArray) (w : World) (hm : s.size ≤ maxLen) (hT : Lib.Utf8Tabs 0 1 w) :
    Calls Tryd.prog 3 #[.string s] w fun e w' => e = .returned (.bool true) ∧ Below w.heap.size w w' := by
  have HBy := Lib.hid (zbytes1 s w hm)
  by_cases hs : s.size ≤ 262144
  · have hl : s.data.toList.length ≤ 262144 := by simpa using hs
    have n1 := mapD_len dnR _ s.data.toList (Nat.le_refl _)
    have n2 := mapD_len upR _ s.data.toList (Nat.le_refl _)
    have hd : decide (s.size ≤ 1048576) = true := by simp; omega
    rw [hd] at HBy
    obtain ⟨D, hD⟩ : ∃ D, strOf (Lib.mapD dnR s.data.toList) = D := ⟨_, rfl⟩
    obtain ⟨U, hU⟩ : ∃ U, strOf (Lib.mapD upR s.data.toList) = U := ⟨_, rfl⟩
    have eD : strOf (Lib.mapD dnR D.data.toList) = D := by rw [← hD, strOf_data, dn_twice]
    have eU : strOf (Lib.mapD dnR U.data.toList) = D := by rw [← hU, ← hD, strOf_data, dn_after_up]
    have sD : D.size < 35184372088832 := by rw [← hD, strOf_size]; omega
    have sU : U.size < 35184372088832 := by rw [← hU, strOf_size]; omega
    have C1 := zdown s w (by omega) hT
    rw [hD] at C1
    have HC1 := Lib.hid C1
    have hT1 := fun w1 (hb : Below w.heap.size w w1) => Utf8Tabs_below hT hb
    have HC2 := Lib.hid (fun w1 (hb : Below w.heap.size w w1) => zdown D w1 sD (hT1 w1 hb))
    rw [eD] at HC2
    have HC3 := Lib.hid (fun w1 (hb : Below w.heap.size w w1) => zup s w1 (by omega) (hT1 w1 hb))
    rw [hU] at HC3
    have HC4 := Lib.hid (fun w1 (hb : Below w.heap.size w w1) => zdown U w1 sU (hT1 w1 hb))
    rw [eU] at HC4
    clear hT hT1 C1 hD hU eD eU hd n1 n2 hl
    go_enter Tryd.func3, Tryd.ntmps3
    go_wp2_with fail
    refine HBy.out.mono ?_
    rintro e w' ⟨rfl, rfl⟩
    go_wp2_with fail
    refine HC1.out.mono ?_
    rintro e w1 ⟨rfl, hb1⟩
    go_wp2_with fail
    refine (HC2.out w1 hb1).mono ?_
    rintro e w2 ⟨rfl, hb2⟩
    have hb3 := hb1.trans (hb2.mono hb1.size)
    clear hb2
    go_wp2_with fail
    refine (HC3.out w2 hb3).mono ?_
    rintro e w3 ⟨rfl, hb4⟩
    have hb5 := hb3.trans (hb4.mono hb3.size)
    clear hb4
    go_wp2_with fail
    refine (HC4.out w3 hb5).mono ?_
    rintro e w4 ⟨rfl, hb6⟩
    have hb7 := hb5.trans (hb6.mono hb5.size)
    clear hb6
    go_wp2_with fail
    go_ret
    exact ⟨by first | rfl | simp, hb7⟩
  · obtain ⟨b, hb⟩ : ∃ b, decide (s.size ≤ 1048576) = b := ⟨_, rfl⟩
    rw [hb] at HBy
    clear hb hT
    unfold maxLen at hm
    cases b with
    | false =>
      go_enter Tryd.func3, Tryd.ntmps3
      go_wp2_with fail
      refine HBy.out.mono ?_
      rintro e w' ⟨rfl, rfl⟩
      go_wp2_with fail
      go_ret
      exact ⟨rfl, Below.refl _ _⟩
    | true =>
      go_enter Tryd.func3, Tryd.ntmps3
      go_wp2_with fail
      refine HBy.out.mono ?_
      rintro e w' ⟨rfl, rfl⟩
      go_wp2_with fail
      go_ret
      exact ⟨rfl, Below.refl _ _⟩
end Go.Proofs.YthifnfgjebmhjaaDoor
