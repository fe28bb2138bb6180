/- The law FnStringWriteToAfterAnyPrefix. -/
import Derived.Test.YtommggamdgajcaaDoorIm49
namespace Go.Proofs.YtommggamdgajcaaDoor
open Go.RowKit

set_option maxHeartbeats 8000000 in
set_option maxRecDepth 100000 in
theorem lawSW (p st : ByteArray) (vs vb : Value) (ip : Bool) (ss : List ByteArray) (bs : List Bool) (w : World) (hT : Lib.Utf8Tabs 0 1 w) (ho : p.size ≤ maxLen) (hi : st.size ≤ maxLen) (hs : Sl vs (ss.map Value.string) w) (hz : ∀ s ∈ ss, s.size ≤ maxLen) (hb : Sl vb (bs.map Value.bool) w) :
    Calls Tryd.prog 8 #[.string p, .string st, vs, vb, .bool ip] w fun e w' => e = .returned (.bool true) ∧ Below w.heap.size w w' := by
  have HBy := Lib.hid (bytes_FnStringWriteToAfterAnyPrefix p st vs ss vb (bs.map Value.bool) (.bool ip) w ho hi hs hz hb)
  rw [List.length_map] at HBy
  by_cases h1 : p.size + st.size + (ss.length + tot ss) + bs.length ≤ 1048576
  · have hft : fitT (p.size + st.size + (ss.length + tot ss) + bs.length) = true := by unfold fitT; simpa using h1
    rw [hft] at HBy
    have HSz := Lib.hid (size_any vs ss w hs (by omega))
    obtain ⟨q, hq⟩ : ∃ q, capS (8 * ss.length + tot ss) = q := ⟨_, rfl⟩
    have hq2 : q ≤ 1048577 := by rw [← hq]; unfold capS; split <;> omega
    rw [hq] at HSz
    have HS := Lib.hid hs
    have HB := Lib.hid hb
    have HT := Lib.hid hT
    have HLt := Lib.hid (lits_any vs vb ss bs w hs hb (by omega) (by omega))
    obtain ⟨ab, cb, hvb, _⟩ := hb
    rw [List.length_map] at hvb
    subst hvb
    have hsl : ss.length ≤ 1048576 := by omega
    have htot : tot ss ≤ 1048576 := by omega
    have hbl2 : bs.length ≤ 1048576 := by omega
    have hpz : p.size ≤ 1048576 := by omega
    have hnz : st.size ≤ 1048576 := by omega
    have hTl := pcs_all bs ss hsl htot
    clear hft hq hs hz hT h1 ho hi
    by_cases hq5 : q ≤ 1048576
    · by_cases hq6 : p.size + st.size + q + bs.length ≤ 1048576
      · cases ip with
        | true =>
          go_enter Tryd.func8, Tryd.ntmps8
          go_wp2_with fail
          refine HBy.out.mono ?_
          rintro e w' ⟨rfl, rfl⟩
          go_wp2_with fail
          refine HSz.out.mono ?_
          rintro e w' ⟨rfl, rfl⟩
          clear HBy HSz
          go_wp2_with fail
          refine HLt.out.mono ?_
          rintro e w' ⟨r, rfl, hr, rfl⟩
          have HR := Lib.hid hr
          clear HLt hr
          cases r with
          | false =>
            go_wp2_with fail
            go_ret
            exact ⟨rfl, Below.refl _ _⟩
          | true =>
            have HA : Hid (LitsOk ss bs) := Lib.hid (HR.out rfl)
            clear HR
            go_wp2_with fail
            refine (clone_zzCloneStrsB2 vs ss w HS.out hsl).mono ?_
            rintro e w1 ⟨v1, rfl, hS1, hb1⟩
            have HS1 := Lib.hid hS1
            have HB1 := Lib.hid (HB.out.below hb1 (Nat.le_refl _))
            clear hS1 HS HB
            go_wp2_with fail
            refine (clone_zzCloneBoolsB2 _ bs w1 HB1.out hbl2).mono ?_
            rintro e w2 ⟨v2, rfl, hB2, hb2⟩
            have HB2 := Lib.hid hB2
            have HS2 := Lib.hid (HS1.out.below hb2 (Nat.le_refl _))
            have hbw2 := hb1.trans (hb2.mono hb1.size)
            clear hB2 HS1 HB1 hb1 hb2
            go_wp2_with fail
            refine (buildI_any v1 v2 ss bs w2 HS2.out HB2.out hsl htot HA.out).mono ?_
            rintro e w3 ⟨g, rfl, hP, hb3⟩
            have HM3 := Lib.hid (imodel_any v1 v2 ss bs w3 (HS2.out.below hb3 (Nat.le_refl _)) (HB2.out.below hb3 (Nat.le_refl _)) hsl htot HA.out)
            have hbw3 := hbw2.trans (hb3.mono hbw2.size)
            obtain ⟨T, hTT⟩ : ∃ T, [34] ++ seqT [] (pcT bs ss) ss.length ++ [34] = T := ⟨_, rfl⟩
            rw [hTT] at hP hTl HM3
            have HP := Lib.hid hP
            clear hTT hP HS2 HB2 hb3 hbw2
            go_wp2_with fail
            refine HM3.out.mono ?_
            rintro e w5 ⟨rfl, hb5⟩
            clear HM3
            have hbwA := hbw3.trans (hb5.mono hbw3.size)
            have hTW := tabs_below HT.out hbwA (by have := tabs_size HT.out; omega) (by have := tabs_size HT.out; omega)
            have HC := Lib.hid (after_String p (HP.out.pres (Pres.below hb5 (Nat.le_refl _))) trivial hTW (by omega))
            have hz1 : p.size + (⟨T.toArray⟩ : ByteArray).size ≤ 9223372036854775807 := by show p.size + T.toArray.size ≤ _; rw [List.size_toArray]; omega
            clear HP hTW
            go_wp2_with fail
            refine HC.out.mono ?_
            rintro e w9 ⟨rfl, hb9⟩
            clear HC
            go_wp2_with fail
            go_ret
            refine ⟨ret_bool ?_, hbwA.trans (hb9.mono hbwA.size)⟩
            rw [ByteArray.toList_eq, ByteArray.data_append]
            simp
        | false =>
          have HPl := Lib.hid (plain_any st w hnz)
          obtain ⟨A, hA⟩ : ∃ A, asciiB st = A := ⟨_, rfl⟩
          rw [hA] at HPl
          have HA := Lib.hid hA
          clear hA HLt hTl
          go_enter Tryd.func8, Tryd.ntmps8
          go_wp2_with fail
          refine HBy.out.mono ?_
          rintro e w' ⟨rfl, rfl⟩
          go_wp2_with fail
          refine HSz.out.mono ?_
          rintro e w' ⟨rfl, rfl⟩
          clear HBy HSz
          go_wp2_with fail
          refine HPl.out.mono ?_
          rintro e w' ⟨rfl, rfl⟩
          clear HPl
          cases A with
          | false =>
            go_wp2_with fail
            go_ret
            exact ⟨rfl, Below.refl _ _⟩
          | true =>
            go_wp2_with fail
            refine (clone_zzCloneStrsB2 vs ss w HS.out hsl).mono ?_
            rintro e w1 ⟨v1, rfl, hS1, hb1⟩
            have HS1 := Lib.hid hS1
            have HB1 := Lib.hid (HB.out.below hb1 (Nat.le_refl _))
            clear hS1 HS HB
            go_wp2_with fail
            refine (clone_zzCloneBoolsB2 _ bs w1 HB1.out hbl2).mono ?_
            rintro e w2 ⟨v2, rfl, hB2, hb2⟩
            have HB2 := Lib.hid hB2
            have HS2 := Lib.hid (HS1.out.below hb2 (Nat.le_refl _))
            have hbw2 := hb1.trans (hb2.mono hb1.size)
            clear hB2 HS1 HB1 hb1 hb2
            go_wp2_with fail
            obtain ⟨W, hWe⟩ : ∃ W, W = w2.alloc (.cells #[.string st, .slice none 0 0] 26) := ⟨_, rfl⟩
            rw [← hWe]
            have hbW : Below w2.heap.size w2 W := by rw [hWe]; exact (Below.refl _ _).alloc (Nat.le_refl _) _
            have hNo : Nd w2.heap.size 26 #[.string st, .slice none 0 0] W := by rw [hWe]; exact Nd.new _ _ _
            clear hWe
            have hP := prints_string_lit hNo (by omega)
            rw [quoted_ascii st HA.out] at hP
            have hbw3 := hbw2.trans (hbW.mono hbw2.size)
            have HM3 := Lib.hid (quoted_any st W hnz HA.out)
            have hTl : ([34] ++ escs st.data.toList ++ [34]).length ≤ 100000000 := by have h1 := escs_len st.data.toList; have h2 : st.data.toList.length = st.size := rfl; simp only [List.length_append, List.length_cons, List.length_nil]; omega
            obtain ⟨T, hTT⟩ : ∃ T, [34] ++ escs st.data.toList ++ [34] = T := ⟨_, rfl⟩
            rw [hTT] at hP hTl HM3
            have HP := Lib.hid hP
            clear hTT hP HS2 HB2 hbW hbw2 hNo
            refine HM3.out.mono ?_
            rintro e w5 ⟨rfl, hb5⟩
            clear HM3
            have hbwA := hbw3.trans (hb5.mono hbw3.size)
            have hTW := tabs_below HT.out hbwA (by have := tabs_size HT.out; omega) (by have := tabs_size HT.out; omega)
            have HC := Lib.hid (after_String p (HP.out.pres (Pres.below hb5 (Nat.le_refl _))) trivial hTW (by omega))
            have hz1 : p.size + (⟨T.toArray⟩ : ByteArray).size ≤ 9223372036854775807 := by show p.size + T.toArray.size ≤ _; rw [List.size_toArray]; omega
            clear HP hTW
            go_wp2_with fail
            refine HC.out.mono ?_
            rintro e w9 ⟨rfl, hb9⟩
            clear HC
            go_wp2_with fail
            go_ret
            refine ⟨ret_bool ?_, hbwA.trans (hb9.mono hbwA.size)⟩
            rw [ByteArray.toList_eq, ByteArray.data_append]
            simp
      · clear HLt
        go_enter Tryd.func8, Tryd.ntmps8
        go_wp2_with fail
        refine HBy.out.mono ?_
        rintro e w' ⟨rfl, rfl⟩
        go_wp2_with fail
        refine HSz.out.mono ?_
        rintro e w' ⟨rfl, rfl⟩
        go_wp2_with fail
        go_ret
        exact ⟨rfl, Below.refl _ _⟩
    · clear HLt
      go_enter Tryd.func8, Tryd.ntmps8
      go_wp2_with fail
      refine HBy.out.mono ?_
      rintro e w' ⟨rfl, rfl⟩
      go_wp2_with fail
      refine HSz.out.mono ?_
      rintro e w' ⟨rfl, rfl⟩
      go_wp2_with fail
      go_ret
      exact ⟨rfl, Below.refl _ _⟩
  · have hft : fitT (p.size + st.size + (ss.length + tot ss) + bs.length) = false := by unfold fitT; simpa using h1
    rw [hft] at HBy
    clear hft hs hz hT h1 hb ho hi
    go_enter Tryd.func8, Tryd.ntmps8
    go_wp2_with fail
    refine HBy.out.mono ?_
    rintro e w' ⟨rfl, rfl⟩
    go_wp2_with fail
    go_ret
    exact ⟨rfl, Below.refl _ _⟩
end Go.Proofs.YtommggamdgajcaaDoor
