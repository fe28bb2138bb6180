/- The law FnFuncStringNestsInner. -/
import Derived.Test.YtommggamdgajcaaDoorFn49
namespace Go.Proofs.YtommggamdgajcaaDoor
open Go.RowKit

theorem seqT_len (bs : List Bool) (ss : List ByteArray) : ∀ k, k ≤ ss.length → (seqT [59, 32] (argT bs ss) k).length ≤ 3 * k + tot (ss.take k) := by
  intro k
  induction k with
  | zero => intro _; simp [seqT]
  | succ k ih =>
    intro hk
    have h1 := ih (by omega)
    have h2 : (argT bs ss k).length ≤ 1 + ss[k].size := by
      have hd : ss[k].data.toList.length = ss[k].size := rfl
      unfold argT
      rw [show ss.getD k ⟨#[]⟩ = ss[k] by simp [show k < ss.length by omega], List.length_append, hd]
      split <;> simp only [List.length_cons, List.length_nil] <;> omega
    rw [tot_snoc ss k (by omega)]
    simp only [seqT, List.length_append]
    split <;> simp only [List.length_cons, List.length_nil] <;> omega
theorem fnT_len (nm : ByteArray) (ss : List ByteArray) (bs : List Bool) : (fnT nm ss bs).length ≤ nm.size + 2 + 3 * ss.length + tot ss := by
  have hd : nm.data.toList.length = nm.size := rfl
  have h1 := seqT_len bs ss ss.length (Nat.le_refl _)
  rw [tot_all] at h1
  unfold fnT
  rw [List.length_append, hd]
  split
  · simp only [List.length_nil]; omega
  · simp only [List.length_append, List.length_cons, List.length_nil]; omega

set_option maxHeartbeats 4000000 in
set_option maxRecDepth 100000 in
theorem lawFN_good (o i : ByteArray) (vs vb : Value) (ss : List ByteArray) (bs : List Bool) (w : World) (hT : Lib.Utf8Tabs 0 1 w) (ho : o.size ≤ maxLen) (hi : i.size ≤ maxLen) (hs : Sl vs (ss.map Value.string) w) (hz : ∀ s ∈ ss, s.size ≤ maxLen) (hb : Sl vb (bs.map Value.bool) w)
    (h1 : o.size + i.size + (ss.length + tot ss) + (bs.map Value.bool).length ≤ 1048576) (h2 : o.size + i.size + (8 * ss.length + tot ss) + bs.length ≤ 1048576) :
    Calls Tryd.prog 6 #[.string o, .string i, vs, vb] w fun e w' => e = .returned (.bool true) ∧ Below w.heap.size w w' := by
  have HBy := Lib.hid (bytes_FnFuncStringNestsInner o i vs ss vb (bs.map Value.bool) w ho hi hs hz hb)
  have hft : fitT (o.size + i.size + (ss.length + tot ss) + (bs.map Value.bool).length) = true := by unfold fitT; simpa using h1
  rw [hft] at HBy
  have HSz := Lib.hid (size_any vs ss w hs (by omega))
  have hcp : capS (8 * ss.length + tot ss) = 8 * ss.length + tot ss := by unfold capS; rw [if_pos (by omega)]
  rw [hcp] at HSz
  obtain ⟨q, hq⟩ : ∃ q, q = 8 * ss.length + tot ss := ⟨_, rfl⟩
  rw [← hq] at HSz h2
  have hbl : (bs.map Value.bool).length = bs.length := List.length_map _
  have HS := Lib.hid hs
  have HB := Lib.hid hb
  have HT := Lib.hid hT
  obtain ⟨ab, cb, hvb, _⟩ := hb
  rw [hbl] at hvb
  subst hvb
  have hsl : ss.length ≤ 1048576 := by omega
  have htot : tot ss ≤ 1048576 := by omega
  have hbl2 : bs.length ≤ 1048576 := by omega
  clear hft hcp hq hbl hs hz hT ho hi h1
  go_enter Tryd.func6, Tryd.ntmps6
  go_wp2_with fail
  refine HBy.out.mono ?_
  rintro e w' ⟨rfl, rfl⟩
  go_wp2_with fail
  refine HSz.out.mono ?_
  rintro e w' ⟨rfl, rfl⟩
  clear HBy HSz
  go_wp2_with fail
  refine (clone_zzCloneStrsB2 vs ss w HS.out hsl).mono ?_
  rintro e w1 ⟨v1, rfl, hS1, hb1⟩
  have HS1 := Lib.hid hS1
  have HB1 := Lib.hid (HB.out.below hb1 (Nat.le_refl _))
  clear hS1 HS HB
  go_wp2_with fail
  refine (clone_zzCloneBoolsB2 _ bs w1 HB1.out hbl2).mono ?_
  rintro e w2 ⟨v2, rfl, hB2, hb2⟩
  have HB2 := Lib.hid hB2
  have HS2 := Lib.hid (HS1.out.below hb2 (Nat.le_refl _))
  have hbw2 := hb1.trans (hb2.mono hb1.size)
  clear hB2 HS1 HB1 hb1 hb2
  go_wp2_with fail
  refine (build_any i v1 v2 ss bs w2 HS2.out HB2.out hsl).mono ?_
  rintro e w3 ⟨g, rfl, hP, hb3⟩
  have hbw3 := hbw2.trans (hb3.mono hbw2.size)
  have HP := Lib.hid hP
  clear hP HS2 HB2 hb3 hbw2
  go_wp2_with fail
  have hTl : (fnT i ss bs).length ≤ 10000000 := by have := fnT_len i ss bs; omega
  obtain ⟨T, hTT⟩ : ∃ T, fnT i ss bs = T := ⟨_, rfl⟩
  rw [hTT] at HP hTl
  clear hTT
  obtain ⟨W, hW⟩ : ∃ W, W = (((w3.alloc (.cells #[.int .i64 7, .pointer none, .pointer (some ⟨g, 0, none⟩), .pointer none, .pointer none, .string ⟨#[]⟩, .pointer none, .string ⟨#[]⟩, .pointer none, .pointer none, .pointer none, .pointer none, .pointer none, .pointer none, .string ⟨#[]⟩, .pointer none, .slice none 0 0] 55)).alloc (.cells #[.pointer none, .slice none 0 0, .slice none 0 0, .pointer (some ⟨w3.heap.size, 0, none⟩), .pointer none, .pointer none, .slice none 0 0, .int .i64 0] 62)).alloc (.cells #[.pointer (some ⟨w3.heap.size + 1, 0, none⟩)] 41)).alloc (.cells #[.string o, .slice (some ⟨w3.heap.size + 1 + 1, 0, none⟩) 1 1] 64) := ⟨_, rfl⟩
  rw [← hW]
  have hNt : Nd w3.heap.size 55 #[.int .i64 7, .pointer none, .pointer (some ⟨g, 0, none⟩), .pointer none, .pointer none, .string ⟨#[]⟩, .pointer none, .string ⟨#[]⟩, .pointer none, .pointer none, .pointer none, .pointer none, .pointer none, .pointer none, .string ⟨#[]⟩, .pointer none, .slice none 0 0] W := by rw [hW]; exact (((Nd.new _ _ _).alloc _).alloc _).alloc _
  have hNq : Nd (w3.heap.size + 1) 62 #[.pointer none, .slice none 0 0, .slice none 0 0, .pointer (some ⟨w3.heap.size, 0, none⟩), .pointer none, .pointer none, .slice none 0 0, .int .i64 0] W := by rw [hW]; exact ((Nd.newAt _ _ (by simp)).alloc _).alloc _
  have hNs : Nd (w3.heap.size + 1 + 1) 41 #[.pointer (some ⟨w3.heap.size + 1, 0, none⟩)] W := by rw [hW]; exact (Nd.newAt _ _ (by simp)).alloc _
  have hNf : Nd (w3.heap.size + 1 + 1 + 1) 64 #[.string o, .slice (some ⟨w3.heap.size + 1 + 1, 0, none⟩) 1 1] W := by rw [hW]; exact Nd.newAt _ _ (by simp)
  have hbW : Below w3.heap.size w3 W := by rw [hW]; exact ((((Below.refl _ _).alloc (Nat.le_refl _) _).alloc (by simp) _).alloc (by simp; omega) _).alloc (by simp; omega) _
  clear hW
  have hbw := hbw3.trans (hbW.mono hbw3.size)
  have hTW := tabs_below HT.out hbw (by have := tabs_size HT.out; omega) (by have := tabs_size HT.out; omega)
  have PG := HP.out.pres (Pres.below hbW (Nat.le_refl _))
  have PF := prints_func (s := o) (qs := [w3.heap.size + 1]) (Ts := fun _ => T) hNf hNs (by simp) (by simp) (fun i hi => by
    obtain rfl : i = 0 := by simp at hi; exact hi
    exact (prints_query hNq (prints_term_Func hNt PG)).safe)
  have e1 : seqT [59, 32] (fun _ => T) [w3.heap.size + 1].length = T := by simp [seqT]
  rw [e1] at PF
  have HPF := Lib.hid PF
  have HC := Lib.hid (str_Func PG trivial hTW (by omega))
  have HTW := Lib.hid hTW
  clear PG PF e1 hNt hNq hNs hNf hTW HP hbW hbw3
  refine HC.out.mono ?_
  rintro e w4 ⟨rfl, hb4⟩
  have hsd : o.data.toList.length = o.size := rfl
  have HC2 := Lib.hid (str_Func (HPF.out.pres (Pres.below hb4 (Nat.le_refl _))) trivial (tabs_below HTW.out hb4 (by have := tabs_size HTW.out; omega) (by have := tabs_size HTW.out; omega)) (by simp only [List.length_append, List.length_cons, List.length_nil]; omega))
  have hz2 : (o ++ ⟨#[40]⟩).size + (⟨T.toArray⟩ : ByteArray).size ≤ 9223372036854775807 := by
    rw [ByteArray.size_append]; show o.size + 1 + T.toArray.size ≤ _; rw [List.size_toArray]; omega
  have hz3 : (o ++ ⟨#[40]⟩ ++ ⟨T.toArray⟩).size + (⟨#[41]⟩ : ByteArray).size ≤ 9223372036854775807 := by
    rw [ByteArray.size_append, ByteArray.size_append]; show o.size + 1 + T.toArray.size + 1 ≤ _; rw [List.size_toArray]; omega
  clear HC HPF hsd
  go_wp2_with fail
  refine HC2.out.mono ?_
  rintro e w5 ⟨rfl, hb5⟩
  clear HC2
  go_wp2_with fail
  go_ret
  refine ⟨ret_bool ?_, hbw.trans ((hb4.mono hbw.size).trans (hb5.mono (Nat.le_trans hbw.size hb4.size)))⟩
  rw [ByteArray.toList_eq, ByteArray.data_append, ByteArray.data_append, ByteArray.data_append]
  simp

set_option maxHeartbeats 2000000 in
set_option maxRecDepth 100000 in
theorem lawFN (o i : ByteArray) (vs vb : Value) (ss : List ByteArray) (bs : List Bool) (w : World) (hT : Lib.Utf8Tabs 0 1 w) (ho : o.size ≤ maxLen) (hi : i.size ≤ maxLen) (hs : Sl vs (ss.map Value.string) w) (hz : ∀ s ∈ ss, s.size ≤ maxLen) (hb : Sl vb (bs.map Value.bool) w) :
    Calls Tryd.prog 6 #[.string o, .string i, vs, vb] w fun e w' => e = .returned (.bool true) ∧ Below w.heap.size w w' := by
  by_cases h1 : o.size + i.size + (ss.length + tot ss) + (bs.map Value.bool).length ≤ 1048576
  · by_cases h2 : o.size + i.size + (8 * ss.length + tot ss) + bs.length ≤ 1048576
    · exact lawFN_good o i vs vb ss bs w hT ho hi hs hz hb h1 h2
    · have HBy := Lib.hid (bytes_FnFuncStringNestsInner o i vs ss vb (bs.map Value.bool) w ho hi hs hz hb)
      have hft : fitT (o.size + i.size + (ss.length + tot ss) + (bs.map Value.bool).length) = true := by unfold fitT; simpa using h1
      rw [hft] at HBy
      have HSz := Lib.hid (size_any vs ss w hs (by omega))
      have hbl : (bs.map Value.bool).length = bs.length := List.length_map _
      obtain ⟨ab, cb, hvb, _⟩ := hb
      rw [hbl] at hvb h1
      subst hvb
      obtain ⟨q, hq⟩ : ∃ q, q = capS (8 * ss.length + tot ss) := ⟨_, rfl⟩
      have hq2 : q ≤ 1048577 ∧ 1048576 < o.size + i.size + q + bs.length := by rw [hq]; unfold capS; split <;> omega
      rw [← hq] at HSz
      clear hft hq hbl hs hz hT ho hi h2
      obtain ⟨hq3, hq4⟩ := hq2
      by_cases hq5 : q ≤ 1048576
      all_goals
        go_enter Tryd.func6, Tryd.ntmps6
        go_wp2_with fail
        refine HBy.out.mono ?_
        rintro e w' ⟨rfl, rfl⟩
        go_wp2_with fail
        refine HSz.out.mono ?_
        rintro e w' ⟨rfl, rfl⟩
        go_wp2_with fail
        go_ret
        exact ⟨rfl, Below.refl _ _⟩
  · have HBy := Lib.hid (bytes_FnFuncStringNestsInner o i vs ss vb (bs.map Value.bool) w ho hi hs hz hb)
    have hft : fitT (o.size + i.size + (ss.length + tot ss) + (bs.map Value.bool).length) = false := by unfold fitT; simpa using h1
    rw [hft] at HBy
    clear hft hs hz hT ho hi h1 hb
    go_enter Tryd.func6, Tryd.ntmps6
    go_wp2_with fail
    refine HBy.out.mono ?_
    rintro e w' ⟨rfl, rfl⟩
    go_wp2_with fail
    go_ret
    exact ⟨rfl, Below.refl _ _⟩
end Go.Proofs.YtommggamdgajcaaDoor
