/- The law FnIndexStringSuffixAgreement. -/
import Derived.Test.YthfhfocdbkieoaaDoorIdx36
namespace Go.Proofs.YthfhfocdbkieoaaDoor
open Go.RowKit

def fit3 (a b c : Nat) : Bool := decide (a + b + c ≤ 1048576)
theorem bytesI_any (nm : ByteArray) (sl hs : Bool) (sk : Int) (st : ByteArray) (he : Bool) (ek : Int) (en : ByteArray) (w : World) (h1 : nm.size ≤ maxLen) (h2 : st.size ≤ maxLen) (h3 : en.size ≤ maxLen) :
    Calls Tryd.prog 6 #[.agg #[.string nm, .bool sl, .bool hs, .int .i64 sk, .string st, .bool he, .int .i64 ek, .string en]] w fun e w' => e = .returned (.bool (fit3 nm.size st.size en.size)) ∧ Below w.heap.size w w' := by
  unfold maxLen at h1 h2 h3
  go_enter Tryd.func6, Tryd.ntmps6
  go_wp2
  all_goals (go_ret; exact ⟨ret_bool (by unfold fit3; simp; omega), (Below.refl _ _).alloc (Nat.le_refl _) _⟩)

def outB (nm : ByteArray) (sl hs : Bool) : Bool := nm.toList.isEmpty && !sl && !hs
set_option maxHeartbeats 1000000 in
theorem out_any (nm : ByteArray) (sl hs : Bool) (sk : Int) (st : ByteArray) (he : Bool) (ek : Int) (en : ByteArray) (w : World) (h : nm.size + st.size + en.size ≤ 1048576) :
    Calls Tryd.prog 7 #[.agg #[.string nm, .bool sl, .bool hs, .int .i64 sk, .string st, .bool he, .int .i64 ek, .string en]] w fun e w' => e = .returned (.bool (outB nm sl hs)) ∧ Below w.heap.size w w' := by
  have d1 : decide ((1048576 : Int) < nm.size) = false := by simp; omega
  have d2 : decide ((1048576 : Int) < st.size) = false := by simp; omega
  have d3 : decide ((1048576 : Int) < en.size) = false := by simp; omega
  cases hE : nm.toList.isEmpty <;> cases sl <;> cases hs
  all_goals
    go_enter Tryd.func7, Tryd.ntmps7
    go_wp2_with fail
    go_ret
    exact ⟨ret_bool (by unfold outB; rw [hE]; rfl), (Below.refl _ _).alloc (Nat.le_refl _) _⟩

set_option maxHeartbeats 2000000 in
theorem lawI_name (nm : ByteArray) (sl hs : Bool) (sk : Int) (st : ByteArray) (he : Bool) (ek : Int) (en : ByteArray) (w : World) (h : nm.size + st.size + en.size ≤ 1048576) (hT : Lib.Utf8Tabs 0 1 w) (hnm : nm.size ≠ 0) :
    Calls Tryd.prog 3 #[.agg #[.string nm, .bool sl, .bool hs, .int .i64 sk, .string st, .bool he, .int .i64 ek, .string en]] w fun e w' => e = .returned (.bool true) ∧ Below w.heap.size w w' := by
  have hf : fit3 nm.size st.size en.size = true := by unfold fit3; simpa using h
  have hne : nm.toList.isEmpty = false := ne_empty hnm
  have hout : outB nm sl hs = false := by unfold outB; rw [hne]; rfl
  have hl1 : nm.size ≤ maxLen := by unfold maxLen; omega
  have hl2 : st.size ≤ maxLen := by unfold maxLen; omega
  have hl3 : en.size ≤ maxLen := by unfold maxLen; omega
  have HT := Lib.hid hT
  clear hT
  have hB0 : Nd w.heap.size 23 #[.string nm, .bool sl, .bool hs, .int .i64 sk, .string st, .bool he, .int .i64 ek, .string en] (w.alloc (.cells #[.string nm, .bool sl, .bool hs, .int .i64 sk, .string st, .bool he, .int .i64 ek, .string en] 23)) := Nd.new _ _ _
  have hbW : Below w.heap.size w (w.alloc (.cells #[.string nm, .bool sl, .bool hs, .int .i64 sk, .string st, .bool he, .int .i64 ek, .string en] 23)) := (Below.refl _ _).alloc (Nat.le_refl _) _
  have HB0 := Lib.hid hB0
  clear hB0
  go_enter Tryd.func3, Tryd.ntmps3
  go_wp2_with fail
  refine (bytesI_any nm sl hs sk st he ek en _ hl1 hl2 hl3).mono ?_
  rintro e w1 ⟨rfl, hb1⟩
  have hN1 := HB0.out.below hb1 HB0.out.lt
  have hbw1 := hbW.trans (hb1.mono hbW.size)
  have c0 := hN1.cell 0 rfl
  have c1 := hN1.cell 1 rfl
  have c2 := hN1.cell 2 rfl
  have c3 := hN1.cell 3 rfl
  have c4 := hN1.cell 4 rfl
  have c5 := hN1.cell 5 rfl
  have c6 := hN1.cell 6 rfl
  have c7 := hN1.cell 7 rfl
  have HN1 := Lib.hid hN1
  clear hN1 HB0 hbW hb1
  go_wp2_with fail
  refine (out_any nm sl hs sk st he ek en _ h).mono ?_
  rintro e w2 ⟨rfl, hb2⟩
  have hN2 := HN1.out.below hb2 HN1.out.lt
  have hbw2 := hbw1.trans (hb2.mono hbw1.size)
  clear c0 c1 c2 c3 c4 c5 c6 c7
  have c0 := hN2.cell 0 rfl
  have c1 := hN2.cell 1 rfl
  have c2 := hN2.cell 2 rfl
  have c3 := hN2.cell 3 rfl
  have c4 := hN2.cell 4 rfl
  have c5 := hN2.cell 5 rfl
  have c6 := hN2.cell 6 rfl
  have c7 := hN2.cell 7 rfl
  have HN2 := Lib.hid hN2
  clear hN2 HN1 hb2 hbw1
  go_wp2_with fail
  refine (toIdx_any nm sl hs sk st he ek en _).mono ?_
  rintro e w3 ⟨x, o1, o2, rfl, hX, q1, q2, i1, i2, hb3⟩
  have hN3 := HN2.out.below hb3 HN2.out.lt
  have hbw3 := hbw2.trans (hb3.mono hbw2.size)
  have HN3 := Lib.hid hN3
  have HX := Lib.hid hX
  have HQ1 := Lib.hid q1
  have HQ2 := Lib.hid q2
  have HI1 := Lib.hid i1
  have HI2 := Lib.hid i2
  clear hN3 HN2 hb3 hbw2 hX q1 q2 i1 i2 c0 c1 c2 c3 c4 c5 c6 c7
  go_wp2_with fail
  have hA : Below w3.heap.size w3 (w3.alloc (.cells #[.pointer (some ⟨x, 0, none⟩), .bool false, .bool false] 29)) := (Below.refl _ _).alloc (Nat.le_refl _) _
  have hY : Nd w3.heap.size 29 #[.pointer (some ⟨x, 0, none⟩), .bool false, .bool false] (w3.alloc (.cells #[.pointer (some ⟨x, 0, none⟩), .bool false, .bool false] 29)) := Nd.new _ _ _
  obtain ⟨W, hW⟩ : ∃ W, W = w3.alloc (.cells #[.pointer (some ⟨x, 0, none⟩), .bool false, .bool false] 29) := ⟨_, rfl⟩
  rw [← hW] at hA hY ⊢
  clear hW
  have hXW := HX.out.below hA HX.out.lt
  have hNW := Lib.hid (HN3.out.below hA HN3.out.lt)
  have hbw := hbw3.trans (hA.mono hbw3.size)
  have hTW := tabs_below HT.out hbw (by have := tabs_size HT.out; omega) (by have := tabs_size HT.out; omega)
  have HTW := Lib.hid hTW
  have PX := prints_index (suffix_name hXW hnm)
  have PY := prints_sfx_name hY hXW hnm PX
  have hlen1 : ([46] ++ nm.data.toList).length ≤ 10000000000 := by have : nm.data.toList.length = nm.size := rfl; simp; omega
  have HLEN := Lib.hid hlen1
  have HPY := Lib.hid PY
  have HC := Lib.hid (str_Index PX Safe.nil hTW hlen1)
  clear PX PY hTW hXW hY HX HQ1 HQ2 hlen1 HN3 hA hbw3
  refine HC.out.mono ?_
  rintro e w4 ⟨rfl, hb4⟩
  have HC2 := Lib.hid (str_Suffix (HPY.out.pres (Pres.below hb4 (Nat.le_refl _))) Safe.nil (tabs_below HTW.out hb4 (by have := tabs_size HTW.out; omega) (by have := tabs_size HTW.out; omega)) HLEN.out)
  have hN4 := Lib.hid (hNW.out.below hb4 hNW.out.lt)
  clear HC HPY
  go_wp2_with fail
  refine HC2.out.mono ?_
  rintro e w5 ⟨rfl, hb5⟩
  have c0 := (hN4.out.below hb5 hN4.out.lt).cell 0 rfl
  clear HC2
  go_wp2_with fail
  go_ret
  exact ⟨ret_bool (by simp), hbw.trans ((hb4.mono hbw.size).trans (hb5.mono (Nat.le_trans hbw.size hb4.size)))⟩
set_option maxHeartbeats 2000000 in
theorem lawI_slice (hs : Bool) (sk : Int) (st : ByteArray) (he : Bool) (ek : Int) (en : ByteArray) (w : World) (h : (⟨#[]⟩ : ByteArray).size + st.size + en.size ≤ 1048576) (hT : Lib.Utf8Tabs 0 1 w)  :
    Calls Tryd.prog 3 #[.agg #[.string ⟨#[]⟩, .bool true, .bool hs, .int .i64 sk, .string st, .bool he, .int .i64 ek, .string en]] w fun e w' => e = .returned (.bool true) ∧ Below w.heap.size w w' := by
  have hf : fit3 (⟨#[]⟩ : ByteArray).size st.size en.size = true := by unfold fit3; simpa using h
  have hl1 : (⟨#[]⟩ : ByteArray).size ≤ maxLen := by decide
  have hout : outB ⟨#[]⟩ true hs = false := by unfold outB; simp
  have hf0 : fit3 0 st.size en.size = true := hf
  have hl2 : st.size ≤ maxLen := by unfold maxLen; omega
  have hl3 : en.size ≤ maxLen := by unfold maxLen; omega
  have HT := Lib.hid hT
  clear hT
  have hB0 : Nd w.heap.size 23 #[.string ⟨#[]⟩, .bool true, .bool hs, .int .i64 sk, .string st, .bool he, .int .i64 ek, .string en] (w.alloc (.cells #[.string ⟨#[]⟩, .bool true, .bool hs, .int .i64 sk, .string st, .bool he, .int .i64 ek, .string en] 23)) := Nd.new _ _ _
  have hbW : Below w.heap.size w (w.alloc (.cells #[.string ⟨#[]⟩, .bool true, .bool hs, .int .i64 sk, .string st, .bool he, .int .i64 ek, .string en] 23)) := (Below.refl _ _).alloc (Nat.le_refl _) _
  have HB0 := Lib.hid hB0
  clear hB0
  go_enter Tryd.func3, Tryd.ntmps3
  go_wp2_with fail
  refine (bytesI_any ⟨#[]⟩ true hs sk st he ek en _ hl1 hl2 hl3).mono ?_
  rintro e w1 ⟨rfl, hb1⟩
  have hN1 := HB0.out.below hb1 HB0.out.lt
  have hbw1 := hbW.trans (hb1.mono hbW.size)
  have c0 := hN1.cell 0 rfl
  have c1 := hN1.cell 1 rfl
  have c2 := hN1.cell 2 rfl
  have c3 := hN1.cell 3 rfl
  have c4 := hN1.cell 4 rfl
  have c5 := hN1.cell 5 rfl
  have c6 := hN1.cell 6 rfl
  have c7 := hN1.cell 7 rfl
  have HN1 := Lib.hid hN1
  clear hN1 HB0 hbW hb1
  go_wp2_with fail
  refine (out_any ⟨#[]⟩ true hs sk st he ek en _ h).mono ?_
  rintro e w2 ⟨rfl, hb2⟩
  have hN2 := HN1.out.below hb2 HN1.out.lt
  have hbw2 := hbw1.trans (hb2.mono hbw1.size)
  clear c0 c1 c2 c3 c4 c5 c6 c7
  have c0 := hN2.cell 0 rfl
  have c1 := hN2.cell 1 rfl
  have c2 := hN2.cell 2 rfl
  have c3 := hN2.cell 3 rfl
  have c4 := hN2.cell 4 rfl
  have c5 := hN2.cell 5 rfl
  have c6 := hN2.cell 6 rfl
  have c7 := hN2.cell 7 rfl
  have HN2 := Lib.hid hN2
  clear hN2 HN1 hb2 hbw1
  go_wp2_with fail
  refine (toIdx_any ⟨#[]⟩ true hs sk st he ek en _).mono ?_
  rintro e w3 ⟨x, o1, o2, rfl, hX, q1, q2, i1, i2, hb3⟩
  have hN3 := HN2.out.below hb3 HN2.out.lt
  have hbw3 := hbw2.trans (hb3.mono hbw2.size)
  have HN3 := Lib.hid hN3
  have HX := Lib.hid hX
  have HQ1 := Lib.hid q1
  have HQ2 := Lib.hid q2
  have HI1 := Lib.hid i1
  have HI2 := Lib.hid i2
  clear hN3 HN2 hb3 hbw2 hX q1 q2 i1 i2 c0 c1 c2 c3 c4 c5 c6 c7
  go_wp2_with fail
  have hA : Below w3.heap.size w3 (w3.alloc (.cells #[.pointer (some ⟨x, 0, none⟩), .bool false, .bool false] 29)) := (Below.refl _ _).alloc (Nat.le_refl _) _
  have hY : Nd w3.heap.size 29 #[.pointer (some ⟨x, 0, none⟩), .bool false, .bool false] (w3.alloc (.cells #[.pointer (some ⟨x, 0, none⟩), .bool false, .bool false] 29)) := Nd.new _ _ _
  obtain ⟨W, hW⟩ : ∃ W, W = w3.alloc (.cells #[.pointer (some ⟨x, 0, none⟩), .bool false, .bool false] 29) := ⟨_, rfl⟩
  rw [← hW] at hA hY ⊢
  clear hW
  have hXW := HX.out.below hA HX.out.lt
  have hNW := Lib.hid (HN3.out.below hA HN3.out.lt)
  have hbw := hbw3.trans (hA.mono hbw3.size)
  have hTW := tabs_below HT.out hbw (by have := tabs_size HT.out; omega) (by have := tabs_size HT.out; omega)
  have HTW := Lib.hid hTW
  have PS := suffix_slice hXW (show QP W o1 _ from (match o1, HQ1.out with
    | none, h => h
    | some _, h => Prints.pres h (Pres.below hA (Nat.le_refl _)))) (show QP W o2 _ from (match o2, HQ2.out with
    | none, h => h
    | some _, h => Prints.pres h (Pres.below hA (Nat.le_refl _))))
  have hlen0 : ([91] ++ (if hs then tqText sk st else []) ++ [58] ++ (if he then tqText ek en else []) ++ [93]).length ≤ 10000000 := by
    have h1 := tqText_len sk st
    have h2 := tqText_len ek en
    simp only [List.length_append, List.length_cons, List.length_nil]
    repeat' split
    all_goals (try simp only [List.length_nil]); omega
  obtain ⟨T, hTT⟩ : ∃ T, [91] ++ (if hs then tqText sk st else []) ++ [58] ++ (if he then tqText ek en else []) ++ [93] = T := ⟨_, rfl⟩
  rw [hTT] at PS hlen0
  clear hTT
  have PY := prints_sfx_br hY hXW PS
  have PX := prints_index PS
  have hlen1 : ([46] ++ T).length ≤ 10000000000 := by rw [List.length_append]; simp only [List.length_cons, List.length_nil]; omega
  have HLEN : Hid (T.length ≤ 10000000000) := Lib.hid (by omega)
  have HL0 := Lib.hid hlen0
  clear PS hlen0
  have HPY := Lib.hid PY
  have HC := Lib.hid (str_Index PX Safe.nil hTW hlen1)
  clear PX PY hTW hXW hY HX HQ1 HQ2 hlen1 HN3 hA hbw3
  refine HC.out.mono ?_
  rintro e w4 ⟨rfl, hb4⟩
  have HC2 := Lib.hid (str_Suffix (HPY.out.pres (Pres.below hb4 (Nat.le_refl _))) trivial (tabs_below HTW.out hb4 (by have := tabs_size HTW.out; omega) (by have := tabs_size HTW.out; omega)) HLEN.out)
  have hN4 := Lib.hid (hNW.out.below hb4 hNW.out.lt)
  clear HC HPY
  go_wp2_with fail
  refine HC2.out.mono ?_
  rintro e w5 ⟨rfl, hb5⟩
  have c0 := (hN4.out.below hb5 hN4.out.lt).cell 0 rfl
  have hz : (⟨#[46]⟩ : ByteArray).size + (⟨T.toArray⟩ : ByteArray).size ≤ 9223372036854775807 := by
    have h2 := HL0.out
    show 1 + T.toArray.size ≤ _
    rw [List.size_toArray]; omega
  clear HC2
  go_wp2_with fail
  go_ret
  refine ⟨ret_bool ?_, hbw.trans ((hb4.mono hbw.size).trans (hb5.mono (Nat.le_trans hbw.size hb4.size)))⟩
  rw [ByteArray.toList_eq, ByteArray.data_append]
  simp
set_option maxHeartbeats 2000000 in
theorem lawI_one (sk : Int) (st : ByteArray) (he : Bool) (ek : Int) (en : ByteArray) (w : World) (h : (⟨#[]⟩ : ByteArray).size + st.size + en.size ≤ 1048576) (hT : Lib.Utf8Tabs 0 1 w) :
    Calls Tryd.prog 3 #[.agg #[.string ⟨#[]⟩, .bool false, .bool true, .int .i64 sk, .string st, .bool he, .int .i64 ek, .string en]] w fun e w' => e = .returned (.bool true) ∧ Below w.heap.size w w' := by
  have hf : fit3 (⟨#[]⟩ : ByteArray).size st.size en.size = true := by unfold fit3; simpa using h
  have hl1 : (⟨#[]⟩ : ByteArray).size ≤ maxLen := by decide
  have hout : outB ⟨#[]⟩ false true = false := by unfold outB; simp
  have hf0 : fit3 0 st.size en.size = true := hf
  have hl2 : st.size ≤ maxLen := by unfold maxLen; omega
  have hl3 : en.size ≤ maxLen := by unfold maxLen; omega
  have HT := Lib.hid hT
  clear hT
  have hB0 : Nd w.heap.size 23 #[.string ⟨#[]⟩, .bool false, .bool true, .int .i64 sk, .string st, .bool he, .int .i64 ek, .string en] (w.alloc (.cells #[.string ⟨#[]⟩, .bool false, .bool true, .int .i64 sk, .string st, .bool he, .int .i64 ek, .string en] 23)) := Nd.new _ _ _
  have hbW : Below w.heap.size w (w.alloc (.cells #[.string ⟨#[]⟩, .bool false, .bool true, .int .i64 sk, .string st, .bool he, .int .i64 ek, .string en] 23)) := (Below.refl _ _).alloc (Nat.le_refl _) _
  have HB0 := Lib.hid hB0
  clear hB0
  go_enter Tryd.func3, Tryd.ntmps3
  go_wp2_with fail
  refine (bytesI_any ⟨#[]⟩ false true sk st he ek en _ hl1 hl2 hl3).mono ?_
  rintro e w1 ⟨rfl, hb1⟩
  have hN1 := HB0.out.below hb1 HB0.out.lt
  have hbw1 := hbW.trans (hb1.mono hbW.size)
  have c0 := hN1.cell 0 rfl
  have c1 := hN1.cell 1 rfl
  have c2 := hN1.cell 2 rfl
  have c3 := hN1.cell 3 rfl
  have c4 := hN1.cell 4 rfl
  have c5 := hN1.cell 5 rfl
  have c6 := hN1.cell 6 rfl
  have c7 := hN1.cell 7 rfl
  have HN1 := Lib.hid hN1
  clear hN1 HB0 hbW hb1
  go_wp2_with fail
  refine (out_any ⟨#[]⟩ false true sk st he ek en _ h).mono ?_
  rintro e w2 ⟨rfl, hb2⟩
  have hN2 := HN1.out.below hb2 HN1.out.lt
  have hbw2 := hbw1.trans (hb2.mono hbw1.size)
  clear c0 c1 c2 c3 c4 c5 c6 c7
  have c0 := hN2.cell 0 rfl
  have c1 := hN2.cell 1 rfl
  have c2 := hN2.cell 2 rfl
  have c3 := hN2.cell 3 rfl
  have c4 := hN2.cell 4 rfl
  have c5 := hN2.cell 5 rfl
  have c6 := hN2.cell 6 rfl
  have c7 := hN2.cell 7 rfl
  have HN2 := Lib.hid hN2
  clear hN2 HN1 hb2 hbw1
  go_wp2_with fail
  refine (toIdx_any ⟨#[]⟩ false true sk st he ek en _).mono ?_
  rintro e w3 ⟨x, o1, o2, rfl, hX, q1, q2, i1, i2, hb3⟩
  have hN3 := HN2.out.below hb3 HN2.out.lt
  have hbw3 := hbw2.trans (hb3.mono hbw2.size)
  have HN3 := Lib.hid hN3
  have HX := Lib.hid hX
  have HQ1 : Hid (QP w3 o1 (tqText sk st)) := Lib.hid q1
  have HQ2 := Lib.hid q2
  have HI1 := Lib.hid i1
  have HI2 := Lib.hid i2
  clear hN3 HN2 hb3 hbw2 hX q1 q2 i1 i2 c0 c1 c2 c3 c4 c5 c6 c7
  go_wp2_with fail
  have hA : Below w3.heap.size w3 (w3.alloc (.cells #[.pointer (some ⟨x, 0, none⟩), .bool false, .bool false] 29)) := (Below.refl _ _).alloc (Nat.le_refl _) _
  have hY : Nd w3.heap.size 29 #[.pointer (some ⟨x, 0, none⟩), .bool false, .bool false] (w3.alloc (.cells #[.pointer (some ⟨x, 0, none⟩), .bool false, .bool false] 29)) := Nd.new _ _ _
  obtain ⟨W, hW⟩ : ∃ W, W = w3.alloc (.cells #[.pointer (some ⟨x, 0, none⟩), .bool false, .bool false] 29) := ⟨_, rfl⟩
  rw [← hW] at hA hY ⊢
  clear hW
  have hXW := HX.out.below hA HX.out.lt
  have hNW := Lib.hid (HN3.out.below hA HN3.out.lt)
  have hbw := hbw3.trans (hA.mono hbw3.size)
  have hTW := tabs_below HT.out hbw (by have := tabs_size HT.out; omega) (by have := tabs_size HT.out; omega)
  have HTW := Lib.hid hTW
  obtain ⟨q, hq⟩ : ∃ q, o1 = some q := by
    cases o1 with
    | none => have := HI1.out; cases this
    | some q => exact ⟨q, rfl⟩
  subst hq
  have PS := suffix_one hXW (Prints.pres HQ1.out (Pres.below hA (Nat.le_refl _)))
  have hlen0 : ([91] ++ (tqText sk st) ++ [93]).length ≤ 10000000 := by
    have h1 := tqText_len sk st
    have h2 := tqText_len ek en
    simp only [List.length_append, List.length_cons, List.length_nil]
    omega
  obtain ⟨T, hTT⟩ : ∃ T, [91] ++ (tqText sk st) ++ [93] = T := ⟨_, rfl⟩
  rw [hTT] at PS hlen0
  clear hTT
  have PY := prints_sfx_br hY hXW PS
  have PX := prints_index PS
  have hlen1 : ([46] ++ T).length ≤ 10000000000 := by rw [List.length_append]; simp only [List.length_cons, List.length_nil]; omega
  have HLEN : Hid (T.length ≤ 10000000000) := Lib.hid (by omega)
  have HL0 := Lib.hid hlen0
  clear PS hlen0
  have HPY := Lib.hid PY
  have HC := Lib.hid (str_Index PX Safe.nil hTW hlen1)
  clear PX PY hTW hXW hY HX HQ1 HQ2 hlen1 HN3 hA hbw3
  refine HC.out.mono ?_
  rintro e w4 ⟨rfl, hb4⟩
  have HC2 := Lib.hid (str_Suffix (HPY.out.pres (Pres.below hb4 (Nat.le_refl _))) trivial (tabs_below HTW.out hb4 (by have := tabs_size HTW.out; omega) (by have := tabs_size HTW.out; omega)) HLEN.out)
  have hN4 := Lib.hid (hNW.out.below hb4 hNW.out.lt)
  clear HC HPY
  go_wp2_with fail
  refine HC2.out.mono ?_
  rintro e w5 ⟨rfl, hb5⟩
  have c0 := (hN4.out.below hb5 hN4.out.lt).cell 0 rfl
  have hz : (⟨#[46]⟩ : ByteArray).size + (⟨T.toArray⟩ : ByteArray).size ≤ 9223372036854775807 := by
    have h2 := HL0.out
    show 1 + T.toArray.size ≤ _
    rw [List.size_toArray]; omega
  clear HC2
  go_wp2_with fail
  go_ret
  refine ⟨ret_bool ?_, hbw.trans ((hb4.mono hbw.size).trans (hb5.mono (Nat.le_trans hbw.size hb4.size)))⟩
  rw [ByteArray.toList_eq, ByteArray.data_append]
  simp

set_option maxHeartbeats 1000000 in
theorem lawI (nm : ByteArray) (sl hs : Bool) (sk : Int) (st : ByteArray) (he : Bool) (ek : Int) (en : ByteArray) (w : World) (hl1 : nm.size ≤ maxLen) (hl2 : st.size ≤ maxLen) (hl3 : en.size ≤ maxLen) (hT : Lib.Utf8Tabs 0 1 w) :
    Calls Tryd.prog 3 #[.agg #[.string nm, .bool sl, .bool hs, .int .i64 sk, .string st, .bool he, .int .i64 ek, .string en]] w fun e w' => e = .returned (.bool true) ∧ Below w.heap.size w w' := by
  by_cases h : nm.size + st.size + en.size ≤ 1048576
  · by_cases hnm : nm.size = 0
    · obtain rfl : nm = ⟨#[]⟩ := by
        apply ByteArray.ext
        exact Array.eq_empty_of_size_eq_zero hnm
      cases sl with
      | true => exact lawI_slice hs sk st he ek en w h hT
      | false =>
        cases hs with
        | true => exact lawI_one sk st he ek en w h hT
        | false =>
          have hf : fit3 (⟨#[]⟩ : ByteArray).size st.size en.size = true := by unfold fit3; simpa using h
          have hout : outB ⟨#[]⟩ false false = true := by unfold outB; rw [empty_iff rfl]; rfl
          have hf0 : fit3 0 st.size en.size = true := hf
          have hB0 : Nd w.heap.size 23 #[.string ⟨#[]⟩, .bool false, .bool false, .int .i64 sk, .string st, .bool he, .int .i64 ek, .string en] (w.alloc (.cells #[.string ⟨#[]⟩, .bool false, .bool false, .int .i64 sk, .string st, .bool he, .int .i64 ek, .string en] 23)) := Nd.new _ _ _
          have hbW : Below w.heap.size w (w.alloc (.cells #[.string ⟨#[]⟩, .bool false, .bool false, .int .i64 sk, .string st, .bool he, .int .i64 ek, .string en] 23)) := (Below.refl _ _).alloc (Nat.le_refl _) _
          have HB0 := Lib.hid hB0
          clear hB0 hT hnm
          go_enter Tryd.func3, Tryd.ntmps3
          go_wp2_with fail
          refine (bytesI_any ⟨#[]⟩ false false sk st he ek en _ hl1 hl2 hl3).mono ?_
          rintro e w1 ⟨rfl, hb1⟩
          have hN1 := HB0.out.below hb1 HB0.out.lt
          have hbw1 := hbW.trans (hb1.mono hbW.size)
          have c0 := hN1.cell 0 rfl
          have c1 := hN1.cell 1 rfl
          have c2 := hN1.cell 2 rfl
          have c3 := hN1.cell 3 rfl
          have c4 := hN1.cell 4 rfl
          have c5 := hN1.cell 5 rfl
          have c6 := hN1.cell 6 rfl
          have c7 := hN1.cell 7 rfl
          clear hN1 HB0 hbW hb1
          go_wp2_with fail
          refine (out_any ⟨#[]⟩ false false sk st he ek en _ h).mono ?_
          rintro e w2 ⟨rfl, hb2⟩
          go_wp2_with fail
          go_ret
          exact ⟨rfl, hbw1.trans (hb2.mono hbw1.size)⟩
    · exact lawI_name nm sl hs sk st he ek en w h hT hnm
  · have hf : fit3 nm.size st.size en.size = false := by unfold fit3; simpa using h
    have hbW : Below w.heap.size w (w.alloc (.cells #[.string nm, .bool sl, .bool hs, .int .i64 sk, .string st, .bool he, .int .i64 ek, .string en] 23)) := (Below.refl _ _).alloc (Nat.le_refl _) _
    clear hT h
    go_enter Tryd.func3, Tryd.ntmps3
    go_wp2_with fail
    refine (bytesI_any nm sl hs sk st he ek en _ hl1 hl2 hl3).mono ?_
    rintro e w1 ⟨rfl, hb1⟩
    go_wp2_with fail
    go_ret
    exact ⟨rfl, hbW.trans (hb1.mono hbW.size)⟩
end Go.Proofs.YthfhfocdbkieoaaDoor
