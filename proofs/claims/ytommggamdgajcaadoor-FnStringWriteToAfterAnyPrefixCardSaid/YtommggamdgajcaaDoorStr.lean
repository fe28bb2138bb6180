/- Contracts of writeTo, node by node (printed by wip/tools/gen_nodes.py: str:String after:ZZStringWriteTo_n001_49:String str:Func after:ZZFuncWriteTo_n001_49:Func str:Query). -/
import Derived.Test.YtommggamdgajcaaDoorNodeKit
namespace Go.Proofs.YtommggamdgajcaaDoor
open Go.RowKit

theorem str_String {p : Nat} {ok : List UInt8 → Prop} {T : List UInt8} {w : World} (h : Prints 30 p ok T w) (h0 : ok []) (hT : Lib.Utf8Tabs 0 1 w) (hlen : T.length ≤ 10000000000) :
    Calls Tryd.prog 11 #[.pointer (some ⟨p, 0, none⟩)] w (Str w T) := by
  have h2 := tabs_size hT
  have hfr := fresh_is w
  have hbw : Below w.heap.size w (w.alloc (.cells #[.pointer none, .slice none 0 0] 73)) := (Below.refl _ _).alloc (Nat.le_refl _) _
  have HC := Lib.hid (h w.heap.size w.heap.size [] (w.alloc (.cells #[.pointer none, .slice none 0 0] 73)) (Pres.below hbw (Nat.le_refl _)) hfr hbw.size h2 (tabs_below hT hbw (by omega) (by omega)) h0 (by simpa using hlen))
  have HB := Lib.hid hbw
  clear h hT hfr hbw
  go_enter Tryd.func11, Tryd.ntmps11
  go_wp2_with fail
  refine HC.out.mono ?_
  rintro e w1 ⟨rfl, hb1, hk1⟩
  have hB1 : w.heap.size ≤ w1.heap.size := Nat.le_trans HB.out.size hk1.size
  clear HC
  go_wp2_with fail
  refine (bString2 hb1.is hB1).mono ?_
  rintro e w2 ⟨rfl, hb2, hk2⟩
  go_wp2_with fail
  go_ret
  exact ⟨rfl, HB.out.trans (hk1.1.trans hk2.1)⟩

theorem after_String {p : Nat} {ok : List UInt8 → Prop} {T : List UInt8} (s : ByteArray) {w : World} (h : Prints 30 p ok T w) (h0 : ok s.data.toList) (hT : Lib.Utf8Tabs 0 1 w) (hlen : s.size + T.length ≤ 10000000000) :
    Calls Tryd.prog 29 #[.pointer (some ⟨p, 0, none⟩), .string s] w (Str w (s.data.toList ++ T)) := by
  have h2 := tabs_size hT
  have hfr := fresh_is w
  have hbw : Below w.heap.size w (w.alloc (.cells #[.pointer none, .slice none 0 0] 73)) := (Below.refl _ _).alloc (Nat.le_refl _) _
  have HC0 := Lib.hid (wStr s hfr (by simp; omega) hbw.size)
  have HB := Lib.hid hbw
  have HF := Lib.hid hfr
  have H := Lib.hid h
  have HT := Lib.hid hT
  have H0 := Lib.hid h0
  clear h hT hfr hbw h0
  go_enter Tryd.func29, Tryd.ntmps29
  go_wp2_with fail
  refine HC0.out.mono ?_
  rintro e w1 ⟨rfl, hb1, hk1⟩
  rw [List.nil_append] at hb1
  have hB1 : w.heap.size ≤ w1.heap.size := Nat.le_trans HB.out.size hk1.size
  have hbw1 := HB.out.trans hk1.1
  have HC := Lib.hid (H.out w.heap.size w.heap.size s.data.toList w1 ((Pres.below HB.out (Nat.le_refl _)).trans (hk1.pres HF.out)) hb1.is hB1 h2 (tabs_below HT.out hbw1 (by omega) (by omega)) H0.out hlen)
  clear HC0
  go_wp2_with fail
  refine HC.out.mono ?_
  rintro e w2 ⟨rfl, hb2, hk2⟩
  have hB2 : w.heap.size ≤ w2.heap.size := Nat.le_trans hB1 hk2.size
  clear HC
  go_wp2_with fail
  refine (bString2 hb2.is hB2).mono ?_
  rintro e w3 ⟨rfl, hb3, hk3⟩
  go_wp2_with fail
  go_ret
  exact ⟨rfl, hbw1.trans (hk2.1.trans hk3.1)⟩

theorem str_Func {p : Nat} {ok : List UInt8 → Prop} {T : List UInt8} {w : World} (h : Prints 36 p ok T w) (h0 : ok []) (hT : Lib.Utf8Tabs 0 1 w) (hlen : T.length ≤ 10000000000) :
    Calls Tryd.prog 23 #[.pointer (some ⟨p, 0, none⟩)] w (Str w T) := by
  have h2 := tabs_size hT
  have hfr := fresh_is w
  have hbw : Below w.heap.size w (w.alloc (.cells #[.pointer none, .slice none 0 0] 73)) := (Below.refl _ _).alloc (Nat.le_refl _) _
  have HC := Lib.hid (h w.heap.size w.heap.size [] (w.alloc (.cells #[.pointer none, .slice none 0 0] 73)) (Pres.below hbw (Nat.le_refl _)) hfr hbw.size h2 (tabs_below hT hbw (by omega) (by omega)) h0 (by simpa using hlen))
  have HB := Lib.hid hbw
  clear h hT hfr hbw
  go_enter Tryd.func23, Tryd.ntmps23
  go_wp2_with fail
  refine HC.out.mono ?_
  rintro e w1 ⟨rfl, hb1, hk1⟩
  have hB1 : w.heap.size ≤ w1.heap.size := Nat.le_trans HB.out.size hk1.size
  clear HC
  go_wp2_with fail
  refine (bString2 hb1.is hB1).mono ?_
  rintro e w2 ⟨rfl, hb2, hk2⟩
  go_wp2_with fail
  go_ret
  exact ⟨rfl, HB.out.trans (hk1.1.trans hk2.1)⟩

theorem after_Func {p : Nat} {ok : List UInt8 → Prop} {T : List UInt8} (s : ByteArray) {w : World} (h : Prints 36 p ok T w) (h0 : ok s.data.toList) (hT : Lib.Utf8Tabs 0 1 w) (hlen : s.size + T.length ≤ 10000000000) :
    Calls Tryd.prog 20 #[.pointer (some ⟨p, 0, none⟩), .string s] w (Str w (s.data.toList ++ T)) := by
  have h2 := tabs_size hT
  have hfr := fresh_is w
  have hbw : Below w.heap.size w (w.alloc (.cells #[.pointer none, .slice none 0 0] 73)) := (Below.refl _ _).alloc (Nat.le_refl _) _
  have HC0 := Lib.hid (wStr s hfr (by simp; omega) hbw.size)
  have HB := Lib.hid hbw
  have HF := Lib.hid hfr
  have H := Lib.hid h
  have HT := Lib.hid hT
  have H0 := Lib.hid h0
  clear h hT hfr hbw h0
  go_enter Tryd.func20, Tryd.ntmps20
  go_wp2_with fail
  refine HC0.out.mono ?_
  rintro e w1 ⟨rfl, hb1, hk1⟩
  rw [List.nil_append] at hb1
  have hB1 : w.heap.size ≤ w1.heap.size := Nat.le_trans HB.out.size hk1.size
  have hbw1 := HB.out.trans hk1.1
  have HC := Lib.hid (H.out w.heap.size w.heap.size s.data.toList w1 ((Pres.below HB.out (Nat.le_refl _)).trans (hk1.pres HF.out)) hb1.is hB1 h2 (tabs_below HT.out hbw1 (by omega) (by omega)) H0.out hlen)
  clear HC0
  go_wp2_with fail
  refine HC.out.mono ?_
  rintro e w2 ⟨rfl, hb2, hk2⟩
  have hB2 : w.heap.size ≤ w2.heap.size := Nat.le_trans hB1 hk2.size
  clear HC
  go_wp2_with fail
  refine (bString2 hb2.is hB2).mono ?_
  rintro e w3 ⟨rfl, hb3, hk3⟩
  go_wp2_with fail
  go_ret
  exact ⟨rfl, hbw1.trans (hk2.1.trans hk3.1)⟩

theorem str_Query {p : Nat} {ok : List UInt8 → Prop} {T : List UInt8} {w : World} (h : Prints 40 p ok T w) (h0 : ok []) (hT : Lib.Utf8Tabs 0 1 w) (hlen : T.length ≤ 10000000000) :
    Calls Tryd.prog 41 #[.pointer (some ⟨p, 0, none⟩)] w (Str w T) := by
  have h2 := tabs_size hT
  have hfr := fresh_is w
  have hbw : Below w.heap.size w (w.alloc (.cells #[.pointer none, .slice none 0 0] 73)) := (Below.refl _ _).alloc (Nat.le_refl _) _
  have HC := Lib.hid (h w.heap.size w.heap.size [] (w.alloc (.cells #[.pointer none, .slice none 0 0] 73)) (Pres.below hbw (Nat.le_refl _)) hfr hbw.size h2 (tabs_below hT hbw (by omega) (by omega)) h0 (by simpa using hlen))
  have HB := Lib.hid hbw
  clear h hT hfr hbw
  go_enter Tryd.func41, Tryd.ntmps41
  go_wp2_with fail
  refine HC.out.mono ?_
  rintro e w1 ⟨rfl, hb1, hk1⟩
  have hB1 : w.heap.size ≤ w1.heap.size := Nat.le_trans HB.out.size hk1.size
  clear HC
  go_wp2_with fail
  refine (bString2 hb1.is hB1).mono ?_
  rintro e w2 ⟨rfl, hb2, hk2⟩
  go_wp2_with fail
  go_ret
  exact ⟨rfl, HB.out.trans (hk1.1.trans hk2.1)⟩

end Go.Proofs.YtommggamdgajcaaDoor
