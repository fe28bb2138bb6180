/- The String methods over nodes that print. -/
import Derived.Test.YthfhfocdbkieoaaDoorInd36
namespace Go.Proofs.YthfhfocdbkieoaaDoor
open Go.RowKit
set_option linter.unusedVariables false

theorem str_Pat {p : Nat} {T : List UInt8} {w : World} (h : Prt 25 p T w) (hT : Lib.Utf8Tabs 0 1 w) (hlen : T.length ≤ 10000000000) :
    Calls Tryd.prog 15 #[.pointer (some ⟨p, 0, none⟩)] w (Str w T) := by
  have h2 := tabs_size hT
  have hfr := fresh_is w
  have hbw : Below w.heap.size w (w.alloc (.cells #[.pointer none, .slice none 0 0] 56)) := (Below.refl _ _).alloc (Nat.le_refl _) _
  have HC := Lib.hid (h w.heap.size w.heap.size [] (w.alloc (.cells #[.pointer none, .slice none 0 0] 56)) (Pres.below hbw (Nat.le_refl _)) hfr hbw.size h2 (tabs_below hT hbw (by omega) (by omega)) (by simpa using hlen))
  have HB := Lib.hid hbw
  clear h hT hfr hbw
  go_enter Tryd.func15, Tryd.ntmps15
  go_wp2_with fail
  refine HC.out.mono ?_
  rintro e w1 ⟨rfl, hb1, hk1⟩
  have hB1 : w.heap.size ≤ w1.heap.size := Nat.le_trans HB.out.size hk1.size
  clear HC
  go_wp2_with fail
  refine (bString2 hb1 hB1).mono ?_
  rintro e w2 ⟨rfl, hb2, hk2⟩
  go_wp2_with fail
  go_ret
  exact ⟨rfl, HB.out.trans (hk1.1.trans hk2.1)⟩
theorem str_Obj {p : Nat} {T : List UInt8} {w : World} (h : Prt 24 p T w) (hT : Lib.Utf8Tabs 0 1 w) (hlen : T.length ≤ 10000000000) :
    Calls Tryd.prog 16 #[.pointer (some ⟨p, 0, none⟩)] w (Str w T) := by
  have h2 := tabs_size hT
  have hfr := fresh_is w
  have hbw : Below w.heap.size w (w.alloc (.cells #[.pointer none, .slice none 0 0] 56)) := (Below.refl _ _).alloc (Nat.le_refl _) _
  have HC := Lib.hid (h w.heap.size w.heap.size [] (w.alloc (.cells #[.pointer none, .slice none 0 0] 56)) (Pres.below hbw (Nat.le_refl _)) hfr hbw.size h2 (tabs_below hT hbw (by omega) (by omega)) (by simpa using hlen))
  have HB := Lib.hid hbw
  clear h hT hfr hbw
  go_enter Tryd.func16, Tryd.ntmps16
  go_wp2_with fail
  refine HC.out.mono ?_
  rintro e w1 ⟨rfl, hb1, hk1⟩
  have hB1 : w.heap.size ≤ w1.heap.size := Nat.le_trans HB.out.size hk1.size
  clear HC
  go_wp2_with fail
  refine (bString2 hb1 hB1).mono ?_
  rintro e w2 ⟨rfl, hb2, hk2⟩
  go_wp2_with fail
  go_ret
  exact ⟨rfl, HB.out.trans (hk1.1.trans hk2.1)⟩
theorem after_Obj {p : Nat} {T : List UInt8} (pre : ByteArray) {w : World} (h : Prt 24 p T w) (hT : Lib.Utf8Tabs 0 1 w) (hlen : pre.size + T.length ≤ 10000000000) :
    Calls Tryd.prog 14 #[.string pre, .pointer (some ⟨p, 0, none⟩)] w (Str w (pre.data.toList ++ T)) := by
  have h2 := tabs_size hT
  have hfr := fresh_is w
  have hbw : Below w.heap.size w (w.alloc (.cells #[.pointer none, .slice none 0 0] 56)) := (Below.refl _ _).alloc (Nat.le_refl _) _
  have e3 : pre.data.toList.length = pre.size := by rw [Array.length_toList]; rfl
  have H := Lib.hid h
  have HT := Lib.hid hT
  have HF := Lib.hid hfr
  have HB := Lib.hid hbw
  have HW := Lib.hid (wStr pre hfr (by simp; omega) hbw.size)
  clear h hT hfr hbw
  go_enter Tryd.func14, Tryd.ntmps14
  go_wp2_with fail
  refine HW.out.mono ?_
  rintro e w1 ⟨rfl, hb1, hk1⟩
  have HC := Lib.hid (H.out w.heap.size w.heap.size ([] ++ pre.data.toList) w1 ((Pres.below HB.out (Nat.le_refl _)).trans (hk1.pres HF.out)) hb1.is (Nat.le_trans HB.out.size hk1.size) h2 (tabs_kept (tabs_below HT.out HB.out (by omega) (by omega)) hk1 h2) (by simp; omega))
  clear HW
  go_wp2_with fail
  refine HC.out.mono ?_
  rintro e w2 ⟨rfl, hb2, hk2⟩
  have hB1 : w.heap.size ≤ w2.heap.size := Nat.le_trans (Nat.le_trans HB.out.size hk1.size) hk2.size
  clear HC
  go_wp2_with fail
  refine (bString2 hb2 hB1).mono ?_
  rintro e w3 ⟨rfl, hb3, hk3⟩
  go_wp2_with fail
  go_ret
  exact ⟨rfl, HB.out.trans (hk1.1.trans (hk2.1.trans hk3.1))⟩
/-- An entry of a key prints its key and its value. -/
theorem po_prt {p : Nat} {k : ByteArray} {v2 : Value} {vo : Option Nat} {T : List UInt8} {w W : World} (hN : Nd p 42 #[.string k, .pointer none, v2, pv vo] W) (hk : k.size ≠ 0) (hV : ∀ x, vo = some x → MadeP (p + 1) w.heap.size 25 x T w) (hs : Same (p + 1) w.heap.size w W) :
    Prt 24 p (k.data.toList ++ valT vo T) W := prints_po_key hN hk (fun x hx => hV x hx W hs)
end Go.Proofs.YthfhfocdbkieoaaDoor
