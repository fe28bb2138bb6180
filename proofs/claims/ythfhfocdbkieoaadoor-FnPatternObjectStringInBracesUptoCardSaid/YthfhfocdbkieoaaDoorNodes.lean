/- Contracts of writeTo, node by node (printed by wip/tools/gen_nodes.py: term:Identity term:Index term:Number index query). -/
import Derived.Test.YthfhfocdbkieoaaDoorNodeKit
namespace Go.Proofs.YthfhfocdbkieoaaDoor
open Go.RowKit

set_option maxRecDepth 100000 in
theorem prints_term_Identity {t : Nat} {w : World} (ht : Nd t 77 #[.int .i64 1, .pointer none, .pointer none, .pointer none, .pointer none, .string ByteArray.empty, .pointer none, .string ByteArray.empty, .pointer none, .pointer none, .pointer none, .pointer none, .pointer none, .pointer none, .string ByteArray.empty, .pointer none, .slice none 0 0] w) : Prints 38 t Any ([46]) w := by
  intro B b pre w0 hp hb hB hB2 hT hok hlen
  have ht0 := ht.pres hp (by decide) (by decide)
  have c0 := ht0.cell 0 rfl
  have c16 := ht0.cell 16 rfl
  have HC := Lib.hid (wByte (B := B) (b := b) (l := pre) (w := w0) 46 hb (by simp at hlen; omega) hB)
  have HH := Lib.hid ht0
  clear ht0 ht hp hT hok hlen
  go_enter Tryd.func38, Tryd.ntmps38
  go_wp2_with fail
  refine HC.out.mono ?_
  rintro e w1 ⟨rfl, hb1, hk1⟩
  have d16 := (HH.out.pres (hk1.pres hb) (by decide) (by decide)).cell 16 rfl
  clear c0 c16
  go_wp2_with fail
  refine wp_loop_rounds 1 ?_
  rw [rounds_succ]
  go_wp2_with fail
  go_end0
  exact ⟨rfl, hb1, hk1⟩

set_option maxRecDepth 100000 in
theorem prints_term_Index {t x : Nat} {ok : List UInt8 → Prop} {T : List UInt8} {w : World} (ht : Nd t 77 #[.int .i64 6, .pointer (some ⟨x, 0, none⟩), .pointer none, .pointer none, .pointer none, .string ByteArray.empty, .pointer none, .string ByteArray.empty, .pointer none, .pointer none, .pointer none, .pointer none, .pointer none, .pointer none, .string ByteArray.empty, .pointer none, .slice none 0 0] w) (hx : Prints 18 x ok T w) : Prints 38 t ok T w := by
  intro B b pre w0 hp hb hB hB2 hT hok hlen
  have ht0 := ht.pres hp (by decide) (by decide)
  have c0 := ht0.cell 0 rfl
  have c1 := ht0.cell 1 rfl
  have c16 := ht0.cell 16 rfl
  have HC := Lib.hid (hx B b pre w0 hp hb hB hB2 hT hok hlen)
  have HH := Lib.hid ht0
  clear ht0 ht hp hT hok hlen hx
  go_enter Tryd.func38, Tryd.ntmps38
  go_wp2_with fail
  refine HC.out.mono ?_
  rintro e w1 ⟨rfl, hb1, hk1⟩
  have d16 := (HH.out.pres (hk1.pres hb) (by decide) (by decide)).cell 16 rfl
  clear c0 c16
  go_wp2_with fail
  refine wp_loop_rounds 1 ?_
  rw [rounds_succ]
  go_wp2_with fail
  go_end0
  exact ⟨rfl, hb1, hk1⟩

set_option maxRecDepth 100000 in
theorem prints_term_Number {t : Nat} {s : ByteArray} {w : World} (ht : Nd t 77 #[.int .i64 10, .pointer none, .pointer none, .pointer none, .pointer none, .string s, .pointer none, .string ByteArray.empty, .pointer none, .pointer none, .pointer none, .pointer none, .pointer none, .pointer none, .string ByteArray.empty, .pointer none, .slice none 0 0] w) : Prints 38 t Any (s.data.toList) w := by
  intro B b pre w0 hp hb hB hB2 hT hok hlen
  have ht0 := ht.pres hp (by decide) (by decide)
  have c0 := ht0.cell 0 rfl
  have c5 := ht0.cell 5 rfl
  have c16 := ht0.cell 16 rfl
  have HC := Lib.hid (wStr (B := B) (b := b) (l := pre) (w := w0) s hb (by have : s.data.toList.length = s.size := rfl; omega) hB)
  have HH := Lib.hid ht0
  clear ht0 ht hp hT hok hlen
  go_enter Tryd.func38, Tryd.ntmps38
  go_wp2_with fail
  refine HC.out.mono ?_
  rintro e w1 ⟨rfl, hb1, hk1⟩
  have d16 := (HH.out.pres (hk1.pres hb) (by decide) (by decide)).cell 16 rfl
  clear c0 c16
  go_wp2_with fail
  refine wp_loop_rounds 1 ?_
  rw [rounds_succ]
  go_wp2_with fail
  go_end0
  exact ⟨rfl, hb1, hk1⟩

set_option maxRecDepth 100000 in
theorem suffix_name {x : Nat} {s : ByteArray} {v1 v2 v3 v4 : Value} {w : World} (hx : Nd x 52 #[.string s, v1, v2, v3, v4] w) (hs : s.size ≠ 0) : Prints 28 x Any s.data.toList w := by
  intro B b pre w0 hp hb hB hB2 hT hok hlen
  have hx0 := hx.pres hp (by decide) (by decide)
  have c0 := hx0.cell 0 rfl
  have hne : s.toList.isEmpty = false := ne_empty hs
  have HC := Lib.hid (wStr s hb (by have : s.data.toList.length = s.size := rfl; omega) hB)
  clear hx0 hx hp hT hok hlen hb hB hB2
  go_enter Tryd.func28, Tryd.ntmps28
  go_wp2_with fail
  refine HC.out.mono ?_
  rintro e w1 ⟨rfl, hb1, hk1⟩
  go_wp2_with fail
  go_end0
  exact ⟨rfl, hb1, hk1⟩

set_option maxRecDepth 100000 in
theorem prints_index {x : Nat} {T : List UInt8} {w : World} (hx : Prints 28 x Any T w) : Prints 18 x Safe ([46] ++ T) w := by
  intro B b pre w0 hp hb hB hB2 hT hok hlen
  have HX := Lib.hid hx
  have HL := Lib.hid hlen
  have HP := Lib.hid hp
  have HT := Lib.hid hT
  have HO := Lib.hid hok
  clear hp hT hok hlen hx
  by_cases hpre : pre = []
  · subst hpre
    go_enter Tryd.func18, Tryd.ntmps18
    go_wp2_with fail
    refine (bLen hb).mono ?_
    rintro e w' ⟨rfl, rfl⟩
    go_wp2_with fail
    refine (wByte 46 hb (by decide) hB).mono ?_
    rintro e w1 ⟨rfl, hb1, hk1⟩
    have HP1 := Lib.hid (HP.out.trans (hk1.pres hb))
    have hB1 := Nat.le_trans hB hk1.size
    have HT1 := Lib.hid (tabs_kept HT.out hk1 hB2)
    clear HP HT
    go_wp2_with fail
    refine (HX.out B b _ _ HP1.out hb1.is hB1 hB2 HT1.out trivial (by have := HL.out; simp at this ⊢; omega)).mono ?_
    rintro e w2 ⟨rfl, hb2, hk2⟩
    go_wp2_with fail
    go_end0
    exact ⟨rfl, by simpa [List.append_assoc] using hb2, hk1.trans hk2⟩
  · have hpl : 0 < pre.length := List.length_pos_iff.2 hpre
    have hi : pre.length - 1 < (⟨pre.toArray⟩ : ByteArray).size := by simp [ByteArray.size]; omega
    have hsafe := HO.out ((⟨pre.toArray⟩ : ByteArray)[pre.length - 1]) (by rw [List.getLast?_eq_getElem?, List.getElem?_eq_getElem (by omega)]; rfl)
    have n46 : (((⟨pre.toArray⟩ : ByteArray)[pre.length - 1].toNat : Int) == 46) = false := by simp; omega
    have hcase : ((⟨pre.toArray⟩ : ByteArray)[pre.length - 1].toNat : Int) < 48 ∨ 57 < ((⟨pre.toArray⟩ : ByteArray)[pre.length - 1].toNat : Int) := by omega
    have hlm : pre.length ≤ 10000000000 := by have := HL.out; omega
    have hz : pre.length - 1 < (⟨pre.toArray⟩ : ByteArray).size := hi
    clear hsafe
    rcases hcase with hlow | hhigh
    all_goals
      go_enter Tryd.func18, Tryd.ntmps18
      go_wp2_with fail
      refine (bLen hb).mono ?_
      rintro e w' ⟨rfl, rfl⟩
      go_wp2_with fail
      refine (bString2 hb hB).mono ?_
      rintro e w1 ⟨rfl, hb1, hk1⟩
      have HP1 := Lib.hid (HP.out.trans (hk1.pres hb))
      have hB1 := Nat.le_trans hB hk1.size
      have HT1 := Lib.hid (tabs_kept HT.out hk1 hB2)
      clear HP HT
      go_wp2_with fail
      refine (wByte 46 hb1 (by have := HL.out; simp at this; omega) hB1).mono ?_
      rintro e w2 ⟨rfl, hb2, hk2⟩
      have HP2 := Lib.hid (HP1.out.trans (hk2.pres hb1))
      have hB2' := Nat.le_trans hB1 hk2.size
      have HT2 := Lib.hid (tabs_kept HT1.out hk2 hB2)
      clear HP1 HT1
      go_wp2_with fail
      refine (HX.out B b _ _ HP2.out hb2.is hB2' hB2 HT2.out trivial (by have := HL.out; simp at this ⊢; omega)).mono ?_
      rintro e w3 ⟨rfl, hb3, hk3⟩
      go_wp2_with fail
      go_end0
      exact ⟨rfl, by simpa [List.append_assoc] using hb3, hk1.trans (hk2.trans hk3)⟩

set_option maxRecDepth 100000 in
theorem prints_query {q t : Nat} {ok : List UInt8 → Prop} {T : List UInt8} {w : World} (hq : Nd q 83 #[.pointer none, .slice none 0 0, .slice none 0 0, .pointer (some ⟨t, 0, none⟩), .pointer none, .pointer none, .slice none 0 0, .int .i64 0] w) (hx : Prints 38 t ok T w) : Prints 31 q ok T w := by
  intro B b pre w0 hp hb hB hB2 hT hok hlen
  have ht0 := hq.pres hp (by decide) (by decide)
  have c0 := ht0.cell 0 rfl
  have c1 := ht0.cell 1 rfl
  have c2 := ht0.cell 2 rfl
  have c3 := ht0.cell 3 rfl
  have HC := Lib.hid (hx B b pre w0 hp hb hB hB2 hT hok hlen)
  clear ht0 hq hp hT hok hlen hx hb hB hB2
  go_enter Tryd.func31, Tryd.ntmps31
  go_wp2_with fail
  refine wp_loop_rounds 1 ?_
  rw [rounds_succ]
  go_wp2_with fail
  refine wp_loop_rounds 1 ?_
  rw [rounds_succ]
  go_wp2_with fail
  refine HC.out.mono ?_
  rintro e w1 ⟨rfl, hb1, hk1⟩
  go_wp2_with fail
  go_end0
  exact ⟨rfl, hb1, hk1⟩

end Go.Proofs.YthfhfocdbkieoaaDoor
