/- Contracts of writeTo, node by node (printed by wip/tools/gen_nodes.py: term:Identity term:Recurse term:Null term:True term:False term:Index term:Number term:Unary unary index query term:Query). -/
import Derived.Test.YtkabnbopakfknaaDoorSpell
namespace Go.Proofs.YtkabnbopakfknaaDoor
open Go.RowKit

set_option maxRecDepth 100000 in
theorem prints_term_Identity {t : Nat} {w : World} (ht : Nd t 56 #[.int .i64 1, .pointer none, .pointer none, .pointer none, .pointer none, .string ByteArray.empty, .pointer none, .string ByteArray.empty, .pointer none, .pointer none, .pointer none, .pointer none, .pointer none, .pointer none, .string ByteArray.empty, .pointer none, .slice none 0 0] w) : Prints 28 t Any ([46]) w := by
  intro B b pre w0 hp hb hB hB2 hT hok hlen
  have ht0 := ht.pres hp (by decide) (by decide)
  have c0 := ht0.cell 0 rfl
  have c16 := ht0.cell 16 rfl
  have HC := Lib.hid (wByte (B := B) (b := b) (l := pre) (w := w0) 46 hb (by simp at hlen; omega) hB)
  have HH := Lib.hid ht0
  clear ht0 ht hp hT hok hlen
  go_enter Tryd.func28, Tryd.ntmps28
  go_wp2_with fail
  refine HC.out.mono ?_
  rintro e w1 ⟨rfl, hb1, hk1⟩
  have d16 := (HH.out.pres (hk1.pres hb) (by decide) (by decide)).cell 16 rfl
  clear c0 c16
  go_wp2_with fail
  refine wp_loop_rounds 1 ?_
  rw [rounds_succ]
  go_wp2_with fail
  go_end0
  exact ⟨rfl, hb1, hk1⟩

set_option maxRecDepth 100000 in
theorem prints_term_Recurse {t : Nat} {w : World} (ht : Nd t 56 #[.int .i64 2, .pointer none, .pointer none, .pointer none, .pointer none, .string ByteArray.empty, .pointer none, .string ByteArray.empty, .pointer none, .pointer none, .pointer none, .pointer none, .pointer none, .pointer none, .string ByteArray.empty, .pointer none, .slice none 0 0] w) : Prints 28 t Any ([46, 46]) w := by
  intro B b pre w0 hp hb hB hB2 hT hok hlen
  have ht0 := ht.pres hp (by decide) (by decide)
  have c0 := ht0.cell 0 rfl
  have c16 := ht0.cell 16 rfl
  have HC := Lib.hid (wStr (B := B) (b := b) (l := pre) (w := w0) ⟨#[46, 46]⟩ hb (by simp [ByteArray.size] at hlen ⊢; omega) hB)
  have HH := Lib.hid ht0
  clear ht0 ht hp hT hok hlen
  go_enter Tryd.func28, Tryd.ntmps28
  go_wp2_with fail
  refine HC.out.mono ?_
  rintro e w1 ⟨rfl, hb1, hk1⟩
  have d16 := (HH.out.pres (hk1.pres hb) (by decide) (by decide)).cell 16 rfl
  clear c0 c16
  go_wp2_with fail
  refine wp_loop_rounds 1 ?_
  rw [rounds_succ]
  go_wp2_with fail
  go_end0
  exact ⟨rfl, hb1, hk1⟩

set_option maxRecDepth 100000 in
theorem prints_term_Null {t : Nat} {w : World} (ht : Nd t 56 #[.int .i64 3, .pointer none, .pointer none, .pointer none, .pointer none, .string ByteArray.empty, .pointer none, .string ByteArray.empty, .pointer none, .pointer none, .pointer none, .pointer none, .pointer none, .pointer none, .string ByteArray.empty, .pointer none, .slice none 0 0] w) : Prints 28 t Any ([110, 117, 108, 108]) w := by
  intro B b pre w0 hp hb hB hB2 hT hok hlen
  have ht0 := ht.pres hp (by decide) (by decide)
  have c0 := ht0.cell 0 rfl
  have c16 := ht0.cell 16 rfl
  have HC := Lib.hid (wStr (B := B) (b := b) (l := pre) (w := w0) ⟨#[110, 117, 108, 108]⟩ hb (by simp [ByteArray.size] at hlen ⊢; omega) hB)
  have HH := Lib.hid ht0
  clear ht0 ht hp hT hok hlen
  go_enter Tryd.func28, Tryd.ntmps28
  go_wp2_with fail
  refine HC.out.mono ?_
  rintro e w1 ⟨rfl, hb1, hk1⟩
  have d16 := (HH.out.pres (hk1.pres hb) (by decide) (by decide)).cell 16 rfl
  clear c0 c16
  go_wp2_with fail
  refine wp_loop_rounds 1 ?_
  rw [rounds_succ]
  go_wp2_with fail
  go_end0
  exact ⟨rfl, hb1, hk1⟩

set_option maxRecDepth 100000 in
theorem prints_term_True {t : Nat} {w : World} (ht : Nd t 56 #[.int .i64 4, .pointer none, .pointer none, .pointer none, .pointer none, .string ByteArray.empty, .pointer none, .string ByteArray.empty, .pointer none, .pointer none, .pointer none, .pointer none, .pointer none, .pointer none, .string ByteArray.empty, .pointer none, .slice none 0 0] w) : Prints 28 t Any ([116, 114, 117, 101]) w := by
  intro B b pre w0 hp hb hB hB2 hT hok hlen
  have ht0 := ht.pres hp (by decide) (by decide)
  have c0 := ht0.cell 0 rfl
  have c16 := ht0.cell 16 rfl
  have HC := Lib.hid (wStr (B := B) (b := b) (l := pre) (w := w0) ⟨#[116, 114, 117, 101]⟩ hb (by simp [ByteArray.size] at hlen ⊢; omega) hB)
  have HH := Lib.hid ht0
  clear ht0 ht hp hT hok hlen
  go_enter Tryd.func28, Tryd.ntmps28
  go_wp2_with fail
  refine HC.out.mono ?_
  rintro e w1 ⟨rfl, hb1, hk1⟩
  have d16 := (HH.out.pres (hk1.pres hb) (by decide) (by decide)).cell 16 rfl
  clear c0 c16
  go_wp2_with fail
  refine wp_loop_rounds 1 ?_
  rw [rounds_succ]
  go_wp2_with fail
  go_end0
  exact ⟨rfl, hb1, hk1⟩

set_option maxRecDepth 100000 in
theorem prints_term_False {t : Nat} {w : World} (ht : Nd t 56 #[.int .i64 5, .pointer none, .pointer none, .pointer none, .pointer none, .string ByteArray.empty, .pointer none, .string ByteArray.empty, .pointer none, .pointer none, .pointer none, .pointer none, .pointer none, .pointer none, .string ByteArray.empty, .pointer none, .slice none 0 0] w) : Prints 28 t Any ([102, 97, 108, 115, 101]) w := by
  intro B b pre w0 hp hb hB hB2 hT hok hlen
  have ht0 := ht.pres hp (by decide) (by decide)
  have c0 := ht0.cell 0 rfl
  have c16 := ht0.cell 16 rfl
  have HC := Lib.hid (wStr (B := B) (b := b) (l := pre) (w := w0) ⟨#[102, 97, 108, 115, 101]⟩ hb (by simp [ByteArray.size] at hlen ⊢; omega) hB)
  have HH := Lib.hid ht0
  clear ht0 ht hp hT hok hlen
  go_enter Tryd.func28, Tryd.ntmps28
  go_wp2_with fail
  refine HC.out.mono ?_
  rintro e w1 ⟨rfl, hb1, hk1⟩
  have d16 := (HH.out.pres (hk1.pres hb) (by decide) (by decide)).cell 16 rfl
  clear c0 c16
  go_wp2_with fail
  refine wp_loop_rounds 1 ?_
  rw [rounds_succ]
  go_wp2_with fail
  go_end0
  exact ⟨rfl, hb1, hk1⟩

set_option maxRecDepth 100000 in
theorem prints_term_Index {t x : Nat} {ok : List UInt8 → Prop} {T : List UInt8} {w : World} (ht : Nd t 56 #[.int .i64 6, .pointer (some ⟨x, 0, none⟩), .pointer none, .pointer none, .pointer none, .string ByteArray.empty, .pointer none, .string ByteArray.empty, .pointer none, .pointer none, .pointer none, .pointer none, .pointer none, .pointer none, .string ByteArray.empty, .pointer none, .slice none 0 0] w) (hx : Prints 32 x ok T w) : Prints 28 t ok T w := by
  intro B b pre w0 hp hb hB hB2 hT hok hlen
  have ht0 := ht.pres hp (by decide) (by decide)
  have c0 := ht0.cell 0 rfl
  have c1 := ht0.cell 1 rfl
  have c16 := ht0.cell 16 rfl
  have HC := Lib.hid (hx B b pre w0 hp hb hB hB2 hT hok hlen)
  have HH := Lib.hid ht0
  clear ht0 ht hp hT hok hlen hx
  go_enter Tryd.func28, Tryd.ntmps28
  go_wp2_with fail
  refine HC.out.mono ?_
  rintro e w1 ⟨rfl, hb1, hk1⟩
  have d16 := (HH.out.pres (hk1.pres hb) (by decide) (by decide)).cell 16 rfl
  clear c0 c16
  go_wp2_with fail
  refine wp_loop_rounds 1 ?_
  rw [rounds_succ]
  go_wp2_with fail
  go_end0
  exact ⟨rfl, hb1, hk1⟩

set_option maxRecDepth 100000 in
theorem prints_term_Number {t : Nat} {s : ByteArray} {w : World} (ht : Nd t 56 #[.int .i64 10, .pointer none, .pointer none, .pointer none, .pointer none, .string s, .pointer none, .string ByteArray.empty, .pointer none, .pointer none, .pointer none, .pointer none, .pointer none, .pointer none, .string ByteArray.empty, .pointer none, .slice none 0 0] w) : Prints 28 t Any (s.data.toList) w := by
  intro B b pre w0 hp hb hB hB2 hT hok hlen
  have ht0 := ht.pres hp (by decide) (by decide)
  have c0 := ht0.cell 0 rfl
  have c5 := ht0.cell 5 rfl
  have c16 := ht0.cell 16 rfl
  have HC := Lib.hid (wStr (B := B) (b := b) (l := pre) (w := w0) s hb (by have : s.data.toList.length = s.size := rfl; omega) hB)
  have HH := Lib.hid ht0
  clear ht0 ht hp hT hok hlen
  go_enter Tryd.func28, Tryd.ntmps28
  go_wp2_with fail
  refine HC.out.mono ?_
  rintro e w1 ⟨rfl, hb1, hk1⟩
  have d16 := (HH.out.pres (hk1.pres hb) (by decide) (by decide)).cell 16 rfl
  clear c0 c16
  go_wp2_with fail
  refine wp_loop_rounds 1 ?_
  rw [rounds_succ]
  go_wp2_with fail
  go_end0
  exact ⟨rfl, hb1, hk1⟩

set_option maxRecDepth 100000 in
theorem prints_term_Unary {t x : Nat} {ok : List UInt8 → Prop} {T : List UInt8} {w : World} (ht : Nd t 56 #[.int .i64 11, .pointer none, .pointer none, .pointer none, .pointer none, .string ByteArray.empty, .pointer (some ⟨x, 0, none⟩), .string ByteArray.empty, .pointer none, .pointer none, .pointer none, .pointer none, .pointer none, .pointer none, .string ByteArray.empty, .pointer none, .slice none 0 0] w) (hx : Prints 23 x ok T w) : Prints 28 t ok T w := by
  intro B b pre w0 hp hb hB hB2 hT hok hlen
  have ht0 := ht.pres hp (by decide) (by decide)
  have c0 := ht0.cell 0 rfl
  have c6 := ht0.cell 6 rfl
  have c16 := ht0.cell 16 rfl
  have HC := Lib.hid (hx B b pre w0 hp hb hB hB2 hT hok hlen)
  have HH := Lib.hid ht0
  clear ht0 ht hp hT hok hlen hx
  go_enter Tryd.func28, Tryd.ntmps28
  go_wp2_with fail
  refine HC.out.mono ?_
  rintro e w1 ⟨rfl, hb1, hk1⟩
  have d16 := (HH.out.pres (hk1.pres hb) (by decide) (by decide)).cell 16 rfl
  clear c0 c16
  go_wp2_with fail
  refine wp_loop_rounds 1 ?_
  rw [rounds_succ]
  go_wp2_with fail
  go_end0
  exact ⟨rfl, hb1, hk1⟩

set_option maxRecDepth 100000 in
theorem prints_unary {u t : Nat} {op : Int} {ok : List UInt8 → Prop} {T : List UInt8} {w : World} (hu : Nd u 41 #[.int .i64 op, .pointer (some ⟨t, 0, none⟩)] w) (h1 : 1 ≤ op) (h2 : op ≤ 24) (hok0 : ∀ pre, ok (pre ++ spell op)) (hx : Prints 28 t ok T w) : Prints 23 u Any (spell op ++ T) w := by
  intro B b pre w0 hp hb hB hB2 hT hok hlen
  have hu0 := hu.pres hp (by decide) (by decide)
  have c0 := hu0.cell 0 rfl
  have c1 := hu0.cell 1 rfl
  have hop := fun w => opStr_any op h1 h2 w
  have HH := Lib.hid hu0
  have HL := Lib.hid hlen
  have HX := Lib.hid hx
  have HO := Lib.hid hok0
  have HP := Lib.hid hp
  have HT := Lib.hid hT
  have HOP := Lib.hid hop
  clear hu0 hu hp hT hok hlen hx hok0 hop
  go_enter Tryd.func23, Tryd.ntmps23
  go_wp2_with fail
  refine (HOP.out _).mono ?_
  rintro e w' ⟨rfl, rfl⟩
  go_wp2_with fail
  refine (wStr ⟨(spell op).toArray⟩ hb (by have := HL.out; simp [ByteArray.size] at this ⊢; omega) hB).mono ?_
  rintro e w1 ⟨rfl, hb1, hk1⟩
  have H1 := HH.out.pres (hk1.pres hb) (by decide) (by decide)
  have d1 := H1.cell 1 rfl
  have HP1 := Lib.hid (HP.out.trans (hk1.pres hb))
  have hB1 := Nat.le_trans hB hk1.size
  have HT1 := Lib.hid (tabs_kept HT.out hk1 hB2)
  clear c0 c1 HP HH HT H1
  go_wp2_with fail
  refine (HX.out B b _ _ HP1.out hb1.is hB1 hB2 HT1.out (HO.out _) (by have := HL.out; simp at this ⊢; omega)).mono ?_
  rintro e w2 ⟨rfl, hb2, hk2⟩
  go_wp2_with fail
  go_end0
  exact ⟨rfl, by simpa [List.append_assoc] using hb2, hk1.trans hk2⟩

set_option maxRecDepth 100000 in
theorem suffix_name {x : Nat} {s : ByteArray} {w : World} (hx : Nd x 76 #[.string s, .pointer none, .pointer none, .pointer none, .bool false] w) (hs : s.size ≠ 0) : Prints 49 x Any s.data.toList w := by
  intro B b pre w0 hp hb hB hB2 hT hok hlen
  have hx0 := hx.pres hp (by decide) (by decide)
  have c0 := hx0.cell 0 rfl
  have hne : s.toList.isEmpty = false := ne_empty hs
  have HC := Lib.hid (wStr s hb (by have : s.data.toList.length = s.size := rfl; omega) hB)
  clear hx0 hx hp hT hok hlen hb hB hB2
  go_enter Tryd.func49, Tryd.ntmps49
  go_wp2_with fail
  refine HC.out.mono ?_
  rintro e w1 ⟨rfl, hb1, hk1⟩
  go_wp2_with fail
  go_end0
  exact ⟨rfl, hb1, hk1⟩

set_option maxRecDepth 100000 in
theorem prints_index {x : Nat} {T : List UInt8} {w : World} (hx : Prints 49 x Any T w) : Prints 32 x Safe ([46] ++ T) w := by
  intro B b pre w0 hp hb hB hB2 hT hok hlen
  have HX := Lib.hid hx
  have HL := Lib.hid hlen
  have HP := Lib.hid hp
  have HT := Lib.hid hT
  have HO := Lib.hid hok
  clear hp hT hok hlen hx
  by_cases hpre : pre = []
  · subst hpre
    go_enter Tryd.func32, Tryd.ntmps32
    go_wp2_with fail
    refine (bLen hb).mono ?_
    rintro e w' ⟨rfl, rfl⟩
    go_wp2_with fail
    refine (wByte 46 hb (by decide) hB).mono ?_
    rintro e w1 ⟨rfl, hb1, hk1⟩
    have HP1 := Lib.hid (HP.out.trans (hk1.pres hb))
    have hB1 := Nat.le_trans hB hk1.size
    have HT1 := Lib.hid (tabs_kept HT.out hk1 hB2)
    clear HP HT
    go_wp2_with fail
    refine (HX.out B b _ _ HP1.out hb1.is hB1 hB2 HT1.out trivial (by have := HL.out; simp at this ⊢; omega)).mono ?_
    rintro e w2 ⟨rfl, hb2, hk2⟩
    go_wp2_with fail
    go_end0
    exact ⟨rfl, by simpa [List.append_assoc] using hb2, hk1.trans hk2⟩
  · have hpl : 0 < pre.length := List.length_pos_iff.2 hpre
    have hi : pre.length - 1 < (⟨pre.toArray⟩ : ByteArray).size := by simp [ByteArray.size]; omega
    have hsafe := HO.out ((⟨pre.toArray⟩ : ByteArray)[pre.length - 1]) (by rw [List.getLast?_eq_getElem?, List.getElem?_eq_getElem (by omega)]; rfl)
    have n46 : (((⟨pre.toArray⟩ : ByteArray)[pre.length - 1].toNat : Int) == 46) = false := by simp; omega
    have hcase : ((⟨pre.toArray⟩ : ByteArray)[pre.length - 1].toNat : Int) < 48 ∨ 57 < ((⟨pre.toArray⟩ : ByteArray)[pre.length - 1].toNat : Int) := by omega
    have hlm : pre.length ≤ 10000000000 := by have := HL.out; omega
    have hz : pre.length - 1 < (⟨pre.toArray⟩ : ByteArray).size := hi
    clear hsafe
    rcases hcase with hlow | hhigh
    all_goals
      go_enter Tryd.func32, Tryd.ntmps32
      go_wp2_with fail
      refine (bLen hb).mono ?_
      rintro e w' ⟨rfl, rfl⟩
      go_wp2_with fail
      refine (bString2 hb hB).mono ?_
      rintro e w1 ⟨rfl, hb1, hk1⟩
      have HP1 := Lib.hid (HP.out.trans (hk1.pres hb))
      have hB1 := Nat.le_trans hB hk1.size
      have HT1 := Lib.hid (tabs_kept HT.out hk1 hB2)
      clear HP HT
      go_wp2_with fail
      refine (wByte 46 hb1 (by have := HL.out; simp at this; omega) hB1).mono ?_
      rintro e w2 ⟨rfl, hb2, hk2⟩
      have HP2 := Lib.hid (HP1.out.trans (hk2.pres hb1))
      have hB2' := Nat.le_trans hB1 hk2.size
      have HT2 := Lib.hid (tabs_kept HT1.out hk2 hB2)
      clear HP1 HT1
      go_wp2_with fail
      refine (HX.out B b _ _ HP2.out hb2.is hB2' hB2 HT2.out trivial (by have := HL.out; simp at this ⊢; omega)).mono ?_
      rintro e w3 ⟨rfl, hb3, hk3⟩
      go_wp2_with fail
      go_end0
      exact ⟨rfl, by simpa [List.append_assoc] using hb3, hk1.trans (hk2.trans hk3)⟩

set_option maxRecDepth 100000 in
theorem prints_query {q t : Nat} {ok : List UInt8 → Prop} {T : List UInt8} {w : World} (hq : Nd q 94 #[.pointer none, .slice none 0 0, .slice none 0 0, .pointer (some ⟨t, 0, none⟩), .pointer none, .pointer none, .slice none 0 0, .int .i64 0] w) (hx : Prints 28 t ok T w) : Prints 31 q ok T w := by
  intro B b pre w0 hp hb hB hB2 hT hok hlen
  have ht0 := hq.pres hp (by decide) (by decide)
  have c0 := ht0.cell 0 rfl
  have c1 := ht0.cell 1 rfl
  have c2 := ht0.cell 2 rfl
  have c3 := ht0.cell 3 rfl
  have HC := Lib.hid (hx B b pre w0 hp hb hB hB2 hT hok hlen)
  clear ht0 hq hp hT hok hlen hx hb hB hB2
  go_enter Tryd.func31, Tryd.ntmps31
  go_wp2_with fail
  refine wp_loop_rounds 1 ?_
  rw [rounds_succ]
  go_wp2_with fail
  refine wp_loop_rounds 1 ?_
  rw [rounds_succ]
  go_wp2_with fail
  refine HC.out.mono ?_
  rintro e w1 ⟨rfl, hb1, hk1⟩
  go_wp2_with fail
  go_end0
  exact ⟨rfl, hb1, hk1⟩

set_option maxRecDepth 100000 in
theorem prints_term_Query {t x : Nat} {ok : List UInt8 → Prop} {T : List UInt8} {w : World} (ht : Nd t 56 #[.int .i64 20, .pointer none, .pointer none, .pointer none, .pointer none, .string ByteArray.empty, .pointer none, .string ByteArray.empty, .pointer none, .pointer none, .pointer none, .pointer none, .pointer none, .pointer none, .string ByteArray.empty, .pointer (some ⟨x, 0, none⟩), .slice none 0 0] w) (hx : Prints 31 x ok T w) (hok0 : ∀ pre, ok (pre ++ [40])) : Prints 28 t Any ([40] ++ T ++ [41]) w := by
  intro B b pre w0 hp hb hB hB2 hT hok hlen
  have ht0 := ht.pres hp (by decide) (by decide)
  have c0 := ht0.cell 0 rfl
  have c15 := ht0.cell 15 rfl
  have c16 := ht0.cell 16 rfl
  have HH := Lib.hid ht0
  have HL := Lib.hid hlen
  have HX := Lib.hid hx
  have HO := Lib.hid hok0
  have HP := Lib.hid hp
  have HT := Lib.hid hT
  clear ht0 ht hp hT hok hlen hx hok0
  go_enter Tryd.func28, Tryd.ntmps28
  go_wp2_with fail
  refine (wByte 40 hb (by have := HL.out; simp at this; omega) hB).mono ?_
  rintro e w1 ⟨rfl, hb1, hk1⟩
  have H1 := HH.out.pres (hk1.pres hb) (by decide) (by decide)
  have d15 := H1.cell 15 rfl
  have HP1 := Lib.hid (HP.out.trans (hk1.pres hb))
  have hB1 := Nat.le_trans hB hk1.size
  have HT1 := Lib.hid (tabs_kept HT.out hk1 hB2)
  have H1 := Lib.hid H1
  clear c0 c15 c16 HP HH HT
  go_wp2_with fail
  refine (HX.out B b _ _ HP1.out hb1.is hB1 hB2 HT1.out (HO.out _) (by have := HL.out; simp at this ⊢; omega)).mono ?_
  rintro e w2 ⟨rfl, hb2, hk2⟩
  have H2 := H1.out.pres (hk2.pres hb1.is) (by decide) (by decide)
  have hB3 := Nat.le_trans hB1 hk2.size
  have H2 := Lib.hid H2
  clear d15 H1 HP1 HT1
  go_wp2_with fail
  refine (wByte 41 hb2.is (by have := HL.out; simp at this ⊢; omega) hB3).mono ?_
  rintro e w3 ⟨rfl, hb3, hk3⟩
  have d16 := (H2.out.pres (hk3.pres hb2.is) (by decide) (by decide)).cell 16 rfl
  clear H2
  go_wp2_with fail
  refine wp_loop_rounds 1 ?_
  rw [rounds_succ]
  go_wp2_with fail
  go_end0
  exact ⟨rfl, by simpa [List.append_assoc] using hb3, hk1.trans (hk2.trans hk3)⟩

end Go.Proofs.YtkabnbopakfknaaDoor
