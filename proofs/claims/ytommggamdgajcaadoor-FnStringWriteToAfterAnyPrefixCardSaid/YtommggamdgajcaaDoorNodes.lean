/- Contracts of writeTo, node by node (printed by wip/tools/gen_nodes.py: term:Func term:Index term:String term:Query index query func). -/
import Derived.Test.YtommggamdgajcaaDoorNodeKit
namespace Go.Proofs.YtommggamdgajcaaDoor
open Go.RowKit

set_option maxRecDepth 100000 in
theorem prints_term_Func {t x : Nat} {ok : List UInt8 → Prop} {T : List UInt8} {w : World} (ht : Nd t 55 #[.int .i64 7, .pointer none, .pointer (some ⟨x, 0, none⟩), .pointer none, .pointer none, .string ByteArray.empty, .pointer none, .string ByteArray.empty, .pointer none, .pointer none, .pointer none, .pointer none, .pointer none, .pointer none, .string ByteArray.empty, .pointer none, .slice none 0 0] w) (hx : Prints 36 x ok T w) : Prints 48 t ok T w := by
  intro B b pre w0 hp hb hB hB2 hT hok hlen
  have ht0 := ht.pres hp (by decide) (by decide)
  have c0 := ht0.cell 0 rfl
  have c2 := ht0.cell 2 rfl
  have c16 := ht0.cell 16 rfl
  have HC := Lib.hid (hx B b pre w0 hp hb hB hB2 hT hok hlen)
  have HH := Lib.hid ht0
  clear ht0 ht hp hT hok hlen hx
  go_enter Tryd.func48, Tryd.ntmps48
  go_wp2_with fail
  refine HC.out.mono ?_
  rintro e w1 ⟨rfl, hb1, hk1⟩
  have d16 := (HH.out.pres (hk1.pres hb) (by decide) (by decide)).cell 16 rfl
  clear c0 c16
  go_wp2_with fail
  refine wp_loop_rounds 1 ?_
  rw [rounds_succ]
  go_wp2_with fail
  go_end0
  exact ⟨rfl, hb1, hk1⟩

set_option maxRecDepth 100000 in
theorem prints_term_Index {t x : Nat} {ok : List UInt8 → Prop} {T : List UInt8} {w : World} (ht : Nd t 55 #[.int .i64 6, .pointer (some ⟨x, 0, none⟩), .pointer none, .pointer none, .pointer none, .string ByteArray.empty, .pointer none, .string ByteArray.empty, .pointer none, .pointer none, .pointer none, .pointer none, .pointer none, .pointer none, .string ByteArray.empty, .pointer none, .slice none 0 0] w) (hx : Prints 54 x ok T w) : Prints 48 t ok T w := by
  intro B b pre w0 hp hb hB hB2 hT hok hlen
  have ht0 := ht.pres hp (by decide) (by decide)
  have c0 := ht0.cell 0 rfl
  have c1 := ht0.cell 1 rfl
  have c16 := ht0.cell 16 rfl
  have HC := Lib.hid (hx B b pre w0 hp hb hB hB2 hT hok hlen)
  have HH := Lib.hid ht0
  clear ht0 ht hp hT hok hlen hx
  go_enter Tryd.func48, Tryd.ntmps48
  go_wp2_with fail
  refine HC.out.mono ?_
  rintro e w1 ⟨rfl, hb1, hk1⟩
  have d16 := (HH.out.pres (hk1.pres hb) (by decide) (by decide)).cell 16 rfl
  clear c0 c16
  go_wp2_with fail
  refine wp_loop_rounds 1 ?_
  rw [rounds_succ]
  go_wp2_with fail
  go_end0
  exact ⟨rfl, hb1, hk1⟩

set_option maxRecDepth 100000 in
theorem prints_term_String {t x : Nat} {ok : List UInt8 → Prop} {T : List UInt8} {w : World} (ht : Nd t 55 #[.int .i64 13, .pointer none, .pointer none, .pointer none, .pointer none, .string ByteArray.empty, .pointer none, .string ByteArray.empty, .pointer (some ⟨x, 0, none⟩), .pointer none, .pointer none, .pointer none, .pointer none, .pointer none, .string ByteArray.empty, .pointer none, .slice none 0 0] w) (hx : Prints 30 x ok T w) : Prints 48 t ok T w := by
  intro B b pre w0 hp hb hB hB2 hT hok hlen
  have ht0 := ht.pres hp (by decide) (by decide)
  have c0 := ht0.cell 0 rfl
  have c8 := ht0.cell 8 rfl
  have c16 := ht0.cell 16 rfl
  have HC := Lib.hid (hx B b pre w0 hp hb hB hB2 hT hok hlen)
  have HH := Lib.hid ht0
  clear ht0 ht hp hT hok hlen hx
  go_enter Tryd.func48, Tryd.ntmps48
  go_wp2_with fail
  refine HC.out.mono ?_
  rintro e w1 ⟨rfl, hb1, hk1⟩
  have d16 := (HH.out.pres (hk1.pres hb) (by decide) (by decide)).cell 16 rfl
  clear c0 c16
  go_wp2_with fail
  refine wp_loop_rounds 1 ?_
  rw [rounds_succ]
  go_wp2_with fail
  go_end0
  exact ⟨rfl, hb1, hk1⟩

set_option maxRecDepth 100000 in
theorem prints_term_Query {t x : Nat} {ok : List UInt8 → Prop} {T : List UInt8} {w : World} (ht : Nd t 55 #[.int .i64 20, .pointer none, .pointer none, .pointer none, .pointer none, .string ByteArray.empty, .pointer none, .string ByteArray.empty, .pointer none, .pointer none, .pointer none, .pointer none, .pointer none, .pointer none, .string ByteArray.empty, .pointer (some ⟨x, 0, none⟩), .slice none 0 0] w) (hx : Prints 40 x ok T w) (hok0 : ∀ pre, ok (pre ++ [40])) : Prints 48 t Any ([40] ++ T ++ [41]) w := by
  intro B b pre w0 hp hb hB hB2 hT hok hlen
  have ht0 := ht.pres hp (by decide) (by decide)
  have c0 := ht0.cell 0 rfl
  have c15 := ht0.cell 15 rfl
  have c16 := ht0.cell 16 rfl
  have HH := Lib.hid ht0
  have HL := Lib.hid hlen
  have HX := Lib.hid hx
  have HO := Lib.hid hok0
  have HP := Lib.hid hp
  have HT := Lib.hid hT
  clear ht0 ht hp hT hok hlen hx hok0
  go_enter Tryd.func48, Tryd.ntmps48
  go_wp2_with fail
  refine (wByte 40 hb (by have := HL.out; simp at this; omega) hB).mono ?_
  rintro e w1 ⟨rfl, hb1, hk1⟩
  have H1 := HH.out.pres (hk1.pres hb) (by decide) (by decide)
  have d15 := H1.cell 15 rfl
  have HP1 := Lib.hid (HP.out.trans (hk1.pres hb))
  have hB1 := Nat.le_trans hB hk1.size
  have HT1 := Lib.hid (tabs_kept HT.out hk1 hB2)
  have H1 := Lib.hid H1
  clear c0 c15 c16 HP HH HT
  go_wp2_with fail
  refine (HX.out B b _ _ HP1.out hb1.is hB1 hB2 HT1.out (HO.out _) (by have := HL.out; simp at this ⊢; omega)).mono ?_
  rintro e w2 ⟨rfl, hb2, hk2⟩
  have H2 := H1.out.pres (hk2.pres hb1.is) (by decide) (by decide)
  have hB3 := Nat.le_trans hB1 hk2.size
  have H2 := Lib.hid H2
  clear d15 H1 HP1 HT1
  go_wp2_with fail
  refine (wByte 41 hb2.is (by have := HL.out; simp at this ⊢; omega) hB3).mono ?_
  rintro e w3 ⟨rfl, hb3, hk3⟩
  have d16 := (H2.out.pres (hk3.pres hb2.is) (by decide) (by decide)).cell 16 rfl
  clear H2
  go_wp2_with fail
  refine wp_loop_rounds 1 ?_
  rw [rounds_succ]
  go_wp2_with fail
  go_end0
  exact ⟨rfl, by simpa [List.append_assoc] using hb3, hk1.trans (hk2.trans hk3)⟩

set_option maxRecDepth 100000 in
theorem suffix_name {x : Nat} {s : ByteArray} {v1 v2 v3 v4 : Value} {w : World} (hx : Nd x 80 #[.string s, v1, v2, v3, v4] w) (hs : s.size ≠ 0) : Prints 68 x Any s.data.toList w := by
  intro B b pre w0 hp hb hB hB2 hT hok hlen
  have hx0 := hx.pres hp (by decide) (by decide)
  have c0 := hx0.cell 0 rfl
  have hne : s.toList.isEmpty = false := ne_empty hs
  have HC := Lib.hid (wStr s hb (by have : s.data.toList.length = s.size := rfl; omega) hB)
  clear hx0 hx hp hT hok hlen hb hB hB2
  go_enter Tryd.func68, Tryd.ntmps68
  go_wp2_with fail
  refine HC.out.mono ?_
  rintro e w1 ⟨rfl, hb1, hk1⟩
  go_wp2_with fail
  go_end0
  exact ⟨rfl, hb1, hk1⟩

set_option maxRecDepth 100000 in
theorem prints_index {x : Nat} {T : List UInt8} {w : World} (hx : Prints 68 x Any T w) : Prints 54 x Safe ([46] ++ T) w := by
  intro B b pre w0 hp hb hB hB2 hT hok hlen
  have HX := Lib.hid hx
  have HL := Lib.hid hlen
  have HP := Lib.hid hp
  have HT := Lib.hid hT
  have HO := Lib.hid hok
  clear hp hT hok hlen hx
  by_cases hpre : pre = []
  · subst hpre
    go_enter Tryd.func54, Tryd.ntmps54
    go_wp2_with fail
    refine (bLen hb).mono ?_
    rintro e w' ⟨rfl, rfl⟩
    go_wp2_with fail
    refine (wByte 46 hb (by decide) hB).mono ?_
    rintro e w1 ⟨rfl, hb1, hk1⟩
    have HP1 := Lib.hid (HP.out.trans (hk1.pres hb))
    have hB1 := Nat.le_trans hB hk1.size
    have HT1 := Lib.hid (tabs_kept HT.out hk1 hB2)
    clear HP HT
    go_wp2_with fail
    refine (HX.out B b _ _ HP1.out hb1.is hB1 hB2 HT1.out trivial (by have := HL.out; simp at this ⊢; omega)).mono ?_
    rintro e w2 ⟨rfl, hb2, hk2⟩
    go_wp2_with fail
    go_end0
    exact ⟨rfl, by simpa [List.append_assoc] using hb2, hk1.trans hk2⟩
  · have hpl : 0 < pre.length := List.length_pos_iff.2 hpre
    have hi : pre.length - 1 < (⟨pre.toArray⟩ : ByteArray).size := by simp [ByteArray.size]; omega
    have hsafe := HO.out ((⟨pre.toArray⟩ : ByteArray)[pre.length - 1]) (by rw [List.getLast?_eq_getElem?, List.getElem?_eq_getElem (by omega)]; rfl)
    have n46 : (((⟨pre.toArray⟩ : ByteArray)[pre.length - 1].toNat : Int) == 46) = false := by simp; omega
    have hcase : ((⟨pre.toArray⟩ : ByteArray)[pre.length - 1].toNat : Int) < 48 ∨ 57 < ((⟨pre.toArray⟩ : ByteArray)[pre.length - 1].toNat : Int) := by omega
    have hlm : pre.length ≤ 10000000000 := by have := HL.out; omega
    have hz : pre.length - 1 < (⟨pre.toArray⟩ : ByteArray).size := hi
    clear hsafe
    rcases hcase with hlow | hhigh
    all_goals
      go_enter Tryd.func54, Tryd.ntmps54
      go_wp2_with fail
      refine (bLen hb).mono ?_
      rintro e w' ⟨rfl, rfl⟩
      go_wp2_with fail
      refine (bString2 hb hB).mono ?_
      rintro e w1 ⟨rfl, hb1, hk1⟩
      have HP1 := Lib.hid (HP.out.trans (hk1.pres hb))
      have hB1 := Nat.le_trans hB hk1.size
      have HT1 := Lib.hid (tabs_kept HT.out hk1 hB2)
      clear HP HT
      go_wp2_with fail
      refine (wByte 46 hb1 (by have := HL.out; simp at this; omega) hB1).mono ?_
      rintro e w2 ⟨rfl, hb2, hk2⟩
      have HP2 := Lib.hid (HP1.out.trans (hk2.pres hb1))
      have hB2' := Nat.le_trans hB1 hk2.size
      have HT2 := Lib.hid (tabs_kept HT1.out hk2 hB2)
      clear HP1 HT1
      go_wp2_with fail
      refine (HX.out B b _ _ HP2.out hb2.is hB2' hB2 HT2.out trivial (by have := HL.out; simp at this ⊢; omega)).mono ?_
      rintro e w3 ⟨rfl, hb3, hk3⟩
      go_wp2_with fail
      go_end0
      exact ⟨rfl, by simpa [List.append_assoc] using hb3, hk1.trans (hk2.trans hk3)⟩

set_option maxRecDepth 100000 in
theorem prints_query {q t : Nat} {ok : List UInt8 → Prop} {T : List UInt8} {w : World} (hq : Nd q 62 #[.pointer none, .slice none 0 0, .slice none 0 0, .pointer (some ⟨t, 0, none⟩), .pointer none, .pointer none, .slice none 0 0, .int .i64 0] w) (hx : Prints 48 t ok T w) : Prints 40 q ok T w := by
  intro B b pre w0 hp hb hB hB2 hT hok hlen
  have ht0 := hq.pres hp (by decide) (by decide)
  have c0 := ht0.cell 0 rfl
  have c1 := ht0.cell 1 rfl
  have c2 := ht0.cell 2 rfl
  have c3 := ht0.cell 3 rfl
  have HC := Lib.hid (hx B b pre w0 hp hb hB hB2 hT hok hlen)
  clear ht0 hq hp hT hok hlen hx hb hB hB2
  go_enter Tryd.func40, Tryd.ntmps40
  go_wp2_with fail
  refine wp_loop_rounds 1 ?_
  rw [rounds_succ]
  go_wp2_with fail
  refine wp_loop_rounds 1 ?_
  rw [rounds_succ]
  go_wp2_with fail
  refine HC.out.mono ?_
  rintro e w1 ⟨rfl, hb1, hk1⟩
  go_wp2_with fail
  go_end0
  exact ⟨rfl, hb1, hk1⟩

def seqT (sep : List UInt8) (Ts : Nat → List UInt8) : Nat → List UInt8
  | 0 => []
  | k + 1 => seqT sep Ts k ++ (if k = 0 then [] else sep) ++ Ts k
theorem seqT_le (sep : List UInt8) (Ts : Nat → List UInt8) (n : Nat) : ∀ k, k ≤ n → (seqT sep Ts k).length ≤ (seqT sep Ts n).length := by
  induction n with
  | zero => intro k hk; obtain rfl : k = 0 := by omega
            exact Nat.le_refl _
  | succ n ih =>
    intro k hk
    by_cases e : k = n + 1
    · subst e; exact Nat.le_refl _
    · have := ih k (by omega)
      simp only [seqT, List.length_append]; omega
set_option maxRecDepth 100000 in
theorem prints_func0 {f : Nat} {s : ByteArray} {w : World} (hf : Nd f 64 #[.string s, .slice none 0 0] w) : Prints 36 f Any s.data.toList w := by
  intro B b pre w0 hp hb hB hB2 hT hok hlen
  have hf0 := hf.pres hp (by decide) (by decide)
  have c0 := hf0.cell 0 rfl
  have HC := Lib.hid (wStr (B := B) (b := b) (l := pre) (w := w0) s hb (by have : s.data.toList.length = s.size := rfl; omega) hB)
  have HH := Lib.hid hf0
  clear hf0 hf hp hT hok hlen
  go_enter Tryd.func36, Tryd.ntmps36
  go_wp2_with fail
  refine HC.out.mono ?_
  rintro e w1 ⟨rfl, hb1, hk1⟩
  have d1 := (HH.out.pres (hk1.pres hb) (by decide) (by decide)).cell 1 rfl
  clear c0
  go_wp2_with fail
  go_end0
  exact ⟨rfl, hb1, hk1⟩

def FRel (pre : List UInt8) (Ts : Nat → List UInt8) (n B b : Nat) (w : World) (vi : Value) (wr : World) : Prop :=
  ∃ k : Nat, k ≤ n ∧ vi = .int .i64 k ∧ BAt B b (pre ++ seqT [59, 32] Ts k) wr ∧ Kept B b w wr
set_option maxHeartbeats 1000000 in
set_option maxRecDepth 100000 in
theorem prints_func {f g : Nat} {s : ByteArray} {qs : List Nat} {Ts : Nat → List UInt8} {w : World} (hf : Nd f 64 #[.string s, .slice (some ⟨g, 0, none⟩) qs.length qs.length] w) (hg : Nd g 41 (qs.map fun q => Value.pointer (some ⟨q, 0, none⟩)).toArray w)
    (hn : 0 < qs.length) (hm : qs.length ≤ 1048576) (hq : ∀ i (h : i < qs.length), Prints 40 qs[i] Safe (Ts i) w) : Prints 36 f Any (s.data.toList ++ [40] ++ seqT [59, 32] Ts qs.length ++ [41]) w := by
  intro B b pre w0 hp hb hB hB2 hT hok hlen
  have hf0 := hf.pres hp (by decide) (by decide)
  have hg0 := hg.pres hp (by decide) (by decide)
  have c0 := hf0.cell 0 rfl
  have hsd : s.data.toList.length = s.size := rfl
  simp only [List.length_append, List.length_cons, List.length_nil] at hlen
  have HH := Lib.hid hf0
  have HG := Lib.hid hg0
  have HQ := Lib.hid hq
  have HP := Lib.hid hp
  have HT := Lib.hid hT
  have HB := Lib.hid hb
  clear hf0 hf hp hT hok hg hg0 hq
  go_enter Tryd.func36, Tryd.ntmps36
  go_wp2_with fail
  refine (wStr (B := B) (b := b) (l := pre) (w := w0) s hb (by omega) hB).mono ?_
  rintro e w1 ⟨rfl, hb1, hk1⟩
  have H1 := HH.out.pres (hk1.pres HB.out) (by decide) (by decide)
  have d1 := H1.cell 1 rfl
  have hB1 := Nat.le_trans hB hk1.size
  have H1 := Lib.hid H1
  clear c0 hb
  go_wp2_with fail
  refine (wByte 40 hb1.is (by simp only [List.length_append]; omega) hB1).mono ?_
  rintro e w2 ⟨rfl, hb2, hk2⟩
  have e1 := (H1.out.pres (hk2.pres hb1.is) (by decide) (by decide)).cell 1 rfl
  have hk12 := hk1.trans hk2
  clear d1 hb1 hk1 hk2 hB1 H1
  go_wp2_with fail
  go_loopw [25] (FRel (pre ++ s.data.toList ++ [40]) Ts qs.length B b w0) (fun i _ => qs.length - (intOf i).toNat)
  case atStart => exact ⟨0, Nat.zero_le _, rfl, by simpa [seqT] using hb2, hk12⟩
  case round =>
    obtain ⟨k, hk, rfl, hbr, hkr⟩ := hrel
    have hBr := Nat.le_trans hB hkr.size
    have hsl := seqT_le [59, 32] Ts qs.length
    by_cases hlt : k < qs.length
    · have ck : wr.cell? ⟨g, k, none⟩ = some (.pointer (some ⟨qs[k], 0, none⟩)) := (HG.out.pres (hkr.pres HB.out) (by decide) (by decide)).cell k (by simp [hlt])
      have hle := hsl (k + 1) (by omega)
      obtain ⟨q, hqq⟩ : ∃ q, q = qs[k] := ⟨_, rfl⟩
      have HX : Hid (Prints 40 q Safe (Ts k) w) := Lib.hid (by rw [hqq]; exact HQ.out k hlt)
      rw [← hqq] at ck
      clear hqq hsl hb2
      by_cases h0 : k = 0
      · subst h0
        have hs1 : seqT [59, 32] Ts (0 + 1) = Ts 0 := by simp [seqT]
        have hb0 : BAt B b (pre ++ s.data.toList ++ [40]) wr := by simpa [seqT] using hbr
        rw [hs1] at hle
        have HS := Lib.hid hs1
        clear hbr hs1
        have HC := Lib.hid (HX.out B b _ _ (HP.out.trans (hkr.pres HB.out)) hb0.is hBr hB2 (tabs_kept HT.out hkr hB2) (Safe.behind (by simp) (fun c hc => by simp at hc; subst hc; decide) _) (by simp only [List.length_append, List.length_cons, List.length_nil]; omega))
        go_wp2_with fail
        refine HC.out.mono ?_
        rintro e w3 ⟨rfl, hb3, hk3⟩
        have hk13 := hkr.trans hk3
        clear HC
        go_wp2_with fail
        go_roundw
        case rel => exact ⟨0 + 1, by omega, by go_num, by rw [HS.out]; exact hb3, hk13⟩
        case measure => simp [intOf]; omega
      · have hk0 : decide (0 < k) = true := by simp; omega
        have hk0' : 0 < k := by omega
        have hs1 : seqT [59, 32] Ts (k + 1) = seqT [59, 32] Ts k ++ [59, 32] ++ Ts k := by simp [seqT, h0]
        rw [hs1] at hle
        simp only [List.length_append, List.length_cons, List.length_nil] at hle
        have HS := Lib.hid hs1
        clear hs1 h0
        go_wp2_with fail
        refine (wStr ⟨#[59, 32]⟩ hbr.is (by rw [show (⟨#[59, 32]⟩ : ByteArray).size = 2 from rfl]; simp only [List.length_append, List.length_cons, List.length_nil]; omega) hBr).mono ?_
        rintro e w3 ⟨rfl, hb3, hk3⟩
        have hk13 := hkr.trans hk3
        have hB3 := Nat.le_trans hB hk13.size
        have hb3 : BAt B b (pre ++ s.data.toList ++ [40] ++ seqT [59, 32] Ts k ++ [59, 32]) w3 := hb3
        have HC := Lib.hid (HX.out B b _ _ (HP.out.trans (hk13.pres HB.out)) hb3.is hB3 hB2 (tabs_kept HT.out hk13 hB2) (Safe.behind (by simp) (fun c hc => by simp at hc; subst hc; decide) _) (by simp only [List.length_append, List.length_cons, List.length_nil]; omega))
        clear hbr hkr hBr
        go_wp2_with fail
        refine HC.out.mono ?_
        rintro e w4 ⟨rfl, hb4, hk4⟩
        have hk14 := hk13.trans hk4
        clear HC
        go_wp2_with fail
        go_roundw
        case rel => exact ⟨k + 1, by omega, by go_num, by rw [HS.out]; simpa [List.append_assoc] using hb4, hk14⟩
        case measure => simp [intOf]; omega
    · obtain rfl : k = qs.length := by omega
      clear hsl hb2
      go_wp2_with fail
      refine (wByte 41 hbr.is (by simp only [List.length_append, List.length_cons, List.length_nil]; omega) hBr).mono ?_
      rintro e w3 ⟨rfl, hb3, hk3⟩
      have hk13 := hkr.trans hk3
      go_wp2_with fail
      go_end0
      exact ⟨rfl, by simpa [List.append_assoc] using hb3, hk13⟩

end Go.Proofs.YtommggamdgajcaaDoor
