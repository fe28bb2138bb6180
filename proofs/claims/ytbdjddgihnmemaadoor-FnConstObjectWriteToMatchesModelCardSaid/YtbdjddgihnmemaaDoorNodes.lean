/- Contracts of writeTo, node by node (printed by wip/tools/gen_nodes.py: seq ct ckv cobj:21). -/
import Derived.Test.YtbdjddgihnmemaaDoorNodeKit
import Derived.Test.YtbdjddgihnmemaaDoorJson
namespace Go.Proofs.YtbdjddgihnmemaaDoor
open Go.RowKit

def seqT (sep : List UInt8) (Ts : Nat → List UInt8) : Nat → List UInt8
  | 0 => []
  | k + 1 => seqT sep Ts k ++ (if k = 0 then [] else sep) ++ Ts k
theorem seqT_le (sep : List UInt8) (Ts : Nat → List UInt8) (n : Nat) : ∀ k, k ≤ n → (seqT sep Ts k).length ≤ (seqT sep Ts n).length := by
  induction n with
  | zero => intro k hk; obtain rfl : k = 0 := by omega
            exact Nat.le_refl _
  | succ n ih =>
    intro k hk
    by_cases e : k = n + 1
    · subst e; exact Nat.le_refl _
    · have := ih k (by omega)
      simp only [seqT, List.length_append]; omega
def ctT (num s : ByteArray) (nl tr fl : Bool) : List UInt8 := if num.size ≠ 0 then num.data.toList else if nl then [110, 117, 108, 108] else if tr then [116, 114, 117, 101] else if fl then [102, 97, 108, 115, 101] else quoted s
theorem ctT_len (num s : ByteArray) (nl tr fl : Bool) : (ctT num s nl tr fl).length ≤ num.size + 6 * s.size + 5 := by
  have h1 : num.data.toList.length = num.size := rfl
  have h2 := quoted_len s
  unfold ctT
  repeat' split
  all_goals (try simp only [List.length_cons, List.length_nil])
  all_goals omega
theorem empty_str {s : ByteArray} (h : s.size = 0) : s = ⟨#[]⟩ := by
  apply ByteArray.ext
  exact Array.eq_empty_of_size_eq_zero h
set_option maxHeartbeats 1000000 in
set_option maxRecDepth 100000 in
theorem prints_ct {t : Nat} {num s : ByteArray} {nl tr fl : Bool} {w : World} (ht : Nd t 66 #[.pointer none, .pointer none, .string num, .string s, .bool nl, .bool tr, .bool fl] w) (hs : s.size ≤ 10000000) : Prints 34 t Any (ctT num s nl tr fl) w := by
  intro B b pre w0 hp hb hB hB2 hT hok hlen
  have ht0 := ht.pres hp (by decide) (by decide)
  have c0 := ht0.cell 0 rfl
  have c1 := ht0.cell 1 rfl
  have c2 := ht0.cell 2 rfl
  have c3 := ht0.cell 3 rfl
  have c4 := ht0.cell 4 rfl
  have c5 := ht0.cell 5 rfl
  have c6 := ht0.cell 6 rfl
  clear ht0 ht hp hok
  by_cases hn : num.size = 0
  · obtain rfl := empty_str hn
    cases nl with
    | true =>
      have HC := Lib.hid (wStr (B := B) (b := b) (l := pre) (w := w0) ⟨#[110, 117, 108, 108]⟩ hb (by rw [show (⟨#[110, 117, 108, 108]⟩ : ByteArray).size = 4 from rfl]; omega) hB)
      clear hn hT hlen
      go_enter Tryd.func34, Tryd.ntmps34
      go_wp2_with fail
      refine HC.out.mono ?_
      rintro e w1 ⟨rfl, hb1, hk1⟩
      go_wp2_with fail
      go_end0
      exact ⟨rfl, hb1, hk1⟩
    | false =>
      cases tr with
      | true =>
        have HC := Lib.hid (wStr (B := B) (b := b) (l := pre) (w := w0) ⟨#[116, 114, 117, 101]⟩ hb (by rw [show (⟨#[116, 114, 117, 101]⟩ : ByteArray).size = 4 from rfl]; omega) hB)
        clear hn hT hlen
        go_enter Tryd.func34, Tryd.ntmps34
        go_wp2_with fail
        refine HC.out.mono ?_
        rintro e w1 ⟨rfl, hb1, hk1⟩
        go_wp2_with fail
        go_end0
        exact ⟨rfl, hb1, hk1⟩
      | false =>
        cases fl with
        | true =>
          have HC := Lib.hid (wStr (B := B) (b := b) (l := pre) (w := w0) ⟨#[102, 97, 108, 115, 101]⟩ hb (by rw [show (⟨#[102, 97, 108, 115, 101]⟩ : ByteArray).size = 5 from rfl]; omega) hB)
          clear hn hT hlen
          go_enter Tryd.func34, Tryd.ntmps34
          go_wp2_with fail
          refine HC.out.mono ?_
          rintro e w1 ⟨rfl, hb1, hk1⟩
          go_wp2_with fail
          go_end0
          exact ⟨rfl, hb1, hk1⟩
        | false =>
          have HC := Lib.hid (json_any s pre B b w0 hs (by omega) hb hB hB2 hT)
          clear hn hT hlen
          go_enter Tryd.func34, Tryd.ntmps34
          go_wp2_with fail
          refine HC.out.mono ?_
          rintro e w1 ⟨rfl, hb1, hk1⟩
          go_wp2_with fail
          go_end0
          exact ⟨rfl, hb1, hk1⟩
  · have e : ctT num s nl tr fl = num.data.toList := by unfold ctT; rw [if_pos hn]
    have hne := ne_empty hn
    have hnd : num.data.toList.length = num.size := rfl
    rw [e] at hlen ⊢
    have HC := Lib.hid (wStr (B := B) (b := b) (l := pre) (w := w0) num hb (by omega) hB)
    clear hn hT hlen e hnd
    go_enter Tryd.func34, Tryd.ntmps34
    go_wp2_with fail
    refine HC.out.mono ?_
    rintro e w1 ⟨rfl, hb1, hk1⟩
    go_wp2_with fail
    go_end0
    exact ⟨rfl, hb1, hk1⟩

def kvT (key ks : ByteArray) (T : List UInt8) : List UInt8 := (if key.size ≠ 0 then key.data.toList else quoted ks) ++ [58, 32] ++ T
set_option maxHeartbeats 1000000 in
set_option maxRecDepth 100000 in
theorem prints_ckv {f v : Nat} {key ks : ByteArray} {T : List UInt8} {w : World} (hf : Nd f 61 #[.string key, .string ks, .pointer (some ⟨v, 0, none⟩)] w) (hk : ks.size ≤ 10000000) (hv : Prints 34 v Any T w) : Prints 38 f Any (kvT key ks T) w := by
  intro B b pre w0 hp hb hB hB2 hT hok hlen
  have hf0 := hf.pres hp (by decide) (by decide)
  have c0 := hf0.cell 0 rfl
  have c1 := hf0.cell 1 rfl
  have hkd : key.data.toList.length = key.size := rfl
  have key1 : ∃ K : List UInt8, kvT key ks T = K ++ [58, 32] ++ T ∧ ((key.size ≠ 0 ∧ K = key.data.toList) ∨ (key = ⟨#[]⟩ ∧ K = quoted ks)) := by
    by_cases h : key.size = 0
    · exact ⟨quoted ks, by unfold kvT; rw [if_neg (by simpa using h)], .inr ⟨empty_str h, rfl⟩⟩
    · exact ⟨key.data.toList, by unfold kvT; rw [if_pos h], .inl ⟨h, rfl⟩⟩
  obtain ⟨K, hK, hcase⟩ := key1
  rw [hK] at hlen ⊢
  simp only [List.length_append, List.length_cons, List.length_nil] at hlen
  have HH := Lib.hid hf0
  have HX := Lib.hid hv
  have HP := Lib.hid hp
  have HT := Lib.hid hT
  have HB := Lib.hid hb
  have HL := Lib.hid hlen
  clear hf0 hf hp hok hK hv hlen
  rcases hcase with ⟨hne, rfl⟩ | ⟨rfl, rfl⟩
  · have hne' := ne_empty hne
    have HC := Lib.hid (wStr (B := B) (b := b) (l := pre) (w := w0) key hb (by have := HL.out; omega) hB)
    clear hne hkd hb hT
    go_enter Tryd.func38, Tryd.ntmps38
    go_wp2_with fail
    refine HC.out.mono ?_
    rintro e w1 ⟨rfl, hb1, hk1⟩
    have hB1 := Nat.le_trans hB hk1.size
    clear HC c0 c1
    go_wp2_with fail
    refine (wStr ⟨#[58, 32]⟩ hb1.is (by rw [show (⟨#[58, 32]⟩ : ByteArray).size = 2 from rfl]; simp only [List.length_append]; have := HL.out; omega) hB1).mono ?_
    rintro e w2 ⟨rfl, hb2, hk2⟩
    have hb2 : BAt B b (pre ++ key.data.toList ++ [58, 32]) w2 := hb2
    have hk12 := hk1.trans hk2
    have d2 := (HH.out.pres (hk12.pres HB.out) (by decide) (by decide)).cell 2 rfl
    have HC := Lib.hid (HX.out B b _ _ (HP.out.trans (hk12.pres HB.out)) hb2.is (Nat.le_trans hB hk12.size) hB2 (tabs_kept HT.out hk12 hB2) trivial (by simp only [List.length_append, List.length_cons, List.length_nil]; have := HL.out; omega))
    clear hb1 hk1 hk2
    go_wp2_with fail
    refine HC.out.mono ?_
    rintro e w3 ⟨rfl, hb3, hk3⟩
    go_wp2_with fail
    go_end0
    exact ⟨rfl, by simpa [List.append_assoc] using hb3, hk12.trans hk3⟩
  · have HC := Lib.hid (json_any ks pre B b w0 hk (by have := HL.out; omega) hb hB hB2 hT)
    clear hkd hb hT
    go_enter Tryd.func38, Tryd.ntmps38
    go_wp2_with fail
    refine HC.out.mono ?_
    rintro e w1 ⟨rfl, hb1, hk1⟩
    have hB1 := Nat.le_trans hB hk1.size
    clear HC c0 c1
    go_wp2_with fail
    refine (wStr ⟨#[58, 32]⟩ hb1.is (by rw [show (⟨#[58, 32]⟩ : ByteArray).size = 2 from rfl]; simp only [List.length_append]; have := HL.out; omega) hB1).mono ?_
    rintro e w2 ⟨rfl, hb2, hk2⟩
    have hb2 : BAt B b (pre ++ quoted ks ++ [58, 32]) w2 := hb2
    have hk12 := hk1.trans hk2
    have d2 := (HH.out.pres (hk12.pres HB.out) (by decide) (by decide)).cell 2 rfl
    have HC := Lib.hid (HX.out B b _ _ (HP.out.trans (hk12.pres HB.out)) hb2.is (Nat.le_trans hB hk12.size) hB2 (tabs_kept HT.out hk12 hB2) trivial (by simp only [List.length_append, List.length_cons, List.length_nil]; have := HL.out; omega))
    clear hb1 hk1 hk2
    go_wp2_with fail
    refine HC.out.mono ?_
    rintro e w3 ⟨rfl, hb3, hk3⟩
    go_wp2_with fail
    go_end0
    exact ⟨rfl, by simpa [List.append_assoc] using hb3, hk12.trans hk3⟩

def ORel (pre : List UInt8) (Ts : Nat → List UInt8) (n B b : Nat) (w : World) (vi : Value) (wr : World) : Prop :=
  ∃ k : Nat, k ≤ n ∧ vi = .int .i64 k ∧ BAt B b (pre ++ seqT [44, 32] Ts k) wr ∧ Kept B b w wr
set_option maxRecDepth 100000 in
theorem prints_cobj0 {f : Nat} {a : Option Addr} {c : Nat} {w : World} (hf : Nd f 43 #[.slice a 0 c] w) : Prints 31 f Any [123, 125] w := by
  intro B b pre w0 hp hb hB hB2 hT hok hlen
  have hf0 := hf.pres hp (by decide) (by decide)
  have c0 := hf0.cell 0 rfl
  have HC := Lib.hid (wStr (B := B) (b := b) (l := pre) (w := w0) ⟨#[123, 125]⟩ hb (by simp only [List.length_cons, List.length_nil] at hlen; rw [show (⟨#[123, 125]⟩ : ByteArray).size = 2 from rfl]; omega) hB)
  clear hf0 hf hp hT hok hlen hb hB hB2
  go_enter Tryd.func31, Tryd.ntmps31
  go_wp2_with fail
  refine HC.out.mono ?_
  rintro e w1 ⟨rfl, hb1, hk1⟩
  go_wp2_with fail
  exact bodyPost_ret (results_none rfl _ _ _) rfl ⟨rfl, hb1, hk1⟩

set_option maxHeartbeats 1000000 in
set_option maxRecDepth 100000 in
theorem prints_cobj {f g : Nat} {qs : List Nat} {Ts : Nat → List UInt8} {w : World} (hf : Nd f 43 #[.slice (some ⟨g, 0, none⟩) qs.length qs.length] w) (hg : Nd g 55 (qs.map fun q => Value.pointer (some ⟨q, 0, none⟩)).toArray w)
    (hn : 0 < qs.length) (hm : qs.length ≤ 1048576) (hq : ∀ i (h : i < qs.length), Prints 38 qs[i] Any (Ts i) w) : Prints 31 f Any ([123, 32] ++ seqT [44, 32] Ts qs.length ++ [32, 125]) w := by
  intro B b pre w0 hp hb hB hB2 hT hok hlen
  have hf0 := hf.pres hp (by decide) (by decide)
  have hg0 := hg.pres hp (by decide) (by decide)
  simp only [List.length_append, List.length_cons, List.length_nil] at hlen
  have HH := Lib.hid hf0
  have HG := Lib.hid hg0
  have HQ := Lib.hid hq
  have HP := Lib.hid hp
  have HT := Lib.hid hT
  have HB := Lib.hid hb
  clear hf0 hf hp hT hok hg hg0 hq
  have c0 := HH.out.cell 0 rfl
  have hn0 : ((qs.length : Int) == 0) = false := by rw [beq_eq_false_iff_ne]; omega
  go_enter Tryd.func31, Tryd.ntmps31
  go_wp2_with fail
  refine (wStr ⟨#[123, 32]⟩ hb (by rw [show (⟨#[123, 32]⟩ : ByteArray).size = 2 from rfl]; omega) hB).mono ?_
  rintro e w2 ⟨rfl, hb2, hk12⟩
  have hb2 : BAt B b (pre ++ [123, 32]) w2 := hb2
  clear c0
  have e1 := (HH.out.pres (hk12.pres HB.out) (by decide) (by decide)).cell 0 rfl
  clear hb
  go_wp2_with fail
  go_loopw [21] (ORel (pre ++ [123, 32]) Ts qs.length B b w0) (fun i _ => qs.length - (intOf i).toNat)
  case atStart => exact ⟨0, Nat.zero_le _, rfl, by simpa [seqT] using hb2, hk12⟩
  case round =>
    obtain ⟨k, hk, rfl, hbr, hkr⟩ := hrel
    have hBr := Nat.le_trans hB hkr.size
    have hsl := seqT_le [44, 32] Ts qs.length
    by_cases hlt : k < qs.length
    · have ck : wr.cell? ⟨g, k, none⟩ = some (.pointer (some ⟨qs[k], 0, none⟩)) := (HG.out.pres (hkr.pres HB.out) (by decide) (by decide)).cell k (by simp [hlt])
      have hle := hsl (k + 1) (by omega)
      obtain ⟨q, hqq⟩ : ∃ q, q = qs[k] := ⟨_, rfl⟩
      have HX : Hid (Prints 38 q Any (Ts k) w) := Lib.hid (by rw [hqq]; exact HQ.out k hlt)
      rw [← hqq] at ck
      clear hqq hsl hb2
      by_cases h0 : k = 0
      · subst h0
        have hs1 : seqT [44, 32] Ts (0 + 1) = Ts 0 := by simp [seqT]
        have hb0 : BAt B b (pre ++ [123, 32]) wr := by simpa [seqT] using hbr
        rw [hs1] at hle
        have HS := Lib.hid hs1
        clear hbr hs1
        have HC := Lib.hid (HX.out B b _ _ (HP.out.trans (hkr.pres HB.out)) hb0.is hBr hB2 (tabs_kept HT.out hkr hB2) trivial (by simp only [List.length_append, List.length_cons, List.length_nil]; omega))
        go_wp2_with fail
        refine HC.out.mono ?_
        rintro e w3 ⟨rfl, hb3, hk3⟩
        have hk13 := hkr.trans hk3
        clear HC
        go_wp2_with fail
        go_roundw
        case rel => exact ⟨0 + 1, by omega, by go_num, by rw [HS.out]; exact hb3, hk13⟩
        case measure => simp [intOf]; omega
      · have hk0 : decide (0 < k) = true := by simp; omega
        have hk0' : 0 < k := by omega
        have hs1 : seqT [44, 32] Ts (k + 1) = seqT [44, 32] Ts k ++ [44, 32] ++ Ts k := by simp [seqT, h0]
        rw [hs1] at hle
        simp only [List.length_append, List.length_cons, List.length_nil] at hle
        have HS := Lib.hid hs1
        clear hs1 h0
        go_wp2_with fail
        refine (wStr ⟨#[44, 32]⟩ hbr.is (by rw [show (⟨#[44, 32]⟩ : ByteArray).size = 2 from rfl]; simp only [List.length_append, List.length_cons, List.length_nil]; omega) hBr).mono ?_
        rintro e w3 ⟨rfl, hb3, hk3⟩
        have hk13 := hkr.trans hk3
        have hB3 := Nat.le_trans hB hk13.size
        have hb3 : BAt B b (pre ++ [123, 32] ++ seqT [44, 32] Ts k ++ [44, 32]) w3 := hb3
        have HC := Lib.hid (HX.out B b _ _ (HP.out.trans (hk13.pres HB.out)) hb3.is hB3 hB2 (tabs_kept HT.out hk13 hB2) trivial (by simp only [List.length_append, List.length_cons, List.length_nil]; omega))
        clear hbr hkr hBr
        go_wp2_with fail
        refine HC.out.mono ?_
        rintro e w4 ⟨rfl, hb4, hk4⟩
        have hk14 := hk13.trans hk4
        clear HC
        go_wp2_with fail
        go_roundw
        case rel => exact ⟨k + 1, by omega, by go_num, by rw [HS.out]; simpa [List.append_assoc] using hb4, hk14⟩
        case measure => simp [intOf]; omega
    · obtain rfl : k = qs.length := by omega
      clear hsl hb2
      go_wp2_with fail
      refine (wStr ⟨#[32, 125]⟩ hbr.is (by rw [show (⟨#[32, 125]⟩ : ByteArray).size = 2 from rfl]; simp only [List.length_append, List.length_cons, List.length_nil]; omega) hBr).mono ?_
      rintro e w3 ⟨rfl, hb3, hk3⟩
      have hk13 := hkr.trans hk3
      go_wp2_with fail
      go_end0
      exact ⟨rfl, by simpa [List.append_assoc] using hb3, hk13⟩

end Go.Proofs.YtbdjddgihnmemaaDoor
