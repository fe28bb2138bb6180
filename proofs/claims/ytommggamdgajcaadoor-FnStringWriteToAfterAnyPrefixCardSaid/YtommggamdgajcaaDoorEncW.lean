/- The walk of encoder.encodeString. -/
import Derived.Test.YtommggamdgajcaaDoorEnc
import Derived.Test.YtommggamdgajcaaDoorPrn
import Derived.StillTailTactics
import Derived.Shelf.Strings.MapAny
namespace Go.Proofs.YtommggamdgajcaaDoor
open Go.RowKit

theorem mByte (x : Option Addr) (w : World) : Sem.run Tryd.prog (method 275 70 (.pointer x) "WriteByte") w = .ok (39, .pointer x) w := by kernel_rfl
theorem mStr (x : Option Addr) (w : World) : Sem.run Tryd.prog (method 275 70 (.pointer x) "WriteString") w = .ok (35, .pointer x) w := by kernel_rfl

theorem byte_of {b : UInt8} {c : Nat} (h : b.toNat = c) (hc : c < 256) : b = UInt8.ofNat c := by
  apply UInt8.toNat.inj; rw [h]; simp; omega
theorem esc_34 {b : UInt8} (h : b.toNat = 34) : escB b = [92, 34] := by rw [byte_of h (by decide)]; rfl
theorem esc_92 {b : UInt8} (h : b.toNat = 92) : escB b = [92, 92] := by rw [byte_of h (by decide)]; rfl
theorem esc_8 {b : UInt8} (h : b.toNat = 8) : escB b = [92, 98] := by rw [byte_of h (by decide)]; rfl
theorem esc_12 {b : UInt8} (h : b.toNat = 12) : escB b = [92, 102] := by rw [byte_of h (by decide)]; rfl
theorem esc_10 {b : UInt8} (h : b.toNat = 10) : escB b = [92, 110] := by rw [byte_of h (by decide)]; rfl
theorem esc_13 {b : UInt8} (h : b.toNat = 13) : escB b = [92, 114] := by rw [byte_of h (by decide)]; rfl
theorem esc_9 {b : UInt8} (h : b.toNat = 9) : escB b = [92, 116] := by rw [byte_of h (by decide)]; rfl
theorem esc_127 {b : UInt8} (h : b.toNat = 127) : escB b = [92, 117, 48, 48, 55, 102] := by rw [byte_of h (by decide)]; rfl
theorem ne_of {b c : UInt8} (h : ¬ b.toNat = c.toNat) : ¬ b = c := fun e => h (by rw [e])
theorem esc_low {b : UInt8} (h1 : ¬ b.toNat = 34) (h2 : ¬ b.toNat = 92) (h3 : ¬ b.toNat = 8) (h4 : ¬ b.toNat = 12) (h5 : ¬ b.toNat = 10) (h6 : ¬ b.toNat = 13) (h7 : ¬ b.toNat = 9) :
    escB b = [92, 117, 48, 48, hexD (b.toNat / 16), hexD (b.toNat % 16)] := by
  unfold escB
  rw [if_neg (ne_of h1), if_neg (ne_of h2), if_neg (ne_of h3), if_neg (ne_of h4), if_neg (ne_of h5), if_neg (ne_of h6), if_neg (ne_of h7)]
set_option maxRecDepth 100000 in
theorem and15_fin : ∀ x : Fin 256, bits .and .u8 ((x.val : Nat) : Int) 15 = (x.val : Int) % 16 := by decide
theorem and15 {n : Nat} (h : n < 256) : bits .and .u8 (n : Int) 15 = (n : Int) % 16 := and15_fin ⟨n, h⟩
theorem and15_127 : bits .and .u8 127 15 = 15 := by decide
theorem step_esc {s : ByteArray} {P T X : List UInt8} {st k : Nat} (h : P ++ sub s st k ++ E s k = T) (hE : E s k = X ++ E s (k + 1)) :
    Hid ((P ++ sub s st k ++ X) ++ sub s (k + 1) (k + 1) ++ E s (k + 1) = T) := by
  show _ = _
  rw [sub_self, ← h, hE]; simp
theorem E_bad {s : ByteArray} {k : Nat} (h : k < s.size) (h128 : ¬ s[k].toNat < 128) : Utf8.decode s k = (65533, 1) → E s k = [92, 117, 102, 102, 102, 100] ++ E s (k + 1) := by
  intro hd
  rw [E, dif_pos h, if_neg h128, if_pos hd]
theorem E_rune {s : ByteArray} {k : Nat} (h : k < s.size) (h128 : ¬ s[k].toNat < 128) : Utf8.decode s k ≠ (65533, 1) → E s k = sub s k (k + (Utf8.decode s k).2) ++ E s (k + (Utf8.decode s k).2) := by
  intro hd
  rw [E, dif_pos h, if_neg h128, if_neg hd]
  unfold sub
  rw [Nat.add_sub_cancel_left]
theorem E_end {s : ByteArray} {P T : List UInt8} {st : Nat} (h : P ++ sub s st s.size ++ E s s.size = T) : P ++ sub s st s.size = T := by
  rw [← h, E, dif_neg (Nat.lt_irrefl _), List.append_nil]
theorem step_rune {s : ByteArray} {P T : List UInt8} {st k K : Nat} (hst : st ≤ k) (h : P ++ sub s st k ++ E s k = T) (hE : E s k = sub s k (k + K) ++ E s (k + K)) : Hid (P ++ sub s st (k + K) ++ E s (k + K) = T) := by
  show _ = _
  rw [← h, hE, ← sub_cat s hst (Nat.le_add_right k K)]; simp
/-- Before place k: P has been written, sub s st k is to be copied. -/
def ERel (s : ByteArray) (pre T : List UInt8) (B b q : Nat) (w : World) (vst vi : Value) (wr : World) : Prop :=
  ∃ (k st : Nat) (P : List UInt8), st ≤ k ∧ k ≤ s.size ∧ vi = .int .i64 k ∧ vst = .int .i64 st ∧ Hid (P ++ sub s st k ++ E s k = T) ∧
    BAt B b (pre ++ P) wr ∧ Kept B b w wr ∧ EncAt q b wr

set_option maxHeartbeats 8000000 in
set_option maxRecDepth 100000 in
theorem encode_any (s : ByteArray) (pre : List UInt8) (B b q : Nat) (w : World) (hs : s.size ≤ 10000000) (hpre : pre.length ≤ 100000000000) (hb : BIs B b pre w) (hB : B ≤ w.heap.size) (hB2 : 2 ≤ B) (hq : EncAt q b w) (hqb : q ≠ b) (hT : Lib.Utf8Tabs 0 1 w) :
    Calls Tryd.prog 44 #[.pointer (some ⟨q, 0, none⟩), .string s] w fun e w' => e = .returned (.tuple #[]) ∧ BAt B b (pre ++ quoted s) w' ∧ Kept B b w w' := by
  have mB := mByte
  have mS := mStr
  have hsl : s.size ≤ maxLen := by unfold maxLen; omega
  have c0 := hq.cell
  obtain ⟨T, hTd⟩ : ∃ T, T = E s 0 := ⟨_, rfl⟩
  have HTL : T.length ≤ 60000000 := by rw [hTd]; have := E_len s s.size 0 (by omega); omega
  have HT := Lib.hid hTd
  have HTabs := Lib.hid hT
  clear hTd hT
  go_enter Tryd.func44, Tryd.ntmps44
  go_wp2_with fail
  refine (wByte 34 hb (by omega) hB).mono ?_
  rintro e w1 ⟨rfl, hb1, hk1⟩
  have hq1 := hq.kept hk1 hqb
  clear c0 hq hb
  go_wp2_with fail
  go_loopw [4, 5] (ERel s (pre ++ [34]) T B b q w) (fun _ i _ => s.size - (intOf i).toNat)
  case atStart => exact ⟨0, 0, [], Nat.le_refl _, Nat.zero_le _, rfl, rfl, by show _ = _; rw [sub_self, HT.out]; rfl, by rw [List.append_nil]; exact hb1, hk1, hq1⟩
  case round =>
    obtain ⟨k, st, P, hst, hk, rfl, rfl, hP, hbr, hkr, hqr⟩ := hrel
    clear hb1 hk1 hq1
    have hPl : P.length + (k - st) + (E s k).length = T.length := by rw [← hP.out, List.length_append, List.length_append, sub_len s hst hk]
    have hsl2 := sub_len s hst hk
    have c0 := hqr.cell
    have hBr : B ≤ wr.heap.size := Nat.le_trans hB hkr.size
    by_cases hlt : k < s.size
    · by_cases h128 : s[k].toNat < 128
      · by_cases hpl : plainB s[k]
        · obtain ⟨p1, p2, p3, p4⟩ := hpl
          have i1 : (s[k].toNat : Int) < 128 := by omega
          have i2 : (32 : Int) ≤ s[k].toNat := by omega
          have i3 : (s[k].toNat : Int) ≤ 126 := by omega
          have i4 : ((s[k].toNat : Int) != 34) = true := by simp; omega
          have i5 : ((s[k].toNat : Int) != 92) = true := by simp; omega
          go_wp2_with fail
          go_roundw
          case rel =>
            refine ⟨k + 1, st, P, by omega, by omega, by go_num, rfl, ?_, hbr, hkr, hqr⟩
            have := hP.out
            rw [E, dif_pos hlt, if_pos h128, if_pos ⟨p1, p2, p3, p4⟩] at this
            show _ = _
            rw [sub_snoc s hst hlt, ← this]
            simp
          case measure => simp [intOf]; omega
        · by_cases hsk : st < k
          · have hx : decide (st < k) = true := by simpa using hsk
            by_cases e34 : s[k].toNat = 34
            · as_aux_lemma =>
                have i1 : (s[k].toNat : Int) = 34 := by omega
                have hEsc : E s k = [92, 34] ++ E s (k + 1) := by rw [E, dif_pos hlt, if_pos h128, if_neg hpl, esc_34 e34]
                go_wp2_with fail
                go_still_tail 10, (by kernel_rfl)
                go_wp2_with fail
                refine (wStr (w := wr.drew) (s.extract st k) hbr.is (by rw [ByteArray.size_extract]; simp; omega) hBr).mono ?_
                rintro e w2 ⟨rfl, hb2, hk2⟩
                rw [extract_data] at hb2
                have hq2 := EncAt.kept (w := wr.drew) hqr hk2 hqb
                have hk2 : Kept B b w w2 := Kept.trans (w2 := wr.drew) (hkr.drewN 1) hk2
                have hB2 : B ≤ w2.heap.size := Nat.le_trans hB hk2.size
                have c2 := hq2.cell
                clear hbr hqr hkr hBr c0
                go_wp2_with fail
                refine (wStr ⟨#[92, 34]⟩ hb2.is (by rw [show (⟨#[92, 34]⟩ : ByteArray).size = 2 from rfl]; simp only [List.length_append, List.length_cons, List.length_nil]; omega) hB2).mono ?_
                rintro e w3 ⟨rfl, hb3, hk3⟩
                have hb3 : BAt B b (pre ++ [34] ++ P ++ sub s st k ++ [92, 34]) w3 := hb3
                have hq3 := hq2.kept hk3 hqb
                have hk3 : Kept B b w w3 := hk2.trans hk3
                go_wp2_with fail
                go_roundw
                case rel =>
                  refine ⟨k + 1, k + 1, P ++ sub s st k ++ [92, 34], Nat.le_refl _, by omega, by go_num, by go_num, step_esc hP.out hEsc, ?_, hk3, hq3⟩
                  simpa [List.append_assoc] using hb3
                case measure => simp [intOf]; omega
            by_cases e92 : s[k].toNat = 92
            · as_aux_lemma =>
                have i1 : (s[k].toNat : Int) = 92 := by omega
                have hEsc : E s k = [92, 92] ++ E s (k + 1) := by rw [E, dif_pos hlt, if_pos h128, if_neg hpl, esc_92 e92]
                go_wp2_with fail
                go_still_tail 10, (by kernel_rfl)
                go_wp2_with fail
                refine (wStr (w := wr.drew) (s.extract st k) hbr.is (by rw [ByteArray.size_extract]; simp; omega) hBr).mono ?_
                rintro e w2 ⟨rfl, hb2, hk2⟩
                rw [extract_data] at hb2
                have hq2 := EncAt.kept (w := wr.drew) hqr hk2 hqb
                have hk2 : Kept B b w w2 := Kept.trans (w2 := wr.drew) (hkr.drewN 1) hk2
                have hB2 : B ≤ w2.heap.size := Nat.le_trans hB hk2.size
                have c2 := hq2.cell
                clear hbr hqr hkr hBr c0
                go_wp2_with fail
                refine (wStr ⟨#[92, 92]⟩ hb2.is (by rw [show (⟨#[92, 92]⟩ : ByteArray).size = 2 from rfl]; simp only [List.length_append, List.length_cons, List.length_nil]; omega) hB2).mono ?_
                rintro e w3 ⟨rfl, hb3, hk3⟩
                have hb3 : BAt B b (pre ++ [34] ++ P ++ sub s st k ++ [92, 92]) w3 := hb3
                have hq3 := hq2.kept hk3 hqb
                have hk3 : Kept B b w w3 := hk2.trans hk3
                go_wp2_with fail
                go_roundw
                case rel =>
                  refine ⟨k + 1, k + 1, P ++ sub s st k ++ [92, 92], Nat.le_refl _, by omega, by go_num, by go_num, step_esc hP.out hEsc, ?_, hk3, hq3⟩
                  simpa [List.append_assoc] using hb3
                case measure => simp [intOf]; omega
            by_cases e8 : s[k].toNat = 8
            · as_aux_lemma =>
                have i1 : (s[k].toNat : Int) = 8 := by omega
                have hEsc : E s k = [92, 98] ++ E s (k + 1) := by rw [E, dif_pos hlt, if_pos h128, if_neg hpl, esc_8 e8]
                go_wp2_with fail
                go_still_tail 10, (by kernel_rfl)
                go_wp2_with fail
                refine (wStr (w := wr.drew) (s.extract st k) hbr.is (by rw [ByteArray.size_extract]; simp; omega) hBr).mono ?_
                rintro e w2 ⟨rfl, hb2, hk2⟩
                rw [extract_data] at hb2
                have hq2 := EncAt.kept (w := wr.drew) hqr hk2 hqb
                have hk2 : Kept B b w w2 := Kept.trans (w2 := wr.drew) (hkr.drewN 1) hk2
                have hB2 : B ≤ w2.heap.size := Nat.le_trans hB hk2.size
                have c2 := hq2.cell
                clear hbr hqr hkr hBr c0
                go_wp2_with fail
                refine (wStr ⟨#[92, 98]⟩ hb2.is (by rw [show (⟨#[92, 98]⟩ : ByteArray).size = 2 from rfl]; simp only [List.length_append, List.length_cons, List.length_nil]; omega) hB2).mono ?_
                rintro e w3 ⟨rfl, hb3, hk3⟩
                have hb3 : BAt B b (pre ++ [34] ++ P ++ sub s st k ++ [92, 98]) w3 := hb3
                have hq3 := hq2.kept hk3 hqb
                have hk3 : Kept B b w w3 := hk2.trans hk3
                go_wp2_with fail
                go_roundw
                case rel =>
                  refine ⟨k + 1, k + 1, P ++ sub s st k ++ [92, 98], Nat.le_refl _, by omega, by go_num, by go_num, step_esc hP.out hEsc, ?_, hk3, hq3⟩
                  simpa [List.append_assoc] using hb3
                case measure => simp [intOf]; omega
            by_cases e12 : s[k].toNat = 12
            · as_aux_lemma =>
                have i1 : (s[k].toNat : Int) = 12 := by omega
                have hEsc : E s k = [92, 102] ++ E s (k + 1) := by rw [E, dif_pos hlt, if_pos h128, if_neg hpl, esc_12 e12]
                go_wp2_with fail
                go_still_tail 10, (by kernel_rfl)
                go_wp2_with fail
                refine (wStr (w := wr.drew) (s.extract st k) hbr.is (by rw [ByteArray.size_extract]; simp; omega) hBr).mono ?_
                rintro e w2 ⟨rfl, hb2, hk2⟩
                rw [extract_data] at hb2
                have hq2 := EncAt.kept (w := wr.drew) hqr hk2 hqb
                have hk2 : Kept B b w w2 := Kept.trans (w2 := wr.drew) (hkr.drewN 1) hk2
                have hB2 : B ≤ w2.heap.size := Nat.le_trans hB hk2.size
                have c2 := hq2.cell
                clear hbr hqr hkr hBr c0
                go_wp2_with fail
                refine (wStr ⟨#[92, 102]⟩ hb2.is (by rw [show (⟨#[92, 102]⟩ : ByteArray).size = 2 from rfl]; simp only [List.length_append, List.length_cons, List.length_nil]; omega) hB2).mono ?_
                rintro e w3 ⟨rfl, hb3, hk3⟩
                have hb3 : BAt B b (pre ++ [34] ++ P ++ sub s st k ++ [92, 102]) w3 := hb3
                have hq3 := hq2.kept hk3 hqb
                have hk3 : Kept B b w w3 := hk2.trans hk3
                go_wp2_with fail
                go_roundw
                case rel =>
                  refine ⟨k + 1, k + 1, P ++ sub s st k ++ [92, 102], Nat.le_refl _, by omega, by go_num, by go_num, step_esc hP.out hEsc, ?_, hk3, hq3⟩
                  simpa [List.append_assoc] using hb3
                case measure => simp [intOf]; omega
            by_cases e10 : s[k].toNat = 10
            · as_aux_lemma =>
                have i1 : (s[k].toNat : Int) = 10 := by omega
                have hEsc : E s k = [92, 110] ++ E s (k + 1) := by rw [E, dif_pos hlt, if_pos h128, if_neg hpl, esc_10 e10]
                go_wp2_with fail
                go_still_tail 10, (by kernel_rfl)
                go_wp2_with fail
                refine (wStr (w := wr.drew) (s.extract st k) hbr.is (by rw [ByteArray.size_extract]; simp; omega) hBr).mono ?_
                rintro e w2 ⟨rfl, hb2, hk2⟩
                rw [extract_data] at hb2
                have hq2 := EncAt.kept (w := wr.drew) hqr hk2 hqb
                have hk2 : Kept B b w w2 := Kept.trans (w2 := wr.drew) (hkr.drewN 1) hk2
                have hB2 : B ≤ w2.heap.size := Nat.le_trans hB hk2.size
                have c2 := hq2.cell
                clear hbr hqr hkr hBr c0
                go_wp2_with fail
                refine (wStr ⟨#[92, 110]⟩ hb2.is (by rw [show (⟨#[92, 110]⟩ : ByteArray).size = 2 from rfl]; simp only [List.length_append, List.length_cons, List.length_nil]; omega) hB2).mono ?_
                rintro e w3 ⟨rfl, hb3, hk3⟩
                have hb3 : BAt B b (pre ++ [34] ++ P ++ sub s st k ++ [92, 110]) w3 := hb3
                have hq3 := hq2.kept hk3 hqb
                have hk3 : Kept B b w w3 := hk2.trans hk3
                go_wp2_with fail
                go_roundw
                case rel =>
                  refine ⟨k + 1, k + 1, P ++ sub s st k ++ [92, 110], Nat.le_refl _, by omega, by go_num, by go_num, step_esc hP.out hEsc, ?_, hk3, hq3⟩
                  simpa [List.append_assoc] using hb3
                case measure => simp [intOf]; omega
            by_cases e13 : s[k].toNat = 13
            · as_aux_lemma =>
                have i1 : (s[k].toNat : Int) = 13 := by omega
                have hEsc : E s k = [92, 114] ++ E s (k + 1) := by rw [E, dif_pos hlt, if_pos h128, if_neg hpl, esc_13 e13]
                go_wp2_with fail
                go_still_tail 10, (by kernel_rfl)
                go_wp2_with fail
                refine (wStr (w := wr.drew) (s.extract st k) hbr.is (by rw [ByteArray.size_extract]; simp; omega) hBr).mono ?_
                rintro e w2 ⟨rfl, hb2, hk2⟩
                rw [extract_data] at hb2
                have hq2 := EncAt.kept (w := wr.drew) hqr hk2 hqb
                have hk2 : Kept B b w w2 := Kept.trans (w2 := wr.drew) (hkr.drewN 1) hk2
                have hB2 : B ≤ w2.heap.size := Nat.le_trans hB hk2.size
                have c2 := hq2.cell
                clear hbr hqr hkr hBr c0
                go_wp2_with fail
                refine (wStr ⟨#[92, 114]⟩ hb2.is (by rw [show (⟨#[92, 114]⟩ : ByteArray).size = 2 from rfl]; simp only [List.length_append, List.length_cons, List.length_nil]; omega) hB2).mono ?_
                rintro e w3 ⟨rfl, hb3, hk3⟩
                have hb3 : BAt B b (pre ++ [34] ++ P ++ sub s st k ++ [92, 114]) w3 := hb3
                have hq3 := hq2.kept hk3 hqb
                have hk3 : Kept B b w w3 := hk2.trans hk3
                go_wp2_with fail
                go_roundw
                case rel =>
                  refine ⟨k + 1, k + 1, P ++ sub s st k ++ [92, 114], Nat.le_refl _, by omega, by go_num, by go_num, step_esc hP.out hEsc, ?_, hk3, hq3⟩
                  simpa [List.append_assoc] using hb3
                case measure => simp [intOf]; omega
            by_cases e9 : s[k].toNat = 9
            · as_aux_lemma =>
                have i1 : (s[k].toNat : Int) = 9 := by omega
                have hEsc : E s k = [92, 116] ++ E s (k + 1) := by rw [E, dif_pos hlt, if_pos h128, if_neg hpl, esc_9 e9]
                go_wp2_with fail
                go_still_tail 10, (by kernel_rfl)
                go_wp2_with fail
                refine (wStr (w := wr.drew) (s.extract st k) hbr.is (by rw [ByteArray.size_extract]; simp; omega) hBr).mono ?_
                rintro e w2 ⟨rfl, hb2, hk2⟩
                rw [extract_data] at hb2
                have hq2 := EncAt.kept (w := wr.drew) hqr hk2 hqb
                have hk2 : Kept B b w w2 := Kept.trans (w2 := wr.drew) (hkr.drewN 1) hk2
                have hB2 : B ≤ w2.heap.size := Nat.le_trans hB hk2.size
                have c2 := hq2.cell
                clear hbr hqr hkr hBr c0
                go_wp2_with fail
                refine (wStr ⟨#[92, 116]⟩ hb2.is (by rw [show (⟨#[92, 116]⟩ : ByteArray).size = 2 from rfl]; simp only [List.length_append, List.length_cons, List.length_nil]; omega) hB2).mono ?_
                rintro e w3 ⟨rfl, hb3, hk3⟩
                have hb3 : BAt B b (pre ++ [34] ++ P ++ sub s st k ++ [92, 116]) w3 := hb3
                have hq3 := hq2.kept hk3 hqb
                have hk3 : Kept B b w w3 := hk2.trans hk3
                go_wp2_with fail
                go_roundw
                case rel =>
                  refine ⟨k + 1, k + 1, P ++ sub s st k ++ [92, 116], Nat.le_refl _, by omega, by go_num, by go_num, step_esc hP.out hEsc, ?_, hk3, hq3⟩
                  simpa [List.append_assoc] using hb3
                case measure => simp [intOf]; omega
            by_cases e127 : s[k].toNat = 127
            · as_aux_lemma =>
                have i1 : (s[k].toNat : Int) = 127 := by omega
                have hEsc : E s k = [92, 117, 48, 48, 55, 102] ++ E s (k + 1) := by rw [E, dif_pos hlt, if_pos h128, if_neg hpl, esc_127 e127]
                go_wp2_with fail
                go_still_tail 10, (by kernel_rfl)
                go_wp2_with fail
                refine (wStr (w := wr.drew) (s.extract st k) hbr.is (by rw [ByteArray.size_extract]; simp; omega) hBr).mono ?_
                rintro e w2 ⟨rfl, hb2, hk2⟩
                rw [extract_data] at hb2
                have hq2 := EncAt.kept (w := wr.drew) hqr hk2 hqb
                have hk2 : Kept B b w w2 := Kept.trans (w2 := wr.drew) (hkr.drewN 1) hk2
                have hB2 : B ≤ w2.heap.size := Nat.le_trans hB hk2.size
                have c2 := hq2.cell
                clear hbr hqr hkr hBr c0
                have a15 := and15_127
                go_wp2_with fail
                refine (wStr ⟨#[92, 117, 48, 48]⟩ hb2.is (by rw [show (⟨#[92, 117, 48, 48]⟩ : ByteArray).size = 4 from rfl]; simp only [List.length_append, List.length_cons, List.length_nil]; omega) hB2).mono ?_
                rintro e w3 ⟨rfl, hb3, hk3⟩
                have hb3 : BAt B b (pre ++ [34] ++ P ++ sub s st k ++ [92, 117, 48, 48]) w3 := hb3
                have hq3 := hq2.kept hk3 hqb
                have hk3 : Kept B b w w3 := hk2.trans hk3
                have hB3 : B ≤ w3.heap.size := Nat.le_trans hB hk3.size
                have c3 := hq3.cell
                clear hb2 hq2 hk2 hB2 c2
                go_wp2_with fail
                go_still_tail 9, (by kernel_rfl)
                go_wp2_with fail
                refine (wByte (w := w3.drew) 55 hb3.is (by simp only [List.length_append, List.length_cons, List.length_nil]; omega) hB3).mono ?_
                rintro e w4 ⟨rfl, hb4, hk4⟩
                have hq4 := EncAt.kept (w := w3.drew) hq3 hk4 hqb
                have hk4 : Kept B b w w4 := Kept.trans (w2 := w3.drew) (hk3.drewN 1) hk4
                have hB4 : B ≤ w4.heap.size := Nat.le_trans hB hk4.size
                have c4 := hq4.cell
                clear hb3 hq3 hk3 hB3 c3
                go_wp2_with fail
                go_still_tail 9, (by kernel_rfl)
                go_wp2_with fail
                refine (wByte (w := w4.drew) 102 hb4.is (by simp only [List.length_append, List.length_cons, List.length_nil]; omega) hB4).mono ?_
                rintro e w5 ⟨rfl, hb5, hk5⟩
                have hq5 := EncAt.kept (w := w4.drew) hq4 hk5 hqb
                have hk5 : Kept B b w w5 := Kept.trans (w2 := w4.drew) (hk4.drewN 1) hk5
                go_wp2_with fail
                go_roundw
                case rel =>
                  refine ⟨k + 1, k + 1, P ++ sub s st k ++ [92, 117, 48, 48, 55, 102], Nat.le_refl _, by omega, by go_num, by go_num, step_esc hP.out hEsc, ?_, hk5, hq5⟩
                  simpa [List.append_assoc] using hb5
                case measure => simp [intOf]; omega
            as_aux_lemma =>
              have j0 : s[k].toNat < 32 := by unfold plainB at hpl; omega
              have i0 : (s[k].toNat : Int) < 32 := by omega
              have i1 : (s[k].toNat : Int) < 128 := by omega
              have i2 : decide ((32 : Int) ≤ s[k].toNat) = false := by simp; omega
              have n34 : ((s[k].toNat : Int) == 34) = false := by simp; omega
              have n92 : ((s[k].toNat : Int) == 92) = false := by simp; omega
              have n8 : ((s[k].toNat : Int) == 8) = false := by simp; omega
              have n12 : ((s[k].toNat : Int) == 12) = false := by simp; omega
              have n10 : ((s[k].toNat : Int) == 10) = false := by simp; omega
              have n13 : ((s[k].toNat : Int) == 13) = false := by simp; omega
              have n9 : ((s[k].toNat : Int) == 9) = false := by simp; omega
              have a15 := and15 (n := s[k].toNat) (by omega)
              have d0 : (0 : Int) ≤ (s[k].toNat : Int) / 16 := by omega
              have d1 : (s[k].toNat : Int) / 16 < 16 := by omega
              have m0 : (0 : Int) ≤ (s[k].toNat : Int) % 16 := by omega
              have m1 : (s[k].toNat : Int) % 16 < 16 := by omega
              have td : ((s[k].toNat : Int) / 16).toNat = s[k].toNat / 16 := by omega
              have tm : ((s[k].toNat : Int) % 16).toNat = s[k].toNat % 16 := by omega
              have hEsc : E s k = [92, 117, 48, 48, hexD (s[k].toNat / 16), hexD (s[k].toNat % 16)] ++ E s (k + 1) := by rw [E, dif_pos hlt, if_pos h128, if_neg hpl, esc_low e34 e92 e8 e12 e10 e13 e9]
              go_wp2_with fail
              go_still_tail 10, (by kernel_rfl)
              go_wp2_with fail
              refine (wStr (w := wr.drew) (s.extract st k) hbr.is (by rw [ByteArray.size_extract]; simp; omega) hBr).mono ?_
              rintro e w2 ⟨rfl, hb2, hk2⟩
              rw [extract_data] at hb2
              have hq2 := EncAt.kept (w := wr.drew) hqr hk2 hqb
              have hk2 : Kept B b w w2 := Kept.trans (w2 := wr.drew) (hkr.drewN 1) hk2
              have hB2 : B ≤ w2.heap.size := Nat.le_trans hB hk2.size
              have c2 := hq2.cell
              clear hbr hqr hkr hBr c0
              go_wp2_with fail
              refine (wStr ⟨#[92, 117, 48, 48]⟩ hb2.is (by rw [show (⟨#[92, 117, 48, 48]⟩ : ByteArray).size = 4 from rfl]; simp only [List.length_append, List.length_cons, List.length_nil]; omega) hB2).mono ?_
              rintro e w3 ⟨rfl, hb3, hk3⟩
              have hb3 : BAt B b (pre ++ [34] ++ P ++ sub s st k ++ [92, 117, 48, 48]) w3 := hb3
              have hq3 := hq2.kept hk3 hqb
              have hk3 : Kept B b w w3 := hk2.trans hk3
              have hB3 : B ≤ w3.heap.size := Nat.le_trans hB hk3.size
              have c3 := hq3.cell
              clear hb2 hq2 hk2 hB2 c2
              go_wp2_with fail
              go_still_tail 9, (by kernel_rfl)
              go_wp2_with fail
              rw [hex_at]
              refine (wByte (w := w3.drew) (hexD (s[k].toNat / 16)) hb3.is (by simp only [List.length_append, List.length_cons, List.length_nil]; omega) hB3).mono ?_
              rintro e w4 ⟨rfl, hb4, hk4⟩
              have hq4 := EncAt.kept (w := w3.drew) hq3 hk4 hqb
              have hk4 : Kept B b w w4 := Kept.trans (w2 := w3.drew) (hk3.drewN 1) hk4
              have hB4 : B ≤ w4.heap.size := Nat.le_trans hB hk4.size
              have c4 := hq4.cell
              clear hb3 hq3 hk3 hB3 c3
              go_wp2_with fail
              go_still_tail 9, (by kernel_rfl)
              go_wp2_with fail
              rw [hex_at]
              refine (wByte (w := w4.drew) (hexD (s[k].toNat % 16)) hb4.is (by simp only [List.length_append, List.length_cons, List.length_nil]; omega) hB4).mono ?_
              rintro e w5 ⟨rfl, hb5, hk5⟩
              have hq5 := EncAt.kept (w := w4.drew) hq4 hk5 hqb
              have hk5 : Kept B b w w5 := Kept.trans (w2 := w4.drew) (hk4.drewN 1) hk5
              go_wp2_with fail
              go_roundw
              case rel =>
                refine ⟨k + 1, k + 1, P ++ sub s st k ++ [92, 117, 48, 48, hexD (s[k].toNat / 16), hexD (s[k].toNat % 16)], Nat.le_refl _, by omega, by go_num, by go_num, step_esc hP.out hEsc, ?_, hk5, hq5⟩
                simpa [List.append_assoc] using hb5
              case measure => simp [intOf]; omega

          · obtain hse : st = k := by omega
            have hx : decide (st < k) = false := by simpa using hsk
            by_cases e34 : s[k].toNat = 34
            · as_aux_lemma =>
                have i1 : (s[k].toNat : Int) = 34 := by omega
                have hEsc : E s k = [92, 34] ++ E s (k + 1) := by rw [E, dif_pos hlt, if_pos h128, if_neg hpl, esc_34 e34]
                have hb2 : BAt B b (pre ++ [34] ++ P ++ sub s st k) wr := by rw [hse, sub_self, List.append_nil]; exact hbr
                have hq2 := hqr
                have hk2 := hkr
                have hB2 := hBr
                have c2 := hq2.cell
                clear hbr hqr hkr hBr c0
                go_wp2_with fail
                refine (wStr ⟨#[92, 34]⟩ hb2.is (by rw [show (⟨#[92, 34]⟩ : ByteArray).size = 2 from rfl]; simp only [List.length_append, List.length_cons, List.length_nil]; omega) hB2).mono ?_
                rintro e w3 ⟨rfl, hb3, hk3⟩
                have hb3 : BAt B b (pre ++ [34] ++ P ++ sub s st k ++ [92, 34]) w3 := hb3
                have hq3 := hq2.kept hk3 hqb
                have hk3 : Kept B b w w3 := hk2.trans hk3
                go_wp2_with fail
                go_roundw
                case rel =>
                  refine ⟨k + 1, k + 1, P ++ sub s st k ++ [92, 34], Nat.le_refl _, by omega, by go_num, by go_num, step_esc hP.out hEsc, ?_, hk3, hq3⟩
                  simpa [List.append_assoc] using hb3
                case measure => simp [intOf]; omega
            by_cases e92 : s[k].toNat = 92
            · as_aux_lemma =>
                have i1 : (s[k].toNat : Int) = 92 := by omega
                have hEsc : E s k = [92, 92] ++ E s (k + 1) := by rw [E, dif_pos hlt, if_pos h128, if_neg hpl, esc_92 e92]
                have hb2 : BAt B b (pre ++ [34] ++ P ++ sub s st k) wr := by rw [hse, sub_self, List.append_nil]; exact hbr
                have hq2 := hqr
                have hk2 := hkr
                have hB2 := hBr
                have c2 := hq2.cell
                clear hbr hqr hkr hBr c0
                go_wp2_with fail
                refine (wStr ⟨#[92, 92]⟩ hb2.is (by rw [show (⟨#[92, 92]⟩ : ByteArray).size = 2 from rfl]; simp only [List.length_append, List.length_cons, List.length_nil]; omega) hB2).mono ?_
                rintro e w3 ⟨rfl, hb3, hk3⟩
                have hb3 : BAt B b (pre ++ [34] ++ P ++ sub s st k ++ [92, 92]) w3 := hb3
                have hq3 := hq2.kept hk3 hqb
                have hk3 : Kept B b w w3 := hk2.trans hk3
                go_wp2_with fail
                go_roundw
                case rel =>
                  refine ⟨k + 1, k + 1, P ++ sub s st k ++ [92, 92], Nat.le_refl _, by omega, by go_num, by go_num, step_esc hP.out hEsc, ?_, hk3, hq3⟩
                  simpa [List.append_assoc] using hb3
                case measure => simp [intOf]; omega
            by_cases e8 : s[k].toNat = 8
            · as_aux_lemma =>
                have i1 : (s[k].toNat : Int) = 8 := by omega
                have hEsc : E s k = [92, 98] ++ E s (k + 1) := by rw [E, dif_pos hlt, if_pos h128, if_neg hpl, esc_8 e8]
                have hb2 : BAt B b (pre ++ [34] ++ P ++ sub s st k) wr := by rw [hse, sub_self, List.append_nil]; exact hbr
                have hq2 := hqr
                have hk2 := hkr
                have hB2 := hBr
                have c2 := hq2.cell
                clear hbr hqr hkr hBr c0
                go_wp2_with fail
                refine (wStr ⟨#[92, 98]⟩ hb2.is (by rw [show (⟨#[92, 98]⟩ : ByteArray).size = 2 from rfl]; simp only [List.length_append, List.length_cons, List.length_nil]; omega) hB2).mono ?_
                rintro e w3 ⟨rfl, hb3, hk3⟩
                have hb3 : BAt B b (pre ++ [34] ++ P ++ sub s st k ++ [92, 98]) w3 := hb3
                have hq3 := hq2.kept hk3 hqb
                have hk3 : Kept B b w w3 := hk2.trans hk3
                go_wp2_with fail
                go_roundw
                case rel =>
                  refine ⟨k + 1, k + 1, P ++ sub s st k ++ [92, 98], Nat.le_refl _, by omega, by go_num, by go_num, step_esc hP.out hEsc, ?_, hk3, hq3⟩
                  simpa [List.append_assoc] using hb3
                case measure => simp [intOf]; omega
            by_cases e12 : s[k].toNat = 12
            · as_aux_lemma =>
                have i1 : (s[k].toNat : Int) = 12 := by omega
                have hEsc : E s k = [92, 102] ++ E s (k + 1) := by rw [E, dif_pos hlt, if_pos h128, if_neg hpl, esc_12 e12]
                have hb2 : BAt B b (pre ++ [34] ++ P ++ sub s st k) wr := by rw [hse, sub_self, List.append_nil]; exact hbr
                have hq2 := hqr
                have hk2 := hkr
                have hB2 := hBr
                have c2 := hq2.cell
                clear hbr hqr hkr hBr c0
                go_wp2_with fail
                refine (wStr ⟨#[92, 102]⟩ hb2.is (by rw [show (⟨#[92, 102]⟩ : ByteArray).size = 2 from rfl]; simp only [List.length_append, List.length_cons, List.length_nil]; omega) hB2).mono ?_
                rintro e w3 ⟨rfl, hb3, hk3⟩
                have hb3 : BAt B b (pre ++ [34] ++ P ++ sub s st k ++ [92, 102]) w3 := hb3
                have hq3 := hq2.kept hk3 hqb
                have hk3 : Kept B b w w3 := hk2.trans hk3
                go_wp2_with fail
                go_roundw
                case rel =>
                  refine ⟨k + 1, k + 1, P ++ sub s st k ++ [92, 102], Nat.le_refl _, by omega, by go_num, by go_num, step_esc hP.out hEsc, ?_, hk3, hq3⟩
                  simpa [List.append_assoc] using hb3
                case measure => simp [intOf]; omega
            by_cases e10 : s[k].toNat = 10
            · as_aux_lemma =>
                have i1 : (s[k].toNat : Int) = 10 := by omega
                have hEsc : E s k = [92, 110] ++ E s (k + 1) := by rw [E, dif_pos hlt, if_pos h128, if_neg hpl, esc_10 e10]
                have hb2 : BAt B b (pre ++ [34] ++ P ++ sub s st k) wr := by rw [hse, sub_self, List.append_nil]; exact hbr
                have hq2 := hqr
                have hk2 := hkr
                have hB2 := hBr
                have c2 := hq2.cell
                clear hbr hqr hkr hBr c0
                go_wp2_with fail
                refine (wStr ⟨#[92, 110]⟩ hb2.is (by rw [show (⟨#[92, 110]⟩ : ByteArray).size = 2 from rfl]; simp only [List.length_append, List.length_cons, List.length_nil]; omega) hB2).mono ?_
                rintro e w3 ⟨rfl, hb3, hk3⟩
                have hb3 : BAt B b (pre ++ [34] ++ P ++ sub s st k ++ [92, 110]) w3 := hb3
                have hq3 := hq2.kept hk3 hqb
                have hk3 : Kept B b w w3 := hk2.trans hk3
                go_wp2_with fail
                go_roundw
                case rel =>
                  refine ⟨k + 1, k + 1, P ++ sub s st k ++ [92, 110], Nat.le_refl _, by omega, by go_num, by go_num, step_esc hP.out hEsc, ?_, hk3, hq3⟩
                  simpa [List.append_assoc] using hb3
                case measure => simp [intOf]; omega
            by_cases e13 : s[k].toNat = 13
            · as_aux_lemma =>
                have i1 : (s[k].toNat : Int) = 13 := by omega
                have hEsc : E s k = [92, 114] ++ E s (k + 1) := by rw [E, dif_pos hlt, if_pos h128, if_neg hpl, esc_13 e13]
                have hb2 : BAt B b (pre ++ [34] ++ P ++ sub s st k) wr := by rw [hse, sub_self, List.append_nil]; exact hbr
                have hq2 := hqr
                have hk2 := hkr
                have hB2 := hBr
                have c2 := hq2.cell
                clear hbr hqr hkr hBr c0
                go_wp2_with fail
                refine (wStr ⟨#[92, 114]⟩ hb2.is (by rw [show (⟨#[92, 114]⟩ : ByteArray).size = 2 from rfl]; simp only [List.length_append, List.length_cons, List.length_nil]; omega) hB2).mono ?_
                rintro e w3 ⟨rfl, hb3, hk3⟩
                have hb3 : BAt B b (pre ++ [34] ++ P ++ sub s st k ++ [92, 114]) w3 := hb3
                have hq3 := hq2.kept hk3 hqb
                have hk3 : Kept B b w w3 := hk2.trans hk3
                go_wp2_with fail
                go_roundw
                case rel =>
                  refine ⟨k + 1, k + 1, P ++ sub s st k ++ [92, 114], Nat.le_refl _, by omega, by go_num, by go_num, step_esc hP.out hEsc, ?_, hk3, hq3⟩
                  simpa [List.append_assoc] using hb3
                case measure => simp [intOf]; omega
            by_cases e9 : s[k].toNat = 9
            · as_aux_lemma =>
                have i1 : (s[k].toNat : Int) = 9 := by omega
                have hEsc : E s k = [92, 116] ++ E s (k + 1) := by rw [E, dif_pos hlt, if_pos h128, if_neg hpl, esc_9 e9]
                have hb2 : BAt B b (pre ++ [34] ++ P ++ sub s st k) wr := by rw [hse, sub_self, List.append_nil]; exact hbr
                have hq2 := hqr
                have hk2 := hkr
                have hB2 := hBr
                have c2 := hq2.cell
                clear hbr hqr hkr hBr c0
                go_wp2_with fail
                refine (wStr ⟨#[92, 116]⟩ hb2.is (by rw [show (⟨#[92, 116]⟩ : ByteArray).size = 2 from rfl]; simp only [List.length_append, List.length_cons, List.length_nil]; omega) hB2).mono ?_
                rintro e w3 ⟨rfl, hb3, hk3⟩
                have hb3 : BAt B b (pre ++ [34] ++ P ++ sub s st k ++ [92, 116]) w3 := hb3
                have hq3 := hq2.kept hk3 hqb
                have hk3 : Kept B b w w3 := hk2.trans hk3
                go_wp2_with fail
                go_roundw
                case rel =>
                  refine ⟨k + 1, k + 1, P ++ sub s st k ++ [92, 116], Nat.le_refl _, by omega, by go_num, by go_num, step_esc hP.out hEsc, ?_, hk3, hq3⟩
                  simpa [List.append_assoc] using hb3
                case measure => simp [intOf]; omega
            by_cases e127 : s[k].toNat = 127
            · as_aux_lemma =>
                have i1 : (s[k].toNat : Int) = 127 := by omega
                have hEsc : E s k = [92, 117, 48, 48, 55, 102] ++ E s (k + 1) := by rw [E, dif_pos hlt, if_pos h128, if_neg hpl, esc_127 e127]
                have hb2 : BAt B b (pre ++ [34] ++ P ++ sub s st k) wr := by rw [hse, sub_self, List.append_nil]; exact hbr
                have hq2 := hqr
                have hk2 := hkr
                have hB2 := hBr
                have c2 := hq2.cell
                clear hbr hqr hkr hBr c0
                have a15 := and15_127
                go_wp2_with fail
                refine (wStr ⟨#[92, 117, 48, 48]⟩ hb2.is (by rw [show (⟨#[92, 117, 48, 48]⟩ : ByteArray).size = 4 from rfl]; simp only [List.length_append, List.length_cons, List.length_nil]; omega) hB2).mono ?_
                rintro e w3 ⟨rfl, hb3, hk3⟩
                have hb3 : BAt B b (pre ++ [34] ++ P ++ sub s st k ++ [92, 117, 48, 48]) w3 := hb3
                have hq3 := hq2.kept hk3 hqb
                have hk3 : Kept B b w w3 := hk2.trans hk3
                have hB3 : B ≤ w3.heap.size := Nat.le_trans hB hk3.size
                have c3 := hq3.cell
                clear hb2 hq2 hk2 hB2 c2
                go_wp2_with fail
                go_still_tail 9, (by kernel_rfl)
                go_wp2_with fail
                refine (wByte (w := w3.drew) 55 hb3.is (by simp only [List.length_append, List.length_cons, List.length_nil]; omega) hB3).mono ?_
                rintro e w4 ⟨rfl, hb4, hk4⟩
                have hq4 := EncAt.kept (w := w3.drew) hq3 hk4 hqb
                have hk4 : Kept B b w w4 := Kept.trans (w2 := w3.drew) (hk3.drewN 1) hk4
                have hB4 : B ≤ w4.heap.size := Nat.le_trans hB hk4.size
                have c4 := hq4.cell
                clear hb3 hq3 hk3 hB3 c3
                go_wp2_with fail
                go_still_tail 9, (by kernel_rfl)
                go_wp2_with fail
                refine (wByte (w := w4.drew) 102 hb4.is (by simp only [List.length_append, List.length_cons, List.length_nil]; omega) hB4).mono ?_
                rintro e w5 ⟨rfl, hb5, hk5⟩
                have hq5 := EncAt.kept (w := w4.drew) hq4 hk5 hqb
                have hk5 : Kept B b w w5 := Kept.trans (w2 := w4.drew) (hk4.drewN 1) hk5
                go_wp2_with fail
                go_roundw
                case rel =>
                  refine ⟨k + 1, k + 1, P ++ sub s st k ++ [92, 117, 48, 48, 55, 102], Nat.le_refl _, by omega, by go_num, by go_num, step_esc hP.out hEsc, ?_, hk5, hq5⟩
                  simpa [List.append_assoc] using hb5
                case measure => simp [intOf]; omega
            as_aux_lemma =>
              have j0 : s[k].toNat < 32 := by unfold plainB at hpl; omega
              have i0 : (s[k].toNat : Int) < 32 := by omega
              have i1 : (s[k].toNat : Int) < 128 := by omega
              have i2 : decide ((32 : Int) ≤ s[k].toNat) = false := by simp; omega
              have n34 : ((s[k].toNat : Int) == 34) = false := by simp; omega
              have n92 : ((s[k].toNat : Int) == 92) = false := by simp; omega
              have n8 : ((s[k].toNat : Int) == 8) = false := by simp; omega
              have n12 : ((s[k].toNat : Int) == 12) = false := by simp; omega
              have n10 : ((s[k].toNat : Int) == 10) = false := by simp; omega
              have n13 : ((s[k].toNat : Int) == 13) = false := by simp; omega
              have n9 : ((s[k].toNat : Int) == 9) = false := by simp; omega
              have a15 := and15 (n := s[k].toNat) (by omega)
              have d0 : (0 : Int) ≤ (s[k].toNat : Int) / 16 := by omega
              have d1 : (s[k].toNat : Int) / 16 < 16 := by omega
              have m0 : (0 : Int) ≤ (s[k].toNat : Int) % 16 := by omega
              have m1 : (s[k].toNat : Int) % 16 < 16 := by omega
              have td : ((s[k].toNat : Int) / 16).toNat = s[k].toNat / 16 := by omega
              have tm : ((s[k].toNat : Int) % 16).toNat = s[k].toNat % 16 := by omega
              have hEsc : E s k = [92, 117, 48, 48, hexD (s[k].toNat / 16), hexD (s[k].toNat % 16)] ++ E s (k + 1) := by rw [E, dif_pos hlt, if_pos h128, if_neg hpl, esc_low e34 e92 e8 e12 e10 e13 e9]
              have hb2 : BAt B b (pre ++ [34] ++ P ++ sub s st k) wr := by rw [hse, sub_self, List.append_nil]; exact hbr
              have hq2 := hqr
              have hk2 := hkr
              have hB2 := hBr
              have c2 := hq2.cell
              clear hbr hqr hkr hBr c0
              go_wp2_with fail
              refine (wStr ⟨#[92, 117, 48, 48]⟩ hb2.is (by rw [show (⟨#[92, 117, 48, 48]⟩ : ByteArray).size = 4 from rfl]; simp only [List.length_append, List.length_cons, List.length_nil]; omega) hB2).mono ?_
              rintro e w3 ⟨rfl, hb3, hk3⟩
              have hb3 : BAt B b (pre ++ [34] ++ P ++ sub s st k ++ [92, 117, 48, 48]) w3 := hb3
              have hq3 := hq2.kept hk3 hqb
              have hk3 : Kept B b w w3 := hk2.trans hk3
              have hB3 : B ≤ w3.heap.size := Nat.le_trans hB hk3.size
              have c3 := hq3.cell
              clear hb2 hq2 hk2 hB2 c2
              go_wp2_with fail
              go_still_tail 9, (by kernel_rfl)
              go_wp2_with fail
              rw [hex_at]
              refine (wByte (w := w3.drew) (hexD (s[k].toNat / 16)) hb3.is (by simp only [List.length_append, List.length_cons, List.length_nil]; omega) hB3).mono ?_
              rintro e w4 ⟨rfl, hb4, hk4⟩
              have hq4 := EncAt.kept (w := w3.drew) hq3 hk4 hqb
              have hk4 : Kept B b w w4 := Kept.trans (w2 := w3.drew) (hk3.drewN 1) hk4
              have hB4 : B ≤ w4.heap.size := Nat.le_trans hB hk4.size
              have c4 := hq4.cell
              clear hb3 hq3 hk3 hB3 c3
              go_wp2_with fail
              go_still_tail 9, (by kernel_rfl)
              go_wp2_with fail
              rw [hex_at]
              refine (wByte (w := w4.drew) (hexD (s[k].toNat % 16)) hb4.is (by simp only [List.length_append, List.length_cons, List.length_nil]; omega) hB4).mono ?_
              rintro e w5 ⟨rfl, hb5, hk5⟩
              have hq5 := EncAt.kept (w := w4.drew) hq4 hk5 hqb
              have hk5 : Kept B b w w5 := Kept.trans (w2 := w4.drew) (hk4.drewN 1) hk5
              go_wp2_with fail
              go_roundw
              case rel =>
                refine ⟨k + 1, k + 1, P ++ sub s st k ++ [92, 117, 48, 48, hexD (s[k].toNat / 16), hexD (s[k].toNat % 16)], Nat.le_refl _, by omega, by go_num, by go_num, step_esc hP.out hEsc, ?_, hk5, hq5⟩
                simpa [List.append_assoc] using hb5
              case measure => simp [intOf]; omega

      · have i1 : ¬ (s[k].toNat : Int) < 128 := by omega
        have hdec := Lib.decodeGo_extract s k hlt
        have hKp := dec_pos s k
        have hKl := dec_le s k hlt
        have hE1 := E_rune hlt h128
        have hE0 := E_bad hlt h128
        obtain ⟨R, hR⟩ : ∃ R, (Utf8.decode s k).1 = R := ⟨_, rfl⟩
        obtain ⟨K, hK⟩ : ∃ K, (Utf8.decode s k).2 = K := ⟨_, rfl⟩
        have hRK : Utf8.decode s k = (R, K) := by rw [← hR, ← hK]
        rw [hRK] at hdec hKp hKl hE1 hE0
        have hcall := Tryd.utf8_DecodeRuneInString (s.extract k s.size) wr (tabs_below HTabs.out hkr.1 (by omega) (by omega))
        rw [hdec] at hcall
        clear hR hK hRK hdec
        simp only at hKp hKl hE1 hE0 hcall
        go_wp2_with fail
        refine hcall.mono ?_
        rintro e w2 ⟨rfl, hbel⟩
        have hkk : Kept B b wr w2 := Kept.of_below hbel (Nat.le_refl _) hBr
        have hb2 := hbr.below hbel (Nat.le_refl _)
        have hq2 := hqr.kept hkk hqb
        have hk2 := hkr.trans hkk
        have hBr2 : B ≤ w2.heap.size := Nat.le_trans hB hk2.size
        have c2 := hq2.cell
        clear hbr hqr hkr hBr c0 hkk hbel hcall
        by_cases hR1 : R = 65533
        · by_cases hK1 : K = 1
          · subst hR1 hK1
            have hEsc := hE0 rfl
            clear hE1 hE0
            by_cases hsk : st < k
            · have hx : decide (st < k) = true := by simpa using hsk
              go_wp2_with fail
              go_still_tail 10, (by kernel_rfl)
              go_wp2_with fail
              refine (wStr (w := w2.drew) (s.extract st k) hb2.is (by rw [ByteArray.size_extract]; simp; omega) hBr2).mono ?_
              rintro e w3 ⟨rfl, hb3, hk3⟩
              rw [extract_data] at hb3
              have hq3 := EncAt.kept (w := w2.drew) hq2 hk3 hqb
              have hk3 : Kept B b w w3 := Kept.trans (w2 := w2.drew) (hk2.drewN 1) hk3
              have hB3 : B ≤ w3.heap.size := Nat.le_trans hB hk3.size
              have c3 := hq3.cell
              clear hb2 hq2 hk2 hBr2 c2
              go_wp2_with fail
              refine (wStr ⟨#[92, 117, 102, 102, 102, 100]⟩ hb3.is (by rw [show (⟨#[92, 117, 102, 102, 102, 100]⟩ : ByteArray).size = 6 from rfl]; simp only [List.length_append, List.length_cons, List.length_nil]; omega) hB3).mono ?_
              rintro e w4 ⟨rfl, hb4, hk4⟩
              have hq4 := hq3.kept hk4 hqb
              have hk4 : Kept B b w w4 := hk3.trans hk4
              go_wp2_with fail
              go_roundw
              case rel =>
                refine ⟨k + 1, k + 1, P ++ sub s st k ++ [92, 117, 102, 102, 102, 100], Nat.le_refl _, by omega, by go_num, by go_num, step_esc hP.out hEsc, ?_, hk4, hq4⟩
                simpa [List.append_assoc] using hb4
              case measure => simp [intOf]; omega
            · obtain hse : st = k := by omega
              have hx : decide (st < k) = false := by simpa using hsk
              have hb3 : BAt B b (pre ++ [34] ++ P ++ sub s st k) w2 := by rw [hse, sub_self, List.append_nil]; exact hb2
              have hq3 := hq2
              have hk3 := hk2
              have hB3 := hBr2
              have c3 := hq3.cell
              clear hb2 hq2 hk2 hBr2 c2
              go_wp2_with fail
              refine (wStr ⟨#[92, 117, 102, 102, 102, 100]⟩ hb3.is (by rw [show (⟨#[92, 117, 102, 102, 102, 100]⟩ : ByteArray).size = 6 from rfl]; simp only [List.length_append, List.length_cons, List.length_nil]; omega) hB3).mono ?_
              rintro e w4 ⟨rfl, hb4, hk4⟩
              have hq4 := hq3.kept hk4 hqb
              have hk4 : Kept B b w w4 := hk3.trans hk4
              go_wp2_with fail
              go_roundw
              case rel =>
                refine ⟨k + 1, k + 1, P ++ sub s st k ++ [92, 117, 102, 102, 102, 100], Nat.le_refl _, by omega, by go_num, by go_num, step_esc hP.out hEsc, ?_, hk4, hq4⟩
                simpa [List.append_assoc] using hb4
              case measure => simp [intOf]; omega
          · subst hR1
            have hK2 : ((K : Int) == 1) = false := by simp; omega
            have hE := hE1 (fun e => hK1 (Prod.mk.inj e).2)
            clear hE1 hE0
            go_wp2_with fail
            go_roundw
            case rel => exact ⟨k + K, st, P, by omega, by omega, by go_num, rfl, step_rune hst hP.out hE, hb2, hk2, hq2⟩
            case measure => simp [intOf]; omega
        · have hR2 : ((R : Int) == 65533) = false := by simp; omega
          have hE := hE1 (fun e => hR1 (Prod.mk.inj e).1)
          clear hE1 hE0
          go_wp2_with fail
          go_roundw
          case rel => exact ⟨k + K, st, P, by omega, by omega, by go_num, rfl, step_rune hst hP.out hE, hb2, hk2, hq2⟩
          case measure => simp [intOf]; omega
    · obtain rfl : k = s.size := by omega
      have hEnd := E_end hP.out
      rw [HT.out] at hEnd
      by_cases hsk : st < s.size
      · have hx : decide (st < s.size) = true := by simpa using hsk
        go_wp2_with fail
        go_still_tail 9, (by kernel_rfl)
        go_wp2_with fail
        refine (wStr (w := wr.drew) (s.extract st s.size) hbr.is (by rw [ByteArray.size_extract]; simp; omega) hBr).mono ?_
        rintro e w2 ⟨rfl, hb2, hk2⟩
        rw [extract_data] at hb2
        have hq2 := EncAt.kept (w := wr.drew) hqr hk2 hqb
        have hk2 : Kept B b w w2 := Kept.trans (w2 := wr.drew) (hkr.drewN 1) hk2
        have hBr2 : B ≤ w2.heap.size := Nat.le_trans hB hk2.size
        have c2 := hq2.cell
        clear hbr hqr hkr hBr c0
        go_wp2_with fail
        refine (wByte 34 hb2.is (by simp; omega) hBr2).mono ?_
        rintro e w3 ⟨rfl, hb3, hk3⟩
        go_wp2_with fail
        go_end0
        refine ⟨rfl, ?_, hk2.trans hk3⟩
        unfold quoted
        rw [← hEnd]
        simpa [List.append_assoc] using hb3
      · obtain hse : st = s.size := by omega
        have hx : decide (st < s.size) = false := by simpa using hsk
        have hb2 : BAt B b (pre ++ [34] ++ P ++ sub s st s.size) wr := by rw [hse, sub_self, List.append_nil]; exact hbr
        clear hbr
        go_wp2_with fail
        refine (wByte 34 hb2.is (by simp; omega) hBr).mono ?_
        rintro e w3 ⟨rfl, hb3, hk3⟩
        go_wp2_with fail
        go_end0
        refine ⟨rfl, ?_, hkr.trans hk3⟩
        unfold quoted
        rw [← hEnd]
        simpa [List.append_assoc] using hb3
end Go.Proofs.YtommggamdgajcaaDoor
