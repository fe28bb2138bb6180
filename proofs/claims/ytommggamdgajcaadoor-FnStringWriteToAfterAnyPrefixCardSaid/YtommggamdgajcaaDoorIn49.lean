/- String templates: built, printed. -/
import Derived.Test.YtommggamdgajcaaDoorFM49
import Derived.Test.YtommggamdgajcaaDoorJson
import Derived.Test.YtommggamdgajcaaDoorZ49
namespace Go.Proofs.YtommggamdgajcaaDoor
open Go.RowKit

/-- The query q of a template: what it adds to the text. -/
def PieceAt (q : Nat) (P : List UInt8) (w : World) : Prop :=
  ∃ t cs, Nd q 62 #[.pointer none, .slice none 0 0, .slice none 0 0, .pointer (some ⟨t, 0, none⟩), .pointer none, .pointer none, .slice none 0 0, .int .i64 0] w ∧ Nd t 55 cs w ∧
    ((cs[8]? = some (.pointer none) ∧ ∃ T, Prints 40 q Any T w ∧ P = [92] ++ T) ∨
     (∃ a, cs[8]? = some (.pointer (some a)) ∧ Prints 40 q Any ([34] ++ P ++ [34]) w))
theorem PieceAt.pres {q : Nat} {P : List UInt8} {w w' : World} (h : PieceAt q P w) (k : Pres w w') : PieceAt q P w' := by
  obtain ⟨t, cs, h1, h2, h3⟩ := h
  refine ⟨t, cs, h1.pres k (by decide) (by decide), h2.pres k (by decide) (by decide), ?_⟩
  rcases h3 with ⟨h4, T, h5, h6⟩ | ⟨a, h4, h5⟩
  · exact .inl ⟨h4, T, h5.pres k, h6⟩
  · exact .inr ⟨a, h4, h5.pres k⟩
theorem seq0 (Ts : Nat → List UInt8) (k : Nat) : seqT [] Ts (k + 1) = seqT [] Ts k ++ Ts k := by simp [seqT]
theorem inner_eq (P : List UInt8) : (⟨(34 :: (P ++ [34])).toArray⟩ : ByteArray).extract 1 (P.length + 1) = ⟨P.toArray⟩ := by
  apply ByteArray.ext
  apply Array.ext'
  rw [ByteArray.data_extract]
  simp
def IRel (pre : List UInt8) (Ts : Nat → List UInt8) (n B b : Nat) (w : World) (vi : Value) (wr : World) : Prop :=
  ∃ k : Nat, k ≤ n ∧ vi = .int .i64 k ∧ BAt B b (pre ++ seqT [] Ts k) wr ∧ Kept B b w wr
set_option maxHeartbeats 1000000 in
set_option maxRecDepth 100000 in
theorem prints_string_q {x g : Nat} {s : ByteArray} {qs : List Nat} {Ts : Nat → List UInt8} {w : World} (hx : Nd x 26 #[.string s, .slice (some ⟨g, 0, none⟩) qs.length qs.length] w) (hg : Nd g 41 (qs.map fun q => Value.pointer (some ⟨q, 0, none⟩)).toArray w)
    (hm : qs.length ≤ 1048576) (hq : ∀ i (h : i < qs.length), PieceAt qs[i] (Ts i) w) : Prints 30 x Any ([34] ++ seqT [] Ts qs.length ++ [34]) w := by
  intro B b pre w0 hp hb hB hB2 hT hok hlen
  have hx0 := hx.pres hp (by decide) (by decide)
  have hg0 := hg.pres hp (by decide) (by decide)
  have c1 := hx0.cell 1 rfl
  simp only [List.length_append, List.length_cons, List.length_nil] at hlen
  have hnil := fun (w : World) (a : Option Addr) (n c n' c' : Nat) => Lib.run_eql_slice_nil (P := Tryd.prog) w 24 41 a n c n' c' Tryd.underlying24
  have HX := Lib.hid hx0
  have HG := Lib.hid hg0
  have HQ := Lib.hid hq
  have HP := Lib.hid hp
  have HT := Lib.hid hT
  have HB := Lib.hid hb
  clear hx0 hx hp hT hok hg hg0 hq
  go_enter Tryd.func30, Tryd.ntmps30
  go_wp2_with fail
  refine (wByte 34 hb (by omega) hB).mono ?_
  rintro e w1 ⟨rfl, hb1, hk1⟩
  have d1 := (HX.out.pres (hk1.pres HB.out) (by decide) (by decide)).cell 1 rfl
  clear c1
  go_wp2_with fail
  go_loopw [25] (IRel (pre ++ [34]) Ts qs.length B b w0) (fun i _ => qs.length - (intOf i).toNat)
  case atStart => exact ⟨0, Nat.zero_le _, rfl, by simpa [seqT] using hb1, hk1⟩
  case round =>
    obtain ⟨k, hk, rfl, hbr, hkr⟩ := hrel
    have hBr := Nat.le_trans hB hkr.size
    have hsl := seqT_le [] Ts qs.length
    by_cases hlt : k < qs.length
    · have ck : wr.cell? ⟨g, k, none⟩ = some (.pointer (some ⟨qs[k], 0, none⟩)) := (HG.out.pres (hkr.pres HB.out) (by decide) (by decide)).cell k (by simp [hlt])
      have hle := hsl (k + 1) (by omega)
      have hs1 := seq0 Ts k
      rw [hs1, List.length_append] at hle
      have HP1 := HQ.out k hlt
      obtain ⟨q, hqq⟩ : ∃ q, q = qs[k] := ⟨_, rfl⟩
      rw [← hqq] at ck HP1
      have HS := Lib.hid hs1
      have hpr := HP.out.trans (hkr.pres HB.out)
      have hTr := tabs_kept HT.out hkr hB2
      obtain ⟨t, cs, hQ, hTm, halt⟩ := HP1.pres hpr
      have c3 := hQ.cell 3 rfl
      have HTr := Lib.hid hTr
      clear hqq hsl hs1 hb1 HP1 hpr hTr hQ
      rcases halt with ⟨h8, T, hPT, hPe⟩ | ⟨a, h8, hPT⟩
      · have c8 := hTm.cell 8 h8
        have HPT := Lib.hid hPT
        have HPe := Lib.hid hPe
        rw [hPe] at hle
        simp only [List.length_append, List.length_cons, List.length_nil] at hle
        clear hPT hPe h8 hTm
        go_wp2_with fail
        refine (wStr ⟨#[92]⟩ hbr.is (by rw [show (⟨#[92]⟩ : ByteArray).size = 1 from rfl]; simp only [List.length_append, List.length_cons, List.length_nil]; omega) hBr).mono ?_
        rintro e w2 ⟨rfl, hb2, hk2⟩
        have hb2 : BAt B b (pre ++ [34] ++ seqT [] Ts k ++ [92]) w2 := hb2
        have hk12 := hkr.trans hk2
        have HC := Lib.hid (HPT.out B b _ w2 (hk2.pres hbr.is) hb2.is (Nat.le_trans hB hk12.size) hB2 (tabs_kept HTr.out hk2 hB2) trivial (by simp only [List.length_append, List.length_cons, List.length_nil]; omega))
        clear HTr HPT
        go_wp2_with fail
        refine HC.out.mono ?_
        rintro e w3 ⟨rfl, hb3, hk3⟩
        have hk13 := hk12.trans hk3
        clear HC
        go_wp2_with fail
        go_roundw
        case rel => exact ⟨k + 1, by omega, by go_num, by rw [HS.out, HPe.out]; simpa [List.append_assoc] using hb3, hk13⟩
        case measure => simp [intOf]; omega
      · have c8 := hTm.cell 8 h8
        have HC := Lib.hid (str_Query hPT trivial HTr.out (by simp only [List.length_append, List.length_cons, List.length_nil]; omega))
        clear hPT h8 hTm
        go_wp2_with fail
        refine HC.out.mono ?_
        rintro e w2 ⟨rfl, hb2⟩
        have hbr2 := hbr.below hb2 (Nat.le_refl _)
        have hk2 : Kept B b wr w2 := Kept.of_below hb2 (Nat.le_refl _) hBr
        have hk12 := hkr.trans hk2
        have hzs : (⟨(Ts k).toArray⟩ : ByteArray).size = (Ts k).length := by show (Ts k).toArray.size = _; simp
        have HZS := Lib.hid hzs
        clear HC hzs
        go_wp2_with fail
        rw [inner_eq]
        refine (wStr ⟨(Ts k).toArray⟩ hbr2.is (by rw [HZS.out]; simp only [List.length_append, List.length_cons, List.length_nil]; omega) (Nat.le_trans hB hk12.size)).mono ?_
        rintro e w3 ⟨rfl, hb3, hk3⟩
        have hk13 := hk12.trans hk3
        go_wp2_with fail
        go_roundw
        case rel => exact ⟨k + 1, by omega, by go_num, by rw [HS.out]; simpa [List.append_assoc] using hb3, hk13⟩
        case measure => simp [intOf]; omega
    · obtain rfl : k = qs.length := by omega
      have HBR := Lib.hid hbr
      clear hsl hb1
      go_wp2_with fail
      refine (wByte 34 hbr.is (by simp only [List.length_append, List.length_cons, List.length_nil]; omega) hBr).mono ?_
      rintro e w2 ⟨rfl, hb2, hk2⟩
      have hk12 := hkr.trans hk2
      go_wp2_with fail
      go_end0
      exact ⟨rfl, by simpa [List.append_assoc] using hb2, hk12⟩
end Go.Proofs.YtommggamdgajcaaDoor
