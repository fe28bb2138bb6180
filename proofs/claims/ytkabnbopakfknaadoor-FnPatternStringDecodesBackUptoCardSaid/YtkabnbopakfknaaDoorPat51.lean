/- What patterns write (printed by wip/tools/gen_pat36.py). -/
import Derived.Test.YtkabnbopakfknaaDoorNodeKit
import Derived.Test.YtkabnbopakfknaaDoorMade
namespace Go.Proofs.YtkabnbopakfknaaDoor
open Go.RowKit
set_option linter.unusedVariables false
set_option linter.unusedSimpArgs false

def seqT (sep : List UInt8) (Ts : Nat → List UInt8) : Nat → List UInt8
  | 0 => []
  | k + 1 => seqT sep Ts k ++ (if k = 0 then [] else sep) ++ Ts k
theorem seqT_le (sep : List UInt8) (Ts : Nat → List UInt8) (n : Nat) : ∀ k, k ≤ n → (seqT sep Ts k).length ≤ (seqT sep Ts n).length := by
  induction n with
  | zero => intro k hk; obtain rfl : k = 0 := by omega
            exact Nat.le_refl _
  | succ n ih =>
    intro k hk
    by_cases e : k = n + 1
    · subst e; exact Nat.le_refl _
    · have := ih k (by omega)
      simp only [seqT, List.length_append]; omega
theorem safe_40 (pre : List UInt8) : Safe (pre ++ [40]) := Safe.behind (by simp) (fun c hc => by simp at hc; subst hc; decide) pre
/-- The node writes T behind whatever the builder holds. -/
def Prt (f : FuncId) (p : Nat) (T : List UInt8) (w : World) : Prop :=
  ∀ (B b : Nat) (pre : List UInt8) (w' : World), Pres w w' → BIs B b pre w' → B ≤ w'.heap.size → 2 ≤ B → Lib.Utf8Tabs 0 1 w' → pre.length + T.length ≤ 10000000000 →
    Calls Tryd.prog f #[.pointer (some ⟨p, 0, none⟩), .pointer (some ⟨b, 0, none⟩)] w' fun e w'' => e = .returned (.tuple #[]) ∧ BIs B b (pre ++ T) w'' ∧ Kept B b w' w''
theorem Prt.pres {f : FuncId} {p : Nat} {T : List UInt8} {w w1 : World} (h : Prt f p T w) (k : Pres w w1) : Prt f p T w1 := fun B b pre w' hp => h B b pre w' (k.trans hp)
set_option maxRecDepth 100000 in
theorem prints_pat_name {p : Nat} {s : ByteArray} {v1 v2 : Value} {w : World} (hx : Nd p 66 #[.string s, v1, v2] w) (hs : s.size ≠ 0) : Prt 21 p s.data.toList w := by
  intro B b pre w0 hp hb hB hB2 hT hlen
  have h0 := hx.pres hp (by decide) (by decide)
  have c0 := h0.cell 0 rfl
  have hne := ne_empty hs
  have HC := Lib.hid (wStr (B := B) (b := b) (l := pre) (w := w0) s hb (by have : s.data.toList.length = s.size := rfl; omega) hB)
  clear h0 hx hp hT hlen hb hB hB2 hs
  go_enter Tryd.func21, Tryd.ntmps21
  go_wp2_with fail
  refine HC.out.mono ?_
  rintro e w1 ⟨rfl, hb1, hk1⟩
  go_wp2_with fail
  go_end0
  exact ⟨rfl, hb1.is, hk1⟩
set_option maxRecDepth 100000 in
theorem prints_pat_nil {p : Nat} {w : World} (hx : Nd p 66 #[.string ⟨#[]⟩, .slice none 0 0, .slice none 0 0] w) : Prt 21 p [] w := by
  intro B b pre w0 hp hb hB hB2 hT hlen
  have h0 := hx.pres hp (by decide) (by decide)
  have c0 := h0.cell 0 rfl
  have c1 := h0.cell 1 rfl
  have c2 := h0.cell 2 rfl
  clear h0 hx hp hT hlen hB hB2
  go_enter Tryd.func21, Tryd.ntmps21
  go_wp2_with fail
  go_end0
  exact ⟨rfl, by simpa using hb, Kept.refl _ _ _⟩
def parrRel (pre : List UInt8) (Ts : Nat → List UInt8) (n B b : Nat) (w : World) (vi : Value) (wr : World) : Prop :=
  ∃ k : Nat, k ≤ n ∧ vi = .int .i64 k ∧ BIs B b (pre ++ seqT [44, 32] Ts k) wr ∧ Kept B b w wr
set_option maxHeartbeats 1000000 in
set_option maxRecDepth 100000 in
theorem prints_parr {f g : Nat} {qs : List Nat} {v2 : Value} {Ts : Nat → List UInt8} {w : World} (hf : Nd f 66 #[.string ⟨#[]⟩, .slice (some ⟨g, 0, none⟩) qs.length qs.length, v2] w) (hg : Nd g 28 (qs.map fun q => Value.pointer (some ⟨q, 0, none⟩)).toArray w)
    (hm : qs.length ≤ 1048576) (hn0 : 0 < qs.length) (hq : ∀ i (h : i < qs.length), Prt 21 qs[i] (Ts i) w) : Prt 21 f ([91] ++ seqT [44, 32] Ts qs.length ++ [93]) w := by
  intro B b pre w0 hp hb hB hB2 hT hlen
  have hf0 := hf.pres hp (by decide) (by decide)
  have hg0 := hg.pres hp (by decide) (by decide)
  simp only [List.length_append, List.length_cons, List.length_nil] at hlen
  have e0 := hf0.cell 0 rfl
  have ec := hf0.cell 1 rfl
  have HH := Lib.hid hf0
  have HG := Lib.hid hg0
  have HQ := Lib.hid hq
  have HP := Lib.hid hp
  have HT := Lib.hid hT
  have HB := Lib.hid hb
  clear hf0 hf hp hT hg hg0 hq
  go_enter Tryd.func21, Tryd.ntmps21
  go_wp2_with fail
  refine (wByte 91 hb (by omega) hB).mono ?_
  rintro e w2 ⟨rfl, hb2, hk12⟩
  have hb2 := hb2.is
  have e1 := (HH.out.pres (hk12.pres HB.out) (by decide) (by decide)).cell 1 rfl
  clear hb e0 ec
  go_wp2_with fail
  go_loopw [32] (parrRel (pre ++ [91]) Ts qs.length B b w0) (fun i _ => qs.length - (intOf i).toNat)
  case atStart => exact ⟨0, Nat.zero_le _, rfl, by simpa [seqT] using hb2, hk12⟩
  case round =>
    obtain ⟨k, hk, rfl, hbr, hkr⟩ := hrel
    have hBr := Nat.le_trans hB hkr.size
    have hsl := seqT_le [44, 32] Ts qs.length
    by_cases hlt : k < qs.length
    · have ck : wr.cell? ⟨g, k, none⟩ = some (.pointer (some ⟨qs[k], 0, none⟩)) := (HG.out.pres (hkr.pres HB.out) (by decide) (by decide)).cell k (by simp [hlt])
      have hle := hsl (k + 1) (by omega)
      obtain ⟨q, hqq⟩ : ∃ q, q = qs[k] := ⟨_, rfl⟩
      have HX : Hid (Prt 21 q (Ts k) w) := Lib.hid (by rw [hqq]; exact HQ.out k hlt)
      rw [← hqq] at ck
      clear hqq hsl hb2
      by_cases h0 : k = 0
      · subst h0
        have hs1 : seqT [44, 32] Ts (0 + 1) = Ts 0 := by simp [seqT]
        have hb0 : BIs B b (pre ++ [91]) wr := by simpa [seqT] using hbr
        rw [hs1] at hle
        have HS := Lib.hid hs1
        clear hbr hs1
        have HC := Lib.hid (HX.out B b _ _ (HP.out.trans (hkr.pres HB.out)) hb0 hBr hB2 (tabs_kept HT.out hkr hB2) (by simp only [List.length_append, List.length_cons, List.length_nil]; omega))
        go_wp2_with fail
        refine HC.out.mono ?_
        rintro e w3 ⟨rfl, hb3, hk3⟩
        have hk13 := hkr.trans hk3
        clear HC
        go_wp2_with fail
        go_roundw
        case rel => exact ⟨0 + 1, by omega, by go_num, by rw [HS.out]; exact hb3, hk13⟩
        case measure => simp [intOf]; omega
      · have hk0 : decide (0 < k) = true := by simp; omega
        have hk0' : 0 < k := by omega
        have hs1 : seqT [44, 32] Ts (k + 1) = seqT [44, 32] Ts k ++ [44, 32] ++ Ts k := by simp [seqT, h0]
        rw [hs1] at hle
        simp only [List.length_append, List.length_cons, List.length_nil] at hle
        have HS := Lib.hid hs1
        clear hs1 h0
        go_wp2_with fail
        refine (wStr ⟨#[44, 32]⟩ hbr (by rw [show (⟨#[44, 32]⟩ : ByteArray).size = 2 from rfl]; simp only [List.length_append, List.length_cons, List.length_nil]; omega) hBr).mono ?_
        rintro e w3 ⟨rfl, hb3, hk3⟩
        have hk13 := hkr.trans hk3
        have hB3 := Nat.le_trans hB hk13.size
        have hb3 : BIs B b (pre ++ [91] ++ seqT [44, 32] Ts k ++ [44, 32]) w3 := hb3.is
        have HC := Lib.hid (HX.out B b _ _ (HP.out.trans (hk13.pres HB.out)) hb3 hB3 hB2 (tabs_kept HT.out hk13 hB2) (by simp only [List.length_append, List.length_cons, List.length_nil]; omega))
        clear hbr hkr hBr
        go_wp2_with fail
        refine HC.out.mono ?_
        rintro e w4 ⟨rfl, hb4, hk4⟩
        have hk14 := hk13.trans hk4
        clear HC
        go_wp2_with fail
        go_roundw
        case rel => exact ⟨k + 1, by omega, by go_num, by rw [HS.out]; simpa [List.append_assoc] using hb4, hk14⟩
        case measure => simp [intOf]; omega
    · obtain rfl : k = qs.length := by omega
      clear hsl hb2
      go_wp2_with fail
      refine (wByte 93 hbr (by simp only [List.length_append, List.length_cons, List.length_nil]; omega) hBr).mono ?_
      rintro e w3 ⟨rfl, hb3, hk3⟩
      have hk13 := hkr.trans hk3
      go_wp2_with fail
      go_end0
      exact ⟨rfl, by simpa [List.append_assoc] using hb3.is, hk13⟩
def pobjRel (pre : List UInt8) (Ts : Nat → List UInt8) (n B b : Nat) (w : World) (vi : Value) (wr : World) : Prop :=
  ∃ k : Nat, k ≤ n ∧ vi = .int .i64 k ∧ BIs B b (pre ++ seqT [44, 32] Ts k) wr ∧ Kept B b w wr
set_option maxHeartbeats 1000000 in
set_option maxRecDepth 100000 in
theorem prints_pobj {f g : Nat} {qs : List Nat} {Ts : Nat → List UInt8} {w : World} (hf : Nd f 66 #[.string ⟨#[]⟩, .slice none 0 0, .slice (some ⟨g, 0, none⟩) qs.length qs.length] w) (hg : Nd g 67 (qs.map fun q => Value.pointer (some ⟨q, 0, none⟩)).toArray w)
    (hm : qs.length ≤ 1048576) (hn0 : 0 < qs.length) (hq : ∀ i (h : i < qs.length), Prt 26 qs[i] (Ts i) w) : Prt 21 f ([123] ++ seqT [44, 32] Ts qs.length ++ [125]) w := by
  intro B b pre w0 hp hb hB hB2 hT hlen
  have hf0 := hf.pres hp (by decide) (by decide)
  have hg0 := hg.pres hp (by decide) (by decide)
  simp only [List.length_append, List.length_cons, List.length_nil] at hlen
  have e0 := hf0.cell 0 rfl
  have ec := hf0.cell 2 rfl
  have e1 := hf0.cell 1 rfl
  have HH := Lib.hid hf0
  have HG := Lib.hid hg0
  have HQ := Lib.hid hq
  have HP := Lib.hid hp
  have HT := Lib.hid hT
  have HB := Lib.hid hb
  clear hf0 hf hp hT hg hg0 hq
  go_enter Tryd.func21, Tryd.ntmps21
  go_wp2_with fail
  refine (wByte 123 hb (by omega) hB).mono ?_
  rintro e w2 ⟨rfl, hb2, hk12⟩
  have hb2 := hb2.is
  have e1 := (HH.out.pres (hk12.pres HB.out) (by decide) (by decide)).cell 2 rfl
  clear hb e0 ec
  go_wp2_with fail
  go_loopw [60] (pobjRel (pre ++ [123]) Ts qs.length B b w0) (fun i _ => qs.length - (intOf i).toNat)
  case atStart => exact ⟨0, Nat.zero_le _, rfl, by simpa [seqT] using hb2, hk12⟩
  case round =>
    obtain ⟨k, hk, rfl, hbr, hkr⟩ := hrel
    have hBr := Nat.le_trans hB hkr.size
    have hsl := seqT_le [44, 32] Ts qs.length
    by_cases hlt : k < qs.length
    · have ck : wr.cell? ⟨g, k, none⟩ = some (.pointer (some ⟨qs[k], 0, none⟩)) := (HG.out.pres (hkr.pres HB.out) (by decide) (by decide)).cell k (by simp [hlt])
      have hle := hsl (k + 1) (by omega)
      obtain ⟨q, hqq⟩ : ∃ q, q = qs[k] := ⟨_, rfl⟩
      have HX : Hid (Prt 26 q (Ts k) w) := Lib.hid (by rw [hqq]; exact HQ.out k hlt)
      rw [← hqq] at ck
      clear hqq hsl hb2
      by_cases h0 : k = 0
      · subst h0
        have hs1 : seqT [44, 32] Ts (0 + 1) = Ts 0 := by simp [seqT]
        have hb0 : BIs B b (pre ++ [123]) wr := by simpa [seqT] using hbr
        rw [hs1] at hle
        have HS := Lib.hid hs1
        clear hbr hs1
        have HC := Lib.hid (HX.out B b _ _ (HP.out.trans (hkr.pres HB.out)) hb0 hBr hB2 (tabs_kept HT.out hkr hB2) (by simp only [List.length_append, List.length_cons, List.length_nil]; omega))
        go_wp2_with fail
        refine HC.out.mono ?_
        rintro e w3 ⟨rfl, hb3, hk3⟩
        have hk13 := hkr.trans hk3
        clear HC
        go_wp2_with fail
        go_roundw
        case rel => exact ⟨0 + 1, by omega, by go_num, by rw [HS.out]; exact hb3, hk13⟩
        case measure => simp [intOf]; omega
      · have hk0 : decide (0 < k) = true := by simp; omega
        have hk0' : 0 < k := by omega
        have hs1 : seqT [44, 32] Ts (k + 1) = seqT [44, 32] Ts k ++ [44, 32] ++ Ts k := by simp [seqT, h0]
        rw [hs1] at hle
        simp only [List.length_append, List.length_cons, List.length_nil] at hle
        have HS := Lib.hid hs1
        clear hs1 h0
        go_wp2_with fail
        refine (wStr ⟨#[44, 32]⟩ hbr (by rw [show (⟨#[44, 32]⟩ : ByteArray).size = 2 from rfl]; simp only [List.length_append, List.length_cons, List.length_nil]; omega) hBr).mono ?_
        rintro e w3 ⟨rfl, hb3, hk3⟩
        have hk13 := hkr.trans hk3
        have hB3 := Nat.le_trans hB hk13.size
        have hb3 : BIs B b (pre ++ [123] ++ seqT [44, 32] Ts k ++ [44, 32]) w3 := hb3.is
        have HC := Lib.hid (HX.out B b _ _ (HP.out.trans (hk13.pres HB.out)) hb3 hB3 hB2 (tabs_kept HT.out hk13 hB2) (by simp only [List.length_append, List.length_cons, List.length_nil]; omega))
        clear hbr hkr hBr
        go_wp2_with fail
        refine HC.out.mono ?_
        rintro e w4 ⟨rfl, hb4, hk4⟩
        have hk14 := hk13.trans hk4
        clear HC
        go_wp2_with fail
        go_roundw
        case rel => exact ⟨k + 1, by omega, by go_num, by rw [HS.out]; simpa [List.append_assoc] using hb4, hk14⟩
        case measure => simp [intOf]; omega
    · obtain rfl : k = qs.length := by omega
      clear hsl hb2
      go_wp2_with fail
      refine (wByte 125 hbr (by simp only [List.length_append, List.length_cons, List.length_nil]; omega) hBr).mono ?_
      rintro e w3 ⟨rfl, hb3, hk3⟩
      have hk13 := hkr.trans hk3
      go_wp2_with fail
      go_end0
      exact ⟨rfl, by simpa [List.append_assoc] using hb3.is, hk13⟩
/-- The value's part: nothing, or ": " and the value's text. -/
def PV (w : World) (vp : Option Nat) (T : List UInt8) : Prop := ∀ v, vp = some v → Prt 21 v T w
def valT (vp : Option Nat) (T : List UInt8) : List UInt8 := if vp.isSome then [58, 32] ++ T else []
def pv (vp : Option Nat) : Value := .pointer (vp.map fun v => ⟨v, 0, none⟩)
set_option maxHeartbeats 1000000 in
set_option maxRecDepth 100000 in
theorem prints_po_key {p : Nat} {s : ByteArray} {v1 v2 : Value} {vp : Option Nat} {T : List UInt8} {w : World} (hx : Nd p 69 #[.string s, v1, v2, pv vp] w) (hs : s.size ≠ 0) (hv : PV w vp T) : Prt 26 p (s.data.toList ++ valT vp T) w := by
  intro B b pre w0 hp hb hB hB2 hT hlen
  have h0 := hx.pres hp (by decide) (by decide)
  have c0 := h0.cell 0 rfl
  have hne := ne_empty hs
  rw [List.length_append] at hlen
  have hss : s.data.toList.length = s.size := rfl
  have HC := Lib.hid (wStr (B := B) (b := b) (l := pre) (w := w0) s hb (by omega) hB)
  have HH := Lib.hid h0
  have HT := Lib.hid hT
  have HP := Lib.hid hp
  have HB := Lib.hid hb
  clear h0 hx hp hT hs hss hb
  go_enter Tryd.func26, Tryd.ntmps26
  go_wp2_with fail
  refine HC.out.mono ?_
  rintro e w1 ⟨rfl, hb1, hk1⟩
  have hb1 := hb1.is
  clear HC c0
  have H1 := Lib.hid (HH.out.pres (hk1.pres HB.out) (by decide) (by decide))
  have hB1 := Nat.le_trans hB hk1.size
  have hT1 := tabs_kept HT.out hk1 hB2
  have hp1 := HP.out.trans (hk1.pres HB.out)
  cases vp with
  | none =>
    have e3 := H1.out.cell 3 rfl
    clear hT1 hp1
    unfold pv at e3
    go_wp2_with fail
    go_end0
    exact ⟨rfl, by simpa [valT] using hb1, hk1⟩
  | some v =>
    have e3 := H1.out.cell 3 rfl
    unfold pv at e3
    simp only [Option.map_some] at e3
    simp only [valT, Option.isSome_some, if_true, List.length_append, List.length_cons, List.length_nil] at hlen
    have HV := Lib.hid (hv v rfl)
    have HT1 := Lib.hid hT1
    have HP1 := Lib.hid hp1
    clear hT1 hp1 hv
    go_wp2_with fail
    refine (wStr ⟨#[58, 32]⟩ hb1 (by rw [show (⟨#[58, 32]⟩ : ByteArray).size = 2 from rfl]; simp only [List.length_append, List.length_cons, List.length_nil]; omega) hB1).mono ?_
    rintro e w2 ⟨rfl, hb2, hk2⟩
    have hk12 := hk1.trans hk2
    have hB2' := Nat.le_trans hB hk12.size
    have e3' := (H1.out.pres (hk2.pres hb1) (by decide) (by decide)).cell 3 rfl
    unfold pv at e3'
    simp only [Option.map_some] at e3'
    have hb2 : BIs B b (pre ++ s.data.toList ++ [58, 32]) w2 := hb2.is
    have HC := Lib.hid (HV.out B b _ _ (HP1.out.trans (hk2.pres hb1)) hb2 hB2' hB2 (tabs_kept HT1.out hk2 hB2) (by simp only [List.length_append, List.length_cons, List.length_nil]; omega))
    clear e3 hb1 hb2 hk1 hk2
    go_wp2_with fail
    refine HC.out.mono ?_
    rintro e w3 ⟨rfl, hb3, hk3⟩
    have hk13 := hk12.trans hk3
    go_wp2_with fail
    go_end0
    exact ⟨rfl, by simpa [valT, List.append_assoc] using hb3, hk13⟩
set_option maxHeartbeats 1000000 in
set_option maxRecDepth 100000 in
theorem prints_po_q {p q : Nat} {vp : Option Nat} {Q T : List UInt8} {w : World} (hx : Nd p 69 #[.string ⟨#[]⟩, .pointer none, .pointer (some ⟨q, 0, none⟩), pv vp] w) (hq : Prints 31 q Safe Q w) (hv : PV w vp T) : Prt 26 p ([40] ++ Q ++ [41] ++ valT vp T) w := by
  intro B b pre w0 hp hb hB hB2 hT hlen
  have h0 := hx.pres hp (by decide) (by decide)
  have c0 := h0.cell 0 rfl
  have c1 := h0.cell 1 rfl
  have c2 := h0.cell 2 rfl
  simp only [List.length_append, List.length_cons, List.length_nil] at hlen
  have HH := Lib.hid h0
  have HT := Lib.hid hT
  have HP := Lib.hid hp
  have HB := Lib.hid hb
  have HQ := Lib.hid hq
  clear h0 hx hp hT hq
  go_enter Tryd.func26, Tryd.ntmps26
  go_wp2_with fail
  refine (wByte 40 hb (by omega) hB).mono ?_
  rintro e wa ⟨rfl, hba, hka⟩
  have hBa := Nat.le_trans hB hka.size
  have d2 := (HH.out.pres (hka.pres HB.out) (by decide) (by decide)).cell 2 rfl
  have HC := Lib.hid (HQ.out B b _ _ (HP.out.trans (hka.pres HB.out)) hba.is hBa hB2 (tabs_kept HT.out hka hB2) (safe_40 pre) (by simp only [List.length_append, List.length_cons, List.length_nil]; omega))
  clear c0 c1 c2 hb
  go_wp2_with fail
  refine HC.out.mono ?_
  rintro e wb ⟨rfl, hbb, hkb⟩
  have hkb2 := hka.trans hkb
  have hBb := Nat.le_trans hB hkb2.size
  clear HC d2 hba hka hkb
  go_wp2_with fail
  refine (wByte 41 hbb.is (by simp only [List.length_append, List.length_cons, List.length_nil]; omega) hBb).mono ?_
  rintro e w1 ⟨rfl, hb1, hkc⟩
  have hk1 := hkb2.trans hkc
  have hb1 : BIs B b (pre ++ ([40] ++ Q ++ [41])) w1 := by simpa [List.append_assoc] using hb1.is
  clear hbb hkb2 hkc
  have H1 := Lib.hid (HH.out.pres (hk1.pres HB.out) (by decide) (by decide))
  have hB1 := Nat.le_trans hB hk1.size
  have hT1 := tabs_kept HT.out hk1 hB2
  have hp1 := HP.out.trans (hk1.pres HB.out)
  cases vp with
  | none =>
    have e3 := H1.out.cell 3 rfl
    clear hT1 hp1
    unfold pv at e3
    go_wp2_with fail
    go_end0
    exact ⟨rfl, by simpa [valT] using hb1, hk1⟩
  | some v =>
    have e3 := H1.out.cell 3 rfl
    unfold pv at e3
    simp only [Option.map_some] at e3
    simp only [valT, Option.isSome_some, if_true, List.length_append, List.length_cons, List.length_nil] at hlen
    have HV := Lib.hid (hv v rfl)
    have HT1 := Lib.hid hT1
    have HP1 := Lib.hid hp1
    clear hT1 hp1 hv
    go_wp2_with fail
    refine (wStr ⟨#[58, 32]⟩ hb1 (by rw [show (⟨#[58, 32]⟩ : ByteArray).size = 2 from rfl]; simp only [List.length_append, List.length_cons, List.length_nil]; omega) hB1).mono ?_
    rintro e w2 ⟨rfl, hb2, hk2⟩
    have hk12 := hk1.trans hk2
    have hB2' := Nat.le_trans hB hk12.size
    have e3' := (H1.out.pres (hk2.pres hb1) (by decide) (by decide)).cell 3 rfl
    unfold pv at e3'
    simp only [Option.map_some] at e3'
    have hb2 : BIs B b (pre ++ ([40] ++ Q ++ [41]) ++ [58, 32]) w2 := hb2.is
    have HC := Lib.hid (HV.out B b _ _ (HP1.out.trans (hk2.pres hb1)) hb2 hB2' hB2 (tabs_kept HT1.out hk2 hB2) (by simp only [List.length_append, List.length_cons, List.length_nil]; omega))
    clear e3 hb1 hb2 hk1 hk2
    go_wp2_with fail
    refine HC.out.mono ?_
    rintro e w3 ⟨rfl, hb3, hk3⟩
    have hk13 := hk12.trans hk3
    go_wp2_with fail
    go_end0
    exact ⟨rfl, by simpa [valT, List.append_assoc] using hb3, hk13⟩
set_option maxHeartbeats 1000000 in
set_option maxRecDepth 100000 in
theorem prints_po_nil {p : Nat} {vp : Option Nat} {T : List UInt8} {w : World} (hx : Nd p 69 #[.string ⟨#[]⟩, .pointer none, .pointer none, pv vp] w) (hv : PV w vp T) : Prt 26 p (valT vp T) w := by
  intro B b pre w0 hp hb hB hB2 hT hlen
  have h0 := hx.pres hp (by decide) (by decide)
  have c0 := h0.cell 0 rfl
  have c1 := h0.cell 1 rfl
  have c2 := h0.cell 2 rfl
  have HH := Lib.hid h0
  have HT := Lib.hid hT
  have HP := Lib.hid hp
  have HB := Lib.hid hb
  have hk1 : Kept B b w0 w0 := Kept.refl B b w0
  have hb1 : BIs B b (pre ++ []) w0 := by simpa using hb
  clear h0 hx hp hT hb
  go_enter Tryd.func26, Tryd.ntmps26

  have H1 := Lib.hid (HH.out.pres (hk1.pres HB.out) (by decide) (by decide))
  have hB1 := Nat.le_trans hB hk1.size
  have hT1 := tabs_kept HT.out hk1 hB2
  have hp1 := HP.out.trans (hk1.pres HB.out)
  cases vp with
  | none =>
    have e3 := H1.out.cell 3 rfl
    clear hT1 hp1
    unfold pv at e3
    go_wp2_with fail
    go_end0
    exact ⟨rfl, by simpa [valT] using hb1, hk1⟩
  | some v =>
    have e3 := H1.out.cell 3 rfl
    unfold pv at e3
    simp only [Option.map_some] at e3
    simp only [valT, Option.isSome_some, if_true, List.length_append, List.length_cons, List.length_nil] at hlen
    have HV := Lib.hid (hv v rfl)
    have HT1 := Lib.hid hT1
    have HP1 := Lib.hid hp1
    clear hT1 hp1 hv
    go_wp2_with fail
    refine (wStr ⟨#[58, 32]⟩ hb1 (by rw [show (⟨#[58, 32]⟩ : ByteArray).size = 2 from rfl]; simp only [List.length_append, List.length_cons, List.length_nil]; omega) hB1).mono ?_
    rintro e w2 ⟨rfl, hb2, hk2⟩
    have hk12 := hk1.trans hk2
    have hB2' := Nat.le_trans hB hk12.size
    have e3' := (H1.out.pres (hk2.pres hb1) (by decide) (by decide)).cell 3 rfl
    unfold pv at e3'
    simp only [Option.map_some] at e3'
    have hb2 : BIs B b (pre ++ ([] : List UInt8) ++ [58, 32]) w2 := hb2.is
    have HC := Lib.hid (HV.out B b _ _ (HP1.out.trans (hk2.pres hb1)) hb2 hB2' hB2 (tabs_kept HT1.out hk2 hB2) (by simp only [List.length_append, List.length_cons, List.length_nil]; omega))
    clear e3 hb1 hb2 hk1 hk2
    go_wp2_with fail
    refine HC.out.mono ?_
    rintro e w3 ⟨rfl, hb3, hk3⟩
    have hk13 := hk12.trans hk3
    go_wp2_with fail
    go_end0
    exact ⟨rfl, by simpa [valT, List.append_assoc] using hb3, hk13⟩
end Go.Proofs.YtkabnbopakfknaaDoor
