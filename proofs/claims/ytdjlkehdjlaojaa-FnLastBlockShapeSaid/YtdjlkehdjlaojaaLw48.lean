/- The law FnLastBlockShape. -/
import Derived.Test.YtdjlkehdjlaojaaFi48
namespace Go.Proofs.Ytdjlkehdjlaojaa
open Go.RowKit
set_option linter.unusedVariables false
set_option linter.unusedSimpArgs false

/-- While the no-ops are appended. -/
def NpRel (N B : Nat) (k : Int) (C0 : Array Value) (w : World) (vi : Value) (wr : World) : Prop :=
  ∃ (i : Nat) (C : Array Value) (v : Value) (xs : List Value), i ≤ N ∧ vi = .int .i64 i ∧ Hid (Nd (B + 1) 82 C wr) ∧ Hid (C[5]? = some v) ∧ Hid (C[7]? = some (ptr B)) ∧ Hid (C[9]? = some (.int .i64 k)) ∧ Hid (wr.ownsRow (B + 2) 84 1 v i xs) ∧ Hid (Nops xs wr) ∧ Hid (Nd B 50 #[.slice none 0 0, .slice none 0 0, .int .i64 0, .int .i64 0, .int .i64 0] wr) ∧ Hid (Below B w wr) ∧ B + 2 ≤ wr.heap.size
def ZRel (N : Nat) (W : World) (vi : Value) (wr : World) : Prop := ∃ j : Nat, j ≤ N ∧ vi = .int .i64 j ∧ wr = W
def cntB (m : Nat) : Int := (if 6 < m then 1 else 0) + (if 15 < m then 1 else 0)
def BRel (N : Nat) (W : World) (vb vi : Value) (wr : World) : Prop := ∃ m : Nat, m ≤ 19 ∧ vi = .int .i64 (N + (m + 1) : Nat) ∧ vb = .int .i64 (cntB m) ∧ wr = W
set_option maxHeartbeats 8000000 in
set_option maxRecDepth 100000 in
theorem lawL (n0 k : Int) (w : World) (hk : -9223372036854775808 ≤ k ∧ k < 9223372036854775808) :
    Calls Try.prog 3 #[.int .i64 n0, .int .i64 k] w fun e w' => e = .returned (.bool true) ∧ Below w.heap.size w w' := by
  by_cases h1 : n0 < 0
  · go_enter Try.func3, Try.ntmps3
    go_wp2_with fail
    go_ret
    exact ⟨rfl, Below.refl _ _⟩
  by_cases h2 : 65536 < n0
  · go_enter Try.func3, Try.ntmps3
    go_wp2_with fail
    go_ret
    exact ⟨rfl, Below.refl _ _⟩
  obtain ⟨N, rfl⟩ : ∃ N : Nat, n0 = N := ⟨n0.toNat, by omega⟩
  have hN : N ≤ 65536 := by omega
  have d1 : decide ((N : Int) < 0) = false := by first | (simp; done) | (simp; omega)
  have d2 : decide ((65536 : Int) < (N : Int)) = false := by simp; omega
  clear h1 h2
  have HNEW := Lib.hid (new_any k w)
  go_enter Try.func3, Try.ntmps3
  go_wp2_with fail
  refine HNEW.out.mono ?_
  rintro e w1 ⟨C0, rfl, hz, nC, nS, h5, h7, h9, hb⟩
  obtain ⟨B, hB⟩ : ∃ B, w.heap.size = B := ⟨_, rfl⟩
  rw [hB] at hz nC nS h7 hb ⊢
  have HB := Lib.hid hB
  have NC := Lib.hid nC
  have NS := Lib.hid nS
  have H5 := Lib.hid h5
  have H7 := Lib.hid h7
  have H9 := Lib.hid h9
  have HBW := Lib.hid hb
  clear hB nC nS h5 h7 h9 hb HNEW
  unfold ptr
  go_wp2_with fail
  go_loopw [6] (NpRel N B k C0 w) (fun i _ => N - (Go.RowKit.intOf i).toNat)
  case atStart => exact ⟨0, C0, .slice none 0 0, [], Nat.zero_le _, rfl, NC, H5, H7, H9, Lib.hid (World.ownsRow_nil _ _ _ _), Lib.hid (fun j u h => by simp at h), NS, HBW, by omega⟩
  case round =>
    clear NC H5 H7 H9 NS HBW hz
    obtain ⟨i, C, v, xs, hi, rfl, NC, H5, H7, H9, HO, HNP, NS, HBW, hz⟩ := hrel
    by_cases hlt : i < N
    · have HC := Lib.hid (nop_any (B + 1) (B + 2) C v i xs wr NC.out H5.out HO.out (by omega) hz (by omega))
      unfold ptr at HC
      go_wp2_with fail
      refine HC.out.mono ?_
      rintro e w2 ⟨rfl, v', m1, m2, m3, m4⟩
      have hz2 := m4.2.2.2.1
      have hnp : Nops (xs ++ [ptr wr.heap.size]) w2 := by
        intro j u hj
        by_cases e : j < xs.length
        · rw [List.getElem?_append_left e] at hj
          obtain ⟨p, hp, hn⟩ := HNP.out j u hj
          refine ⟨p, hp, m4.nd hn ?_ (row_ne HO.out hn (by decide))⟩
          intro h
          rw [h] at hn
          exact absurd (Nd.eq hn NC.out).1 (by decide)
        · rw [List.getElem?_append_right (by omega)] at hj
          obtain ⟨t, ht⟩ : ∃ t, j - xs.length = t := ⟨_, rfl⟩
          rw [ht] at hj
          cases t with
          | zero =>
            have : ptr wr.heap.size = u := by simpa using hj
            exact ⟨_, this.symm, m3⟩
          | succ t => simp at hj
      have h5lt : 5 < C.size := (Array.getElem?_eq_some_iff.1 H5.out).1
      have K1 := Lib.hid m1
      have K2 := Lib.hid m2
      have K3 := Lib.hid hnp
      have K4 : Hid ((C.setIfInBounds 5 v')[5]? = some v') := Lib.hid (Array.getElem?_setIfInBounds_self_of_lt h5lt)
      have K5 : Hid ((C.setIfInBounds 5 v')[7]? = some (ptr B)) := Lib.hid ((Array.getElem?_setIfInBounds_ne (by decide)).trans H7.out)
      have K6 : Hid ((C.setIfInBounds 5 v')[9]? = some (.int .i64 k)) := Lib.hid ((Array.getElem?_setIfInBounds_ne (by decide)).trans H9.out)
      have K7 := Lib.hid (m4.nd NS.out (by omega) (fun e => by have := HO.out.lt _ e.symm; omega))
      have K8 := Lib.hid (HBW.out.trans (m4.below (B := B) (by omega) (fun q hq => by have := HO.out.lt q hq; omega) (by omega)))
      clear m1 m2 m3 m4 hnp HC
      go_wp2_with fail
      go_roundw
      case rel => exact ⟨i + 1, _, v', _, by omega, by go_num, K1, K4, K5, K6, K2, K3, K7, K8, by omega⟩
      case measure => first | omega | (simp; omega) | (simp [Go.RowKit.intOf]; omega)
    · obtain rfl : i = N := by omega
      have H8 := Lib.hid (count_any (B + 1) B 0 0 none wr (NC.out.cell 7 H7.out) (NS.out.cell 1 rfl))
      have HL := Lib.hid (zlast_any (B + 1) B (B + 2) C _ v i k xs wr NC.out H5.out H7.out H9.out NS.out rfl HO.out (by omega) (by omega) (by omega) hz (by omega))
      unfold ptr at H8 HL
      go_wp2_with fail
      refine H8.out.mono ?_
      rintro e wx ⟨rfl, h⟩
      obtain rfl : wr = wx := h.symm
      go_wp2_with fail
      refine HL.out.mono ?_
      intro e w2 hcl
      obtain rfl := hcl.1
      obtain ⟨fp, cg, cap, g, gcap, hf⟩ := fin3_of hcl HNP.out (by have := HO.out.1; omega)
      have HBW2 := Lib.hid (HBW.out.trans (hcl.below B (by omega) (Nat.le_refl _)))
      have HF := Lib.hid hf
      clear hcl hf HL H8 NC H5 H7 H9 HO HNP NS HBW h
      go_wp2_with fail
      have HE1 : Hid (Calls Try.prog 9 #[ptr (B + 1)] w2 fun e w' => e = .returned (.int .i64 ((i : Int) + 20)) ∧ w' = w2) := Lib.hid (len_any (B + 1) (i + 20) cap _ w2 HF.out.1)
      refine HE1.out.mono ?_
      rintro e wx ⟨rfl, h⟩
      obtain rfl : w2 = wx := h.symm
      clear HE1 h
      go_wp2_with fail
      refine (zop HF.out (by omega) i (by omega) 15 (OO_N i)).mono ?_
      rintro e wx ⟨rfl, h⟩
      obtain rfl : w2 = wx := h.symm
      clear h
      go_wp2_with fail
      refine (zint HF.out i (by omega) _ (VV_N i k)).mono ?_
      rintro e wx ⟨rfl, h⟩
      obtain rfl : w2 = wx := h.symm
      clear h
      go_wp2_with fail
      have HE4 : Hid (Calls Try.prog 12 #[ptr (B + 1), .string ⟨#[95, 108, 97, 115, 116]⟩, .int .i64 1] w2 fun e w' => e = .returned (ptr fp) ∧ w' = w2) := Lib.hid (zlookup_any (B + 1) B g gcap fp ⟨#[95, 108, 97, 115, 116]⟩ ⟨#[95, 108, 97, 115, 116]⟩ 0 1 1 w2 HF.out.2.2.1 HF.out.2.2.2.1 HF.out.2.2.2.2.1 HF.out.2.2.2.2.2.1 HF.out.2.2.2.2.2.2.2.1 true (by rw [ByteArray.toList_eq]; rfl) true rfl)
      refine HE4.out.mono ?_
      rintro e wx ⟨rfl, h⟩
      obtain rfl : w2 = wx := h.symm
      clear h HE4
      unfold ptr
      go_wp2_with fail
      have HE5 : Hid (Calls Try.prog 13 #[ptr fp] w2 fun e w' => e = .returned (.int .i64 ((i : Int) + 1)) ∧ w' = w2) := Lib.hid (pc_any fp _ w2 HF.out.2.2.2.2.2.2.1)
      refine HE5.out.mono ?_
      rintro e wx ⟨rfl, h⟩
      obtain rfl : w2 = wx := h.symm
      clear h HE5
      go_wp2_with fail
      refine (argcnt_any fp 1 w2 HF.out.2.2.2.2.2.2.2.1).mono ?_
      rintro e wx ⟨rfl, h⟩
      obtain rfl : w2 = wx := h.symm
      clear h
      go_wp2_with fail
      have HE6 : Hid (Calls Try.prog 12 #[ptr (B + 1), .string ⟨#[95, 108, 97, 115, 116]⟩, .int .i64 0] w2 fun e w' => e = .returned (.pointer none) ∧ w' = w2) := Lib.hid (zlookup_any (B + 1) B g gcap fp ⟨#[95, 108, 97, 115, 116]⟩ ⟨#[95, 108, 97, 115, 116]⟩ 0 1 0 w2 HF.out.2.2.1 HF.out.2.2.2.1 HF.out.2.2.2.2.1 HF.out.2.2.2.2.2.1 HF.out.2.2.2.2.2.2.2.1 true (by rw [ByteArray.toList_eq]; rfl) false rfl)
      refine HE6.out.mono ?_
      rintro e wx ⟨rfl, h⟩
      obtain rfl : w2 = wx := h.symm
      clear h HE6
      go_wp2_with fail
      have HE7 : Hid (Calls Try.prog 12 #[ptr (B + 1), .string ⟨#[95, 109, 111, 100, 105, 102, 121]⟩, .int .i64 2] w2 fun e w' => e = .returned (.pointer none) ∧ w' = w2) := Lib.hid (zlookup_any (B + 1) B g gcap fp ⟨#[95, 108, 97, 115, 116]⟩ ⟨#[95, 109, 111, 100, 105, 102, 121]⟩ 0 1 2 w2 HF.out.2.2.1 HF.out.2.2.2.1 HF.out.2.2.2.2.1 HF.out.2.2.2.2.2.1 HF.out.2.2.2.2.2.2.2.1 false (by rw [ByteArray.toList_eq, ByteArray.toList_eq]; rfl) false rfl)
      refine HE7.out.mono ?_
      rintro e wx ⟨rfl, h⟩
      obtain rfl : w2 = wx := h.symm
      clear h HE7
      go_wp2_with fail
      refine (count_any (B + 1) B 1 gcap _ w2 HF.out.2.2.1 HF.out.2.2.2.1).mono ?_
      rintro e wx ⟨rfl, h⟩
      obtain rfl : w2 = wx := h.symm
      clear h
      go_wp2_with fail
      refine (scopecnt_any (B + 1) _ w2 HF.out.2.2.2.2.2.2.2.2).mono ?_
      rintro e wx ⟨rfl, h⟩
      obtain rfl : w2 = wx := h.symm
      clear h
      go_wp2_with fail
      refine (zop HF.out (by omega) (i + 1) (by omega) 23 (OO_at i 0)).mono ?_
      rintro e wx ⟨rfl, h⟩
      obtain rfl : w2 = wx := h.symm
      clear h
      go_wp2_with fail
      refine (ztriple HF.out (i + 1) (by omega) k 3 1 (VV_at i 0 k)).mono ?_
      rintro e w3 ⟨rfl, hb3⟩
      have hbA : Below w2.heap.size w2 (w3.alloc (.cells #[.int .i64 k, .int .i64 3, .int .i64 1] 32)) := hb3.alloc hb3.size _
      have HF3 := Lib.hid (HF.out.on hbA)
      have HBW3 := Lib.hid (HBW2.out.trans (hbA.mono (by have := HBW2.out.size; have := HB.out; omega)))
      clear hb3 hbA HF HBW2
      go_wp2_with fail
      obtain ⟨W4, hW4⟩ : ∃ X : World, X = w3.alloc (.cells #[.int .i64 k, .int .i64 3, .int .i64 1] 32) := ⟨_, rfl⟩
      rw [← hW4] at HF3 HBW3 ⊢
      clear hW4
      go_loopw [13] (ZRel i W4) (fun v _ => i - (Go.RowKit.intOf v).toNat)
      case atStart => exact ⟨0, Nat.zero_le _, rfl, rfl⟩
      case round =>
        obtain ⟨j, hj, rfl, rfl⟩ := hrel
        by_cases hlt2 : j < i
        · have HZ := Lib.hid (zop HF3.out (by omega) j (by omega) 0 (OO_lt hlt2))
          go_wp2_with fail
          refine HZ.out.mono ?_
          rintro e wx ⟨rfl, h⟩
          obtain rfl : wr = wx := h.symm
          clear h HZ
          go_wp2_with fail
          go_roundw
          case rel => exact ⟨j + 1, by omega, by go_num, rfl⟩
          case measure => first | omega | (simp; omega) | (simp [Go.RowKit.intOf]; omega)
        · obtain rfl : j = i := by omega
          go_wp2_with fail
          refine (zop HF3.out (by omega) (j + 19) (by omega) 24 (OO_at j 18)).mono ?_
          rintro e wx ⟨rfl, h⟩
          obtain rfl : wr = wx := h.symm
          clear h
          go_wp2_with fail
          refine (zpair HF3.out (by omega) (j + 18) (by omega) k 0 5 (OO_at j 17) (by decide) (VV_at j 17 k)).mono ?_
          rintro e w5 ⟨rfl, hb5⟩
          have HF5 := Lib.hid (HF3.out.on hb5)
          have HBW5 := Lib.hid (HBW3.out.trans (hb5.mono (by have := HBW3.out.size; have := HB.out; omega)))
          clear hb5 HF3 HBW3
          go_wp2_with fail
          refine (zop HF5.out (by omega) (j + 15) (by omega) 5 (OO_at j 14)).mono ?_
          rintro e wx ⟨rfl, h⟩
          obtain rfl : w5 = wx := h.symm
          clear h
          go_wp2_with fail
          refine (zpair HF5.out (by omega) (j + 15) (by omega) k 2 5 (OO_at j 14) (by decide) (VV_at j 14 k)).mono ?_
          rintro e w6 ⟨rfl, hb6⟩
          have HF6 := Lib.hid (HF5.out.on hb6)
          have HBW6 := Lib.hid (HBW5.out.trans (hb6.mono (by have := HBW5.out.size; have := HB.out; omega)))
          clear hb6 HF5 HBW5
          go_wp2_with fail
          go_loopw [14, 15] (BRel j w6) (fun _ v _ => j + 20 - (Go.RowKit.intOf v).toNat)
          case atStart => exact ⟨0, by omega, by go_num, rfl, rfl⟩
          case round =>
            obtain ⟨m, hm, rfl, rfl, hwr⟩ := hrel
            obtain rfl : w6 = wr := hwr.symm
            clear hwr
            obtain ⟨q, hq⟩ : ∃ q, j + (m + 1) = q := ⟨_, rfl⟩
            obtain ⟨cb, hcb⟩ : ∃ cb, cntB m = cb := ⟨_, rfl⟩
            rw [hq, hcb]
            have hqb : q ≤ 1000000 := by omega
            by_cases h19 : m = 19
            · subst h19
              obtain rfl : 2 = cb := hcb
              have dq : decide ((q : Int) < (j : Int) + 20) = false := by simp; omega
              go_wp2_with fail
              go_ret
              exact ⟨rfl, by rw [HB.out]; exact HBW6.out⟩
            · have hm19 : m < 19 := by omega
              have dq : decide ((q : Int) < (j : Int) + 20) = true := by simp; omega
              obtain ⟨ho0, honly⟩ := opT_pos m hm19
              have HZ := Lib.hid (zop HF6.out (by omega) q (by omega) (opT m) (by rw [← hq]; exact OO_at j m))
              obtain ⟨o, ho⟩ : ∃ o, opT m = o := ⟨_, rfl⟩
              rw [ho] at HZ ho0 honly
              have do0 : decide (o < 0) = false := by simp; omega
              by_cases h6 : m = 6
              · subst h6
                obtain rfl : 9 = o := ho
                obtain rfl : 0 = cb := hcb
                have hs : (q : Int) - ((j : Int) + 1) = 6 := by omega
                have HBr : Hid (Calls Try.prog 18 #[.int .i64 9] w6 fun e w' => e = .returned (.bool true) ∧ w' = w6) := Lib.hid (isBranch_any 9 w6)
                go_wp2_with fail
                refine HZ.out.mono ?_
                rintro e wx ⟨rfl, h⟩
                obtain rfl : w6 = wx := h.symm
                clear h HZ
                go_wp2_with fail
                refine HBr.out.mono ?_
                rintro e wx ⟨rfl, h⟩
                obtain rfl : w6 = wx := h.symm
                clear h HBr
                go_wp2_with fail
                refine (last6_any w6).mono ?_
                rintro e wx ⟨rfl, h⟩
                obtain rfl : w6 = wx := h.symm
                clear h
                go_wp2_with fail
                have HV : Hid (VV j k q = .iface 3 (.int .i64 ((j : Int) + 1 + 13))) := Lib.hid (by rw [← hq]; exact VV_at j 6 k)
                have HO2 : Hid (OO j (j + 1 + 13) = opT 13) := Lib.hid (OO_at j 13)
                refine (zint HF6.out q (by omega) _ HV.out).mono ?_
                rintro e wx ⟨rfl, h⟩
                obtain rfl : w6 = wx := h.symm
                clear h
                go_wp2_with fail
                refine (zop HF6.out (by omega) (j + 1 + 13) (by omega) _ HO2.out).mono ?_
                rintro e wx ⟨rfl, h⟩
                obtain rfl : w6 = wx := h.symm
                clear h
                unfold opT
                have HQ := Lib.hid hq
                clear hq
                go_wp2_with fail
                go_roundw
                case rel => exact ⟨6 + 1, by omega, by rw [show j + (6 + 1 + 1) = q + 1 by have := HQ.out; omega]; go_num, rfl, rfl⟩
                case measure => have := HQ.out; simp [Go.RowKit.intOf]; omega
              by_cases h15 : m = 15
              · subst h15
                obtain rfl : 16 = o := ho
                obtain rfl : 1 = cb := hcb
                have hs : (q : Int) - ((j : Int) + 1) = 15 := by omega
                have HBr : Hid (Calls Try.prog 18 #[.int .i64 16] w6 fun e w' => e = .returned (.bool true) ∧ w' = w6) := Lib.hid (isBranch_any 16 w6)
                go_wp2_with fail
                refine HZ.out.mono ?_
                rintro e wx ⟨rfl, h⟩
                obtain rfl : w6 = wx := h.symm
                clear h HZ
                go_wp2_with fail
                refine HBr.out.mono ?_
                rintro e wx ⟨rfl, h⟩
                obtain rfl : w6 = wx := h.symm
                clear h HBr
                go_wp2_with fail
                refine (last15_any w6).mono ?_
                rintro e wx ⟨rfl, h⟩
                obtain rfl : w6 = wx := h.symm
                clear h
                go_wp2_with fail
                have HV : Hid (VV j k q = .iface 3 (.int .i64 ((j : Int) + 1 + 17))) := Lib.hid (by rw [← hq]; exact VV_at j 15 k)
                have HO2 : Hid (OO j (j + 1 + 17) = opT 17) := Lib.hid (OO_at j 17)
                refine (zint HF6.out q (by omega) _ HV.out).mono ?_
                rintro e wx ⟨rfl, h⟩
                obtain rfl : w6 = wx := h.symm
                clear h
                go_wp2_with fail
                refine (zop HF6.out (by omega) (j + 1 + 17) (by omega) _ HO2.out).mono ?_
                rintro e wx ⟨rfl, h⟩
                obtain rfl : w6 = wx := h.symm
                clear h
                unfold opT
                have HQ := Lib.hid hq
                clear hq
                go_wp2_with fail
                go_roundw
                case rel => exact ⟨15 + 1, by omega, by rw [show j + (15 + 1 + 1) = q + 1 by have := HQ.out; omega]; go_num, rfl, rfl⟩
                case measure => have := HQ.out; simp [Go.RowKit.intOf]; omega
              have hnb : decide (o = 9 ∨ o = 15 ∨ o = 16) = false := by
                cases h : decide (o = 9 ∨ o = 15 ∨ o = 16) with
                | false => rfl
                | true => rcases honly h with h | h <;> contradiction
              have HBr := Lib.hid (isBranch_any o w6)
              rw [hnb] at HBr
              have hcb2 : cntB (m + 1) = cb := by
                rw [← hcb]
                unfold cntB
                have a1 : (6 < m + 1) ↔ (6 < m) := by omega
                have a2 : (15 < m + 1) ↔ (15 < m) := by omega
                simp only [a1, a2]
              have HCB := Lib.hid hcb2
              have HQ := Lib.hid hq
              clear hnb honly ho hcb hcb2 hq
              go_wp2_with fail
              refine HZ.out.mono ?_
              rintro e wx ⟨rfl, h⟩
              obtain rfl : w6 = wx := h.symm
              clear h HZ
              go_wp2_with fail
              refine HBr.out.mono ?_
              rintro e wx ⟨rfl, h⟩
              obtain rfl : w6 = wx := h.symm
              clear h HBr
              go_wp2_with fail
              go_roundw
              case rel => exact ⟨m + 1, by omega, by rw [show j + (m + 1 + 1) = q + 1 by have := HQ.out; omega]; go_num, by rw [HCB.out], rfl⟩
              case measure => have := HQ.out; simp [Go.RowKit.intOf]; omega
end Go.Proofs.Ytdjlkehdjlaojaa
