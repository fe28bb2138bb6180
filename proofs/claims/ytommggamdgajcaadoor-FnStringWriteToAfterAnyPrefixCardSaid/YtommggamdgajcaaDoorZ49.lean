/- The law's own functions: zzPlainASCIIB2, zzHexB2, zzEscB2, zzQuotedB2 (printed by wip/tools/gen_z49.py). -/
import Derived.Test.YtommggamdgajcaaDoorOwn
import Derived.Test.YtommggamdgajcaaDoorEsc
import Derived.Deep.QuietTactic
import Derived.BigQuiet
namespace Go.Proofs.YtommggamdgajcaaDoor
open Go.RowKit

theorem plain_any (s : ByteArray) (w : World) (hs : s.size ≤ 1048576) :
    Calls Tryd.prog 10 #[.string s] w fun e w' => e = .returned (.bool (asciiB s)) ∧ w = w' := by
  go_enter Tryd.func10, Tryd.ntmps10
  go_wp2_with fail
  go_loop [3] (fun i => ∃ k : Nat, k ≤ s.size ∧ i = .int .i64 k ∧ Hid (∀ j (hj : j < s.size), j < k → s[j].toNat < 127)) (fun i => s.size - (intOf i).toNat)
  case atStart => exact ⟨0, Nat.zero_le _, rfl, Lib.hid (fun j _ h => by omega)⟩
  case round =>
    obtain ⟨k, hk, rfl, H⟩ := hrel
    by_cases hlt : k < s.size
    · by_cases hc : s[k].toNat < 127
      · have hc1 : ¬ (127 : Int) ≤ (s[k].toNat : Int) := by omega
        have HH : Hid (∀ j (hj : j < s.size), j < k + 1 → s[j].toNat < 127) := Lib.hid (fun j hj h => by
          by_cases e : j = k
          · subst e; exact hc
          · exact H.out j hj (by omega))
        clear hc H
        go_wp2_with fail
        go_round
        case rel => exact ⟨k + 1, by omega, by go_num, HH⟩
        case measure => simp [intOf]; omega
      · have hc1 : (127 : Int) ≤ (s[k].toNat : Int) := by omega
        have HF := Lib.hid (ascii_not hlt hc)
        clear hc H
        go_wp2_with fail
        go_ret
        exact ⟨ret_bool HF.out.symm, rfl⟩
    · have HF := Lib.hid (ascii_mk (s := s) (fun j hj => H.out j hj (by omega)))
      clear H
      go_wp2_with fail
      go_ret
      exact ⟨ret_bool HF.out.symm, rfl⟩

theorem hexz_any (x : Int) (h0 : 0 ≤ x) (h1 : x < 16) (w : World) : Calls Tryd.prog 42 #[.int .u8 x] w fun e w' => e = .returned (.int .u8 ((hexD x.toNat).toNat : Int)) ∧ w = w' := by
  have hn := hexD_nat ⟨x.toNat, by omega⟩
  have HN := Lib.hid hn
  clear hn
  by_cases h : x < 10
  · go_enter Tryd.func42, Tryd.ntmps42
    go_wp2
    go_ret
    exact ⟨ret_int (by have := HN.out; rw [if_pos (by omega)] at this; omega), rfl⟩
  · go_enter Tryd.func42, Tryd.ntmps42
    go_wp2
    go_ret
    exact ⟨ret_int (by have := HN.out; rw [if_neg (by omega)] at this; omega), rfl⟩

/-- The bytes escaped so far. -/
def ZRel (s : ByteArray) (B : Nat) (w : World) (vb vi : Value) (wr : World) : Prop :=
  ∃ (k : Nat) (v : Value), k ≤ s.size ∧ vi = .int .i64 k ∧ v = vb ∧ OB B v (escs (s.data.toList.take k)) wr ∧ Below B w wr
set_option maxRecDepth 100000 in
theorem and15_fin' : ∀ x : Fin 256, bits .and .u8 ((x.val : Nat) : Int) 15 = (x.val : Int) % 16 := by decide
theorem and15' {n : Nat} (h : n < 256) : bits .and .u8 (n : Int) 15 = (n : Int) % 16 := and15_fin' ⟨n, h⟩

set_option maxHeartbeats 4000000 in
set_option maxRecDepth 100000 in
theorem esc_any (s : ByteArray) (w : World) (hs : s.size ≤ 1048576) (hA : asciiB s = true) :
    Calls Tryd.prog 32 #[.string s] w fun e w' => ∃ v, e = .returned v ∧ OB w.heap.size v (escs s.data.toList) w' ∧ Below w.heap.size w w' := by
  obtain ⟨B, hB⟩ : ∃ B, B = w.heap.size := ⟨_, rfl⟩
  rw [← hB]
  have hBw : B ≤ w.heap.size := by omega
  have HA := Lib.hid hA
  clear hA hB
  go_enter Tryd.func32, Tryd.ntmps32
  go_wp2_with fail
  go_loopw [3, 4] (ZRel s B w) (fun _ i _ => s.size - (intOf i).toNat)
  case atStart => exact ⟨0, _, Nat.zero_le _, rfl, rfl, OB.nil _ _, Below.refl _ _⟩
  case round =>
    obtain ⟨k, v, hk, rfl, rfl, hown, hbw⟩ := hrel
    have hBr : B ≤ wr.heap.size := Nat.le_trans hBw hbw.size
    have hl0 := escs_len (s.data.toList.take k)
    have hl : (escs (s.data.toList.take k)).length ≤ 6291456 := by
      have : (s.data.toList.take k).length ≤ k := List.length_take_le _ _
      omega
    clear hl0
    by_cases hlt : k < s.size
    · have h127 := ascii_at HA.out hlt
      by_cases e34 : s[k].toNat = 34
      · have i1 : (s[k].toNat : Int) = 34 := by omega
        have HX : Hid (s[k] = 34) := Lib.hid (by apply UInt8.toNat.inj; rw [e34]; rfl)
        obtain ⟨v1, w1, hap, ho1, hb1⟩ := app_lit hown [92, 34] hBr (by simp only [List.length_cons, List.length_nil]; omega)
        have hap : ∀ ty, (Builtin.append_ #[71, 71] ty #[v, .slice (some ⟨wr.heap.size, 0, none⟩) 2 2]).run Tryd.prog (wr.alloc (.cells #[.int .u8 92, .int .u8 34] 5)) = .ok v1 w1 := hap
        have HO1 := Lib.hid ho1
        have hbw1 := hbw.trans hb1
        clear hown ho1 hb1
        go_wp2_with (at_builtin; refine wpList_append_run _ rfl _ _ _ _ rfl _ _ _ rfl rfl _ hap ?_)
        go_roundw
        case rel => exact ⟨k + 1, v1, by omega, by go_num, rfl, by rw [take_snoc s k hlt, escs_snoc, HX.out, escOf_34]; exact HO1.out, hbw1⟩
        case measure => simp [intOf]; omega
      by_cases e92 : s[k].toNat = 92
      · have i1 : (s[k].toNat : Int) = 92 := by omega
        have HX : Hid (s[k] = 92) := Lib.hid (by apply UInt8.toNat.inj; rw [e92]; rfl)
        obtain ⟨v1, w1, hap, ho1, hb1⟩ := app_lit hown [92, 92] hBr (by simp only [List.length_cons, List.length_nil]; omega)
        have hap : ∀ ty, (Builtin.append_ #[71, 71] ty #[v, .slice (some ⟨wr.heap.size, 0, none⟩) 2 2]).run Tryd.prog (wr.alloc (.cells #[.int .u8 92, .int .u8 92] 5)) = .ok v1 w1 := hap
        have HO1 := Lib.hid ho1
        have hbw1 := hbw.trans hb1
        clear hown ho1 hb1
        go_wp2_with (at_builtin; refine wpList_append_run _ rfl _ _ _ _ rfl _ _ _ rfl rfl _ hap ?_)
        go_roundw
        case rel => exact ⟨k + 1, v1, by omega, by go_num, rfl, by rw [take_snoc s k hlt, escs_snoc, HX.out, escOf_92]; exact HO1.out, hbw1⟩
        case measure => simp [intOf]; omega
      by_cases e8 : s[k].toNat = 8
      · have i1 : (s[k].toNat : Int) = 8 := by omega
        have HX : Hid (s[k] = 8) := Lib.hid (by apply UInt8.toNat.inj; rw [e8]; rfl)
        obtain ⟨v1, w1, hap, ho1, hb1⟩ := app_lit hown [92, 98] hBr (by simp only [List.length_cons, List.length_nil]; omega)
        have hap : ∀ ty, (Builtin.append_ #[71, 71] ty #[v, .slice (some ⟨wr.heap.size, 0, none⟩) 2 2]).run Tryd.prog (wr.alloc (.cells #[.int .u8 92, .int .u8 98] 5)) = .ok v1 w1 := hap
        have HO1 := Lib.hid ho1
        have hbw1 := hbw.trans hb1
        clear hown ho1 hb1
        go_wp2_with (at_builtin; refine wpList_append_run _ rfl _ _ _ _ rfl _ _ _ rfl rfl _ hap ?_)
        go_roundw
        case rel => exact ⟨k + 1, v1, by omega, by go_num, rfl, by rw [take_snoc s k hlt, escs_snoc, HX.out, escOf_8]; exact HO1.out, hbw1⟩
        case measure => simp [intOf]; omega
      by_cases e12 : s[k].toNat = 12
      · have i1 : (s[k].toNat : Int) = 12 := by omega
        have HX : Hid (s[k] = 12) := Lib.hid (by apply UInt8.toNat.inj; rw [e12]; rfl)
        obtain ⟨v1, w1, hap, ho1, hb1⟩ := app_lit hown [92, 102] hBr (by simp only [List.length_cons, List.length_nil]; omega)
        have hap : ∀ ty, (Builtin.append_ #[71, 71] ty #[v, .slice (some ⟨wr.heap.size, 0, none⟩) 2 2]).run Tryd.prog (wr.alloc (.cells #[.int .u8 92, .int .u8 102] 5)) = .ok v1 w1 := hap
        have HO1 := Lib.hid ho1
        have hbw1 := hbw.trans hb1
        clear hown ho1 hb1
        go_wp2_with (at_builtin; refine wpList_append_run _ rfl _ _ _ _ rfl _ _ _ rfl rfl _ hap ?_)
        go_roundw
        case rel => exact ⟨k + 1, v1, by omega, by go_num, rfl, by rw [take_snoc s k hlt, escs_snoc, HX.out, escOf_12]; exact HO1.out, hbw1⟩
        case measure => simp [intOf]; omega
      by_cases e10 : s[k].toNat = 10
      · have i1 : (s[k].toNat : Int) = 10 := by omega
        have HX : Hid (s[k] = 10) := Lib.hid (by apply UInt8.toNat.inj; rw [e10]; rfl)
        obtain ⟨v1, w1, hap, ho1, hb1⟩ := app_lit hown [92, 110] hBr (by simp only [List.length_cons, List.length_nil]; omega)
        have hap : ∀ ty, (Builtin.append_ #[71, 71] ty #[v, .slice (some ⟨wr.heap.size, 0, none⟩) 2 2]).run Tryd.prog (wr.alloc (.cells #[.int .u8 92, .int .u8 110] 5)) = .ok v1 w1 := hap
        have HO1 := Lib.hid ho1
        have hbw1 := hbw.trans hb1
        clear hown ho1 hb1
        go_wp2_with (at_builtin; refine wpList_append_run _ rfl _ _ _ _ rfl _ _ _ rfl rfl _ hap ?_)
        go_roundw
        case rel => exact ⟨k + 1, v1, by omega, by go_num, rfl, by rw [take_snoc s k hlt, escs_snoc, HX.out, escOf_10]; exact HO1.out, hbw1⟩
        case measure => simp [intOf]; omega
      by_cases e13 : s[k].toNat = 13
      · have i1 : (s[k].toNat : Int) = 13 := by omega
        have HX : Hid (s[k] = 13) := Lib.hid (by apply UInt8.toNat.inj; rw [e13]; rfl)
        obtain ⟨v1, w1, hap, ho1, hb1⟩ := app_lit hown [92, 114] hBr (by simp only [List.length_cons, List.length_nil]; omega)
        have hap : ∀ ty, (Builtin.append_ #[71, 71] ty #[v, .slice (some ⟨wr.heap.size, 0, none⟩) 2 2]).run Tryd.prog (wr.alloc (.cells #[.int .u8 92, .int .u8 114] 5)) = .ok v1 w1 := hap
        have HO1 := Lib.hid ho1
        have hbw1 := hbw.trans hb1
        clear hown ho1 hb1
        go_wp2_with (at_builtin; refine wpList_append_run _ rfl _ _ _ _ rfl _ _ _ rfl rfl _ hap ?_)
        go_roundw
        case rel => exact ⟨k + 1, v1, by omega, by go_num, rfl, by rw [take_snoc s k hlt, escs_snoc, HX.out, escOf_13]; exact HO1.out, hbw1⟩
        case measure => simp [intOf]; omega
      by_cases e9 : s[k].toNat = 9
      · have i1 : (s[k].toNat : Int) = 9 := by omega
        have HX : Hid (s[k] = 9) := Lib.hid (by apply UInt8.toNat.inj; rw [e9]; rfl)
        obtain ⟨v1, w1, hap, ho1, hb1⟩ := app_lit hown [92, 116] hBr (by simp only [List.length_cons, List.length_nil]; omega)
        have hap : ∀ ty, (Builtin.append_ #[71, 71] ty #[v, .slice (some ⟨wr.heap.size, 0, none⟩) 2 2]).run Tryd.prog (wr.alloc (.cells #[.int .u8 92, .int .u8 116] 5)) = .ok v1 w1 := hap
        have HO1 := Lib.hid ho1
        have hbw1 := hbw.trans hb1
        clear hown ho1 hb1
        go_wp2_with (at_builtin; refine wpList_append_run _ rfl _ _ _ _ rfl _ _ _ rfl rfl _ hap ?_)
        go_roundw
        case rel => exact ⟨k + 1, v1, by omega, by go_num, rfl, by rw [take_snoc s k hlt, escs_snoc, HX.out, escOf_9]; exact HO1.out, hbw1⟩
        case measure => simp [intOf]; omega
      have n34 : ((s[k].toNat : Int) == 34) = false := by simp; omega
      have n92 : ((s[k].toNat : Int) == 92) = false := by simp; omega
      have n8 : ((s[k].toNat : Int) == 8) = false := by simp; omega
      have n12 : ((s[k].toNat : Int) == 12) = false := by simp; omega
      have n10 : ((s[k].toNat : Int) == 10) = false := by simp; omega
      have n13 : ((s[k].toNat : Int) == 13) = false := by simp; omega
      have n9 : ((s[k].toNat : Int) == 9) = false := by simp; omega
      by_cases h32 : s[k].toNat < 32
      · have i1 : (s[k].toNat : Int) < 32 := by omega
        have HX := Lib.hid (escOf_low h32 e8 e12 e10 e13 e9)
        have a15 := and15' (n := s[k].toNat) (by omega)
        have d0 : (0 : Int) ≤ (s[k].toNat : Int) / 16 := by omega
        have d1 : (s[k].toNat : Int) / 16 < 16 := by omega
        have m0 : (0 : Int) ≤ (s[k].toNat : Int) % 16 := by omega
        have m1 : (s[k].toNat : Int) % 16 < 16 := by omega
        have td : ((s[k].toNat : Int) / 16).toNat = s[k].toNat / 16 := by omega
        have tm : ((s[k].toNat : Int) % 16).toNat = s[k].toNat % 16 := by omega
        clear e34 e92 e8 e12 e10 e13 e9
        obtain ⟨v1, w1, hap, ho1, hb1⟩ := app_lit hown [92, 117, 48, 48, hexD (s[k].toNat / 16), hexD (s[k].toNat % 16)] hBr (by simp only [List.length_cons, List.length_nil]; omega)
        have hap : ∀ ty, (Builtin.append_ #[71, 71] ty #[v, .slice (some ⟨wr.heap.size, 0, none⟩) 6 6]).run Tryd.prog (wr.alloc (.cells #[.int .u8 92, .int .u8 117, .int .u8 48, .int .u8 48, .int .u8 ((hexD (s[k].toNat / 16)).toNat : Int), .int .u8 ((hexD (s[k].toNat % 16)).toNat : Int)] 5)) = .ok v1 w1 := hap
        have HO1 := Lib.hid ho1
        have hbw1 := hbw.trans hb1
        have HAP := Lib.hid hap
        clear hown ho1 hb1 hap
        go_wp2_with fail
        refine (hexz_any _ d0 d1 _).mono ?_
        rintro e w' ⟨rfl, rfl⟩
        go_wp2_with fail
        refine (hexz_any _ m0 m1 _).mono ?_
        rintro e w' ⟨rfl, rfl⟩
        have hap := HAP.out
        go_wp2_with (at_builtin; refine wpList_append_run _ rfl _ _ _ _ rfl _ _ _ rfl rfl _ hap ?_)
        go_roundw
        case rel => exact ⟨k + 1, v1, by omega, by go_num, rfl, by rw [take_snoc s k hlt, escs_snoc, HX.out]; exact HO1.out, hbw1⟩
        case measure => simp [intOf]; omega
      · have i1 : ¬ (s[k].toNat : Int) < 32 := by omega
        have HX := Lib.hid (escOf_plain (b := s[k]) (by omega) h127 e34 e92)
        clear e34 e92 e8 e12 e10 e13 e9
        obtain ⟨v1, w1, hap, ho1, hb1⟩ := app_lit hown [s[k]] hBr (by simp only [List.length_cons, List.length_nil]; omega)
        have hap : ∀ ty, (Builtin.append_ #[71, 71] ty #[v, .slice (some ⟨wr.heap.size, 0, none⟩) 1 1]).run Tryd.prog (wr.alloc (.cells #[.int .u8 (s[k].toNat : Int)] 5)) = .ok v1 w1 := hap
        have HO1 := Lib.hid ho1
        have hbw1 := hbw.trans hb1
        clear hown ho1 hb1
        go_wp2_with (at_builtin; refine wpList_append_run _ rfl _ _ _ _ rfl _ _ _ rfl rfl _ hap ?_)
        go_roundw
        case rel => exact ⟨k + 1, v1, by omega, by go_num, rfl, by rw [take_snoc s k hlt, escs_snoc, HX.out]; exact HO1.out, hbw1⟩
        case measure => simp [intOf]; omega
    · obtain rfl : k = s.size := by omega
      rw [take_all] at hown
      have HO := Lib.hid hown
      clear hown
      go_wp2_with fail
      go_ret
      exact ⟨v, rfl, HO.out, hbw⟩

set_option maxRecDepth 100000 in
/-- zzQuotedB2. -/
theorem quoted_any (s : ByteArray) (w : World) (hs : s.size ≤ 1048576) (hA : asciiB s = true) :
    Calls Tryd.prog 12 #[.string s] w fun e w' => e = .returned (.string ⟨([34] ++ escs s.data.toList ++ [34]).toArray⟩) ∧ Below w.heap.size w w' := by
  have HA := Lib.hid hA
  have hl0 := escs_len s.data.toList
  have hl : (escs s.data.toList).length ≤ 6291456 := by
    have : s.data.toList.length = s.size := rfl
    omega
  have hW : Below w.heap.size w (w.alloc (.cells #[.int .u8 34] 5)) := (Below.refl _ _).alloc (Nat.le_refl _) _
  have hO : OB w.heap.size (.slice (some ⟨w.heap.size, 0, none⟩) 1 1) [34] (w.alloc (.cells #[.int .u8 34] 5)) := ⟨rfl, .inr ⟨w.heap.size, 1, #[.int .u8 34], rfl, Nat.le_refl _, heap_alloc_at _ _, Nat.le_refl _, by unfold maxLen; omega, rfl, rfl⟩⟩
  have HW := Lib.hid hW
  have HO := Lib.hid hO
  clear hA hl0 hO hW
  go_enter Tryd.func12, Tryd.ntmps12
  go_wp2_with fail
  obtain ⟨W, hWe⟩ : ∃ W, W = w.alloc (.cells #[.int .u8 34] 5) := ⟨_, rfl⟩
  rw [← hWe]
  have HW : Hid (Below w.heap.size w W) := by rw [hWe]; exact HW
  have HO : Hid (OB w.heap.size (.slice (some ⟨w.heap.size, 0, none⟩) 1 1) [34] W) := by rw [hWe]; exact HO
  clear hWe
  refine (esc_any s W hs HA.out).mono ?_
  rintro e w1 ⟨v, rfl, hv, hb1⟩
  have hO1 := HO.out.below hb1 (Nat.le_refl _)
  have hbw1 : Below w.heap.size w w1 := HW.out.trans (hb1.mono HW.out.size)
  obtain ⟨v2, w2, hap, hO2, hb2⟩ := app_sl hO1 hv hbw1.size (by simp only [List.length_cons, List.length_nil]; omega)
  have hbw2 := hbw1.trans hb2
  obtain ⟨v3, w3, hap2, hO3, hb3⟩ := app_lit hO2 [34] hbw2.size (by simp only [List.length_cons, List.length_nil, List.length_append]; omega)
  have hap2 : ∀ ty, (Builtin.append_ #[71, 71] ty #[v2, .slice (some ⟨w2.heap.size, 0, none⟩) 1 1]).run Tryd.prog (w2.alloc (.cells #[.int .u8 34] 5)) = .ok v3 w3 := hap2
  have hcv := run_back hO3
  have hbw3 := hbw2.trans hb3
  clear hO1 hv hb1 hb2 hO2 HO HW hb3 hO3
  go_wp2_with (first | (at_builtin; refine wpList_append_run _ rfl _ _ _ _ rfl _ _ _ rfl rfl _ hap ?_) | (at_builtin; refine wpList_append_run _ rfl _ _ _ _ rfl _ _ _ rfl rfl _ hap2 ?_))
  go_ret
  exact ⟨rfl, hbw3⟩
end Go.Proofs.YtommggamdgajcaaDoor
