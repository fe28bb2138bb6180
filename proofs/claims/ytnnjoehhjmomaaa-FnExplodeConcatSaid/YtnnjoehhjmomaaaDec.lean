/- The law's own UTF-8 decoder b1Decode answers as the language's own reading of a string. -/
import Derived.Test.YtnnjoehhjmomaaaRows
import Derived.Test.YtnnjoehhjmomaaaKit
import Derived.Lib.DecodeN
import Derived.Laws.RangeAny
namespace Go.Proofs.Ytnnjoehhjmomaaa
open Go.RowKit

def cb (s : ByteArray) (j : Nat) : Nat := (s.get! j).toNat
theorem cb_of (s : ByteArray) (j : Nat) (h : j < s.size) : cb s j = s[j].toNat := by
  unfold cb
  have : s.get! j = s[j] := by
    rw [ByteArray.getElem_eq_getElem_data]
    show s.data[j]! = _
    exact getElem!_pos s.data j h
  rw [this]
theorem cb_lt (s : ByteArray) (j : Nat) : cb s j < 256 := UInt8.toNat_lt _
def pv (s : ByteArray) (i v0 : Nat) : Nat → Nat
  | 0 => v0
  | k + 1 => pv s i v0 k * 64 + cb s (i + (k + 1)) % 64
theorem pv_bd (s : ByteArray) (i v0 k : Nat) (hv : v0 ≤ 31) (hk : k ≤ 3) : pv s i v0 k ≤ 8388607 := by
  have : k = 0 ∨ k = 1 ∨ k = 2 ∨ k = 3 := by omega
  rcases this with rfl | rfl | rfl | rfl <;> simp only [pv] <;> omega

theorem and_i64 (a m : Nat) (ha : a < 4294967296) (k : Nat) (hm : m = 2 ^ k - 1) (hk : k ≤ 32) : bits .and .i64 (a : Int) (m : Int) = ((a % 2 ^ k : Nat) : Int) := by
  have hm2 : m < 4294967296 := by
    have : 2 ^ k ≤ 2 ^ 32 := Nat.pow_le_pow_right (by omega) hk
    omega
  have h1 : (BitVec.ofInt 64 (a : Int)).toNat = a := by
    rw [BitVec.ofInt_natCast, BitVec.toNat_ofNat]; exact Nat.mod_eq_of_lt (by omega)
  have h2 : (BitVec.ofInt 64 (m : Int)).toNat = m := by
    rw [BitVec.ofInt_natCast, BitVec.toNat_ofNat]; exact Nat.mod_eq_of_lt (by omega)
  show IntKind.i64.wrap ((BitVec.ofInt 64 (a : Int) &&& BitVec.ofInt 64 (m : Int)).toNat : Int) = _
  rw [BitVec.toNat_and, h1, h2, hm, Nat.and_two_pow_sub_one_eq_mod]
  have : a % 2 ^ k ≤ a := Nat.mod_le _ _
  exact IntWalk.i64_in _ (by omega)
theorem or_i64 (a c : Nat) (ha : a < 4294967296) (hc : c < 64) : bits .or .i64 ((a : Int) * 64) (c : Int) = (a : Int) * 64 + (c : Int) := by
  have e : (a : Int) * 64 = ((a * 64 : Nat) : Int) := by omega
  have h1 : (BitVec.ofInt 64 ((a * 64 : Nat) : Int)).toNat = a * 64 := by
    rw [BitVec.ofInt_natCast, BitVec.toNat_ofNat]; exact Nat.mod_eq_of_lt (by omega)
  have h2 : (BitVec.ofInt 64 (c : Int)).toNat = c := by
    rw [BitVec.ofInt_natCast, BitVec.toNat_ofNat]; exact Nat.mod_eq_of_lt (by omega)
  rw [e]
  show IntKind.i64.wrap ((BitVec.ofInt 64 ((a * 64 : Nat) : Int) ||| BitVec.ofInt 64 (c : Int)).toNat : Int) = _
  have h3 := Nat.two_pow_add_eq_or_of_lt (show c < 2 ^ 6 from hc) a
  rw [BitVec.toNat_or, h1, h2, show a * 64 = 2 ^ 6 * a by omega, ← h3]
  rw [IntWalk.i64_in _ (by omega)]
  omega

open Lib in
theorem d_low (n b0 b1 b2 b3 : Nat) (h : b0 < 128) : decodeN n b0 b1 b2 b3 = (b0, 1) := by unfold decodeN; rw [if_pos h]
open Lib in
theorem d_none (n b0 b1 b2 b3 : Nat) (h : (128 ≤ b0 ∧ b0 < 192) ∨ 248 ≤ b0) (hb : b0 < 256) : decodeN n b0 b1 b2 b3 = (65533, 1) := by
  unfold decodeN
  repeat' split
  all_goals first | rfl | (exfalso; omega)
open Lib in
theorem d2_bad (n b0 b1 b2 b3 : Nat) (h : 192 ≤ b0 ∧ b0 ≤ 223) (hb : n < 2 ∨ b1 < 128 ∨ 191 < b1) : decodeN n b0 b1 b2 b3 = (65533, 1) := by
  unfold decodeN
  repeat' split
  all_goals first | rfl | (exfalso; omega)
open Lib in
theorem d3_bad (n b0 b1 b2 b3 : Nat) (h : 224 ≤ b0 ∧ b0 ≤ 239) (hb : n < 3 ∨ (b1 < 128 ∨ 191 < b1) ∨ (b2 < 128 ∨ 191 < b2)) : decodeN n b0 b1 b2 b3 = (65533, 1) := by
  unfold decodeN
  repeat' split
  all_goals first | rfl | (exfalso; omega)
open Lib in
theorem d4_bad (n b0 b1 b2 b3 : Nat) (h : 240 ≤ b0 ∧ b0 ≤ 247) (hb : n < 4 ∨ (b1 < 128 ∨ 191 < b1) ∨ (b2 < 128 ∨ 191 < b2) ∨ (b3 < 128 ∨ 191 < b3)) : decodeN n b0 b1 b2 b3 = (65533, 1) := by
  unfold decodeN
  repeat' split
  all_goals first | rfl | (exfalso; omega)
open Lib in
theorem d2_fin (n b0 b1 b2 b3 v : Nat) (h : 192 ≤ b0 ∧ b0 ≤ 223) (hn : 2 ≤ n) (h1 : 128 ≤ b1 ∧ b1 ≤ 191) (hv : v = b0 % 32 * 64 + b1 % 64) :
    decodeN n b0 b1 b2 b3 = if v < 128 ∨ 1114111 < v ∨ (55296 ≤ v ∧ v ≤ 57343) then (65533, 1) else (v, 2) := by
  subst hv
  unfold decodeN
  repeat' split
  all_goals first | rfl | (exfalso; omega)
open Lib in
theorem d3_fin (n b0 b1 b2 b3 v : Nat) (h : 224 ≤ b0 ∧ b0 ≤ 239) (hn : 3 ≤ n) (h1 : 128 ≤ b1 ∧ b1 ≤ 191) (h2 : 128 ≤ b2 ∧ b2 ≤ 191) (hv : v = (b0 % 16 * 64 + b1 % 64) * 64 + b2 % 64) :
    decodeN n b0 b1 b2 b3 = if v < 2048 ∨ 1114111 < v ∨ (55296 ≤ v ∧ v ≤ 57343) then (65533, 1) else (v, 3) := by
  have e : b0 % 16 * 4096 + b1 % 64 * 64 + b2 % 64 = v := by omega
  clear hv
  unfold decodeN
  rw [e]
  repeat' split
  all_goals first | rfl | (exfalso; omega)
open Lib in
theorem d4_fin (n b0 b1 b2 b3 v : Nat) (h : 240 ≤ b0 ∧ b0 ≤ 247) (hn : 4 ≤ n) (h1 : 128 ≤ b1 ∧ b1 ≤ 191) (h2 : 128 ≤ b2 ∧ b2 ≤ 191) (h3 : 128 ≤ b3 ∧ b3 ≤ 191) (hv : v = ((b0 % 8 * 64 + b1 % 64) * 64 + b2 % 64) * 64 + b3 % 64) :
    decodeN n b0 b1 b2 b3 = if v < 65536 ∨ 1114111 < v ∨ (55296 ≤ v ∧ v ≤ 57343) then (65533, 1) else (v, 4) := by
  have e : b0 % 8 * 262144 + b1 % 64 * 4096 + b2 % 64 * 64 + b3 % 64 = v := by omega
  clear hv
  unfold decodeN
  rw [e]
  repeat' split
  all_goals first | rfl | (exfalso; omega)

theorem dec_def (s : ByteArray) (i : Nat) : Utf8.decode s i = Lib.decodeN (s.size - i) (cb s i) (cb s (i + 1)) (cb s (i + 2)) (cb s (i + 3)) := Lib.decode_at s i
def okB (s : ByteArray) (i : Nat) : Bool := decide (cb s i < 128 ∨ 1 < (Utf8.decode s i).2)
/-- What b1Decode hands back. -/
def Dec (s : ByteArray) (i : Nat) (w : World) (e : Ending) (w' : World) : Prop :=
  e = .returned (.tuple #[.int .i64 ((Utf8.decode s i).1 : Nat), .int .i64 ((Utf8.decode s i).2 : Nat), .bool (okB s i)]) ∧ w = w'
theorem dec_bad {s : ByteArray} {i : Nat} (w : World) (h : Utf8.decode s i = (65533, 1)) (h0 : 128 ≤ cb s i) : Dec s i w (.returned (.tuple #[.int .i64 65533, .int .i64 1, .bool false])) w := by
  refine ⟨?_, rfl⟩
  have : okB s i = false := by unfold okB; rw [h]; simp; omega
  rw [h, this]; rfl
theorem dec_good {s : ByteArray} {i : Nat} (w : World) (v m : Nat) (h : Utf8.decode s i = (v, m)) (h0 : cb s i < 128 ∨ 1 < m) (x y : Int) (hx : x = v) (hy : y = m) : Dec s i w (.returned (.tuple #[.int .i64 x, .int .i64 y, .bool true])) w := by
  refine ⟨?_, rfl⟩
  subst hx; subst hy
  have : okB s i = true := by unfold okB; rw [h]; simpa using h0
  rw [h, this]

set_option maxHeartbeats 2000000 in
set_option maxRecDepth 100000 in
theorem dec_2 (s : ByteArray) (i : Nat) (w : World) (hs : s.size ≤ 1048576) (hi : i < s.size) (h1 : 192 ≤ s[i].toNat) (h2 : s[i].toNat ≤ 223) :
    Calls Try.prog 14 #[.string s, .int .i64 i] w (Dec s i w) := by
  have hcb := cb_of s i hi
  have h0 : 192 ≤ cb s i ∧ cb s i ≤ 223 := by rw [hcb]; exact ⟨h1, h2⟩
  by_cases hn : i + 1 < s.size
  · have hv0 : bits .and .i64 (s[i].toNat : Int) 31 = ((s[i].toNat % 32 : Nat) : Int) := and_i64 s[i].toNat 31 (by omega) 5 (by decide) (by decide)
    obtain ⟨v0, hv0'⟩ : ∃ v0, v0 = s[i].toNat % 32 := ⟨_, rfl⟩
    rw [← hv0'] at hv0
    have hv1 : v0 ≤ 31 := by omega
    have HV : Hid (v0 = cb s i % 32) := Lib.hid (by rw [hcb]; exact hv0')
    have H0 := Lib.hid h0
    clear hv0' hcb h0
    have t223 : decide ((s[i].toNat : Int) ≤ 223) = true := by simp; omega
    have tl : decide ((s[i].toNat : Int) < 128) = false := by simp; omega
    have tn : decide ((s.size : Int) - (i : Int) < 2) = false := by simp; omega
    go_enter Try.func14, Try.ntmps14
    go_wp2_with fail
    go_loop [11, 12] (fun v k => ∃ (a b : Nat), v = .int .i64 a ∧ k = .int .i64 (b + 1 : Nat) ∧ b ≤ 1 ∧ Hid (a = pv s i v0 b) ∧ a ≤ 8388607 ∧ Hid (∀ j, 1 ≤ j → j ≤ b → 128 ≤ cb s (i + j) ∧ cb s (i + j) ≤ 191)) (fun _ k => 5 - (intOf k).toNat)
    case atStart => exact ⟨v0, 0, rfl, rfl, Nat.zero_le _, rfl, by omega, fun j h1 h2 => by omega⟩
    case round =>
      obtain ⟨a, b, rfl, rfl, hb, ha, hab, hj⟩ := hrel
      by_cases hb1 : b < 1
      · have hc : i + (b + 1) < s.size := by omega
        have hcc := cb_of s (i + (b + 1)) hc
        have hc256 : s[i + (b + 1)].toNat < 256 := UInt8.toNat_lt _
        by_cases hc1 : s[i + (b + 1)].toNat < 128
        · have HBAD : Hid (Utf8.decode s i = (65533, 1)) := Lib.hid (by
            rw [dec_def]
            have hx : cb s (i + (b + 1)) < 128 := by rw [hcc]; exact hc1
            refine d2_bad _ _ _ _ _ H0.out ?_
            obtain rfl : b = 0 := by omega
            exact .inr (by simp at hx; omega))
          clear hcc
          go_wp2_with fail
          go_ret3
          exact dec_bad w HBAD.out (by have := H0.out; omega)
        · by_cases hc2 : s[i + (b + 1)].toNat ≤ 191
          · have q1 : bits .and .i64 (s[i + (b + 1)].toNat : Int) 63 = ((s[i + (b + 1)].toNat % 64 : Nat) : Int) := and_i64 _ 63 (by omega) 6 (by decide) (by decide)
            obtain ⟨c, hc'⟩ : ∃ c, c = s[i + (b + 1)].toNat % 64 := ⟨_, rfl⟩
            rw [← hc'] at q1
            have hc64 : c < 64 := by omega
            have q2 := or_i64 a c (by omega) hc64
            have HA : Hid (a * 64 + c = pv s i v0 (b + 1)) := Lib.hid (by show _ = pv s i v0 b * 64 + cb s (i + (b + 1)) % 64; rw [← ha.out, hcc, ← hc'])
            have hbd : a * 64 + c ≤ 8388607 := by rw [HA.out]; exact pv_bd s i v0 (b + 1) hv1 (by omega)
            have HJ : Hid (∀ j, 1 ≤ j → j ≤ b + 1 → 128 ≤ cb s (i + j) ∧ cb s (i + j) ≤ 191) := by
              intro j g1 g2
              by_cases g3 : j = b + 1
              · subst g3; rw [hcc]; omega
              · exact hj.out j g1 (by omega)
            clear hc' hcc
            go_wp2_with fail
            go_round
            case rel => exact ⟨a * 64 + c, b + 1, by go_num, by go_num, by omega, HA, hbd, HJ⟩
            case measure => simp [intOf]; omega
          · have HBAD : Hid (Utf8.decode s i = (65533, 1)) := Lib.hid (by
              rw [dec_def]
              have hx : 191 < cb s (i + (b + 1)) := by rw [hcc]; omega
              refine d2_bad _ _ _ _ _ H0.out ?_
              obtain rfl : b = 0 := by omega
              exact .inr (by simp at hx; omega))
            clear hcc
            go_wp2_with fail
            go_ret3
            exact dec_bad w HBAD.out (by have := H0.out; omega)
      · obtain rfl : b = 1 := by omega
        have HF : Hid (Utf8.decode s i = if a < 128 ∨ 1114111 < a ∨ (55296 ≤ a ∧ a ≤ 57343) then (65533, 1) else (a, 2)) := Lib.hid (by
          rw [dec_def]
          exact d2_fin _ _ _ _ _ a H0.out (by omega) (hj.out 1 (by decide) (by decide)) (by rw [ha.out]; simp only [pv]; rw [HV.out]))
        clear ha hj
        by_cases g : a < 128 ∨ 1114111 < a ∨ (55296 ≤ a ∧ a ≤ 57343)
        · rw [if_pos g] at HF
          have G := Lib.hid g
          clear g
          go_wp2_with fail
          all_goals first | (have := G.out; omega) | (go_ret3; exact dec_bad w HF.out (by have := H0.out; omega))
        · rw [if_neg g] at HF
          have g1 : 128 ≤ a := by omega
          have g2 : a ≤ 1114111 := by omega
          have G := Lib.hid g
          clear g
          go_wp2_with fail
          all_goals first | (have := G.out; omega) | (go_ret3; exact dec_good w a 2 HF.out (.inr (by decide)) _ _ rfl rfl)
  · have HBAD : Hid (Utf8.decode s i = (65533, 1)) := Lib.hid (by
      rw [dec_def]
      exact d2_bad _ _ _ _ _ h0 (.inl (by omega)))
    have H0 := Lib.hid h0
    clear hcb h0
    go_enter Try.func14, Try.ntmps14
    go_wp2_with fail
    go_ret3
    exact dec_bad w HBAD.out (by have := H0.out; omega)

set_option maxHeartbeats 2000000 in
set_option maxRecDepth 100000 in
theorem dec_3 (s : ByteArray) (i : Nat) (w : World) (hs : s.size ≤ 1048576) (hi : i < s.size) (h1 : 224 ≤ s[i].toNat) (h2 : s[i].toNat ≤ 239) :
    Calls Try.prog 14 #[.string s, .int .i64 i] w (Dec s i w) := by
  have hcb := cb_of s i hi
  have h0 : 224 ≤ cb s i ∧ cb s i ≤ 239 := by rw [hcb]; exact ⟨h1, h2⟩
  by_cases hn : i + 2 < s.size
  · have hv0 : bits .and .i64 (s[i].toNat : Int) 15 = ((s[i].toNat % 16 : Nat) : Int) := and_i64 s[i].toNat 15 (by omega) 4 (by decide) (by decide)
    obtain ⟨v0, hv0'⟩ : ∃ v0, v0 = s[i].toNat % 16 := ⟨_, rfl⟩
    rw [← hv0'] at hv0
    have hv1 : v0 ≤ 31 := by omega
    have HV : Hid (v0 = cb s i % 16) := Lib.hid (by rw [hcb]; exact hv0')
    have H0 := Lib.hid h0
    clear hv0' hcb h0
    have t223 : decide ((s[i].toNat : Int) ≤ 223) = false := by simp; omega
    have t239 : decide ((s[i].toNat : Int) ≤ 239) = true := by simp; omega
    have tl : decide ((s[i].toNat : Int) < 128) = false := by simp; omega
    have tn : decide ((s.size : Int) - (i : Int) < 3) = false := by simp; omega
    go_enter Try.func14, Try.ntmps14
    go_wp2_with fail
    go_loop [11, 12] (fun v k => ∃ (a b : Nat), v = .int .i64 a ∧ k = .int .i64 (b + 1 : Nat) ∧ b ≤ 2 ∧ Hid (a = pv s i v0 b) ∧ a ≤ 8388607 ∧ Hid (∀ j, 1 ≤ j → j ≤ b → 128 ≤ cb s (i + j) ∧ cb s (i + j) ≤ 191)) (fun _ k => 5 - (intOf k).toNat)
    case atStart => exact ⟨v0, 0, rfl, rfl, Nat.zero_le _, rfl, by omega, fun j h1 h2 => by omega⟩
    case round =>
      obtain ⟨a, b, rfl, rfl, hb, ha, hab, hj⟩ := hrel
      by_cases hb1 : b < 2
      · have hc : i + (b + 1) < s.size := by omega
        have hcc := cb_of s (i + (b + 1)) hc
        have hc256 : s[i + (b + 1)].toNat < 256 := UInt8.toNat_lt _
        by_cases hc1 : s[i + (b + 1)].toNat < 128
        · have HBAD : Hid (Utf8.decode s i = (65533, 1)) := Lib.hid (by
            rw [dec_def]
            have hx : cb s (i + (b + 1)) < 128 := by rw [hcc]; exact hc1
            refine d3_bad _ _ _ _ _ H0.out ?_
            have hb3 : b = 0 ∨ b = 1 := by omega
            rcases hb3 with rfl | rfl
            · exact .inr (.inl (by simp at hx; omega))
            · exact .inr (.inr (by simp at hx; omega)))
          clear hcc
          go_wp2_with fail
          go_ret3
          exact dec_bad w HBAD.out (by have := H0.out; omega)
        · by_cases hc2 : s[i + (b + 1)].toNat ≤ 191
          · have q1 : bits .and .i64 (s[i + (b + 1)].toNat : Int) 63 = ((s[i + (b + 1)].toNat % 64 : Nat) : Int) := and_i64 _ 63 (by omega) 6 (by decide) (by decide)
            obtain ⟨c, hc'⟩ : ∃ c, c = s[i + (b + 1)].toNat % 64 := ⟨_, rfl⟩
            rw [← hc'] at q1
            have hc64 : c < 64 := by omega
            have q2 := or_i64 a c (by omega) hc64
            have HA : Hid (a * 64 + c = pv s i v0 (b + 1)) := Lib.hid (by show _ = pv s i v0 b * 64 + cb s (i + (b + 1)) % 64; rw [← ha.out, hcc, ← hc'])
            have hbd : a * 64 + c ≤ 8388607 := by rw [HA.out]; exact pv_bd s i v0 (b + 1) hv1 (by omega)
            have HJ : Hid (∀ j, 1 ≤ j → j ≤ b + 1 → 128 ≤ cb s (i + j) ∧ cb s (i + j) ≤ 191) := by
              intro j g1 g2
              by_cases g3 : j = b + 1
              · subst g3; rw [hcc]; omega
              · exact hj.out j g1 (by omega)
            clear hc' hcc
            go_wp2_with fail
            go_round
            case rel => exact ⟨a * 64 + c, b + 1, by go_num, by go_num, by omega, HA, hbd, HJ⟩
            case measure => simp [intOf]; omega
          · have HBAD : Hid (Utf8.decode s i = (65533, 1)) := Lib.hid (by
              rw [dec_def]
              have hx : 191 < cb s (i + (b + 1)) := by rw [hcc]; omega
              refine d3_bad _ _ _ _ _ H0.out ?_
              have hb3 : b = 0 ∨ b = 1 := by omega
              rcases hb3 with rfl | rfl
              · exact .inr (.inl (by simp at hx; omega))
              · exact .inr (.inr (by simp at hx; omega)))
            clear hcc
            go_wp2_with fail
            go_ret3
            exact dec_bad w HBAD.out (by have := H0.out; omega)
      · obtain rfl : b = 2 := by omega
        have HF : Hid (Utf8.decode s i = if a < 2048 ∨ 1114111 < a ∨ (55296 ≤ a ∧ a ≤ 57343) then (65533, 1) else (a, 3)) := Lib.hid (by
          rw [dec_def]
          exact d3_fin _ _ _ _ _ a H0.out (by omega) (hj.out 1 (by decide) (by decide)) (hj.out 2 (by decide) (by decide)) (by rw [ha.out]; simp only [pv]; rw [HV.out]))
        clear ha hj
        by_cases g : a < 2048 ∨ 1114111 < a ∨ (55296 ≤ a ∧ a ≤ 57343)
        · rw [if_pos g] at HF
          have G := Lib.hid g
          clear g
          go_wp2_with fail
          all_goals first | (have := G.out; omega) | (go_ret3; exact dec_bad w HF.out (by have := H0.out; omega))
        · rw [if_neg g] at HF
          have g1 : 2048 ≤ a := by omega
          have g2 : a ≤ 1114111 := by omega
          have G := Lib.hid g
          clear g
          go_wp2_with fail
          all_goals first | (have := G.out; omega) | (go_ret3; exact dec_good w a 3 HF.out (.inr (by decide)) _ _ rfl rfl)
  · have HBAD : Hid (Utf8.decode s i = (65533, 1)) := Lib.hid (by
      rw [dec_def]
      exact d3_bad _ _ _ _ _ h0 (.inl (by omega)))
    have H0 := Lib.hid h0
    clear hcb h0
    go_enter Try.func14, Try.ntmps14
    go_wp2_with fail
    go_ret3
    exact dec_bad w HBAD.out (by have := H0.out; omega)

set_option maxHeartbeats 2000000 in
set_option maxRecDepth 100000 in
theorem dec_4 (s : ByteArray) (i : Nat) (w : World) (hs : s.size ≤ 1048576) (hi : i < s.size) (h1 : 240 ≤ s[i].toNat) (h2 : s[i].toNat ≤ 247) :
    Calls Try.prog 14 #[.string s, .int .i64 i] w (Dec s i w) := by
  have hcb := cb_of s i hi
  have h0 : 240 ≤ cb s i ∧ cb s i ≤ 247 := by rw [hcb]; exact ⟨h1, h2⟩
  by_cases hn : i + 3 < s.size
  · have hv0 : bits .and .i64 (s[i].toNat : Int) 7 = ((s[i].toNat % 8 : Nat) : Int) := and_i64 s[i].toNat 7 (by omega) 3 (by decide) (by decide)
    obtain ⟨v0, hv0'⟩ : ∃ v0, v0 = s[i].toNat % 8 := ⟨_, rfl⟩
    rw [← hv0'] at hv0
    have hv1 : v0 ≤ 31 := by omega
    have HV : Hid (v0 = cb s i % 8) := Lib.hid (by rw [hcb]; exact hv0')
    have H0 := Lib.hid h0
    clear hv0' hcb h0
    have t223 : decide ((s[i].toNat : Int) ≤ 223) = false := by simp; omega
    have t239 : decide ((s[i].toNat : Int) ≤ 239) = false := by simp; omega
    have t247 : decide ((s[i].toNat : Int) ≤ 247) = true := by simp; omega
    have tl : decide ((s[i].toNat : Int) < 128) = false := by simp; omega
    have tn : decide ((s.size : Int) - (i : Int) < 4) = false := by simp; omega
    go_enter Try.func14, Try.ntmps14
    go_wp2_with fail
    go_loop [11, 12] (fun v k => ∃ (a b : Nat), v = .int .i64 a ∧ k = .int .i64 (b + 1 : Nat) ∧ b ≤ 3 ∧ Hid (a = pv s i v0 b) ∧ a ≤ 8388607 ∧ Hid (∀ j, 1 ≤ j → j ≤ b → 128 ≤ cb s (i + j) ∧ cb s (i + j) ≤ 191)) (fun _ k => 5 - (intOf k).toNat)
    case atStart => exact ⟨v0, 0, rfl, rfl, Nat.zero_le _, rfl, by omega, fun j h1 h2 => by omega⟩
    case round =>
      obtain ⟨a, b, rfl, rfl, hb, ha, hab, hj⟩ := hrel
      by_cases hb1 : b < 3
      · have hc : i + (b + 1) < s.size := by omega
        have hcc := cb_of s (i + (b + 1)) hc
        have hc256 : s[i + (b + 1)].toNat < 256 := UInt8.toNat_lt _
        by_cases hc1 : s[i + (b + 1)].toNat < 128
        · have HBAD : Hid (Utf8.decode s i = (65533, 1)) := Lib.hid (by
            rw [dec_def]
            have hx : cb s (i + (b + 1)) < 128 := by rw [hcc]; exact hc1
            refine d4_bad _ _ _ _ _ H0.out ?_
            have hb3 : b = 0 ∨ b = 1 ∨ b = 2 := by omega
            rcases hb3 with rfl | rfl | rfl
            · exact .inr (.inl (by simp at hx; omega))
            · exact .inr (.inr (.inl (by simp at hx; omega)))
            · exact .inr (.inr (.inr (by simp at hx; omega))))
          clear hcc
          go_wp2_with fail
          go_ret3
          exact dec_bad w HBAD.out (by have := H0.out; omega)
        · by_cases hc2 : s[i + (b + 1)].toNat ≤ 191
          · have q1 : bits .and .i64 (s[i + (b + 1)].toNat : Int) 63 = ((s[i + (b + 1)].toNat % 64 : Nat) : Int) := and_i64 _ 63 (by omega) 6 (by decide) (by decide)
            obtain ⟨c, hc'⟩ : ∃ c, c = s[i + (b + 1)].toNat % 64 := ⟨_, rfl⟩
            rw [← hc'] at q1
            have hc64 : c < 64 := by omega
            have q2 := or_i64 a c (by omega) hc64
            have HA : Hid (a * 64 + c = pv s i v0 (b + 1)) := Lib.hid (by show _ = pv s i v0 b * 64 + cb s (i + (b + 1)) % 64; rw [← ha.out, hcc, ← hc'])
            have hbd : a * 64 + c ≤ 8388607 := by rw [HA.out]; exact pv_bd s i v0 (b + 1) hv1 (by omega)
            have HJ : Hid (∀ j, 1 ≤ j → j ≤ b + 1 → 128 ≤ cb s (i + j) ∧ cb s (i + j) ≤ 191) := by
              intro j g1 g2
              by_cases g3 : j = b + 1
              · subst g3; rw [hcc]; omega
              · exact hj.out j g1 (by omega)
            clear hc' hcc
            go_wp2_with fail
            go_round
            case rel => exact ⟨a * 64 + c, b + 1, by go_num, by go_num, by omega, HA, hbd, HJ⟩
            case measure => simp [intOf]; omega
          · have HBAD : Hid (Utf8.decode s i = (65533, 1)) := Lib.hid (by
              rw [dec_def]
              have hx : 191 < cb s (i + (b + 1)) := by rw [hcc]; omega
              refine d4_bad _ _ _ _ _ H0.out ?_
              have hb3 : b = 0 ∨ b = 1 ∨ b = 2 := by omega
              rcases hb3 with rfl | rfl | rfl
              · exact .inr (.inl (by simp at hx; omega))
              · exact .inr (.inr (.inl (by simp at hx; omega)))
              · exact .inr (.inr (.inr (by simp at hx; omega))))
            clear hcc
            go_wp2_with fail
            go_ret3
            exact dec_bad w HBAD.out (by have := H0.out; omega)
      · obtain rfl : b = 3 := by omega
        have HF : Hid (Utf8.decode s i = if a < 65536 ∨ 1114111 < a ∨ (55296 ≤ a ∧ a ≤ 57343) then (65533, 1) else (a, 4)) := Lib.hid (by
          rw [dec_def]
          exact d4_fin _ _ _ _ _ a H0.out (by omega) (hj.out 1 (by decide) (by decide)) (hj.out 2 (by decide) (by decide)) (hj.out 3 (by decide) (by decide)) (by rw [ha.out]; simp only [pv]; rw [HV.out]))
        clear ha hj
        by_cases g : a < 65536 ∨ 1114111 < a ∨ (55296 ≤ a ∧ a ≤ 57343)
        · rw [if_pos g] at HF
          have G := Lib.hid g
          clear g
          go_wp2_with fail
          all_goals first | (have := G.out; omega) | (go_ret3; exact dec_bad w HF.out (by have := H0.out; omega))
        · rw [if_neg g] at HF
          have g1 : 65536 ≤ a := by omega
          have g2 : a ≤ 1114111 := by omega
          have G := Lib.hid g
          clear g
          go_wp2_with fail
          all_goals first | (have := G.out; omega) | (go_ret3; exact dec_good w a 4 HF.out (.inr (by decide)) _ _ rfl rfl)
  · have HBAD : Hid (Utf8.decode s i = (65533, 1)) := Lib.hid (by
      rw [dec_def]
      exact d4_bad _ _ _ _ _ h0 (.inl (by omega)))
    have H0 := Lib.hid h0
    clear hcb h0
    go_enter Try.func14, Try.ntmps14
    go_wp2_with fail
    go_ret3
    exact dec_bad w HBAD.out (by have := H0.out; omega)

set_option maxHeartbeats 1000000 in
set_option maxRecDepth 100000 in
theorem dec_any (s : ByteArray) (i : Nat) (w : World) (hs : s.size ≤ 1048576) (hi : i < s.size) :
    Calls Try.prog 14 #[.string s, .int .i64 i] w (Dec s i w) := by
  have hcb := cb_of s i hi
  have hlt : s[i].toNat < 256 := UInt8.toNat_lt _
  by_cases c1 : s[i].toNat < 128
  · have HG : Hid (Utf8.decode s i = (s[i].toNat, 1)) := Lib.hid (by rw [dec_def, hcb]; exact d_low _ _ _ _ _ c1)
    have HL : Hid (cb s i < 128) := Lib.hid (by rw [hcb]; exact c1)
    clear hcb
    go_enter Try.func14, Try.ntmps14
    go_wp2_with fail
    go_ret3
    exact dec_good w _ 1 HG.out (.inl HL.out) _ _ rfl rfl
  · by_cases c2 : s[i].toNat < 192
    · have HB : Hid (Utf8.decode s i = (65533, 1)) := Lib.hid (by rw [dec_def, hcb]; exact d_none _ _ _ _ _ (.inl ⟨by omega, c2⟩) hlt)
      have HL : Hid (128 ≤ cb s i) := Lib.hid (by rw [hcb]; omega)
      clear hcb
      go_enter Try.func14, Try.ntmps14
      go_wp2_with fail
      go_ret3
      exact dec_bad w HB.out HL.out
    · by_cases c3 : s[i].toNat ≤ 223
      · exact dec_2 s i w hs hi (by omega) c3
      · by_cases c4 : s[i].toNat ≤ 239
        · exact dec_3 s i w hs hi (by omega) c4
        · by_cases c5 : s[i].toNat ≤ 247
          · exact dec_4 s i w hs hi (by omega) c5
          · have HB : Hid (Utf8.decode s i = (65533, 1)) := Lib.hid (by rw [dec_def, hcb]; exact d_none _ _ _ _ _ (.inr (by omega)) hlt)
            have HL : Hid (128 ≤ cb s i) := Lib.hid (by rw [hcb]; omega)
            clear hcb
            go_enter Try.func14, Try.ntmps14
            go_wp2_with fail
            go_ret3
            exact dec_bad w HB.out HL.out

end Go.Proofs.Ytnnjoehhjmomaaa
