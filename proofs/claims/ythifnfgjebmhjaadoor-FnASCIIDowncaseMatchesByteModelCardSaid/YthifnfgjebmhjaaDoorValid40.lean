/- What zzValidUTF8 accepts is valid to the decoder. One direction, which is all that the law needs. -/
import Derived.Test.YthifnfgjebmhjaaDoorKit
import Derived.Test.YthifnfgjebmhjaaDoorProg
import Derived.Test.YthifnfgjebmhjaaDoorPlain40
import Derived.Lib.DecodeN
import Derived.Outline
import Derived.IntWalk
namespace Go.Proofs.YthifnfgjebmhjaaDoor
open Go.RowKit

def cb (s : ByteArray) (j : Nat) : Nat := (s.get! j).toNat
theorem cb_of (s : ByteArray) (j : Nat) (h : j < s.size) : cb s j = s[j].toNat := by
  unfold cb
  have : s.get! j = s[j] := by
    rw [ByteArray.getElem_eq_getElem_data]
    show s.data[j]! = _
    exact getElem!_pos s.data j h
  rw [this]
def pv (s : ByteArray) (i v0 : Nat) : Nat → Nat
  | 0 => v0
  | k + 1 => pv s i v0 k * 64 + cb s (i + (k + 1)) % 64
theorem pv_bd (s : ByteArray) (i v0 k : Nat) (hv : v0 ≤ 31) (hk : k ≤ 3) : pv s i v0 k ≤ 8388607 := by
  have : k = 0 ∨ k = 1 ∨ k = 2 ∨ k = 3 := by omega
  rcases this with rfl | rfl | rfl | rfl <;> simp only [pv] <;> omega
theorem or_i64 (a c : Nat) (ha : a < 4294967296) (hc : c < 64) : bits .or .i64 ((a : Int) * 64) (c : Int) = (a : Int) * 64 + (c : Int) := by
  have e : (a : Int) * 64 = ((a * 64 : Nat) : Int) := by omega
  have h1 : (BitVec.ofInt 64 ((a * 64 : Nat) : Int)).toNat = a * 64 := by
    rw [BitVec.ofInt_natCast, BitVec.toNat_ofNat]; exact Nat.mod_eq_of_lt (by omega)
  have h2 : (BitVec.ofInt 64 (c : Int)).toNat = c := by
    rw [BitVec.ofInt_natCast, BitVec.toNat_ofNat]; exact Nat.mod_eq_of_lt (by omega)
  rw [e]
  show IntKind.i64.wrap ((BitVec.ofInt 64 ((a * 64 : Nat) : Int) ||| BitVec.ofInt 64 (c : Int)).toNat : Int) = _
  have h3 := Nat.two_pow_add_eq_or_of_lt (show c < 2 ^ 6 from hc) a
  rw [BitVec.toNat_or, h1, h2, show a * 64 = 2 ^ 6 * a by omega, ← h3]
  rw [IntWalk.i64_in _ (by omega)]
  omega
theorem and31 : ∀ i : Fin 256, bits .and .u8 (i.val : Int) 31 = ((i.val % 32 : Nat) : Int) := by decide +kernel
theorem and15 : ∀ i : Fin 256, bits .and .u8 (i.val : Int) 15 = ((i.val % 16 : Nat) : Int) := by decide +kernel
theorem and7 : ∀ i : Fin 256, bits .and .u8 (i.val : Int) 7 = ((i.val % 8 : Nat) : Int) := by decide +kernel
theorem and63 : ∀ i : Fin 256, bits .and .u8 (i.val : Int) 63 = ((i.val % 64 : Nat) : Int) := by decide +kernel
theorem and192 : ∀ i : Fin 256, bits .and .u8 (i.val : Int) 192 = (((i.val / 64) * 64 : Nat) : Int) := by decide +kernel
open Lib in
theorem d2_fin (n b0 b1 b2 b3 v : Nat) (h : 194 ≤ b0 ∧ b0 ≤ 223) (hn : 2 ≤ n) (h1 : 128 ≤ b1 ∧ b1 ≤ 191) (hv : v = b0 % 32 * 64 + b1 % 64) :
    decodeN n b0 b1 b2 b3 = (v, 2) := by
  subst hv
  unfold decodeN
  repeat' split
  all_goals first | rfl | (exfalso; omega)
open Lib in
theorem d3_fin (n b0 b1 b2 b3 v : Nat) (h : 224 ≤ b0 ∧ b0 ≤ 239) (hn : 3 ≤ n) (h1 : 128 ≤ b1 ∧ b1 ≤ 191) (h2 : 128 ≤ b2 ∧ b2 ≤ 191) (hv : v = (b0 % 16 * 64 + b1 % 64) * 64 + b2 % 64) (hg : 2048 ≤ v) (hs : v < 55296 ∨ 57343 < v) :
    decodeN n b0 b1 b2 b3 = (v, 3) := by
  have e : b0 % 16 * 4096 + b1 % 64 * 64 + b2 % 64 = v := by omega
  clear hv
  unfold decodeN
  rw [e]
  repeat' split
  all_goals first | rfl | (exfalso; omega)
open Lib in
theorem d4_fin (n b0 b1 b2 b3 v : Nat) (h : 240 ≤ b0 ∧ b0 ≤ 244) (hn : 4 ≤ n) (h1 : 128 ≤ b1 ∧ b1 ≤ 191) (h2 : 128 ≤ b2 ∧ b2 ≤ 191) (h3 : 128 ≤ b3 ∧ b3 ≤ 191) (hv : v = ((b0 % 8 * 64 + b1 % 64) * 64 + b2 % 64) * 64 + b3 % 64) (hg : 65536 ≤ v) (hs : v ≤ 1114111) :
    decodeN n b0 b1 b2 b3 = (v, 4) := by
  have e : b0 % 8 * 262144 + b1 % 64 * 4096 + b2 % 64 * 64 + b3 % 64 = v := by omega
  clear hv
  unfold decodeN
  rw [e]
  repeat' split
  all_goals first | rfl | (exfalso; omega)
theorem dec_def (s : ByteArray) (i : Nat) : Utf8.decode s i = Lib.decodeN (s.size - i) (cb s i) (cb s (i + 1)) (cb s (i + 2)) (cb s (i + 3)) := Lib.decode_at s i
/-- From the place p on the text is valid as the whole is. -/
def VP (s : ByteArray) (p : Nat) : Prop := Lib.validD (s.data.toList.drop p) = Lib.validD s.data.toList
theorem VP.start (s : ByteArray) : VP s 0 := rfl
theorem VP.fin (s : ByteArray) (h : VP s s.size) : Lib.validD s.data.toList = true := by
  unfold VP at h
  rw [← h, List.drop_eq_nil_of_le (by simp)]
  rfl
theorem VP.step {s : ByteArray} {p v m : Nat} (h : VP s p) (hp : p < s.size) (hd : Utf8.decode s p = (v, m)) (hm : v < 128 ∨ 1 < m) : VP s (p + m) := by
  unfold VP at h ⊢
  rw [← h]
  have hne : s.data.toList.drop p ≠ [] := by
    intro h0
    have h2 : s.size ≤ p := by simpa using List.drop_eq_nil_iff.1 h0
    omega
  conv => rhs; rw [Lib.validD_step _ hne, Lib.decodeL_drop, hd]
  rw [if_neg (by simp only; omega), List.drop_drop]
theorem VP.ascii {s : ByteArray} {p : Nat} (h : VP s p) (hp : p < s.size) (hc : s[p].toNat < 128) : VP s (p + 1) :=
  h.step hp (v := cb s p) (m := 1) (by rw [dec_def]; exact Lib.decodeN_ascii _ _ _ _ _ (by rw [cb_of s p hp]; exact hc)) (.inl (by rw [cb_of s p hp]; exact hc))
/-- What zzValidUTF8 hands back. -/
def Vld (s : ByteArray) (w : World) (e : Ending) (w' : World) : Prop := ∃ b : Bool, e = .returned (.bool b) ∧ (b = true → Lib.validD s.data.toList = true) ∧ w = w'
theorem vld_no (s : ByteArray) (w : World) : Vld s w (.returned (.bool false)) w := ⟨false, rfl, (fun h => by cases h), rfl⟩
/-- The state of the inner loop: b continuation bytes have been read. -/
def InR (s : ByteArray) (p v0 n : Nat) (vc vk : Value) : Prop :=
  ∃ (a b : Nat), vc = .int .i64 a ∧ vk = .int .i64 (b + 1 : Nat) ∧ b ≤ n ∧ Hid (a = pv s p v0 b) ∧ a ≤ 8388607 ∧ Hid (∀ j, 1 ≤ j → j ≤ b → 128 ≤ cb s (p + j) ∧ cb s (p + j) ≤ 191)
set_option maxHeartbeats 4000000 in
set_option maxRecDepth 100000 in
theorem valid_any (s : ByteArray) (w : World) (hs : s.size ≤ 1048576) :
    Calls Tryd.prog 9 #[.string s] w (Vld s w) := by
  go_enter Tryd.func9, Tryd.ntmps9
  go_wp2_with fail
  go_loop [3] (fun i => ∃ p : Nat, p ≤ s.size ∧ i = .int .i64 p ∧ Hid (VP s p)) (fun i => s.size - (intOf i).toNat)
  case atStart => exact ⟨0, Nat.zero_le _, rfl, VP.start s⟩
  case round =>
    obtain ⟨p, hp, rfl, hV⟩ := hrel
    by_cases hlt : p < s.size
    · have hcb := cb_of s p hlt
      by_cases c1 : s[p].toNat < 128
      · have HV := Lib.hid (hV.out.ascii hlt c1)
        clear hV hcb
        go_wp2_with fail
        go_round
        case rel => exact ⟨p + 1, by omega, by go_num, HV⟩
        case measure => simp [intOf]; omega
      · by_cases c2 : 194 ≤ s[p].toNat ∧ s[p].toNat ≤ 223
        · have hv0 := and31 ⟨s[p].toNat, s[p].toNat_lt⟩
          simp only at hv0
          obtain ⟨v0, hv0'⟩ : ∃ v0, v0 = s[p].toNat % 32 := ⟨_, rfl⟩
          rw [← hv0'] at hv0
          have hv1 : v0 ≤ 31 := by omega
          have HV0 : Hid (v0 = cb s p % 32) := Lib.hid (by rw [hcb]; exact hv0')
          have H0 : Hid (194 ≤ cb s p ∧ cb s p ≤ 223) := Lib.hid (by rw [hcb]; exact c2)
          clear hv0' hcb
          obtain ⟨c2a, c2b⟩ := c2
          go_wp2_with fail
          · go_ret; exact vld_no s w
          · have hsz : p + 1 < s.size := by omega
            go_loop [6, 7] (InR s p v0 1) (fun _ k => 5 - (intOf k).toNat)
            case atStart => exact ⟨v0, 0, rfl, rfl, Nat.zero_le _, rfl, by omega, fun j h1 h2 => by omega⟩
            case round =>
              obtain ⟨a, b, rfl, rfl, hb, ha, hab, hj⟩ := hrel
              by_cases hb1 : b < 1
              · have hc : p + (b + 1) < s.size := by omega
                have hcc := cb_of s (p + (b + 1)) hc
                have hc256 : s[p + (b + 1)].toNat < 256 := UInt8.toNat_lt _
                have q0 := and192 ⟨s[p + (b + 1)].toNat, hc256⟩
                simp only at q0
                by_cases hc1 : 128 ≤ s[p + (b + 1)].toNat ∧ s[p + (b + 1)].toNat ≤ 191
                · have hz : ((s[p + (b + 1)].toNat / 64 * 64 : Nat) : Int) = 128 := by omega
                  rw [hz] at q0
                  have q1 := and63 ⟨s[p + (b + 1)].toNat, hc256⟩
                  simp only at q1
                  obtain ⟨c, hc'⟩ : ∃ c, c = s[p + (b + 1)].toNat % 64 := ⟨_, rfl⟩
                  rw [← hc'] at q1
                  have hc64 : c < 64 := by omega
                  have q2 := or_i64 a c (by omega) hc64
                  have HA : Hid (a * 64 + c = pv s p v0 (b + 1)) := Lib.hid (by show _ = pv s p v0 b * 64 + cb s (p + (b + 1)) % 64; rw [← ha.out, hcc, ← hc'])
                  have hbd : a * 64 + c ≤ 8388607 := by rw [HA.out]; exact pv_bd s p v0 (b + 1) hv1 (by omega)
                  have HJ : Hid (∀ j, 1 ≤ j → j ≤ b + 1 → 128 ≤ cb s (p + j) ∧ cb s (p + j) ≤ 191) := by
                    intro j g1 g2
                    by_cases g3 : j = b + 1
                    · subst g3; rw [hcc]; exact hc1
                    · exact hj.out j g1 (by omega)
                  clear hc' hcc hz hj ha
                  go_wp2_with fail
                  go_round
                  case rel => exact ⟨a * 64 + c, b + 1, by go_num, by go_num, by omega, HA, hbd, HJ⟩
                  case measure => simp [intOf]; omega
                · obtain ⟨z, hz⟩ : ∃ z : Nat, z = s[p + (b + 1)].toNat / 64 * 64 := ⟨_, rfl⟩
                  rw [← hz] at q0
                  have hz2 : ¬ ((z : Int) = 128) := by omega
                  clear hcc hz hj ha
                  go_wp2_with fail
                  go_ret
                  exact vld_no s w
              · obtain rfl : b = 1 := by omega
                have HJ := Lib.hid hj.out
                have HA := Lib.hid ha.out
                clear ha hj
                go_wp2_with fail
                all_goals first
                  | (go_ret; exact vld_no s w)
                  | (go_round
                     case rel =>
                       refine ⟨p + 2, by omega, by go_num, hV.out.step hlt (v := a) (m := 2) ?_ (.inr (by omega))⟩
                       rw [dec_def]
                       exact d2_fin _ _ _ _ _ a H0.out (by omega) (HJ.out 1 (by decide) (by decide)) (by rw [HA.out]; simp only [pv]; rw [HV0.out])
                     case measure => simp [intOf]; omega)
        · by_cases c3 : 224 ≤ s[p].toNat ∧ s[p].toNat ≤ 239
          · have c4 := c2
            clear c2
            have c2 := c3
            clear c3 c4
            have hv0 := and15 ⟨s[p].toNat, s[p].toNat_lt⟩
            simp only at hv0
            obtain ⟨v0, hv0'⟩ : ∃ v0, v0 = s[p].toNat % 16 := ⟨_, rfl⟩
            rw [← hv0'] at hv0
            have hv1 : v0 ≤ 31 := by omega
            have HV0 : Hid (v0 = cb s p % 16) := Lib.hid (by rw [hcb]; exact hv0')
            have H0 : Hid (224 ≤ cb s p ∧ cb s p ≤ 239) := Lib.hid (by rw [hcb]; exact c2)
            clear hv0' hcb
            obtain ⟨c2a, c2b⟩ := c2
            have g1 : ¬ (s[p].toNat ≤ 223) := by omega
            go_wp2_with fail
            · go_ret; exact vld_no s w
            · have hsz : p + 2 < s.size := by omega
              go_loop [6, 7] (InR s p v0 2) (fun _ k => 5 - (intOf k).toNat)
              case atStart => exact ⟨v0, 0, rfl, rfl, Nat.zero_le _, rfl, by omega, fun j h1 h2 => by omega⟩
              case round =>
                obtain ⟨a, b, rfl, rfl, hb, ha, hab, hj⟩ := hrel
                by_cases hb1 : b < 2
                · have hc : p + (b + 1) < s.size := by omega
                  have hcc := cb_of s (p + (b + 1)) hc
                  have hc256 : s[p + (b + 1)].toNat < 256 := UInt8.toNat_lt _
                  have q0 := and192 ⟨s[p + (b + 1)].toNat, hc256⟩
                  simp only at q0
                  by_cases hc1 : 128 ≤ s[p + (b + 1)].toNat ∧ s[p + (b + 1)].toNat ≤ 191
                  · have hz : ((s[p + (b + 1)].toNat / 64 * 64 : Nat) : Int) = 128 := by omega
                    rw [hz] at q0
                    have q1 := and63 ⟨s[p + (b + 1)].toNat, hc256⟩
                    simp only at q1
                    obtain ⟨c, hc'⟩ : ∃ c, c = s[p + (b + 1)].toNat % 64 := ⟨_, rfl⟩
                    rw [← hc'] at q1
                    have hc64 : c < 64 := by omega
                    have q2 := or_i64 a c (by omega) hc64
                    have HA : Hid (a * 64 + c = pv s p v0 (b + 1)) := Lib.hid (by show _ = pv s p v0 b * 64 + cb s (p + (b + 1)) % 64; rw [← ha.out, hcc, ← hc'])
                    have hbd : a * 64 + c ≤ 8388607 := by rw [HA.out]; exact pv_bd s p v0 (b + 1) hv1 (by omega)
                    have HJ : Hid (∀ j, 1 ≤ j → j ≤ b + 1 → 128 ≤ cb s (p + j) ∧ cb s (p + j) ≤ 191) := by
                      intro j g1 g2
                      by_cases g3 : j = b + 1
                      · subst g3; rw [hcc]; exact hc1
                      · exact hj.out j g1 (by omega)
                    clear hc' hcc hz hj ha
                    go_wp2_with fail
                    go_round
                    case rel => exact ⟨a * 64 + c, b + 1, by go_num, by go_num, by omega, HA, hbd, HJ⟩
                    case measure => simp [intOf]; omega
                  · obtain ⟨z, hz⟩ : ∃ z : Nat, z = s[p + (b + 1)].toNat / 64 * 64 := ⟨_, rfl⟩
                    rw [← hz] at q0
                    have hz2 : ¬ ((z : Int) = 128) := by omega
                    clear hcc hz hj ha
                    go_wp2_with fail
                    go_ret
                    exact vld_no s w
                · obtain rfl : b = 2 := by omega
                  have HJ := Lib.hid hj.out
                  have HA := Lib.hid ha.out
                  clear ha hj
                  go_wp2_with fail
                  all_goals first
                    | (go_ret; exact vld_no s w)
                    | (go_round
                       case rel =>
                         refine ⟨p + 3, by omega, by go_num, hV.out.step hlt (v := a) (m := 3) ?_ (.inr (by omega))⟩
                         rw [dec_def]
                         exact d3_fin _ _ _ _ _ a H0.out (by omega) (HJ.out 1 (by decide) (by decide)) (HJ.out 2 (by decide) (by decide)) (by rw [HA.out]; simp only [pv]; rw [HV0.out]) (by omega) (by omega)
                       case measure => simp [intOf]; omega)
          · by_cases c4 : 240 ≤ s[p].toNat ∧ s[p].toNat ≤ 244
            · clear c2 c3
              have c2 := c4
              clear c4
              have hv0 := and7 ⟨s[p].toNat, s[p].toNat_lt⟩
              simp only at hv0
              obtain ⟨v0, hv0'⟩ : ∃ v0, v0 = s[p].toNat % 8 := ⟨_, rfl⟩
              rw [← hv0'] at hv0
              have hv1 : v0 ≤ 31 := by omega
              have HV0 : Hid (v0 = cb s p % 8) := Lib.hid (by rw [hcb]; exact hv0')
              have H0 : Hid (240 ≤ cb s p ∧ cb s p ≤ 244) := Lib.hid (by rw [hcb]; exact c2)
              clear hv0' hcb
              obtain ⟨c2a, c2b⟩ := c2
              have g1 : ¬ (s[p].toNat ≤ 223) := by omega
              have g2 : ¬ (s[p].toNat ≤ 239) := by omega
              go_wp2_with fail
              · go_ret; exact vld_no s w
              · have hsz : p + 3 < s.size := by omega
                go_loop [6, 7] (InR s p v0 3) (fun _ k => 5 - (intOf k).toNat)
                case atStart => exact ⟨v0, 0, rfl, rfl, Nat.zero_le _, rfl, by omega, fun j h1 h2 => by omega⟩
                case round =>
                  obtain ⟨a, b, rfl, rfl, hb, ha, hab, hj⟩ := hrel
                  by_cases hb1 : b < 3
                  · have hc : p + (b + 1) < s.size := by omega
                    have hcc := cb_of s (p + (b + 1)) hc
                    have hc256 : s[p + (b + 1)].toNat < 256 := UInt8.toNat_lt _
                    have q0 := and192 ⟨s[p + (b + 1)].toNat, hc256⟩
                    simp only at q0
                    by_cases hc1 : 128 ≤ s[p + (b + 1)].toNat ∧ s[p + (b + 1)].toNat ≤ 191
                    · have hz : ((s[p + (b + 1)].toNat / 64 * 64 : Nat) : Int) = 128 := by omega
                      rw [hz] at q0
                      have q1 := and63 ⟨s[p + (b + 1)].toNat, hc256⟩
                      simp only at q1
                      obtain ⟨c, hc'⟩ : ∃ c, c = s[p + (b + 1)].toNat % 64 := ⟨_, rfl⟩
                      rw [← hc'] at q1
                      have hc64 : c < 64 := by omega
                      have q2 := or_i64 a c (by omega) hc64
                      have HA : Hid (a * 64 + c = pv s p v0 (b + 1)) := Lib.hid (by show _ = pv s p v0 b * 64 + cb s (p + (b + 1)) % 64; rw [← ha.out, hcc, ← hc'])
                      have hbd : a * 64 + c ≤ 8388607 := by rw [HA.out]; exact pv_bd s p v0 (b + 1) hv1 (by omega)
                      have HJ : Hid (∀ j, 1 ≤ j → j ≤ b + 1 → 128 ≤ cb s (p + j) ∧ cb s (p + j) ≤ 191) := by
                        intro j g1 g2
                        by_cases g3 : j = b + 1
                        · subst g3; rw [hcc]; exact hc1
                        · exact hj.out j g1 (by omega)
                      clear hc' hcc hz hj ha
                      go_wp2_with fail
                      go_round
                      case rel => exact ⟨a * 64 + c, b + 1, by go_num, by go_num, by omega, HA, hbd, HJ⟩
                      case measure => simp [intOf]; omega
                    · obtain ⟨z, hz⟩ : ∃ z : Nat, z = s[p + (b + 1)].toNat / 64 * 64 := ⟨_, rfl⟩
                      rw [← hz] at q0
                      have hz2 : ¬ ((z : Int) = 128) := by omega
                      clear hcc hz hj ha
                      go_wp2_with fail
                      go_ret
                      exact vld_no s w
                  · obtain rfl : b = 3 := by omega
                    have HJ := Lib.hid hj.out
                    have HA := Lib.hid ha.out
                    clear ha hj
                    go_wp2_with fail
                    all_goals first
                      | (go_ret; exact vld_no s w)
                      | (go_round
                         case rel =>
                           refine ⟨p + 4, by omega, by go_num, hV.out.step hlt (v := a) (m := 4) ?_ (.inr (by omega))⟩
                           rw [dec_def]
                           exact d4_fin _ _ _ _ _ a H0.out (by omega) (HJ.out 1 (by decide) (by decide)) (HJ.out 2 (by decide) (by decide)) (HJ.out 3 (by decide) (by decide)) (by rw [HA.out]; simp only [pv]; rw [HV0.out]) (by omega) (by omega)
                         case measure => simp [intOf]; omega)
            · clear hcb
              go_wp2_with fail
              all_goals first | (exfalso; omega) | (go_ret; exact vld_no s w)
    · obtain rfl : p = s.size := by omega
      have HV := Lib.hid (hV.out.fin)
      clear hV
      go_wp2_with fail
      go_ret
      exact ⟨true, rfl, fun _ => HV.out, rfl⟩
end Go.Proofs.YthifnfgjebmhjaaDoor
