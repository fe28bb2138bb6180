/- Contract of the law's own zzNthWord: the n-th word of the list of names. -/
import Derived.Test.YtpghbldknekoeaaOps
import Derived.Outline
namespace Go.Proofs.Ytpghbldknekoeaa
open Go.RowKit

def txt : List UInt8 := [110, 111, 112, 32, 112, 117, 115, 104, 32, 112, 111, 112, 32, 100, 117, 112, 32, 99, 111, 110, 115, 116, 32, 108, 111, 97, 100, 32, 115, 116, 111, 114, 101, 32, 111, 98, 106, 101, 99, 116, 32, 97, 112, 112, 101, 110, 100, 32, 102, 111, 114, 107, 32, 102, 111, 114, 107, 116, 114, 121, 98, 101, 103, 105, 110, 32, 102, 111, 114, 107, 116, 114, 121, 101, 110, 100, 32, 102, 111, 114, 107, 97, 108, 116, 32, 102, 111, 114, 107, 108, 97, 98, 101, 108, 32, 98, 97, 99, 107, 116, 114, 97, 99, 107, 32, 106, 117, 109, 112, 32, 106, 117, 109, 112, 105, 102, 110, 111, 116, 32, 105, 110, 100, 101, 120, 32, 105, 110, 100, 101, 120, 97, 114, 114, 97, 121, 32, 99, 97, 108, 108, 32, 99, 97, 108, 108, 114, 101, 99, 32, 112, 117, 115, 104, 112, 99, 32, 99, 97, 108, 108, 112, 99, 32, 115, 99, 111, 112, 101, 32, 114, 101, 116, 32, 105, 116, 101, 114, 32, 101, 120, 112, 98, 101, 103, 105, 110, 32, 101, 120, 112, 101, 110, 100, 32, 112, 97, 116, 104, 98, 101, 103, 105, 110, 32, 112, 97, 116, 104, 101, 110, 100]
def byteAt (k : Nat) : UInt8 := txt.getD k 0
/-- How many blanks stand ahead of place k; where the word that holds place k begins. -/
def cnt : Nat → Nat
  | 0 => 0
  | k + 1 => if byteAt k = 32 then cnt k + 1 else cnt k
def st : Nat → Nat
  | 0 => 0
  | k + 1 => if byteAt k = 32 then k + 1 else st k

def T : ByteArray := ⟨txt.toArray⟩
theorem T_size : T.size = 212 := by decide +kernel

theorem table : (List.range 213).all (fun k => (byteAt k != 32 && k != 212) || (names.getD (cnt k) [] == (txt.take k).drop (st k))) = true := by decide +kernel
theorem st_le : ∀ k, st k ≤ k
  | 0 => Nat.le_refl _
  | k + 1 => by
    have := st_le k
    unfold st
    split <;> omega
theorem cnt_last : cnt 212 = 29 := by decide +kernel

theorem name_at (k : Nat) (hk : k ≤ 212) (h : byteAt k = 32 ∨ k = 212) : T.extract (st k) k = nameOf (cnt k) := by
  have ht := List.all_eq_true.1 table k (by rw [List.mem_range]; omega)
  have e : (names.getD (cnt k) []) = (txt.take k).drop (st k) := by
    rcases h with h | h
    · simpa [h] using ht
    · subst h; simpa using ht
  unfold nameOf
  rw [e]
  apply ByteArray.ext
  apply Array.ext'
  simp [T, ByteArray.data_extract, List.drop_take]

theorem idx_is (k : Nat) (h : k < T.size) : T[k] = byteAt k := by
  have h' : k < txt.length := h
  unfold byteAt
  rw [List.getD_eq_getElem?_getD, List.getElem?_eq_getElem h']
  rfl
theorem idx_yes (k : Nat) (h : k < T.size) (hb : ((T[k].toNat : Int) == 32) = true) : byteAt k = 32 := by
  rw [idx_is] at hb
  apply UInt8.toNat_inj.1
  simp at hb
  show (byteAt k).toNat = 32
  omega
theorem idx_no (k : Nat) (h : k < T.size) (hb : ((T[k].toNat : Int) == 32) = false) : ¬ byteAt k = 32 := by
  rw [idx_is] at hb
  intro e
  rw [e] at hb
  simp at hb

set_option maxHeartbeats 400000 in
set_option maxRecDepth 100000 in
theorem nth_any (n : Nat) (w : World) (hn : n ≤ 29) :
    Calls Try.prog 6 #[.int .i64 n] w fun e w' => e = .returned (.string (nameOf n)) ∧ w = w' := by
  go_enter Try.func6, Try.ntmps6
  go_wp2
  go_loop [3, 4, 5] (fun c s i => ∃ k : Nat, k ≤ 212 ∧ i = .int .i64 k ∧ c = .int .i64 (cnt k) ∧ s = .int .i64 (st k) ∧ cnt k ≤ n) (fun _ _ i => 213 - (intOf i).toNat)
  case atStart => exact ⟨0, by omega, rfl, rfl, rfl, Nat.zero_le _⟩
  case round =>
    obtain ⟨k, hk, rfl, rfl, rfl, hc⟩ := hrel
    have hsk := st_le k
    by_cases hlt : k < 212
    · generalize hcc : cnt k = c at *
      generalize hss : st k = s at *
      have HC := Lib.hid hcc
      have HS := Lib.hid hss
      clear hcc hss
      have hne : ((k : Int) == 212) = false := by simp; omega
      go_wp2
      · rename_i h32 _ _ hcn
        have h := idx_yes k (by rw [T_size]; exact hlt) h32
        have e := name_at k hk (.inl h)
        rw [HC.out, HS.out] at e
        have hcn' : c = n := by simp at hcn; omega
        subst hcn'
        go_ret
        exact ⟨ret_str e, rfl⟩
      · rename_i h32 hcn
        have h := idx_yes k (by rw [T_size]; exact hlt) h32
        have hcn' : ¬ c = n := by simp at hcn; omega
        have e1 : cnt (k + 1) = c + 1 := by show (if byteAt k = 32 then _ else _) = _; rw [if_pos h, HC.out]
        have e2 : st (k + 1) = k + 1 := by show (if byteAt k = 32 then _ else _) = _; rw [if_pos h]
        clear h32 hcn
        go_round
        case rel => exact ⟨k + 1, by omega, by go_num, by rw [e1]; go_num, by rw [e2]; go_num, by rw [e1]; omega⟩
        case measure => simp [intOf]; omega
      · rename_i h32
        have h := idx_no k (by rw [T_size]; exact hlt) h32
        have e1 : cnt (k + 1) = c := by show (if byteAt k = 32 then _ else _) = _; rw [if_neg h, HC.out]
        have e2 : st (k + 1) = s := by show (if byteAt k = 32 then _ else _) = _; rw [if_neg h, HS.out]
        clear h32
        go_round
        case rel => exact ⟨k + 1, by omega, by go_num, by rw [e1], by rw [e2], by rw [e1]; omega⟩
        case measure => simp [intOf]; omega
    · obtain rfl : k = 212 := by omega
      rw [cnt_last] at hc
      obtain rfl : n = 29 := by omega
      have e := name_at 212 hk (.inr rfl)
      rw [cnt_last] at *
      have HE := Lib.hid e
      clear e hc
      generalize st 212 = s at *
      go_wp2
      go_ret
      exact ⟨ret_str HE.out, rfl⟩

end Go.Proofs.Ytpghbldknekoeaa
