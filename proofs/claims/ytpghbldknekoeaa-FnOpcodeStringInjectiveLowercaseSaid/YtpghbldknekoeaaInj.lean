/- The names are not empty, lower-case, and no two are equal; the walk of FnOpcodeStringInjectiveLowercase on declared opcodes. -/
import Derived.Test.YtpghbldknekoeaaOps
import Derived.Outline
namespace Go.Proofs.Ytpghbldknekoeaa
open Go.RowKit

def low (l : List UInt8) : Bool := l.all fun b => decide (97 ≤ b.toNat) && decide (b.toNat ≤ 122)
theorem names_ok : (List.range 30).all (fun n => decide (0 < (names.getD n []).length) && decide ((names.getD n []).length < 20) && low (names.getD n [])) = true := by decide +kernel
theorem names_inj : (List.range 30).all (fun n => (List.range 30).all fun m => (names.getD n [] == names.getD m []) == (n == m)) = true := by decide +kernel

theorem name_ok (n : Nat) (hn : n ≤ 29) : 0 < (nameOf n).size ∧ (nameOf n).size < 20 ∧ ∀ i (h : i < (nameOf n).size), 97 ≤ (nameOf n)[i].toNat ∧ (nameOf n)[i].toNat ≤ 122 := by
  have h := List.all_eq_true.1 names_ok n (by rw [List.mem_range]; omega)
  simp only [Bool.and_eq_true, decide_eq_true_eq] at h
  obtain ⟨⟨h1, h2⟩, h3⟩ := h
  refine ⟨h1, h2, fun i hi => ?_⟩
  have := List.all_eq_true.1 h3 ((nameOf n)[i]) (by
    have e : (names.getD n []) = (nameOf n).data.toList := rfl
    rw [e, ByteArray.getElem_eq_getElem_data]
    simp)
  simpa using this

theorem name_inj (n m : Nat) (hn : n ≤ 29) (hm : m ≤ 29) : ((nameOf n).toList == (nameOf m).toList) = ((n : Int) == (m : Int)) := by
  have h := List.all_eq_true.1 (List.all_eq_true.1 names_inj n (by rw [List.mem_range]; omega)) m (by rw [List.mem_range]; omega)
  have e : (names.getD n [] == names.getD m []) = (n == m) := by simpa using h
  rw [ByteArray.toList_eq, ByteArray.toList_eq]
  show (names.getD n [] == names.getD m []) = _
  rw [e, Bool.eq_iff_iff]
  simp only [beq_iff_eq]
  exact Int.ofNat_inj.symm

set_option maxHeartbeats 400000 in
theorem inj_good (n m : Nat) (w : World) (hn : n ≤ 29) (hm : m ≤ 29) :
    Calls Try.prog 4 #[.int .i64 n, .int .i64 m] w fun e w' => e = .returned (.bool true) ∧ w = w' := by
  obtain ⟨s, hs⟩ : ∃ s, s = nameOf n := ⟨_, rfl⟩
  obtain ⟨t, ht⟩ : ∃ t, t = nameOf m := ⟨_, rfl⟩
  have C1 := Lib.hid (fun W : World => zzOp_any n W hn)
  have C2 := Lib.hid (fun W : World => zzOp_any m W hm)
  have HI := Lib.hid (name_inj n m hn hm)
  obtain ⟨p1, p2, p3⟩ := name_ok n hn
  obtain ⟨q1, q2, q3⟩ := name_ok m hm
  have P3 := Lib.hid p3
  have Q3 := Lib.hid q3
  clear p3 q3
  rw [← hs] at C1 HI p1 p2 P3
  rw [← ht] at C2 HI q1 q2 Q3
  clear hs ht
  have z1 : ((s.size : Int) == 0) = false := by simp only [beq_eq_false_iff_ne]; omega
  have z2 : ((t.size : Int) == 0) = false := by simp only [beq_eq_false_iff_ne]; omega
  go_enter Try.func4, Try.ntmps4
  go_wp2_with fail
  refine (C1.out _).mono ?_
  rintro e w' ⟨rfl, rfl⟩
  go_wp2_with fail
  refine (C2.out _).mono ?_
  rintro e w' ⟨rfl, rfl⟩
  go_wp2_with fail
  go_loop [7] (fun i => ∃ k : Nat, k ≤ s.size ∧ i = .int .i64 k) (fun i => s.size - (intOf i).toNat)
  case atStart => exact ⟨0, Nat.zero_le _, rfl⟩
  case round =>
    obtain ⟨k, hk, rfl⟩ := hrel
    by_cases hlt : k < s.size
    · obtain ⟨b1, b2⟩ := P3.out k hlt
      go_wp2
      go_round
      case rel => exact ⟨k + 1, by omega, by go_num⟩
      case measure => simp [intOf]; omega
    · go_wp2
      go_loop [8] (fun i => ∃ k : Nat, k ≤ t.size ∧ i = .int .i64 k) (fun i => t.size - (intOf i).toNat)
      case atStart => exact ⟨0, Nat.zero_le _, rfl⟩
      case round =>
        obtain ⟨j, hj, rfl⟩ := hrel
        by_cases hlt2 : j < t.size
        · obtain ⟨b1, b2⟩ := Q3.out j hlt2
          go_wp2
          go_round
          case rel => exact ⟨j + 1, by omega, by go_num⟩
          case measure => simp [intOf]; omega
        · go_wp2
          go_ret
          refine ⟨ret_bool ?_, rfl⟩
          have h := HI.out
          rw [h]
          simp

end Go.Proofs.Ytpghbldknekoeaa
