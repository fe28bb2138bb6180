/- The walk of FnQuoteAndEscapeQuoteWraps with the right count. -/
import Derived.Test.YtekimjpganhcdaaLaws
import Derived.Outline
namespace Go.Proofs.Ytekimjpganhcdaa
open Go.RowKit

theorem wrap_get (l : List UInt8) (k : Nat) (h : k < (out false l).length) (h' : k + 1 < (out true l).length) : (out true l)[k + 1] = (out false l)[k] := by
  have e : out true l = 34 :: (out false l ++ [34]) := by simp [out, hd]
  simp only [e, List.getElem_cons_succ]
  rw [List.getElem_append_left h]
theorem wrap_first (l : List UInt8) (h : 0 < (out true l).length) : (out true l)[0] = 34 := by
  have e : out true l = 34 :: (out false l ++ [34]) := by simp [out, hd]
  simp [e]
theorem wrap_last (l : List UInt8) (h : (out true l).length - 1 < (out true l).length) : (out true l)[(out true l).length - 1] = 34 := by
  have e : out true l = 34 :: (out false l ++ [34]) := by simp [out, hd]
  simp [e]
theorem wrap_len (l : List UInt8) : (out true l).length = (out false l).length + 2 := by simp [out, hd]

theorem strOf_bytes (l : List UInt8) : strOfNums (l.map fun x => (x.toNat : Int)) = ⟨l.toArray⟩ := by
  unfold strOfNums
  rw [List.map_map]
  have : l.map ((fun n : Int => UInt8.ofNat n.toNat) ∘ fun x : UInt8 => (x.toNat : Int)) = l.map id := List.map_congr_left (fun x _ => by simp)
  rw [this, List.map_id]

set_option maxHeartbeats 1000000 in
theorem law4 (s : ByteArray) (w : World) (hs : s.size ≤ 1048576) (c n : Nat) (hc : ctl s.data.toList = c) (hn : (out false s.data.toList).length = n) (hn3 : n ≤ 7000000) :
    Calls Try.prog 4 #[.string s, .int .i64 c] w (True1 w) := by
  have HB : Hid (decide (s.size ≤ 1048576) = true) := Lib.hid (by simpa using hs)
  have HN := Lib.hid hn
  have HN2 : Hid ((out true s.data.toList).length = n + 2) := Lib.hid (by rw [wrap_len, hn])
  have HC := Lib.hid hc
  have HCC : Hid (∀ W : World, Calls Try.prog 6 #[.string s] W fun e w' => e = .returned (.int .i64 c) ∧ W = w') := by
    intro W; rw [← hc]; exact count_any s W hs
  have hm : s.size ≤ maxLen := by unfold maxLen; omega
  clear hn hc
  go_enter Try.func4, Try.ntmps4
  go_wp2_with fail
  refine (bytes8 _ _ _ _ HB.out hm).mono ?_
  rintro e w' ⟨rfl, rfl⟩
  go_wp2_with fail
  refine (HCC.out _).mono ?_
  rintro e w' ⟨rfl, rfl⟩
  go_wp2_with fail
  refine (zzQ_any s true c (n + 2) _ hs HC.out HN2.out).mono ?_
  rintro e w1 ⟨rfl, hB, hbel⟩
  obtain ⟨b, hb⟩ : ∃ b, b = w.heap.size := ⟨_, rfl⟩
  rw [← hb] at hB hbel ⊢
  have HBB := Lib.hid hb
  have HBL := Lib.hid hB
  have hlt1 : b < w1.heap.size := lt_of_block hB
  clear hb hB
  go_wp2_with fail
  refine (zzQ_any s false c n _ hs HC.out HN.out).mono ?_
  rintro e w2 ⟨rfl, hB2, hbel2⟩
  have hold : Blk b (out true s.data.toList) w2 := (hbel2.block b hlt1).trans HBL.out
  obtain ⟨b2, hb2⟩ : ∃ b2, b2 = w1.heap.size := ⟨_, rfl⟩
  rw [← hb2] at hB2 hbel2 hlt1 ⊢
  have hbel3 : Below b w w2 := hbel.trans (hbel2.mono (by omega))
  have c0 : w2.cell? ⟨b, 0, none⟩ = some (.int .u8 34) := by
    have := hold.cell (k := 0) (by rw [HN2.out]; omega)
    rw [wrap_first] at this; exact this
  have cz : w2.cell? ⟨b, n + 1, none⟩ = some (.int .u8 34) := by
    have h1 : (out true s.data.toList).length - 1 < (out true s.data.toList).length := by rw [HN2.out]; omega
    have := hold.cell (k := (out true s.data.toList).length - 1) h1
    rw [wrap_last] at this
    rw [HN2.out] at this
    exact this
  have HO := Lib.hid hold
  have HB2 := Lib.hid hB2
  clear hb2 hold hB2 hbel hbel2 HBL
  go_wp2_with fail
  go_loopw [7] (fun i wr => ∃ k m : Nat, k ≤ n ∧ i = .int .i64 k ∧ wr = w2.drewN m) (fun i _ => n - (intOf i).toNat)
  case atStart => exact ⟨0, 0, Nat.zero_le _, rfl, rfl⟩
  case round =>
    obtain ⟨k, m, hk, rfl, rfl⟩ := hrel
    by_cases hlt : k < n
    · have l1 : k < (out false s.data.toList).length := by rw [HN.out]; exact hlt
      have l2 : k + 1 < (out true s.data.toList).length := by rw [HN2.out]; omega
      have c1 := HB2.out.cell l1
      have c2 := HO.out.cell l2
      rw [wrap_get s.data.toList k l1 l2] at c2
      generalize (out false s.data.toList)[k] = x at *
      clear l1 l2 c0 cz
      have e1 : IntKind.i64.wrap ((k : Int) + 1) = (k : Int) + 1 := IntWalk.i64_in _ (by omega)
      have e2 : (0 : Int) ≤ (k : Int) + 1 := by omega
      have e3 : ((k : Int) + 1).toNat = k + 1 := by omega
      have e4 : (k : Int) + 1 < (n : Int) + 2 := by omega
      have e5 : (0 : Int) ≤ (k : Int) := by omega
      have e6 : (k : Int) < (n : Int) := by omega
      go_wp2_with fail
      go_quiet (fail)
      clear e1 e2 e3 e4 e5 e6
      go_wp2_with fail
      go_roundw
      case rel => exact ⟨k + 1, _, by omega, by go_num, rfl⟩
      case measure => simp [intOf]; omega
    · by_cases hc0 : c = 0
      · have hc1 : ((c : Int) == 0) = true := by simp [hc0]
        have hcv : (convert 24 9 (.slice (some ⟨b2, 0, none⟩) n n)).run Try.prog (w2.drewN m) = .ok (.string (strOfNums ((out false s.data.toList).map fun x => (x.toNat : Int)))) (w2.drewN m) :=
          run_convert_bytes_arg _ 24 5 Try.underlying24 Try.underlying5 _ 0 n n _ (by rw [List.length_map, HN.out]) (by
            intro i hi
            have l1 : i < (out false s.data.toList).length := by rw [HN.out]; exact hi
            have c1 := HB2.out.cell l1
            rw [Nat.zero_add, List.getD_eq_getElem?_getD, List.getElem?_map, List.getElem?_eq_getElem l1]
            exact c1) 9 Try.underlying9
        have hst : strOfNums ((out false s.data.toList).map fun x => (x.toNat : Int)) = s := by
          have hp : out false s.data.toList = s.data.toList := by
            have := body_plain s.data.toList (by rw [HC.out, hc0])
            simp [out, hd, this]
          rw [hp, strOf_bytes]
        rw [hst] at hcv
        clear hst hc0
        go_wp2_with fail
        go_ret
        refine ⟨by simp, ?_⟩
        rw [← HBB.out]
        exact below_drewN hbel3 _
      · have hc1 : ((c : Int) == 0) = false := by simp only [beq_eq_false_iff_ne]; omega
        clear hc0
        go_wp2_with fail
        go_ret
        refine ⟨rfl, ?_⟩
        rw [← HBB.out]
        exact below_drewN hbel3 _

end Go.Proofs.Ytekimjpganhcdaa
