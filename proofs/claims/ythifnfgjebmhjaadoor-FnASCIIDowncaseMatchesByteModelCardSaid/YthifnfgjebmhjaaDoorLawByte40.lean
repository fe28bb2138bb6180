/- The law FnASCIIDowncaseMatchesByteModel. -/
import Derived.Test.YthifnfgjebmhjaaDoorWalk40
import Derived.Test.YthifnfgjebmhjaaDoorValid40
import Derived.Test.YthifnfgjebmhjaaDoorSlKit
import Derived.Laws.IdiomStrings
namespace Go.Proofs.YthifnfgjebmhjaaDoor
open Go.RowKit

def u8V (c : UInt8) : Value := .int .u8 (c.toNat : Int)
theorem info_u8 : (Tryd.prog.info? 5).map (fun i => (i.zero, i.size, decide (i.bytes ≤ 16))) = some (some (Value.int .u8 0), 1, true) := by kernel_rfl
theorem dnB_hi (b : UInt8) (h1 : 65 ≤ b.toNat) (h2 : b.toNat ≤ 90) : ((dnB b).toNat : Int) = (b.toNat : Int) + 32 := by
  unfold dnB
  rw [if_pos ⟨h1, h2⟩, UInt8.toNat_add]
  simp; omega
theorem dnB_lo (b : UInt8) (h : ¬ (65 ≤ b.toNat ∧ b.toNat ≤ 90)) : ((dnB b).toNat : Int) = (b.toNat : Int) := by
  unfold dnB; rw [if_neg h]
/-- While the model is written: k bytes stand. -/
def BRel (L : List Value) (n g B : Nat) (w : World) (vi : Value) (wr : World) : Prop :=
  ∃ k : Nat, k ≤ n ∧ vi = .int .i64 k ∧ Hid (wr.heap[g]? = some (.cells (L.take k ++ List.replicate (L.length - k) (Value.int .u8 0)).toArray 5 (0, 0))) ∧ Below B w wr
set_option maxHeartbeats 1000000 in
set_option maxRecDepth 100000 in
theorem lawByte (s : ByteArray) (w : World) (hm : s.size ≤ maxLen) (hT : Lib.Utf8Tabs 0 1 w) :
    Calls Tryd.prog 4 #[.string s] w fun e w' => e = .returned (.bool true) ∧ Below w.heap.size w w' := by
  have HBy := Lib.hid (zbytes2 s w hm)
  by_cases hs : s.size ≤ 1048576
  · have hl : s.data.toList.length ≤ 1048576 := by simpa using hs
    have hd : decide (s.size ≤ 1048576) = true := by simp; omega
    rw [hd] at HBy
    have HV := Lib.hid (valid_any s w hs)
    have C1 := Lib.hid (zdown s w (by omega) hT)
    have hmk := fun W => run_mkE info_u8 Tryd.underlying25 rfl s.size hs W
    have HMK := Lib.hid hmk
    clear hT hd hl hmk
    go_enter Tryd.func4, Tryd.ntmps4
    go_wp2_with fail
    refine HBy.out.mono ?_
    rintro e w' ⟨rfl, rfl⟩
    go_wp2_with fail
    refine HV.out.mono ?_
    rintro e w' ⟨b, rfl, hb, rfl⟩
    cases b with
    | false =>
      go_wp2_with fail
      go_ret
      exact ⟨rfl, Below.refl _ _⟩
    | true =>
      have hL := mapD_valid _ s.data.toList (Nat.le_refl _) (hb rfl)
      rw [hL] at C1
      obtain ⟨D, hD⟩ : ∃ D, strOf (s.data.toList.map dnB) = D := ⟨_, rfl⟩
      rw [hD] at C1
      have HD := Lib.hid hD
      clear hb hL hD
      go_wp2_with fail
      refine C1.out.mono ?_
      rintro e w1 ⟨rfl, hb1⟩
      have hmk := HMK.out
      go_wp2_with fail
      obtain ⟨W, hW⟩ : ∃ W, W = w1.alloc (.cells (Array.replicate s.size (Value.int .u8 0)) 5) := ⟨_, rfl⟩
      rw [← hW]
      obtain ⟨L, hL⟩ : ∃ L, L = (s.data.toList.map dnB).map u8V := ⟨_, rfl⟩
      have hLn : L.length = s.size := by rw [hL]; simp
      obtain ⟨g, hg⟩ : ∃ g, g = w1.heap.size := ⟨_, rfl⟩
      have hN0 : W.heap[g]? = some (.cells (L.take 0 ++ List.replicate (L.length - 0) (Value.int .u8 0)).toArray 5 (0, 0)) := by rw [hW, hg]; exact (heap_alloc_at _ _).trans (by simp [hLn])
      have hbW : Below w.heap.size w W := by rw [hW]; exact hb1.alloc hb1.size _
      have hgB : w.heap.size ≤ g := by rw [hg]; exact hb1.size
      rw [← hg]
      have HN0 := Lib.hid hN0
      have HL := Lib.hid hL
      have HLn := Lib.hid hLn
      clear hmk hW hg hb1 hN0 hL hLn
      go_loopw [6] (BRel L s.size g w.heap.size w) (fun i _ => s.size - (intOf i).toNat)
      case atStart => exact ⟨0, Nat.zero_le _, rfl, HN0, hbW⟩
      case round =>
        obtain ⟨k, hk, rfl, hN, hb⟩ := hrel
        by_cases hlt : k < s.size
        · have hkL : k < L.length := by rw [HLn.out]; exact hlt
          have cg : wr.cell? ⟨g, k, none⟩ = some (Value.int .u8 0) := cell_of_block hN.out (clone_get L k _ hkL)
          have fg : wr.frozen? ⟨g, k, none⟩ = false := free_of_block hN.out
          have hN2 := heap_setCell_at (i := k) hN.out L[k]
          rw [clone_step L k (Value.int .u8 0) hkL] at hN2
          have hb2 := hb.setCell (p := ⟨g, k, none⟩) (by simpa using hgB) L[k]
          have hLk : L[k] = .int .u8 ((dnB s[k]).toNat : Int) := by
            have := HL.out
            subst this
            simp [u8V]
            rfl
          rw [hLk] at hN2 hb2
          by_cases c1 : 65 ≤ s[k].toNat
          · by_cases c2 : s[k].toNat ≤ 90
            · rw [dnB_hi _ c1 c2] at hN2 hb2
              have HN2 := Lib.hid hN2
              clear hN hN2 hLk
              go_wp2_with fail
              go_roundw
              case rel => exact ⟨k + 1, by omega, by go_num, HN2, hb2⟩
              case measure => simp [intOf]; omega
            · rw [dnB_lo _ (by omega)] at hN2 hb2
              have HN2 := Lib.hid hN2
              clear hN hN2 hLk
              go_wp2_with fail
              go_roundw
              case rel => exact ⟨k + 1, by omega, by go_num, HN2, hb2⟩
              case measure => simp [intOf]; omega
          · rw [dnB_lo _ (by omega)] at hN2 hb2
            have HN2 := Lib.hid hN2
            clear hN hN2 hLk
            go_wp2_with fail
            go_roundw
            case rel => exact ⟨k + 1, by omega, by go_num, HN2, hb2⟩
            case measure => simp [intOf]; omega
        · obtain rfl : k = s.size := by omega
          have hN3 : wr.heap[g]? = some (.cells L.toArray 5 (0, 0)) := by have := hN.out; rw [← HLn.out] at this; simpa using this
          have hcv : (convert 25 9 (.slice (some ⟨g, 0, none⟩) s.size s.size)).run Tryd.prog wr = .ok (.string D) wr := by
            have h0 := run_convert_bytes_back (P := Tryd.prog) wr 25 9 5 ⟨g, 0, none⟩ s.size (s.data.toList.map dnB) Tryd.underlying25 Tryd.underlying5 Tryd.underlying9 (fun j hj => by
              rw [Addr.add_lit, Nat.zero_add]
              refine cell_of_block hN3 ?_
              have := HL.out
              subst this
              simp at hj
              simp [u8V, hj])
            rw [← HD.out]
            have e : (s.data.toList.map dnB).length = s.size := by simp
            rw [e] at h0
            exact h0
          have HCV := Lib.hid hcv
          clear hN hN3 hcv
          have hcv := HCV.out
          go_wp2_with fail
          go_ret
          exact ⟨by first | rfl | simp, hb⟩
  · obtain ⟨b, hb⟩ : ∃ b, decide (s.size ≤ 1048576) = b := ⟨_, rfl⟩
    rw [hb] at HBy
    clear hb hT
    unfold maxLen at hm
    cases b with
    | false =>
      go_enter Tryd.func4, Tryd.ntmps4
      go_wp2_with fail
      refine HBy.out.mono ?_
      rintro e w' ⟨rfl, rfl⟩
      go_wp2_with fail
      go_ret
      exact ⟨rfl, Below.refl _ _⟩
    | true =>
      go_enter Tryd.func4, Tryd.ntmps4
      go_wp2_with fail
      refine HBy.out.mono ?_
      rintro e w' ⟨rfl, rfl⟩
      go_wp2_with fail
      go_ret
      exact ⟨rfl, Below.refl _ _⟩
end Go.Proofs.YthifnfgjebmhjaaDoor
