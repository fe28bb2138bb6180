/- The walk of FnExplodeConcat: its helpers and the law. -/
import Derived.Test.YtnnjoehhjmomaaaCat
namespace Go.Proofs.Ytnnjoehhjmomaaa
open Go.RowKit

set_option maxHeartbeats 400000 in
theorem valid_any (s : ByteArray) (w : World) (hs : s.size ≤ 1048576) :
    Calls Try.prog 12 #[.string s] w fun e w' => e = .returned (.bool (V s 0)) ∧ w = w' := by
  go_enter Try.func12, Try.ntmps12
  go_wp2_with fail
  go_loop [3] (fun p => ∃ pos : Nat, pos ≤ s.size ∧ p = .int .i64 pos ∧ Hid (V s pos = V s 0)) (fun p => s.size - (intOf p).toNat)
  case atStart => exact ⟨0, Nat.zero_le _, rfl, rfl⟩
  case round =>
    obtain ⟨pos, hp, rfl, hV⟩ := hrel
    by_cases hlt : pos < s.size
    · have hwp := Lib.decode_width_pos s pos hlt
      have hpl := decode_pos_le s pos hlt
      have hR := V_step s pos hlt
      generalize hdv : (Utf8.decode s pos).1 = r at *
      generalize hdw : (Utf8.decode s pos).2 = m at *
      cases hdk : okB s pos
      · have HC := Lib.hid (fun W => dec_v s pos W hs hlt r m false hdv hdw hdk)
        have HV : Hid (V s 0 = false) := Lib.hid (by rw [← hV.out, hR, hdk]; rfl)
        clear hdv hdw hdk hR hV
        go_wp2_with fail
        refine (HC.out _).mono ?_
        rintro e w' ⟨rfl, rfl⟩
        go_wp2_with fail
        go_ret
        exact ⟨ret_bool HV.out.symm, rfl⟩
      · have HC := Lib.hid (fun W => dec_v s pos W hs hlt r m true hdv hdw hdk)
        have HV : Hid (V s (pos + m) = V s 0) := Lib.hid (by rw [← hV.out, hR, hdk]; rfl)
        clear hdv hdw hdk hR hV
        go_wp2_with fail
        refine (HC.out _).mono ?_
        rintro e w' ⟨rfl, rfl⟩
        go_wp2_with fail
        go_round
        case rel => exact ⟨pos + m, hpl, by go_num, HV⟩
        case measure => simp [intOf]; omega
    · have HV : Hid (V s 0 = true) := Lib.hid (by rw [← hV.out, V_end s pos hlt])
      clear hV
      go_wp2_with fail
      go_ret
      exact ⟨ret_bool HV.out.symm, rfl⟩

set_option maxHeartbeats 400000 in
theorem eq_any (b1 b2 n c1 c2 : Nat) (l : List Nat) (q : List Value) (w : World) (h1 : Blk 3 b1 (l.map nv) w) (h2 : Blk 3 b2 (l.map nv ++ q) w) (hn : l.length = n) (hn2 : n ≤ 4000000) :
    Calls Try.prog 13 #[.slice (some ⟨b1, 0, none⟩) n c1, .slice (some ⟨b2, 0, none⟩) n c2] w fun e w' => e = .returned (.bool true) ∧ ∃ m, w' = w.drewN m := by
  have H1 := Lib.hid h1
  have H2 := Lib.hid h2
  have HN := Lib.hid hn
  clear h1 h2 hn
  go_enter Try.func13, Try.ntmps13
  go_wp2_with fail
  go_loopw [5] (fun i wr => ∃ k m : Nat, k ≤ n ∧ i = .int .i64 k ∧ wr = w.drewN m) (fun i _ => n - (intOf i).toNat)
  case atStart => exact ⟨0, 0, Nat.zero_le _, rfl, rfl⟩
  case round =>
    obtain ⟨k, m, hk, rfl, rfl⟩ := hrel
    by_cases hlt : k < n
    · have l1 : k < (l.map nv).length := by rw [List.length_map, HN.out]; exact hlt
      have l2 : k < (l.map nv ++ q).length := by rw [List.length_append]; omega
      have l3 : k < l.length := by rw [HN.out]; exact hlt
      have c1 : w.cell? ⟨b1, k, none⟩ = some (.int .i64 (l[k] : Int)) := by rw [H1.out.cell l1]; simp [nv]
      have c2 : w.cell? ⟨b2, k, none⟩ = some (.int .i64 (l[k] : Int)) := by rw [H2.out.cell l2, List.getElem_append_left l1]; simp [nv]
      generalize l[k] = x at *
      have e5 : (0 : Int) ≤ (k : Int) := by omega
      have e6 : (k : Int) < (n : Int) := by omega
      clear l1 l2 l3
      go_wp2_with fail
      go_quiet (fail)
      clear e5 e6
      go_wp2_with fail
      go_roundw
      case rel => exact ⟨k + 1, _, by omega, by go_num, rfl⟩
      case measure => simp [intOf]; omega
    · go_wp2_with fail
      go_ret
      exact ⟨rfl, _, rfl⟩

theorem app_eq (g n cap r : Nat) (D Q : List Value) (wr : World) (hB : Blk 3 g (D ++ .int .i64 0 :: Q) wr) (hD : D.length = n) (hc : n + 1 ≤ cap) :
    ∃ w', (∀ ty, (Builtin.append_ #[24, 24] ty #[.slice (some ⟨g, 0, none⟩) n cap, .slice (some ⟨wr.heap.size, 0, none⟩) 1 1]).run Try.prog (wr.alloc (.cells #[.int .i64 (r : Int)] 3)) = .ok (.slice (some ⟨g, 0, none⟩) (n + 1) cap) w') ∧
      Blk 3 g (D ++ nv r :: Q) w' ∧ Below g wr w' := by
  obtain ⟨i, hi, hz0, hz1, hz2⟩ := info_parts info3
  have hg : g < wr.heap.size := lt_of_block hB
  have hB' : (wr.alloc (.cells #[.int .i64 (r : Int)] 3)).heap[g]? = some (.cells (D ++ .int .i64 0 :: Q).toArray 3 (0, 0)) := (heap_alloc_ne hg).trans hB
  have h := fun ty => run_append_room (P := Try.prog) (wr.alloc (.cells #[.int .i64 (r : Int)] 3)) 24 ty 3 i Try.underlying24 hi g n cap _ hB' ⟨wr.heap.size, 0, none⟩ 1 1 [nv r] (by rw [hz1]; rfl)
    (by
      intro j u hj
      have : j = 0 := by cases j with | zero => rfl | succ j => simp at hj
      subst this
      simp at hj
      subst hj
      exact cell_of_block (heap_alloc_at _ _) rfl) (by intro u hu; simp at hu; subst hu; rfl) hc (by rw [hz1]; simp; omega)
  refine ⟨_, h, ?_, ?_⟩
  · have e := setRow_heap (wr.alloc (.cells #[.int .i64 (r : Int)] 3)) g _ ((D ++ .int .i64 0 :: Q).toArray.toList.take (n * i.size) ++ [nv r] ++ (D ++ .int .i64 0 :: Q).toArray.toList.drop (n * i.size + [nv r].length)).toArray 3 (0, 0) hB'
    refine Eq.trans e ?_
    rw [hz1, Nat.mul_one, ← hD]
    simp
  · refine ((Below.refl g wr).alloc (by omega) _).trans ⟨rfl, rfl, rfl, by simp [World.setRow], fun k hk => setRow_other _ g k _ (by omega)⟩

end Go.Proofs.Ytnnjoehhjmomaaa
