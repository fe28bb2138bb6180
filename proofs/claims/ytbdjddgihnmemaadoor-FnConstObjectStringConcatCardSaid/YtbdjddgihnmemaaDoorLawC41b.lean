/- The law FnConstObjectStringConcat: every input (printed by wip/tools/gen_c41.py). -/
import Derived.Test.YtbdjddgihnmemaaDoorLawC41
namespace Go.Proofs.YtbdjddgihnmemaaDoor
open Go.RowKit

set_option maxHeartbeats 4000000 in
set_option maxRecDepth 100000 in
theorem lawC (v1 v2 v3 v4 : Value) (ka va kb vb : List ByteArray) (w : World) (hT : Lib.Utf8Tabs 0 1 w) (h1 : Sl v1 (ka.map Value.string) w) (g1 : ∀ s ∈ ka, s.size ≤ maxLen) (h2 : Sl v2 (va.map Value.string) w) (g2 : ∀ s ∈ va, s.size ≤ maxLen) (h3 : Sl v3 (kb.map Value.string) w) (g3 : ∀ s ∈ kb, s.size ≤ maxLen) (h4 : Sl v4 (vb.map Value.string) w) (g4 : ∀ s ∈ vb, s.size ≤ maxLen) :
    Calls Tryd.prog 7 #[v1, v2, v3, v4] w fun e w' => e = .returned (.bool true) ∧ Below w.heap.size w w' := by
  have HBy := Lib.hid (bytes_FnConstObjectStringConcat v1 ka v2 va v3 kb v4 vb w h1 g1 h2 g2 h3 g3 h4 g4)
  by_cases hb1 : (ka.length + tot ka) + (va.length + tot va) + (kb.length + tot kb) + (vb.length + tot vb) ≤ 1048576
  · have hft : fitT ((ka.length + tot ka) + (va.length + tot va) + (kb.length + tot kb) + (vb.length + tot vb)) = true := by unfold fitT; simpa using hb1
    by_cases n1 : ka.length ≤ 65536
    rotate_left
    · rw [hft] at HBy
      obtain ⟨a1, c1, e1, _⟩ := h1
      obtain ⟨a2, c2, e2, _⟩ := h2
      obtain ⟨a3, c3, e3, _⟩ := h3
      obtain ⟨a4, c4, e4, _⟩ := h4
      rw [List.length_map] at e1 e2 e3 e4
      subst e1 e2 e3 e4
      have l1 : ka.length ≤ 1048576 := by omega
      have l2 : va.length ≤ 1048576 := by omega
      have l3 : kb.length ≤ 1048576 := by omega
      have l4 : vb.length ≤ 1048576 := by omega
      clear hft hT g1 g2 g3 g4 hb1
      go_enter Tryd.func7, Tryd.ntmps7
      go_wp2_with fail
      refine HBy.out.mono ?_
      rintro e w' ⟨rfl, rfl⟩
      clear HBy
      go_wp2_with fail
      go_ret
      exact ⟨rfl, Below.refl _ _⟩
    by_cases n2 : va.length ≤ 65536
    rotate_left
    · rw [hft] at HBy
      obtain ⟨a1, c1, e1, _⟩ := h1
      obtain ⟨a2, c2, e2, _⟩ := h2
      obtain ⟨a3, c3, e3, _⟩ := h3
      obtain ⟨a4, c4, e4, _⟩ := h4
      rw [List.length_map] at e1 e2 e3 e4
      subst e1 e2 e3 e4
      have l1 : ka.length ≤ 1048576 := by omega
      have l2 : va.length ≤ 1048576 := by omega
      have l3 : kb.length ≤ 1048576 := by omega
      have l4 : vb.length ≤ 1048576 := by omega
      clear hft hT g1 g2 g3 g4 hb1
      go_enter Tryd.func7, Tryd.ntmps7
      go_wp2_with fail
      refine HBy.out.mono ?_
      rintro e w' ⟨rfl, rfl⟩
      clear HBy
      go_wp2_with fail
      go_ret
      exact ⟨rfl, Below.refl _ _⟩
    by_cases n3 : kb.length ≤ 65536
    rotate_left
    · rw [hft] at HBy
      obtain ⟨a1, c1, e1, _⟩ := h1
      obtain ⟨a2, c2, e2, _⟩ := h2
      obtain ⟨a3, c3, e3, _⟩ := h3
      obtain ⟨a4, c4, e4, _⟩ := h4
      rw [List.length_map] at e1 e2 e3 e4
      subst e1 e2 e3 e4
      have l1 : ka.length ≤ 1048576 := by omega
      have l2 : va.length ≤ 1048576 := by omega
      have l3 : kb.length ≤ 1048576 := by omega
      have l4 : vb.length ≤ 1048576 := by omega
      clear hft hT g1 g2 g3 g4 hb1
      go_enter Tryd.func7, Tryd.ntmps7
      go_wp2_with fail
      refine HBy.out.mono ?_
      rintro e w' ⟨rfl, rfl⟩
      clear HBy
      go_wp2_with fail
      go_ret
      exact ⟨rfl, Below.refl _ _⟩
    by_cases n4 : vb.length ≤ 65536
    rotate_left
    · rw [hft] at HBy
      obtain ⟨a1, c1, e1, _⟩ := h1
      obtain ⟨a2, c2, e2, _⟩ := h2
      obtain ⟨a3, c3, e3, _⟩ := h3
      obtain ⟨a4, c4, e4, _⟩ := h4
      rw [List.length_map] at e1 e2 e3 e4
      subst e1 e2 e3 e4
      have l1 : ka.length ≤ 1048576 := by omega
      have l2 : va.length ≤ 1048576 := by omega
      have l3 : kb.length ≤ 1048576 := by omega
      have l4 : vb.length ≤ 1048576 := by omega
      clear hft hT g1 g2 g3 g4 hb1
      go_enter Tryd.func7, Tryd.ntmps7
      go_wp2_with fail
      refine HBy.out.mono ?_
      rintro e w' ⟨rfl, rfl⟩
      clear HBy
      go_wp2_with fail
      go_ret
      exact ⟨rfl, Below.refl _ _⟩
    by_cases hb2 : (16 * ka.length + tot ka) + (16 * va.length + tot va) + (16 * kb.length + tot kb) + (16 * vb.length + tot vb) ≤ 1048576
    · exact lawC_good v1 v2 v3 v4 ka va kb vb w hT h1 g1 h2 g2 h3 g3 h4 g4 n1 n2 n3 n4 hb1 hb2
    · rw [hft] at HBy
      have HB1 := Lib.hid (strsBytes_any v1 ka w h1 (by omega) n1)
      have HB2 := Lib.hid (strsBytes_any v2 va w h2 (by omega) n2)
      have HB3 := Lib.hid (strsBytes_any v3 kb w h3 (by omega) n3)
      have HB4 := Lib.hid (strsBytes_any v4 vb w h4 (by omega) n4)
      obtain ⟨q1, hq1⟩ : ∃ q, q = capS (16 * ka.length + tot ka) := ⟨_, rfl⟩
      obtain ⟨q2, hq2⟩ : ∃ q, q = capS (16 * va.length + tot va) := ⟨_, rfl⟩
      obtain ⟨q3, hq3⟩ : ∃ q, q = capS (16 * kb.length + tot kb) := ⟨_, rfl⟩
      obtain ⟨q4, hq4⟩ : ∃ q, q = capS (16 * vb.length + tot vb) := ⟨_, rfl⟩
      rw [← hq1] at HB1
      rw [← hq2] at HB2
      rw [← hq3] at HB3
      rw [← hq4] at HB4
      have hq : 1048576 < q1 + q2 + q3 + q4 ∧ q1 ≤ 1048577 ∧ q2 ≤ 1048577 ∧ q3 ≤ 1048577 ∧ q4 ≤ 1048577 := by
        rw [hq1, hq2, hq3, hq4]; unfold capS
        split <;> split <;> split <;> split <;> omega
      obtain ⟨hqa, hqb, hqc, hqd, hqe⟩ := hq
      obtain ⟨a1, c1, e1, _⟩ := h1
      obtain ⟨a2, c2, e2, _⟩ := h2
      obtain ⟨a3, c3, e3, _⟩ := h3
      obtain ⟨a4, c4, e4, _⟩ := h4
      rw [List.length_map] at e1 e2 e3 e4
      subst e1 e2 e3 e4
      clear hft hT g1 g2 g3 g4 hq1 hq2 hq3 hq4 hb1 hb2
      go_enter Tryd.func7, Tryd.ntmps7
      go_wp2_with fail
      refine HBy.out.mono ?_
      rintro e w' ⟨rfl, rfl⟩
      go_wp2_with fail
      refine HB1.out.mono ?_
      rintro e w' ⟨rfl, rfl⟩
      go_wp2_with fail
      refine HB2.out.mono ?_
      rintro e w' ⟨rfl, rfl⟩
      go_wp2_with fail
      refine HB3.out.mono ?_
      rintro e w' ⟨rfl, rfl⟩
      go_wp2_with fail
      refine HB4.out.mono ?_
      rintro e w' ⟨rfl, rfl⟩
      clear HBy HB1 HB2 HB3 HB4
      go_wp2_with fail
      go_ret
      exact ⟨rfl, Below.refl _ _⟩
  · have hft : fitT ((ka.length + tot ka) + (va.length + tot va) + (kb.length + tot kb) + (vb.length + tot vb)) = false := by unfold fitT; simpa using hb1
    rw [hft] at HBy
    clear hft hT g1 g2 g3 g4 h1 h2 h3 h4 hb1
    go_enter Tryd.func7, Tryd.ntmps7
    go_wp2_with fail
    refine HBy.out.mono ?_
    rintro e w' ⟨rfl, rfl⟩
    go_wp2_with fail
    go_ret
    exact ⟨rfl, Below.refl _ _⟩
end Go.Proofs.YtbdjddgihnmemaaDoor
