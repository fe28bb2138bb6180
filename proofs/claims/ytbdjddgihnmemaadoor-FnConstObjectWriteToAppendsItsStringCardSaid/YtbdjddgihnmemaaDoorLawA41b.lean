/- The law FnConstObjectWriteToAppendsItsString: every input. -/
import Derived.Test.YtbdjddgihnmemaaDoorLawA41
namespace Go.Proofs.YtbdjddgihnmemaaDoor
open Go.RowKit

set_option maxHeartbeats 4000000 in
set_option maxRecDepth 100000 in
theorem lawA (p : ByteArray) (v1 v2 : Value) (ks vs : List ByteArray) (w : World) (hT : Lib.Utf8Tabs 0 1 w) (hp : p.size ≤ maxLen) (h1 : Sl v1 (ks.map Value.string) w) (g1 : ∀ s ∈ ks, s.size ≤ maxLen) (h2 : Sl v2 (vs.map Value.string) w) (g2 : ∀ s ∈ vs, s.size ≤ maxLen) :
    Calls Tryd.prog 5 #[.string p, v1, v2] w fun e w' => e = .returned (.bool true) ∧ Below w.heap.size w w' := by
  have HBy := Lib.hid (bytes_FnConstObjectWriteToAppendsItsString p v1 ks v2 vs w hp h1 g1 h2 g2)
  by_cases hb1 : p.size + (ks.length + tot ks) + (vs.length + tot vs) ≤ 1048576
  · have hft : fitT (p.size + (ks.length + tot ks) + (vs.length + tot vs)) = true := by unfold fitT; simpa using hb1
    by_cases n1 : ks.length ≤ 65536
    · by_cases n2 : vs.length ≤ 65536
      · by_cases hb2 : p.size + (16 * ks.length + tot ks) + (16 * vs.length + tot vs) ≤ 1048576
        · exact lawA_good p v1 v2 ks vs w hT hp h1 g1 h2 g2 n1 n2 hb1 hb2
        · rw [hft] at HBy
          have HB1 := Lib.hid (strsBytes_any v1 ks w h1 (by omega) n1)
          have HB2 := Lib.hid (strsBytes_any v2 vs w h2 (by omega) n2)
          obtain ⟨q1, hq1⟩ : ∃ q, q = capS (16 * ks.length + tot ks) := ⟨_, rfl⟩
          obtain ⟨q2, hq2⟩ : ∃ q, q = capS (16 * vs.length + tot vs) := ⟨_, rfl⟩
          rw [← hq1] at HB1
          rw [← hq2] at HB2
          have hq : 1048576 < p.size + q1 + q2 ∧ q1 ≤ 1048577 ∧ q2 ≤ 1048577 := by
            rw [hq1, hq2]; unfold capS
            split <;> split <;> omega
          obtain ⟨hqa, hqb, hqc⟩ := hq
          have hps : p.size ≤ 1048576 := by omega
          obtain ⟨a1, c1, e1, _⟩ := h1
          obtain ⟨a2, c2, e2, _⟩ := h2
          rw [List.length_map] at e1 e2
          subst e1 e2
          clear hft hT g1 g2 hp hq1 hq2 hb1 hb2
          go_enter Tryd.func5, Tryd.ntmps5
          go_wp2_with fail
          refine HBy.out.mono ?_
          rintro e w' ⟨rfl, rfl⟩
          go_wp2_with fail
          refine HB1.out.mono ?_
          rintro e w' ⟨rfl, rfl⟩
          go_wp2_with fail
          refine HB2.out.mono ?_
          rintro e w' ⟨rfl, rfl⟩
          clear HBy HB1 HB2
          go_wp2_with fail
          go_ret
          exact ⟨rfl, Below.refl _ _⟩
      · rw [hft] at HBy
        obtain ⟨a1, c1, e1, _⟩ := h1
        obtain ⟨a2, c2, e2, _⟩ := h2
        rw [List.length_map] at e1 e2
        subst e1 e2
        have hps : p.size ≤ 1048576 := by omega
        have hvl : vs.length ≤ 1048576 := by omega
        clear hft hT g1 g2 hp hb1
        go_enter Tryd.func5, Tryd.ntmps5
        go_wp2_with fail
        refine HBy.out.mono ?_
        rintro e w' ⟨rfl, rfl⟩
        go_wp2_with fail
        go_ret
        exact ⟨rfl, Below.refl _ _⟩
    · rw [hft] at HBy
      obtain ⟨a1, c1, e1, _⟩ := h1
      obtain ⟨a2, c2, e2, _⟩ := h2
      rw [List.length_map] at e1 e2
      subst e1 e2
      have hps : p.size ≤ 1048576 := by omega
      have hvl : vs.length ≤ 1048576 := by omega
      have hkl : ks.length ≤ 1048576 := by omega
      clear hft hT g1 g2 hp hb1
      go_enter Tryd.func5, Tryd.ntmps5
      go_wp2_with fail
      refine HBy.out.mono ?_
      rintro e w' ⟨rfl, rfl⟩
      go_wp2_with fail
      go_ret
      exact ⟨rfl, Below.refl _ _⟩
  · have hft : fitT (p.size + (ks.length + tot ks) + (vs.length + tot vs)) = false := by unfold fitT; simpa using hb1
    rw [hft] at HBy
    clear hft hT g1 g2 hp h1 h2 hb1
    go_enter Tryd.func5, Tryd.ntmps5
    go_wp2_with fail
    refine HBy.out.mono ?_
    rintro e w' ⟨rfl, rfl⟩
    go_wp2_with fail
    go_ret
    exact ⟨rfl, Below.refl _ _⟩
end Go.Proofs.YtbdjddgihnmemaaDoor
