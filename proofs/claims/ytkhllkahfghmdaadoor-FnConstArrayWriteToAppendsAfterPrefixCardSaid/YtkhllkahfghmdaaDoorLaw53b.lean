/- FnConstArrayWriteToAppendsAfterPrefix: every input. -/
import Derived.Test.YtkhllkahfghmdaaDoorLaw53
namespace Go.Proofs.YtkhllkahfghmdaaDoor
open Go.RowKit

set_option maxHeartbeats 4000000 in
set_option maxRecDepth 100000 in
theorem law53 (p : ByteArray) (v1 v2 v3 : Value) (ns : List ByteArray) (zs : List Int) (ss : List ByteArray) (w : World) (hT : Lib.Utf8Tabs 0 1 w) (hp : p.size ≤ maxLen) (h1 : Sl v1 (ns.map Value.string) w) (g1 : ∀ s ∈ ns, s.size ≤ maxLen) (h2 : Sl v2 (zs.map (Value.int .u8)) w) (h3 : Sl v3 (ss.map Value.string) w) (g3 : ∀ s ∈ ss, s.size ≤ maxLen) :
    Calls Tryd.prog 3 #[.string p, v1, v2, v3] w fun e w' => e = .returned (.bool true) ∧ Below w.heap.size w w' := by
  have HBy := Lib.hid (bytes_FnConstArrayWriteToAppendsAfterPrefix p v1 ns v2 (zs.map (Value.int .u8)) v3 ss w hp h1 g1 h2 h3 g3)
  by_cases hb1 : p.size + (ns.length + tot ns) + (zs.map (Value.int .u8)).length + (ss.length + tot ss) ≤ 1048576
  · by_cases hgood : (zs.length = ns.length ∧ ss.length = ns.length ∧ ns.length ≤ 65536) ∧ p.size + (16 * ns.length + tot ns) + ns.length + (16 * ns.length + tot ss) ≤ 1048576
    · obtain ⟨⟨hz, hsn, hn⟩, hb2⟩ := hgood
      exact law53_good p v1 v2 v3 ns zs ss w hT hp h1 g1 h2 h3 g3 hz hsn hn hb1 hb2
    · have hft : fitT (p.size + (ns.length + tot ns) + (zs.map (Value.int .u8)).length + (ss.length + tot ss)) = true := by unfold fitT; simpa using hb1
      rw [hft] at HBy
      have HB1 := Lib.hid (strBytes_any v1 ns w h1 (by omega))
      have HB3 := Lib.hid (strBytes_any v3 ss w h3 (by omega))
      obtain ⟨a1, c1, e1, _⟩ := h1
      obtain ⟨a2, c2, e2, _⟩ := h2
      obtain ⟨a3, c3, e3, _⟩ := h3
      rw [List.length_map] at e1 e2 e3 hb1
      subst e1 e2 e3
      have HG := Lib.hid hgood
      clear hft hT g1 g3 hp hgood
      by_cases k1 : ns.length ≤ 65536
      · by_cases k2 : zs.length ≤ 65536
        · by_cases k3 : ss.length ≤ 65536
          · go_enter Tryd.func3, Tryd.ntmps3
            go_wp2_with fail
            refine HBy.out.mono ?_
            rintro e w' ⟨rfl, rfl⟩
            go_wp2_with fail
            refine HB1.out.mono ?_
            rintro e w' ⟨q1, rfl, hq1, rfl⟩
            have HQ1 := Lib.hid hq1
            have hq1' : q1 ≤ 40000000 := by omega
            clear hq1
            go_wp2_with fail
            refine HB3.out.mono ?_
            rintro e w' ⟨q3, rfl, hq3, rfl⟩
            have HQ3 := Lib.hid hq3
            have hq3' : q3 ≤ 40000000 := by omega
            clear hq3 HBy HB1 HB3
            by_cases hsum : p.size + q1 + zs.length + q3 ≤ 1048576
            · have hne : ¬ (ns.length = zs.length ∧ ss.length = zs.length) := by
                rintro ⟨e1, e2⟩
                apply HG.out
                have h1 := HQ1.out
                have h3 := HQ3.out
                refine ⟨⟨by omega, by omega, by omega⟩, ?_⟩
                rcases h1 with ⟨h1, rfl⟩ | h1
                · rcases h3 with ⟨h3, rfl⟩ | h3
                  · rw [e2] at hsum; rw [e1]; rw [e1] at hsum; omega
                  · omega
                · omega
              by_cases e1 : ns.length = zs.length
              · have e2 : ¬ ss.length = zs.length := fun e2 => hne ⟨e1, e2⟩
                have b1 : ((ns.length : Int) != (zs.length : Int)) = false := by simp; omega
                have b2 : ((ss.length : Int) != (zs.length : Int)) = true := by simp; omega
                clear hne e1 e2 HG
                go_wp2_with fail
                go_ret
                exact ⟨rfl, Below.refl _ _⟩
              · have b1 : ((ns.length : Int) != (zs.length : Int)) = true := by simp; omega
                clear hne e1 HG
                go_wp2_with fail
                go_ret
                exact ⟨rfl, Below.refl _ _⟩
            · clear HG
              go_wp2_with fail
              go_ret
              exact ⟨rfl, Below.refl _ _⟩
          · clear HB1 HB3 HG
            go_enter Tryd.func3, Tryd.ntmps3
            go_wp2_with fail
            refine HBy.out.mono ?_
            rintro e w' ⟨rfl, rfl⟩
            go_wp2_with fail
            go_ret
            exact ⟨rfl, Below.refl _ _⟩
        · clear HB1 HB3 HG
          go_enter Tryd.func3, Tryd.ntmps3
          go_wp2_with fail
          refine HBy.out.mono ?_
          rintro e w' ⟨rfl, rfl⟩
          go_wp2_with fail
          go_ret
          exact ⟨rfl, Below.refl _ _⟩
      · clear HB1 HB3 HG
        go_enter Tryd.func3, Tryd.ntmps3
        go_wp2_with fail
        refine HBy.out.mono ?_
        rintro e w' ⟨rfl, rfl⟩
        go_wp2_with fail
        go_ret
        exact ⟨rfl, Below.refl _ _⟩
  · have hft : fitT (p.size + (ns.length + tot ns) + (zs.map (Value.int .u8)).length + (ss.length + tot ss)) = false := by unfold fitT; simpa using hb1
    rw [hft] at HBy
    clear hft hT g1 g3 hp h1 h2 h3 hb1
    go_enter Tryd.func3, Tryd.ntmps3
    go_wp2_with fail
    refine HBy.out.mono ?_
    rintro e w' ⟨rfl, rfl⟩
    go_wp2_with fail
    go_ret
    exact ⟨rfl, Below.refl _ _⟩
end Go.Proofs.YtkhllkahfghmdaaDoor
