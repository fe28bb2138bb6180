/- The law's trees, at every depth: measured, tested, built, read back. -/
import Derived.Test.YtkabnbopakfknaaDoorPo51
import Derived.Test.YtkabnbopakfknaaDoorBd51
namespace Go.Proofs.YtkabnbopakfknaaDoor
open Go.RowKit
set_option linter.unusedVariables false
set_option linter.unusedSimpArgs false

theorem sB_le (Y : Nat → Nat) (i : Nat) : ∀ n, i < n → Y i ≤ sB Y n
  | 0, h => by omega
  | n + 1, h => by
    by_cases e : i = n
    · subst e; show Y i ≤ sB Y i + Y i; omega
    · have := sB_le Y i n (by omega); show Y i ≤ sB Y n + Y n; omega
theorem seqT_len (Ts : Nat → List UInt8) (Y : Nat → Nat) : ∀ n, (∀ i, i < n → (Ts i).length + 2 ≤ 2 * Y i) → (seqT [44, 32] Ts n).length ≤ 2 * sB Y n
  | 0, _ => by simp [seqT]
  | n + 1, h => by
    have h1 := seqT_len Ts Y n (fun i hi => h i (by omega))
    have h2 := h n (by omega)
    have h3 : (if n = 0 then ([] : List UInt8) else [44, 32]).length ≤ 2 := by split <;> simp
    show (seqT [44, 32] Ts n ++ (if n = 0 then [] else [44, 32]) ++ Ts n).length ≤ 2 * (sB Y n + Y n)
    rw [List.length_append, List.length_append]
    omega
theorem SzC.on {es : List Value} {w W : World} (h : SzC es w) (hb : Below w.heap.size w W) : SzC es W := fun W' hW' => h W' (hb.trans (hW'.mono hb.size))
theorem WfC.on {es : List Value} {v : Bool} {w W : World} (h : WfC es v w) (hb : Below w.heap.size w W) : WfC es v W := fun W' hW' => h W' (hb.trans (hW'.mono hb.size))
theorem BdC.on {es : List Value} {T : List UInt8} {w W : World} (h : BdC es T w) (hb : Below w.heap.size w W) : BdC es T W := fun W' hW' => h W' (hb.trans (hW'.mono hb.size))
/-- Such a tree: it can be measured and tested, and where the test holds, it can be built, and its text read back. -/
def PatG (w : World) (cs : List Value) (b : Nat) : Prop := SzC cs w ∧ ∃ v, WfC cs v w ∧ (v = true → ∃ T : List UInt8, T.length + 2 ≤ 2 * b ∧ 0 < T.length ∧ BdC cs T w ∧ ParC T cs w)
def ElP (a : Option Addr) (i : Nat) (Yi : Nat) (w : World) (y : Bool × List UInt8) : Prop :=
  ∃ g o, a = some ⟨g, o, none⟩ ∧ ∃ es : List Value, es.length = 3 ∧ (∀ j, j < 3 → w.cell? ⟨g, o + i * 3 + j, none⟩ = es[j]?) ∧ WfC es y.1 w ∧ (y.1 = true → y.2.length + 2 ≤ 2 * Yi ∧ 0 < y.2.length ∧ BdC es y.2 w ∧ ParC y.2 es w)
theorem elP_of {a : Option Addr} {l : Nat} {Y : Nat → Nat} {w : World} (h : ArrIn a l (fun i es => PatG w es (Y i)) w) (i : Nat) (hi : i < l) : ∃ y, ElP a i (Y i) w y := by
  obtain ⟨g, o, ha, es, he, hc, _, v, hv, hT⟩ := h i hi
  cases v with
  | false => exact ⟨(false, []), g, o, ha, es, he, hc, hv, fun h => by cases h⟩
  | true =>
    obtain ⟨T, h1, h2, h3, h4⟩ := hT rfl
    exact ⟨(true, T), g, o, ha, es, he, hc, hv, fun _ => ⟨h1, h2, h3, h4⟩⟩
section
variable {H : Type} {enc : TypeId × Value → H}
set_option maxHeartbeats 1000000 in
theorem pat_all (w : World) : ∀ m, ∀ cs b, PatRd enc w m cs b → b ≤ 1048576 → PatG w cs b := by
  intro m
  induction m using Nat.strongRecOn with
  | _ m ih =>
    intro cs b h hb
    have hm := pat_pos h
    obtain ⟨nm, a, a', l, c, l', c', Y, K, av, lv, cv, Z, U, rfl, hs, hl, hl', hZ, r1, r2⟩ := pat_inv h
    have q1 : ArrIn a l (fun i es => PatG w es (Y i)) w := r1.on (Below.refl _ _) (fun i es hi hr => ih (m - 2) (by omega) es (Y i) hr (by have := sB_le Y i l hi; omega))
    have q2 : EntIn a' l' K av lv cv (fun i j es => PatG w es (U i j)) w := r2.on (Below.refl _ _) (fun i j es hi hj hr => ih (m - 4) (by omega) es (U i j) hr (by have := sB_le Z i l' hi; have := (hZ i hi).1; have := sB_le (U i) j (lv i) hj; omega))
    clear r1 r2
    have hKs : ∀ i, i < l' → (K i).size ≤ 1048576 ∧ lv i ≤ 1048576 := fun i hi => by
      have := sB_le Z i l' hi
      have := hZ i hi
      exact ⟨by omega, by omega⟩
    refine ⟨fun W hW bb h0 h1 => budget_any nm a a' l c l' c' K av lv cv bb W (by omega) (by omega) (by omega) hKs h0 h1 (q1.on hW (fun i es hi hq => hq.1.on hW)) (q2.on hW (fun i j es hi hj hq => hq.1.on hW)), ?_⟩
    by_cases hz : (nm.size ≠ 0 ∧ 0 < l) ∨ (nm.size ≠ 0 ∧ 0 < l') ∨ (0 < l ∧ 0 < l')
    · exact ⟨false, fun W hW => wf_two nm a a' l c l' c' W (by omega) (by omega) hz, fun h => by cases h⟩
    by_cases hn : nm.size = 0
    · obtain rfl := empty_str hn
      by_cases hl0 : l = 0
      · subst hl0
        by_cases hl1 : l' = 0
        · subst hl1
          exact ⟨false, fun W hW => wf_zero a a' c c' W, fun h => by cases h⟩
        · have k2 : ∃ F : Nat × Nat → Bool × List UInt8, ∀ p : Nat × Nat, p.1 < l' → p.2 < lv p.1 → ElP (av p.1) p.2 (U p.1 p.2) w (F p) := by
            refine Classical.axiomOfChoice (r := fun (p : Nat × Nat) (y : Bool × List UInt8) => p.1 < l' → p.2 < lv p.1 → ElP (av p.1) p.2 (U p.1 p.2) w y) fun p => ?_
            by_cases hi : p.1 < l'
            · by_cases hj : p.2 < lv p.1
              · obtain ⟨g, o, ha, h1, h2, h3⟩ := q2 p.1 hi
                obtain ⟨y, hy⟩ := elP_of h3 p.2 hj
                exact ⟨y, fun _ _ => hy⟩
              · exact ⟨(false, []), fun _ h => absurd h hj⟩
            · exact ⟨(false, []), fun h => absurd h hi⟩
          obtain ⟨F, hF⟩ := k2
          have ent : ∀ (Q : Nat → Nat → List Value → Prop), (∀ i j, i < l' → j < lv i → ∀ es : List Value, WfC es (F (i, j)).1 w → ((F (i, j)).1 = true → (F (i, j)).2.length + 2 ≤ 2 * U i j ∧ 0 < (F (i, j)).2.length ∧ BdC es (F (i, j)).2 w ∧ ParC (F (i, j)).2 es w) → Q i j es) → EntIn a' l' K av lv cv Q w := by
            intro Q hQ i hi
            obtain ⟨g, o, ha, h1, h2, h3⟩ := q2 i hi
            refine ⟨g, o, ha, h1, h2, fun j hj => ?_⟩
            obtain ⟨g', o', ha', es, he, hc, hv, hT⟩ := hF (i, j) hi hj
            exact ⟨g', o', ha', es, he, hc, hQ i j hi hj es hv hT⟩
          refine ⟨allB (fun i => entOk (K i) (lv i) (F (i, 0)).1) l', fun W hW => wf_obj a a' c l' c' K av lv cv (fun i j => (F (i, j)).1) W (by omega) hKs (by omega) ((ent (fun i j es => WfC es (F (i, j)).1 w) (fun i j hi hj es hv _ => hv)).on hW (fun i j es hi hj hq => hq.on hW)), fun hall => ?_⟩
          have hok : ∀ i, i < l' → (K i).size ≠ 0 ∧ lv i ≤ 1 ∧ allB (kyP (K i)) (K i).size = true ∧ (0 < lv i → (F (i, 0)).1 = true) := by
            intro i hi
            have h1 := allB_true hall i hi
            unfold entOk at h1
            rw [Bool.and_eq_true, Bool.and_eq_true, Bool.and_eq_true, Bool.or_eq_true, decide_eq_true_eq, decide_eq_true_eq, decide_eq_true_eq] at h1
            exact ⟨h1.1.1.1, h1.1.1.2, h1.1.2, fun hp => by rcases h1.2 with h | h; · omega
                                                            · exact h⟩
          refine ⟨[123] ++ seqT [44, 32] (fun i => entT (K i) (lv i) (F (i, 0)).2) l' ++ [125], ?_, by simp, fun W hW => bd_obj a a' c l' c' K av lv cv (fun i => (F (i, 0)).2) W (by omega) (by omega) (fun i hi => ⟨(hok i hi).1, (hKs i hi).2⟩) ((ent (fun i j es => j = 0 → BdC es (F (i, 0)).2 w) ?_).on hW (fun i j es hi hj hq h0 => (hq h0).on hW)), par_obj a a' c l' c' K av lv cv (fun i => (F (i, 0)).2) w (by omega) (by omega) (fun i hi => ⟨(hok i hi).1, (hok i hi).2.1, (hok i hi).2.2.1⟩) (ent (fun i j es => j = 0 → ParC (F (i, 0)).2 es w ∧ 0 < (F (i, 0)).2.length) ?_)⟩
          · have h1 := seqT_len (fun i => entT (K i) (lv i) (F (i, 0)).2) Z l' (fun i hi => by
              have h2 := hZ i hi
              have h3 : (K i).data.toList.length = (K i).size := by rw [Array.length_toList]; rfl
              show (entT (K i) (lv i) (F (i, 0)).2).length + 2 ≤ 2 * Z i
              unfold entT
              rw [List.length_append]
              by_cases hp : 0 < lv i
              · obtain ⟨_, _, _, es, _, _, _, hT⟩ := hF (i, 0) hi hp
                obtain ⟨h4, _⟩ := hT ((hok i hi).2.2.2 hp)
                have h5 := sB_le (U i) 0 (lv i) hp
                have h4' : (F (i, 0)).2.length + 2 ≤ 2 * U i 0 := h4
                rw [if_pos hp, List.length_append]
                simp only [List.length_cons, List.length_nil]
                omega
              · rw [if_neg hp]
                simp only [List.length_nil]
                omega)
            simp only [List.length_append, List.length_cons, List.length_nil]
            omega
          · intro i j hi hj es hv hT h0
            subst h0
            exact (hT ((hok i hi).2.2.2 hj)).2.2.1
          · intro i j hi hj es hv hT h0
            subst h0
            exact ⟨(hT ((hok i hi).2.2.2 hj)).2.2.2, (hT ((hok i hi).2.2.2 hj)).2.1⟩
      · obtain rfl : l' = 0 := by omega
        have k1 : ∃ F : Nat → Bool × List UInt8, ∀ i, i < l → ElP a i (Y i) w (F i) := by
          refine Classical.axiomOfChoice (r := fun i (y : Bool × List UInt8) => i < l → ElP a i (Y i) w y) fun i => ?_
          by_cases hi : i < l
          · obtain ⟨y, hy⟩ := elP_of q1 i hi
            exact ⟨y, fun _ => hy⟩
          · exact ⟨(false, []), fun h => absurd h hi⟩
        obtain ⟨F, hF⟩ := k1
        have arr : ∀ (Q : Nat → List Value → Prop), (∀ i, i < l → ∀ es : List Value, WfC es (F i).1 w → ((F i).1 = true → (F i).2.length + 2 ≤ 2 * Y i ∧ 0 < (F i).2.length ∧ BdC es (F i).2 w ∧ ParC (F i).2 es w) → Q i es) → ArrIn a l Q w := by
          intro Q hQ i hi
          obtain ⟨g', o', ha', es, he, hc, hv, hT⟩ := hF i hi
          exact ⟨g', o', ha', es, he, hc, hQ i hi es hv hT⟩
        refine ⟨allB (fun i => (F i).1) l, fun W hW => wf_arr a a' l c c' (fun i => (F i).1) W (by omega) (by omega) ((arr (fun i es => WfC es (F i).1 w) (fun i hi es hv _ => hv)).on hW (fun i es hi hq => hq.on hW)), fun hall => ?_⟩
        have hok : ∀ i, i < l → (F i).1 = true := fun i hi => allB_true hall i hi
        refine ⟨[91] ++ seqT [44, 32] (fun i => (F i).2) l ++ [93], ?_, by simp, fun W hW => bd_arr a a' l c c' (fun i => (F i).2) W (by omega) (by omega) ((arr (fun i es => BdC es (F i).2 w) (fun i hi es hv hT => (hT (hok i hi)).2.2.1)).on hW (fun i es hi hq => hq.on hW)), par_arr a a' l c c' (fun i => (F i).2) w (by omega) (by omega) (arr (fun i es => ParC (F i).2 es w ∧ 0 < (F i).2.length) (fun i hi es hv hT => ⟨(hT (hok i hi)).2.2.2, (hT (hok i hi)).2.1⟩))⟩
        have h1 := seqT_len (fun i => (F i).2) Y l (fun i hi => by
          obtain ⟨_, _, _, es, _, _, _, hT⟩ := hF i hi
          exact (hT (hok i hi)).1)
        simp only [List.length_append, List.length_cons, List.length_nil]
        omega
    · obtain rfl : l = 0 := by omega
      obtain rfl : l' = 0 := by omega
      have h3 : nm.data.toList.length = nm.size := by rw [Array.length_toList]; rfl
      exact ⟨nameOk nm, fun W hW => wf_name nm a a' c c' W (by omega) hn, fun hok => ⟨nm.data.toList, by omega, by omega, fun W hW => bd_name nm a a' c c' W hn, par_name nm a a' c c' w (by omega) hok⟩⟩
end
end Go.Proofs.YtkabnbopakfknaaDoor
