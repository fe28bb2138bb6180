/- The law's reader on an array (under way). -/
import Derived.Test.YtkabnbopakfknaaDoorGt51
namespace Go.Proofs.YtkabnbopakfknaaDoor
open Go.RowKit
set_option linter.unusedVariables false
set_option linter.unusedSimpArgs false

def PaRel (Ts : Nat → List UInt8) (es : Nat → List Value) (l p R : Nat) (w W : World) (v1 v9 : Value) (wr : World) : Prop :=
  ∃ (i : Nat) (v : Value) (xs : List Value), i < l ∧ v1 = .int .i64 (posT Ts p i : Nat) ∧ v = v9 ∧ Hid (wr.ownsRow (R + 1) 25 3 v i xs) ∧ Hid (Nd R 25 #[.string ⟨#[]⟩, .slice none 0 0, .slice none 0 0] wr) ∧ Hid (Got v xs i (R + 1) es w wr) ∧ R + 1 ≤ wr.heap.size ∧ Below R W wr
set_option maxHeartbeats 2000000 in
set_option maxRecDepth 100000 in
theorem par_arr (a a' : Option Addr) (l c c' : Nat) (Ts : Nat → List UInt8) (w : World) (hl : l ≤ 1048576) (h0 : 0 < l) (hE : ArrIn a l (fun i es => ParC (Ts i) es w ∧ 0 < (Ts i).length) w) : ParC ([91] ++ seqT [44, 32] Ts l ++ [93]) [.string ⟨#[]⟩, .slice a l c, .slice a' 0 c'] w := by
  intro s pre post hs hsz hpost W hW
  have hsize := size_of hs
  have hb91 : byteN s pre.length = 91 := byteN_at_mid (B := seqT [44, 32] Ts l ++ [93] ++ post) (b := 91) (by rw [hs]; simp [List.append_assoc])
  have hlen : ([91] ++ seqT [44, 32] Ts l ++ [93]).length = (seqT [44, 32] Ts l).length + 2 := by simp
  rw [hlen] at hsize ⊢
  obtain ⟨p, hp⟩ : ∃ p, pre.length = p := ⟨_, rfl⟩
  rw [hp] at hsize hb91 ⊢
  have h0lt : p < s.size := by omega
  have hi0 : (((s[p]'h0lt).toNat : Nat) : Int) = 91 := by rw [← byteN_at h0lt, hb91]; rfl
  have hd0 : decide ((s.size : Int) ≤ (p : Int)) = false := by simp; omega
  have hd1 : decide (s.size ≤ p) = false := by simp; omega
  have HS := Lib.hid hs
  have HPO := Lib.hid hpost
  have HSZ := Lib.hid hsize
  have HWW := Lib.hid hW
  have HPP := Lib.hid hp
  have HE := Lib.hid hE
  clear hs hpost hb91 hW hp hsize hlen hE
  go_enter Tryd.func10, Tryd.ntmps10
  go_wp2_with fail
  clear hi0
  obtain ⟨R, hR⟩ : ∃ R, W.heap.size = R := ⟨_, rfl⟩
  rw [hR]
  obtain ⟨W1, hW1⟩ : ∃ X, X = W.alloc (.cells #[.string ⟨#[]⟩, .slice none 0 0, .slice none 0 0] 25) := ⟨_, rfl⟩
  have hN1 : Nd R 25 #[.string ⟨#[]⟩, .slice none 0 0, .slice none 0 0] W1 := by rw [hW1]; exact Nd.newAt _ _ hR.symm
  have hbw1 : Below R W W1 := by rw [hW1, ← hR]; exact (Below.refl _ _).alloc (Nat.le_refl _) _
  have hz1 : W1.heap.size = R + 1 := by rw [hW1, size_alloc, hR]
  rw [← hW1]
  have HR := Lib.hid hR
  clear hR hW1
  have hES : ∃ es : Nat → List Value, ∀ i, i < l → (es i).length = 3 ∧ ParC (Ts i) (es i) w ∧ 0 < (Ts i).length ∧ ∃ g o, a = some ⟨g, o, none⟩ ∧ ∀ j, j < 3 → w.cell? ⟨g, o + i * 3 + j, none⟩ = (es i)[j]? := by
    refine Classical.axiomOfChoice (r := fun i (es : List Value) => i < l → es.length = 3 ∧ ParC (Ts i) es w ∧ 0 < (Ts i).length ∧ ∃ g o, a = some ⟨g, o, none⟩ ∧ ∀ j, j < 3 → w.cell? ⟨g, o + i * 3 + j, none⟩ = es[j]?) fun i => ?_
    by_cases hi : i < l
    · obtain ⟨g, o, ha, es, he, hc, hp, ht⟩ := HE.out i hi
      exact ⟨es, fun _ => ⟨he, hp, ht, g, o, ha, hc⟩⟩
    · exact ⟨[], fun h => absurd h hi⟩
  obtain ⟨es, hes⟩ := hES
  have HES := Lib.hid hes
  clear hes HE
  go_loopw [1, 9] (PaRel Ts es l p R w W) (fun v _ _ => s.size - (Go.RowKit.intOf v).toNat)
  case atStart => exact ⟨0, .slice none 0 0, [], h0, by unfold posT; simp [seqT, sepT], rfl, Lib.hid (World.ownsRow_nil _ _ _ _), Lib.hid hN1, Lib.hid (fun j hj => by omega), by omega, hbw1⟩
  case round =>
    clear hN1 hbw1 hz1
    obtain ⟨i, v, xs, hi, rfl, rfl, hO, hN, hGt, hRz, hbw⟩ := hrel
    obtain ⟨he3, hpar, hT1, g, o, ha, hc⟩ := HES.out i hi
    obtain ⟨rest, hsp, hr1, hr2⟩ := seqT_split Ts i l hi
    have hs' : s.data.toList = (pre ++ [91] ++ seqT [44, 32] Ts i ++ sepT i) ++ Ts i ++ (rest ++ [93] ++ post) := by rw [HS.out, hsp]; simp [List.append_assoc]
    have hplen : (pre ++ [91] ++ seqT [44, 32] Ts i ++ sepT i).length = posT Ts p i := by unfold posT; rw [← HPP.out]; simp; omega
    have hsz2 := size_of hs'
    rw [hplen] at hsz2
    simp only [List.length_append, List.length_cons, List.length_nil] at hsz2
    have hBw : Below w.heap.size w wr := HWW.out.trans (hbw.mono (by rw [← HR.out]; exact HWW.out.size))
    have HC := hpar s _ _ hs' hsz (post_ok hi hr1 hr2 (by decide)) wr hBw
    rw [hplen] at HC
    obtain ⟨q, hq⟩ : ∃ q, posT Ts p i = q := ⟨_, rfl⟩
    rw [hq] at HC hsz2 ⊢
    have hql : q < s.size := by omega
    have HC := Lib.hid HC
    have HSP := Lib.hid hsp
    have HR1 := Lib.hid hr1
    have HR2 := Lib.hid hr2
    have HS' := Lib.hid hs'
    have HPL := Lib.hid hplen
    have HQ := Lib.hid hq
    have HZ2 := Lib.hid hsz2
    clear hpar hc hsp hr1 hr2 hs' hplen hq hsz2
    go_wp2_with fail
    refine HC.out.mono ?_
    rintro e w1 ⟨x0, x1, x2, ⟨u0, u1, u2⟩, rfl, hb1, hM1⟩
    have hz1 := hb1.size
    have st0 := st_new Tryd.prog w1 25 #[.string ⟨#[]⟩, .slice none 0 0, .slice none 0 0] 0 x0 (by decide) u0
    have st1 := st_new Tryd.prog w1 25 #[x0, .slice none 0 0, .slice none 0 0] 1 x1 (by show 1 < 3; decide) u1
    have st2 := st_new Tryd.prog w1 25 #[x0, x1, .slice none 0 0] 2 x2 (by show 2 < 3; decide) u2
    replace st0 : Sem.run Tryd.prog (store ⟨w1.heap.size, 0, none⟩ x0) (w1.alloc (.cells #[.string ⟨#[]⟩, .slice none 0 0, .slice none 0 0] 25)) = .ok () (w1.alloc (.cells #[x0, .slice none 0 0, .slice none 0 0] 25)) := st0
    replace st1 : Sem.run Tryd.prog (store ⟨w1.heap.size, 1, none⟩ x1) (w1.alloc (.cells #[x0, .slice none 0 0, .slice none 0 0] 25)) = .ok () (w1.alloc (.cells #[x0, x1, .slice none 0 0] 25)) := st1
    replace st2 : Sem.run Tryd.prog (store ⟨w1.heap.size, 2, none⟩ x2) (w1.alloc (.cells #[x0, x1, .slice none 0 0] 25)) = .ok () (w1.alloc (.cells #[x0, x1, x2] 25)) := st2
    have hbO : Below w1.heap.size w1 (w1.alloc (.cells #[x0, x1, x2] 25)) := (Below.refl _ _).alloc (Nat.le_refl _) _
    have hb1' := hb1.trans (hbO.mono hz1)
    have hM1' : EqM wr.heap.size (w1.alloc (.cells #[x0, x1, x2] 25)).heap.size [x0, x1, x2] (es i) w (w1.alloc (.cells #[x0, x1, x2] 25)) := (hM1.same (Same.below hbO (Nat.le_refl _))).wide (Nat.le_refl _) hbO.size
    obtain ⟨v', w2, hap, ho2, hg2, hb2, hob2⟩ := app_tree (row_below hO.out hb1' (Nat.le_refl _)) x0 x1 x2 u0 u1 u2 (by rw [size_alloc]; omega) (by omega)
    rw [size_alloc] at hap
    have hG3 := got_next hGt.out hO.out hb1' hM1' hg2 hob2 (by omega)
    have hN2 : Nd R 25 #[.string ⟨#[]⟩, .slice none 0 0, .slice none 0 0] w2 := ((hN.out).below hb1' (by omega)).below hb2 (by omega)
    have hbw2 : Below R W w2 := (hbw.trans (hb1'.mono (by omega))).trans (hb2.mono (by omega))
    have hz3 : R + 1 ≤ w2.heap.size := by have := hb2.size; have := hb1'.size; omega
    obtain ⟨g2, cap2, hv2⟩ : ∃ g cap, v' = .slice (some ⟨g, 0, none⟩) (i + 1) cap := by
      rcases ho2.2 with ⟨_, hn⟩ | ⟨g, cap, cur, hv, _⟩
      · omega
      · exact ⟨g, cap, hv⟩
    subst hv2
    obtain ⟨k, hk⟩ : ∃ k, q + (Ts i).length = k := ⟨_, rfl⟩
    rw [hk]
    have HO2 := Lib.hid ho2
    have HG3 := Lib.hid hG3
    have HN2 := Lib.hid hN2
    have HBW2 := Lib.hid hbw2
    clear ho2 hg2 hb2 hob2 hM1 hb1 HC hG3 hN2 hbw2 hbO hb1' hM1'
    by_cases e : i + 1 = l
    · have hkl : k < s.size := by have := HZ2.out; omega
      have hb93 : byteN s k = 93 := by
        have h1 := byteN_at_mid (s := s) (A := pre ++ [91] ++ seqT [44, 32] Ts i ++ sepT i ++ Ts i) (B := post) (b := 93) (by rw [HS'.out, HR1.out e]; simp [List.append_assoc])
        rw [List.length_append, HPL.out, HQ.out, hk] at h1
        exact h1
      have hik : (((s[k]'hkl).toNat : Nat) : Int) = 93 := by rw [← byteN_at hkl, hb93]; rfl
      have hdk0 : decide ((k : Int) < (s.size : Int)) = true := by simp; omega
      have hdk1 : decide (k < s.size) = true := by simp; omega
      clear hb93
      subst e
      have n3 := HN2.out.set 0 (.string ⟨#[]⟩)
      have n4 := n3.set 1 (.slice (some ⟨g2, 0, none⟩) (i + 1) cap2)
      have n5 := n4.set 2 (.slice none 0 0)
      have c0 := HN2.out.cell 0 (v := .string ⟨#[]⟩) rfl
      have f0 := HN2.out.free 0
      have c1 := n3.cell 1 (v := .slice none 0 0) rfl
      have f1 := n3.free 1
      have c2 := n4.cell 2 (v := .slice none 0 0) rfl
      have f2 := n4.free 2
      have d0 := n5.cell 0 (v := .string ⟨#[]⟩) rfl
      have d1 := n5.cell 1 (v := .slice (some ⟨g2, 0, none⟩) (i + 1) cap2) rfl
      have d2 := n5.cell 2 (v := .slice none 0 0) rfl
      have e0 := n3.cell 0 (v := .string ⟨#[]⟩) rfl
      have e1 := n4.cell 1 (v := .slice (some ⟨g2, 0, none⟩) (i + 1) cap2) rfl
      clear n3 n4 n5
      go_wp2_with (at_builtin; refine wpList_append_run _ rfl _ _ _ _ rfl _ _ _ rfl rfl _ hap ?_)
      (try simp only [Exit.inBlock, Exit.then])
      refine bodyPost_ret (by simp [results, Tryd.results10, go_sem, e0, d1, d2]; try rfl) rfl ?_
      have hk2 : p + ((seqT [44, 32] Ts (i + 1)).length + 2) = k + 1 := by
        have h1 := congrArg List.length HSP.out
        rw [HR1.out (by first | trivial | rfl)] at h1
        simp only [List.length_append, List.length_nil] at h1
        have h2 := HQ.out
        unfold posT at h2
        omega
      refine ⟨.string ⟨#[]⟩, .slice (some ⟨g2, 0, none⟩) (i + 1) cap2, .slice none 0 0, ⟨rfl, rfl, rfl⟩, ?_, ?_, ?_⟩
      · rw [hk2, Int.natCast_add]; rfl
      · rw [HR.out]
        exact (((HBW2.out).setCell (Nat.le_refl _) _).setCell (Nat.le_refl _) _).setCell (Nat.le_refl _) _
      · rw [HR.out]
        exact arr_eqm hl h0 HO2.out HG3.out ((((Same.refl _ _ _).setCell (.inl (Nat.lt_succ_self _)) _).setCell (.inl (Nat.lt_succ_self _)) _).setCell (.inl (Nat.lt_succ_self _)) _) (by simp only [size_setCell]; exact Nat.le_refl _) (fun j hj => ⟨(HES.out j hj).1, (HES.out j hj).2.2.2⟩)
    · have hil : i + 1 < l := by omega
      obtain ⟨r, hr⟩ := HR2.out hil
      have hkl : k + 1 < s.size := by
        have h1 := HZ2.out
        rw [hr] at h1
        simp only [List.length_append, List.length_cons, List.length_nil] at h1
        omega
      have hb44 : byteN s k = 44 := by
        have h1 := byteN_at_mid (s := s) (A := pre ++ [91] ++ seqT [44, 32] Ts i ++ sepT i ++ Ts i) (B := [32] ++ r ++ [93] ++ post) (b := 44) (by rw [HS'.out, hr]; simp [List.append_assoc])
        rw [List.length_append, HPL.out, HQ.out, hk] at h1
        exact h1
      have hb32 : byteN s (k + 1) = 32 := by
        have h1 := byteN_at_mid (s := s) (A := pre ++ [91] ++ seqT [44, 32] Ts i ++ sepT i ++ Ts i ++ [44]) (B := r ++ [93] ++ post) (b := 32) (by rw [HS'.out, hr]; simp [List.append_assoc])
        rw [List.length_append, List.length_append, HPL.out, HQ.out, hk] at h1
        exact h1
      have hkl0 : k < s.size := by omega
      have hik : (((s[k]'hkl0).toNat : Nat) : Int) = 44 := by rw [← byteN_at hkl0, hb44]; rfl
      have hik1 : (((s[k + 1]'hkl).toNat : Nat) : Int) = 32 := by rw [← byteN_at hkl, hb32]; rfl
      have hdk0 : decide ((k : Int) < (s.size : Int)) = true := by simp; omega
      have hdk1 : decide (k < s.size) = true := by simp; omega
      have hdk2 : decide ((k : Int) + 1 < (s.size : Int)) = true := by simp; omega
      have hdk3 : decide (k + 1 < s.size) = true := by simp; omega
      have HR3 := Lib.hid hr
      clear hb44 hb32 hr
      go_wp2_with (at_builtin; refine wpList_append_run _ rfl _ _ _ _ rfl _ _ _ rfl rfl _ hap ?_)
      go_roundw
      case rel => exact ⟨i + 1, _, _, hil, by rw [show posT Ts p (i + 1) = k + 2 from by have h2 := HQ.out; unfold posT at h2 ⊢; rw [← hk, ← h2]; simp [seqT, sepT]; omega]; go_num, rfl, HO2, HN2, HG3, by omega, HBW2.out⟩
      case measure => simp [Go.RowKit.intOf]; omega
end Go.Proofs.YtkabnbopakfknaaDoor
