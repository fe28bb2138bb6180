/- The law's reader on an object. -/
import Derived.Test.YtkabnbopakfknaaDoorPa51
import Derived.Test.YtkabnbopakfknaaDoorGe51
namespace Go.Proofs.YtkabnbopakfknaaDoor
open Go.RowKit
set_option linter.unusedVariables false
set_option linter.unusedSimpArgs false

def PoRel (Ts : Nat → List UInt8) (K : Nat → ByteArray) (av : Nat → Option Addr) (lv : Nat → Nat) (l p R : Nat) (w W : World) (v1 v13 : Value) (wr : World) : Prop :=
  ∃ (i : Nat) (v : Value) (xs : List Value), i < l ∧ v1 = .int .i64 (posT Ts p i : Nat) ∧ v = v13 ∧ Hid (wr.ownsRow (R + 1) 61 2 v i xs) ∧ Hid (Nd R 25 #[.string ⟨#[]⟩, .slice none 0 0, .slice none 0 0] wr) ∧ Hid (GotE v xs i (R + 1) K av lv w wr) ∧ R + 1 ≤ wr.heap.size ∧ Below R W wr
def PkRel (q n : Nat) (W : World) (vj : Value) (wr : World) : Prop := ∃ t : Nat, t ≤ n ∧ vj = .int .i64 (q + t : Nat) ∧ wr = W
theorem key_head {m : Nat} {V rest post : List UInt8} {i l : Nat} (hi : i < l) (h2 : i + 1 = l → rest = []) (h3 : i + 1 < l → ∃ r, rest = [44, 32] ++ r) : ∃ c, ((if 0 < m then [58, 32] ++ V else []) ++ rest ++ [125] ++ post).head? = some c ∧ keyN c.toNat = false ∧ (m = 0 → (i + 1 = l → c = 125) ∧ (i + 1 < l → c = 44)) ∧ (0 < m → c = 58) := by
  by_cases hm : 0 < m
  · rw [if_pos hm]
    exact ⟨58, rfl, by decide, fun h => by omega, fun _ => rfl⟩
  · rw [if_neg hm]
    by_cases e : i + 1 = l
    · rw [h2 e]
      exact ⟨125, rfl, by decide, fun _ => ⟨fun _ => rfl, fun h => by omega⟩, fun h => by omega⟩
    · obtain ⟨r, hr⟩ := h3 (by omega)
      rw [hr]
      exact ⟨44, rfl, by decide, fun _ => ⟨fun h => by omega, fun _ => rfl⟩, fun h => by omega⟩
set_option maxHeartbeats 40000000 in
set_option maxRecDepth 100000 in
theorem par_obj (a a' : Option Addr) (c l' c' : Nat) (K : Nat → ByteArray) (av : Nat → Option Addr) (lv cv : Nat → Nat) (Vs : Nat → List UInt8) (w : World) (hl : l' ≤ 1048576) (h0 : 0 < l') (hK : ∀ i, i < l' → (K i).size ≠ 0 ∧ lv i ≤ 1 ∧ allB (kyP (K i)) (K i).size = true) (hE : EntIn a' l' K av lv cv (fun i j es => j = 0 → ParC (Vs i) es w ∧ 0 < (Vs i).length) w) :
    ParC ([123] ++ seqT [44, 32] (fun i => entT (K i) (lv i) (Vs i)) l' ++ [125]) [.string ⟨#[]⟩, .slice a 0 c, .slice a' l' c'] w := by
  obtain ⟨Ts, hTs⟩ : ∃ Ts : Nat → List UInt8, Ts = fun i => entT (K i) (lv i) (Vs i) := ⟨_, rfl⟩
  rw [← hTs]
  have HTS := Lib.hid hTs
  clear hTs
  intro s pre post hs hsz hpost W hW
  have hsize := size_of hs
  have hb91 : byteN s pre.length = 123 := byteN_at_mid (B := seqT [44, 32] Ts l' ++ [125] ++ post) (b := 123) (by rw [hs]; simp [List.append_assoc])
  have hlen : ([123] ++ seqT [44, 32] Ts l' ++ [125]).length = (seqT [44, 32] Ts l').length + 2 := by simp
  rw [hlen] at hsize ⊢
  obtain ⟨p, hp⟩ : ∃ p, pre.length = p := ⟨_, rfl⟩
  rw [hp] at hsize hb91 ⊢
  have h0lt : p < s.size := by omega
  have hi0 : (((s[p]'h0lt).toNat : Nat) : Int) = 123 := by rw [← byteN_at h0lt, hb91]; rfl
  have hd0 : decide ((s.size : Int) ≤ (p : Int)) = false := by simp; omega
  have hd1 : decide (s.size ≤ p) = false := by simp; omega
  have HS := Lib.hid hs
  have HPO := Lib.hid hpost
  have HSZ := Lib.hid hsize
  have HWW := Lib.hid hW
  have HPP := Lib.hid hp
  have HE := Lib.hid hE
  have HK := Lib.hid hK
  clear hs hpost hb91 hW hp hsize hlen hE hK
  go_enter Tryd.func10, Tryd.ntmps10
  go_wp2_with fail
  clear hi0
  obtain ⟨R, hR⟩ : ∃ R, W.heap.size = R := ⟨_, rfl⟩
  rw [hR]
  obtain ⟨W1, hW1⟩ : ∃ X, X = W.alloc (.cells #[.string ⟨#[]⟩, .slice none 0 0, .slice none 0 0] 25) := ⟨_, rfl⟩
  have hN1 : Nd R 25 #[.string ⟨#[]⟩, .slice none 0 0, .slice none 0 0] W1 := by rw [hW1]; exact Nd.newAt _ _ hR.symm
  have hbw1 : Below R W W1 := by rw [hW1, ← hR]; exact (Below.refl _ _).alloc (Nat.le_refl _) _
  have hz1 : W1.heap.size = R + 1 := by rw [hW1, size_alloc, hR]
  rw [← hW1]
  have HR := Lib.hid hR
  clear hR hW1
  go_loopw [1, 13] (PoRel Ts K av lv l' p R w W) (fun v _ _ => s.size - (Go.RowKit.intOf v).toNat)
  case atStart => exact ⟨0, .slice none 0 0, [], h0, by unfold posT; simp [seqT, sepT], rfl, Lib.hid (World.ownsRow_nil _ _ _ _), Lib.hid hN1, Lib.hid (fun j hj => by omega), by omega, hbw1⟩
  case round =>
    clear hN1 hbw1 hz1
    obtain ⟨i, v, xs, hi, rfl, rfl, hO, hN, hGt, hRz, hbw⟩ := hrel
    obtain ⟨hk0, hlv, hka⟩ := HK.out i hi
    obtain ⟨g, o, ha, _, _, hval⟩ := HE.out i hi
    obtain ⟨rest, hsp, hr1, hr2⟩ := seqT_split Ts i l' hi
    obtain ⟨k, hke⟩ : ∃ k, K i = k := ⟨_, rfl⟩
    have hTi : Ts i = k.data.toList ++ (if 0 < lv i then [58, 32] ++ Vs i else []) := by rw [HTS.out, ← hke]; rfl
    have hs' : s.data.toList = (pre ++ [123] ++ seqT [44, 32] Ts i ++ sepT i) ++ k.data.toList ++ ((if 0 < lv i then [58, 32] ++ Vs i else []) ++ rest ++ [125] ++ post) := by rw [HS.out, hsp, hTi]; simp only [List.append_assoc]
    have hplen : (pre ++ [123] ++ seqT [44, 32] Ts i ++ sepT i).length = posT Ts p i := by unfold posT; rw [← HPP.out]; simp; omega
    have hsz2 := size_of hs'
    rw [hplen] at hsz2
    have hkl : k.data.toList.length = k.size := by rw [Array.length_toList]; rfl
    rw [hkl] at hsz2
    simp only [List.length_append, List.length_cons, List.length_nil] at hsz2
    have hBw : Below w.heap.size w wr := HWW.out.trans (hbw.mono (by rw [← HR.out]; exact HWW.out.size))
    obtain ⟨ch, hch, hck, hch1, hch2⟩ := key_head (m := lv i) (V := Vs i) (post := post) hi hr1 hr2
    obtain ⟨q, hq⟩ : ∃ q, posT Ts p i = q := ⟨_, rfl⟩
    have hpost := byteN_post hs' hch
    have hmid := byteN_mid hs'
    rw [hplen, hq] at hmid
    rw [hplen, hq, hkl] at hpost
    have hex := extract_mid hs' (hplen.trans hq)
    rw [hq] at hsz2 ⊢
    rw [hke] at hk0 hka
    have hql : q + k.size < s.size := by omega
    obtain ⟨n, hn⟩ : ∃ n, k.size = n := ⟨_, rfl⟩
    rw [hn] at hk0 hka hex hpost hmid hsz2 hql
    obtain ⟨kn, hkn⟩ : ∃ x, q + n = x := ⟨_, rfl⟩
    rw [hkn] at hex hpost hsz2 hql
    have hdq0 : decide ((q : Int) < (s.size : Int)) = true := by simp; omega
    have hdq1 : decide (q < s.size) = true := by simp; omega
    have hnk : ((kn : Int) == (q : Int)) = false := by simp; omega
    have hnk1 : (kn == q) = false := by simp; omega
    have HSP := Lib.hid hsp
    have HR1 := Lib.hid hr1
    have HR2 := Lib.hid hr2
    have HS' := Lib.hid hs'
    have HPL := Lib.hid hplen
    have HQ := Lib.hid hq
    have HZ2 := Lib.hid hsz2
    have HKE := Lib.hid hke
    have HTI := Lib.hid hTi
    have HCK := Lib.hid hck
    have HC1 := Lib.hid hch1
    have HC2 := Lib.hid hch2
    have HCH := Lib.hid hch
    have HVAL := Lib.hid hval
    have HMID := Lib.hid hmid
    have HPOST := Lib.hid hpost
    have HKA := Lib.hid hka
    have HBW := Lib.hid hBw
    have HKL := Lib.hid hkl
    have HN0 := Lib.hid hn
    have HEX := Lib.hid hex
    clear hsp hr1 hr2 hs' hplen hq hsz2 hke hTi hck hch1 hch2 hch hval hmid hpost hka hBw hkl hn hex
    go_wp2_with fail
    go_loopw [14] (PkRel q n wr) (fun v _ => s.size - (Go.RowKit.intOf v).toNat)
    case atStart => exact ⟨0, by omega, by rw [Nat.add_zero], rfl⟩
    case round =>
      obtain ⟨t, ht, rfl, rfl⟩ := hrel
      by_cases hlt : t < n
      · have hjt : q + t < s.size := by omega
        obtain ⟨y, hye⟩ : ∃ y, byteN k t = y := ⟨_, rfl⟩
        have hy : byteN s (q + t) = y := by rw [← hye]; exact HMID.out t hlt
        rw [byteN_at hjt] at hy
        have hid : keyN y = true := by
          have := allB_true HKA.out t hlt
          unfold kyP at this
          rw [hye] at this
          exact this
        have hy0 : (((s[q + t]'hjt).toNat : Nat) : Int) = (y : Int) := by rw [hy]
        have HC := Lib.hid (key_any y (by rw [← hye]; exact byteN_le k t) wr)
        rw [hid] at HC
        clear hid hye
        go_wp2_with fail
        refine HC.out.mono ?_
        rintro e w1 ⟨rfl, rfl⟩
        go_wp2_with fail
        go_roundw
        case rel => exact ⟨t + 1, by omega, by go_num, rfl⟩
        case measure => first | omega | (simp; omega) | (simp [Go.RowKit.intOf]; omega)
      · obtain rfl : t = n := by omega
        rw [hkn]
        obtain ⟨y, hye⟩ : ∃ y, ch.toNat = y := ⟨_, rfl⟩
        have hy := HPOST.out
        rw [hye, byteN_at hql] at hy
        have hid := HCK.out
        rw [hye] at hid
        have hy0 : (((s[kn]'hql).toNat : Nat) : Int) = (y : Int) := by rw [hy]
        have HC := Lib.hid (key_any y (by rw [← hye]; have := UInt8.toNat_lt ch; omega) wr)
        rw [hid] at HC
        have HYE := Lib.hid hye
        have hex := HEX.out
        clear hid hye
        have hkd0 : decide ((kn : Int) < (s.size : Int)) = true := by simp; omega
        have hkd1 : decide (kn < s.size) = true := by simp; omega
        go_wp2_with fail
        refine HC.out.mono ?_
        rintro e w1 ⟨rfl, hw1⟩
        obtain rfl : wr = w1 := hw1.symm
        clear HC hw1
        by_cases hm0 : lv i = 0
        · have HTL : Hid (q + (Ts i).length = kn) := Lib.hid (by rw [HTI.out, if_neg (by omega), List.append_nil, HKL.out, HN0.out, hkn])
          have hbc : Below wr.heap.size wr (wr.alloc (.cells #[.string k, .slice none 0 0] 61)) := (Below.refl _ _).alloc (Nat.le_refl _) _
          obtain ⟨g2, cap2, w2, hap, ho2, hN2, hG3, hz3, hbw2⟩ := ent_step (c1 := 0) (v1 := none) hO.out hN.out hGt.out hRz hbw hbc (fun W' _ _ j hj => by rw [hm0] at hj; omega) (by omega) HKE.out hm0
          rw [size_alloc] at hap
          have HO2 := Lib.hid ho2
          have HG3 := Lib.hid hG3
          have HN2 := Lib.hid hN2
          have HBW2 := Lib.hid hbw2
          clear ho2 hG3 hN2 hbw2 hbc
          have hcc := HC1.out hm0
          clear hO hN hGt
          by_cases e : i + 1 = l'
          · have hch5 := hcc.1 e
            obtain rfl : y = 125 := by rw [← HYE.out, hch5]; rfl
            clear hcc hch5
            subst e
            have n3 := HN2.out.set 0 (.string ⟨#[]⟩)
            have n4 := n3.set 1 (.slice none 0 0)
            have n5 := n4.set 2 (.slice (some ⟨g2, 0, none⟩) (i + 1) cap2)
            have c0 := HN2.out.cell 0 (v := .string ⟨#[]⟩) rfl
            have f0 := HN2.out.free 0
            have c1 := n3.cell 1 (v := .slice none 0 0) rfl
            have f1 := n3.free 1
            have c2 := n4.cell 2 (v := .slice none 0 0) rfl
            have f2 := n4.free 2
            have d0 := n5.cell 0 (v := .string ⟨#[]⟩) rfl
            have d1 := n5.cell 1 (v := .slice none 0 0) rfl
            have d2 := n5.cell 2 (v := .slice (some ⟨g2, 0, none⟩) (i + 1) cap2) rfl
            have e0 := n3.cell 0 (v := .string ⟨#[]⟩) rfl
            have e1 := n4.cell 1 (v := .slice none 0 0) rfl
            clear n3 n4 n5
            obtain ⟨bb, hbb0, hbb1⟩ : ∃ bb, decide ((kn : Int) + 1 < (s.size : Int)) = bb ∧ decide (kn + 1 < s.size) = bb := ⟨_, rfl, by rw [decide_eq_decide]; omega⟩
            cases bb
            all_goals
              go_wp2_with (at_builtin; refine wpList_append_run _ rfl _ _ _ _ rfl _ _ _ rfl rfl _ hap ?_)
              (try simp only [Exit.inBlock, Exit.then])
              refine bodyPost_ret (by simp [results, Tryd.results10, go_sem, e0, e1, d0, d1, d2]; try rfl) rfl ?_
              have hk2 : p + ((seqT [44, 32] Ts (i + 1)).length + 2) = kn + 1 := by
                have h1 := congrArg List.length HSP.out
                rw [HR1.out (by first | trivial | rfl)] at h1
                simp only [List.length_append, List.length_nil] at h1
                have h2 := HQ.out
                unfold posT at h2
                have h3 := HTL.out
                omega
              refine ⟨.string ⟨#[]⟩, .slice none 0 0, .slice (some ⟨g2, 0, none⟩) (i + 1) cap2, ⟨rfl, rfl, rfl⟩, ?_, ?_, ?_⟩
              · rw [hk2, Int.natCast_add]; rfl
              · rw [HR.out]
                exact (((HBW2.out).setCell (Nat.le_refl _) _).setCell (Nat.le_refl _) _).setCell (Nat.le_refl _) _
              · rw [HR.out]
                exact obj_eqm hl h0 HO2.out HG3.out ((((Same.refl _ _ _).setCell (.inl (Nat.lt_succ_self _)) _).setCell (.inl (Nat.lt_succ_self _)) _).setCell (.inl (Nat.lt_succ_self _)) _) (by simp only [size_setCell]; exact Nat.le_refl _) (fun j hj => (HK.out j hj).2.1) HE.out
          · have hch5 := hcc.2 (by omega)
            obtain rfl : y = 44 := by rw [← HYE.out, hch5]; rfl
            clear hcc hch5
            have hil : i + 1 < l' := by omega
            obtain ⟨r, hr⟩ := HR2.out hil
            have hlT : (pre ++ [123] ++ seqT [44, 32] Ts i ++ sepT i ++ Ts i).length = kn := by rw [List.length_append, HPL.out, HQ.out, HTL.out]
            have hs2 : s.data.toList = (pre ++ [123] ++ seqT [44, 32] Ts i ++ sepT i ++ Ts i) ++ [44, 32] ++ (r ++ [125] ++ post) := by rw [HS.out, HSP.out, hr]; simp [List.append_assoc]
            have hb32 : byteN s (kn + 1) = 32 := by
              have h1 := byteN_at_mid (s := s) (A := pre ++ [123] ++ seqT [44, 32] Ts i ++ sepT i ++ Ts i ++ [44]) (B := r ++ [125] ++ post) (b := 32) (by rw [hs2]; simp [List.append_assoc])
              rw [List.length_append, hlT] at h1
              exact h1
            have hkl : kn + 1 < s.size := by
              have h1 := size_of hs2
              rw [hlT] at h1
              simp only [List.length_append, List.length_cons, List.length_nil] at h1
              omega
            have hik1 : (((s[kn + 1]'hkl).toNat : Nat) : Int) = 32 := by rw [← byteN_at hkl, hb32]; rfl
            have hdk2 : decide ((kn : Int) + 1 < (s.size : Int)) = true := by simp; omega
            have hdk3 : decide (kn + 1 < s.size) = true := by simp; omega
            have HR3 := Lib.hid hr
            clear hb32 hr hlT hs2
            go_wp2_with (at_builtin; refine wpList_append_run _ rfl _ _ _ _ rfl _ _ _ rfl rfl _ hap ?_)
            go_roundw
            case rel => exact ⟨i + 1, _, _, hil, by rw [show posT Ts p (i + 1) = kn + 2 from by have h2 := HQ.out; have h3 := HTL.out; unfold posT at h2 ⊢; rw [← h3, ← h2]; simp [seqT, sepT]; omega]; go_num, rfl, HO2, HN2, HG3, by omega, HBW2.out⟩
            case measure => simp [Go.RowKit.intOf]; omega
        · have hm1 : lv i = 1 := by omega
          obtain ⟨gv, ov, hav, es, he3, hcell, hq1⟩ := HVAL.out 0 (by omega)
          obtain ⟨hpar, hV0⟩ := hq1 rfl
          have hch5 := HC2.out (by omega)
          obtain rfl : y = 58 := by rw [← HYE.out, hch5]; rfl
          obtain ⟨k2, hk2v⟩ : ∃ k2, kn + 2 + (Vs i).length = k2 := ⟨_, rfl⟩
          have hTI2 : Ts i = k.data.toList ++ ([58, 32] ++ Vs i) := by rw [HTI.out, if_pos (by omega)]
          have HTL : Hid (q + (Ts i).length = k2) := Lib.hid (by rw [hTI2, ← hk2v, ← hkn]; simp only [List.length_append, List.length_cons, List.length_nil]; rw [HKL.out, HN0.out]; omega)
          have hsv : s.data.toList = (pre ++ [123] ++ seqT [44, 32] Ts i ++ sepT i ++ k.data.toList ++ [58, 32]) ++ Vs i ++ (rest ++ [125] ++ post) := by rw [HS'.out, if_pos (by omega)]; simp only [List.append_assoc]
          have hlp : (pre ++ [123] ++ seqT [44, 32] Ts i ++ sepT i ++ k.data.toList ++ [58, 32]).length = kn + 2 := by
            rw [List.length_append, List.length_append, HPL.out, HQ.out, HKL.out, HN0.out, hkn]; rfl
          have hb32 : byteN s (kn + 1) = 32 := by
            have h1 := byteN_at_mid (s := s) (A := pre ++ [123] ++ seqT [44, 32] Ts i ++ sepT i ++ k.data.toList ++ [58]) (B := Vs i ++ (rest ++ [125] ++ post)) (b := 32) (by rw [hsv]; simp [List.append_assoc])
            rw [List.length_append, List.length_append, HPL.out, HQ.out, HKL.out, HN0.out, hkn] at h1
            exact h1
          have hszv := size_of hsv
          rw [hlp] at hszv
          simp only [List.length_append, List.length_cons, List.length_nil] at hszv
          have hkl : kn + 1 < s.size := by omega
          have hik1 : (((s[kn + 1]'hkl).toNat : Nat) : Int) = 32 := by rw [← byteN_at hkl, hb32]; rfl
          have hdk2 : decide ((kn : Int) + 1 < (s.size : Int)) = true := by simp; omega
          have hdk3 : decide (kn + 1 < s.size) = true := by simp; omega
          have hbE : Below wr.heap.size wr (wr.alloc (.cells #[.string k, .slice none 0 0] 61)) := (Below.refl _ _).alloc (Nat.le_refl _) _
          have HC := hpar s _ _ hsv hsz (post_ok hi HR1.out HR2.out (by decide)) (wr.alloc (.cells #[.string k, .slice none 0 0] 61)) (HBW.out.trans (hbE.mono HBW.out.size))
          rw [hlp, hk2v, size_alloc, show ((kn + 2 : Nat) : Int) = (kn : Int) + 2 from by omega] at HC
          have HC := Lib.hid HC
          have HAV := Lib.hid hav
          have HCELL := Lib.hid hcell
          have HBE := Lib.hid hbE
          have HSZV := Lib.hid hszv
          have HK2V := Lib.hid hk2v
          have HSV := Lib.hid hsv
          clear hav hcell hq1 hpar hch5 hTI2 hsv hlp hb32 hbE hszv hk2v
          go_wp2_with fail
          refine HC.out.mono ?_
          rintro e w1 ⟨y0, y1, y2, ⟨u0, u1, u2⟩, rfl, hb1, hM1⟩
          have hz1 : wr.heap.size + 1 ≤ w1.heap.size := by have := hb1.size; rw [size_alloc] at this; exact this
          have st0 := st_new Tryd.prog w1 25 #[.string ⟨#[]⟩, .slice none 0 0, .slice none 0 0] 0 y0 (by decide) u0
          have st1 := st_new Tryd.prog w1 25 #[y0, .slice none 0 0, .slice none 0 0] 1 y1 (by show 1 < 3; decide) u1
          have st2 := st_new Tryd.prog w1 25 #[y0, y1, .slice none 0 0] 2 y2 (by show 2 < 3; decide) u2
          replace st0 : Sem.run Tryd.prog (store ⟨w1.heap.size, 0, none⟩ y0) (w1.alloc (.cells #[.string ⟨#[]⟩, .slice none 0 0, .slice none 0 0] 25)) = .ok () (w1.alloc (.cells #[y0, .slice none 0 0, .slice none 0 0] 25)) := st0
          replace st1 : Sem.run Tryd.prog (store ⟨w1.heap.size, 1, none⟩ y1) (w1.alloc (.cells #[y0, .slice none 0 0, .slice none 0 0] 25)) = .ok () (w1.alloc (.cells #[y0, y1, .slice none 0 0] 25)) := st1
          replace st2 : Sem.run Tryd.prog (store ⟨w1.heap.size, 2, none⟩ y2) (w1.alloc (.cells #[y0, y1, .slice none 0 0] 25)) = .ok () (w1.alloc (.cells #[y0, y1, y2] 25)) := st2
          have nE1 : Nd wr.heap.size 61 #[.string k, .slice none 0 0] w1 := (Nd.new wr 61 #[.string k, .slice none 0 0]).below hb1 (by omega)
          have nEa := nE1.alloc (.cells #[y0, y1, y2] 25)
          have nEb := nEa.alloc (.cells #[y0, y1, y2] 25)
          have nEc := nEb.set 1 (.slice (some ⟨w1.heap.size + 1, 0, none⟩) 1 1)
          have nV := ((Nd.newAt (p := w1.heap.size + 1) 25 #[y0, y1, y2] (size_alloc w1 (.cells #[y0, y1, y2] 25)).symm).setNe (b := wr.heap.size) (i := 1) (by omega) (.slice (some ⟨w1.heap.size + 1, 0, none⟩) 1 1))
          have hSc : Same (wr.heap.size + 1) w1.heap.size w1 (((w1.alloc (.cells #[y0, y1, y2] 25)).alloc (.cells #[y0, y1, y2] 25)).setCell ⟨wr.heap.size, 1, none⟩ (.slice (some ⟨w1.heap.size + 1, 0, none⟩) 1 1)) := (Same.below (((Below.refl w1.heap.size w1).alloc (Nat.le_refl _) _).alloc (by rw [size_alloc]; omega) _) (Nat.le_refl _)).setCell (.inl (by omega)) _
          have hbc : Below wr.heap.size wr (((w1.alloc (.cells #[y0, y1, y2] 25)).alloc (.cells #[y0, y1, y2] 25)).setCell ⟨wr.heap.size, 1, none⟩ (.slice (some ⟨w1.heap.size + 1, 0, none⟩) 1 1)) := (((HBE.out.trans (hb1.mono (by omega))).alloc (by omega) _).alloc (by rw [size_alloc]; omega) _).setCell (Nat.le_refl _) _
          have hMv := val_arrm hM1 he3 HAV.out HCELL.out hSc (by simp only [size_setCell, size_alloc]; omega) nV (by omega)
          have k0 := nEb.cell 0 (v := .string k) rfl
          have k1 := nEb.cell 1 (v := .slice none 0 0) rfl
          have kf1 := nEb.free 1
          have k2c := nEc.cell 1 (v := .slice (some ⟨w1.heap.size + 1, 0, none⟩) 1 1) rfl
          have k3c := nEc.cell 0 (v := .string k) rfl
          have k4 := nE1.cell 0 (v := .string k) rfl
          have k5 := nE1.cell 1 (v := .slice none 0 0) rfl
          have kf5 := nE1.free 1
          have hsc : (((w1.alloc (.cells #[y0, y1, y2] 25)).alloc (.cells #[y0, y1, y2] 25)).setCell ⟨wr.heap.size, 1, none⟩ (.slice (some ⟨w1.heap.size + 1, 0, none⟩) 1 1)).heap.size = w1.heap.size + 1 + 1 := by simp only [size_setCell, size_alloc]
          obtain ⟨g2, cap2, w2, hap, ho2, hN2, hG3, hz3, hbw2⟩ := ent_step (c1 := 1) (v1 := some ⟨w1.heap.size + 1, 0, none⟩) hO.out hN.out hGt.out hRz hbw hbc (by rw [hm1]; exact hMv) (by omega) HKE.out hm1
          rw [hsc] at hap
          have HO2 := Lib.hid ho2
          have HG3 := Lib.hid hG3
          have HN2 := Lib.hid hN2
          have HBW2 := Lib.hid hbw2
          clear ho2 hG3 hN2 hbw2 hbc
          clear hO hN hGt nE1 nEa nEb nEc nV hSc hMv hsc hb1 hM1
          have hlT : (pre ++ [123] ++ seqT [44, 32] Ts i ++ sepT i ++ Ts i).length = k2 := by rw [List.length_append, HPL.out, HQ.out, HTL.out]
          have hs2 : s.data.toList = (pre ++ [123] ++ seqT [44, 32] Ts i ++ sepT i ++ Ts i) ++ rest ++ ([125] ++ post) := by rw [HS.out, HSP.out]; simp [List.append_assoc]
          by_cases e : i + 1 = l'
          · have hb125 : byteN s k2 = 125 := by
              have h1 := byteN_at_mid (s := s) (A := pre ++ [123] ++ seqT [44, 32] Ts i ++ sepT i ++ Ts i) (B := post) (b := 125) (by rw [hs2, HR1.out e]; simp [List.append_assoc])
              rw [hlT] at h1
              exact h1
            have hk2l : k2 < s.size := by
              have h1 := size_of hs2
              rw [hlT] at h1
              simp only [List.length_append, List.length_cons, List.length_nil] at h1
              omega
            have hik2 : (((s[k2]'hk2l).toNat : Nat) : Int) = 125 := by rw [← byteN_at hk2l, hb125]; rfl
            have hdk4 : decide ((k2 : Int) < (s.size : Int)) = true := by simp; omega
            have hdk5 : decide (k2 < s.size) = true := by simp; omega
            clear hb125 hlT hs2
            subst e
            have n3 := HN2.out.set 0 (.string ⟨#[]⟩)
            have n4 := n3.set 1 (.slice none 0 0)
            have n5 := n4.set 2 (.slice (some ⟨g2, 0, none⟩) (i + 1) cap2)
            have c0 := HN2.out.cell 0 (v := .string ⟨#[]⟩) rfl
            have f0 := HN2.out.free 0
            have c1 := n3.cell 1 (v := .slice none 0 0) rfl
            have f1 := n3.free 1
            have c2 := n4.cell 2 (v := .slice none 0 0) rfl
            have f2 := n4.free 2
            have d0 := n5.cell 0 (v := .string ⟨#[]⟩) rfl
            have d1 := n5.cell 1 (v := .slice none 0 0) rfl
            have d2 := n5.cell 2 (v := .slice (some ⟨g2, 0, none⟩) (i + 1) cap2) rfl
            have e0 := n3.cell 0 (v := .string ⟨#[]⟩) rfl
            have e1 := n4.cell 1 (v := .slice none 0 0) rfl
            clear n3 n4 n5
            go_wp2_with (at_builtin; refine wpList_append_run _ rfl _ _ _ _ rfl _ _ _ rfl rfl _ hap ?_)
            (try simp only [Exit.inBlock, Exit.then])
            refine bodyPost_ret (by simp [results, Tryd.results10, go_sem, e0, e1, d0, d1, d2]; try rfl) rfl ?_
            have hk2 : p + ((seqT [44, 32] Ts (i + 1)).length + 2) = k2 + 1 := by
              have h1 := congrArg List.length HSP.out
              rw [HR1.out (by first | trivial | rfl)] at h1
              simp only [List.length_append, List.length_nil] at h1
              have h2 := HQ.out
              unfold posT at h2
              have h3 := HTL.out
              omega
            refine ⟨.string ⟨#[]⟩, .slice none 0 0, .slice (some ⟨g2, 0, none⟩) (i + 1) cap2, ⟨rfl, rfl, rfl⟩, ?_, ?_, ?_⟩
            · rw [hk2, Int.natCast_add]; rfl
            · rw [HR.out]
              exact (((HBW2.out).setCell (Nat.le_refl _) _).setCell (Nat.le_refl _) _).setCell (Nat.le_refl _) _
            · rw [HR.out]
              exact obj_eqm hl h0 HO2.out HG3.out ((((Same.refl _ _ _).setCell (.inl (Nat.lt_succ_self _)) _).setCell (.inl (Nat.lt_succ_self _)) _).setCell (.inl (Nat.lt_succ_self _)) _) (by simp only [size_setCell]; exact Nat.le_refl _) (fun j hj => (HK.out j hj).2.1) HE.out
          · have hil : i + 1 < l' := by omega
            obtain ⟨r, hr⟩ := HR2.out hil
            have hb44 : byteN s k2 = 44 := by
              have h1 := byteN_at_mid (s := s) (A := pre ++ [123] ++ seqT [44, 32] Ts i ++ sepT i ++ Ts i) (B := [32] ++ r ++ [125] ++ post) (b := 44) (by rw [hs2, hr]; simp [List.append_assoc])
              rw [hlT] at h1
              exact h1
            have hb32 : byteN s (k2 + 1) = 32 := by
              have h1 := byteN_at_mid (s := s) (A := pre ++ [123] ++ seqT [44, 32] Ts i ++ sepT i ++ Ts i ++ [44]) (B := r ++ [125] ++ post) (b := 32) (by rw [hs2, hr]; simp [List.append_assoc])
              rw [List.length_append, hlT] at h1
              exact h1
            have hk2l1 : k2 + 1 < s.size := by
              have h1 := size_of hs2
              rw [hlT, hr] at h1
              simp only [List.length_append, List.length_cons, List.length_nil] at h1
              omega
            have hk2l : k2 < s.size := by omega
            have hik2 : (((s[k2]'hk2l).toNat : Nat) : Int) = 44 := by rw [← byteN_at hk2l, hb44]; rfl
            have hik3 : (((s[k2 + 1]'hk2l1).toNat : Nat) : Int) = 32 := by rw [← byteN_at hk2l1, hb32]; rfl
            have hdk4 : decide ((k2 : Int) < (s.size : Int)) = true := by simp; omega
            have hdk5 : decide (k2 < s.size) = true := by simp; omega
            have hdk6 : decide ((k2 : Int) + 1 < (s.size : Int)) = true := by simp; omega
            have hdk7 : decide (k2 + 1 < s.size) = true := by simp; omega
            have HR3 := Lib.hid hr
            have HKQ : q < k2 := by have := HK2V.out; omega
            clear hb44 hb32 hlT hs2 hr
            go_wp2_with (at_builtin; refine wpList_append_run _ rfl _ _ _ _ rfl _ _ _ rfl rfl _ hap ?_)
            go_roundw
            case rel => exact ⟨i + 1, _, _, hil, by rw [show posT Ts p (i + 1) = k2 + 2 from by have h2 := HQ.out; have h3 := HTL.out; unfold posT at h2 ⊢; rw [← h3, ← h2]; simp [seqT, sepT]; omega]; go_num, rfl, HO2, HN2, HG3, by omega, HBW2.out⟩
            case measure => simp [Go.RowKit.intOf]; omega
end Go.Proofs.YtkabnbopakfknaaDoor
