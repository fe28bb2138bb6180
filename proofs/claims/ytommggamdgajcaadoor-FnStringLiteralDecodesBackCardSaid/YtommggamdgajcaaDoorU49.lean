/- zzUnquoteB2 at the escaped text (printed by wip/tools/gen_u49.py). -/
import Derived.Test.YtommggamdgajcaaDoorZ49
namespace Go.Proofs.YtommggamdgajcaaDoor
open Go.RowKit

theorem hexv_any (x : Nat) (hx : x < 16) (w : World) : Calls Tryd.prog 33 #[.int .u8 ((hexD x).toNat : Int)] w fun e w' => e = .returned (.tuple #[.int .i64 x, .bool true]) ∧ w = w' := by
  have hn := hexD_nat ⟨x, hx⟩
  by_cases h : x < 10
  · have e : ((hexD x).toNat : Int) = 48 + x := by rw [if_pos (by simpa using h)] at hn; simp only at hn; omega
    rw [e]
    clear hn e
    go_enter Tryd.func33, Tryd.ntmps33
    go_wp2
    go_ret2
    exact ⟨by simp; omega, rfl⟩
  · have e : ((hexD x).toNat : Int) = 87 + x := by rw [if_neg (by simpa using h)] at hn; simp only at hn; omega
    rw [e]
    clear hn e
    go_enter Tryd.func33, Tryd.ntmps33
    go_wp2
    go_ret2
    exact ⟨by simp; omega, rfl⟩

theorem escs_mid (a d : List UInt8) (c : UInt8) : escs (a ++ c :: d) = escs a ++ (escOf c ++ escs d) := by simp [escs]
theorem at_drop {t : ByteArray} {m : Nat} {X : List UInt8} (h : t.data.toList.drop m = X) (j : Nat) {x : UInt8} (hx : X[j]? = some x) : ∃ hlt : m + j < t.size, t[m + j] = x := by
  rw [← h, List.getElem?_drop] at hx
  obtain ⟨h1, h2⟩ := List.getElem?_eq_some_iff.1 hx
  exact ⟨by simpa using h1, h2⟩
/-- Where the text of the k-th byte begins. -/
theorem drop_at (t s : ByteArray) (ht : t.data.toList = [34] ++ escs s.data.toList ++ [34]) (k m : Nat) (hk : k < s.size) (hm : m = 1 + (escs (s.data.toList.take k)).length) :
    t.data.toList.drop m = escOf s[k] ++ (escs (s.data.toList.drop (k + 1)) ++ [34]) := by
  have e : s.data.toList = s.data.toList.take k ++ s[k] :: s.data.toList.drop (k + 1) := by
    have h1 : s[k] = s.data.toList[k]'(by simpa using hk) := rfl
    rw [h1, ← List.drop_eq_getElem_cons, List.take_append_drop]
  have e2 : escs s.data.toList = escs (s.data.toList.take k) ++ (escOf s[k] ++ escs (s.data.toList.drop (k + 1))) := (congrArg escs e).trans (escs_mid _ _ _)
  rw [ht, e2, hm]
  have e3 : [34] ++ (escs (s.data.toList.take k) ++ (escOf s[k] ++ escs (s.data.toList.drop (k + 1)))) ++ [34] = ([34] ++ escs (s.data.toList.take k)) ++ (escOf s[k] ++ (escs (s.data.toList.drop (k + 1)) ++ [34])) := by simp
  rw [e3]
  exact List.drop_left' (by simp; omega)
theorem size_of (t s : ByteArray) (ht : t.data.toList = [34] ++ escs s.data.toList ++ [34]) : t.size = (escs s.data.toList).length + 2 := by
  have : t.size = t.data.toList.length := rfl
  rw [this, ht]; simp

def URel (s : ByteArray) (B : Nat) (w : World) (vb vi : Value) (wr : World) : Prop :=
  ∃ (k m : Nat) (v : Value), k ≤ s.size ∧ v = vb ∧ vi = .int .i64 m ∧ Hid (m = 1 + (escs (s.data.toList.take k)).length) ∧ OB B v (s.data.toList.take k) wr ∧ Below B w wr
theorem next_m {s : ByteArray} {k m : Nat} {X : List UInt8} (hk : k < s.size) (hm : m = 1 + (escs (s.data.toList.take k)).length) (hX : escOf s[k] = X) : Hid (m + X.length = 1 + (escs (s.data.toList.take (k + 1))).length) := by
  show _ = _
  rw [take_snoc s k hk, escs_snoc, hX, List.length_append, hm]; omega

set_option maxHeartbeats 4000000 in
set_option maxRecDepth 100000 in
theorem unq_any (s t : ByteArray) (w : World) (hs : s.size ≤ 1048576) (hA : asciiB s = true) (ht : t.data.toList = [34] ++ escs s.data.toList ++ [34]) :
    Calls Tryd.prog 14 #[.string t] w fun e w' => e = .returned (.tuple #[.string s, .bool true]) ∧ Below w.heap.size w w' := by
  obtain ⟨B, hB⟩ : ∃ B, B = w.heap.size := ⟨_, rfl⟩
  rw [← hB]
  have hBw : B ≤ w.heap.size := by omega
  have hsz := size_of t s ht
  have hel := escs_len s.data.toList
  have hsd : s.data.toList.length = s.size := rfl
  have ht2 : 2 ≤ t.size := by omega
  have htl : t.size ≤ 6291458 := by omega
  obtain ⟨_, f0⟩ := at_drop (t := t) (m := 0) (X := [34] ++ (escs s.data.toList ++ [34])) (by rw [List.drop_zero, ht]; simp) 0 (x := 34) rfl
  have hidx : t.size - 1 < t.size := Nat.sub_lt (Nat.lt_of_lt_of_le (by decide) ht2) (by decide)
  have fl : t[t.size - 1] = 34 := by
    obtain ⟨h1, h2⟩ := at_drop (t := t) (m := t.size - 1) (X := [34]) (by
      rw [hsz, ht]
      show List.drop _ (([34] ++ escs s.data.toList) ++ [34]) = _
      exact List.drop_left' (by simp)) 0 (x := 34) rfl
    exact h2
  have i0 : (t[0].toNat : Int) = 34 := by have : t[0] = 34 := f0; rw [this]; rfl
  have il : (t[t.size - 1].toNat : Int) = 34 := by rw [fl]; rfl
  have HA := Lib.hid hA
  have HT := Lib.hid ht
  have HSZ := Lib.hid hsz
  clear hA hB ht hsz hel hsd f0 fl
  go_enter Tryd.func14, Tryd.ntmps14
  go_wp2_with fail
  go_loopw [5, 6] (URel s B w) (fun _ i _ => t.size - (intOf i).toNat)
  case atStart => exact ⟨0, 1, _, Nat.zero_le _, rfl, rfl, Lib.hid (by simp [escs]), OB.nil _ _, Below.refl _ _⟩
  case round =>
    obtain ⟨k, m, v, hk, rfl, rfl, hm, hown, hbw⟩ := hrel
    have hBr : B ≤ wr.heap.size := Nat.le_trans hBw hbw.size
    have hl : (s.data.toList.take k).length ≤ 1048576 := Nat.le_trans (List.length_take_le _ _) (by omega)
    clear i0 il
    by_cases hlt : k < s.size
    · have h127 := ascii_at HA.out hlt
      have hd := drop_at t s HT.out k m hlt hm.out
      by_cases e34 : s[k].toNat = 34
      · have HX : Hid (s[k] = 34) := Lib.hid (by apply UInt8.toNat.inj; rw [e34]; rfl)
        rw [HX.out, escOf_34] at hd
        have HN := next_m hlt hm.out (X := [92, 34]) (by rw [HX.out, escOf_34])
        obtain ⟨q0, b0⟩ := at_drop hd 0 (x := 92) rfl
        obtain ⟨q1, b1⟩ := at_drop hd 1 (x := 34) rfl
        obtain ⟨q2, _⟩ := at_drop hd 2 (x := (escs (s.data.toList.drop (k + 1)) ++ [34])[0]'(by simp)) (by simp)
        have j0 : (t[m].toNat : Int) = 92 := by have : t[m] = 92 := b0; rw [this]; rfl
        have j1 : (t[m + 1].toNat : Int) = 34 := by rw [b1]; rfl
        obtain ⟨v1, w1, hap, ho1, hb1⟩ := app_lit hown [34] hBr (by simp only [List.length_cons, List.length_nil]; omega)
        have hap : ∀ ty, (Builtin.append_ #[71, 71] ty #[v, .slice (some ⟨wr.heap.size, 0, none⟩) 1 1]).run Tryd.prog (wr.alloc (.cells #[.int .u8 34] 5)) = .ok v1 w1 := hap
        have HO1 := Lib.hid ho1
        have hbw1 := hbw.trans hb1
        clear hown ho1 hb1 hd b0 b1
        go_wp2_with (at_builtin; refine wpList_append_run _ rfl _ _ _ _ rfl _ _ _ rfl rfl _ hap ?_)
        go_roundw
        case rel => exact ⟨k + 1, m + 2, v1, by omega, rfl, by go_num, HN, by rw [take_snoc s k hlt, HX.out]; exact HO1.out, hbw1⟩
        case measure => simp [intOf]; omega
      by_cases e92 : s[k].toNat = 92
      · have HX : Hid (s[k] = 92) := Lib.hid (by apply UInt8.toNat.inj; rw [e92]; rfl)
        rw [HX.out, escOf_92] at hd
        have HN := next_m hlt hm.out (X := [92, 92]) (by rw [HX.out, escOf_92])
        obtain ⟨q0, b0⟩ := at_drop hd 0 (x := 92) rfl
        obtain ⟨q1, b1⟩ := at_drop hd 1 (x := 92) rfl
        obtain ⟨q2, _⟩ := at_drop hd 2 (x := (escs (s.data.toList.drop (k + 1)) ++ [34])[0]'(by simp)) (by simp)
        have j0 : (t[m].toNat : Int) = 92 := by have : t[m] = 92 := b0; rw [this]; rfl
        have j1 : (t[m + 1].toNat : Int) = 92 := by rw [b1]; rfl
        obtain ⟨v1, w1, hap, ho1, hb1⟩ := app_lit hown [92] hBr (by simp only [List.length_cons, List.length_nil]; omega)
        have hap : ∀ ty, (Builtin.append_ #[71, 71] ty #[v, .slice (some ⟨wr.heap.size, 0, none⟩) 1 1]).run Tryd.prog (wr.alloc (.cells #[.int .u8 92] 5)) = .ok v1 w1 := hap
        have HO1 := Lib.hid ho1
        have hbw1 := hbw.trans hb1
        clear hown ho1 hb1 hd b0 b1
        go_wp2_with (at_builtin; refine wpList_append_run _ rfl _ _ _ _ rfl _ _ _ rfl rfl _ hap ?_)
        go_roundw
        case rel => exact ⟨k + 1, m + 2, v1, by omega, rfl, by go_num, HN, by rw [take_snoc s k hlt, HX.out]; exact HO1.out, hbw1⟩
        case measure => simp [intOf]; omega
      by_cases e8 : s[k].toNat = 8
      · have HX : Hid (s[k] = 8) := Lib.hid (by apply UInt8.toNat.inj; rw [e8]; rfl)
        rw [HX.out, escOf_8] at hd
        have HN := next_m hlt hm.out (X := [92, 98]) (by rw [HX.out, escOf_8])
        obtain ⟨q0, b0⟩ := at_drop hd 0 (x := 92) rfl
        obtain ⟨q1, b1⟩ := at_drop hd 1 (x := 98) rfl
        obtain ⟨q2, _⟩ := at_drop hd 2 (x := (escs (s.data.toList.drop (k + 1)) ++ [34])[0]'(by simp)) (by simp)
        have j0 : (t[m].toNat : Int) = 92 := by have : t[m] = 92 := b0; rw [this]; rfl
        have j1 : (t[m + 1].toNat : Int) = 98 := by rw [b1]; rfl
        obtain ⟨v1, w1, hap, ho1, hb1⟩ := app_lit hown [8] hBr (by simp only [List.length_cons, List.length_nil]; omega)
        have hap : ∀ ty, (Builtin.append_ #[71, 71] ty #[v, .slice (some ⟨wr.heap.size, 0, none⟩) 1 1]).run Tryd.prog (wr.alloc (.cells #[.int .u8 8] 5)) = .ok v1 w1 := hap
        have HO1 := Lib.hid ho1
        have hbw1 := hbw.trans hb1
        clear hown ho1 hb1 hd b0 b1
        go_wp2_with (at_builtin; refine wpList_append_run _ rfl _ _ _ _ rfl _ _ _ rfl rfl _ hap ?_)
        go_roundw
        case rel => exact ⟨k + 1, m + 2, v1, by omega, rfl, by go_num, HN, by rw [take_snoc s k hlt, HX.out]; exact HO1.out, hbw1⟩
        case measure => simp [intOf]; omega
      by_cases e12 : s[k].toNat = 12
      · have HX : Hid (s[k] = 12) := Lib.hid (by apply UInt8.toNat.inj; rw [e12]; rfl)
        rw [HX.out, escOf_12] at hd
        have HN := next_m hlt hm.out (X := [92, 102]) (by rw [HX.out, escOf_12])
        obtain ⟨q0, b0⟩ := at_drop hd 0 (x := 92) rfl
        obtain ⟨q1, b1⟩ := at_drop hd 1 (x := 102) rfl
        obtain ⟨q2, _⟩ := at_drop hd 2 (x := (escs (s.data.toList.drop (k + 1)) ++ [34])[0]'(by simp)) (by simp)
        have j0 : (t[m].toNat : Int) = 92 := by have : t[m] = 92 := b0; rw [this]; rfl
        have j1 : (t[m + 1].toNat : Int) = 102 := by rw [b1]; rfl
        obtain ⟨v1, w1, hap, ho1, hb1⟩ := app_lit hown [12] hBr (by simp only [List.length_cons, List.length_nil]; omega)
        have hap : ∀ ty, (Builtin.append_ #[71, 71] ty #[v, .slice (some ⟨wr.heap.size, 0, none⟩) 1 1]).run Tryd.prog (wr.alloc (.cells #[.int .u8 12] 5)) = .ok v1 w1 := hap
        have HO1 := Lib.hid ho1
        have hbw1 := hbw.trans hb1
        clear hown ho1 hb1 hd b0 b1
        go_wp2_with (at_builtin; refine wpList_append_run _ rfl _ _ _ _ rfl _ _ _ rfl rfl _ hap ?_)
        go_roundw
        case rel => exact ⟨k + 1, m + 2, v1, by omega, rfl, by go_num, HN, by rw [take_snoc s k hlt, HX.out]; exact HO1.out, hbw1⟩
        case measure => simp [intOf]; omega
      by_cases e10 : s[k].toNat = 10
      · have HX : Hid (s[k] = 10) := Lib.hid (by apply UInt8.toNat.inj; rw [e10]; rfl)
        rw [HX.out, escOf_10] at hd
        have HN := next_m hlt hm.out (X := [92, 110]) (by rw [HX.out, escOf_10])
        obtain ⟨q0, b0⟩ := at_drop hd 0 (x := 92) rfl
        obtain ⟨q1, b1⟩ := at_drop hd 1 (x := 110) rfl
        obtain ⟨q2, _⟩ := at_drop hd 2 (x := (escs (s.data.toList.drop (k + 1)) ++ [34])[0]'(by simp)) (by simp)
        have j0 : (t[m].toNat : Int) = 92 := by have : t[m] = 92 := b0; rw [this]; rfl
        have j1 : (t[m + 1].toNat : Int) = 110 := by rw [b1]; rfl
        obtain ⟨v1, w1, hap, ho1, hb1⟩ := app_lit hown [10] hBr (by simp only [List.length_cons, List.length_nil]; omega)
        have hap : ∀ ty, (Builtin.append_ #[71, 71] ty #[v, .slice (some ⟨wr.heap.size, 0, none⟩) 1 1]).run Tryd.prog (wr.alloc (.cells #[.int .u8 10] 5)) = .ok v1 w1 := hap
        have HO1 := Lib.hid ho1
        have hbw1 := hbw.trans hb1
        clear hown ho1 hb1 hd b0 b1
        go_wp2_with (at_builtin; refine wpList_append_run _ rfl _ _ _ _ rfl _ _ _ rfl rfl _ hap ?_)
        go_roundw
        case rel => exact ⟨k + 1, m + 2, v1, by omega, rfl, by go_num, HN, by rw [take_snoc s k hlt, HX.out]; exact HO1.out, hbw1⟩
        case measure => simp [intOf]; omega
      by_cases e13 : s[k].toNat = 13
      · have HX : Hid (s[k] = 13) := Lib.hid (by apply UInt8.toNat.inj; rw [e13]; rfl)
        rw [HX.out, escOf_13] at hd
        have HN := next_m hlt hm.out (X := [92, 114]) (by rw [HX.out, escOf_13])
        obtain ⟨q0, b0⟩ := at_drop hd 0 (x := 92) rfl
        obtain ⟨q1, b1⟩ := at_drop hd 1 (x := 114) rfl
        obtain ⟨q2, _⟩ := at_drop hd 2 (x := (escs (s.data.toList.drop (k + 1)) ++ [34])[0]'(by simp)) (by simp)
        have j0 : (t[m].toNat : Int) = 92 := by have : t[m] = 92 := b0; rw [this]; rfl
        have j1 : (t[m + 1].toNat : Int) = 114 := by rw [b1]; rfl
        obtain ⟨v1, w1, hap, ho1, hb1⟩ := app_lit hown [13] hBr (by simp only [List.length_cons, List.length_nil]; omega)
        have hap : ∀ ty, (Builtin.append_ #[71, 71] ty #[v, .slice (some ⟨wr.heap.size, 0, none⟩) 1 1]).run Tryd.prog (wr.alloc (.cells #[.int .u8 13] 5)) = .ok v1 w1 := hap
        have HO1 := Lib.hid ho1
        have hbw1 := hbw.trans hb1
        clear hown ho1 hb1 hd b0 b1
        go_wp2_with (at_builtin; refine wpList_append_run _ rfl _ _ _ _ rfl _ _ _ rfl rfl _ hap ?_)
        go_roundw
        case rel => exact ⟨k + 1, m + 2, v1, by omega, rfl, by go_num, HN, by rw [take_snoc s k hlt, HX.out]; exact HO1.out, hbw1⟩
        case measure => simp [intOf]; omega
      by_cases e9 : s[k].toNat = 9
      · have HX : Hid (s[k] = 9) := Lib.hid (by apply UInt8.toNat.inj; rw [e9]; rfl)
        rw [HX.out, escOf_9] at hd
        have HN := next_m hlt hm.out (X := [92, 116]) (by rw [HX.out, escOf_9])
        obtain ⟨q0, b0⟩ := at_drop hd 0 (x := 92) rfl
        obtain ⟨q1, b1⟩ := at_drop hd 1 (x := 116) rfl
        obtain ⟨q2, _⟩ := at_drop hd 2 (x := (escs (s.data.toList.drop (k + 1)) ++ [34])[0]'(by simp)) (by simp)
        have j0 : (t[m].toNat : Int) = 92 := by have : t[m] = 92 := b0; rw [this]; rfl
        have j1 : (t[m + 1].toNat : Int) = 116 := by rw [b1]; rfl
        obtain ⟨v1, w1, hap, ho1, hb1⟩ := app_lit hown [9] hBr (by simp only [List.length_cons, List.length_nil]; omega)
        have hap : ∀ ty, (Builtin.append_ #[71, 71] ty #[v, .slice (some ⟨wr.heap.size, 0, none⟩) 1 1]).run Tryd.prog (wr.alloc (.cells #[.int .u8 9] 5)) = .ok v1 w1 := hap
        have HO1 := Lib.hid ho1
        have hbw1 := hbw.trans hb1
        clear hown ho1 hb1 hd b0 b1
        go_wp2_with (at_builtin; refine wpList_append_run _ rfl _ _ _ _ rfl _ _ _ rfl rfl _ hap ?_)
        go_roundw
        case rel => exact ⟨k + 1, m + 2, v1, by omega, rfl, by go_num, HN, by rw [take_snoc s k hlt, HX.out]; exact HO1.out, hbw1⟩
        case measure => simp [intOf]; omega
      by_cases h32 : s[k].toNat < 32
      · have HX := Lib.hid (escOf_low h32 e8 e12 e10 e13 e9)
        clear e34 e92 e8 e12 e10 e13 e9
        rw [HX.out] at hd
        have HN := next_m hlt hm.out HX.out
        obtain ⟨q0, b0⟩ := at_drop hd 0 (x := 92) rfl
        obtain ⟨q1, b1⟩ := at_drop hd 1 (x := 117) rfl
        obtain ⟨q2, b2⟩ := at_drop hd 2 (x := 48) rfl
        obtain ⟨q3, b3⟩ := at_drop hd 3 (x := 48) rfl
        obtain ⟨q4, b4⟩ := at_drop hd 4 (x := hexD (s[k].toNat / 16)) rfl
        obtain ⟨q5, b5⟩ := at_drop hd 5 (x := hexD (s[k].toNat % 16)) rfl
        obtain ⟨q6, _⟩ := at_drop hd 6 (x := (escs (s.data.toList.drop (k + 1)) ++ [34])[0]'(by simp)) (by simp)
        have j0 : (t[m].toNat : Int) = 92 := by have : t[m] = 92 := b0; rw [this]; rfl
        have j1 : (t[m + 1].toNat : Int) = 117 := by rw [b1]; rfl
        have j2 : (t[m + 2].toNat : Int) = ((hexD 0).toNat : Int) := by rw [b2]; rfl
        have j3 : (t[m + 3].toNat : Int) = ((hexD 0).toNat : Int) := by rw [b3]; rfl
        have j4 : (t[m + 4].toNat : Int) = ((hexD (s[k].toNat / 16)).toNat : Int) := by rw [b4]
        have j5 : (t[m + 5].toNat : Int) = ((hexD (s[k].toNat % 16)).toNat : Int) := by rw [b5]
        obtain ⟨v1, w1, hap, ho1, hb1⟩ := app_lit hown [s[k]] hBr (by simp only [List.length_cons, List.length_nil]; omega)
        obtain ⟨hi, hhi⟩ : ∃ hi, hi = s[k].toNat / 16 := ⟨_, rfl⟩
        obtain ⟨lo, hlo⟩ : ∃ lo, lo = s[k].toNat % 16 := ⟨_, rfl⟩
        have hv1 : (s[k].toNat : Int) = (hi : Int) * 16 + (lo : Int) := by omega
        have hap : ∀ ty, (Builtin.append_ #[71, 71] ty #[v, .slice (some ⟨wr.heap.size, 0, none⟩) 1 1]).run Tryd.prog (wr.alloc (.cells #[.int .u8 ((hi : Int) * 16 + (lo : Int))] 5)) = .ok v1 w1 := by rw [← hv1]; exact hap
        rw [← hhi] at j4
        rw [← hlo] at j5
        have hhi1 : hi ≤ 1 := by omega
        have hlo1 : lo < 16 := by omega
        have HO1 := Lib.hid ho1
        have hbw1 := hbw.trans hb1
        clear hown ho1 hb1 hd b0 b1 b2 b3 b4 b5 hv1 hhi hlo
        go_wp2_with fail
        refine wp_loop_rounds 5 ?_
        rw [rounds_succ]
        go_wp2_with fail
        refine (hexv_any 0 (by decide) _).mono ?_
        rintro e w' ⟨rfl, rfl⟩
        go_wp2_with fail
        rw [rounds_succ]
        go_wp2_with fail
        refine (hexv_any 0 (by decide) _).mono ?_
        rintro e w' ⟨rfl, rfl⟩
        go_wp2_with fail
        rw [rounds_succ]
        go_wp2_with fail
        refine (hexv_any hi (by omega) _).mono ?_
        rintro e w' ⟨rfl, rfl⟩
        go_wp2_with fail
        rw [rounds_succ]
        go_wp2_with fail
        refine (hexv_any lo (by omega) _).mono ?_
        rintro e w' ⟨rfl, rfl⟩
        go_wp2_with fail
        rw [rounds_succ]
        go_wp2_with (at_builtin; refine wpList_append_run _ rfl _ _ _ _ rfl _ _ _ rfl rfl _ hap ?_)
        go_roundw
        case rel => exact ⟨k + 1, m + 6, v1, by omega, rfl, by go_num, HN, by rw [take_snoc s k hlt]; exact HO1.out, hbw1⟩
        case measure => simp [intOf]; omega
      · have HX := Lib.hid (escOf_plain (b := s[k]) (by omega) h127 e34 e92)
        rw [HX.out] at hd
        have HN := next_m hlt hm.out HX.out
        obtain ⟨q0, b0⟩ := at_drop hd 0 (x := s[k]) rfl
        obtain ⟨q1, _⟩ := at_drop hd 1 (x := (escs (s.data.toList.drop (k + 1)) ++ [34])[0]'(by simp)) (by simp)
        have j0 : (t[m].toNat : Int) = (s[k].toNat : Int) := by have : t[m] = s[k] := b0; rw [this]
        have n1 : ((s[k].toNat : Int) == 34) = false := by simp; omega
        have n2 : ¬ (s[k].toNat : Int) < 32 := by omega
        have n3 : ((s[k].toNat : Int) != 92) = true := by simp; omega
        clear e34 e92 e8 e12 e10 e13 e9
        obtain ⟨v1, w1, hap, ho1, hb1⟩ := app_lit hown [s[k]] hBr (by simp only [List.length_cons, List.length_nil]; omega)
        have hap : ∀ ty, (Builtin.append_ #[71, 71] ty #[v, .slice (some ⟨wr.heap.size, 0, none⟩) 1 1]).run Tryd.prog (wr.alloc (.cells #[.int .u8 (s[k].toNat : Int)] 5)) = .ok v1 w1 := hap
        have HO1 := Lib.hid ho1
        have hbw1 := hbw.trans hb1
        clear hown ho1 hb1 hd b0
        go_wp2_with (at_builtin; refine wpList_append_run _ rfl _ _ _ _ rfl _ _ _ rfl rfl _ hap ?_)
        go_roundw
        case rel => exact ⟨k + 1, m + 1, v1, by omega, rfl, by go_num, HN, by rw [take_snoc s k hlt]; exact HO1.out, hbw1⟩
        case measure => simp [intOf]; omega
    · obtain rfl : k = s.size := by omega
      have hme : t.size ≤ m + 1 := by have h1 := HSZ.out; have h2 := hm.out; rw [take_all] at h2; omega
      rw [take_all] at hown
      have hcv := run_back hown
      have e : (⟨s.data.toList.toArray⟩ : ByteArray) = s := rfl
      rw [e] at hcv
      clear hown e
      go_wp2_with fail
      go_ret2
      exact ⟨rfl, hbw⟩
end Go.Proofs.YtommggamdgajcaaDoor
