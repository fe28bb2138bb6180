/- Indices: the brackets; a suffix; the law's own builders. -/
import Derived.Test.YthfhfocdbkieoaaDoorNodes
import Derived.Test.YthfhfocdbkieoaaDoorStr
import Derived.Test.YthfhfocdbkieoaaDoorMade
namespace Go.Proofs.YthfhfocdbkieoaaDoor
open Go.RowKit

theorem Prints.safe {f : FuncId} {p : Nat} {T : List UInt8} {w : World} (h : Prints f p Any T w) : Prints f p Safe T w := fun B b pre w' hp hb hB hB2 hT _ hlen => h B b pre w' hp hb hB hB2 hT trivial hlen
theorem safe_91 (pre : List UInt8) : Safe (pre ++ [91]) := Safe.behind (by simp) (fun c hc => by simp at hc; subst hc; decide) pre
theorem safe_58 (pre : List UInt8) : Safe (pre ++ [58]) := Safe.behind (by simp) (fun c hc => by simp at hc; subst hc; decide) pre
theorem empty_iff {s : ByteArray} (h : s.size = 0) : s.toList.isEmpty = true := by
  rw [ByteArray.toList_eq]
  cases e : s.data.toList with
  | nil => rfl
  | cons a l => exact absurd h (by show ¬ s.data.size = 0; rw [← Array.length_toList, e]; simp)

/-- A pointer to a query, or nil. -/
def qv : Option Nat → Value
  | none => .pointer none
  | some q => .pointer (some ⟨q, 0, none⟩)
def QP (w : World) (o : Option Nat) (T : List UInt8) : Prop := match o with
  | none => T = []
  | some q => Prints 31 q Safe T w

set_option maxRecDepth 100000 in
/-- .[start] -/
theorem suffix_one {x q : Nat} {v3 : Value} {T : List UInt8} {w : World} (hx : Nd x 52 #[.string ⟨#[]⟩, .pointer none, .pointer (some ⟨q, 0, none⟩), v3, .bool false] w) (hq : Prints 31 q Safe T w) :
    Prints 28 x Any ([91] ++ T ++ [93]) w := by
  intro B b pre w0 hp hb hB hB2 hT hok hlen
  have hx0 := hx.pres hp (by decide) (by decide)
  have c0 := hx0.cell 0 rfl
  have c1 := hx0.cell 1 rfl
  have HH := Lib.hid hx0
  have HL := Lib.hid hlen
  have HX := Lib.hid hq
  have HP := Lib.hid hp
  have HT := Lib.hid hT
  clear hx0 hx hp hT hok hlen hq
  go_enter Tryd.func28, Tryd.ntmps28
  go_wp2_with fail
  refine (wByte 91 hb (by have := HL.out; simp at this; omega) hB).mono ?_
  rintro e w1 ⟨rfl, hb1, hk1⟩
  have H1 := HH.out.pres (hk1.pres hb) (by decide) (by decide)
  have d2 := H1.cell 2 rfl
  have d4 := H1.cell 4 rfl
  have HP1 := Lib.hid (HP.out.trans (hk1.pres hb))
  have hB1 := Nat.le_trans hB hk1.size
  have HT1 := Lib.hid (tabs_kept HT.out hk1 hB2)
  clear c0 c1 HP HH HT H1
  go_wp2_with fail
  refine (HX.out B b _ _ HP1.out hb1.is hB1 hB2 HT1.out (safe_91 _) (by have := HL.out; simp at this ⊢; omega)).mono ?_
  rintro e w2 ⟨rfl, hb2, hk2⟩
  have hB3 := Nat.le_trans hB1 hk2.size
  clear HP1 HT1 d2 d4
  go_wp2_with fail
  refine (wByte 93 hb2.is (by have := HL.out; simp at this ⊢; omega) hB3).mono ?_
  rintro e w3 ⟨rfl, hb3, hk3⟩
  go_wp2_with fail
  go_end0
  exact ⟨rfl, by simpa [List.append_assoc] using hb3, hk1.trans (hk2.trans hk3)⟩

set_option maxHeartbeats 1000000 in
set_option maxRecDepth 100000 in
/-- .[start:end], either of which may lack -/
theorem suffix_slice {x : Nat} {o1 o2 : Option Nat} {T1 T2 : List UInt8} {w : World} (hx : Nd x 52 #[.string ⟨#[]⟩, .pointer none, qv o1, qv o2, .bool true] w) (hq1 : QP w o1 T1) (hq2 : QP w o2 T2) :
    Prints 28 x Any ([91] ++ T1 ++ [58] ++ T2 ++ [93]) w := by
  intro B b pre w0 hp hb hB hB2 hT hok hlen
  have hx0 := hx.pres hp (by decide) (by decide)
  have c0 := hx0.cell 0 rfl
  have c1 := hx0.cell 1 rfl
  have HH := Lib.hid hx0
  have HL := Lib.hid hlen
  have HX := Lib.hid hq1
  have HY := Lib.hid hq2
  have HP := Lib.hid hp
  have HT := Lib.hid hT
  clear hx0 hx hp hT hok hlen hq1 hq2
  cases o1 with
  | none =>
    have hT1 : T1 = [] := HX.out
    subst hT1
    cases o2 with
    | none =>
      have hT2 : T2 = [] := HY.out
      subst hT2
      go_enter Tryd.func28, Tryd.ntmps28
      go_wp2_with fail
      refine (wByte 91 hb (by have := HL.out; simp at this; omega) hB).mono ?_
      rintro e w1 ⟨rfl, hb1, hk1⟩
      have H1 := HH.out.pres (hk1.pres hb) (by decide) (by decide)
      have d2 : w1.cell? ⟨x, 2, none⟩ = some (.pointer none) := H1.cell 2 rfl
      have d4 := H1.cell 4 rfl
      have hB1 := Nat.le_trans hB hk1.size
      have H1 := Lib.hid H1
      clear c0 c1 HH
      go_wp2_with fail
      refine (wByte 58 hb1.is (by have := HL.out; simp at this ⊢; omega) hB1).mono ?_
      rintro e w2 ⟨rfl, hb2, hk2⟩
      have d3 : w2.cell? ⟨x, 3, none⟩ = some (.pointer none) := (H1.out.pres (hk2.pres hb1.is) (by decide) (by decide)).cell 3 rfl
      have hB3 := Nat.le_trans hB1 hk2.size
      clear H1 d2 d4
      go_wp2_with fail
      refine (wByte 93 hb2.is (by have := HL.out; simp at this ⊢; omega) hB3).mono ?_
      rintro e w3 ⟨rfl, hb3, hk3⟩
      go_wp2_with fail
      go_end0
      exact ⟨rfl, by simpa [List.append_assoc] using hb3, hk1.trans (hk2.trans hk3)⟩
    | some q2 =>
      have hY : Prints 31 q2 Safe T2 w := HY.out
      have HY2 := Lib.hid hY
      clear hY
      go_enter Tryd.func28, Tryd.ntmps28
      go_wp2_with fail
      refine (wByte 91 hb (by have := HL.out; simp at this; omega) hB).mono ?_
      rintro e w1 ⟨rfl, hb1, hk1⟩
      have H1 := HH.out.pres (hk1.pres hb) (by decide) (by decide)
      have d2 : w1.cell? ⟨x, 2, none⟩ = some (.pointer none) := H1.cell 2 rfl
      have d4 := H1.cell 4 rfl
      have HP1 := Lib.hid (HP.out.trans (hk1.pres hb))
      have hB1 := Nat.le_trans hB hk1.size
      have HT1 := Lib.hid (tabs_kept HT.out hk1 hB2)
      have H1 := Lib.hid H1
      clear c0 c1 HH
      go_wp2_with fail
      refine (wByte 58 hb1.is (by have := HL.out; simp at this ⊢; omega) hB1).mono ?_
      rintro e w2 ⟨rfl, hb2, hk2⟩
      have d3 : w2.cell? ⟨x, 3, none⟩ = some (.pointer (some ⟨q2, 0, none⟩)) := (H1.out.pres (hk2.pres hb1.is) (by decide) (by decide)).cell 3 rfl
      have HP2 := Lib.hid (HP1.out.trans (hk2.pres hb1.is))
      have hB3 := Nat.le_trans hB1 hk2.size
      have HT2 := Lib.hid (tabs_kept HT1.out hk2 hB2)
      clear H1 d2 d4 HP1 HT1
      go_wp2_with fail
      refine (HY2.out B b _ _ HP2.out hb2.is hB3 hB2 HT2.out (safe_58 _) (by have := HL.out; simp at this ⊢; omega)).mono ?_
      rintro e w3 ⟨rfl, hb3, hk3⟩
      have hB4 := Nat.le_trans hB3 hk3.size
      clear HP2 HT2 d3
      go_wp2_with fail
      refine (wByte 93 hb3.is (by have := HL.out; simp at this ⊢; omega) hB4).mono ?_
      rintro e w4 ⟨rfl, hb4, hk4⟩
      go_wp2_with fail
      go_end0
      exact ⟨rfl, by simpa [List.append_assoc] using hb4, hk1.trans (hk2.trans (hk3.trans hk4))⟩
  | some q1 =>
    have hX : Prints 31 q1 Safe T1 w := HX.out
    have HX2 := Lib.hid hX
    clear hX
    cases o2 with
    | none =>
      have hT2 : T2 = [] := HY.out
      subst hT2
      go_enter Tryd.func28, Tryd.ntmps28
      go_wp2_with fail
      refine (wByte 91 hb (by have := HL.out; simp at this; omega) hB).mono ?_
      rintro e w1 ⟨rfl, hb1, hk1⟩
      have H1 := HH.out.pres (hk1.pres hb) (by decide) (by decide)
      have d2 : w1.cell? ⟨x, 2, none⟩ = some (.pointer (some ⟨q1, 0, none⟩)) := H1.cell 2 rfl
      have d4 := H1.cell 4 rfl
      have HP1 := Lib.hid (HP.out.trans (hk1.pres hb))
      have hB1 := Nat.le_trans hB hk1.size
      have HT1 := Lib.hid (tabs_kept HT.out hk1 hB2)
      have H1 := Lib.hid H1
      clear c0 c1 HH
      go_wp2_with fail
      refine (HX2.out B b _ _ HP1.out hb1.is hB1 hB2 HT1.out (safe_91 _) (by have := HL.out; simp at this ⊢; omega)).mono ?_
      rintro e w2 ⟨rfl, hb2, hk2⟩
      have H2 := Lib.hid (H1.out.pres (hk2.pres hb1.is) (by decide) (by decide))
      have hB3 := Nat.le_trans hB1 hk2.size
      clear H1 d2 d4 HP1 HT1
      go_wp2_with fail
      refine (wByte 58 hb2.is (by have := HL.out; simp at this ⊢; omega) hB3).mono ?_
      rintro e w3 ⟨rfl, hb3, hk3⟩
      have d3 : w3.cell? ⟨x, 3, none⟩ = some (.pointer none) := (H2.out.pres (hk3.pres hb2.is) (by decide) (by decide)).cell 3 rfl
      have hB4 := Nat.le_trans hB3 hk3.size
      clear H2
      go_wp2_with fail
      refine (wByte 93 hb3.is (by have := HL.out; simp at this ⊢; omega) hB4).mono ?_
      rintro e w4 ⟨rfl, hb4, hk4⟩
      go_wp2_with fail
      go_end0
      exact ⟨rfl, by simpa [List.append_assoc] using hb4, hk1.trans (hk2.trans (hk3.trans hk4))⟩
    | some q2 =>
      have hY : Prints 31 q2 Safe T2 w := HY.out
      have HY2 := Lib.hid hY
      clear hY
      go_enter Tryd.func28, Tryd.ntmps28
      go_wp2_with fail
      refine (wByte 91 hb (by have := HL.out; simp at this; omega) hB).mono ?_
      rintro e w1 ⟨rfl, hb1, hk1⟩
      have H1 := HH.out.pres (hk1.pres hb) (by decide) (by decide)
      have d2 : w1.cell? ⟨x, 2, none⟩ = some (.pointer (some ⟨q1, 0, none⟩)) := H1.cell 2 rfl
      have d4 := H1.cell 4 rfl
      have HP1 := Lib.hid (HP.out.trans (hk1.pres hb))
      have hB1 := Nat.le_trans hB hk1.size
      have HT1 := Lib.hid (tabs_kept HT.out hk1 hB2)
      have H1 := Lib.hid H1
      clear c0 c1 HH
      go_wp2_with fail
      refine (HX2.out B b _ _ HP1.out hb1.is hB1 hB2 HT1.out (safe_91 _) (by have := HL.out; simp at this ⊢; omega)).mono ?_
      rintro e w2 ⟨rfl, hb2, hk2⟩
      have H2 := Lib.hid (H1.out.pres (hk2.pres hb1.is) (by decide) (by decide))
      have HP2 := Lib.hid (HP1.out.trans (hk2.pres hb1.is))
      have hB3 := Nat.le_trans hB1 hk2.size
      have HT2 := Lib.hid (tabs_kept HT1.out hk2 hB2)
      clear H1 d2 d4 HP1 HT1
      go_wp2_with fail
      refine (wByte 58 hb2.is (by have := HL.out; simp at this ⊢; omega) hB3).mono ?_
      rintro e w3 ⟨rfl, hb3, hk3⟩
      have d3 : w3.cell? ⟨x, 3, none⟩ = some (.pointer (some ⟨q2, 0, none⟩)) := (H2.out.pres (hk3.pres hb2.is) (by decide) (by decide)).cell 3 rfl
      have HP3 := Lib.hid (HP2.out.trans (hk3.pres hb2.is))
      have hB4 := Nat.le_trans hB3 hk3.size
      have HT3 := Lib.hid (tabs_kept HT2.out hk3 hB2)
      clear H2 HP2 HT2
      go_wp2_with fail
      refine (HY2.out B b _ _ HP3.out hb3.is hB4 hB2 HT3.out (safe_58 _) (by have := HL.out; simp at this ⊢; omega)).mono ?_
      rintro e w4 ⟨rfl, hb4, hk4⟩
      have hB5 := Nat.le_trans hB4 hk4.size
      clear HP3 HT3 d3
      go_wp2_with fail
      refine (wByte 93 hb4.is (by have := HL.out; simp at this ⊢; omega) hB5).mono ?_
      rintro e w5 ⟨rfl, hb5, hk5⟩
      go_wp2_with fail
      go_end0
      exact ⟨rfl, by simpa [List.append_assoc] using hb5, hk1.trans (hk2.trans (hk3.trans (hk4.trans hk5)))⟩

set_option maxRecDepth 100000 in
/-- A suffix with an index by name. -/
theorem prints_sfx_name {y x : Nat} {s : ByteArray} {v2 v3 v4 : Value} {T : List UInt8} {w : World} (hy : Nd y 29 #[.pointer (some ⟨x, 0, none⟩), .bool false, .bool false] w) (hx : Nd x 52 #[.string s, .pointer none, v2, v3, v4] w) (hs : s.size ≠ 0)
    (h : Prints 18 x Safe T w) : Prints 20 y Safe T w := by
  intro B b pre w0 hp hb hB hB2 hT hok hlen
  have hy0 := hy.pres hp (by decide) (by decide)
  have hx0 := hx.pres hp (by decide) (by decide)
  have c0 := hy0.cell 0 rfl
  have e0 := hx0.cell 0 rfl
  have hne : s.toList.isEmpty = false := ne_empty hs
  have HC := Lib.hid (h B b pre w0 hp hb hB hB2 hT hok hlen)
  clear hy0 hy hp hT hok hlen hx hx0 h hb hB hB2
  go_enter Tryd.func20, Tryd.ntmps20
  go_wp2_with fail
  refine HC.out.mono ?_
  rintro e w1 ⟨rfl, hb1, hk1⟩
  go_wp2_with fail
  go_end0
  exact ⟨rfl, hb1, hk1⟩

set_option maxRecDepth 100000 in
/-- A suffix with a bracket. -/
theorem prints_sfx_br {y x : Nat} {v2 v3 v4 : Value} {T : List UInt8} {w : World} (hy : Nd y 29 #[.pointer (some ⟨x, 0, none⟩), .bool false, .bool false] w) (hx : Nd x 52 #[.string ⟨#[]⟩, .pointer none, v2, v3, v4] w)
    (h : Prints 28 x Any T w) : Prints 20 y Any T w := by
  intro B b pre w0 hp hb hB hB2 hT hok hlen
  have hy0 := hy.pres hp (by decide) (by decide)
  have hx0 := hx.pres hp (by decide) (by decide)
  have c0 := hy0.cell 0 rfl
  have e0 := hx0.cell 0 rfl
  have e1 := hx0.cell 1 rfl
  have HC := Lib.hid (h B b pre w0 hp hb hB hB2 hT hok hlen)
  clear hy0 hy hp hT hok hlen hx hx0 h hb hB hB2
  go_enter Tryd.func20, Tryd.ntmps20
  go_wp2_with fail
  refine HC.out.mono ?_
  rintro e w1 ⟨rfl, hb1, hk1⟩
  go_wp2_with fail
  go_end0
  exact ⟨rfl, hb1, hk1⟩

/-- What zzTermQuery's query prints. -/
def tqText (k : Int) (s : ByteArray) : List UInt8 := if k = 1 then [46] else if k = 2 ∧ s.size ≠ 0 then [46] ++ s.data.toList else s.data.toList
theorem tqText_len (k : Int) (s : ByteArray) : (tqText k s).length ≤ s.size + 1 := by
  have : s.data.toList.length = s.size := rfl
  unfold tqText; repeat' split
  all_goals simp
  all_goals omega
def MkQ (w : World) (T : List UInt8) (e : Ending) (w' : World) : Prop := ∃ q, e = .returned (.pointer (some ⟨q, 0, none⟩)) ∧ Made w.heap.size w'.heap.size 31 q Safe T w' ∧ Below w.heap.size w w'
set_option maxRecDepth 100000 in
theorem num_any (s : ByteArray) (w : World) : Calls Tryd.prog 13 #[.string s] w (MkQ w s.data.toList) := by
  go_enter Tryd.func13, Tryd.ntmps13
  go_wp2_with fail
  go_ret
  exact ⟨_, rfl, fun w' hw => prints_query ((Nd.newAt _ _ (by simp)).same hw (by simp) (by simp)) (prints_term_Number (((Nd.new _ _ _).alloc _).same hw (by simp) (by simp; omega))).safe, ((Below.refl _ _).alloc (Nat.le_refl _) _).alloc (by simp) _⟩
set_option maxRecDepth 100000 in
theorem tq_any (k : Int) (s : ByteArray) (w : World) : Calls Tryd.prog 17 #[.int .i64 k, .string s] w (MkQ w (tqText k s)) := by
  by_cases h1 : k = 1
  · subst h1
    go_enter Tryd.func17, Tryd.ntmps17
    go_wp2_with fail
    go_ret
    exact ⟨_, rfl, fun w' hw => prints_query ((Nd.newAt _ _ (by simp)).same hw (by simp) (by simp)) (prints_term_Identity (((Nd.new _ _ _).alloc _).same hw (by simp) (by simp; omega))).safe, ((Below.refl _ _).alloc (Nat.le_refl _) _).alloc (by simp) _⟩
  · have n1 : (k == 1) = false := by simpa using h1
    by_cases h2 : k = 2
    · subst h2
      by_cases hs : s.size = 0
      · have he := empty_iff hs
        have e : tqText 2 s = s.data.toList := by unfold tqText; rw [if_neg h1, if_neg (by simp [hs])]
        rw [e]
        clear e h1 n1 hs
        go_enter Tryd.func17, Tryd.ntmps17
        go_wp2_with fail
        refine (num_any s _).mono ?_
        rintro e w1 ⟨q, rfl, hq, hb⟩
        go_wp2_with fail
        go_ret
        exact ⟨q, rfl, hq, hb⟩
      · have he := ne_empty hs
        have e : tqText 2 s = [46] ++ s.data.toList := by unfold tqText; rw [if_neg h1, if_pos ⟨rfl, hs⟩]
        rw [e]
        clear e h1 n1
        go_enter Tryd.func17, Tryd.ntmps17
        go_wp2_with fail
        go_ret
        exact ⟨_, rfl, fun w' hw => prints_query ((Nd.newAt _ _ (by simp)).same hw (by omega) (by simp)) (prints_term_Index (((Nd.newAt _ _ (by simp)).alloc _).same hw (by simp) (by simp)) (prints_index (suffix_name ((((Nd.new _ _ _).alloc _).alloc _).same hw (by simp) (by simp; omega)) hs))), (((Below.refl _ _).alloc (Nat.le_refl _) _).alloc (by simp) _).alloc (by simp; omega) _⟩
    · have n2 : (k == 2) = false := by simpa using h2
      have e : tqText k s = s.data.toList := by unfold tqText; rw [if_neg h1, if_neg (by simp [h2])]
      rw [e]
      clear e h1 h2
      go_enter Tryd.func17, Tryd.ntmps17
      go_wp2_with fail
      refine (num_any s _).mono ?_
      rintro e w1 ⟨q, rfl, hq, hb⟩
      go_wp2_with fail
      go_ret
      exact ⟨q, rfl, hq, hb⟩

/-- What zzToIdx leaves. -/
def ToI (w : World) (nm : ByteArray) (sl : Bool) (T1 T2 : List UInt8) (hs he : Bool) (e : Ending) (w' : World) : Prop :=
  ∃ (x : Nat) (o1 o2 : Option Nat), e = .returned (.pointer (some ⟨x, 0, none⟩)) ∧ Nd x 52 #[.string nm, .pointer none, qv o1, qv o2, .bool sl] w' ∧ QP w' o1 T1 ∧ QP w' o2 T2 ∧ o1.isSome = hs ∧ o2.isSome = he ∧ Below w.heap.size w w'
set_option maxRecDepth 100000 in
theorem toIdx_any (nm : ByteArray) (sl hs : Bool) (sk : Int) (st : ByteArray) (he : Bool) (ek : Int) (en : ByteArray) (w : World) :
    Calls Tryd.prog 8 #[.agg #[.string nm, .bool sl, .bool hs, .int .i64 sk, .string st, .bool he, .int .i64 ek, .string en]] w (ToI w nm sl (if hs then tqText sk st else []) (if he then tqText ek en else []) hs he) := by
  cases hs <;> cases he
  · go_enter Tryd.func8, Tryd.ntmps8
    go_wp2_with fail
    go_ret
    exact ⟨_, none, none, rfl, Nd.newAt _ _ (by simp), rfl, rfl, rfl, rfl, ((Below.refl _ _).alloc (Nat.le_refl _) _).alloc (by simp) _⟩
  · go_enter Tryd.func8, Tryd.ntmps8
    go_wp2_with fail
    obtain ⟨W, hW⟩ : ∃ W, W = ((w.alloc (.cells #[.string nm, .bool sl, .bool false, .int .i64 sk, .string st, .bool true, .int .i64 ek, .string en] 23)).alloc (.cells #[.string nm, .pointer none, .pointer none, .pointer none, .bool sl] 52)) := ⟨_, rfl⟩
    have hP : Nd w.heap.size 23 #[.string nm, .bool sl, .bool false, .int .i64 sk, .string st, .bool true, .int .i64 ek, .string en] W := by rw [hW]; exact (Nd.new _ _ _).alloc _
    have hX : Nd (w.heap.size + 1) 52 #[.string nm, .pointer none, .pointer none, .pointer none, .bool sl] W := by rw [hW]; exact Nd.newAt _ _ (by simp)
    have hbW : Below w.heap.size w W := by rw [hW]; exact ((Below.refl _ _).alloc (Nat.le_refl _) _).alloc (by simp) _
    have hsW : W.heap.size = w.heap.size + 1 + 1 := by rw [hW, size_alloc, size_alloc]
    rw [← hW]
    have HSW := Lib.hid hsW
    clear hW hsW
    refine (tq_any ek en W).mono ?_
    rintro e w1 ⟨q, rfl, hm, hb1⟩
    have hX1 := hX.below hb1 hX.lt
    have c3 := hX1.cell 3 rfl
    have f3 := hX1.free 3
    have HX1 := Lib.hid hX1
    have HM := Lib.hid hm
    clear hP hX hX1 hm
    go_wp2_with fail
    go_ret
    refine ⟨_, none, some q, rfl, HX1.out.set 3 _, rfl, (HM.out.same ((Same.refl _ _ _).setCell (.inl (by have := HSW.out; omega)) _)).prints, rfl, rfl, ?_⟩
    exact (hbW.trans (hb1.mono hbW.size)).setCell (by simp) _
  · go_enter Tryd.func8, Tryd.ntmps8
    go_wp2_with fail
    obtain ⟨W, hW⟩ : ∃ W, W = ((w.alloc (.cells #[.string nm, .bool sl, .bool true, .int .i64 sk, .string st, .bool false, .int .i64 ek, .string en] 23)).alloc (.cells #[.string nm, .pointer none, .pointer none, .pointer none, .bool sl] 52)) := ⟨_, rfl⟩
    have hP : Nd w.heap.size 23 #[.string nm, .bool sl, .bool true, .int .i64 sk, .string st, .bool false, .int .i64 ek, .string en] W := by rw [hW]; exact (Nd.new _ _ _).alloc _
    have hX : Nd (w.heap.size + 1) 52 #[.string nm, .pointer none, .pointer none, .pointer none, .bool sl] W := by rw [hW]; exact Nd.newAt _ _ (by simp)
    have hbW : Below w.heap.size w W := by rw [hW]; exact ((Below.refl _ _).alloc (Nat.le_refl _) _).alloc (by simp) _
    have hsW : W.heap.size = w.heap.size + 1 + 1 := by rw [hW, size_alloc, size_alloc]
    rw [← hW]
    have HSW := Lib.hid hsW
    clear hW hsW
    refine (tq_any sk st W).mono ?_
    rintro e w1 ⟨q, rfl, hm, hb1⟩
    have hX1 := hX.below hb1 hX.lt
    have hP1 := hP.below hb1 hP.lt
    have c2 := hX1.cell 2 rfl
    have f2 := hX1.free 2
    have p5 := hP1.cell 5 rfl
    have HX1 := Lib.hid hX1
    have HM := Lib.hid hm
    clear hP hX hX1 hm hP1
    go_wp2_with fail
    go_ret
    refine ⟨_, some q, none, rfl, HX1.out.set 2 _, (HM.out.same ((Same.refl _ _ _).setCell (.inl (by have := HSW.out; omega)) _)).prints, rfl, rfl, rfl, ?_⟩
    exact (hbW.trans (hb1.mono hbW.size)).setCell (by simp) _
  · go_enter Tryd.func8, Tryd.ntmps8
    go_wp2_with fail
    obtain ⟨W, hW⟩ : ∃ W, W = ((w.alloc (.cells #[.string nm, .bool sl, .bool true, .int .i64 sk, .string st, .bool true, .int .i64 ek, .string en] 23)).alloc (.cells #[.string nm, .pointer none, .pointer none, .pointer none, .bool sl] 52)) := ⟨_, rfl⟩
    have hP : Nd w.heap.size 23 #[.string nm, .bool sl, .bool true, .int .i64 sk, .string st, .bool true, .int .i64 ek, .string en] W := by rw [hW]; exact (Nd.new _ _ _).alloc _
    have hX : Nd (w.heap.size + 1) 52 #[.string nm, .pointer none, .pointer none, .pointer none, .bool sl] W := by rw [hW]; exact Nd.newAt _ _ (by simp)
    have hbW : Below w.heap.size w W := by rw [hW]; exact ((Below.refl _ _).alloc (Nat.le_refl _) _).alloc (by simp) _
    have hsW : W.heap.size = w.heap.size + 1 + 1 := by rw [hW, size_alloc, size_alloc]
    rw [← hW]
    have HSW := Lib.hid hsW
    clear hW hsW
    refine (tq_any sk st W).mono ?_
    rintro e w1 ⟨q, rfl, hm, hb1⟩
    have hX1 := hX.below hb1 hX.lt
    have hP1 := hP.below hb1 hP.lt
    have c2 := hX1.cell 2 rfl
    have f2 := hX1.free 2
    have hX2 := hX1.set 2 (.pointer (some ⟨q, 0, none⟩))
    have hP2 := hP1.setNe (b := w.heap.size + 1) (i := 2) (by omega) (.pointer (some ⟨q, 0, none⟩))
    have hM2 := hm.same ((Same.refl _ _ _).setCell (b := w.heap.size + 1) (i := 2) (.inl (by have := HSW.out; omega)) (.pointer (some ⟨q, 0, none⟩)))
    have hb2 : Below w.heap.size w (w1.setCell ⟨w.heap.size + 1, 2, none⟩ (.pointer (some ⟨q, 0, none⟩))) := (hbW.trans (hb1.mono hbW.size)).setCell (by simp) _
    have hz2 := size_setCell w1 ⟨w.heap.size + 1, 2, none⟩ (.pointer (some ⟨q, 0, none⟩))
    obtain ⟨W2, hW2⟩ : ∃ W2, W2 = w1.setCell ⟨w.heap.size + 1, 2, none⟩ (.pointer (some ⟨q, 0, none⟩)) := ⟨_, rfl⟩
    rw [← hW2] at hX2 hP2 hM2 hb2 hz2
    have p5 := hP2.cell 5 rfl
    have p6 := hP2.cell 6 rfl
    have p7 := hP2.cell 7 rfl
    have HX2 := Lib.hid hX2
    have HP2 := Lib.hid hP2
    have HM2 := Lib.hid hM2
    have HZ := Lib.hid hz2
    have hW2' := hW2.symm
    clear hP hX hX1 hm hP1 hX2 hP2 hM2 hW2 hz2
    go_wp2_with fail
    refine (tq_any ek en W2).mono ?_
    rintro e w3 ⟨q2, rfl, hm3, hb3⟩
    have hX3 := HX2.out.below hb3 HX2.out.lt
    have c3 := hX3.cell 3 rfl
    have f3 := hX3.free 3
    have HX3 := Lib.hid hX3
    have HM3 := Lib.hid hm3
    clear hW2' hX3 hm3 c2 f2 p5 p6 p7
    go_wp2_with fail
    go_ret
    have hz := HZ.out
    have hz1 := hb1.size
    have hs0 := HSW.out
    refine ⟨_, some q, some q2, rfl, HX3.out.set 3 _, (HM2.out.same (Same.setCell (Same.below hb3 (by omega)) (.inl (by omega)) _)).prints, (HM3.out.same ((Same.refl _ _ _).setCell (.inl (by omega)) _)).prints, rfl, rfl, ?_⟩
    exact (hb2.trans (hb3.mono hb2.size)).setCell (by simp) _
end Go.Proofs.YthfhfocdbkieoaaDoor
