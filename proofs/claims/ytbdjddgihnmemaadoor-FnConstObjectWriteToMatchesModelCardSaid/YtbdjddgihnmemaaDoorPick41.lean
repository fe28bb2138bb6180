/- Kinds, picks, values by kind. -/
import Derived.Test.YtbdjddgihnmemaaDoorToS41
import Derived.Test.YtbdjddgihnmemaaDoorKv41
namespace Go.Proofs.YtbdjddgihnmemaaDoor
open Go.RowKit

def kd (k : Int) : Int := k % 6
theorem kd_lt (k : Int) : 0 ≤ kd k ∧ kd k < 6 := by unfold kd; omega
theorem tmod6 (k : Int) : (0 ≤ k ∧ k.tmod 6 = k % 6) ∨ (k < 0 ∧ k.tmod 6 = -((-k) % 6)) := by
  by_cases h : 0 ≤ k
  · exact .inl ⟨h, Int.tmod_eq_emod_of_nonneg h⟩
  · refine .inr ⟨by omega, ?_⟩
    have e := Int.tmod_eq_emod_of_nonneg (a := -k) (b := 6) (by omega)
    rw [Int.neg_tmod] at e
    omega
set_option maxHeartbeats 1000000 in
set_option maxRecDepth 100000 in
theorem kind6_any (k : Int) (w : World) :
    Calls Tryd.prog 37 #[.int .i64 k] w fun e w' => e = .returned (.int .i64 (kd k)) ∧ w = w' := by
  have ht := tmod6 k
  by_cases h : k.tmod 6 < 0
  · have hd : decide (k.tmod 6 < 0) = true := by simpa using h
    have hr : -6 < k.tmod 6 := by omega
    have HE : Hid (k.tmod 6 + 6 = kd k) := Lib.hid (by unfold kd; omega)
    obtain ⟨m, hm⟩ : ∃ m, k.tmod 6 = m := ⟨_, rfl⟩
    rw [hm] at HE h hd hr
    clear ht
    go_enter Tryd.func37, Tryd.ntmps37
    go_wp2_with fail
    go_ret
    exact ⟨ret_int HE.out, rfl⟩
  · have hd : decide (k.tmod 6 < 0) = false := by simpa using h
    have hr : k.tmod 6 < 6 := by omega
    have HE : Hid (k.tmod 6 = kd k) := Lib.hid (by unfold kd; omega)
    obtain ⟨m, hm⟩ : ∃ m, k.tmod 6 = m := ⟨_, rfl⟩
    rw [hm] at HE h hd hr
    clear ht
    go_enter Tryd.func37, Tryd.ntmps37
    go_wp2_with fail
    go_ret
    exact ⟨ret_int HE.out, rfl⟩
def pkK (ks : List Int) (i : Nat) : Int := if i < ks.length then kd (ks.getD i 0) else 0
def pkN (ns : List Int) (i : Nat) : Int := ns.getD i 0
theorem pkK_lt (ks : List Int) (i : Nat) : 0 ≤ pkK ks i ∧ pkK ks i < 6 := by unfold pkK; split; exact kd_lt _; omega
def I64s (ns : List Int) : Prop := ∀ n ∈ ns, -9223372036854775808 ≤ n ∧ n ≤ 9223372036854775807
theorem pkN_b {ns : List Int} (h : I64s ns) (i : Nat) : -9223372036854775808 ≤ pkN ns i ∧ pkN ns i ≤ 9223372036854775807 := by
  unfold pkN
  by_cases hi : i < ns.length
  · rw [show ns.getD i 0 = ns[i] by simp [hi]]; exact h _ (List.getElem_mem hi)
  · rw [List.getD_eq_getElem?_getD, List.getElem?_eq_none (by omega)]; exact ⟨by decide, by decide⟩
set_option maxHeartbeats 1000000 in
set_option maxRecDepth 100000 in
theorem pick_any (v1 v2 : Value) (ks ns : List Int) (i : Nat) (w : World) (h1 : Sl v1 (ks.map (Value.int .i64)) w) (h2 : Sl v2 (ns.map (Value.int .i64)) w) :
    Calls Tryd.prog 29 #[v1, v2, .int .i64 (i : Nat)] w fun e w' => e = .returned (.tuple #[.int .i64 (pkK ks i), .int .i64 (pkN ns i)]) ∧ w = w' := by
  have H1 := Lib.hid h1
  have H2 := Lib.hid h2
  obtain ⟨a1, c1, e1, _⟩ := h1
  obtain ⟨a2, c2, e2, _⟩ := h2
  rw [List.length_map] at e1 e2
  subst e1 e2
  have HK : ∀ (_ : i < ks.length) (W : World), Hid (Calls Tryd.prog 37 #[.int .i64 ks[i]] W fun e w' => e = .returned (.int .i64 (kd ks[i])) ∧ W = w') := fun _ W => Lib.hid (kind6_any _ _)
  by_cases n1 : i < ks.length
  · obtain ⟨b1, o1, ha, hc⟩ := sl_cell H1.out n1
    subst ha
    have eK : Hid (pkK ks i = kd ks[i]) := Lib.hid (by unfold pkK; rw [if_pos n1]; simp [n1])
    have HK := HK n1
    obtain ⟨x, hx⟩ : ∃ x, x = ks[i] := ⟨_, rfl⟩
    rw [← hx] at hc HK eK
    clear hx
    by_cases n2 : i < ns.length
    · obtain ⟨b2, o2, ha2, hc2⟩ := sl_cell H2.out n2
      subst ha2
      have eN : Hid (pkN ns i = ns[i]) := Lib.hid (by unfold pkN; simp [n2])
      obtain ⟨y, hy⟩ : ∃ y, y = ns[i] := ⟨_, rfl⟩
      rw [← hy] at hc2 eN
      clear hy
      go_enter Tryd.func29, Tryd.ntmps29
      go_wp2_with fail
      refine (HK _).out.mono ?_
      rintro e w' ⟨rfl, rfl⟩
      go_wp2_with fail
      go_ret2
      exact ⟨by rw [eK.out, eN.out]; rfl, rfl⟩
    · have eN : Hid (pkN ns i = 0) := Lib.hid (by unfold pkN; rw [List.getD_eq_getElem?_getD, List.getElem?_eq_none (by omega)]; rfl)
      go_enter Tryd.func29, Tryd.ntmps29
      go_wp2_with fail
      refine (HK _).out.mono ?_
      rintro e w' ⟨rfl, rfl⟩
      go_wp2_with fail
      go_ret2
      exact ⟨by rw [eK.out, eN.out]; rfl, rfl⟩
  · have eK : Hid (pkK ks i = 0) := Lib.hid (by unfold pkK; rw [if_neg n1])
    clear HK
    by_cases n2 : i < ns.length
    · obtain ⟨b2, o2, ha2, hc2⟩ := sl_cell H2.out n2
      subst ha2
      have eN : Hid (pkN ns i = ns[i]) := Lib.hid (by unfold pkN; simp [n2])
      obtain ⟨y, hy⟩ : ∃ y, y = ns[i] := ⟨_, rfl⟩
      rw [← hy] at hc2 eN
      clear hy
      go_enter Tryd.func29, Tryd.ntmps29
      go_wp2_with fail
      go_ret2
      exact ⟨by rw [eK.out, eN.out]; rfl, rfl⟩
    · have eN : Hid (pkN ns i = 0) := Lib.hid (by unfold pkN; rw [List.getD_eq_getElem?_getD, List.getElem?_eq_none (by omega)]; rfl)
      go_enter Tryd.func29, Tryd.ntmps29
      go_wp2_with fail
      go_ret2
      exact ⟨by rw [eK.out, eN.out]; rfl, rfl⟩

/-- What a value of kind k prints. -/
def valT (k n : Int) : List UInt8 := if k = 0 then [110, 117, 108, 108] else if k = 1 then [102, 97, 108, 115, 101] else if k = 2 then [116, 114, 117, 101] else if k = 3 then itoaL n else if k = 4 then [91, 93] else [123, 125]
theorem valT_le (k n : Int) (h1 : -9223372036854775808 ≤ n) (h2 : n ≤ 9223372036854775807) : (valT k n).length ≤ 24 := by
  have := itoa_le n h1 h2
  unfold valT
  repeat' split
  all_goals first | exact this | simp
theorem kind_cases {k : Int} (h : 0 ≤ k ∧ k < 6) : k = 0 ∨ k = 1 ∨ k = 2 ∨ k = 3 ∨ k = 4 ∨ k = 5 := by omega
set_option maxHeartbeats 1000000 in
set_option maxRecDepth 100000 in
theorem valText_any (k n : Int) (w : World) (hk : 0 ≤ k ∧ k < 6) (h1 : -9223372036854775808 ≤ n) (h2 : n ≤ 9223372036854775807) :
    Calls Tryd.prog 32 #[.int .i64 k, .int .i64 n] w fun e w' => e = .returned (.string ⟨(valT k n).toArray⟩) ∧ Below w.heap.size w w' := by
  have HI := Lib.hid (itoa_any n w h1 h2)
  rcases kind_cases hk with rfl | rfl | rfl | rfl | rfl | rfl
  case inr.inr.inr.inl =>
    go_enter Tryd.func32, Tryd.ntmps32
    go_wp2_with fail
    refine HI.out.mono ?_
    rintro e w' ⟨rfl, hb⟩
    go_wp2_with fail
    go_ret
    exact ⟨rfl, hb⟩
  all_goals
    go_enter Tryd.func32, Tryd.ntmps32
    go_wp2_with fail
    go_ret
    exact ⟨rfl, Below.refl _ _⟩
/-- A value made. -/
def MadeV (k n : Int) (w : World) (e : Ending) (w' : World) : Prop := ∃ t, e = .returned (.pointer (some ⟨t, 0, none⟩)) ∧ Made w.heap.size w'.heap.size 34 t Any (valT k n) w' ∧ Below w.heap.size w w'
set_option maxHeartbeats 1000000 in
set_option maxRecDepth 100000 in
theorem valTerm_any (k n : Int) (w : World) (hk : 0 ≤ k ∧ k < 6) (h1 : -9223372036854775808 ≤ n) (h2 : n ≤ 9223372036854775807) :
    Calls Tryd.prog 30 #[.int .i64 k, .int .i64 n] w (MadeV k n w) := by
  have HI := Lib.hid (itoa_any n w h1 h2)
  rcases kind_cases hk with rfl | rfl | rfl | rfl | rfl | rfl
  case inr.inr.inr.inl =>
    go_enter Tryd.func30, Tryd.ntmps30
    go_wp2_with fail
    refine HI.out.mono ?_
    rintro e w' ⟨rfl, hb⟩
    go_wp2_with fail
    go_ret
    have hz := hb.size
    refine ⟨_, rfl, fun W hW => ?_, hb.trans (((Below.refl _ _).alloc (Nat.le_refl _) _).mono hz)⟩
    obtain ⟨c, r, hc, _⟩ := itoa_head n
    have hz2 : (⟨(itoaL n).toArray⟩ : ByteArray).size ≠ 0 := by show (itoaL n).toArray.size ≠ 0; rw [List.size_toArray, hc]; simp
    have hp := prints_ct ((Nd.new w' 66 _).same hW hz (by rw [size_alloc]; omega)) (by decide)
    rw [show ctT ⟨(itoaL n).toArray⟩ ⟨#[]⟩ false false false = valT 3 n by unfold ctT; rw [if_pos hz2]; rfl] at hp
    exact hp
  case inr.inr.inr.inr.inl =>
    go_enter Tryd.func30, Tryd.ntmps30
    go_wp2_with fail
    go_ret
    refine ⟨_, rfl, fun W hW => ?_, ((Below.refl _ _).alloc (Nat.le_refl _) _).alloc (by rw [size_alloc]; omega) _⟩
    exact prints_ctA ((Nd.newAt 66 _ (by rw [size_alloc])).same hW (by omega) (by rw [size_alloc, size_alloc]; omega)) (prints_carr0 (((Nd.new w 69 _).alloc _).same hW (Nat.le_refl _) (by rw [size_alloc, size_alloc]; omega)))
  case inr.inr.inr.inr.inr =>
    go_enter Tryd.func30, Tryd.ntmps30
    go_wp2_with fail
    go_ret
    refine ⟨_, rfl, fun W hW => ?_, ((Below.refl _ _).alloc (Nat.le_refl _) _).alloc (by rw [size_alloc]; omega) _⟩
    exact prints_ctO ((Nd.newAt 66 _ (by rw [size_alloc])).same hW (by omega) (by rw [size_alloc, size_alloc]; omega)) (prints_cobj0 (((Nd.new w 43 _).alloc _).same hW (Nat.le_refl _) (by rw [size_alloc, size_alloc]; omega)))
  all_goals
    go_enter Tryd.func30, Tryd.ntmps30
    go_wp2_with fail
    go_ret
    exact ⟨_, rfl, fun W hW => prints_ct ((Nd.new w 66 _).same hW (Nat.le_refl _) (by rw [size_alloc]; omega)) (by decide), (Below.refl _ _).alloc (Nat.le_refl _) _⟩
end Go.Proofs.YtbdjddgihnmemaaDoor
