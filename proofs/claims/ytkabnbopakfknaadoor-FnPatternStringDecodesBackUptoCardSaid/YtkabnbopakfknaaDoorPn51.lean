/- The law's reader of patterns: what it owes; a name. -/
import Derived.Test.YtkabnbopakfknaaDoorEq51
import Derived.Test.YtkabnbopakfknaaDoorWo51
import Derived.Handy
namespace Go.Proofs.YtkabnbopakfknaaDoor
open Go.RowKit
set_option linter.unusedVariables false
set_option linter.unusedSimpArgs false

/-- Wherever the blocks from lo to hi stay, and the given data, the two trees are equal. -/
def EqM (lo hi : Nat) (cs es : List Value) (w W : World) : Prop := ∀ W', Same lo hi W W' → Below w.heap.size w W' → EqC cs es W'
/-- The reader reads T back. -/
def ParC (T : List UInt8) (es : List Value) (w : World) : Prop := ∀ (s : ByteArray) (pre post : List UInt8), s.data.toList = pre ++ T ++ post → s.size ≤ 10000000000 → (∀ c, post.head? = some c → identN c.toNat = false) → ∀ W, Below w.heap.size w W →
  Calls Tryd.prog 10 #[.string s, .int .i64 pre.length] W (fun e W' => ∃ x0 x1 x2, (x0.oneCell' = true ∧ x1.oneCell' = true ∧ x2.oneCell' = true) ∧ e = .returned (.tuple #[.agg #[x0, x1, x2], .int .i64 (pre.length + T.length : Nat), .bool true]) ∧ Below W.heap.size W W' ∧ EqM W.heap.size W'.heap.size [x0, x1, x2] es w W')
theorem byteN_get (s : ByteArray) (i : Nat) : byteN s i = match s.data.toList[i]? with | some c => c.toNat | none => 0 := by
  unfold byteN
  split
  · rename_i h
    have : s.data.toList[i]? = some s[i] := by rw [Array.getElem?_toList]; exact Array.getElem?_eq_getElem h
    rw [this]
  · rename_i h
    have : s.data.toList[i]? = none := by rw [Array.getElem?_toList]; exact Array.getElem?_eq_none (by have : s.data.size = s.size := rfl; omega)
    rw [this]
theorem byteN_mid {s nm : ByteArray} {pre post : List UInt8} (h : s.data.toList = pre ++ nm.data.toList ++ post) (t : Nat) (ht : t < nm.size) : byteN s (pre.length + t) = byteN nm t := by
  have hl : nm.data.toList.length = nm.size := by rw [Array.length_toList]; rfl
  rw [byteN_get, byteN_get, h, List.append_assoc, List.getElem?_append_right (by omega), Nat.add_sub_cancel_left, List.getElem?_append_left (by omega)]
theorem byteN_post {s : ByteArray} {pre T post : List UInt8} {c : UInt8} (h : s.data.toList = pre ++ T ++ post) (hc : post.head? = some c) : byteN s (pre.length + T.length) = c.toNat := by
  rw [byteN_get, h, List.getElem?_append_right (by rw [List.length_append]; omega), List.length_append, Nat.sub_self, ← List.head?_eq_getElem?, hc]
theorem size_of {s : ByteArray} {pre T post : List UInt8} (h : s.data.toList = pre ++ T ++ post) : s.size = pre.length + T.length + post.length := by
  have : s.data.toList.length = s.size := by rw [Array.length_toList]; rfl
  rw [← this, h, List.length_append, List.length_append]
def JRel (p n : Nat) (W : World) (vj : Value) (wr : World) : Prop := ∃ t : Nat, 1 ≤ t ∧ t ≤ n ∧ vj = .int .i64 (p + t : Nat) ∧ wr = W
theorem extract_mid {s nm : ByteArray} {pre post : List UInt8} {p : Nat} (h : s.data.toList = pre ++ nm.data.toList ++ post) (hp : pre.length = p) : s.extract p (p + nm.size) = nm := by
  have hl : nm.data.toList.length = nm.size := by rw [Array.length_toList]; rfl
  apply ByteArray.ext
  apply Array.ext'
  rw [ByteArray.data_extract, Array.toList_extract, h]
  subst hp
  rw [List.append_assoc]
  show ((pre ++ (nm.data.toList ++ post)).drop pre.length).take (pre.length + nm.size - pre.length) = _
  rw [List.drop_left, Nat.add_sub_cancel_left, ← hl, List.take_left]
theorem eqm_name (lo hi : Nat) (nm : ByteArray) (a a' : Option Addr) (c c' : Nat) (w W : World) : EqM lo hi [.string nm, .slice none 0 0, .slice none 0 0] [.string nm, .slice a 0 c, .slice a' 0 c'] w W :=
  fun W' _ _ W'' _ => eq_any nm none a none a' 0 0 c 0 0 c' W'' (by omega) (by omega) (fun i hi => by omega) (fun i hi => by omega)
set_option maxHeartbeats 2000000 in
set_option maxRecDepth 100000 in
theorem par_name (nm : ByteArray) (a a' : Option Addr) (c c' : Nat) (w : World) (hn : nm.size ≤ 1048576) (hok : nameOk nm = true) : ParC nm.data.toList [.string nm, .slice a 0 c, .slice a' 0 c'] w := by
  intro s pre post hs hsz hpost W hW
  have hl : nm.data.toList.length = nm.size := by rw [Array.length_toList]; rfl
  have hsize := size_of hs
  unfold nameOk at hok
  rw [Bool.and_eq_true, Bool.and_eq_true, decide_eq_true_eq, decide_eq_true_eq] at hok
  obtain ⟨⟨hok2, hok36⟩, hokall⟩ := hok
  obtain ⟨p, hp⟩ : ∃ p, pre.length = p := ⟨_, rfl⟩
  rw [hp] at hsize ⊢
  have hb36 : byteN s p = 36 := by have := byteN_mid hs 0 (by omega); rw [Nat.add_zero, hp] at this; rw [this, hok36]
  have h0lt : p < s.size := by omega
  have hi0 : (((s[p]'h0lt).toNat : Nat) : Int) = 36 := by rw [← byteN_at h0lt, hb36]; rfl
  have HS := Lib.hid hs
  have HPO := Lib.hid hpost
  have HALL := Lib.hid hokall
  have HSZ := Lib.hid hsize
  have HL := Lib.hid hl
  have HWW := Lib.hid hW
  have HPP := Lib.hid hp
  rw [hl] at hsize
  clear hs hpost hokall hb36 hW hp
  have hps : p + nm.size ≤ s.size := by omega
  rw [hl]
  have hd0 : decide ((s.size : Int) ≤ (p : Int)) = false := by simp; omega
  have hd1 : decide (s.size ≤ p) = false := by simp; omega
  clear hsize hl hok36
  go_enter Tryd.func10, Tryd.ntmps10
  go_wp2_with fail
  clear hi0
  go_loopw [8] (JRel p nm.size (W.alloc (.cells #[.string ⟨#[]⟩, .slice none 0 0, .slice none 0 0] 25))) (fun j _ => p + nm.size - (Go.RowKit.intOf j).toNat)
  case atStart => exact ⟨1, Nat.le_refl _, by omega, by go_num, rfl⟩
  case round =>
    obtain ⟨t, ht1, ht, rfl, rfl⟩ := hrel
    by_cases hlt : t < nm.size
    · have hjt : p + t < s.size := by omega
      obtain ⟨y, hye⟩ : ∃ y, byteN nm t = y := ⟨_, rfl⟩
      have hy : byteN s (p + t) = y := by rw [← hye, ← byteN_mid HS.out t hlt, HPP.out]
      rw [byteN_at hjt] at hy
      have hid : identN y = true := by
        have := allB_true HALL.out t hlt
        unfold nmP at this
        rw [hye, decide_eq_false (by omega), Bool.false_or] at this
        exact this
      have hy0 : (((s[p + t]'hjt).toNat : Nat) : Int) = (y : Int) := by rw [hy]
      have HC := Lib.hid (ident_any y (by rw [← hye]; exact byteN_le nm t) (W.alloc (.cells #[.string ⟨#[]⟩, .slice none 0 0, .slice none 0 0] 25)))
      rw [hid] at HC
      clear hid hye
      go_wp2_with fail
      refine HC.out.mono ?_
      rintro e w1 ⟨rfl, rfl⟩
      go_wp2_with fail
      go_roundw
      case rel => exact ⟨t + 1, by omega, by omega, by go_num, rfl⟩
      case measure => first | omega | (simp; omega) | (simp [Go.RowKit.intOf]; omega)
    · obtain rfl : t = nm.size := by omega
      have hj2 : (((p : Int) + (nm.size : Int)) == (p : Int) + 1) = false := by simp; omega
      cases hpo : post with
      | nil =>
        have hse : s.size = p + nm.size := by have := HSZ.out; rw [hpo, HL.out] at this; simpa using this
        have hjn : decide (p + nm.size < s.size) = false := by simp; omega
        have hjn' : decide ((p : Int) + (nm.size : Int) < (s.size : Int)) = false := by simp; omega
        have HSE := Lib.hid hse
        clear hse
        go_wp2_with fail
        go_returns
        refine ⟨.string nm, .slice none 0 0, .slice none 0 0, ⟨rfl, rfl, rfl⟩, ?_, (Below.refl _ _).alloc (Nat.le_refl _) _, eqm_name _ _ nm a a' c c' w _⟩
        rw [extract_mid HS.out HPP.out, Int.natCast_add]
      | cons ch post' =>
        have hy := byteN_post HS.out (c := ch) (by rw [hpo]; rfl)
        have hid := HPO.out ch (by rw [hpo]; rfl)
        have hjt : p + nm.size < s.size := by have := HSZ.out; rw [hpo, HL.out] at this; simp at this; omega
        rw [HL.out, HPP.out, byteN_at hjt] at hy
        obtain ⟨y, hye⟩ : ∃ y, ch.toNat = y := ⟨_, rfl⟩
        rw [hye] at hy hid
        have hy0 : (((s[p + nm.size]'hjt).toNat : Nat) : Int) = (y : Int) := by rw [hy]
        have HC := Lib.hid (ident_any y (by rw [← hye]; have := UInt8.toNat_lt ch; omega) (W.alloc (.cells #[.string ⟨#[]⟩, .slice none 0 0, .slice none 0 0] 25)))
        rw [hid] at HC
        clear hid hye hpo
        go_wp2_with fail
        refine HC.out.mono ?_
        rintro e w1 ⟨rfl, rfl⟩
        go_wp2_with fail
        go_returns
        refine ⟨.string nm, .slice none 0 0, .slice none 0 0, ⟨rfl, rfl, rfl⟩, ?_, (Below.refl _ _).alloc (Nat.le_refl _) _, eqm_name _ _ nm a a' c c' w _⟩
        rw [extract_mid HS.out HPP.out, Int.natCast_add]
end Go.Proofs.YtkabnbopakfknaaDoor
