/- The law's helpers on white space: b1SpaceLenAt is headSpace. -/
import Derived.Test.YtnnjoehhjmomaaaDoorKit
import Derived.Test.YtnnjoehhjmomaaaDoorPlain31
import Derived.Test.YtnnjoehhjmomaaaDoorProg
import Derived.Outline
namespace Go.Proofs.YtnnjoehhjmomaaaDoor
open Go.RowKit Go.Lib
set_option linter.unusedVariables false
set_option linter.unusedSimpArgs false

def C1 (b : Nat) : Prop := b = 32 ∨ (9 ≤ b ∧ b ≤ 13)
def C2 (b c : Nat) : Prop := b = 194 ∧ (c = 133 ∨ c = 160)
def C3 (b c d : Nat) : Prop := (b = 225 ∧ c = 154 ∧ d = 128) ∨ (b = 226 ∧ c = 128 ∧ ((128 ≤ d ∧ d ≤ 138) ∨ d = 168 ∨ d = 169 ∨ d = 175)) ∨ (b = 226 ∧ c = 129 ∧ d = 159) ∨ (b = 227 ∧ c = 128 ∧ d = 128)
instance (b : Nat) : Decidable (C1 b) := by unfold C1; infer_instance
instance (b c : Nat) : Decidable (C2 b c) := by unfold C2; infer_instance
instance (b c d : Nat) : Decidable (C3 b c d) := by unfold C3; infer_instance
def bt (l : List UInt8) (k : Nat) : Nat := (l.getD k 0).toNat
theorem seq_shape : ∀ q ∈ spaceSeqs, (q.length = 1 ∧ C1 (bt q 0)) ∨ (q.length = 2 ∧ C2 (bt q 0) (bt q 1)) ∨ (q.length = 3 ∧ C3 (bt q 0) (bt q 1) (bt q 2)) := by decide
theorem bt_pre {q l : List UInt8} (h : q <+: l) (k : Nat) (hk : k < q.length) : bt l k = bt q k := by
  obtain ⟨t, rfl⟩ := h
  unfold bt
  simp only [List.getD_eq_getElem?_getD]
  rw [List.getElem?_append_left hk]
theorem byte_eq {x : UInt8} {n : Nat} (h : x.toNat = n) : x = UInt8.ofNat n := by subst h; simp
theorem pre_take (l : List UInt8) (k : Nat) (q : List UInt8) (h : l.take k = q) : q <+: l := h ▸ List.take_prefix k l
theorem hs_1 (l : List UInt8) (hl : 1 ≤ l.length) (h : C1 (bt l 0)) : headSpace l = 1 := by
  have hm := mem1 ⟨bt l 0, (l.getD 0 0).toNat_lt⟩ (by unfold C1 at h; simp only; omega)
  simp only at hm
  have e : [UInt8.ofNat (bt l 0)] = [l.getD 0 0] := by unfold bt; simp
  rw [e] at hm
  exact head_of hm (pre_take l 1 _ (take1 l hl))
theorem hs_2 (l : List UInt8) (hl : 2 ≤ l.length) (h : C2 (bt l 0) (bt l 1)) : headSpace l = 2 := by
  have hm := mem2 ⟨bt l 1, (l.getD 1 0).toNat_lt⟩ (by unfold C2 at h; simp only; omega)
  simp only at hm
  have e : UInt8.ofNat (bt l 1) = l.getD 1 0 := by unfold bt; simp
  have e0 : l.getD 0 0 = 194 := byte_eq h.1
  rw [e, ← e0] at hm
  exact head_of hm (pre_take l 2 _ (take2 l hl))
theorem hs_3 (l : List UInt8) (hl : 3 ≤ l.length) (h : C3 (bt l 0) (bt l 1) (bt l 2)) : headSpace l = 3 := by
  have hp := pre_take l 3 _ (take3 l hl)
  have hm : [l.getD 0 0, l.getD 1 0, l.getD 2 0] ∈ spaceSeqs := by
    rcases h with ⟨h0, h1, h2⟩ | ⟨h0, h1, h2⟩ | ⟨h0, h1, h2⟩ | ⟨h0, h1, h2⟩
    · rw [byte_eq h0, byte_eq h1, byte_eq h2]; decide
    · have hm := mem3 ⟨bt l 2, (l.getD 2 0).toNat_lt⟩ (by simp only; omega)
      simp only at hm
      have e : UInt8.ofNat (bt l 2) = l.getD 2 0 := by unfold bt; simp
      rw [e] at hm
      rw [byte_eq h0, byte_eq h1]; exact hm
    · rw [byte_eq h0, byte_eq h1, byte_eq h2]; decide
    · rw [byte_eq h0, byte_eq h1, byte_eq h2]; decide
  exact head_of hm hp
theorem hs_0 (l : List UInt8) (h1 : ¬ C1 (bt l 0)) (h2 : 2 ≤ l.length → ¬ C2 (bt l 0) (bt l 1)) (h3 : 3 ≤ l.length → ¬ C3 (bt l 0) (bt l 1) (bt l 2)) : headSpace l = 0 := by
  refine head_zero fun q hq hp => ?_
  have hle := hp.length_le
  rcases seq_shape q hq with ⟨hl, hc⟩ | ⟨hl, hc⟩ | ⟨hl, hc⟩
  · rw [← bt_pre hp 0 (by omega)] at hc; exact h1 hc
  · rw [← bt_pre hp 0 (by omega), ← bt_pre hp 1 (by omega)] at hc; exact h2 (by omega) hc
  · rw [← bt_pre hp 0 (by omega), ← bt_pre hp 1 (by omega), ← bt_pre hp 2 (by omega)] at hc; exact h3 (by omega) hc

/-- The white space at place i. -/
def HS (s : ByteArray) (i : Nat) : Nat := headSpace (s.data.toList.drop i)
theorem hs_le (s : ByteArray) (i : Nat) (hi : i ≤ s.size) : i + HS s i ≤ s.size ∧ HS s i ≤ 3 := by
  have h := head_le (s.data.toList.drop i)
  rw [List.length_drop] at h
  have e : s.data.toList.length = s.size := by simp
  unfold HS
  constructor
  · omega
  · by_cases hh : headSpace (s.data.toList.drop i) = 0
    · omega
    · obtain ⟨q, hq, _, e⟩ := head_some hh
      rw [e]; exact (seq_len q hq).2
theorem bt_at (s : ByteArray) (i k : Nat) (h : i + k < s.size) : bt (s.data.toList.drop i) k = s[i + k].toNat := by
  unfold bt
  rw [getD_dropU]
  have : s.data.toList.getD (i + k) 0 = s[i + k] := by
    rw [ByteArray.getElem_eq_getElem_data, List.getD_eq_getElem?_getD, List.getElem?_eq_getElem (by simpa using h)]
    simp
  rw [this]
theorem len_at (s : ByteArray) (i : Nat) : (s.data.toList.drop i).length = s.size - i := by rw [List.length_drop]; simp
set_option maxHeartbeats 4000000 in
set_option maxRecDepth 100000 in
theorem spl_any (s : ByteArray) (i : Nat) (w : World) (hs : s.size ≤ 100000000) (hi : i ≤ s.size) :
    Calls Tryd.prog 18 #[.string s, .int .i64 (i : Int)] w fun e w' => e = .returned (.int .i64 (HS s i : Nat)) ∧ w = w' := by
  obtain ⟨h, hh⟩ : ∃ h, HS s i = h := ⟨_, rfl⟩
  rw [hh]
  have HH := Lib.hid hh
  clear hh
  by_cases h0 : i < s.size
  · have b0 : Hid (bt (s.data.toList.drop i) 0 = s[i].toNat) := Lib.hid (bt_at s i 0 h0)
    have hb : s[i].toNat < 256 := UInt8.toNat_lt _
    have E1 : Hid (C1 s[i].toNat → h = 1) := Lib.hid fun hc => by rw [← HH.out]; exact hs_1 _ (by rw [len_at]; omega) (by rw [b0.out]; exact hc)
    by_cases h1 : i + 1 < s.size
    · have b1 : Hid (bt (s.data.toList.drop i) 1 = s[i + 1].toNat) := Lib.hid (bt_at s i 1 h1)
      have E2 : Hid (C2 s[i].toNat s[i + 1].toNat → h = 2) := Lib.hid fun hc => by rw [← HH.out]; exact hs_2 _ (by rw [len_at]; omega) (by rw [b0.out, b1.out]; exact hc)
      by_cases h2 : i + 2 < s.size
      · have b2 : Hid (bt (s.data.toList.drop i) 2 = s[i + 2].toNat) := Lib.hid (bt_at s i 2 h2)
        have E3 : Hid (C3 s[i].toNat s[i + 1].toNat s[i + 2].toNat → h = 3) := Lib.hid fun hc => by rw [← HH.out]; exact hs_3 _ (by rw [len_at]; omega) (by rw [b0.out, b1.out, b2.out]; exact hc)
        have E0 : Hid (¬ C1 s[i].toNat → ¬ C2 s[i].toNat s[i + 1].toNat → ¬ C3 s[i].toNat s[i + 1].toNat s[i + 2].toNat → h = 0) := Lib.hid fun q1 q2 q3 => by rw [← HH.out]; exact hs_0 _ (by rw [b0.out]; exact q1) (fun _ => by rw [b0.out, b1.out]; exact q2) (fun _ => by rw [b0.out, b1.out, b2.out]; exact q3)
        have E : Hid ((C1 s[i].toNat ∧ h = 1) ∨ (C2 s[i].toNat s[i + 1].toNat ∧ h = 2) ∨ (C3 s[i].toNat s[i + 1].toNat s[i + 2].toNat ∧ h = 3) ∨ (¬ C1 s[i].toNat ∧ ¬ C2 s[i].toNat s[i + 1].toNat ∧ ¬ C3 s[i].toNat s[i + 1].toNat s[i + 2].toNat ∧ h = 0)) := Lib.hid (by
          by_cases q1 : C1 s[i].toNat
          · exact .inl ⟨q1, E1.out q1⟩
          · by_cases q2 : C2 s[i].toNat s[i + 1].toNat
            · exact .inr (.inl ⟨q2, E2.out q2⟩)
            · by_cases q3 : C3 s[i].toNat s[i + 1].toNat s[i + 2].toNat
              · exact .inr (.inr (.inl ⟨q3, E3.out q3⟩))
              · exact .inr (.inr (.inr ⟨q1, q2, q3, E0.out q1 q2 q3⟩)))
        clear b0 b1 b2 HH E0 E1 E2 E3
        go_enter Tryd.func18, Tryd.ntmps18
        go_wp2_with fail
        all_goals (go_ret; refine ⟨ret_int ?_, rfl⟩)
        all_goals (have e := E.out; clear E; unfold C1 C2 C3 at e; first | omega | (simp only [beq_iff_eq, beq_eq_false_iff_ne, ne_eq] at *; omega))
      · have E0 : Hid (¬ C1 s[i].toNat → ¬ C2 s[i].toNat s[i + 1].toNat → h = 0) := Lib.hid fun q1 q2 => by rw [← HH.out]; exact hs_0 _ (by rw [b0.out]; exact q1) (fun _ => by rw [b0.out, b1.out]; exact q2) (fun hl => by rw [len_at] at hl; omega)
        have E : Hid ((C1 s[i].toNat ∧ h = 1) ∨ (C2 s[i].toNat s[i + 1].toNat ∧ h = 2) ∨ (¬ C1 s[i].toNat ∧ ¬ C2 s[i].toNat s[i + 1].toNat ∧ h = 0)) := Lib.hid (by
          by_cases q1 : C1 s[i].toNat
          · exact .inl ⟨q1, E1.out q1⟩
          · by_cases q2 : C2 s[i].toNat s[i + 1].toNat
            · exact .inr (.inl ⟨q2, E2.out q2⟩)
            · exact .inr (.inr ⟨q1, q2, E0.out q1 q2⟩))
        clear b0 b1 HH E0 E1 E2
        go_enter Tryd.func18, Tryd.ntmps18
        go_wp2_with fail
        all_goals (go_ret; refine ⟨ret_int ?_, rfl⟩)
        all_goals (have e := E.out; clear E; unfold C1 C2 at e; first | omega | (simp only [beq_iff_eq, beq_eq_false_iff_ne, ne_eq] at *; omega))
    · have E0 : Hid (¬ C1 s[i].toNat → h = 0) := Lib.hid fun q1 => by rw [← HH.out]; exact hs_0 _ (by rw [b0.out]; exact q1) (fun hl => by rw [len_at] at hl; omega) (fun hl => by rw [len_at] at hl; omega)
      have E : Hid ((C1 s[i].toNat ∧ h = 1) ∨ (¬ C1 s[i].toNat ∧ h = 0)) := Lib.hid (by
        by_cases q1 : C1 s[i].toNat
        · exact .inl ⟨q1, E1.out q1⟩
        · exact .inr ⟨q1, E0.out q1⟩)
      clear b0 HH E0 E1
      go_enter Tryd.func18, Tryd.ntmps18
      go_wp2_with fail
      all_goals (go_ret; refine ⟨ret_int ?_, rfl⟩)
      all_goals (have e := E.out; clear E; unfold C1 at e; first | omega | (simp only [beq_iff_eq, beq_eq_false_iff_ne, ne_eq] at *; omega))
  · have E0 : Hid (h = 0) := Lib.hid (by
      rw [← HH.out]; unfold HS
      rw [List.drop_eq_nil_of_le (by simp; omega)]
      exact headSpace_nil)
    clear HH
    go_enter Tryd.func18, Tryd.ntmps18
    go_wp2_with fail
    go_ret
    exact ⟨ret_int (by rw [E0.out]; rfl), rfl⟩
end Go.Proofs.YtnnjoehhjmomaaaDoor
