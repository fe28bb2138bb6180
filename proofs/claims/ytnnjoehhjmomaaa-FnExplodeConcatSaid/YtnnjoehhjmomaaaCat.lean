/- The walk of FnExplodeConcat. -/
import Derived.Test.YtnnjoehhjmomaaaLaws
import Derived.Laws.OwnMore
import Derived.OwnWalk
import Derived.Outline
namespace Go.Proofs.Ytnnjoehhjmomaaa
open Go.RowKit

/-- From place pos on every rune of s is well formed. -/
def vd (s : ByteArray) : Nat → Nat → Bool
  | 0, _ => true
  | f + 1, pos => if pos < s.size then okB s pos && vd s f (pos + (Utf8.decode s pos).2) else true
def V (s : ByteArray) (pos : Nat) : Bool := vd s (s.size - pos) pos
theorem vd_end (s : ByteArray) (f pos : Nat) (h : ¬ pos < s.size) : vd s f pos = true := by cases f <;> simp [vd, h]
theorem vd_fuel (s : ByteArray) : ∀ f g pos, s.size - pos ≤ f → s.size - pos ≤ g → vd s f pos = vd s g pos := by
  intro f
  induction f with
  | zero => intro g pos h1 _; rw [vd_end s g pos (by omega), vd_end s 0 pos (by omega)]
  | succ f ih =>
    intro g pos h1 h2
    by_cases h : pos < s.size
    · cases g with
      | zero => omega
      | succ g =>
        have hw := Lib.decode_width_pos s pos h
        simp only [vd, h, if_true]
        rw [ih g _ (by omega) (by omega)]
    · rw [vd_end s _ pos h, vd_end s _ pos h]
theorem V_end (s : ByteArray) (pos : Nat) (h : ¬ pos < s.size) : V s pos = true := vd_end _ _ _ h
theorem V_step (s : ByteArray) (pos : Nat) (h : pos < s.size) : V s pos = (okB s pos && V s (pos + (Utf8.decode s pos).2)) := by
  have hw := Lib.decode_width_pos s pos h
  unfold V
  obtain ⟨f, hf⟩ : ∃ f, s.size - pos = f + 1 := ⟨s.size - pos - 1, by omega⟩
  rw [hf]
  simp only [vd, h, if_true]
  rw [vd_fuel s f (s.size - (pos + (Utf8.decode s pos).2)) _ (by omega) (by omega)]

theorem cb_left (a b : ByteArray) (j : Nat) (h : j < a.size) : cb (a ++ b) j = cb a j := by
  rw [cb_of _ _ (by rw [ByteArray.size_append]; omega), cb_of _ _ h, ByteArray.getElem_append_left h]
theorem cb_right (a b : ByteArray) (j : Nat) (h : j < b.size) : cb (a ++ b) (a.size + j) = cb b j := by
  rw [cb_of _ _ (by rw [ByteArray.size_append]; omega), cb_of _ _ h, ByteArray.getElem_append_right (by omega)]
  congr 1
  congr 1
  omega
open Lib in
/-- A well-formed rune reads the same whatever follows. -/
theorem decN_more (n m b0 b1 b2 b3 c1 c2 c3 : Nat) (hn : n ≤ m) (hb : b0 < 256) (hok : b0 < 128 ∨ 1 < (decodeN n b0 b1 b2 b3).2) (h1 : 1 < n → c1 = b1) (h2 : 2 < n → c2 = b2) (h3 : 3 < n → c3 = b3) :
    decodeN m b0 c1 c2 c3 = decodeN n b0 b1 b2 b3 := by
  by_cases g : b0 < 128
  · rw [d_low _ _ _ _ _ g, d_low _ _ _ _ _ g]
  · have hok' : 1 < (decodeN n b0 b1 b2 b3).2 := by omega
    clear hok
    by_cases k2 : b0 / 32 = 6
    · by_cases q : 1 < n ∧ 128 ≤ b1 ∧ b1 ≤ 191
      · have e1 := h1 q.1
        subst e1
        rw [d2_fin m b0 c1 c2 c3 _ (by omega) (by omega) q.2 rfl, d2_fin n b0 c1 b2 b3 _ (by omega) (by omega) q.2 rfl]
      · exfalso
        rw [d2_bad n b0 b1 b2 b3 (by omega) (by omega)] at hok'
        simp at hok'
    · by_cases k3 : b0 / 16 = 14
      · by_cases q : 2 < n ∧ (128 ≤ b1 ∧ b1 ≤ 191) ∧ (128 ≤ b2 ∧ b2 ≤ 191)
        · have e1 := h1 (by omega)
          have e2 := h2 q.1
          subst e1; subst e2
          rw [d3_fin m b0 c1 c2 c3 _ (by omega) (by omega) q.2.1 q.2.2 rfl, d3_fin n b0 c1 c2 b3 _ (by omega) (by omega) q.2.1 q.2.2 rfl]
        · exfalso
          rw [d3_bad n b0 b1 b2 b3 (by omega) (by omega)] at hok'
          simp at hok'
      · by_cases k4 : b0 / 8 = 30
        · by_cases q : 3 < n ∧ (128 ≤ b1 ∧ b1 ≤ 191) ∧ (128 ≤ b2 ∧ b2 ≤ 191) ∧ (128 ≤ b3 ∧ b3 ≤ 191)
          · have e1 := h1 (by omega)
            have e2 := h2 (by omega)
            have e3 := h3 q.1
            subst e1; subst e2; subst e3
            rw [d4_fin m b0 c1 c2 c3 _ (by omega) (by omega) q.2.1 q.2.2.1 q.2.2.2 rfl, d4_fin n b0 c1 c2 c3 _ (by omega) (by omega) q.2.1 q.2.2.1 q.2.2.2 rfl]
          · exfalso
            rw [d4_bad n b0 b1 b2 b3 (by omega) (by omega)] at hok'
            simp at hok'
        · exfalso
          rw [d_none n b0 b1 b2 b3 (by omega) hb] at hok'
          simp at hok'
open Lib in
/-- Bytes behind the end are not looked at. -/
theorem decN_tail (n b0 b1 b2 b3 c1 c2 c3 : Nat) (h1 : 1 < n → c1 = b1) (h2 : 2 < n → c2 = b2) (h3 : 3 < n → c3 = b3) : decodeN n b0 c1 c2 c3 = decodeN n b0 b1 b2 b3 := by
  by_cases g1 : 1 < n
  · have e1 := h1 g1
    subst e1
    by_cases g2 : 2 < n
    · have e2 := h2 g2
      subst e2
      by_cases g3 : 3 < n
      · rw [h3 g3]
      · unfold decodeN; simp only [g3, false_and, and_false, if_false]
    · have g3 : ¬ 3 < n := by omega
      unfold decodeN; simp only [g2, g3, false_and, and_false, if_false]
  · have g2 : ¬ 2 < n := by omega
    have g3 : ¬ 3 < n := by omega
    unfold decodeN; simp only [g1, g2, g3, false_and, and_false, if_false]

theorem decode_left (a b : ByteArray) (pos : Nat) (h : pos < a.size) (hok : okB a pos = true) : Utf8.decode (a ++ b) pos = Utf8.decode a pos := by
  unfold okB at hok
  rw [dec_def a pos] at hok ⊢
  rw [dec_def, cb_left a b pos h, ByteArray.size_append]
  refine decN_more _ _ _ _ _ _ _ _ _ (by omega) (cb_lt a pos) (by simpa using hok) (fun g => cb_left a b _ (by omega)) (fun g => cb_left a b _ (by omega)) (fun g => cb_left a b _ (by omega))
theorem decode_right (a b : ByteArray) (pos : Nat) (h : pos < b.size) : Utf8.decode (a ++ b) (a.size + pos) = Utf8.decode b pos := by
  rw [dec_def, dec_def, cb_right a b pos h, ByteArray.size_append]
  rw [show a.size + b.size - (a.size + pos) = b.size - pos by omega]
  refine decN_tail _ _ _ _ _ _ _ _ (fun g => ?_) (fun g => ?_) (fun g => ?_)
  · rw [show a.size + pos + 1 = a.size + (pos + 1) by omega]; exact cb_right a b _ (by omega)
  · rw [show a.size + pos + 2 = a.size + (pos + 2) by omega]; exact cb_right a b _ (by omega)
  · rw [show a.size + pos + 3 = a.size + (pos + 3) by omega]; exact cb_right a b _ (by omega)

theorem R_right (a b : ByteArray) (f : Nat) : ∀ pos, b.size - pos = f → R (a ++ b) (a.size + pos) = R b pos := by
  induction f using Nat.strongRecOn with
  | _ f ih =>
    intro pos hf
    by_cases h : pos < b.size
    · rw [R_step _ _ (by rw [ByteArray.size_append]; omega), R_step b pos h, decode_right a b pos h]
      have hw := Lib.decode_width_pos b pos h
      rw [Nat.add_assoc, ih (b.size - (pos + (Utf8.decode b pos).2)) (by omega) _ rfl]
    · rw [R_end _ _ (by rw [ByteArray.size_append]; omega), R_end b pos h]
theorem R_cat (a b : ByteArray) (f : Nat) : ∀ pos, a.size - pos = f → pos ≤ a.size → V a pos = true → R (a ++ b) pos = R a pos ++ R b 0 := by
  induction f using Nat.strongRecOn with
  | _ f ih =>
    intro pos hf hle hv
    by_cases h : pos < a.size
    · rw [V_step a pos h, Bool.and_eq_true] at hv
      have hw := Lib.decode_width_pos a pos h
      have hp := decode_pos_le a pos h
      rw [R_step _ _ (by rw [ByteArray.size_append]; omega), R_step a pos h, decode_left a b pos h hv.1, ih (a.size - (pos + (Utf8.decode a pos).2)) (by omega) _ rfl hp hv.2]
      rfl
    · obtain rfl : pos = a.size := by omega
      have := R_right a b _ 0 rfl
      rw [Nat.add_zero] at this
      rw [this, R_end a _ h]; rfl

end Go.Proofs.Ytnnjoehhjmomaaa
