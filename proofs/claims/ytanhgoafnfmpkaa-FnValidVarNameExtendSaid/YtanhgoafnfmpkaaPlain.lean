/- Plain laws on how far a run of identifier bytes goes. -/
import Derived.Test.YtanhgoafnfmpkaaIdent
namespace Go.Proofs.Ytanhgoafnfmpkaa

def tailB (b : UInt8) : Bool := identB (b.toNat : Int) true
def headB (b : UInt8) : Bool := identB (b.toNat : Int) false
/-- The byte at place k; 0 behind the end. -/
def at0 (s : ByteArray) (k : Nat) : Int := if h : k < s.size then (s[k].toNat : Int) else 0
def run (l : List UInt8) : Nat := (l.takeWhile tailB).length
def scanEnd (s : ByteArray) (k : Nat) : Nat := k + run (s.data.toList.drop k)

theorem drop_at (s : ByteArray) (k : Nat) (h : k < s.size) : s.data.toList.drop k = s[k] :: s.data.toList.drop (k + 1) := by
  rw [List.drop_eq_getElem_cons (by simpa using h)]; rfl
theorem at0_of (s : ByteArray) (k : Nat) (h : k < s.size) : at0 s k = (s[k].toNat : Int) := by unfold at0; rw [dif_pos h]
theorem at0_end (s : ByteArray) (k : Nat) (h : s.size ≤ k) : at0 s k = 0 := by unfold at0; rw [dif_neg (by omega)]
theorem at0_bd (s : ByteArray) (k : Nat) : 0 ≤ at0 s k ∧ at0 s k ≤ 255 := by
  unfold at0; split
  · have := s[k].toNat_lt; omega
  · omega
theorem ident0 (t : Bool) : identB 0 t = false := by cases t <;> decide

theorem end_step (s : ByteArray) (k : Nat) (h : identB (at0 s k) true = true) : k < s.size ∧ scanEnd s k = scanEnd s (k + 1) := by
  have hk : k < s.size := by
    rcases Nat.lt_or_ge k s.size with h1 | h1
    · exact h1
    · rw [at0_end s k h1, ident0] at h; cases h
  rw [at0_of s k hk] at h
  refine ⟨hk, ?_⟩
  unfold scanEnd run
  have ht : tailB s[k] = true := h
  rw [drop_at s k hk, List.takeWhile_cons_of_pos ht, List.length_cons]
  omega
theorem end_stop (s : ByteArray) (k : Nat) (h : identB (at0 s k) true = false) : scanEnd s k = k := by
  unfold scanEnd run
  rcases Nat.lt_or_ge k s.size with h1 | h1
  · rw [at0_of s k h1] at h
    have ht : ¬ tailB s[k] = true := by unfold tailB; rw [h]; simp
    rw [drop_at s k h1, List.takeWhile_cons_of_neg ht]; rfl
  · rw [List.drop_eq_nil_of_le (by simpa using h1)]; rfl
theorem le_end (s : ByteArray) (k : Nat) : k ≤ scanEnd s k := by unfold scanEnd; omega
theorem end_le (s : ByteArray) (k : Nat) (h : k ≤ s.size) : scanEnd s k ≤ s.size := by
  unfold scanEnd run
  have := (List.takeWhile_sublist tailB (l := s.data.toList.drop k)).length_le
  rw [List.length_drop] at this
  have e : s.data.toList.length = s.size := rfl
  omega
theorem end_not (s : ByteArray) (n : Nat) : ∀ k, s.size - k = n → identB (at0 s (scanEnd s k)) true = false := by
  induction n with
  | zero =>
    intro k hk
    have hi : identB (at0 s k) true = false := by rw [at0_end s k (by omega), ident0]
    rw [end_stop s k hi, hi]
  | succ n ih =>
    intro k hk
    cases hi : identB (at0 s k) true
    · rw [end_stop s k hi, hi]
    · obtain ⟨h1, h2⟩ := end_step s k hi
      rw [h2]; exact ih (k + 1) (by omega)
theorem end_no (s : ByteArray) (k : Nat) : identB (at0 s (scanEnd s k)) true = false := end_not s _ k rfl
theorem end_idem (s : ByteArray) (k : Nat) : scanEnd s (scanEnd s k) = scanEnd s k := end_stop _ _ (end_no s k)
/-- Every byte ahead of the end is an identifier byte. -/
theorem all_tail (s : ByteArray) (n : Nat) : ∀ k, scanEnd s k - k = n → ∀ i, k ≤ i → i < scanEnd s k → identB (at0 s i) true = true := by
  induction n with
  | zero => intro k hk i h1 h2; omega
  | succ n ih =>
    intro k hk i h1 h2
    cases hi : identB (at0 s k) true
    · rw [end_stop s k hi] at hk; omega
    · obtain ⟨h3, h4⟩ := end_step s k hi
      rcases Nat.lt_or_ge k i with h5 | h5
      · exact ih (k + 1) (by omega) i (by omega) (by omega)
      · obtain rfl : i = k := by omega
        exact hi
theorem all_tl (s : ByteArray) (k i : Nat) (h1 : k ≤ i) (h2 : i < scanEnd s k) : identB (at0 s i) true = true := all_tail s _ k rfl i h1 h2

theorem shift (s : ByteArray) (k : Nat) : k + scanEnd (s.extract k s.size) 0 = scanEnd s k := by
  unfold scanEnd
  have e : (s.extract k s.size).data.toList.drop 0 = s.data.toList.drop k := by
    rw [List.drop_zero, ByteArray.data_extract]
    simp only [Array.toList_extract, List.extract_eq_take_drop]
    rw [List.take_of_length_le]
    rw [List.length_drop]; exact Nat.le_refl _
  rw [e]; omega

end Go.Proofs.Ytanhgoafnfmpkaa
