/- Plain facts: what is written for a text of bytes below 127. -/
import Derived.Test.YtommggamdgajcaaDoorEnc
namespace Go.Proofs.YtommggamdgajcaaDoor
open Go.RowKit

def escOf (c : UInt8) : List UInt8 := if plainB c then [c] else escB c
def asciiB (s : ByteArray) : Bool := s.data.toList.all fun c => decide (c.toNat < 127)
def escs (l : List UInt8) : List UInt8 := l.flatMap escOf
theorem escs_snoc (l : List UInt8) (c : UInt8) : escs (l ++ [c]) = escs l ++ escOf c := by simp [escs]
theorem escOf_len (c : UInt8) : (escOf c).length ≤ 6 := by
  unfold escOf; split
  · simp
  · exact escB_len c
theorem escs_len (l : List UInt8) : (escs l).length ≤ 6 * l.length := by
  induction l with
  | nil => simp [escs]
  | cons c l ih => have := escOf_len c; simp [escs] at ih ⊢; omega
theorem take_snoc (s : ByteArray) (k : Nat) (h : k < s.size) : s.data.toList.take (k + 1) = s.data.toList.take k ++ [s[k]] := by
  rw [List.take_succ_eq_append_getElem (by simpa using h)]; rfl
theorem take_all (s : ByteArray) : s.data.toList.take s.size = s.data.toList := List.take_of_length_le (Nat.le_refl _)
theorem ascii_at {s : ByteArray} (h : asciiB s = true) {k : Nat} (hk : k < s.size) : s[k].toNat < 127 := by
  unfold asciiB at h
  rw [List.all_eq_true] at h
  have := h s[k] (Array.getElem_mem_toList (xs := s.data) hk)
  simpa using this
theorem ascii_not {s : ByteArray} {k : Nat} (hk : k < s.size) (h : ¬ s[k].toNat < 127) : asciiB s = false := by
  cases hb : asciiB s with
  | false => rfl
  | true => exact absurd (ascii_at hb hk) h
theorem ascii_mk {s : ByteArray} (h : ∀ k (hk : k < s.size), s[k].toNat < 127) : asciiB s = true := by
  unfold asciiB
  rw [List.all_eq_true]
  intro c hc
  obtain ⟨k, hk, rfl⟩ := List.getElem_of_mem hc
  have h1 : s[k]'(by simpa using hk) = s.data.toList[k] := rfl
  rw [← h1]
  simpa using h k (by simpa using hk)
theorem E_ascii (s : ByteArray) (h : asciiB s = true) : ∀ n k, s.size - k = n → k ≤ s.size → E s k = escs (s.data.toList.drop k) := by
  intro n
  induction n with
  | zero =>
    intro k hn hk
    obtain rfl : k = s.size := by omega
    rw [E, dif_neg (by omega), List.drop_eq_nil_of_le (show s.data.toList.length ≤ s.size from Nat.le_refl _)]
    rfl
  | succ n ih =>
    intro k hn hk
    have hlt : k < s.size := by omega
    have h1 := ascii_at h hlt
    rw [E, dif_pos hlt, if_pos (by omega), ih (k + 1) (by omega) (by omega), List.drop_eq_getElem_cons (i := k) (by simpa using hlt)]
    simp [escs, escOf]
    rfl
theorem quoted_ascii (s : ByteArray) (h : asciiB s = true) : quoted s = [34] ++ escs s.data.toList ++ [34] := by
  unfold quoted
  rw [E_ascii s h s.size 0 (by omega) (Nat.zero_le _), List.drop_zero]
theorem escOf_34 : escOf 34 = [92, 34] := by decide
theorem escOf_92 : escOf 92 = [92, 92] := by decide
theorem escOf_8 : escOf 8 = [92, 98] := by decide
theorem escOf_12 : escOf 12 = [92, 102] := by decide
theorem escOf_10 : escOf 10 = [92, 110] := by decide
theorem escOf_13 : escOf 13 = [92, 114] := by decide
theorem escOf_9 : escOf 9 = [92, 116] := by decide
theorem escOf_low {b : UInt8} (h0 : b.toNat < 32) (h3 : ¬ b.toNat = 8) (h4 : ¬ b.toNat = 12) (h5 : ¬ b.toNat = 10) (h6 : ¬ b.toNat = 13) (h7 : ¬ b.toNat = 9) :
    escOf b = [92, 117, 48, 48, hexD (b.toNat / 16), hexD (b.toNat % 16)] := by
  have ne : ∀ c : UInt8, ¬ b.toNat = c.toNat → ¬ b = c := fun c h e => h (by rw [e])
  unfold escOf escB
  rw [if_neg (fun h => by unfold plainB at h; omega), if_neg (ne 34 (by simp; omega)), if_neg (ne 92 (by simp; omega)), if_neg (ne 8 h3), if_neg (ne 12 h4), if_neg (ne 10 h5), if_neg (ne 13 h6), if_neg (ne 9 h7)]
theorem escOf_plain {b : UInt8} (h0 : 32 ≤ b.toNat) (h1 : b.toNat < 127) (h2 : ¬ b.toNat = 34) (h3 : ¬ b.toNat = 92) : escOf b = [b] := by
  unfold escOf; rw [if_pos ⟨h0, by omega, h2, h3⟩]
theorem hexD_nat : ∀ x : Fin 16, (hexD x.val).toNat = if x.val < 10 then 48 + x.val else 87 + x.val := by decide
end Go.Proofs.YtommggamdgajcaaDoor
