/- encoder.encodeString: what it writes. The model: bytes below 128 by a table, others by the decoder. -/
import Derived.Test.YtommggamdgajcaaDoorBld
import Derived.PinnedBridge
namespace Go.Proofs.YtommggamdgajcaaDoor
open Go.RowKit

def hexD (n : Nat) : UInt8 := ([48, 49, 50, 51, 52, 53, 54, 55, 56, 57, 97, 98, 99, 100, 101, 102] : List UInt8).getD n 0
theorem hex_at (i : Nat) (h : i < (⟨#[48, 49, 50, 51, 52, 53, 54, 55, 56, 57, 97, 98, 99, 100, 101, 102]⟩ : ByteArray).size) :
    (⟨#[48, 49, 50, 51, 52, 53, 54, 55, 56, 57, 97, 98, 99, 100, 101, 102]⟩ : ByteArray)[i] = hexD i := by
  have h' : i < ([48, 49, 50, 51, 52, 53, 54, 55, 56, 57, 97, 98, 99, 100, 101, 102] : List UInt8).length := h
  unfold hexD
  rw [List.getD_eq_getElem?_getD, List.getElem?_eq_getElem h']
  rfl

/-- A byte below 128 that is not copied. -/
def escB (b : UInt8) : List UInt8 :=
  if b = 34 then [92, 34] else if b = 92 then [92, 92] else if b = 8 then [92, 98] else if b = 12 then [92, 102] else if b = 10 then [92, 110] else if b = 13 then [92, 114] else if b = 9 then [92, 116]
  else [92, 117, 48, 48, hexD (b.toNat / 16), hexD (b.toNat % 16)]
def plainB (b : UInt8) : Prop := 32 ≤ b.toNat ∧ b.toNat ≤ 126 ∧ b.toNat ≠ 34 ∧ b.toNat ≠ 92
instance (b : UInt8) : Decidable (plainB b) := inferInstanceAs (Decidable (_ ∧ _))

theorem dec_pos (s : ByteArray) (k : Nat) : 1 ≤ (Utf8.decode s k).2 := by
  rw [Lib.decode_at]; unfold Lib.decodeN; repeat' split
  all_goals simp
theorem dec_le (s : ByteArray) (k : Nat) (h : k < s.size) : k + (Utf8.decode s k).2 ≤ s.size := by
  rw [Lib.decode_at]; unfold Lib.decodeN; repeat' split
  all_goals (simp only; omega)

/-- What is written for s from place k on. -/
def E (s : ByteArray) (k : Nat) : List UInt8 :=
  if h : k < s.size then
    if s[k].toNat < 128 then (if plainB s[k] then [s[k]] else escB s[k]) ++ E s (k + 1)
    else if (Utf8.decode s k) = (65533, 1) then [92, 117, 102, 102, 102, 100] ++ E s (k + 1)
    else (s.data.toList.drop k).take (Utf8.decode s k).2 ++ E s (k + (Utf8.decode s k).2)
  else []
termination_by s.size - k
decreasing_by all_goals (have := dec_pos s k; omega)

/-- The string as it is written, quotes and all. -/
def quoted (s : ByteArray) : List UInt8 := [34] ++ E s 0 ++ [34]

theorem escB_len (b : UInt8) : (escB b).length ≤ 6 := by
  unfold escB; repeat' split
  all_goals simp
theorem E_len (s : ByteArray) : ∀ n k, s.size - k = n → (E s k).length ≤ 6 * (s.size - k) := by
  intro n
  induction n using Nat.strongRecOn with
  | ind n ih =>
    intro k hn
    rw [E]
    split
    · rename_i h
      have h1 := ih (s.size - (k + 1)) (by omega) (k + 1) rfl
      split
      · split
        · simp; omega
        · have := escB_len s[k]; simp; omega
      · split
        · simp; omega
        · have hp := dec_pos s k
          have h2 := ih (s.size - (k + (Utf8.decode s k).2)) (by omega) (k + (Utf8.decode s k).2) rfl
          have h3 := dec_le s k h
          rw [List.length_append, List.length_take]
          omega
    · simp
theorem quoted_len (s : ByteArray) : (quoted s).length ≤ 6 * s.size + 2 := by
  have := E_len s s.size 0 (by omega)
  simp [quoted]; omega

/-- The piece of s between two places. -/
def sub (s : ByteArray) (i j : Nat) : List UInt8 := (s.data.toList.drop i).take (j - i)
theorem sub_self (s : ByteArray) (i : Nat) : sub s i i = [] := by simp [sub]
theorem sub_cat (s : ByteArray) {i j k : Nat} (h1 : i ≤ j) (h2 : j ≤ k) : sub s i j ++ sub s j k = sub s i k := by
  unfold sub
  have e : List.drop j s.data.toList = List.drop (j - i) (List.drop i s.data.toList) := by rw [List.drop_drop]; congr 1; omega
  rw [e, ← List.take_add]; congr 1; omega
theorem sub_one (s : ByteArray) {k : Nat} (h : k < s.size) : sub s k (k + 1) = [s[k]] := by
  unfold sub
  rw [List.drop_eq_getElem_cons (by simpa using h)]
  simp; rfl
theorem sub_snoc (s : ByteArray) {i k : Nat} (h1 : i ≤ k) (h : k < s.size) : sub s i (k + 1) = sub s i k ++ [s[k]] := by
  rw [← sub_cat s h1 (Nat.le_succ k), sub_one s h]
theorem sub_len (s : ByteArray) {i j : Nat} (h1 : i ≤ j) (h : j ≤ s.size) : (sub s i j).length = j - i := by
  unfold sub; rw [List.length_take, List.length_drop]; have : s.data.toList.length = s.size := rfl; omega
theorem extract_data (s : ByteArray) (i j : Nat) : (s.extract i j).data.toList = sub s i j := by
  rw [ByteArray.data_extract, Array.toList_extract, List.extract_eq_take_drop]; rfl

/-- The encoder in block q writes to the builder b. -/
def EncAt (q b : Nat) (w : World) : Prop := ∃ cs z, w.heap[q]? = some (.cells cs 95 z) ∧ cs[0]? = some (.iface 70 (.pointer (some ⟨b, 0, none⟩)))
theorem EncAt.cell {q b : Nat} {w : World} (h : EncAt q b w) : w.cell? ⟨q, 0, none⟩ = some (.iface 70 (.pointer (some ⟨b, 0, none⟩))) := by
  obtain ⟨cs, z, h1, h2⟩ := h
  exact cell_of_block h1 h2
theorem EncAt.kept {B q b : Nat} {w w' : World} (h : EncAt q b w) (k : Kept B b w w') (hq : q ≠ b) : EncAt q b w' := by
  obtain ⟨cs, z, h1, h2⟩ := h
  exact ⟨cs, z, k.blk h1 hq (by decide), h2⟩
end Go.Proofs.YtommggamdgajcaaDoor
