/- Small facts for the nodes' contracts. -/
import Derived.Test.YtkabnbopakfknaaDoorPrn
namespace Go.Proofs.YtkabnbopakfknaaDoor
open Go.RowKit

/-- Behind this text an index may be written without a blank. -/
def Safe (pre : List UInt8) : Prop := ∀ c : UInt8, pre.getLast? = some c → c.toNat ≠ 46 ∧ ¬ (48 ≤ c.toNat ∧ c.toNat ≤ 57)
theorem Safe.nil : Safe [] := fun c h => by simp at h
theorem Safe.behind {l : List UInt8} (hl : l ≠ []) (h : Safe l) (pre : List UInt8) : Safe (pre ++ l) := fun c hc => h c (by
  rw [List.getLast?_append, List.getLast?_eq_some_getLast hl] at hc
  rw [List.getLast?_eq_some_getLast hl]; simpa using hc)
theorem ne_empty {s : ByteArray} (h : s.size ≠ 0) : s.toList.isEmpty = false := by
  rw [ByteArray.toList_eq]
  cases e : s.data.toList with
  | nil => exact absurd (by show s.data.size = 0; rw [← Array.length_toList, e]; rfl) h
  | cons a l => rfl
theorem bLen {B b : Nat} {l : List UInt8} {w : World} (h : BIs B b l w) :
    Calls Tryd.prog 48 #[.pointer (some ⟨b, 0, none⟩)] w fun e w' => e = .returned (.int .i64 l.length) ∧ w = w' := by
  refine (Tryd.Builder_Len_f B b _ w h).mono ?_
  rintro e w' ⟨rfl, h1⟩
  rw [byteCells_len]
  exact ⟨rfl, h1.symm⟩
theorem bString2 {B b : Nat} {l : List UInt8} {w : World} (h : BIs B b l w) (hB : B ≤ w.heap.size) :
    Calls Tryd.prog 22 #[.pointer (some ⟨b, 0, none⟩)] w fun e w' => e = .returned (.string ⟨l.toArray⟩) ∧ BIs B b l w' ∧ Kept B b w w' := by
  refine (Tryd.Builder_String_any_k B b l w h hB).mono ?_
  rintro e w' ⟨rfl, h1, h2, h3⟩
  exact ⟨rfl, h1, h2, h3⟩
end Go.Proofs.YtkabnbopakfknaaDoor
