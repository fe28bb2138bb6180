/- Plain laws on the escaped text of quoteAndEscape. -/
import Derived.Test.YtekimjpganhcdaaRows
import Derived.Test.YtekimjpganhcdaaKit
import Derived.Lib.BufferWrite
namespace Go.Proofs.Ytekimjpganhcdaa
open Go.RowKit

def hexD (n : Nat) : UInt8 := ([48, 49, 50, 51, 52, 53, 54, 55, 56, 57, 97, 98, 99, 100, 101, 102] : List UInt8).getD n 0
def esc (b : UInt8) : List UInt8 := if b < 32 then [92, 117, 48, 48, hexD (b.toNat / 16), hexD (b.toNat % 16)] else [b]
def body (l : List UInt8) : List UInt8 := l.flatMap esc
def ctl (l : List UInt8) : Nat := l.countP (· < 32)
def hd (q : Bool) : List UInt8 := if q then [34] else []
def out (q : Bool) (l : List UInt8) : List UInt8 := hd q ++ body l ++ hd q

theorem esc_length (b : UInt8) : (esc b).length = 1 + 5 * (if b < 32 then 1 else 0) := by unfold esc; split <;> rfl
theorem body_length (l : List UInt8) : (body l).length = l.length + 5 * ctl l := by
  induction l with
  | nil => rfl
  | cons b r ih =>
    have e : body (b :: r) = esc b ++ body r := rfl
    rw [e, List.length_append, ih, esc_length]
    unfold ctl
    rw [List.countP_cons]
    simp only [List.length_cons, decide_eq_true_eq]
    split <;> omega
theorem ctl_le (l : List UInt8) : ctl l ≤ l.length := List.countP_le_length
theorem hd_length (q : Bool) : (hd q).length = if q then 1 else 0 := by cases q <;> rfl
theorem out_length (q : Bool) (l : List UInt8) : (out q l).length = l.length + 5 * ctl l + (if q then 2 else 0) := by
  unfold out
  rw [List.length_append, List.length_append, body_length, hd_length]
  cases q <;> simp <;> omega
theorem body_plain (l : List UInt8) (h : ctl l = 0) : body l = l := by
  induction l with
  | nil => rfl
  | cons b r ih =>
    unfold ctl at h
    rw [List.countP_cons] at h
    have hb : ¬ b < 32 := by
      intro hb; simp [hb] at h
    have hr : ctl r = 0 := by unfold ctl; omega
    have e : body (b :: r) = esc b ++ body r := rfl
    rw [e, ih hr]
    unfold esc; rw [if_neg hb]; rfl
theorem hexD_ge : ∀ n, n < 16 → 32 ≤ (hexD n).toNat := by decide +kernel
theorem esc_ge (b : UInt8) : ∀ x ∈ esc b, 32 ≤ x.toNat := by
  unfold esc
  split
  · have h1 := hexD_ge (b.toNat / 16) (by have := b.toNat_lt; omega)
    have h2 := hexD_ge (b.toNat % 16) (by omega)
    intro x hx
    simp only [List.mem_cons, List.not_mem_nil, or_false] at hx
    rcases hx with rfl | rfl | rfl | rfl | rfl | rfl <;> first | decide | assumption
  · rename_i h
    intro x hx
    simp only [List.mem_cons, List.not_mem_nil, or_false] at hx
    subst hx
    rw [UInt8.not_lt, UInt8.le_iff_toNat_le] at h
    exact h
theorem out_ge (q : Bool) (l : List UInt8) : ∀ x ∈ out q l, 32 ≤ x.toNat := by
  unfold out body
  intro x hx
  simp only [List.mem_append, List.mem_flatMap] at hx
  have hq : ∀ x ∈ hd q, 32 ≤ x.toNat := by cases q <;> simp [hd]
  rcases hx with (h | ⟨b, _, h⟩) | h
  · exact hq x h
  · exact esc_ge b x h
  · exact hq x h

/-- The bytes as cells. -/
def bv (l : List UInt8) : Array Value := (Lib.byteCells l).toArray
theorem bv_size (l : List UInt8) : (bv l).size = l.length := by simp [bv, Lib.byteCells]
theorem bv_get (l : List UInt8) (k : Nat) (h : k < l.length) : (bv l)[k]? = some (.int .u8 (l[k].toNat : Int)) := by
  simp [bv, Lib.byteCells, h]
theorem bv_set (l : List UInt8) (k : Nat) (x : UInt8) : (bv l).setIfInBounds k (.int .u8 (x.toNat : Int)) = bv (l.set k x) := by
  apply Array.ext'
  simp [bv, Lib.byteCells, List.map_set]
theorem bv_zero (n : Nat) : madeCells #[.int .u8 0] n = bv (List.replicate n 0) := by
  apply Array.ext'
  rw [toList_madeCells_one]
  simp [bv, Lib.byteCells]
theorem bv_splice (P X Y R : List UInt8) (h : X.length = Y.length) :
    ((bv (P ++ X ++ R)).toList.take P.length ++ Lib.byteCells Y ++ (bv (P ++ X ++ R)).toList.drop (P.length + Y.length)).toArray = bv (P ++ Y ++ R) := by
  apply Array.ext'
  have e : (bv (P ++ X ++ R)).toList = Lib.byteCells P ++ (Lib.byteCells X ++ Lib.byteCells R) := by simp [bv, Lib.byteCells]
  rw [e, List.take_left' (by simp [Lib.byteCells]), ← List.drop_drop, List.drop_left' (by simp [Lib.byteCells]), List.drop_left' (by simp [Lib.byteCells, h])]
  simp [bv, Lib.byteCells]

end Go.Proofs.Ytekimjpganhcdaa
