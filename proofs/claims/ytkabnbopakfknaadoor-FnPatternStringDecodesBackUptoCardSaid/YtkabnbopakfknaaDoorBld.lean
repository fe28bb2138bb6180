/- What a call that writes into a strings.Builder leaves: the contracts of WriteByte, WriteString and String in one shape. No condition beyond the builder's limit. -/
import Derived.Test.YtkabnbopakfknaaDoorShelf
import Derived.Test.YtkabnbopakfknaaDoorKit
import Derived.Outline
namespace Go.Proofs.YtkabnbopakfknaaDoor
open Go.RowKit

/-- The builder in block b holds these bytes. -/
def BAt (B b : Nat) (l : List UInt8) (w : World) : Prop := Lib.BuilderAtF 73 5 B b (.pointer (some ⟨b, 0, none⟩)) (Lib.byteCells l) w
/-- .. or is fresh. -/
def BIs (B b : Nat) (l : List UInt8) (w : World) : Prop := Lib.IsBuilderF 73 5 B b (Lib.byteCells l) w
theorem BAt.is {B b : Nat} {l : List UInt8} {w : World} (h : BAt B b l w) : BIs B b l w := .inr h
/-- What stands behind a call that writes into the builder b. -/
def Kept (B b : Nat) (w w' : World) : Prop := Below B w w' ∧ Lib.OthersKept 5 (some b) w w'
theorem Kept.refl (B b : Nat) (w : World) : Kept B b w w := ⟨Below.refl _ _, Lib.OthersKept.refl _ _ _⟩
theorem Kept.trans {B b : Nat} {w1 w2 w3 : World} (h : Kept B b w1 w2) (k : Kept B b w2 w3) : Kept B b w1 w3 := ⟨h.1.trans k.1, h.2.trans k.2⟩
theorem Kept.drewN {B b : Nat} {w w' : World} (h : Kept B b w w') (n : Nat) : Kept B b w (w'.drewN n) := ⟨⟨h.1.1, h.1.2, h.1.3, h.1.4, h.1.5⟩, h.2⟩
theorem Kept.size {B b : Nat} {w w' : World} (h : Kept B b w w') : w.heap.size ≤ w'.heap.size := h.1.size
theorem Kept.blk {B b k : Nat} {w w' : World} {c : Array Value} {t : TypeId} {z : Nat × Nat} (h : Kept B b w w') (hk : w.heap[k]? = some (.cells c t z)) (hkb : k ≠ b) (ht : t ≠ 5) : w'.heap[k]? = some (.cells c t z) :=
  h.2 k _ hk (fun e => hkb (Option.some.inj e)) (fun c' z' e => by cases e; exact ht rfl)
theorem byteCells_append (a b : List UInt8) : Lib.byteCells (a ++ b) = Lib.byteCells a ++ Lib.byteCells b := by simp [Lib.byteCells]
theorem byteCells_len (a : List UInt8) : (Lib.byteCells a).length = a.length := by simp [Lib.byteCells]

theorem wByte {B b : Nat} {l : List UInt8} (c : UInt8) {w : World} (h : BIs B b l w) (hlen : l.length + 1 ≤ 140737488355328) (hB : B ≤ w.heap.size) :
    Calls Tryd.prog 25 #[.pointer (some ⟨b, 0, none⟩), .int .u8 (c.toNat : Int)] w fun e w' => e = .returned .nilIface ∧ BAt B b (l ++ [c]) w' ∧ Kept B b w w' := by
  refine (Tryd.Builder_WriteByte_k B b _ _ w h (by rw [byteCells_len]; exact hlen) hB).mono ?_
  rintro e w' ⟨rfl, h1, h2, h3⟩
  refine ⟨rfl, ?_, h2, h3⟩
  unfold BAt; rw [byteCells_append]; exact h1
theorem wStr {B b : Nat} {l : List UInt8} (s : ByteArray) {w : World} (h : BIs B b l w) (hlen : l.length + s.size ≤ 140737488355328) (hB : B ≤ w.heap.size) :
    Calls Tryd.prog 24 #[.pointer (some ⟨b, 0, none⟩), .string s] w fun e w' => e = .returned (.tuple #[.int .i64 s.size, .nilIface]) ∧ BAt B b (l ++ s.data.toList) w' ∧ Kept B b w w' := by
  refine (Tryd.Builder_WriteString_k B b _ _ w h (by rw [byteCells_len]; exact hlen) hB).mono ?_
  rintro e w' ⟨rfl, h1, h2, h3⟩
  refine ⟨rfl, ?_, h2, h3⟩
  unfold BAt; rw [byteCells_append]; exact h1
theorem bString {B b : Nat} {l : List UInt8} {w : World} (h : BIs B b l w) (hB : B ≤ w.heap.size) :
    Calls Tryd.prog 22 #[.pointer (some ⟨b, 0, none⟩)] w fun e w' => e = .returned (.string ⟨l.toArray⟩) ∧ Kept B b w w' := by
  refine (Tryd.Builder_String_any_k B b l w h hB).mono ?_
  rintro e w' ⟨rfl, h1, h2, h3⟩
  exact ⟨rfl, h2, h3⟩

/-- A fresh builder. -/
theorem fresh_is (w : World) : BIs w.heap.size w.heap.size [] (w.alloc (.cells #[.pointer none, .slice none 0 0] 73)) :=
  (Lib.IsBuilderF.of (Lib.fresh_isBuilder 73 5 w) : _)
theorem BIs.alloc {B b : Nat} {l : List UInt8} {w : World} (h : BIs B b l w) (o : Obj) : BIs B b l (w.alloc o) := Lib.IsBuilderF.alloc h o
theorem BIs.drewN {B b : Nat} {l : List UInt8} {w : World} (h : BIs B b l w) (n : Nat) : BIs B b l (w.drewN n) := h
theorem BIs.lt {B b : Nat} {l : List UInt8} {w : World} (h : BIs B b l w) : B ≤ b ∧ b < w.heap.size := by
  rcases h with ⟨hB, v, hb, _⟩ | ⟨hB, v, hb, _⟩ <;> exact ⟨hB, (Array.getElem?_eq_some_iff.1 hb).1⟩
theorem BIs.ty {B b : Nat} {l : List UInt8} {w : World} (h : BIs B b l w) : ∃ c z, w.heap[b]? = some (.cells c 73 z) := by
  rcases h with ⟨hB, v, hb, _⟩ | ⟨hB, v, hb, _⟩ <;> exact ⟨_, _, hb⟩
/-- A call that turns nothing below its own heap keeps the builder. -/
theorem bf_below {B b : Nat} {l : List UInt8} {w w' : World} {k : Nat} (hb : Below k w w') (hk : w.heap.size ≤ k) (p : Value) (h : Lib.BuilderAtF 73 5 B b p (Lib.byteCells l) w) :
    Lib.BuilderAtF 73 5 B b p (Lib.byteCells l) w' := by
  obtain ⟨hB, v, hv, hown, hne⟩ := h
  refine ⟨hB, v, ?_, ⟨hown.1, ?_⟩, hne⟩
  · rw [hb.block b (Nat.lt_of_lt_of_le (Array.getElem?_eq_some_iff.1 hv).1 hk)]; exact hv
  · rcases hown.2 with hn | ⟨g, cap, cur, fz, hvv, hbg, hg, rest⟩
    · exact .inl hn
    · exact .inr ⟨g, cap, cur, fz, hvv, hbg, (hb.block g (Nat.lt_of_lt_of_le (Array.getElem?_eq_some_iff.1 hg).1 hk)).trans hg, rest⟩
theorem BIs.below {B b : Nat} {l : List UInt8} {w w' : World} (h : BIs B b l w) {k : Nat} (hb : Below k w w') (hk : w.heap.size ≤ k) : BIs B b l w' :=
  h.elim (fun x => .inl (bf_below hb hk _ x)) (fun x => .inr (bf_below hb hk _ x))
theorem BAt.below {B b : Nat} {l : List UInt8} {w w' : World} (h : BAt B b l w) {k : Nat} (hb : Below k w w') (hk : w.heap.size ≤ k) : BAt B b l w' := bf_below hb hk _ h
theorem Kept.of_below {B b k : Nat} {w w' : World} (h : Below k w w') (hk : w.heap.size ≤ k) (hB : B ≤ k) : Kept B b w w' :=
  ⟨h.mono hB, fun i _ hi _ _ => (h.block i (Nat.lt_of_lt_of_le (Array.getElem?_eq_some_iff.1 hi).1 hk)).trans hi⟩
theorem Kept.alloc (B b : Nat) (w : World) (hB : B ≤ w.heap.size) (o : Obj) : Kept B b w (w.alloc o) :=
  ⟨(Below.refl _ _).alloc hB o, (Lib.OthersKept.refl _ _ _).alloc o⟩
end Go.Proofs.YtkabnbopakfknaaDoor
