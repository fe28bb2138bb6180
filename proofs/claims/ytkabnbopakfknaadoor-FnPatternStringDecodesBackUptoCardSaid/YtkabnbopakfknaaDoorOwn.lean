/- Byte slices of the call's own: appending to them, turning them into strings. No condition beyond a limit on the length. -/
import Derived.Test.YtkabnbopakfknaaDoorKit
import Derived.Test.YtkabnbopakfknaaDoorProg
import Derived.Lib.AppendStr
import Derived.Laws.IdiomStrings
import Derived.Deep.Upon
import Derived.Outline
namespace Go.Proofs.YtkabnbopakfknaaDoor
open Go.RowKit

theorem u8info : (Tryd.prog.info? 5).map (fun i => (i.zero, i.size, i.bytes)) = some (some (.int .u8 0), 1, 1) := by kernel_rfl

def bl (l : List UInt8) : List Value := l.map fun c => .int .u8 (c.toNat : Int)
theorem bl_len (l : List UInt8) : (bl l).length = l.length := by simp [bl]
theorem bl_append (a b : List UInt8) : bl (a ++ b) = bl a ++ bl b := by simp [bl]
/-- The slice value v holds the bytes l, in a block of the call's own (from base on). -/
def OB (base : Nat) (v : Value) (l : List UInt8) (w : World) : Prop := w.ownsRow base 5 1 v l.length (bl l)

theorem OB.nil (base : Nat) (w : World) : OB base (.slice none 0 0) [] w := World.ownsRow_nil w base _ _
theorem OB.below {base B : Nat} {v : Value} {l : List UInt8} {w w' : World} (h : OB base v l w) (hb : Below B w w') (hB : w.heap.size ≤ B) : OB base v l w' := by
  refine ⟨h.1, ?_⟩
  rcases h.2 with h0 | ⟨g, cap, cur, hv, hg, hb2, rest⟩
  · exact .inl h0
  · exact .inr ⟨g, cap, cur, hv, hg, (hb.block g (Nat.lt_of_lt_of_le (Array.getElem?_eq_some_iff.1 hb2).1 hB)).trans hb2, rest⟩
theorem OB.drewN {base : Nat} {v : Value} {l : List UInt8} {w : World} (h : OB base v l w) (n : Nat) : OB base v l (w.drewN n) := h
theorem OB.mono {base base' : Nat} {v : Value} {l : List UInt8} {w : World} (h : OB base v l w) (hb : base' ≤ base) : OB base' v l w := by
  refine ⟨h.1, ?_⟩
  rcases h.2 with h0 | ⟨g, cap, cur, hv, hg, rest⟩
  · exact .inl h0
  · exact .inr ⟨g, cap, cur, hv, Nat.le_trans hb hg, rest⟩
/-- The value: nil, or a slice of that length. -/
theorem OB.shape {base : Nat} {v : Value} {l : List UInt8} {w : World} (h : OB base v l w) : ∃ a cap, v = .slice a l.length cap ∧ (a = none → l = [] ∧ cap = 0) ∧ l.length ≤ cap ∧ (∀ x, a = some x → ∃ g, x = ⟨g, 0, none⟩ ∧ base ≤ g ∧ g < w.heap.size) := by
  rcases h.2 with ⟨hv, hn⟩ | ⟨g, cap, cur, hv, hg, hb, hc, _⟩
  · have : l = [] := List.eq_nil_of_length_eq_zero hn
    subst this
    exact ⟨none, 0, hv, fun _ => ⟨rfl, rfl⟩, Nat.le_refl _, fun x hx => by cases hx⟩
  · exact ⟨some ⟨g, 0, none⟩, cap, hv, (fun hx => by cases hx), hc, (fun x hx => by cases hx; exact ⟨g, rfl, hg, (Array.getElem?_eq_some_iff.1 hb).1⟩)⟩
theorem OB.cell {base : Nat} {v : Value} {l : List UInt8} {w : World} (h : OB base v l w) {g cap k : Nat} (hv : v = .slice (some ⟨g, 0, none⟩) l.length cap) (hk : k < l.length) :
    w.cell? ⟨g, k, none⟩ = some (.int .u8 (l[k].toNat : Int)) := by
  rcases h.2 with ⟨hv', hn⟩ | ⟨g', cap', cur, hv', hg, hb, hc, _, _, ht⟩
  · omega
  · rw [hv] at hv'
    cases hv'
    refine cell_of_block hb ?_
    have h1 : (bl l)[k]? = some (.int .u8 (l[k].toNat : Int)) := by simp [bl, hk]
    rw [← ht, Nat.mul_one, List.getElem?_take_of_lt hk, Array.getElem?_toList] at h1
    exact h1

theorem app_ty (ts : Array TypeId) (ty : TypeId) (args : Array Value) : Builtin.append_ ts ty args = Builtin.append_ ts 0 args := rfl

/-- Bytes written out, appended. -/
theorem app_lit {base : Nat} {v : Value} {l : List UInt8} {w : World} (own : OB base v l w) (new : List UInt8) (hb : base ≤ w.heap.size) (hlen : l.length + new.length ≤ 1000000000000) :
    ∃ v' w', (∀ ty, (Builtin.append_ #[71, 71] ty #[v, .slice (some ⟨w.heap.size, 0, none⟩) new.length new.length]).run Tryd.prog (w.alloc (.cells (bl new).toArray 5)) = .ok v' w') ∧ OB base v' (l ++ new) w' ∧ Below base w w' := by
  obtain ⟨i, hi, hz0, hz1, hz2⟩ := info_parts u8info
  have own' : (w.alloc (.cells (bl new).toArray 5)).ownsRow base 5 1 v l.length (bl l) := OB.below own ((Below.refl _ _).alloc (Nat.le_refl _) _) (Nat.le_refl _)
  obtain ⟨v', w', hr, ho, hg, _⟩ := run_append_own (P := Tryd.prog) (w.alloc (.cells (bl new).toArray 5)) base 71 0 5 i (.int .u8 0) 1 1 Tryd.underlying71 hi hz0 hz1 hz2 rfl (by omega)
    v l.length (bl l) own' ⟨w.heap.size, 0, none⟩ new.length new.length (bl new) (by rw [bl_len, Nat.mul_one])
    (by
      intro j u hj
      rw [Addr.add_lit]
      refine cell_of_block (heap_alloc_at _ _) ?_
      rw [Nat.zero_add, List.getElem?_toArray]; exact hj)
    (by intro u hu; simp [bl] at hu; obtain ⟨c, _, rfl⟩ := hu; rfl) (by unfold maxLen; omega) (by omega) (by show base ≤ (w.heap.push _).size; simp; omega)
  refine ⟨v', w', fun ty => by rw [app_ty]; exact hr, ?_, ?_⟩
  · unfold OB; rw [List.length_append, bl_append]; exact ho
  · exact ((Below.refl _ _).alloc hb _).grown hg (by show base ≤ (w.heap.push _).size; simp; omega) (fun k hk => (own.lt k hk).1)

/-- Another slice of bytes, appended. -/
theorem app_sl {base base' : Nat} {v x : Value} {l new : List UInt8} {w : World} (own : OB base v l w) (src : OB base' x new w) (hb : base ≤ w.heap.size) (hlen : l.length + new.length ≤ 1000000000000) :
    ∃ v' w', (∀ ty, (Builtin.append_ #[71, 71] ty #[v, x]).run Tryd.prog w = .ok v' w') ∧ OB base v' (l ++ new) w' ∧ Below base w w' := by
  obtain ⟨i, hi, hz0, hz1, hz2⟩ := info_parts u8info
  obtain ⟨a, cap, hx, hn, hc, ha⟩ := src.shape
  cases a with
  | none =>
    obtain ⟨hn1, hn2⟩ := hn rfl
    subst hn1 hn2
    obtain ⟨a2, cap2, hv, _, hc2, _⟩ := own.shape
    subst hv hx
    have hr := run_append_nothing (P := Tryd.prog) w 71 71 0 5 i Tryd.underlying71 hi a2 l.length cap2 hc2 (.slice none 0 0) (Src.ofNil w Tryd.underlying71 0)
    exact ⟨_, w, fun ty => by rw [app_ty]; exact hr, by rw [List.append_nil]; exact own, Below.refl _ _⟩
  | some ad =>
    obtain ⟨g, rfl, _, _⟩ := ha ad rfl
    obtain ⟨v', w', hr, ho, hg, _⟩ := run_append_own (P := Tryd.prog) w base 71 0 5 i (.int .u8 0) 1 1 Tryd.underlying71 hi hz0 hz1 hz2 rfl (by omega)
      v l.length (bl l) own ⟨g, 0, none⟩ new.length cap (bl new) (by rw [bl_len, Nat.mul_one])
      (by
        intro j u hj
        obtain ⟨hj1, hj2⟩ := List.getElem?_eq_some_iff.1 hj
        have hj3 : j < new.length := by rw [bl_len] at hj1; exact hj1
        have := src.cell hx hj3
        rw [Addr.add_lit, Nat.zero_add, this, ← hj2]; simp [bl])
      (by intro u hu; simp [bl] at hu; obtain ⟨c, _, rfl⟩ := hu; rfl) (by unfold maxLen; omega) (by omega) hb
    subst hx
    refine ⟨v', w', fun ty => by rw [app_ty]; exact hr, ?_, ?_⟩
    · unfold OB; rw [List.length_append, bl_append]; exact ho
    · exact (Below.refl _ _).grown hg hb (fun k hk => (own.lt k hk).1)

/-- A string, appended. -/
theorem app_str {base : Nat} {v : Value} {l : List UInt8} {w : World} (own : OB base v l w) (s : ByteArray) (hb : base ≤ w.heap.size) (hlen : l.length + s.size ≤ 1000000000000) :
    ∃ v' w', (∀ ty, (Builtin.append_ #[71, 9] ty #[v, .string s]).run Tryd.prog w = .ok v' w') ∧ OB base v' (l ++ s.data.toList) w' ∧ Below base w w' := by
  obtain ⟨i, hi, hz0, hz1, hz2⟩ := info_parts u8info
  obtain ⟨v', w', hr, ho, hg, _⟩ := Lib.run_append_own_string (P := Tryd.prog) w base 71 9 0 5 i Tryd.underlying71 Tryd.underlying9 hi hz0 hz1 hz2 v l.length (bl l) own s (by unfold maxLen; omega) (by omega) hb
  refine ⟨v', w', fun ty => by rw [app_ty]; exact hr, ?_, ?_⟩
  · unfold OB; rw [List.length_append, bl_append]; exact ho
  · exact (Below.refl _ _).grown hg hb (fun k hk => (own.lt k hk).1)

/-- 'string(b)'. -/
theorem run_back {base : Nat} {v : Value} {l : List UInt8} {w : World} (h : OB base v l w) : (convert 71 9 v).run Tryd.prog w = .ok (.string ⟨l.toArray⟩) w := by
  obtain ⟨a, cap, hv, hn, _, ha⟩ := h.shape
  cases a with
  | none =>
    obtain ⟨rfl, rfl⟩ := hn rfl
    subst hv
    exact run_convert_bytes_nil _ _ _ Tryd.underlying71 Tryd.underlying5 _ _ _ Tryd.underlying9
  | some x =>
    obtain ⟨g, rfl, _, _⟩ := ha x rfl
    have hc := fun j hj => h.cell (k := j) hv hj
    subst hv
    exact run_convert_bytes_back w 71 9 5 ⟨g, 0, none⟩ cap l Tryd.underlying71 Tryd.underlying5 Tryd.underlying9 (fun j hj => by
      rw [Addr.add_lit, Nat.zero_add]; exact hc j hj)

theorem wpList_append_run {P : Program} (w : World) {ops : Array Oper} {rest : List Oper} {o : Oper} {a : Act} {Q : Exit → Act → World → Prop}
    (hg : o.guard = none) (s x : Operand) (t u : TypeId) (hop : o.op = Op.call { callee := Callee.builtin Builtin.append, args := #[s, x], argTypes := #[t, u] })
    (vs vx v' : Value) (hs : a.eval s = vs) (hx : a.eval x = vx) (w' : World) (hrun : ∀ ty, (Builtin.append_ #[t, u] ty #[vs, vx]).run P w = .ok v' w')
    (hK : wpList P ops Q rest (a.put o.dst v') w') : wpList P ops Q (o :: rest) a w := by
  refine wpList_plain hg fun K hK' => ?_
  unfold Oper.wp
  simp [execOp, hop, resolve, invoke, builtin, hs, hx, hrun, Result.andThen]
  exact hK' _ _ hK
end Go.Proofs.YtkabnbopakfknaaDoor
