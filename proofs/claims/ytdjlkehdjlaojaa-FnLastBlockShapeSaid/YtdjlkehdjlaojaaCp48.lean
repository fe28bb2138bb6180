/- The compiler's rows of codes and of functions: appending to them. -/
import Derived.Test.YtdjlkehdjlaojaaRc48
import Derived.Maps.AppendAt
import Derived.Outline
import Derived.Deep.Upon
import Derived.Handy
namespace Go.Proofs.Ytdjlkehdjlaojaa
open Go.RowKit
set_option linter.unusedVariables false
set_option linter.unusedSimpArgs false

theorem info_code : (Try.prog.info? 84).map (fun i => (i.zero, i.size, i.bytes)) = some (some (Value.pointer none), 1, 8) := by kernel_rfl
theorem info_fun : (Try.prog.info? 29).map (fun i => (i.zero, i.size, i.bytes)) = some (some (Value.pointer none), 1, 8) := by kernel_rfl
theorem info_parts' {P : Program} {t : TypeId} {z : Value} {s b : Nat} (h : (P.info? t).map (fun i => (i.zero, i.size, i.bytes)) = some (some z, s, b)) : ∃ i, P.info? t = some i ∧ i.zero = some z ∧ i.size = s ∧ i.bytes = b := by
  cases e : P.info? t with
  | none => rw [e] at h; cases h
  | some i => rw [e] at h; simp at h; exact ⟨i, rfl, h.1, h.2.1, h.2.2⟩
/-- All but two blocks stay. -/
def Keep (cp : Nat) (row : Option Nat) (w w' : World) : Prop := w'.os = w.os ∧ w'.tape = w.tape ∧ w'.output = w.output ∧ w.heap.size ≤ w'.heap.size ∧ ∀ k, k < w.heap.size → k ≠ cp → some k ≠ row → w'.heap[k]? = w.heap[k]?
theorem Keep.nd {cp : Nat} {row : Option Nat} {w w' : World} (h : Keep cp row w w') {p : Nat} {t : TypeId} {cs : Array Value} (hN : Nd p t cs w) (h1 : p ≠ cp) (h2 : some p ≠ row) : Nd p t cs w' := (h.2.2.2.2 p hN.lt h1 h2).trans hN
theorem Keep.below {cp B : Nat} {row : Option Nat} {w w' : World} (h : Keep cp row w w') (h1 : B ≤ cp) (h2 : ∀ k, row = some k → B ≤ k) : B ≤ w.heap.size → Below B w w' := fun hB => ⟨h.1, h.2.1, h.2.2.1, h.2.2.2.1, fun k hk => h.2.2.2.2 k (by omega) (by omega) (fun e => by have := h2 k e.symm; omega)⟩
theorem Keep.of_grown {cp : Nat} {row : Option Nat} {w w1 w' : World} (hb : Below w.heap.size w w1) (hg : w1.grownBy w' row) (v : Value) (i : Nat) : Keep cp row w (w'.setCell ⟨cp, i, none⟩ v) :=
  ⟨hg.os.trans hb.os, hg.tape.trans hb.tape, hg.output.trans hb.output, by rw [size_setCell]; exact Nat.le_trans hb.size hg.size, fun k hk h1 h2 => (heap_setCell_ne h1 v).trans ((hg.block k (Nat.lt_of_lt_of_le hk hb.size) h2).trans (hb.block k hk))⟩
theorem ptr_one (p : Nat) : (ptr p).oneCell' = true := rfl
theorem row_form {w : World} {base : Nat} {e : TypeId} {v : Value} {n : Nat} {xs : List Value} (h : w.ownsRow base e 1 v n xs) : ∃ a cap, v = .slice a n cap := by
  rcases h.2 with ⟨rfl, rfl⟩ | ⟨g, cap, cur, rfl, _⟩
  · exact ⟨none, 0, rfl⟩
  · exact ⟨_, cap, rfl⟩
theorem row_kept {B base : Nat} {e : TypeId} {v : Value} {n : Nat} {xs : List Value} {w w' : World} (h : w.ownsRow base e 1 v n xs) (hb : Below B w w') (hB : w.heap.size ≤ B) : w'.ownsRow base e 1 v n xs := by
  refine ⟨h.1, ?_⟩
  rcases h.2 with h0 | ⟨g, cap, cur, hv, hg, hb2, rest⟩
  · exact .inl h0
  · exact .inr ⟨g, cap, cur, hv, hg, (hb.block g (Nat.lt_of_lt_of_le (Array.getElem?_eq_some_iff.1 hb2).1 hB)).trans hb2, rest⟩
theorem add_lit (g o j : Nat) : (⟨g, o, none⟩ : Addr).add j = ⟨g, o + j, none⟩ := by
  unfold Addr.add
  simp
/-- Pointers out of a block, appended to a row of codes. -/
theorem app_codes {base b m : Nat} {v : Value} {n : Nat} {xs news : List Value} {w : World} (own : w.ownsRow base 84 1 v n xs) (hN : Nd b 84 news.toArray w) (hl : news.length = m) (h1 : ∀ u ∈ news, u.oneCell' = true) (hb : base ≤ w.heap.size) (hlen : n + m ≤ 1000000000000) :
    ∃ a' c' w', (∀ ty, (Builtin.append_ #[57, 57] ty #[v, .slice (some ⟨b, 0, none⟩) m m]).run Try.prog w = .ok (.slice a' (n + m) c') w') ∧ w'.ownsRow base 84 1 (.slice a' (n + m) c') (n + m) (xs ++ news) ∧ w.grownBy w' v.ownBlock := by
  obtain ⟨i, hi, hz0, hz1, hz2⟩ := info_parts' info_code
  obtain ⟨v', w', hr, ho, hg, _⟩ := run_append_own (P := Try.prog) w base 57 0 84 i (.pointer none) 1 8 Try.underlying57 hi hz0 hz1 hz2 rfl (by omega)
    v n xs own ⟨b, 0, none⟩ m m news (by omega)
    (by
      intro j u hj
      rw [add_lit, Nat.zero_add]
      exact hN.cell j (by rw [List.getElem?_toArray]; exact hj))
    h1 (by unfold maxLen; omega) (by omega) hb
  obtain ⟨a', c', rfl⟩ := row_form ho
  exact ⟨a', c', w', fun ty => hr, ho, hg⟩
theorem app_funs {base b m : Nat} {v : Value} {n : Nat} {xs news : List Value} {w : World} (own : w.ownsRow base 29 1 v n xs) (hN : Nd b 29 news.toArray w) (hl : news.length = m) (h1 : ∀ u ∈ news, u.oneCell' = true) (hb : base ≤ w.heap.size) (hlen : n + m ≤ 1000000000000) :
    ∃ a' c' w', (∀ ty, (Builtin.append_ #[48, 48] ty #[v, .slice (some ⟨b, 0, none⟩) m m]).run Try.prog w = .ok (.slice a' (n + m) c') w') ∧ w'.ownsRow base 29 1 (.slice a' (n + m) c') (n + m) (xs ++ news) ∧ w.grownBy w' v.ownBlock := by
  obtain ⟨i, hi, hz0, hz1, hz2⟩ := info_parts' info_fun
  obtain ⟨v', w', hr, ho, hg, _⟩ := run_append_own (P := Try.prog) w base 48 0 29 i (.pointer none) 1 8 Try.underlying48 hi hz0 hz1 hz2 rfl (by omega)
    v n xs own ⟨b, 0, none⟩ m m news (by omega)
    (by
      intro j u hj
      rw [add_lit, Nat.zero_add]
      exact hN.cell j (by rw [List.getElem?_toArray]; exact hj))
    h1 (by unfold maxLen; omega) (by omega) hb
  obtain ⟨a', c', rfl⟩ := row_form ho
  exact ⟨a', c', w', fun ty => hr, ho, hg⟩
theorem wpList_append_run {P : Program} (w : World) {ops : Array Oper} {rest : List Oper} {o : Oper} {a : Act} {Q : Exit → Act → World → Prop}
    (hg : o.guard = none) (s x : Operand) (t u : TypeId) (hop : o.op = Op.call { callee := Callee.builtin Builtin.append, args := #[s, x], argTypes := #[t, u] })
    (vs vx v' : Value) (hs : a.eval s = vs) (hx : a.eval x = vx) (w' : World) (hrun : ∀ ty, (Builtin.append_ #[t, u] ty #[vs, vx]).run P w = .ok v' w')
    (hK : wpList P ops Q rest (a.put o.dst v') w') : wpList P ops Q (o :: rest) a w := by
  refine wpList_plain hg fun K hK' => ?_
  unfold Oper.wp
  simp [execOp, hop, resolve, invoke, builtin, hs, hx, hrun, Result.andThen]
  exact hK' _ _ hK
/-- One code, appended. -/
theorem append_any (cp p base : Nat) (C : Array Value) (v : Value) (n : Nat) (xs : List Value) (w : World) (hC : Nd cp 82 C w) (h5 : C[5]? = some v) (own : w.ownsRow base 84 1 v n xs) (hcb : cp < base) (hb : base ≤ w.heap.size) (hn : n ≤ 1000000) :
    Calls Try.prog 24 #[ptr cp, ptr p] w fun e w' => e = .returned (.tuple #[]) ∧ ∃ v', Nd cp 82 (C.setIfInBounds 5 v') w' ∧ w'.ownsRow base 84 1 v' (n + 1) (xs ++ [ptr p]) ∧ Keep cp v.ownBlock w w' := by
  obtain ⟨a, cap, rfl⟩ := row_form own
  have hbA : Below w.heap.size w (w.alloc (.cells #[ptr p] 84)) := (Below.refl _ _).alloc (Nat.le_refl _) _
  obtain ⟨a', c', w2, hap, ho2, hg2⟩ := app_codes (news := [ptr p]) (m := 1) (row_kept own hbA (Nat.le_refl _)) (Nd.newAt 84 #[ptr p] rfl) rfl (by simp [ptr_one]) (by rw [size_alloc]; omega) (by omega)
  have hC2 : Nd cp 82 C w2 := (hg2.block cp (by have := (hC.alloc (.cells #[ptr p] 84)).lt; exact this) (fun e => by have := (own.lt cp e.symm).1; omega)).trans (hC.alloc _)
  have c0 := hC.cell 5 h5
  have c1 := hC2.cell 5 h5
  have f1 := hC2.free 5
  have HC2 := Lib.hid hC2
  have HO2 := Lib.hid ho2
  have HG2 := Lib.hid hg2
  have HBA := Lib.hid hbA
  clear hC hC2 ho2 hg2 own hbA h5
  unfold ptr at hap ⊢
  go_enter Try.func24, Try.ntmps24
  go_wp2_with (at_builtin; refine wpList_append_run _ rfl _ _ _ _ rfl _ _ _ rfl rfl _ hap ?_)
  go_end0
  exact ⟨rfl, .slice a' (n + 1) c', HC2.out.set 5 _, ownsRow_setCell_below HO2.out hcb _, Keep.of_grown HBA.out HG2.out _ 5⟩
/-- Codes, appended. -/
theorem appends_any (cp b m base : Nat) (news : List Value) (C : Array Value) (v : Value) (n : Nat) (xs : List Value) (w : World) (hC : Nd cp 82 C w) (h5 : C[5]? = some v) (own : w.ownsRow base 84 1 v n xs) (hcb : cp < base) (hb : base ≤ w.heap.size) (hn : n ≤ 1000000) (hN : Nd b 84 news.toArray w) (hl : news.length = m) (hm : m ≤ 1000) (h1 : ∀ u ∈ news, u.oneCell' = true) :
    Calls Try.prog 33 #[ptr cp, .slice (some ⟨b, 0, none⟩) m m] w fun e w' => e = .returned (.tuple #[]) ∧ ∃ v', Nd cp 82 (C.setIfInBounds 5 v') w' ∧ w'.ownsRow base 84 1 v' (n + m) (xs ++ news) ∧ Keep cp v.ownBlock w w' := by
  obtain ⟨a, cap, rfl⟩ := row_form own
  obtain ⟨a', c', w2, hap, ho2, hg2⟩ := app_codes own hN hl h1 hb (by omega)
  have hC2 : Nd cp 82 C w2 := (hg2.block cp hC.lt (fun e => by have := (own.lt cp e.symm).1; omega)).trans hC
  have c0 := hC.cell 5 h5
  have c1 := hC2.cell 5 h5
  have f1 := hC2.free 5
  have HC2 := Lib.hid hC2
  have HO2 := Lib.hid ho2
  have HG2 := Lib.hid hg2
  clear hC hC2 ho2 hg2 own h5 hN h1
  unfold ptr
  go_enter Try.func33, Try.ntmps33
  go_wp2_with (at_builtin; refine wpList_append_run _ rfl _ _ _ _ rfl _ _ _ rfl rfl _ hap ?_)
  go_end0
  exact ⟨rfl, .slice a' (n + m) c', HC2.out.set 5 _, ownsRow_setCell_below HO2.out hcb _, Keep.of_grown (Below.refl _ _) HG2.out _ 5⟩
/-- A fresh no-op, appended. -/
theorem nop_any (cp base : Nat) (C : Array Value) (v : Value) (n : Nat) (xs : List Value) (w : World) (hC : Nd cp 82 C w) (h5 : C[5]? = some v) (own : w.ownsRow base 84 1 v n xs) (hcb : cp < base) (hb : base ≤ w.heap.size) (hn : n ≤ 1000000) :
    Calls Try.prog 6 #[ptr cp] w fun e w' => e = .returned (.tuple #[]) ∧ ∃ v', Nd cp 82 (C.setIfInBounds 5 v') w' ∧ w'.ownsRow base 84 1 v' (n + 1) (xs ++ [ptr w.heap.size]) ∧ Nd w.heap.size 87 #[.nilIface, .int .i64 0] w' ∧ Keep cp v.ownBlock w w' := by
  have hbA : Below w.heap.size w (w.alloc (.cells #[.nilIface, .int .i64 0] 87)) := (Below.refl _ _).alloc (Nat.le_refl _) _
  have HC := Lib.hid (append_any cp w.heap.size base C v n xs (w.alloc (.cells #[.nilIface, .int .i64 0] 87)) (hC.alloc _) h5 (row_kept own hbA (Nat.le_refl _)) hcb (by rw [size_alloc]; omega) hn)
  have HBA := Lib.hid hbA
  have HCC := Lib.hid hC
  have HOW := Lib.hid own
  clear hbA hC own
  unfold ptr at *
  go_enter Try.func6, Try.ntmps6
  go_wp2_with fail
  refine HC.out.mono ?_
  rintro e w1 ⟨rfl, v', h1, h2, h3⟩
  go_wp2_with fail
  go_end0
  refine ⟨rfl, v', h1, h2, h3.nd (Nd.newAt _ _ rfl) (by have := HCC.out.lt; omega) (fun e => by have := (HOW.out.lt _ e.symm).2; omega), ?_⟩
  exact ⟨h3.1.trans HBA.out.os, h3.2.1.trans HBA.out.tape, h3.2.2.1.trans HBA.out.output, Nat.le_trans HBA.out.size h3.2.2.2.1, fun k hk h4 h5 => (h3.2.2.2.2 k (Nat.lt_of_lt_of_le hk HBA.out.size) h4 h5).trans (HBA.out.block k hk)⟩
end Go.Proofs.Ytdjlkehdjlaojaa
