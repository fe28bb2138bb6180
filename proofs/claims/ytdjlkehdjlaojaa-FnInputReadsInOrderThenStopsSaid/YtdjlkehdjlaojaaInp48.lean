/- The input iterator: made, asked. -/
import Derived.Test.YtdjlkehdjlaojaaHelp48
import Derived.Stop.Asserts
namespace Go.Proofs.Ytdjlkehdjlaojaa
open Go.RowKit

/-- A block known whole. -/
def Nd (p : Nat) (t : TypeId) (cs : Array Value) (w : World) : Prop := w.heap[p]? = some (.cells cs t (0, 0))
theorem Nd.cell {p : Nat} {t : TypeId} {cs : Array Value} {w : World} (h : Nd p t cs w) (i : Nat) {v : Value} (hv : cs[i]? = some v) : w.cell? ⟨p, i, none⟩ = some v := cell_of_block h hv
theorem Nd.lt {p : Nat} {t : TypeId} {cs : Array Value} {w : World} (h : Nd p t cs w) : p < w.heap.size := (Array.getElem?_eq_some_iff.1 h).1

/-- What is left of a slice behind its first element. -/
def tailV : Value → Value
  | .slice (some ⟨g, k, none⟩) n cap => if cap = 1 then .slice (some ⟨g, k, none⟩) (n - 1) 0 else .slice (some ⟨g, k + 1, none⟩) (n - 1) (cap - 1)
  | v => v
theorem Sl.tail {v x : Value} {l : List Value} {w : World} (h : Sl v (x :: l) w) : Sl (tailV v) l w := by
  obtain ⟨a, cap, rfl, h1, h2, h3, h4⟩ := h
  rcases h4 with h0 | ⟨b, off, rfl, hc⟩
  · cases h0
  · rw [List.length_cons] at h1 ⊢
    unfold tailV
    simp only [Nat.add_sub_cancel]
    split
    · have hl : l = [] := List.eq_nil_of_length_eq_zero (by omega)
      subst hl
      exact ⟨_, 0, rfl, Nat.le_refl _, Nat.zero_le _, (fun h => by cases h), .inl rfl⟩
    · refine ⟨_, cap - 1, rfl, by omega, by omega, (fun h => by cases h), .inr ⟨b, off + 1, rfl, fun i hi => ?_⟩⟩
      have := hc (i + 1) (by simp; omega)
      rw [show off + 1 + i = off + (i + 1) by omega, this]
      rfl
set_option maxRecDepth 100000 in
theorem next_any (it : Nat) (v : Value) (x : Int) (l : List Value) (w : World) (h : Nd it 95 #[v] w) (hs : Sl v (.int .i64 x :: l) w) :
    Calls Try.prog 58 #[.pointer (some ⟨it, 0, none⟩)] w fun e w' => e = .returned (.tuple #[.iface 3 (.int .i64 x), .bool true]) ∧ w' = w.setCell ⟨it, 0, none⟩ (tailV v) := by
  obtain ⟨a, cap, rfl, hc, hcap, _, h4⟩ := hs
  rcases h4 with h0 | ⟨g, k, rfl, hcc⟩
  · cases h0
  have hx := hcc 0 (by simp)
  simp only [Nat.add_zero, List.getElem_cons_zero] at hx
  rw [List.length_cons] at h hc
  obtain ⟨n, hn⟩ : ∃ n, l.length = n := ⟨_, rfl⟩
  rw [hn] at h hc
  rw [List.length_cons, hn]
  have c0 : w.cell? ⟨it, 0, none⟩ = some (.slice (some ⟨g, k, none⟩) (n + 1) cap) := h.cell 0 rfl
  have f0 : w.frozen? ⟨it, 0, none⟩ = false := free_of_block h
  have hd : ¬ ((n : Int) + 1 = 0) := by omega
  unfold maxLen at hcap
  clear hcc h hn
  by_cases h1 : cap = 1
  · subst h1
    obtain rfl : n = 0 := by omega
    go_enter Try.func58, Try.ntmps58
    go_wp2_with fail
    go_ret2
    exact ⟨rfl, rfl⟩
  · have ht : tailV (.slice (some ⟨g, k, none⟩) (n + 1) cap) = .slice (some ⟨g, k + 1, none⟩) n (cap - 1) := by unfold tailV; simp only [if_neg h1, Nat.add_sub_cancel]
    rw [ht]
    clear ht
    go_enter Try.func58, Try.ntmps58
    go_wp2_with fail
    all_goals (go_ret2; exact ⟨rfl, rfl⟩)
theorem next_end (it : Nat) (a : Option Addr) (cap : Nat) (w : World) (h : Nd it 95 #[.slice a 0 cap] w) :
    Calls Try.prog 58 #[.pointer (some ⟨it, 0, none⟩)] w fun e w' => e = .returned (.tuple #[.nilIface, .bool false]) ∧ w = w' := by
  have c0 := h.cell 0 rfl
  clear h
  go_enter Try.func58, Try.ntmps58
  go_wp2_with fail
  go_ret2
  exact ⟨rfl, rfl⟩
theorem errNew_any (w : World) (s : ByteArray) :
    Calls Try.prog 34 #[.string s] w fun e w' => e = .returned (.iface 111 (.pointer (some ⟨w.heap.size, 0, none⟩))) ∧ w' = w.alloc (.cells #[.string s] 113) := by
  go_enter Try.func34, Try.ntmps34
  go_wp2_with fail
  go_ret
  exact ⟨rfl, rfl⟩
theorem mNext (x : Option Addr) (w : World) : Sem.run Try.prog (method 252 96 (.pointer x) "Next") w = .ok (58, .pointer x) w := by kernel_rfl
set_option maxRecDepth 100000 in
/-- The iterator is at its end. -/
theorem funcInput_end (c it : Nat) (a : Option Addr) (cap : Nat) (cs : Array Value) (w : World) (hc : Nd c 82 cs w) (h4 : cs[4]? = some (.iface 96 (.pointer (some ⟨it, 0, none⟩)))) (h : Nd it 95 #[.slice a 0 cap] w) :
    Calls Try.prog 30 #[.pointer (some ⟨c, 0, none⟩), .nilIface, .slice none 0 0] w fun e w' => e = .returned (.iface 111 (.pointer (some ⟨w.heap.size, 0, none⟩))) ∧ w' = w.alloc (.cells #[.string ⟨#[98, 114, 101, 97, 107]⟩] 113) := by
  have c4 := hc.cell 4 h4
  have HN := Lib.hid (next_end it a cap w h)
  have hm := mNext (some ⟨it, 0, none⟩)
  clear hc h4 h
  go_enter Try.func30, Try.ntmps30
  go_wp2_with fail
  refine HN.out.mono ?_
  rintro e w' ⟨rfl, rfl⟩
  go_wp2_with fail
  refine (errNew_any w _).mono ?_
  rintro e w' ⟨rfl, rfl⟩
  go_wp2_with fail
  go_ret
  exact ⟨rfl, rfl⟩
theorem ta_int (p : Option Addr) (W : World) : Sem.run Try.prog (Instr.typeAssert (Value.iface 111 (Value.pointer p)) 20 3 true) W = .ok (.tuple #[.int .i64 0, .bool false]) W := by kernel_rfl
theorem ta_err (p : Option Addr) (W : World) : Sem.run Try.prog (Instr.typeAssert (Value.iface 111 (Value.pointer p)) 20 99 true) W = .ok (.tuple #[.iface 111 (.pointer p), .bool true]) W := by kernel_rfl
theorem ta_int2 (x : Int) (W : World) : Sem.run Try.prog (Instr.typeAssert (Value.iface 3 (.int .i64 x)) 20 3 true) W = .ok (.tuple #[.int .i64 x, .bool true]) W := by kernel_rfl
theorem ta_err2 (x : Int) (W : World) : Sem.run Try.prog (Instr.typeAssert (Value.iface 3 (.int .i64 x)) 20 99 true) W = .ok (.tuple #[.nilIface, .bool false]) W := run_typeAssert_lacksB Try.underlying99 (by kernel_rfl) (by kernel_rfl) _ _ _
set_option maxRecDepth 100000 in
theorem zzInput_end (c it : Nat) (a : Option Addr) (cap : Nat) (cs : Array Value) (w : World) (hc : Nd c 82 cs w) (h4 : cs[4]? = some (.iface 96 (.pointer (some ⟨it, 0, none⟩)))) (h : Nd it 95 #[.slice a 0 cap] w) :
    Calls Try.prog 23 #[.pointer (some ⟨c, 0, none⟩)] w fun e w' => e = .returned (.tuple #[.int .i64 0, .bool false, .bool true]) ∧ w' = w.alloc (.cells #[.string ⟨#[98, 114, 101, 97, 107]⟩] 113) := by
  have HN := Lib.hid (funcInput_end c it a cap cs w hc h4 h)
  have h1 := ta_int
  have h2 := ta_err
  clear hc h4 h
  go_enter Try.func23, Try.ntmps23
  go_wp2_with fail
  refine HN.out.mono ?_
  rintro e w' ⟨rfl, rfl⟩
  go_wp2_with fail
  go_ret3
  exact ⟨rfl, rfl⟩
set_option maxRecDepth 100000 in
theorem funcInput_any (c it : Nat) (v : Value) (x : Int) (l : List Value) (cs : Array Value) (w : World) (hc : Nd c 82 cs w) (h4 : cs[4]? = some (.iface 96 (.pointer (some ⟨it, 0, none⟩)))) (h : Nd it 95 #[v] w) (hs : Sl v (.int .i64 x :: l) w) :
    Calls Try.prog 30 #[.pointer (some ⟨c, 0, none⟩), .nilIface, .slice none 0 0] w fun e w' => e = .returned (.iface 3 (.int .i64 x)) ∧ w' = w.setCell ⟨it, 0, none⟩ (tailV v) := by
  have c4 := hc.cell 4 h4
  have HN := Lib.hid (next_any it v x l w h hs)
  have hm := mNext (some ⟨it, 0, none⟩)
  obtain ⟨W, hW⟩ : ∃ W, w.setCell ⟨it, 0, none⟩ (tailV v) = W := ⟨_, rfl⟩
  rw [hW] at HN ⊢
  clear hc h4 h hs hW
  go_enter Try.func30, Try.ntmps30
  go_wp2_with fail
  refine HN.out.mono ?_
  rintro e w' ⟨rfl, rfl⟩
  go_wp2_with fail
  go_ret
  exact ⟨rfl, rfl⟩
set_option maxRecDepth 100000 in
theorem zzInput_any (c it : Nat) (v : Value) (x : Int) (l : List Value) (cs : Array Value) (w : World) (hc : Nd c 82 cs w) (h4 : cs[4]? = some (.iface 96 (.pointer (some ⟨it, 0, none⟩)))) (h : Nd it 95 #[v] w) (hs : Sl v (.int .i64 x :: l) w) :
    Calls Try.prog 23 #[.pointer (some ⟨c, 0, none⟩)] w fun e w' => e = .returned (.tuple #[.int .i64 x, .bool true, .bool false]) ∧ w' = w.setCell ⟨it, 0, none⟩ (tailV v) := by
  have HN := Lib.hid (funcInput_any c it v x l cs w hc h4 h hs)
  obtain ⟨W, hW⟩ : ∃ W, w.setCell ⟨it, 0, none⟩ (tailV v) = W := ⟨_, rfl⟩
  rw [hW] at HN ⊢
  have h1 := ta_int2
  have h2 := ta_err2
  clear hc h4 h hs hW
  go_enter Try.func23, Try.ntmps23
  go_wp2_with fail
  refine HN.out.mono ?_
  rintro e w' ⟨rfl, rfl⟩
  go_wp2_with fail
  go_ret3
  exact ⟨rfl, rfl⟩
theorem size_alloc1 (w : World) (o : Obj) : (w.alloc o).heap.size = w.heap.size + 1 := by show (w.heap.push o).size = _; simp
/-- The compiler's block. -/
def cmpCells (it : Nat) : Array Value := #[Value.nilIface, Value.nilFunc, Value.slice none 0 0, Value.map none, Value.iface 96 (Value.pointer (some ⟨it, 0, none⟩)), Value.slice none 0 0, Value.slice none 0 0, Value.pointer none, Value.slice none 0 0, Value.int IntKind.i64 0, Value.int IntKind.u32 0, Value.int IntKind.i32 0, Value.int IntKind.u32 0, Value.pointer none, Value.nilFunc, Value.nilFunc, Value.int IntKind.u64 0]
set_option maxRecDepth 100000 in
theorem newInp_any (v : Value) (l : List Value) (w : World) (h : Sl v l w) :
    Calls Try.prog 22 #[v] w fun e w' => e = .returned (.pointer (some ⟨w.heap.size + 1, 0, none⟩)) ∧ Nd w.heap.size 95 #[v] w' ∧ Nd (w.heap.size + 1) 82 (cmpCells w.heap.size) w' ∧ Below w.heap.size w w' := by
  obtain ⟨a, cap, rfl, _⟩ := h
  go_enter Try.func22, Try.ntmps22
  go_wp2_with fail
  go_ret
  refine ⟨rfl, ?_, ?_, ((Below.refl _ _).alloc (Nat.le_refl _) _).alloc (by simp) _⟩
  · exact (heap_alloc_ne (by simp)).trans (heap_alloc_at _ _)
  · have := heap_alloc_at (w.alloc (.cells #[Value.slice a l.length cap] 95)) (.cells (cmpCells w.heap.size) 82)
    rw [size_alloc1] at this
    exact this
end Go.Proofs.Ytdjlkehdjlaojaa
