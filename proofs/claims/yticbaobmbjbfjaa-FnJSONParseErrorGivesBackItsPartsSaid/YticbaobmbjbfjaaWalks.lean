/- Contracts of JSONParseError and the exports; the law's walk. -/
import Derived.Test.YticbaobmbjbfjaaRows
import Derived.Test.YticbaobmbjbfjaaKit
import Derived.WideLaws
import Derived.Outline
namespace Go.Proofs.Yticbaobmbjbfjaa
open Go.RowKit

def Box (f c : ByteArray) (p : Nat) : Array Value := #[.string f, .string c, .iface 29 (.pointer (some ⟨p, 0, none⟩))]

set_option maxHeartbeats 400000 in
theorem new_any (f c : ByteArray) (n : Int) (w : World) :
    Calls Try.prog 5 #[.string f, .string c, .int .i64 n] w fun e w' => e = .returned (.pointer (some ⟨w.heap.size + 1, 0, none⟩)) ∧ w'.heap[w.heap.size + 1]? = some (.cells (Box f c w.heap.size) 33 (0, 0)) ∧ Below w.heap.size w w' := by
  go_enter Try.func5, Try.ntmps5
  go_wp2
  go_ret
  refine ⟨rfl, ?_, ((Below.refl _ _).alloc (Nat.le_refl _) _).alloc (by simp) _⟩
  have := heap_alloc_at (w.alloc (.cells #[.int .i64 n, .string ⟨#[]⟩, .int .i64 (-1)] 31)) (.cells (Box f c w.heap.size) 33)
  rw [World.size_alloc] at this
  exact this

set_option maxHeartbeats 400000 in
theorem parts_any (b p : Nat) (f c : ByteArray) (w : World) (h : w.heap[b]? = some (.cells (Box f c p) 33 (0, 0))) :
    Calls Try.prog 7 #[.pointer (some ⟨b, 0, none⟩)] w fun e w' => e = .returned (.tuple #[.string f, .string c, .iface 29 (.pointer (some ⟨p, 0, none⟩))]) ∧ ∃ n, w' = w.drewN n := by
  have c0 : w.cell? ⟨b, 0, none⟩ = some (.string f) := cell_of_block h rfl
  have c1 : w.cell? ⟨b, 1, none⟩ = some (.string c) := cell_of_block h rfl
  have c2 : w.cell? ⟨b, 2, none⟩ = some (.iface 29 (.pointer (some ⟨p, 0, none⟩))) := cell_of_block h rfl
  clear h
  go_enter Try.func7, Try.ntmps7
  go_wp2
  go_quiet (fail)
  go_wp2
  go_ret3
  exact ⟨rfl, _, rfl⟩

set_option maxHeartbeats 400000 in
theorem zzParts_any (b p : Nat) (f c : ByteArray) (w : World) (h : w.heap[b]? = some (.cells (Box f c p) 33 (0, 0))) :
    Calls Try.prog 6 #[.pointer (some ⟨b, 0, none⟩)] w fun e w' => e = .returned (.tuple #[.string f, .string c, .iface 29 (.pointer (some ⟨p, 0, none⟩))]) ∧ ∃ n, w' = w.drewN n := by
  have H := Lib.hid h
  clear h
  go_enter Try.func6, Try.ntmps6
  go_wp2_with fail
  refine (parts_any b p f c _ H.out).mono ?_
  rintro e w' ⟨rfl, n, rfl⟩
  go_wp2_with fail
  go_ret3
  exact ⟨rfl, _, rfl⟩

def fitB (a b : Nat) : Bool := decide (a + b ≤ 1048576)
theorem bytes_any (f c : ByteArray) (n : Int) (w : World) (hf : f.size ≤ maxLen) (hc : c.size ≤ maxLen) :
    Calls Try.prog 4 #[.string f, .string c, .int .i64 n] w fun e w' => e = .returned (.bool (fitB f.size c.size)) ∧ w = w' := by
  unfold maxLen at *
  go_enter Try.func4, Try.ntmps4
  go_wp2
  all_goals (go_ret; exact ⟨ret_bool (by unfold fitB; simp; omega), rfl⟩)

def True1 (w : World) (e : Ending) (w' : World) : Prop := e = .returned (.bool true) ∧ Below w.heap.size w w'

set_option maxHeartbeats 1000000 in
theorem law_good (f c : ByteArray) (n : Int) (w : World) (hf : f.size ≤ 65536) (hc : c.size ≤ 524288) :
    Calls Try.prog 3 #[.string f, .string c, .int .i64 n] w (True1 w) := by
  have hb : fitB f.size c.size = true := by unfold fitB; simp; omega
  go_enter Try.func3, Try.ntmps3
  go_wp2_with (go_at_call 4; refine (bytes_any _ _ _ _ (by unfold maxLen; omega) (by unfold maxLen; omega)).mono ?_; rintro e w' ⟨rfl, rfl⟩)
  refine (new_any f c n _).mono ?_
  rintro e w1 ⟨rfl, h1, b1⟩
  have H1 := Lib.hid h1
  clear h1
  generalize hB : w.heap.size = b at *
  have HB := Lib.hid hB
  clear hB
  go_wp2_with fail
  refine (zzParts_any (b + 1) b f c _ H1.out).mono ?_
  rintro e w' ⟨rfl, m, rfl⟩
  have H2 : Hid ((w1.drewN m).heap[b + 1]? = some (.cells (Box f c b) 33 (0, 0))) := H1
  have b2 : Below b w (w1.drewN m) := below_drewN b1 m
  generalize w1.drewN m = w2 at *
  clear H1 b1
  go_wp2_with fail
  refine (zzParts_any (b + 1) b f c _ H2.out).mono ?_
  rintro e w' ⟨rfl, m2, rfl⟩
  go_wp2_with fail
  go_ret
  refine ⟨by simp, ?_⟩
  rw [HB.out]
  exact below_drewN b2 _

set_option maxHeartbeats 1000000 in
theorem law_rest (f c : ByteArray) (n : Int) (w : World) (hf : f.size ≤ maxLen) (hc : c.size ≤ maxLen) (h : ¬ (f.size ≤ 65536 ∧ c.size ≤ 524288)) :
    Calls Try.prog 3 #[.string f, .string c, .int .i64 n] w (True1 w) := by
  by_cases hb : fitB f.size c.size = true
  · go_enter Try.func3, Try.ntmps3
    go_wp2_with (go_at_call 4; refine (bytes_any _ _ _ _ hf hc).mono ?_; rintro e w' ⟨rfl, rfl⟩)
    all_goals first | omega | (go_ret; exact ⟨rfl, Below.refl _ _⟩)
  · have hb' : fitB f.size c.size = false := by simpa using hb
    clear hb
    go_enter Try.func3, Try.ntmps3
    go_wp2_with (go_at_call 4; refine (bytes_any _ _ _ _ hf hc).mono ?_; rintro e w' ⟨rfl, rfl⟩)
    go_ret
    exact ⟨rfl, Below.refl _ _⟩

end Go.Proofs.Yticbaobmbjbfjaa
