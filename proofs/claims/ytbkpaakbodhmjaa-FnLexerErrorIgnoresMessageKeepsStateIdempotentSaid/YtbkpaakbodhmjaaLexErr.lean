/- The walk of FnLexerErrorIgnoresMessageKeepsStateIdempotent. -/
import Derived.Test.YtbkpaakbodhmjaaBytes
import Derived.Test.YtbkpaakbodhmjaaKit
import Derived.RegionTactic
import Derived.ChangeAlike
import Derived.Deep.QuietTactic
import Derived.BigQuiet
import Derived.Outline
namespace Go.Proofs.Ytbkpaakbodhmjaa.LexErr
open Go.RowKit

def fitB (a b c d : Nat) : Bool := decide (a + b + c + d ≤ 1048576)

set_option maxHeartbeats 400000 in
theorem bytes_any (s t u v : ByteArray) (a b : Int) (w : World) (hs : s.size ≤ maxLen) (ht : t.size ≤ maxLen) (hu : u.size ≤ maxLen) (hv : v.size ≤ maxLen) :
    Calls Try.prog 16 #[.string s, .int .i64 a, .string t, .int .i64 b, .string u, .string v] w fun e w' => e = .returned (.bool (fitB s.size t.size u.size v.size)) ∧ w = w' := by
  unfold maxLen at *
  go_enter Try.func16, Try.ntmps16
  go_wp2
  all_goals (go_ret; exact ⟨ret_bool (by unfold fitB; simp; omega), rfl⟩)

attribute [local go_sem] alloc_drewN setCell_drewN

def tkn (tok : ByteArray) (tt : Int) : ByteArray := if tt ≠ -1 ∧ tt < 128 then Utf8.encode tt else tok
def Lx (src : ByteArray) (off : Int) (tok : ByteArray) (tt : Int) (er : Value) : Array Value :=
  #[.string src, .int .i64 off, .pointer none, .string tok, .int .i64 tt, .bool false, er]
def ErrPost (b : Nat) (src : ByteArray) (off : Int) (tok : ByteArray) (tt : Int) (w : World) (e : Ending) (w' : World) : Prop :=
  e = .returned (.tuple #[]) ∧ w'.heap[b]? = some (.cells (Lx src off tok tt (.iface 30 (.pointer (some ⟨w.heap.size, 0, none⟩)))) 41 (0, 0)) ∧
  w'.heap[w.heap.size]? = some (.cells #[.int .i64 off, .string (tkn tok tt), .int .i64 tt] 35 (0, 0)) ∧
  (∀ k, k < w.heap.size → k ≠ b → w'.heap[k]? = w.heap[k]?) ∧ w'.heap.size = w.heap.size + 1 ∧ Below b w w'

theorem err_end (b : Nat) (src tok : ByteArray) (off tt : Int) (w : World) (er : Value) (n : Nat)
    (hb : w.heap[b]? = some (.cells (Lx src off tok tt er) 41 (0, 0))) (tk : ByteArray) (htk : tk = tkn tok tt) :
    ErrPost b src off tok tt w (.returned (.tuple #[])) (((w.setCell ⟨b, 6, none⟩ (.iface 30 (.pointer (some ⟨w.heap.size, 0, none⟩)))).alloc (.cells #[.int .i64 off, .string tk, .int .i64 tt] 35)).drewN n) := by
  have hlt : b < w.heap.size := lt_of_block hb
  subst htk
  refine ⟨rfl, ?_, ?_, ?_, ?_, ?_⟩
  · rw [World.heap_drewN, heap_alloc_ne (by simpa using hlt), heap_setCell_at hb]; rfl
  · have := heap_alloc_at (w.setCell ⟨b, 6, none⟩ (.iface 30 (.pointer (some ⟨w.heap.size, 0, none⟩)))) (.cells #[.int .i64 off, .string (tkn tok tt), .int .i64 tt] 35)
    rw [World.size_setCell] at this
    exact this
  · intro k hk hne
    rw [World.heap_drewN, heap_alloc_ne (by simpa using hk), heap_setCell_ne hne]
  · simp
  · exact below_drewN (((Below.refl b w).setCell (Nat.le_refl _) _).alloc (by simp; omega) _) _

set_option maxHeartbeats 400000 in
theorem error_any (b : Nat) (src tok msg : ByteArray) (off tt : Int) (w : World) (er : Value)
    (hb : w.heap[b]? = some (.cells (Lx src off tok tt er) 41 (0, 0)))
    (h0 : -1 ≤ tt)  (h1 : tt ≤ 9223372036854775807) :
    Calls Try.prog 25 #[.pointer (some ⟨b, 0, none⟩), .string msg] w (ErrPost b src off tok tt w) := by
  have c1 : w.cell? ⟨b, 1, none⟩ = some (.int .i64 off) := cell_of_block hb rfl
  have c3 : w.cell? ⟨b, 3, none⟩ = some (.string tok) := cell_of_block hb rfl
  have c4 : w.cell? ⟨b, 4, none⟩ = some (.int .i64 tt) := cell_of_block hb rfl
  have c6 : w.cell? ⟨b, 6, none⟩ = some er := cell_of_block hb rfl
  have f6 : w.frozen? ⟨b, 6, none⟩ = false := free_of_block hb
  have hlt : b < w.heap.size := lt_of_block hb
  have HB := Lib.hid hb
  clear hb
  by_cases e1 : tt = -1
  · subst e1
    have HT : Hid (tok = tkn tok (-1)) := Lib.hid (by simp [tkn])
    go_enter Try.func25, Try.ntmps25
    go_wp2
    go_quiet (fail)
    go_wp2
    go_end0
    exact err_end b src tok off (-1) w er _ HB.out _ HT.out
  · by_cases e2 : tt < 128
    · have hne : (tt != -1) = true := by simpa using e1
      have HT : Hid (Utf8.encode tt = tkn tok tt) := Lib.hid (by rw [tkn, if_pos ⟨e1, e2⟩])
      have h00 : 0 ≤ tt := by omega
      clear e1
      go_enter Try.func25, Try.ntmps25
      go_wp2
      go_quiet (fail)
      go_wp2
      go_end0
      exact err_end b src tok off tt w er _ HB.out _ HT.out
    · have hne : (tt != -1) = true := by simpa using e1
      have HT : Hid (tok = tkn tok tt) := Lib.hid (by rw [tkn, if_neg (by omega)])
      clear e1
      go_enter Try.func25, Try.ntmps25
      go_wp2
      go_quiet (fail)
      go_wp2
      go_end0
      exact err_end b src tok off tt w er _ HB.out _ HT.out

set_option maxHeartbeats 400000 in
theorem zzError_any (b : Nat) (src tok msg : ByteArray) (off tt : Int) (w : World) (er : Value)
    (hb : w.heap[b]? = some (.cells (Lx src off tok tt er) 41 (0, 0)))
    (h0 : -1 ≤ tt) (h1 : tt ≤ 9223372036854775807) :
    Calls Try.prog 18 #[.pointer (some ⟨b, 0, none⟩), .string msg] w (ErrPost b src off tok tt w) := by
  have HB := Lib.hid hb
  clear hb
  go_enter Try.func18, Try.ntmps18
  go_wp2_with fail
  refine (error_any b src tok msg off tt _ er HB.out h0 h1).mono ?_
  rintro e w' ⟨rfl, hp⟩
  go_wp2
  go_end0
  exact ⟨rfl, hp⟩

set_option maxHeartbeats 400000 in
theorem zzNew_any (src tok : ByteArray) (off tt : Int) (w : World) :
    Calls Try.prog 17 #[.string src, .int .i64 off, .string tok, .int .i64 tt] w fun e w' => e = .returned (.pointer (some ⟨w.heap.size, 0, none⟩)) ∧ w' = w.alloc (.cells (Lx src off tok tt .nilIface) 41) := by
  go_enter Try.func17, Try.ntmps17
  go_wp2
  go_ret
  exact ⟨rfl, rfl⟩

theorem assert30 (W : World) (v : Value) : (Instr.typeAssert (.iface 30 v) 39 30 true).run Try.prog W = .ok (.tuple #[v, .bool true]) W := by kernel_rfl

set_option maxHeartbeats 400000 in
theorem zzParse_any (b p : Nat) (w : World) (hc : w.cell? ⟨b, 6, none⟩ = some (.iface 30 (.pointer (some ⟨p, 0, none⟩)))) :
    Calls Try.prog 19 #[.pointer (some ⟨b, 0, none⟩)] w fun e w' => e = .returned (.pointer (some ⟨p, 0, none⟩)) ∧ w = w' := by
  have ha := fun (W : World) => assert30 W (.pointer (some ⟨p, 0, none⟩))
  go_enter Try.func19, Try.ntmps19
  go_wp2
  go_ret
  exact ⟨rfl, rfl⟩

set_option maxHeartbeats 400000 in
theorem zzType_any (p : Nat) (k : Int) (w : World) (hc : w.cell? ⟨p, 2, none⟩ = some (.int .i64 k)) :
    Calls Try.prog 21 #[.pointer (some ⟨p, 0, none⟩)] w fun e w' => e = .returned (.int .i64 k) ∧ w = w' := by
  go_enter Try.func21, Try.ntmps21
  go_wp2
  go_ret
  exact ⟨rfl, rfl⟩

set_option maxHeartbeats 400000 in
theorem zzFields_any (b : Nat) (src tok : ByteArray) (off tt : Int) (er : Value) (w : World) (hb : w.heap[b]? = some (.cells (Lx src off tok tt er) 41 (0, 0))) :
    Calls Try.prog 20 #[.pointer (some ⟨b, 0, none⟩)] w fun e w' => e = .returned (.tuple #[.string src, .int .i64 off, .string tok, .int .i64 tt]) ∧ ∃ n, w' = w.drewN n := by
  have c0 : w.cell? ⟨b, 0, none⟩ = some (.string src) := cell_of_block hb rfl
  have c1 : w.cell? ⟨b, 1, none⟩ = some (.int .i64 off) := cell_of_block hb rfl
  have c3 : w.cell? ⟨b, 3, none⟩ = some (.string tok) := cell_of_block hb rfl
  have c4 : w.cell? ⟨b, 4, none⟩ = some (.int .i64 tt) := cell_of_block hb rfl
  clear hb
  go_enter Try.func20, Try.ntmps20
  go_wp2
  go_quiet (fail)
  go_wp2
  exact bodyPost_ret (v := .tuple #[.string src, .int .i64 off, .string tok, .int .i64 tt]) (by simp [results, Try.results20, go_sem]) rfl ⟨rfl, _, rfl⟩

def NewPost (src tok : ByteArray) (off tt : Int) (w : World) (e : Ending) (w' : World) : Prop :=
  e = .returned (.pointer (some ⟨w.heap.size, 0, none⟩)) ∧ w'.heap[w.heap.size]? = some (.cells (Lx src off tok tt .nilIface) 41 (0, 0)) ∧ Below w.heap.size w w' ∧ w'.heap.size = w.heap.size + 1

theorem zzNew_post (src tok : ByteArray) (off tt : Int) (w : World) :
    Calls Try.prog 17 #[.string src, .int .i64 off, .string tok, .int .i64 tt] w (NewPost src tok off tt w) :=
  (zzNew_any src tok off tt w).mono fun e w' ⟨he, hw⟩ => by
    subst hw
    exact ⟨he, heap_alloc_at _ _, (Below.refl _ _).alloc (Nat.le_refl _) _, by simp⟩

set_option maxHeartbeats 1000000 in
set_option maxRecDepth 100000 in
theorem law_good (a0 a2 a4 a5 : ByteArray) (a1 a3 : Int) (w : World) (hf : fitB a0.size a2.size a4.size a5.size = true)
    (w0 : a0.size ≤ 65536) (w2 : a2.size ≤ 65536) (w4 : a4.size ≤ 65536) (w5 : a5.size ≤ 65536)
    (h0 : 0 ≤ a1) (h1 : a1 ≤ a0.size) (t0 : -1 ≤ a3) (t1 : a3 ≤ 9223372036854775807) :
    Calls Try.prog 9 #[.string a0, .int .i64 a1, .string a2, .int .i64 a3, .string a4, .string a5] w fun e w' => e = .returned (.bool true) ∧ Below w.heap.size w w' := by
  go_enter Try.func9, Try.ntmps9
  go_wp2_with (go_at_call 16; refine (bytes_any _ _ _ _ _ _ _ (by unfold maxLen; omega) (by unfold maxLen; omega) (by unfold maxLen; omega) (by unfold maxLen; omega)).mono ?_; rintro e w' ⟨rfl, rfl⟩)
  refine (zzNew_post _ _ _ _ _).mono ?_
  rintro e w1 ⟨rfl, hb1, bel1, hz1⟩
  have HB1 := Lib.hid hb1
  have HZ1 := Lib.hid hz1
  clear hb1 hz1
  generalize hB : w.heap.size = b at *
  have HBB := Lib.hid hB
  clear hB
  go_wp2_with fail
  refine (zzError_any b a0 a2 a4 a1 a3 _ _ HB1.out t0 t1).mono ?_
  rintro e w2 ⟨rfl, hb2, hp2, hk2, hz2, bel2⟩
  generalize hP : w1.heap.size = p at *
  have hbp : b < p := by have := HZ1.out; omega
  have c2 : w2.cell? ⟨b, 6, none⟩ = some (.iface 30 (.pointer (some ⟨p, 0, none⟩))) := cell_of_block hb2 rfl
  have HB2 := Lib.hid hb2
  have HP2 := Lib.hid hp2
  have HZ2 := Lib.hid hz2
  have HK2 := Lib.hid hk2
  clear hb2 hp2 hz2 hP hk2
  go_wp2_with fail
  refine (zzParse_any b p _ c2).mono ?_
  rintro e w' ⟨rfl, rfl⟩
  go_wp2_with fail
  refine (zzFields_any b a0 a2 a1 a3 _ _ HB2.out).mono ?_
  rintro e w' ⟨rfl, n, rfl⟩
  clear c2
  have HB3 : Hid ((w2.drewN n).heap[b]? = some (.cells (Lx a0 a1 a2 a3 (.iface 30 (.pointer (some ⟨p, 0, none⟩)))) 41 (0, 0))) := HB2
  have HP3 : Hid ((w2.drewN n).heap[p]? = some (.cells #[.int .i64 a1, .string (tkn a2 a3), .int .i64 a3] 35 (0, 0))) := HP2
  have HZ3 : Hid ((w2.drewN n).heap.size = p + 1) := HZ2
  have bel3 : Below w.heap.size w (w2.drewN n) := by rw [HBB.out]; exact below_drewN (bel1.trans bel2) n
  generalize w2.drewN n = w3 at *
  clear bel1 bel2 HB1 HB2 HP2 HK2 HZ2 HZ1
  go_wp2_with fail
  refine (zzError_any b a0 a2 a5 a1 a3 _ _ HB3.out t0 t1).mono ?_
  rintro e w4 ⟨rfl, hb4, hp4, hk4, hz4, bel4⟩
  have hz3 := HZ3.out
  rw [hz3] at hb4 hp4 hk4 hz4
  have c4 : w4.cell? ⟨b, 6, none⟩ = some (.iface 30 (.pointer (some ⟨p + 1, 0, none⟩))) := cell_of_block hb4 rfl
  have HB4 := Lib.hid hb4
  have hq4 := (hk4 p (by omega) (by omega)).trans HP3.out
  have d0 : w4.cell? ⟨p, 0, none⟩ = some (.int .i64 a1) := cell_of_block hq4 rfl
  have d1 : w4.cell? ⟨p, 1, none⟩ = some (.string (tkn a2 a3)) := cell_of_block hq4 rfl
  have d2 : w4.cell? ⟨p, 2, none⟩ = some (.int .i64 a3) := cell_of_block hq4 rfl
  have e0 : w4.cell? ⟨p + 1, 0, none⟩ = some (.int .i64 a1) := cell_of_block hp4 rfl
  have e1 : w4.cell? ⟨p + 1, 1, none⟩ = some (.string (tkn a2 a3)) := cell_of_block hp4 rfl
  have e2 : w4.cell? ⟨p + 1, 2, none⟩ = some (.int .i64 a3) := cell_of_block hp4 rfl
  have bel5 : Below w.heap.size w w4 := bel3.trans (by rw [HBB.out]; exact bel4)
  clear hb4 hp4 hk4 hz4 hz3 hq4 HZ3 HB3 HP3 bel3 bel4
  go_wp2_with fail
  refine (zzParse_any b (p + 1) _ c4).mono ?_
  rintro e w' ⟨rfl, rfl⟩
  go_wp2_with fail
  refine (zzFields_any b a0 a2 a1 a3 _ _ HB4.out).mono ?_
  rintro e w' ⟨rfl, n4, rfl⟩
  replace d0 : (w4.drewN n4).cell? ⟨p, 0, none⟩ = some (.int .i64 a1) := d0
  replace d1 : (w4.drewN n4).cell? ⟨p, 1, none⟩ = some (.string (tkn a2 a3)) := d1
  replace d2 : (w4.drewN n4).cell? ⟨p, 2, none⟩ = some (.int .i64 a3) := d2
  replace e0 : (w4.drewN n4).cell? ⟨p + 1, 0, none⟩ = some (.int .i64 a1) := e0
  replace e1 : (w4.drewN n4).cell? ⟨p + 1, 1, none⟩ = some (.string (tkn a2 a3)) := e1
  replace e2 : (w4.drewN n4).cell? ⟨p + 1, 2, none⟩ = some (.int .i64 a3) := e2
  replace bel5 : Below w.heap.size w (w4.drewN n4) := below_drewN bel5 n4
  clear c4 HB4
  generalize w4.drewN n4 = w5 at *
  go_wp2_with fail
  go_quiet ((go_at_call 21; exact quiet_eq (zzType_any _ a3 _ (by simp [*]))))
  go_wp2
  go_ret
  exact ⟨by simp, below_drewN bel5 _⟩

set_option maxHeartbeats 1000000 in
set_option maxRecDepth 100000 in
theorem law_rest (a0 a2 a4 a5 : ByteArray) (a1 a3 : Int) (w : World) 
    (w0 : a0.size ≤ maxLen) (w2 : a2.size ≤ maxLen) (w4 : a4.size ≤ maxLen) (w5 : a5.size ≤ maxLen)
    (hbad : fitB a0.size a2.size a4.size a5.size = true → a0.size ≤ 65536 → a2.size ≤ 65536 → a4.size ≤ 65536 → a5.size ≤ 65536 → 0 ≤ a1 → a1 ≤ a0.size → ¬ -1 ≤ a3) :
    Calls Try.prog 9 #[.string a0, .int .i64 a1, .string a2, .int .i64 a3, .string a4, .string a5] w fun e w' => e = .returned (.bool true) ∧ Below w.heap.size w w' := by
  have HBAD := Lib.hid hbad
  clear hbad
  by_cases hf : fitB a0.size a2.size a4.size a5.size = true
  · by_cases x0 : a0.size ≤ 65536 ∧ a2.size ≤ 65536 ∧ a4.size ≤ 65536 ∧ a5.size ≤ 65536
    · obtain ⟨x0, x2, x4, x5⟩ := x0
      by_cases y : 0 ≤ a1 ∧ a1 ≤ a0.size
      · obtain ⟨y0, y1⟩ := y
        have hz : a3 < -1 := by have := HBAD.out hf x0 x2 x4 x5 y0 y1; omega
        go_enter Try.func9, Try.ntmps9
        go_wp2_with (go_at_call 16; refine (bytes_any _ _ _ _ _ _ _ (by assumption) (by assumption) (by assumption) (by assumption)).mono ?_; rintro e w' ⟨rfl, rfl⟩)
        go_ret
        exact ⟨rfl, Below.refl _ _⟩
      · go_enter Try.func9, Try.ntmps9
        go_wp2_with (go_at_call 16; refine (bytes_any _ _ _ _ _ _ _ (by assumption) (by assumption) (by assumption) (by assumption)).mono ?_; rintro e w' ⟨rfl, rfl⟩)
        all_goals first | omega | (go_ret; exact ⟨rfl, Below.refl _ _⟩)
    · go_enter Try.func9, Try.ntmps9
      go_wp2_with (go_at_call 16; refine (bytes_any _ _ _ _ _ _ _ (by assumption) (by assumption) (by assumption) (by assumption)).mono ?_; rintro e w' ⟨rfl, rfl⟩)
      all_goals first | omega | (go_ret; exact ⟨rfl, Below.refl _ _⟩)
  · have hf' : fitB a0.size a2.size a4.size a5.size = false := by simpa using hf
    clear hf
    go_enter Try.func9, Try.ntmps9
    go_wp2_with (go_at_call 16; refine (bytes_any _ _ _ _ _ _ _ (by assumption) (by assumption) (by assumption) (by assumption)).mono ?_; rintro e w' ⟨rfl, rfl⟩)
    go_ret
    exact ⟨rfl, Below.refl _ _⟩

end Go.Proofs.Ytbkpaakbodhmjaa.LexErr
