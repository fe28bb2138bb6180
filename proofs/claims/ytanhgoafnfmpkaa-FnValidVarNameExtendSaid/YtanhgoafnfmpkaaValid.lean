/- Contract of validVarName on a fresh lexer. -/
import Derived.Test.YtanhgoafnfmpkaaWalks2
import Derived.Deep.RegionWith
import Derived.Outline
namespace Go.Proofs.Ytanhgoafnfmpkaa
open Go.RowKit

theorem Scan.drew {b k : Nat} {src : ByteArray} {w w1 : World} (h : Scan b src k w w1) : Scan b src k w w1.drew :=
  ⟨h.1, h.2.1.drew, h.2.2⟩

def validB (s : ByteArray) : Bool := (at0 s 0 == 36) && identB (at0 s 1) false && (scanEnd s 1 == s.size)
def VPost (b : Nat) (v : Bool) (w : World) (e : Ending) (w' : World) : Prop := e = .returned (.bool v) ∧ Below b w w'

set_option maxHeartbeats 400000 in
theorem valid_no (b : Nat) (src : ByteArray) (w : World) (h : At b src 0 w) (h1 : (at0 src 0 == 36) = false) :
    Calls Try.prog 20 #[.pointer (some ⟨b, 0, none⟩)] w (VPost b false w) := by
  have H := Lib.hid h
  clear h
  have h2 : (at0 src 0 != 36) = true := by simp only [bne, h1]; rfl
  go_enter Try.func20, Try.ntmps20
  go_wp2_with fail
  refine (peek_s b 0 src _ H.out (Nat.zero_le _)).mono ?_
  rintro e w1 ⟨rfl, s1⟩
  go_wp2_with fail
  go_ret
  exact ⟨rfl, s1.2.1⟩

theorem quiet_peek (b k : Nat) (src : ByteArray) (w : World) (n : Nat) (h : At b src k w) (hk : k ≤ src.size) :
    Calls Try.prog 23 #[.pointer (some ⟨b, 0, none⟩)] (w.drewN n) fun e w'' => e = .returned (.int .u8 (at0 src k)) ∧ ∃ m, w'' = w.drewN m :=
  (peek_any b k src (w.drewN n) (h.drewN n) hk).mono fun e w' ⟨he, m, hw⟩ => ⟨he, n + m, by rw [hw, World.drewN_drewN]⟩

theorem quiet_no (c : Int) (t : Bool) (w : World) (n : Nat) (h : identB c t = false) :
    Calls Try.prog 24 #[.int .u8 c, .bool t] (w.drewN n) fun e w'' => e = .returned (.bool false) ∧ ∃ m, w'' = w.drewN m := by
  have := isIdent_any c t (w.drewN n)
  rw [h] at this
  exact quiet_eq this

set_option maxHeartbeats 400000 in
theorem valid_head (b : Nat) (src : ByteArray) (w : World) (h : At b src 0 w) (h1 : (at0 src 0 == 36) = true) (h3 : identB (at0 src 1) false = false) :
    Calls Try.prog 20 #[.pointer (some ⟨b, 0, none⟩)] w (VPost b false w) := by
  have g1 : 0 < src.size := lt_of_at0 (c := 36) (by simpa using h1) (by decide)
  have H := Lib.hid h
  clear h
  have h2 : (at0 src 0 != 36) = false := by simp only [bne, h1]; rfl
  go_enter Try.func20, Try.ntmps20
  go_wp2_with fail
  refine (peek_s b 0 src _ H.out (Nat.zero_le _)).mono ?_
  rintro e w1 ⟨rfl, s1⟩
  have c1 := s1.1.c1
  have f1 := s1.1.f1
  have s2 := s1.set 1 1 rfl
  go_wp2_with fail
  generalize w1.setCell ⟨b, 1, none⟩ (.int .i64 1) = w2 at *
  clear c1 f1 s1
  go_quiet ((first | (go_at_call 23; exact quiet_peek b 1 src w2 _ s2.1 (by omega)) | (go_at_call 24; exact quiet_no _ _ _ _ h3)))
  go_wp2_with fail
  go_ret
  exact ⟨rfl, below_drewN s2.2.1 _⟩

set_option maxHeartbeats 1000000 in
theorem valid_yes (b : Nat) (src : ByteArray) (w : World) (h : At b src 0 w) (h1 : (at0 src 0 == 36) = true) (h3 : identB (at0 src 1) false = true) (hs : src.size ≤ 1048577) (v : Bool) (hv : ((scanEnd src 1 : Int) == src.size) = v) :
    Calls Try.prog 20 #[.pointer (some ⟨b, 0, none⟩)] w (VPost b v w) := by
  have g1 : 0 < src.size := lt_of_at0 (c := 36) (by simpa using h1) (by decide)
  have H := Lib.hid h
  have HV := Lib.hid hv
  clear h hv
  have h2 : (at0 src 0 != 36) = false := by simp only [bne, h1]; rfl
  go_enter Try.func20, Try.ntmps20
  go_wp2_with fail
  refine (peek_s b 0 src _ H.out (Nat.zero_le _)).mono ?_
  rintro e w1 ⟨rfl, s1⟩
  have c1 := s1.1.c1
  have f1 := s1.1.f1
  have s2 := s1.set 1 1 rfl
  go_wp2_with fail
  generalize w1.setCell ⟨b, 1, none⟩ (.int .i64 1) = w2 at *
  clear c1 f1 s1
  go_region_with (first
    | (go_at_call 23; refine (peek_s b 1 src _ ?_ (by omega)).mono ?_; (exact s2.1); rintro e w3 ⟨rfl, s3⟩; have c3 := s3.1.c0)
    | (go_at_call 24; refine (isIdent_any _ _ _).mono ?_; rintro e w' ⟨rfl, rfl⟩)
    | (go_at_call 21; refine (scan_any b 1 src _ ?_ (by omega) hs).mono ?_; (first | exact s3.1); rintro e w4 ⟨rfl, s4⟩; have c0 := s4.1.c0))
  all_goals
    go_wp2_with fail
    go_ret
    exact ⟨ret_bool HV.out, (s2.drew.trans (s3.trans s4)).2.1⟩

theorem valid_any (b : Nat) (src : ByteArray) (w : World) (h : At b src 0 w) (hs : src.size ≤ 1048577) :
    Calls Try.prog 20 #[.pointer (some ⟨b, 0, none⟩)] w (VPost b (validB src) w) := by
  unfold validB
  cases h1 : (at0 src 0 == 36)
  · exact valid_no b src w h h1
  · cases h3 : identB (at0 src 1) false
    · exact valid_head b src w h h1 h3
    · refine valid_yes b src w h h1 h3 hs _ ?_
      rw [Bool.eq_iff_iff]
      simp only [Bool.true_and, beq_iff_eq]
      exact Int.ofNat_inj

theorem new_any (src : ByteArray) (w : World) :
    Calls Try.prog 19 #[.string src] w fun e w' => e = .returned (.pointer (some ⟨w.heap.size, 0, none⟩)) ∧ At w.heap.size src 0 w' ∧ Below w.heap.size w w' := by
  go_enter Try.func19, Try.ntmps19
  go_wp2
  go_ret
  exact ⟨rfl, heap_alloc_at _ _, (Below.refl _ _).alloc (Nat.le_refl _) _⟩

theorem zzValid_any (src : ByteArray) (w : World) (hs : src.size ≤ 1048577) :
    Calls Try.prog 9 #[.string src] w fun e w' => e = .returned (.bool (validB src)) ∧ Below w.heap.size w w' := by
  go_enter Try.func9, Try.ntmps9
  go_wp2_with fail
  refine (new_any src _).mono ?_
  rintro e w1 ⟨rfl, h1, b1⟩
  go_wp2_with fail
  refine (valid_any _ src _ h1 hs).mono ?_
  rintro e w2 ⟨rfl, b2⟩
  go_wp2_with fail
  go_ret
  exact ⟨rfl, b1.trans b2⟩

set_option maxHeartbeats 400000 in
theorem zzScan_any (src : ByteArray) (k : Nat) (w : World) (hk : k ≤ src.size) (hs : src.size ≤ 1048577) (j : Nat) (hj : scanEnd src k = j) :
    Calls Try.prog 15 #[.string src, .int .i64 k] w fun e w' => e = .returned (.tuple #[.int .i64 j, .int .i64 j]) ∧ Below w.heap.size w w' := by
  have HJ := Lib.hid hj
  clear hj
  go_enter Try.func15, Try.ntmps15
  go_wp2_with fail
  have hat : At w.heap.size src k (w.alloc (.cells (Lx src k) 39)) := heap_alloc_at _ _
  have hb : Below w.heap.size w (w.alloc (.cells (Lx src k) 39)) := (Below.refl _ _).alloc (Nat.le_refl _) _
  refine (scan_j _ k src _ hat hk hs j HJ.out).mono ?_
  rintro e w1 ⟨rfl, s1⟩
  have c1 := s1.1.c1
  have hb1 := hb.trans s1.2.1
  clear hat hb
  go_wp2_with fail
  go_quiet (fail)
  go_wp2_with fail
  go_ret2
  exact ⟨rfl, below_drewN hb1 _⟩

set_option maxHeartbeats 400000 in
theorem zzModule_any (src : ByteArray) (k : Nat) (w : World) (hk : k ≤ src.size) (hs : src.size ≤ 1048577) (j : Nat) (m : Bool) (hj : modIdx src k = (j, m)) :
    Calls Try.prog 18 #[.string src, .int .i64 k] w fun e w' => e = .returned (.tuple #[.int .i64 j, .bool m, .int .i64 j]) ∧ Below w.heap.size w w' := by
  have HC : Hid (∀ (b : Nat) (W : World), At b src k W → Calls Try.prog 22 #[.pointer (some ⟨b, 0, none⟩)] W fun e w' => e = .returned (.tuple #[.int .i64 j, .bool m]) ∧ Scan b src j W w') := by
    intro b W h
    have := module_any b k src W h hk hs
    rw [hj] at this
    exact this
  clear hj
  go_enter Try.func18, Try.ntmps18
  go_wp2_with fail
  have hat : At w.heap.size src k (w.alloc (.cells (Lx src k) 39)) := heap_alloc_at _ _
  have hb : Below w.heap.size w (w.alloc (.cells (Lx src k) 39)) := (Below.refl _ _).alloc (Nat.le_refl _) _
  refine (HC.out _ _ hat).mono ?_
  rintro e w1 ⟨rfl, s1⟩
  have c1 := s1.1.c1
  have hb1 := hb.trans s1.2.1
  clear hat hb
  go_wp2_with fail
  go_quiet (fail)
  go_wp2_with fail
  go_ret3
  exact ⟨rfl, below_drewN hb1 _⟩

set_option maxHeartbeats 400000 in
theorem tail_any (c : Int) (w : World) :
    Calls Try.prog 13 #[.int .u8 c] w fun e w' => e = .returned (.bool (identB c true)) ∧ w = w' := by
  go_enter Try.func13, Try.ntmps13
  go_wp2
  all_goals (go_ret; exact ⟨ret_bool (by unfold identB lowB uppB numB; rw [Bool.eq_iff_iff]; simp; try omega), rfl⟩)

set_option maxHeartbeats 400000 in
theorem head_any (c : Int) (w : World) :
    Calls Try.prog 10 #[.int .u8 c] w fun e w' => e = .returned (.bool (identB c false)) ∧ w = w' := by
  go_enter Try.func10, Try.ntmps10
  go_wp2
  all_goals (go_ret; exact ⟨ret_bool (by unfold identB lowB uppB numB; rw [Bool.eq_iff_iff]; simp; try omega), rfl⟩)

end Go.Proofs.Ytanhgoafnfmpkaa
