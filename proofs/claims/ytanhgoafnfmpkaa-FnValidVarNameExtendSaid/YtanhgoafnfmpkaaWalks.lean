/- Contracts of the lexer's peek and scanIdent, and of the law's own helpers. -/
import Derived.Test.YtanhgoafnfmpkaaPlain
import Derived.Outline
namespace Go.Proofs.Ytanhgoafnfmpkaa
open Go.RowKit

/-- A lexer that newLexer or the export made: source, offset, the rest zero. -/
def Lx (src : ByteArray) (k : Nat) : Array Value :=
  #[.string src, .int .i64 k, .pointer none, .string ⟨#[]⟩, .int .i64 0, .bool false, .nilIface]
def At (b : Nat) (src : ByteArray) (k : Nat) (w : World) : Prop := w.heap[b]? = some (.cells (Lx src k) 39 (0, 0))

theorem At.c0 {b k : Nat} {src : ByteArray} {w : World} (h : At b src k w) : w.cell? ⟨b, 0, none⟩ = some (.string src) := cell_of_block h rfl
theorem At.c1 {b k : Nat} {src : ByteArray} {w : World} (h : At b src k w) : w.cell? ⟨b, 1, none⟩ = some (.int .i64 k) := cell_of_block h rfl
theorem At.f1 {b k : Nat} {src : ByteArray} {w : World} (h : At b src k w) : w.frozen? ⟨b, 1, none⟩ = false := free_of_block h
theorem At.drewN {b k : Nat} {src : ByteArray} {w : World} (h : At b src k w) (n : Nat) : At b src k (w.drewN n) := h
theorem At.set {b k : Nat} {src : ByteArray} {w : World} (h : At b src k w) (j : Nat) : At b src j (w.setCell ⟨b, 1, none⟩ (.int .i64 j)) := by
  unfold At at *
  rw [heap_setCell_at h]; rfl

def Peek (w : World) (v : Value) (e : Ending) (w' : World) : Prop := e = .returned v ∧ ∃ n, w' = w.drewN n

set_option maxHeartbeats 400000 in
theorem peek_any (b k : Nat) (src : ByteArray) (w : World) (h : At b src k w) (hk : k ≤ src.size) :
    Calls Try.prog 23 #[.pointer (some ⟨b, 0, none⟩)] w (Peek w (.int .u8 (at0 src k))) := by
  have c0 := h.c0
  have c1 := h.c1
  clear h
  by_cases he : k = src.size
  · subst he
    have H0 := Lib.hid (at0_end src src.size (Nat.le_refl _))
    go_enter Try.func23, Try.ntmps23
    go_wp2
    go_quiet (fail)
    go_wp2
    go_ret
    exact ⟨ret_int H0.out.symm, _, rfl⟩
  · have hlt : k < src.size := by omega
    have H0 := Lib.hid (at0_of src k hlt)
    have hne : ((src.size : Int) == (k : Int)) = false := by simp only [beq_eq_false_iff_ne]; omega
    have hne2 : ¬ src.size = k := by omega
    clear he
    go_enter Try.func23, Try.ntmps23
    go_wp2
    go_quiet (fail)
    go_wp2
    go_quiet (fail)
    go_wp2
    go_ret
    exact ⟨ret_int H0.out.symm, _, World.drewN_drewN _ _ _⟩

def Scan (b : Nat) (src : ByteArray) (j : Nat) (w : World) (w' : World) : Prop := At b src j w' ∧ Below b w w' ∧ w'.heap.size = w.heap.size

def offAt (b : Nat) (w : World) : Nat := match w.cell? ⟨b, 1, none⟩ with
  | some v => (intOf v).toNat
  | _ => 0
theorem At.off {b k : Nat} {src : ByteArray} {w : World} (h : At b src k w) : offAt b w = k := by
  unfold offAt; rw [h.c1]; simp [intOf]

set_option maxHeartbeats 400000 in
theorem scan_any (b k : Nat) (src : ByteArray) (w : World) (h : At b src k w) (hk : k ≤ src.size) (hs : src.size ≤ 1048577) :
    Calls Try.prog 21 #[.pointer (some ⟨b, 0, none⟩)] w fun e w' => e = .returned (.int .i64 (scanEnd src k)) ∧ Scan b src (scanEnd src k) w w' := by
  have H := Lib.hid h
  clear h
  go_enter Try.func21, Try.ntmps21
  go_wp2_with fail
  go_loopw [5] (fun _ wr => ∃ j : Nat, At b src j wr ∧ Below b w wr ∧ wr.heap.size = w.heap.size ∧ k ≤ j ∧ j ≤ src.size ∧ scanEnd src j = scanEnd src k) (fun _ wr => src.size - offAt b wr)
  case atStart => exact ⟨k, H.out, Below.refl _ _, rfl, Nat.le_refl _, hk, rfl⟩
  case round =>
    obtain ⟨j, hat, hbel, hz, hkj, hj, he⟩ := hrel
    have HAT := Lib.hid hat
    have HZ := Lib.hid hz
    have HE := Lib.hid he
    have HOFF := Lib.hid hat.off
    clear hat hz he
    go_wp2_with fail
    refine (peek_any b j src _ HAT.out hj).mono ?_
    rintro e w' ⟨rfl, n, rfl⟩
    cases hi : identB (at0 src j) true
    · have HI := Lib.hid hi
      go_wp2_with fail
      refine (isIdent_any _ _ _).mono ?_
      rintro e w' ⟨rfl, rfl⟩
      have c1 := HAT.out.c1
      go_wp2_with fail
      go_ret
      have e1 := end_stop src j HI.out
      have e2 : scanEnd src k = j := HE.out.symm.trans e1
      rw [e2]
      exact ⟨rfl, HAT.out.drewN n, below_drewN hbel n, HZ.out⟩
    · obtain ⟨hlt, hst⟩ := end_step src j hi
      have HST := Lib.hid hst
      clear hst
      go_wp2_with fail
      refine (isIdent_any _ _ _).mono ?_
      rintro e w' ⟨rfl, rfl⟩
      have c1 := HAT.out.c1
      have f1 := HAT.out.f1
      go_wp2_with fail
      have hat' : At b src (j + 1) ((wr.drewN n).setCell ⟨b, 1, none⟩ (.int .i64 (↑j + 1))) := (HAT.out.drewN n).set (j + 1)
      have hoff' := hat'.off
      have hbel' : Below b w ((wr.drewN n).setCell ⟨b, 1, none⟩ (.int .i64 (↑j + 1))) := (below_drewN hbel n).setCell (Nat.le_refl _) _
      have hz' : ((wr.drewN n).setCell ⟨b, 1, none⟩ (.int .i64 (↑j + 1))).heap.size = w.heap.size := by rw [World.size_setCell]; exact HZ.out
      go_roundw
      case rel => exact ⟨j + 1, hat', hbel', hz', by omega, by omega, HST.out.symm.trans HE.out⟩
      case measure => rw [HOFF.out, hoff']; omega

end Go.Proofs.Ytanhgoafnfmpkaa
