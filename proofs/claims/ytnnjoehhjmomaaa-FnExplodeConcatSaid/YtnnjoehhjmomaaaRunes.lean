/- The list of a string's code points, and explode's contract. -/
import Derived.Test.YtnnjoehhjmomaaaDec
import Derived.Lib.OthersKept
import Derived.Lib.RuneCount
import Derived.Laws.IdiomStrings
import Derived.Outline
namespace Go.Proofs.Ytnnjoehhjmomaaa
open Go.RowKit

def rl (s : ByteArray) : Nat → Nat → List Nat
  | 0, _ => []
  | f + 1, pos => if pos < s.size then (Utf8.decode s pos).1 :: rl s f (pos + (Utf8.decode s pos).2) else []
/-- The code points from place pos on. -/
def R (s : ByteArray) (pos : Nat) : List Nat := rl s (s.size - pos) pos

theorem rl_end (s : ByteArray) (f pos : Nat) (h : ¬ pos < s.size) : rl s f pos = [] := by cases f <;> simp [rl, h]
theorem rl_fuel (s : ByteArray) : ∀ f g pos, s.size - pos ≤ f → s.size - pos ≤ g → rl s f pos = rl s g pos := by
  intro f
  induction f with
  | zero => intro g pos h1 _; rw [rl_end s g pos (by omega), rl_end s 0 pos (by omega)]
  | succ f ih =>
    intro g pos h1 h2
    by_cases h : pos < s.size
    · cases g with
      | zero => omega
      | succ g =>
        have hw := Lib.decode_width_pos s pos h
        simp only [rl, h, if_true]
        rw [ih g _ (by omega) (by omega)]
    · rw [rl_end s _ pos h, rl_end s _ pos h]
theorem R_end (s : ByteArray) (pos : Nat) (h : ¬ pos < s.size) : R s pos = [] := rl_end _ _ _ h
theorem R_step (s : ByteArray) (pos : Nat) (h : pos < s.size) : R s pos = (Utf8.decode s pos).1 :: R s (pos + (Utf8.decode s pos).2) := by
  have hw := Lib.decode_width_pos s pos h
  unfold R
  obtain ⟨f, hf⟩ : ∃ f, s.size - pos = f + 1 := ⟨s.size - pos - 1, by omega⟩
  rw [hf]
  simp only [rl, h, if_true]
  rw [rl_fuel s f (s.size - (pos + (Utf8.decode s pos).2)) _ (by omega) (by omega)]
theorem rl_len (s : ByteArray) : ∀ f pos, (rl s f pos).length ≤ f := by
  intro f
  induction f with
  | zero => intro pos; exact Nat.le_refl _
  | succ f ih =>
    intro pos
    simp only [rl]
    split
    · have := ih (pos + (Utf8.decode s pos).2); simp; omega
    · simp
theorem R_len (s : ByteArray) : (R s 0).length ≤ s.size := rl_len s _ _
theorem runes_size (s : ByteArray) : ∀ f pos acc, (Conv.runesFrom s f pos acc).size = acc.size + (rl s f pos).length := by
  intro f
  induction f with
  | zero => intro pos acc; rfl
  | succ f ih =>
    intro pos acc
    simp only [Conv.runesFrom, rl]
    split
    · rw [ih]; simp; omega
    · simp
theorem runes_n (s : ByteArray) : (Conv.runesFrom s s.size 0 #[]).size = (R s 0).length := by rw [runes_size]; simp [R]
theorem decode_bd (s : ByteArray) (pos : Nat) : (Utf8.decode s pos).1 ≤ 1114111 := by
  rw [dec_def]
  have h0 := cb_lt s pos
  unfold Lib.decodeN
  repeat' split
  all_goals (simp only; omega)
theorem decode_pos_le (s : ByteArray) (pos : Nat) (h : pos < s.size) : pos + (Utf8.decode s pos).2 ≤ s.size := by
  rw [dec_def]
  unfold Lib.decodeN
  repeat' split
  all_goals (simp only; omega)

def iv (r : Nat) : Value := .iface 3 (.int .i64 (r : Int))
def Blk (T b : Nat) (l : List Value) (w : World) : Prop := w.heap[b]? = some (.cells l.toArray T (0, 0))
theorem Blk.cell {T b k : Nat} {l : List Value} {w : World} (h : Blk T b l w) (hk : k < l.length) : w.cell? ⟨b, k, none⟩ = some l[k] :=
  cell_of_block h (by simp [hk])
theorem Blk.free {T b k : Nat} {l : List Value} {w : World} (h : Blk T b l w) : w.frozen? ⟨b, k, none⟩ = false := free_of_block h
theorem Blk.set {T b k : Nat} {l : List Value} {w : World} (h : Blk T b l w) (x : Value) : Blk T b (l.set k x) (w.setCell ⟨b, k, none⟩ x) := by
  unfold Blk at *
  rw [heap_setCell_at h]; simp
theorem set_mid (P Q : List Value) (x y : Value) (k : Nat) (h : k = P.length) : (P ++ x :: Q).set k y = P ++ y :: Q := by subst h; simp

theorem info20 : (Try.prog.info? 20).map (fun i => (i.zero, i.size, i.bytes)) = some (some .nilIface, 1, 16) := by kernel_rfl
theorem info3 : (Try.prog.info? 3).map (fun i => (i.zero, i.size, i.bytes)) = some (some (.int .i64 0), 1, 8) := by kernel_rfl

theorem mk_any (n : Nat) (hn : n ≤ 10000000) (W : World) :
    (Instr.makeSlice 33 (.int .i64 n) (.int .i64 n)).run Try.prog W = .ok (.slice (some ⟨W.heap.size, 0, none⟩) n n) (W.alloc (.cells (List.replicate n Value.nilIface).toArray 20)) := by
  obtain ⟨i, hi, hz0, hz1, hz2⟩ := info_parts info20
  have := run_make (P := Try.prog) W 33 20 i .nilIface Try.underlying33 hi hz0 .i64 .i64 n n (by omega) (Int.le_refl _) (by rw [hz2]; omega) (by omega)
  simp only [Int.toNat_natCast, hz1, Nat.mul_one] at this
  rw [this]
  have e : madeCells Value.nilIface.cells n = (List.replicate n Value.nilIface).toArray := by
    apply Array.ext'
    rw [show Value.nilIface.cells = #[Value.nilIface] from rfl, toList_madeCells_one]
  rw [e]
theorem mk_int (n : Nat) (hn : n ≤ 10000000) (W : World) :
    (Instr.makeSlice 24 (.int .i64 n) (.int .i64 n)).run Try.prog W = .ok (.slice (some ⟨W.heap.size, 0, none⟩) n n) (W.alloc (.cells (List.replicate n (Value.int .i64 0)).toArray 3)) := by
  obtain ⟨i, hi, hz0, hz1, hz2⟩ := info_parts info3
  have := run_make (P := Try.prog) W 24 3 i (.int .i64 0) Try.underlying24 hi hz0 .i64 .i64 n n (by omega) (Int.le_refl _) (by rw [hz2]; omega) (by omega)
  simp only [Int.toNat_natCast, hz1, Nat.mul_one] at this
  rw [this]
  have e : madeCells (Value.int .i64 0).cells n = (List.replicate n (Value.int .i64 0)).toArray := by
    apply Array.ext'
    rw [show (Value.int .i64 0).cells = #[Value.int .i64 0] from rfl, toList_madeCells_one]
  rw [e]

theorem conv_runes (s : ByteArray) (w : World) (hs : s.size ≤ 1048576) : ∃ (cap : Nat) (W1 : World),
    (convert 9 39 (.string s)).run Try.prog w = .ok (.slice (some ⟨w.heap.size, 0, none⟩) (R s 0).length cap) W1 ∧ Below w.heap.size w W1 ∧ W1.heap.size = w.heap.size + 1 := by
  have h := run_runes_of_string (P := Try.prog) w 9 39 21 s Try.underlying9 Try.underlying39 Try.underlying21 (by rw [runes_n]; have := R_len s; omega)
  rw [runes_n] at h
  exact ⟨_, _, h, ((Below.refl _ _).drew).alloc (by simp) _, by simp⟩

def ERel (s : ByteArray) (b k n : Nat) (w : World) (i : Value) (wr : World) : Prop :=
  ∃ (pos : Nat) (D : List Nat), wr.heap[k]? = some (.stringIter s pos) ∧ pos ≤ s.size ∧ i = .int .i64 D.length ∧ Hid (D ++ R s pos = R s 0) ∧
    Blk 20 b (D.map iv ++ List.replicate (n - D.length) .nilIface) wr ∧ Below b w wr

set_option maxHeartbeats 400000 in
theorem explode_any (s : ByteArray) (w : World) (hs : s.size ≤ 1048576) (n : Nat) (hn : (R s 0).length = n) :
    Calls Try.prog 16 #[.string s] w fun e w' => e = .returned (.slice (some ⟨w.heap.size + 1, 0, none⟩) n n) ∧ Blk 20 (w.heap.size + 1) ((R s 0).map iv) w' ∧ Below w.heap.size w w' := by
  have hn2 : n ≤ 1048576 := by rw [← hn]; exact Nat.le_trans (R_len s) hs
  obtain ⟨cap, W1, hcv, hb1, hz1⟩ := conv_runes s w hs
  rw [hn] at hcv
  have hmk := mk_any n (by omega)
  have HN := Lib.hid hn
  have HZ1 := Lib.hid hz1
  clear hn hz1
  go_enter Try.func16, Try.ntmps16
  go_wp2_with fail
  obtain ⟨w2, hw2⟩ : ∃ w2, w2 = (W1.alloc (.cells (Array.replicate n Value.nilIface) 20)).iter s 0 := ⟨_, rfl⟩
  have hblk : Blk 20 W1.heap.size (List.replicate n Value.nilIface) w2 := by
    rw [hw2]
    exact (heap_alloc_ne (by simp)).trans ((heap_alloc_at _ _).trans (by simp))
  have hit : w2.heap[W1.heap.size + 1]? = some (.stringIter s 0) := by
    rw [hw2]
    have := heap_alloc_at (W1.alloc (.cells (Array.replicate n Value.nilIface) 20)) (.stringIter s 0)
    rw [World.size_alloc] at this
    exact this
  have hbel : Below W1.heap.size W1 w2 := by
    rw [hw2]
    exact ((Below.refl _ _).alloc (Nat.le_refl _) _).alloc (by simp) _
  rw [← hw2]
  obtain ⟨b, hb⟩ : ∃ b, b = W1.heap.size := ⟨_, rfl⟩
  rw [← hb] at hblk hit hbel ⊢
  have HB := Lib.hid (hb.trans HZ1.out)
  have hb1' : Below w.heap.size w w2 := hb1.trans (hbel.mono (by rw [hb]; exact hb1.size))
  clear hw2 hb hcv hmk hbel hb1
  go_loopw [4] (ERel s b (b + 1) n w2) (fun _ wr => s.size - wr.iterPos (b + 1))
  case atStart => exact ⟨0, [], hit, Nat.zero_le _, rfl, rfl, by simpa using hblk, Below.refl _ _⟩
  case round =>
    obtain ⟨pos, D, hk, hp, rfl, hD, hB, hbw⟩ := hrel
    have HIP : Hid (wr.iterPos (b + 1) = pos) := Lib.hid (by simp [World.iterPos, hk])
    by_cases hlt : pos < s.size
    · have hnx := fun ty => Lib.run_next_any_at (P := Try.prog) wr (b + 1) s pos ty hk hlt
      have hwp := Lib.decode_width_pos s pos hlt
      have hpl := decode_pos_le s pos hlt
      have hR := R_step s pos hlt
      have hr := decode_bd s pos
      generalize hdv : (Utf8.decode s pos).1 = r at *
      generalize hdw : (Utf8.decode s pos).2 = m at *
      obtain ⟨w3, hw3⟩ : ∃ w3, w3 = wr.iterAt (b + 1) s (pos + m) := ⟨_, rfl⟩
      have hit3 : w3.heap[b + 1]? = some (.stringIter s (pos + m)) := by rw [hw3]; exact Lib.iterAt_heap wr (b + 1) s pos (pos + m) hk
      have hB3 : Blk 20 b (D.map iv ++ List.replicate (n - D.length) .nilIface) w3 := by rw [hw3]; exact (Lib.iterAt_other wr (b + 1) b s _ (by omega)).trans hB
      have hbw3 : Below b w2 w3 := by rw [hw3]; exact Lib.below_iterAt hbw (by omega) s _
      rw [← hw3] at hnx
      have hDn : D.length < n := by
        have := HN.out; rw [← hD.out, hR] at this; simp at this; omega
      obtain ⟨q, hq⟩ : ∃ q, n - D.length = q + 1 := ⟨n - D.length - 1, by omega⟩
      rw [hq, List.replicate_succ] at hB3
      obtain ⟨v1, c1⟩ : ∃ v, w3.cell? ⟨b, D.length, none⟩ = some v := ⟨_, hB3.cell (k := D.length) (by simp)⟩
      have f1 := hB3.free (k := D.length)
      have hB4 := hB3.set (k := D.length) (iv r)
      rw [set_mid _ _ _ _ _ (by simp)] at hB4
      have hbw4 := hbw3.setCell (p := ⟨b, D.length, none⟩) (Nat.le_refl _) (iv r)
      have hit4 : (w3.setCell ⟨b, D.length, none⟩ (iv r)).heap[b + 1]? = some (.stringIter s (pos + m)) := (heap_setCell_ne (by omega) _).trans hit3
      have HD : Hid ((D ++ [r]) ++ R s (pos + m) = R s 0) := Lib.hid (by rw [← hD.out, hR]; simp)
      have HB4 := Lib.hid hB4
      have HIT4 := Lib.hid hit4
      have HQ := Lib.hid hq
      clear hw3 hdv hdw hR hD hB hB3 hit3 hk hB4 hit4 hq
      go_wp2_with fail
      go_roundw
      case rel =>
        refine ⟨pos + m, D ++ [r], HIT4.out, hpl, by simp, HD, ?_, hbw4⟩
        have h := HB4.out
        have e : n - (D ++ [r]).length = q := by have := HQ.out; simp; omega
        have e2 : (D ++ [r]).map iv ++ List.replicate q Value.nilIface = D.map iv ++ iv r :: List.replicate q Value.nilIface := by simp
        rw [e, e2]
        exact h
      case measure =>
        have h2 : (w3.setCell ⟨b, D.length, none⟩ (iv r)).iterPos (b + 1) = pos + m := by simp only [World.iterPos, HIT4.out]
        rw [HIP.out]
        show s.size - (w3.setCell ⟨b, D.length, none⟩ (iv r)).iterPos (b + 1) < _
        rw [h2]; omega
    · have hnx := fun ty => Lib.run_next_end_at (P := Try.prog) wr (b + 1) s pos ty hk hlt
      have hE := hD.out
      rw [R_end s pos hlt, List.append_nil] at hE
      subst hE
      have HBL := Lib.hid hB
      clear hB hk
      go_wp2_with fail
      go_ret
      rw [← HB.out]
      have h := HBL.out
      rw [HN.out, Nat.sub_self] at h
      refine ⟨rfl, by simpa using h, hb1'.trans (hbw.mono ?_)⟩
      have := HB.out; omega

theorem as33 (W : World) (v : Value) : (Instr.typeAssert (.iface 33 v) 20 33 true).run Try.prog W = .ok (.tuple #[v, .bool true]) W := by kernel_rfl
theorem as3 (W : World) (v : Value) : (Instr.typeAssert (.iface 3 v) 20 3 true).run Try.prog W = .ok (.tuple #[v, .bool true]) W := by kernel_rfl
theorem as9 (W : World) (v : Value) : (Instr.typeAssert (.iface 9 v) 20 9 true).run Try.prog W = .ok (.tuple #[v, .bool true]) W := by kernel_rfl

def nv (r : Nat) : Value := .int .i64 (r : Int)
def IRel (l : List Nat) (b b2 n : Nat) (w : World) (i : Value) (wr : World) : Prop :=
  ∃ (D E : List Nat), l = D ++ E ∧ i = .int .i64 D.length ∧ Blk 20 b (l.map iv) wr ∧ Blk 3 b2 (D.map nv ++ List.replicate (n - D.length) (.int .i64 0)) wr ∧ Below b2 w wr

set_option maxHeartbeats 400000 in
theorem ints_any (l : List Nat) (b n : Nat) (w : World) (hB : Blk 20 b (l.map iv) w) (hn : l.length = n) (hn2 : n ≤ 1048576) :
    Calls Try.prog 15 #[.iface 33 (.slice (some ⟨b, 0, none⟩) n n)] w fun e w' => e = .returned (.tuple #[.slice (some ⟨w.heap.size, 0, none⟩) n n, .bool true]) ∧ Blk 3 w.heap.size (l.map nv) w' ∧ Below w.heap.size w w' := by
  have ha := fun W => as33 W (.slice (some ⟨b, 0, none⟩) n n)
  have ha3 := fun W v => as3 W v
  have hmk := mk_int n (by omega)
  have hblt : b < w.heap.size := lt_of_block hB
  have HN := Lib.hid hn
  have HB := Lib.hid hB
  clear hn hB
  go_enter Try.func15, Try.ntmps15
  go_wp2_with fail
  obtain ⟨w2, hw2⟩ : ∃ w2, w2 = w.alloc (.cells (Array.replicate n (Value.int .i64 0)) 3) := ⟨_, rfl⟩
  have hblk : Blk 3 w.heap.size (List.replicate n (Value.int .i64 0)) w2 := by
    rw [hw2]
    exact (heap_alloc_at _ _).trans (by simp)
  have hold : Blk 20 b (l.map iv) w2 := by rw [hw2]; exact (heap_alloc_ne hblt).trans HB.out
  have hbel : Below w.heap.size w w2 := by rw [hw2]; exact (Below.refl _ _).alloc (Nat.le_refl _) _
  rw [← hw2]
  obtain ⟨b2, hb2⟩ : ∃ b2, b2 = w.heap.size := ⟨_, rfl⟩
  rw [← hb2] at hblk hbel hblt ⊢
  have HB2 := Lib.hid hb2
  clear hw2 hb2 hmk HB ha
  go_loopw [23] (IRel l b b2 n w2) (fun i _ => n - (intOf i).toNat)
  case atStart => exact ⟨[], l, rfl, rfl, hold, by simpa using hblk, Below.refl _ _⟩
  case round =>
    obtain ⟨D, E, hl, rfl, hO, hB, hbw⟩ := hrel
    cases E with
    | nil =>
      have hD : D.length = n := by have := HN.out; rw [hl] at this; simpa using this
      have hge : ¬ D.length < n := by omega
      have HD := Lib.hid hD
      have HL := Lib.hid hl
      have HBL := Lib.hid hB
      clear hD hl hB hO
      go_wp2_with fail
      go_ret2
      rw [← HB2.out]
      have h := HBL.out
      rw [HD.out, Nat.sub_self] at h
      have e := HL.out
      rw [List.append_nil] at e
      subst e
      exact ⟨rfl, by simpa using h, hbel.trans hbw⟩
    | cons r E =>
      have hD : D.length < n := by have := HN.out; rw [hl] at this; simp at this; omega
      obtain ⟨q, hq⟩ : ∃ q, n - D.length = q + 1 := ⟨n - D.length - 1, by omega⟩
      rw [hq, List.replicate_succ] at hB
      have c0 : wr.cell? ⟨b, D.length, none⟩ = some (.iface 3 (.int .i64 (r : Int))) := by
        have h1 : D.length < (l.map iv).length := by rw [hl]; simp
        have := hO.cell h1
        rw [this]
        simp [hl, iv]
      obtain ⟨v1, c1⟩ : ∃ v, wr.cell? ⟨b2, D.length, none⟩ = some v := ⟨_, hB.cell (k := D.length) (by simp)⟩
      have f1 := hB.free (k := D.length)
      have hB4 := hB.set (k := D.length) (nv r)
      rw [set_mid _ _ _ _ _ (by simp)] at hB4
      have hbw4 := hbw.setCell (p := ⟨b2, D.length, none⟩) (Nat.le_refl _) (nv r)
      have hO4 : Blk 20 b (l.map iv) (wr.setCell ⟨b2, D.length, none⟩ (nv r)) := (heap_setCell_ne (by omega) _).trans hO
      have HB4 := Lib.hid hB4
      have HO4 := Lib.hid hO4
      have HQ := Lib.hid hq
      have HL := Lib.hid hl
      clear hB hO hB4 hO4 hq hl
      go_wp2_with fail
      go_roundw
      case rel =>
        refine ⟨D ++ [r], E, by rw [HL.out]; simp, by simp, HO4.out, ?_, hbw4⟩
        have h := HB4.out
        have e : n - (D ++ [r]).length = q := by have := HQ.out; simp; omega
        have e2 : (D ++ [r]).map nv ++ List.replicate q (Value.int .i64 0) = D.map nv ++ nv r :: List.replicate q (Value.int .i64 0) := by simp
        rw [e, e2]
        exact h
      case measure => simp [intOf]; omega

def LPost (l : List Nat) (w : World) (e : Ending) (w' : World) : Prop :=
  ∃ b, e = .returned (.slice (some ⟨b, 0, none⟩) l.length l.length) ∧ w.heap.size ≤ b ∧ Blk 3 b (l.map nv) w' ∧ Below w.heap.size w w'
def LPost2 (l : List Nat) (w : World) (e : Ending) (w' : World) : Prop :=
  ∃ b, e = .returned (.tuple #[.slice (some ⟨b, 0, none⟩) l.length l.length, .bool true]) ∧ w.heap.size ≤ b ∧ Blk 3 b (l.map nv) w' ∧ Below w.heap.size w w'

set_option maxHeartbeats 400000 in
theorem zzExplode_any (s : ByteArray) (w : World) (hs : s.size ≤ 1048576) (l : List Nat) (hl : R s 0 = l) :
    Calls Try.prog 8 #[.string s] w (LPost l w) := by
  have hn : (R s 0).length = l.length := by rw [hl]
  have hn2 : l.length ≤ 1048576 := by rw [← hn]; exact Nat.le_trans (R_len s) hs
  have HN := Lib.hid hn
  have HL := Lib.hid hl
  clear hn hl
  generalize hnn : l.length = n at *
  have HNN := Lib.hid hnn
  clear hnn
  go_enter Try.func8, Try.ntmps8
  go_wp2_with fail
  refine (explode_any s _ hs n HN.out).mono ?_
  rintro e w1 ⟨rfl, hB, hb⟩
  rw [HL.out] at hB
  have HB := Lib.hid hB
  clear hB
  go_wp2_with fail
  refine (ints_any l _ n _ HB.out HNN.out hn2).mono ?_
  rintro e w2 ⟨rfl, hB2, hb2⟩
  have HB2 := Lib.hid hB2
  clear hB2
  go_wp2_with fail
  go_ret
  refine ⟨w1.heap.size, by rw [HNN.out]; rfl, hb.size, HB2.out, hb.trans (hb2.mono hb.size)⟩

set_option maxHeartbeats 400000 in
theorem funcExplode_any (s : ByteArray) (w : World) (hs : s.size ≤ 1048576) (n : Nat) (hn : (R s 0).length = n) :
    Calls Try.prog 17 #[.iface 9 (.string s)] w fun e w' => e = .returned (.iface 33 (.slice (some ⟨w.heap.size + 1, 0, none⟩) n n)) ∧ Blk 20 (w.heap.size + 1) ((R s 0).map iv) w' ∧ Below w.heap.size w w' := by
  have HN := Lib.hid hn
  clear hn
  have ha := fun W => as9 W (.string s)
  go_enter Try.func17, Try.ntmps17
  go_wp2_with fail
  refine (explode_any s _ hs n HN.out).mono ?_
  rintro e w1 ⟨rfl, hB, hb⟩
  go_wp2_with fail
  go_ret
  exact ⟨rfl, hB, hb⟩

set_option maxHeartbeats 400000 in
theorem zzFunc_any (s : ByteArray) (w : World) (hs : s.size ≤ 1048576) (l : List Nat) (hl : R s 0 = l) :
    Calls Try.prog 10 #[.string s] w (LPost2 l w) := by
  have hn : (R s 0).length = l.length := by rw [hl]
  have hn2 : l.length ≤ 1048576 := by rw [← hn]; exact Nat.le_trans (R_len s) hs
  have HN := Lib.hid hn
  have HL := Lib.hid hl
  clear hn hl
  generalize hnn : l.length = n at *
  have HNN := Lib.hid hnn
  clear hnn
  go_enter Try.func10, Try.ntmps10
  go_wp2_with fail
  refine (funcExplode_any s _ hs n HN.out).mono ?_
  rintro e w1 ⟨rfl, hB, hb⟩
  rw [HL.out] at hB
  have HB := Lib.hid hB
  clear hB
  go_wp2_with fail
  refine (ints_any l _ n _ HB.out HNN.out hn2).mono ?_
  rintro e w2 ⟨rfl, hB2, hb2⟩
  have HB2 := Lib.hid hB2
  clear hB2
  go_wp2_with fail
  go_ret2
  refine ⟨w1.heap.size, by rw [HNN.out]; rfl, hb.size, HB2.out, hb.trans (hb2.mono hb.size)⟩

end Go.Proofs.Ytnnjoehhjmomaaa
