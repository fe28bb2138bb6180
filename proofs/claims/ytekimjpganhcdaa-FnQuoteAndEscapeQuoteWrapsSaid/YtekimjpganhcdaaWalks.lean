/- Contract of quoteAndEscape. -/
import Derived.Test.YtekimjpganhcdaaPlain
import Derived.Outline
namespace Go.Proofs.Ytekimjpganhcdaa
open Go.RowKit

theorem info5 : (Try.prog.info? 5).map (fun i => (i.zero, i.size, i.bytes)) = some (some (.int .u8 0), 1, 1) := by kernel_rfl
theorem size5 : (Try.prog.info? 5).map (·.size) = some 1 := by kernel_rfl

theorem run_mk (n : Nat) (hn : n ≤ 10000000) (W : World) :
    (Instr.makeSlice 24 (.int .i64 n) (.int .i64 n)).run Try.prog W = .ok (.slice (some ⟨W.heap.size, 0, none⟩) n n) (W.alloc (.cells (bv (List.replicate n 0)) 5)) := by
  obtain ⟨i, hi, hz0, hz1, hz2⟩ := info_parts info5
  have := run_make (P := Try.prog) W 24 5 i (.int .u8 0) Try.underlying24 hi hz0 .i64 .i64 n n (by omega) (Int.le_refl _) (by rw [hz2]; omega) (by omega)
  simp only [Int.toNat_natCast, hz1, Nat.mul_one] at this
  rw [this]
  show Result.ok _ (W.alloc (.cells (madeCells #[.int .u8 0] n) 5)) = _
  rw [bv_zero]

theorem run_mkI (N : Int) (n : Nat) (hN : N = n) (hn : n ≤ 10000000) (W : World) :
    (Instr.makeSlice 24 (.int .i64 N) (.int .i64 N)).run Try.prog W = .ok (.slice (some ⟨W.heap.size, 0, none⟩) n n) (W.alloc (.cells (bv (List.replicate n 0)) 5)) := by
  subst hN; exact run_mk n hn W

def Blk (b : Nat) (l : List UInt8) (w : World) : Prop := w.heap[b]? = some (.cells (bv l) 5 (0, 0))
theorem Blk.cell {b k : Nat} {l : List UInt8} {w : World} (h : Blk b l w) (hk : k < l.length) : w.cell? ⟨b, k, none⟩ = some (.int .u8 (l[k].toNat : Int)) :=
  cell_of_block h (bv_get l k hk)
theorem Blk.free {b k : Nat} {l : List UInt8} {w : World} (h : Blk b l w) : w.frozen? ⟨b, k, none⟩ = false := free_of_block h
theorem Blk.set {b k : Nat} {l : List UInt8} {w : World} (h : Blk b l w) (x : UInt8) : Blk b (l.set k x) (w.setCell ⟨b, k, none⟩ (.int .u8 (x.toNat : Int))) := by
  unfold Blk at *
  rw [heap_setCell_at h, bv_set]

theorem set_mid (P R : List UInt8) (x y : UInt8) (k : Nat) (h : k = P.length) : (P ++ x :: R).set k y = P ++ y :: R := by
  subst h; simp

theorem take_snoc (s : ByteArray) (k : Nat) (h : k < s.size) : s.data.toList.take (k + 1) = s.data.toList.take k ++ [s[k]] := by
  rw [List.take_succ_eq_append_getElem (by simpa using h)]; rfl
theorem drop_at (s : ByteArray) (k : Nat) (h : k < s.size) : s.data.toList.drop k = s[k] :: s.data.toList.drop (k + 1) := by
  rw [List.drop_eq_getElem_cons (by simpa using h)]; rfl
theorem body_snoc (s : ByteArray) (k : Nat) (h : k < s.size) : body (s.data.toList.take (k + 1)) = body (s.data.toList.take k) ++ esc s[k] := by
  rw [take_snoc s k h]; simp [body]
theorem body_drop (s : ByteArray) (k : Nat) (h : k < s.size) : (body (s.data.toList.drop k)).length = (esc s[k]).length + (body (s.data.toList.drop (k + 1))).length := by
  rw [drop_at s k h]; simp [body]

/-- The buffer after k bytes: what has been written, the zeros still to come, and the closing quote. -/
def Rel (src : ByteArray) (q : Bool) (b n : Nat) (w : World) (j i : Value) (wr : World) : Prop :=
  ∃ (k : Nat) (P R : List UInt8), k ≤ src.size ∧ i = .int .i64 k ∧ j = .int .i64 P.length ∧ Hid (P = hd q ++ body (src.data.toList.take k)) ∧
    Hid (R = List.replicate (body (src.data.toList.drop k)).length 0 ++ hd q) ∧ Blk b (P ++ R) wr ∧ Hid (P.length + R.length = n) ∧ Below b w wr

theorem rel_plain {src : ByteArray} {q : Bool} {n k : Nat} {P R : List UInt8} (hlt : k < src.size) (hb : ¬ src[k] < 32)
    (hP : P = hd q ++ body (src.data.toList.take k)) (hR : R = List.replicate (body (src.data.toList.drop k)).length 0 ++ hd q) (hn : P.length + R.length = n) :
    ∃ R', R = 0 :: R' ∧ Hid (P ++ [src[k]] = hd q ++ body (src.data.toList.take (k + 1))) ∧ Hid (R' = List.replicate (body (src.data.toList.drop (k + 1))).length 0 ++ hd q) ∧ (P ++ [src[k]]).length + R'.length = n := by
  have he : esc src[k] = [src[k]] := by unfold esc; rw [if_neg hb]
  have hd1 := body_drop src k hlt
  rw [he] at hd1
  refine ⟨List.replicate (body (src.data.toList.drop (k + 1))).length 0 ++ hd q, ?_, ?_, rfl, ?_⟩
  · rw [hR, hd1, List.length_singleton, Nat.add_comm, List.replicate_succ]; rfl
  · show _ = _
    rw [body_snoc src k hlt, he, hP, List.append_assoc]
  · rw [hR, hd1] at hn
    simp at hn ⊢
    omega

theorem rel_ctl {src : ByteArray} {q : Bool} {n k : Nat} {P R : List UInt8} (hlt : k < src.size) (hb : src[k] < 32)
    (hP : P = hd q ++ body (src.data.toList.take k)) (hR : R = List.replicate (body (src.data.toList.drop k)).length 0 ++ hd q) (hn : P.length + R.length = n) :
    ∃ R', R = 0 :: 0 :: 0 :: 0 :: 0 :: 0 :: R' ∧ Hid (P ++ [92, 117, 48, 48, hexD (src[k].toNat / 16), hexD (src[k].toNat % 16)] = hd q ++ body (src.data.toList.take (k + 1))) ∧ Hid (R' = List.replicate (body (src.data.toList.drop (k + 1))).length 0 ++ hd q) ∧ P.length + 6 + R'.length = n := by
  have he : esc src[k] = [92, 117, 48, 48, hexD (src[k].toNat / 16), hexD (src[k].toNat % 16)] := by unfold esc; rw [if_pos hb]
  have hd1 := body_drop src k hlt
  rw [he] at hd1
  refine ⟨List.replicate (body (src.data.toList.drop (k + 1))).length 0 ++ hd q, ?_, ?_, rfl, ?_⟩
  · rw [hR, hd1, show ([92, 117, 48, 48, hexD (src[k].toNat / 16), hexD (src[k].toNat % 16)] : List UInt8).length = 6 from rfl, Nat.add_comm]
    simp [List.replicate_succ]
  · show _ = _
    rw [body_snoc src k hlt, he, hP, List.append_assoc]
  · rw [hR, hd1] at hn
    simp at hn ⊢
    omega

theorem below_setRow {B : Nat} {a w : World} (h : Below B a w) {g : Nat} (hg : B ≤ g) (cs : Array Value) : Below B a (w.setRow g cs) :=
  h.trans ⟨rfl, rfl, rfl, by simp [World.setRow], fun k hk => by simp only [World.setRow, Array.getElem?_modify]; rw [if_neg (by omega)]⟩

theorem run_cp (b : Nat) (P R' : List UInt8) (n : Nat) (wr : World) (ty : TypeId) (hB : Blk b (P ++ 0 :: 0 :: 0 :: 0 :: 0 :: 0 :: R') wr) (hn : P.length + 6 ≤ n) :
    (Builtin.copy_ #[24, 9] ty #[.slice (some ⟨b, P.length, none⟩) (n - P.length) (n - P.length), .string ⟨#[92, 117, 48, 48]⟩]).run Try.prog wr = .ok (goInt 4) (wr.setRow b (bv (P ++ [92, 117, 48, 48] ++ 0 :: 0 :: R'))) := by
  have h := Lib.run_copy_row_string (P := Try.prog) wr 24 9 ty 5 b P.length (n - P.length) (n - P.length) ⟨#[92, 117, 48, 48]⟩ _ 5 Try.underlying24 size5 hB (by show 4 ≤ _; omega) (by rw [bv_size]; show P.length + 4 ≤ _; simp)
  have e := bv_splice P [0, 0, 0, 0] [92, 117, 48, 48] (0 :: 0 :: R') rfl
  have e2 : P ++ [0, 0, 0, 0] ++ 0 :: 0 :: R' = P ++ 0 :: 0 :: 0 :: 0 :: 0 :: 0 :: R' := by simp
  rw [e2] at e
  rw [h, ← e]
  rfl

theorem hex_at (i : Nat) (h : i < (⟨#[48, 49, 50, 51, 52, 53, 54, 55, 56, 57, 97, 98, 99, 100, 101, 102]⟩ : ByteArray).size) :
    (⟨#[48, 49, 50, 51, 52, 53, 54, 55, 56, 57, 97, 98, 99, 100, 101, 102]⟩ : ByteArray)[i] = hexD i := by
  have h' : i < ([48, 49, 50, 51, 52, 53, 54, 55, 56, 57, 97, 98, 99, 100, 101, 102] : List UInt8).length := h
  unfold hexD
  rw [List.getD_eq_getElem?_getD, List.getElem?_eq_getElem h']
  rfl

theorem ctl_blk {b : Nat} {P R' : List UInt8} {w2 : World} (h : Blk b (P ++ [92, 117, 48, 48] ++ 0 :: 0 :: R') w2) (x y : UInt8) :
    Blk b (P ++ [92, 117, 48, 48, x, y] ++ R') ((w2.setCell ⟨b, P.length + 4, none⟩ (.int .u8 (x.toNat : Int))).setCell ⟨b, P.length + 5, none⟩ (.int .u8 (y.toNat : Int))) := by
  have h1 := h.set (k := P.length + 4) x
  rw [set_mid (P ++ [92, 117, 48, 48]) (0 :: R') 0 x (P.length + 4) (by simp)] at h1
  have e : P ++ [92, 117, 48, 48] ++ x :: 0 :: R' = (P ++ [92, 117, 48, 48, x]) ++ 0 :: R' := by simp
  rw [e] at h1
  have h2 := h1.set (k := P.length + 5) y
  rw [set_mid (P ++ [92, 117, 48, 48, x]) R' 0 y (P.length + 5) (by simp)] at h2
  have e2 : (P ++ [92, 117, 48, 48, x]) ++ y :: R' = P ++ [92, 117, 48, 48, x, y] ++ R' := by simp
  rw [e2] at h2
  exact h2

theorem rel_end {src : ByteArray} {q : Bool} {P R : List UInt8} (hP : P = hd q ++ body (src.data.toList.take src.size)) (hR : R = List.replicate (body (src.data.toList.drop src.size)).length 0 ++ hd q) :
    P ++ R = out q src.data.toList := by
  have e1 : src.data.toList.take src.size = src.data.toList := List.take_of_length_le (Nat.le_refl _)
  have e2 : src.data.toList.drop src.size = [] := List.drop_eq_nil_of_le (Nat.le_refl _)
  rw [hP, hR, e1, e2]
  simp [out, body]

set_option maxHeartbeats 400000 in
theorem qe_plain (src : ByteArray) (c n : Nat) (w : World) (hs : src.size ≤ 1048576) (hc : ctl src.data.toList = c) (hn : n = src.size + c * 5) :
    Calls Try.prog 9 #[.string src, .bool false, .int .i64 c] w fun e w' => e = .returned (.slice (some ⟨w.heap.size, 0, none⟩) n n) ∧ Blk w.heap.size (out false src.data.toList) w' ∧ Below w.heap.size w w' := by
  have hcl := ctl_le src.data.toList
  have hsz : src.data.toList.length = src.size := rfl
  rw [hc, hsz] at hcl
  have hbl : (body src.data.toList).length = n := by rw [body_length, hc, hn, hsz]; omega
  have hn2 : n ≤ 10000000 := by omega
  have hmk := run_mkI (↑src.size + ↑c * 5) n (by omega) (by omega)
  have HBL := Lib.hid hbl
  clear hc hsz hn hbl
  go_enter Try.func9, Try.ntmps9
  go_wp2_with fail
  have hblk : Blk w.heap.size (List.replicate n 0) (w.alloc (.cells (bv (List.replicate n 0)) 5)) := heap_alloc_at _ _
  have hbel : Below w.heap.size w (w.alloc (.cells (bv (List.replicate n 0)) 5)) := (Below.refl _ _).alloc (Nat.le_refl _) _
  generalize w.alloc (.cells (bv (List.replicate n 0)) 5) = w1 at *
  obtain ⟨b, hb⟩ : ∃ b, b = w.heap.size := ⟨_, rfl⟩
  rw [← hb] at hblk hbel ⊢
  have HB := Lib.hid hb
  clear hmk hb
  go_loopw [9, 34] (Rel src false b n w) (fun _ i _ => src.size - (intOf i).toNat)
  case atStart =>
    refine ⟨0, [], List.replicate n 0, Nat.zero_le _, rfl, rfl, rfl, ?_, hblk, ?_, hbel⟩
    · show _ = _
      rw [List.drop_zero, HBL.out]; simp [hd]
    · show _ = _
      simp
  case round =>
    obtain ⟨k, P, R, hk, rfl, rfl, hP, hR, hB, hn, hbw⟩ := hrel
    by_cases hlt : k < src.size
    · by_cases hch : src[k] < 32
      · obtain ⟨R', hR', hP', hR'', hn'⟩ := rel_ctl hlt hch hP.out hR.out hn.out
        have HN' := Lib.hid hn'
        rw [hR'] at hB
        have hj : P.length + 6 ≤ n := by omega
        clear hR' hn' hP hR hn
        have hcp := fun ty => run_cp b P R' n wr ty hB hj
        have hB2 : Blk b (P ++ [92, 117, 48, 48] ++ 0 :: 0 :: R') (wr.setRow b (bv (P ++ [92, 117, 48, 48] ++ 0 :: 0 :: R'))) := setRow_heap wr b _ _ 5 (0, 0) hB
        have hbw2 := below_setRow hbw (Nat.le_refl b) (bv (P ++ [92, 117, 48, 48] ++ 0 :: 0 :: R'))
        obtain ⟨w2, hw2⟩ : ∃ w2, w2 = wr.setRow b (bv (P ++ [92, 117, 48, 48] ++ 0 :: 0 :: R')) := ⟨_, rfl⟩
        rw [← hw2] at hcp hB2 hbw2
        clear hw2 hB hbw
        have h32 : ((src[k].toNat : Int) < 32) := by rw [UInt8.lt_iff_toNat_lt] at hch; simp at hch; omega
        have c4 := hB2.cell (k := P.length + 4) (by simp)
        have c5 := hB2.cell (k := P.length + 5) (by simp)
        have f4 := hB2.free (k := P.length + 4)
        have f5 := hB2.free (k := P.length + 5)
        have HB2 := Lib.hid hB2
        clear hB2 hch
        go_wp2_with fail
        go_roundw
        case rel =>
          rw [hex_at, hex_at]
          exact ⟨k + 1, P ++ [92, 117, 48, 48, hexD (src[k].toNat / 16), hexD (src[k].toNat % 16)], R', by omega, by go_num, by simp, hP', hR'', ctl_blk HB2.out _ _, Lib.hid (by have := HN'.out; simpa using this), (hbw2.setCell (Nat.le_refl _) _).setCell (Nat.le_refl _) _⟩
        case measure => simp [intOf]; omega
      · obtain ⟨R', hR', hP', hR'', hn'⟩ := rel_plain hlt hch hP.out hR.out hn.out
        have HR' := Lib.hid hR'
        have HN' := Lib.hid hn'
        rw [hR'] at hB
        clear hR' hn' hP hR
        have hj : P.length < n := by have := hn.out; rw [HR'.out] at this; simp at this; omega
        have c1 := hB.cell (k := P.length) (by simp)
        have f1 := hB.free (k := P.length)
        have h32 : ¬ ((src[k].toNat : Int) < 32) := by rw [UInt8.not_lt, UInt8.le_iff_toNat_le] at hch; simp at hch; omega
        have hB2 := hB.set (k := P.length) src[k]
        rw [set_mid P R' 0 src[k] P.length rfl] at hB2
        have hbw2 := hbw.setCell (p := ⟨b, P.length, none⟩) (Nat.le_refl _) (.int .u8 (src[k].toNat : Int))
        have HB2 := Lib.hid hB2
        clear hB2 hch
        go_wp2_with fail
        go_roundw
        case rel => exact ⟨k + 1, P ++ [src[k]], R', by omega, by go_num, by simp, hP', hR'', by have := HB2.out; simpa using this, HN'.out, hbw2⟩
        case measure => simp [intOf]; omega
    · obtain rfl : k = src.size := by omega
      have hE := rel_end hP.out hR.out
      have HE := Lib.hid hE
      have HB2 := Lib.hid hB
      clear hE hB hP hR
      go_wp2_with fail
      go_ret
      have h := HB2.out
      rw [HE.out] at h
      rw [← HB.out]
      exact ⟨rfl, h, hbw⟩

set_option maxHeartbeats 400000 in
theorem qe_quote (src : ByteArray) (c n : Nat) (w : World) (hs : src.size ≤ 1048576) (hc : ctl src.data.toList = c) (hn : n = src.size + c * 5 + 2) :
    Calls Try.prog 9 #[.string src, .bool true, .int .i64 c] w fun e w' => e = .returned (.slice (some ⟨w.heap.size, 0, none⟩) n n) ∧ Blk w.heap.size (out true src.data.toList) w' ∧ Below w.heap.size w w' := by
  have hcl := ctl_le src.data.toList
  have hsz : src.data.toList.length = src.size := rfl
  rw [hc, hsz] at hcl
  have hbl : (body src.data.toList).length + 2 = n := by rw [body_length, hc, hn, hsz]; omega
  have hn2 : n ≤ 10000000 := by omega
  have hn3 : 2 ≤ n := by omega
  have hmk := run_mkI (↑src.size + ↑c * 5 + 2) n (by omega) (by omega)
  have HBL := Lib.hid hbl
  obtain ⟨Z, hZ⟩ : ∃ Z : List UInt8, Z = List.replicate n 0 := ⟨_, rfl⟩
  obtain ⟨Z1, hZ1⟩ : ∃ Z1 : List UInt8, Z1 = Z.set 0 34 := ⟨_, rfl⟩
  obtain ⟨Z2, hZ2⟩ : ∃ Z2 : List UInt8, Z2 = Z1.set (n - 1) 34 := ⟨_, rfl⟩
  rw [← hZ] at hmk
  obtain ⟨v0, g0⟩ : ∃ v, (bv Z)[0]? = some v := ⟨_, bv_get Z 0 (by rw [hZ]; simp; omega)⟩
  have e0 := bv_set Z 0 34
  obtain ⟨v1, g1⟩ : ∃ v, (bv Z1)[n - 1]? = some v := ⟨_, bv_get Z1 (n - 1) (by rw [hZ1, hZ]; simp; omega)⟩
  have e1 := bv_set Z1 (n - 1) 34
  rw [← hZ1] at e0
  rw [← hZ2] at e1
  have E0 : (bv Z).setIfInBounds 0 (.int .u8 34) = bv Z1 := e0
  have E1 : (bv Z1).setIfInBounds (n - 1) (.int .u8 34) = bv Z2 := e1
  have HZ : Hid (Z2 = [34] ++ List.replicate (n - 2) 0 ++ [34]) := Lib.hid (by
    rw [hZ2, hZ1, hZ]
    obtain ⟨m, rfl⟩ : ∃ m, n = m + 2 := ⟨n - 2, by omega⟩
    have ea : List.replicate (m + 2) (0 : UInt8) = 0 :: (List.replicate m 0 ++ [0]) := by rw [List.replicate_succ, ← List.replicate_succ']
    rw [ea]
    simp only [List.set_cons_zero]
    show (34 :: (List.replicate m 0 ++ [0])).set (m + 1) 34 = _
    rw [List.set_cons_succ, set_mid (List.replicate m 0) [] 0 34 m (by simp)]
    simp)
  clear hc hsz hn hbl e0 e1 hZ hZ1 hZ2
  go_enter Try.func9, Try.ntmps9
  go_wp2_with fail
  have hblk : Blk w.heap.size Z2 (w.alloc (.cells (bv Z2) 5)) := heap_alloc_at _ _
  have hbel : Below w.heap.size w (w.alloc (.cells (bv Z2) 5)) := (Below.refl _ _).alloc (Nat.le_refl _) _
  generalize w.alloc (.cells (bv Z2) 5) = w1 at *
  obtain ⟨b, hb⟩ : ∃ b, b = w.heap.size := ⟨_, rfl⟩
  rw [← hb] at hblk hbel ⊢
  have HB := Lib.hid hb
  clear hmk hb g0 g1 E0 E1
  go_loopw [9, 34] (Rel src true b n w) (fun _ i _ => src.size - (intOf i).toNat)
  case atStart =>
    refine ⟨0, [34], List.replicate (n - 2) 0 ++ [34], Nat.zero_le _, rfl, rfl, rfl, ?_, ?_, ?_, hbel⟩
    · show _ = _
      have := HBL.out
      rw [List.drop_zero, show (body src.data.toList).length = n - 2 by omega]; rfl
    · rw [HZ.out] at hblk
      simpa using hblk
    · show _ = _
      simp; omega
  case round =>
    obtain ⟨k, P, R, hk, rfl, rfl, hP, hR, hB, hn, hbw⟩ := hrel
    by_cases hlt : k < src.size
    · by_cases hch : src[k] < 32
      · obtain ⟨R', hR', hP', hR'', hn'⟩ := rel_ctl hlt hch hP.out hR.out hn.out
        have HN' := Lib.hid hn'
        rw [hR'] at hB
        have hj : P.length + 6 ≤ n := by omega
        clear hR' hn' hP hR hn
        have hcp := fun ty => run_cp b P R' n wr ty hB hj
        have hB2 : Blk b (P ++ [92, 117, 48, 48] ++ 0 :: 0 :: R') (wr.setRow b (bv (P ++ [92, 117, 48, 48] ++ 0 :: 0 :: R'))) := setRow_heap wr b _ _ 5 (0, 0) hB
        have hbw2 := below_setRow hbw (Nat.le_refl b) (bv (P ++ [92, 117, 48, 48] ++ 0 :: 0 :: R'))
        obtain ⟨w2, hw2⟩ : ∃ w2, w2 = wr.setRow b (bv (P ++ [92, 117, 48, 48] ++ 0 :: 0 :: R')) := ⟨_, rfl⟩
        rw [← hw2] at hcp hB2 hbw2
        clear hw2 hB hbw
        have h32 : ((src[k].toNat : Int) < 32) := by rw [UInt8.lt_iff_toNat_lt] at hch; simp at hch; omega
        have c4 := hB2.cell (k := P.length + 4) (by simp)
        have c5 := hB2.cell (k := P.length + 5) (by simp)
        have f4 := hB2.free (k := P.length + 4)
        have f5 := hB2.free (k := P.length + 5)
        have HB2 := Lib.hid hB2
        clear hB2 hch
        go_wp2_with fail
        go_roundw
        case rel =>
          rw [hex_at, hex_at]
          exact ⟨k + 1, P ++ [92, 117, 48, 48, hexD (src[k].toNat / 16), hexD (src[k].toNat % 16)], R', by omega, by go_num, by simp, hP', hR'', ctl_blk HB2.out _ _, Lib.hid (by have := HN'.out; simpa using this), (hbw2.setCell (Nat.le_refl _) _).setCell (Nat.le_refl _) _⟩
        case measure => simp [intOf]; omega
      · obtain ⟨R', hR', hP', hR'', hn'⟩ := rel_plain hlt hch hP.out hR.out hn.out
        have HR' := Lib.hid hR'
        have HN' := Lib.hid hn'
        rw [hR'] at hB
        clear hR' hn' hP hR
        have hj : P.length < n := by have := hn.out; rw [HR'.out] at this; simp at this; omega
        have c1 := hB.cell (k := P.length) (by simp)
        have f1 := hB.free (k := P.length)
        have h32 : ¬ ((src[k].toNat : Int) < 32) := by rw [UInt8.not_lt, UInt8.le_iff_toNat_le] at hch; simp at hch; omega
        have hB2 := hB.set (k := P.length) src[k]
        rw [set_mid P R' 0 src[k] P.length rfl] at hB2
        have hbw2 := hbw.setCell (p := ⟨b, P.length, none⟩) (Nat.le_refl _) (.int .u8 (src[k].toNat : Int))
        have HB2 := Lib.hid hB2
        clear hB2 hch
        go_wp2_with fail
        go_roundw
        case rel => exact ⟨k + 1, P ++ [src[k]], R', by omega, by go_num, by simp, hP', hR'', by have := HB2.out; simpa using this, HN'.out, hbw2⟩
        case measure => simp [intOf]; omega
    · obtain rfl : k = src.size := by omega
      have hE := rel_end hP.out hR.out
      have HE := Lib.hid hE
      have HB2 := Lib.hid hB
      clear hE hB hP hR
      go_wp2_with fail
      go_ret
      have h := HB2.out
      rw [HE.out] at h
      rw [← HB.out]
      exact ⟨rfl, h, hbw⟩

end Go.Proofs.Ytekimjpganhcdaa
