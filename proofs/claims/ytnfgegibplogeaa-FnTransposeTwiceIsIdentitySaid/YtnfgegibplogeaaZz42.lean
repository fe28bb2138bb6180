/- The shim ZZtransposeInts: rows of ints in, transposed rows and a mask out. -/
import Derived.Test.YtnfgegibplogeaaTr42
namespace Go.Proofs.Ytnfgegibplogeaa
open Go.RowKit
set_option linter.unusedVariables false

def isG (is : List (List Int)) (t : Nat) : List Int := is.getD t []
theorem isG_at (is : List (List Int)) (i : Nat) (hi : i < is.length) : isG is i = is[i] := by unfold isG; rw [List.getD_eq_getElem?_getD, List.getElem?_eq_getElem hi]; rfl
def valI (is : List (List Int)) (j i : Nat) : Int := (isG is i).getD j 0
def preB (is : List (List Int)) (j i : Nat) : Bool := decide (j < (isG is i).length)
/-- The answers: the transposed ints, and where there is one. -/
def tI (is : List (List Int)) : List (List Int) := (List.range (mx is)).map fun j => (List.range is.length).map fun i => valI is j i
def pM (is : List (List Int)) : List (List Value) := (List.range (mx is)).map fun j => (List.range is.length).map fun i => .bool (preB is j i)
theorem info_b : (Try.prog.info? 4).map (fun i => (i.zero, i.size, decide (i.bytes ≤ 32))) = some (some (Value.bool false), 1, true) := by kernel_rfl
theorem info_i : (Try.prog.info? 3).map (fun i => (i.zero, i.size, decide (i.bytes ≤ 32))) = some (some (Value.int .i64 0), 1, true) := by kernel_rfl
theorem info_bs : (Try.prog.info? 31).map (fun i => (i.zero, i.size, decide (i.bytes ≤ 32))) = some (some (Value.slice none 0 0), 1, true) := by kernel_rfl
theorem ta_i (x : Int) (W : World) : Sem.run Try.prog (Instr.typeAssert (Value.iface 3 (.int .i64 x)) 20 3 true) W = .ok (.tuple #[.int .i64 x, .bool true]) W := by kernel_rfl
theorem size_setCell (w : World) (a : Addr) (v : Value) : (w.setCell a v).heap.size = w.heap.size := by simp [World.setCell]
theorem size_alloc (w : World) (o : Obj) : (w.alloc o).heap.size = w.heap.size + 1 := by show (w.heap.push o).size = _; simp

def AR (is : List (List Int)) (n B : Nat) (w : World) (vi : Value) (wr : World) : Prop :=
  ∃ i : Nat, i ≤ n ∧ vi = .int .i64 i ∧ Hid (wr.heap[B]? = some (.cells ((List.range i).map (fun t => ifS (slV (B + 1 + t) (isG is t).length)) ++ List.replicate (n - i) Value.nilIface).toArray 20 (0, 0))) ∧
    Hid (∀ t, t < i → wr.heap[B + 1 + t]? = some (.cells ((isG is t).map ifI).toArray 20 (0, 0))) ∧ Hid (wr.heap.size = B + 1 + i) ∧ Below B w wr
def IR (L : List Value) (hh B : Nat) (w W1 : World) (vi : Value) (wr : World) : Prop :=
  ∃ j : Nat, j ≤ L.length ∧ vi = .int .i64 j ∧ Hid (wr.heap[hh]? = some (.cells (L.take j ++ List.replicate (L.length - j) Value.nilIface).toArray 20 (0, 0))) ∧ Hid (∀ b, b ≠ hh → wr.heap[b]? = W1.heap[b]?) ∧ Hid (wr.heap.size = W1.heap.size) ∧ Below B w wr
def CR (is : List (List Int)) (l n D : Nat) (W3 : World) (vi : Value) (wr : World) : Prop :=
  ∃ j : Nat, j ≤ l ∧ vi = .int .i64 j ∧ Hid (wr.heap[D]? = some (.cells ((List.range j).map (fun t => slV (D + 2 + 2 * t) n) ++ List.replicate (l - j) (Value.slice none 0 0)).toArray 26 (0, 0))) ∧
    Hid (wr.heap[D + 1]? = some (.cells ((List.range j).map (fun t => slV (D + 2 + 2 * t + 1) n) ++ List.replicate (l - j) (Value.slice none 0 0)).toArray 31 (0, 0))) ∧
    Hid (∀ t, t < j → wr.heap[D + 2 + 2 * t]? = some (.cells ((List.range n).map fun i => iV (valI is t i)).toArray 3 (0, 0)) ∧ wr.heap[D + 2 + 2 * t + 1]? = some (.cells ((List.range n).map fun i => Value.bool (preB is t i)).toArray 4 (0, 0))) ∧ Hid (wr.heap.size = D + 2 + 2 * j) ∧ Below D W3 wr
def DR (L M : List Value) (n hv D : Nat) (W3 W4 : World) (vi : Value) (wr : World) : Prop :=
  ∃ i : Nat, i ≤ n ∧ vi = .int .i64 i ∧ Hid (wr.heap[hv]? = some (.cells (L.take i ++ List.replicate (L.length - i) (Value.int .i64 0)).toArray 3 (0, 0))) ∧ Hid (wr.heap[hv + 1]? = some (.cells (M.take i ++ List.replicate (M.length - i) (Value.bool false)).toArray 4 (0, 0))) ∧
    Hid (∀ b, b ≠ hv → b ≠ hv + 1 → wr.heap[b]? = W4.heap[b]?) ∧ Hid (wr.heap.size = W4.heap.size) ∧ Below D W3 wr
theorem same_step (l : List Value) (k : Nat) (z : Value) (h : k < l.length) (hz : l[k] = z) : l.take (k + 1) ++ List.replicate (l.length - (k + 1)) z = l.take k ++ List.replicate (l.length - k) z := by
  have e : l.length - k = (l.length - (k + 1)) + 1 := by omega
  rw [e, List.replicate_succ, List.take_succ_eq_append_getElem h, hz, List.append_assoc]
  rfl
def ZOut (is : List (List Int)) (w : World) (e : Ending) (w' : World) : Prop :=
  ∃ v1 v2, e = .returned (.tuple #[v1, v2, .bool true]) ∧ Rows v1 (mV (tI is)) w' ∧ Rows v2 (pM is) w' ∧ Below w.heap.size w w'
set_option maxHeartbeats 4000000 in
set_option maxRecDepth 100000 in
theorem zz_any (v : Value) (is : List (List Int)) (w : World) (h : Rows v (mV is) w) (hn : is.length ≤ 1048576) (hr : ∀ i (h : i < is.length), is[i].length ≤ 1048576) :
    Calls Try.prog 8 #[v] w (ZOut is w) := by
  have H := Lib.hid h
  have HR := Lib.hid hr
  obtain ⟨a, cap, ev⟩ := h.shape
  rw [mV_len] at ev
  subst ev
  have h1 := ta_sl
  have h2 := ta_i
  clear h hr
  obtain ⟨n, hn0⟩ : ∃ n, is.length = n := ⟨_, rfl⟩
  rw [hn0] at hn ⊢
  have HN := Lib.hid hn0
  have hmk1 := fun W => run_mkW info_if Try.underlying34 rfl n hn W
  obtain ⟨B, hB⟩ : ∃ B, w.heap.size = B := ⟨_, rfl⟩
  clear hn0
  go_enter Try.func8, Try.ntmps8
  go_wp2_with fail
  obtain ⟨W, hW⟩ : ∃ W, W = w.alloc (.cells (Array.replicate n Value.nilIface) 20) := ⟨_, rfl⟩
  have hWs : W.heap.size = B + 1 := by rw [hW, size_alloc, hB]
  have hW0 : W.heap[B]? = some (.cells ((List.range 0).map (fun t => ifS (slV (B + 1 + t) (isG is t).length)) ++ List.replicate (n - 0) Value.nilIface).toArray 20 (0, 0)) := by
    rw [hW]
    have := heap_alloc_at w (.cells (Array.replicate n Value.nilIface) 20)
    rw [hB] at this
    exact this.trans (by simp)
  have hbW : Below B w W := by rw [hW, ← hB]; exact (Below.refl _ _).alloc (Nat.le_refl _) _
  have HB := Lib.hid hB
  rw [← hW]
  have HW0 := Lib.hid hW0
  have HWs := Lib.hid hWs
  clear hmk1 hW hWs hW0 hB
  go_loopw [25] (AR is n B w) (fun i _ => n - (intOf i).toNat)
  case atStart => exact ⟨0, Nat.zero_le _, rfl, HW0, Lib.hid (fun t h => by omega), HWs, hbW⟩
  case round =>
    obtain ⟨i, hi, rfl, h0, hra, hsa, hb⟩ := hrel
    clear hbW
    by_cases hlt : i < n
    · have hii : i < is.length := by rw [HN.out]; exact hlt
      obtain ⟨b, off, ha, ai, ci, hc, hs⟩ := H.out.row (i := i) (by rw [mV_len]; exact hii)
      subst ha
      rw [mV_at] at hc hs
      rw [List.length_map] at hc hs
      rw [← isG_at is i hii] at hc hs
      have hmr : (isG is i).length ≤ 1048576 := by rw [isG_at is i hii]; exact HR.out i hii
      have hbl := World.block_lt_of_cell? w _ hc
      have ck := (hb.cell (p := ⟨b, off + i, none⟩) (by rw [← HB.out]; exact hbl)).trans hc
      obtain ⟨m, hm⟩ : ∃ m, (isG is i).length = m := ⟨_, rfl⟩
      rw [hm] at ck hs hmr
      have hmk := run_mkW info_if Try.underlying34 rfl m hmr wr
      rw [hsa.out] at hmk
      obtain ⟨W1, hW1⟩ : ∃ W1, W1 = wr.alloc (.cells (Array.replicate m Value.nilIface) 20) := ⟨_, rfl⟩
      rw [← hW1] at hmk
      have e0 := (show W1.heap[B]? = wr.heap[B]? from by rw [hW1]; exact heap_alloc_ne (by have := hsa.out; omega)).trans h0.out
      have e2 : ∀ t, t < i → W1.heap[B + 1 + t]? = some (.cells ((isG is t).map ifI).toArray 20 (0, 0)) := fun t ht => by
        rw [hW1]; exact (heap_alloc_ne (by have := hsa.out; omega)).trans (hra.out t ht)
      have e3 : W1.heap.size = B + 1 + (i + 1) := by rw [hW1, size_alloc, hsa.out]; omega
      have e4 : Below B w W1 := by rw [hW1]; exact hb.alloc (by have := hsa.out; omega) _
      obtain ⟨L, hL⟩ : ∃ L, L = (isG is i).map ifI := ⟨_, rfl⟩
      have hLm : L.length = m := by rw [hL, List.length_map, hm]
      have e5 : W1.heap[B + 1 + i]? = some (.cells (L.take 0 ++ List.replicate (L.length - 0) Value.nilIface).toArray 20 (0, 0)) := by
        rw [hW1]
        have := heap_alloc_at wr (.cells (Array.replicate m Value.nilIface) 20)
        rw [hsa.out] at this
        exact this.trans (by simp [hLm])
      have ck1 : W1.cell? ⟨b, off + i, none⟩ = some (.slice ai m ci) := (e4.cell (p := ⟨b, off + i, none⟩) (by rw [← HB.out]; exact hbl)).trans ((by rw [hm] at hc; exact hc))
      have HS := Lib.hid hs
      have HM := Lib.hid hm
      have HL := Lib.hid hL
      have HLm := Lib.hid hLm
      have E0 := Lib.hid e0
      have E2 := Lib.hid e2
      have E3 := Lib.hid e3
      have E5 := Lib.hid e5
      have HBL := Lib.hid hbl
      have HC := Lib.hid hc
      clear hc hs hm hL hLm e0 e2 e3 e5 hW1 h0 hra hsa hb hbl
      go_wp2_with fail
      clear ck ck1 hmk
      go_loopw [39] (IR L (B + 1 + i) B w W1) (fun j _ => m - (intOf j).toNat)
      case atStart => exact ⟨0, Nat.zero_le _, rfl, E5, Lib.hid (fun b _ => rfl), Lib.hid rfl, e4⟩
      case round =>
        obtain ⟨j, hj, rfl, k0, k1, k2, kb⟩ := hrel
        clear e4
        have hjm : j ≤ m := by rw [← HLm.out]; exact hj
        by_cases hlt2 : j < m
        · obtain ⟨rb, ro, hra, hrc⟩ := HS.out.at (k := j) (by rw [List.length_map, HM.out]; exact hlt2)
          subst hra
          have hrl := World.block_lt_of_cell? w _ hrc
          have cr := (kb.cell (p := ⟨rb, ro + j, none⟩) (by rw [← HB.out]; exact hrl)).trans hrc
          have ck : wr.cell? ⟨b, off + i, none⟩ = some (.slice (some ⟨rb, ro, none⟩) m ci) := (kb.cell (p := ⟨b, off + i, none⟩) (by rw [← HB.out]; exact HBL.out)).trans (by have := HC.out; rw [HM.out] at this; exact this)
          have hjL : j < L.length := by rw [HLm.out]; exact hlt2
          have ct : wr.cell? ⟨B + 1 + i, j, none⟩ = some Value.nilIface := cell_of_block k0.out (clone_get L j _ hjL)
          have ft : wr.frozen? ⟨B + 1 + i, j, none⟩ = false := free_of_block k0.out
          have n0 := heap_setCell_at (i := j) k0.out L[j]
          rw [clone_step L j Value.nilIface hjL] at n0
          obtain ⟨x, hx1, hx2⟩ : ∃ x, ((isG is i).map iV)[j]'(by rw [List.length_map, HM.out]; exact hlt2) = .int .i64 x ∧ L[j] = .iface 3 (.int .i64 x) := by
            have := HL.out
            subst this
            exact ⟨_, List.getElem_map _, List.getElem_map _⟩
          rw [hx1] at cr
          have n1 : ∀ b, b ≠ B + 1 + i → (wr.setCell ⟨B + 1 + i, j, none⟩ L[j]).heap[b]? = W1.heap[b]? := fun b hb => (heap_setCell_ne hb _).trans (k1.out b hb)
          have n2 : (wr.setCell ⟨B + 1 + i, j, none⟩ L[j]).heap.size = W1.heap.size := by rw [size_setCell]; exact k2.out
          have n3 := kb.setCell (p := ⟨B + 1 + i, j, none⟩) (by show B ≤ B + 1 + i; omega) L[j]
          rw [hx2] at n0 n1 n2 n3
          have N0 := Lib.hid n0
          have N1 := Lib.hid n1
          have N2 := Lib.hid n2
          clear n0 n1 n2 hrc hx1 hx2 k0 k1 k2 kb
          go_wp2_with fail
          go_roundw
          case rel => exact ⟨j + 1, by omega, by go_num, N0, N1, N2, n3⟩
          case measure => simp [intOf]; omega
        · obtain rfl : j = m := by omega
          have f0 : wr.heap[B]? = _ := (k1.out B (by omega)).trans E0.out
          have c0 : wr.cell? ⟨B, i, none⟩ = some Value.nilIface := cell_of_block f0 (getK _ i n (rangeL _ _) _ hlt)
          have ff : wr.frozen? ⟨B, i, none⟩ = false := free_of_block f0
          have n0 := heap_setCell_at (i := i) f0 (ifS (slV (B + 1 + i) j))
          have hGl : (isG is i).length = j := HM.out
          rw [stepK _ i n (rangeL _ _) _ _ hlt] at n0
          have n0' : (wr.setCell ⟨B, i, none⟩ (ifS (slV (B + 1 + i) j))).heap[B]? = some (.cells ((List.range (i + 1)).map (fun t => ifS (slV (B + 1 + t) (isG is t).length)) ++ List.replicate (n - (i + 1)) Value.nilIface).toArray 20 (0, 0)) := by
            rw [rangeS, hGl]; exact n0
          have n1 : ∀ t, t < i + 1 → (wr.setCell ⟨B, i, none⟩ (ifS (slV (B + 1 + i) j))).heap[B + 1 + t]? = some (.cells ((isG is t).map ifI).toArray 20 (0, 0)) := by
            intro t ht
            refine (heap_setCell_ne (by omega) _).trans ?_
            by_cases e : t = i
            · subst e
              rw [k0.out, ← HL.out, HLm.out, Nat.sub_self, ← HLm.out, List.take_length]
              simp
            · exact (k1.out _ (by omega)).trans (E2.out t (by omega))
          have n2 : (wr.setCell ⟨B, i, none⟩ (ifS (slV (B + 1 + i) j))).heap.size = B + 1 + (i + 1) := by rw [size_setCell, k2.out]; exact E3.out
          have n3 := kb.setCell (p := ⟨B, i, none⟩) (Nat.le_refl _) (ifS (slV (B + 1 + i) j))
          unfold ifS slV at n3
          have N0 := Lib.hid n0'
          have N1 := Lib.hid n1
          have N2 := Lib.hid n2
          clear n0 n0' n1 n2 f0 hGl k0 k1 k2 kb
          go_wp2_with fail
          go_roundw
          case rel => exact ⟨i + 1, by omega, by go_num, N0, N1, N2, n3⟩
          case measure => simp [intOf]; omega
    · obtain rfl : i = n := by omega
      have g0 : wr.heap[B]? = some (.cells ((List.range i).map (fun t => ifS (slV (B + 1 + t) (isG is t).length))).toArray 20 (0, 0)) := by have := h0.out; rw [Nat.sub_self] at this; simpa using this
      have hRW : RowsW (.slice (some ⟨B, 0, none⟩) i i) (rowsI is) wr := by
        refine ⟨(List.range i).map (fun t => slV (B + 1 + t) (isG is t).length), ?_, by simp [rowsI, HN.out], fun t ht ht2 => ?_⟩
        · have := Sl.made (l := ((List.range i).map (fun t => slV (B + 1 + t) (isG is t).length)).map ifS) (t := 20) (g0.trans (by simp)) (by simp; unfold maxLen; omega)
          simpa using this
        · have hti : t < i := by simpa using ht
          have e1 : ((List.range i).map (fun t => slV (B + 1 + t) (isG is t).length))[t] = slV (B + 1 + t) (isG is t).length := by simp
          rw [e1, rowsI_at, ← isG_at is t (by rw [HN.out]; exact hti)]
          have hl1 : (isG is t).length ≤ 1048576 := by rw [isG_at is t (by rw [HN.out]; exact hti)]; exact HR.out t (by rw [HN.out]; exact hti)
          have := Sl.made (hra.out t hti) (by simp; unfold maxLen; omega)
          simpa [slV] using this
      have HC := Lib.hid (ft_any _ is wr hRW (by rw [HN.out]; exact hn) HR.out)
      unfold ifS at HC
      have hBs : B ≤ wr.heap.size := by have := hsa.out; omega
      clear g0 hRW h0 hra hsa HW0 HWs
      go_wp2_with fail
      refine HC.out.mono ?_
      rintro e W3 ⟨v', rfl, hRW, hb3⟩
      obtain ⟨a3, c3, e3⟩ := hRW.shape
      have hl3 : (tr is).length = mx is := by simp [tr]
      rw [hl3] at e3
      subst e3
      have hmx : mx is ≤ 1048576 := by rw [← mx_all]; exact mx_bound is 1048576 is.length (Nat.le_refl _) HR.out
      obtain ⟨l, hl⟩ : ∃ l, mx is = l := ⟨_, rfl⟩
      rw [hl] at hRW hmx ⊢
      have HRW := Lib.hid hRW
      have HL := Lib.hid hl
      have hbT := hb.trans (hb3.mono hBs)
      unfold ifS
      obtain ⟨D, hD⟩ : ∃ D, W3.heap.size = D := ⟨_, rfl⟩
      have hmk1 := fun W => run_mkW info_is Try.underlying22 rfl l hmx W
      have hmk2 := fun W => run_mkW info_bs Try.underlying28 rfl l hmx W
      clear hRW hl3 hl HC hb hb3 hBs
      go_wp2_with fail
      obtain ⟨Wa, hWa⟩ : ∃ Wa, Wa = (W3.alloc (.cells (Array.replicate l (Value.slice none 0 0)) 26)).alloc (.cells (Array.replicate l (Value.slice none 0 0)) 31) := ⟨_, rfl⟩
      have hs1 : (W3.alloc (.cells (Array.replicate l (Value.slice none 0 0)) 26)).heap.size = D + 1 := by rw [size_alloc, hD]
      have hWs : Wa.heap.size = D + 2 + 2 * 0 := by rw [hWa, size_alloc, hs1]
      have hW0 : Wa.heap[D]? = some (.cells ((List.range 0).map (fun t => slV (D + 2 + 2 * t) i) ++ List.replicate (l - 0) (Value.slice none 0 0)).toArray 26 (0, 0)) := by
        rw [hWa]
        refine (heap_alloc_ne (by rw [hs1]; omega)).trans ?_
        have := heap_alloc_at W3 (.cells (Array.replicate l (Value.slice none 0 0)) 26)
        rw [hD] at this
        exact this.trans (by simp)
      have hW1 : Wa.heap[D + 1]? = some (.cells ((List.range 0).map (fun t => slV (D + 2 + 2 * t + 1) i) ++ List.replicate (l - 0) (Value.slice none 0 0)).toArray 31 (0, 0)) := by
        rw [hWa]
        have := heap_alloc_at (W3.alloc (.cells (Array.replicate l (Value.slice none 0 0)) 26)) (.cells (Array.replicate l (Value.slice none 0 0)) 31)
        rw [hs1] at this
        exact this.trans (by simp)
      have hbW : Below D W3 Wa := by rw [hWa, ← hD]; exact ((Below.refl _ _).alloc (Nat.le_refl _) _).alloc (by rw [hs1, hD]; omega) _
      have HD := Lib.hid hD
      rw [← hWa]
      have HW0 := Lib.hid hW0
      have HW1 := Lib.hid hW1
      have HWs := Lib.hid hWs
      have hin : i ≤ 1048576 := hn
      clear hmk1 hmk2 hWa hs1 hWs hW0 hW1 hD
      go_loopw [77] (CR is l i D W3) (fun j _ => l - (intOf j).toNat)
      case atStart => exact ⟨0, Nat.zero_le _, rfl, HW0, HW1, Lib.hid (fun t h => by omega), HWs, hbW⟩
      case round =>
        obtain ⟨j, hj, rfl, h0a, h1a, hra, hsa, hb⟩ := hrel
        clear hbW
        by_cases hlt2 : j < l
        · have hjt : j < (tr is).length := by simp [tr, HL.out]; exact hlt2
          obtain ⟨b, off, ha, ai, ci, hc, hs⟩ := HRW.out.row (i := j) hjt
          subst ha
          have htj : (tr is)[j] = (List.range i).map fun x => cellT is j x := by simp [tr, HN.out]
          have htl : (tr is)[j].length = i := by rw [htj]; simp
          have hbl := World.block_lt_of_cell? W3 _ hc
          rw [htl] at hc hs
          have ck := (hb.cell (p := ⟨b, off + j, none⟩) (by rw [← HD.out]; exact hbl)).trans hc
          unfold ifS at ck
          have hmk1 := run_mkW info_i Try.underlying26 rfl i hin wr
          rw [hsa.out] at hmk1
          obtain ⟨W1, hW1⟩ : ∃ W1, W1 = wr.alloc (.cells (Array.replicate i (Value.int .i64 0)) 3) := ⟨_, rfl⟩
          rw [← hW1] at hmk1
          have e0 := (show W1.heap[D]? = wr.heap[D]? from by rw [hW1]; exact heap_alloc_ne (by have := hsa.out; omega)).trans h0a.out
          have e1 := (show W1.heap[D + 1]? = wr.heap[D + 1]? from by rw [hW1]; exact heap_alloc_ne (by have := hsa.out; omega)).trans h1a.out
          have e2 : ∀ b, b < D + 2 + 2 * j → W1.heap[b]? = wr.heap[b]? := fun b hb => by rw [hW1]; exact heap_alloc_ne (by have := hsa.out; omega)
          have e3 : W1.heap.size = D + 2 + 2 * j + 1 := by rw [hW1, size_alloc, hsa.out]
          have e4 : Below D W3 W1 := by rw [hW1]; exact hb.alloc (by have := hsa.out; omega) _
          obtain ⟨L, hL⟩ : ∃ L, L = (List.range i).map fun t => iV (valI is j t) := ⟨_, rfl⟩
          obtain ⟨M, hM⟩ : ∃ M, M = (List.range i).map fun t => Value.bool (preB is j t) := ⟨_, rfl⟩
          have hLl : L.length = i := by rw [hL]; simp
          have hMl : M.length = i := by rw [hM]; simp
          have e5 : W1.heap[D + 2 + 2 * j]? = some (.cells (L.take 0 ++ List.replicate (L.length - 0) (Value.int .i64 0)).toArray 3 (0, 0)) := by
            rw [hW1]
            have := heap_alloc_at wr (.cells (Array.replicate i (Value.int .i64 0)) 3)
            rw [hsa.out] at this
            exact this.trans (by simp [hLl])
          have c0 : W1.cell? ⟨D, j, none⟩ = some (Value.slice none 0 0) := cell_of_block e0 (getK _ j l (rangeL _ _) _ hlt2)
          have f0 : W1.frozen? ⟨D, j, none⟩ = false := free_of_block e0
          have n0 := heap_setCell_at (i := j) e0 (slV (D + 2 + 2 * j) i)
          rw [stepK _ j l (rangeL _ _) _ _ hlt2, ← rangeS (fun t => slV (D + 2 + 2 * t) i)] at n0
          have hmk2 := run_mkW info_b Try.underlying31 rfl i hin (W1.setCell ⟨D, j, none⟩ (slV (D + 2 + 2 * j) i))
          rw [size_setCell, e3] at hmk2
          obtain ⟨W2, hW2⟩ : ∃ W2, W2 = (W1.setCell ⟨D, j, none⟩ (slV (D + 2 + 2 * j) i)).alloc (.cells (Array.replicate i (Value.bool false)) 4) := ⟨_, rfl⟩
          rw [← hW2] at hmk2
          have z1 : (W1.setCell ⟨D, j, none⟩ (slV (D + 2 + 2 * j) i)).heap.size = D + 2 + 2 * j + 1 := by rw [size_setCell, e3]
          have m0 := (show W2.heap[D]? = _ from by rw [hW2]; exact heap_alloc_ne (by rw [z1]; omega)).trans n0
          have m1 := (show W2.heap[D + 1]? = W1.heap[D + 1]? from by rw [hW2]; exact (heap_alloc_ne (by rw [z1]; omega)).trans (heap_setCell_ne (by omega) _)).trans e1
          have m2 : ∀ b, b ≠ D → b < D + 2 + 2 * j + 1 → W2.heap[b]? = W1.heap[b]? := fun b hb hb2 => by rw [hW2]; exact (heap_alloc_ne (by rw [z1]; omega)).trans (heap_setCell_ne hb _)
          have m3 : W2.heap.size = D + 2 + 2 * j + 2 := by rw [hW2, size_alloc, z1]
          have m4 : Below D W3 W2 := by rw [hW2]; exact (e4.setCell (p := ⟨D, j, none⟩) (Nat.le_refl _) _).alloc (by rw [z1]; omega) _
          have m5 : W2.heap[D + 2 + 2 * j + 1]? = some (.cells (M.take 0 ++ List.replicate (M.length - 0) (Value.bool false)).toArray 4 (0, 0)) := by
            rw [hW2]
            have := heap_alloc_at (W1.setCell ⟨D, j, none⟩ (slV (D + 2 + 2 * j) i)) (.cells (Array.replicate i (Value.bool false)) 4)
            rw [z1] at this
            exact this.trans (by simp [hMl])
          have c1 : W2.cell? ⟨D + 1, j, none⟩ = some (Value.slice none 0 0) := cell_of_block m1 (getK _ j l (rangeL _ _) _ hlt2)
          have f1 : W2.frozen? ⟨D + 1, j, none⟩ = false := free_of_block m1
          have p1 := heap_setCell_at (i := j) m1 (slV (D + 2 + 2 * j + 1) i)
          rw [stepK _ j l (rangeL _ _) _ _ hlt2, ← rangeS (fun t => slV (D + 2 + 2 * t + 1) i)] at p1
          have p0 := (heap_setCell_ne (w := W2) (b := D + 1) (i := j) (k := D) (by omega) (slV (D + 2 + 2 * j + 1) i)).trans m0
          obtain ⟨W4, hW4⟩ : ∃ W4, W2.setCell ⟨D + 1, j, none⟩ (slV (D + 2 + 2 * j + 1) i) = W4 := ⟨_, rfl⟩
          have p2 : ∀ b, b ≠ D → b ≠ D + 1 → b < D + 2 + 2 * j → W4.heap[b]? = wr.heap[b]? := fun b h1 h2 h3 => by
            rw [← hW4]; exact (heap_setCell_ne h2 _).trans ((m2 b h1 (by omega)).trans (e2 b h3))
          have p3 : W4.heap.size = D + 2 + 2 * j + 2 := by rw [← hW4, size_setCell, m3]
          have p4 : Below D W3 W4 := by rw [← hW4]; exact m4.setCell (p := ⟨D + 1, j, none⟩) (Nat.le_succ _) _
          have p5 : W4.heap[D + 2 + 2 * j]? = some (.cells (L.take 0 ++ List.replicate (L.length - 0) (Value.int .i64 0)).toArray 3 (0, 0)) := by
            rw [← hW4]; exact (heap_setCell_ne (by omega) _).trans ((m2 _ (by omega) (by omega)).trans e5)
          have p6 : W4.heap[D + 2 + 2 * j + 1]? = some (.cells (M.take 0 ++ List.replicate (M.length - 0) (Value.bool false)).toArray 4 (0, 0)) := by
            rw [← hW4]; exact (heap_setCell_ne (by omega) _).trans m5
          rw [hW4] at p0 p1
          have HR2 : Hid (∀ t, t < j → W4.heap[D + 2 + 2 * t]? = some (.cells ((List.range i).map fun x => iV (valI is t x)).toArray 3 (0, 0)) ∧ W4.heap[D + 2 + 2 * t + 1]? = some (.cells ((List.range i).map fun x => Value.bool (preB is t x)).toArray 4 (0, 0))) := Lib.hid fun t ht => by
            obtain ⟨q1, q2⟩ := hra.out t ht
            exact ⟨(p2 _ (by omega) (by omega) (by omega)).trans q1, (p2 _ (by omega) (by omega) (by omega)).trans q2⟩
          have HS := Lib.hid hs
          have HTJ := Lib.hid htj
          have HLL := Lib.hid hL
          have HMM := Lib.hid hM
          have HLl := Lib.hid hLl
          have HMl := Lib.hid hMl
          have P0 := Lib.hid p0
          have P1 := Lib.hid p1
          have P3 := Lib.hid p3
          have P5 := Lib.hid p5
          have P6 := Lib.hid p6
          unfold slV at hmk2 hW4
          have HW4 := Lib.hid hW4
          clear hc hs htj htl hbl hL hM hLl hMl p0 p1 p2 p3 p5 p6 m0 m1 m2 m3 m4 m5 n0 e0 e1 e2 e3 e4 e5 z1 hW1 hW2 h0a h1a hra hsa hb hW4
          go_wp2_with fail
          rw [HW4.out]
          clear ck hmk1 hmk2 c0 f0 c1 f1
          go_loopw [104] (DR L M i (D + 2 + 2 * j) D W3 W4) (fun x _ => i - (intOf x).toNat)
          case atStart => exact ⟨0, Nat.zero_le _, rfl, P5, P6, Lib.hid (fun b _ _ => rfl), Lib.hid rfl, p4⟩
          case round =>
            obtain ⟨x, hx, rfl, k0, k1, k2, k3, kb⟩ := hrel
            clear p4
            by_cases hlt3 : x < i
            · have hxt : x < (tr is)[j].length := by rw [HTJ.out]; simpa using hlt3
              obtain ⟨rb, ro, hra, hrc⟩ := HS.out.at hxt
              subst hra
              have hce : (tr is)[j][x] = cellT is j x := by
                have := HTJ.out
                simp [this]
              rw [hce] at hrc
              have hrl := World.block_lt_of_cell? W3 _ hrc
              have cr := (kb.cell (p := ⟨rb, ro + x, none⟩) (by rw [← HD.out]; exact hrl)).trans hrc
              have hxL : x < L.length := by rw [HLl.out]; exact hlt3
              have hxM : x < M.length := by rw [HMl.out]; exact hlt3
              have hLx : L[x] = iV (valI is j x) := by have := HLL.out; subst this; simp
              have hMx : M[x] = .bool (preB is j x) := by have := HMM.out; subst this; simp
              by_cases hjx : j < (isG is x).length
              · have hcv : cellT is j x = .iface 3 (.int .i64 (valI is j x)) := by unfold cellT; exact if_pos hjx
                have hpb : preB is j x = true := by unfold preB; simpa using hjx
                rw [hcv] at cr
                rw [hpb] at hMx
                unfold iV at hLx
                obtain ⟨y, hy⟩ : ∃ y, valI is j x = y := ⟨_, rfl⟩
                rw [hy] at cr hLx
                have b0 := (k2.out D (by omega) (by omega)).trans P0.out
                have b1 := (k2.out (D + 1) (by omega) (by omega)).trans P1.out
                have cD : wr.cell? ⟨D, j, none⟩ = some (slV (D + 2 + 2 * j) i) := cell_of_block b0 (by
                  rw [List.getElem?_toArray, List.getElem?_append_left (by simp)]; simp)
                have cD1 : wr.cell? ⟨D + 1, j, none⟩ = some (slV (D + 2 + 2 * j + 1) i) := cell_of_block b1 (by
                  rw [List.getElem?_toArray, List.getElem?_append_left (by simp)]; simp)
                have ct : wr.cell? ⟨D + 2 + 2 * j, x, none⟩ = some (Value.int .i64 0) := cell_of_block k0.out (clone_get L x _ hxL)
                have ft : wr.frozen? ⟨D + 2 + 2 * j, x, none⟩ = false := free_of_block k0.out
                have n0 := heap_setCell_at (i := x) k0.out L[x]
                rw [clone_step L x (Value.int .i64 0) hxL, hLx] at n0
                have n1 := (heap_setCell_ne (w := wr) (b := D + 2 + 2 * j) (i := x) (k := D + 2 + 2 * j + 1) (by omega) (Value.int .i64 y)).trans k1.out
                have cE : (wr.setCell ⟨D + 2 + 2 * j, x, none⟩ (Value.int .i64 y)).cell? ⟨D + 1, j, none⟩ = some (slV (D + 2 + 2 * j + 1) i) := by
                  have := (heap_setCell_ne (w := wr) (b := D + 2 + 2 * j) (i := x) (k := D + 1) (by omega) (Value.int .i64 y)).trans b1
                  exact cell_of_block this (by rw [List.getElem?_toArray, List.getElem?_append_left (by simp)]; simp)
                have ct1 : (wr.setCell ⟨D + 2 + 2 * j, x, none⟩ (Value.int .i64 y)).cell? ⟨D + 2 + 2 * j + 1, x, none⟩ = some (Value.bool false) := cell_of_block n1 (clone_get M x _ hxM)
                have ft1 : (wr.setCell ⟨D + 2 + 2 * j, x, none⟩ (Value.int .i64 y)).frozen? ⟨D + 2 + 2 * j + 1, x, none⟩ = false := free_of_block n1
                have q1 := heap_setCell_at (i := x) n1 M[x]
                rw [clone_step M x (Value.bool false) hxM, hMx] at q1
                have q0 := (heap_setCell_ne (w := wr.setCell ⟨D + 2 + 2 * j, x, none⟩ (Value.int .i64 y)) (b := D + 2 + 2 * j + 1) (i := x) (k := D + 2 + 2 * j) (by omega) (Value.bool true)).trans n0
                have q2 : ∀ b, b ≠ D + 2 + 2 * j → b ≠ D + 2 + 2 * j + 1 → ((wr.setCell ⟨D + 2 + 2 * j, x, none⟩ (Value.int .i64 y)).setCell ⟨D + 2 + 2 * j + 1, x, none⟩ (Value.bool true)).heap[b]? = W4.heap[b]? := fun b h1 h2 =>
                  (heap_setCell_ne h2 _).trans ((heap_setCell_ne h1 _).trans (k2.out b h1 h2))
                have q3 : ((wr.setCell ⟨D + 2 + 2 * j, x, none⟩ (Value.int .i64 y)).setCell ⟨D + 2 + 2 * j + 1, x, none⟩ (Value.bool true)).heap.size = W4.heap.size := by rw [size_setCell, size_setCell]; exact k3.out
                have q4 := (kb.setCell (p := ⟨D + 2 + 2 * j, x, none⟩) (by show D ≤ D + 2 + 2 * j; omega) (Value.int .i64 y)).setCell (p := ⟨D + 2 + 2 * j + 1, x, none⟩) (by show D ≤ D + 2 + 2 * j + 1; omega) (Value.bool true)
                have Q0 := Lib.hid q0
                have Q1 := Lib.hid q1
                have Q2 := Lib.hid q2
                have Q3 := Lib.hid q3
                unfold slV at cD cE
                clear n0 n1 q0 q1 q2 q3 b0 b1 cD1 hrc hce hcv hpb hLx hMx hy k0 k1 k2 k3 kb
                go_wp2_with fail
                go_roundw
                case rel => exact ⟨x + 1, by omega, by go_num, Q0, Q1, Q2, Q3, q4⟩
                case measure => simp [intOf]; omega
              · have hcv : cellT is j x = .nilIface := by unfold cellT; exact if_neg hjx
                have hpb : preB is j x = false := by unfold preB; simpa using hjx
                have hvv : valI is j x = 0 := by unfold valI; rw [List.getD_eq_getElem?_getD, List.getElem?_eq_none (by omega)]; rfl
                rw [hcv] at cr
                rw [hpb] at hMx
                rw [hvv] at hLx
                unfold iV at hLx
                have q0 := k0.out
                rw [← same_step L x _ hxL hLx] at q0
                have q1 := k1.out
                rw [← same_step M x _ hxM hMx] at q1
                have Q0 := Lib.hid q0
                have Q1 := Lib.hid q1
                clear q0 q1 hrc hce hcv hpb hvv hLx hMx k0 k1
                go_wp2_with fail
                go_roundw
                case rel => exact ⟨x + 1, by omega, by go_num, Q0, Q1, k2, k3, kb⟩
                case measure => simp [intOf]; omega
            · obtain rfl : x = i := by omega
              have y0 := (k2.out D (by omega) (by omega)).trans P0.out
              have y1 := (k2.out (D + 1) (by omega) (by omega)).trans P1.out
              have y2 : ∀ t, t < j + 1 → wr.heap[D + 2 + 2 * t]? = some (.cells ((List.range x).map fun z => iV (valI is t z)).toArray 3 (0, 0)) ∧ wr.heap[D + 2 + 2 * t + 1]? = some (.cells ((List.range x).map fun z => Value.bool (preB is t z)).toArray 4 (0, 0)) := by
                intro t ht
                by_cases e : t = j
                · subst e
                  have z0 := k0.out
                  have z1 := k1.out
                  rw [HLl.out, Nat.sub_self, ← HLl.out, List.take_length] at z0
                  rw [HMl.out, Nat.sub_self, ← HMl.out, List.take_length] at z1
                  rw [HLL.out] at z0
                  rw [HMM.out] at z1
                  exact ⟨by simpa using z0, by simpa using z1⟩
                · obtain ⟨r1, r2⟩ := HR2.out t (by omega)
                  exact ⟨(k2.out _ (by omega) (by omega)).trans r1, (k2.out _ (by omega) (by omega)).trans r2⟩
              have y3 : wr.heap.size = D + 2 + 2 * (j + 1) := by rw [k3.out, P3.out]; omega
              have Y0 := Lib.hid y0
              have Y1 := Lib.hid y1
              have Y2 := Lib.hid y2
              have Y3 := Lib.hid y3
              clear y0 y1 y2 y3 k0 k1 k2 k3
              go_wp2_with fail
              go_roundw
              case rel => exact ⟨j + 1, by omega, by go_num, Y0, Y1, Y2, Y3, kb⟩
              case measure => simp [intOf]; omega
        · obtain rfl : j = l := by omega
          have g0 : wr.heap[D]? = some (.cells ((List.range j).map (fun t => slV (D + 2 + 2 * t) i)).toArray 26 (0, 0)) := by have := h0a.out; rw [Nat.sub_self] at this; simpa using this
          have g1 : wr.heap[D + 1]? = some (.cells ((List.range j).map (fun t => slV (D + 2 + 2 * t + 1) i)).toArray 31 (0, 0)) := by have := h1a.out; rw [Nat.sub_self] at this; simpa using this
          have G0 := Lib.hid g0
          have G1 := Lib.hid g1
          have G2 := Lib.hid hra.out
          clear g0 g1 h0a h1a hra hsa
          go_wp2_with fail
          go_ret3
          have hBD : B ≤ D := by have := hbT.size; have := HB.out; have := HD.out; omega
          refine ⟨_, _, rfl, ⟨(List.range j).map (fun t => slV (D + 2 + 2 * t) i), ?_, by simp [mV, tI, HL.out], fun t ht ht2 => ?_⟩, ⟨(List.range j).map (fun t => slV (D + 2 + 2 * t + 1) i), ?_, by simp [pM, HL.out], fun t ht ht2 => ?_⟩, by rw [HB.out]; exact hbT.trans (hb.mono hBD)⟩
          · have := Sl.made G0.out (by simp; unfold maxLen; omega)
            simpa using this
          · have htj : t < j := by simpa using ht
            have e1 : ((List.range j).map (fun t => slV (D + 2 + 2 * t) i))[t] = slV (D + 2 + 2 * t) i := by simp
            have e2 : (mV (tI is))[t] = (List.range i).map fun z => iV (valI is t z) := by simp [mV, tI, HN.out]
            rw [e1, e2]
            have := Sl.made (G2.out t htj).1 (by simp; unfold maxLen; omega)
            simpa [slV] using this
          · have := Sl.made G1.out (by simp; unfold maxLen; omega)
            simpa using this
          · have htj : t < j := by simpa using ht
            have e1 : ((List.range j).map (fun t => slV (D + 2 + 2 * t + 1) i))[t] = slV (D + 2 + 2 * t + 1) i := by simp
            have e2 : (pM is)[t] = (List.range i).map fun z => Value.bool (preB is t z) := by simp [pM, HN.out]
            rw [e1, e2]
            have := Sl.made (G2.out t htj).2 (by simp; unfold maxLen; omega)
            simpa [slV] using this
end Go.Proofs.Ytnfgegibplogeaa
