/- transpose: what it answers at an array of arrays of ints. -/
import Derived.Test.YtnfgegibplogeaaCln42
import Derived.Stop.Asserts
namespace Go.Proofs.Ytnfgegibplogeaa
open Go.RowKit
set_option linter.unusedVariables false

def ifI (x : Int) : Value := .iface 3 (.int .i64 x)
def ifS (v : Value) : Value := .iface 34 v
def rowsI (is : List (List Int)) : List (List Value) := is.map (·.map ifI)
theorem rowsI_len (is : List (List Int)) : (rowsI is).length = is.length := by simp [rowsI]
theorem rowsI_at (is : List (List Int)) (i : Nat) (h : i < (rowsI is).length) : (rowsI is)[i] = (is[i]'(by rw [rowsI_len] at h; exact h)).map ifI := by simp [rowsI]
/-- The slice v of wrapped slices holds these rows. -/
def RowsW (v : Value) (rs : List (List Value)) (w : World) : Prop :=
  ∃ vs : List Value, Sl v (vs.map ifS) w ∧ vs.length = rs.length ∧ ∀ i (h : i < vs.length) (h2 : i < rs.length), Sl vs[i] rs[i] w
theorem RowsW.below {v : Value} {rs : List (List Value)} {w w' : World} (h : RowsW v rs w) {n : Nat} (hb : Below n w w') (hn : w.heap.size ≤ n) : RowsW v rs w' := by
  obtain ⟨vs, h1, h2, h3⟩ := h
  exact ⟨vs, h1.below hb hn, h2, fun i h h2 => (h3 i h h2).below hb hn⟩
theorem RowsW.shape {v : Value} {rs : List (List Value)} {w : World} (h : RowsW v rs w) : ∃ a cap, v = .slice a rs.length cap := by
  obtain ⟨vs, ⟨a, cap, hv, _⟩, h2, _⟩ := h
  exact ⟨a, cap, by rw [hv, List.length_map, h2]⟩
theorem RowsW.row {a : Option Addr} {n cap : Nat} {rs : List (List Value)} {w : World} (h : RowsW (.slice a n cap) rs w) {i : Nat} (hi : i < rs.length) :
    ∃ b off, a = some ⟨b, off, none⟩ ∧ ∃ ai ci, w.cell? ⟨b, off + i, none⟩ = some (ifS (.slice ai rs[i].length ci)) ∧ Sl (.slice ai rs[i].length ci) rs[i] w := by
  obtain ⟨vs, h1, h2, h3⟩ := h
  have hv : i < vs.length := by omega
  obtain ⟨b, off, ha, hc⟩ := h1.at (k := i) (by simpa using hv)
  have h4 := h3 i hv hi
  obtain ⟨ai, ci, he⟩ := h4.shape
  rw [List.getElem_map, he] at hc
  rw [he] at h4
  exact ⟨b, off, ha, ai, ci, hc, h4⟩
/-- The answer's cell in row j, column i. -/
def cellT (is : List (List Int)) (j i : Nat) : Value := if j < (is.getD i []).length then ifI ((is.getD i []).getD j 0) else .nilIface
def tr (is : List (List Int)) : List (List Value) := (List.range (mx is)).map fun j => (List.range is.length).map fun i => cellT is j i
theorem ta_sl (a : Option Addr) (n c : Nat) (W : World) : Sem.run Try.prog (Instr.typeAssert (Value.iface 34 (.slice a n c)) 20 34 true) W = .ok (.tuple #[.slice a n c, .bool true]) W := by kernel_rfl
theorem ta_sl1 (a : Option Addr) (n c : Nat) (W : World) : Sem.run Try.prog (Instr.typeAssert (Value.iface 34 (.slice a n c)) 20 34 false) W = .ok (.slice a n c) W := by kernel_rfl
theorem info_ss : (Try.prog.info? 34).map (fun i => (i.zero, i.size, decide (i.bytes ≤ 32))) = some (some (Value.slice none 0 0), 1, true) := by kernel_rfl
theorem info_if : (Try.prog.info? 20).map (fun i => (i.zero, i.size, decide (i.bytes ≤ 32))) = some (some Value.nilIface, 1, true) := by kernel_rfl
def slV (b n : Nat) : Value := .slice (some ⟨b, 0, none⟩) n n

theorem stepK (vs : List Value) (k n : Nat) (hk : vs.length = k) (z x : Value) (h : k < n) : ((vs ++ List.replicate (n - k) z).toArray.setIfInBounds k x) = ((vs ++ [x]) ++ List.replicate (n - (k + 1)) z).toArray := by
  subst hk
  rw [stepOut vs n z x h, List.length_append]; rfl
theorem getK (vs : List Value) (k n : Nat) (hk : vs.length = k) (z : Value) (h : k < n) : (vs ++ List.replicate (n - k) z).toArray[k]? = some z := by
  subst hk
  exact getOut vs n z h
theorem rangeS (f : Nat → Value) (k : Nat) : (List.range (k + 1)).map f = (List.range k).map f ++ [f k] := by rw [List.range_succ, List.map_append]; rfl
theorem rangeC (k : Nat) (z : Value) : ((List.range k).map fun _ => z) = List.replicate k z := List.ext_getElem (by simp) (fun i h1 h2 => by simp)
theorem rangeL (f : Nat → Value) (k : Nat) : ((List.range k).map f).length = k := by simp
theorem setRange (f : Nat → Value) (n i : Nat) (x : Value) : ((List.range n).map f).toArray.setIfInBounds i x = ((List.range n).map fun t => if t = i then x else f t).toArray := by
  apply Array.ext'
  simp only [Array.toList_setIfInBounds]
  apply List.ext_getElem
  · simp
  · intro t h1 h2
    simp at h2
    rw [List.getElem_set]
    simp only [List.getElem_map, List.getElem_range]
    by_cases e : i = t
    · rw [if_pos e, if_pos e.symm]
    · rw [if_neg e, if_neg (fun h => e h.symm)]
theorem getRange (f : Nat → Value) (n i : Nat) (h : i < n) : ((List.range n).map f).toArray[i]? = some (f i) := by simp [h]

/-- The grid under construction: l blocks from s0 on, of n cells each. -/
def GRD (s0 l n : Nat) (F : Nat → Nat → Value) (w : World) : Prop := ∀ j, j < l → w.heap[s0 + j]? = some (.cells ((List.range n).map (F j)).toArray 20 (0, 0))
theorem GRD.upd {s0 l n : Nat} {F : Nat → Nat → Value} {w : World} (h : GRD s0 l n F w) (jj i : Nat) (hj : jj < l) (x : Value) : GRD s0 l n (fun j t => if j = jj ∧ t = i then x else F j t) (w.setCell ⟨s0 + jj, i, none⟩ x) := by
  intro j hjl
  by_cases e : j = jj
  · subst e
    rw [heap_setCell_at (h j hjl) x, setRange]
    congr 4
    funext t
    by_cases e : t = i <;> simp [e]
  · rw [heap_setCell_ne (by omega), h j hjl]
    congr 4
    funext t
    show F j t = if j = jj ∧ t = i then x else F j t
    rw [if_neg (fun h => e h.1)]
theorem GRD.congr {s0 l n : Nat} {F F' : Nat → Nat → Value} {w : World} (h : GRD s0 l n F w) (hF : ∀ j, j < l → ∀ t, t < n → F j t = F' j t) : GRD s0 l n F' w := by
  intro j hjl
  rw [h j hjl]
  congr 3
  apply List.map_congr_left
  intro t ht
  exact hF j hjl t (List.mem_range.1 ht)
/-- What stands when i rows are through, and of row i the first jj elements. -/
def FF (is : List (List Int)) (i jj j t : Nat) : Value := if t < i ∨ (t = i ∧ j < jj) then cellT is j t else .nilIface
theorem ff_step (is : List (List Int)) (i jj : Nat) (j t : Nat) : (if j = jj ∧ t = i then cellT is jj i else FF is i jj j t) = FF is i (jj + 1) j t := by
  unfold FF
  by_cases e : j = jj ∧ t = i
  · obtain ⟨rfl, rfl⟩ := e
    rw [if_pos ⟨rfl, rfl⟩, if_pos (.inr ⟨rfl, by omega⟩)]
  · rw [if_neg e]
    by_cases h : t < i ∨ (t = i ∧ j < jj)
    · rw [if_pos h, if_pos (h.imp_right fun ⟨a, b⟩ => ⟨a, by omega⟩)]
    · rw [if_neg h, if_neg (fun h2 => h (h2.imp_right fun ⟨a, b⟩ => ⟨a, by
        by_cases e2 : j = jj
        · exact absurd ⟨e2, a⟩ e
        · omega⟩))]
theorem ff_row (is : List (List Int)) (i : Nat) (hi : i < is.length) (j t : Nat) : FF is i is[i].length j t = FF is (i + 1) 0 j t := by
  have hg : is.getD i [] = is[i] := by rw [List.getD_eq_getElem?_getD, List.getElem?_eq_getElem hi]; rfl
  unfold FF
  by_cases h1 : t < i
  · rw [if_pos (.inl h1), if_pos (.inl (by omega))]
  · by_cases h2 : t = i
    · subst h2
      rw [if_pos (show t < t + 1 ∨ _ from .inl (by omega))]
      by_cases h3 : j < is[t].length
      · rw [if_pos (.inr ⟨rfl, h3⟩)]
      · rw [if_neg (by omega)]
        unfold cellT
        rw [hg, if_neg h3]
    · rw [if_neg (by omega), if_neg (by omega)]
theorem ff_all (is : List (List Int)) (j t : Nat) (ht : t < is.length) : FF is is.length 0 j t = cellT is j t := by unfold FF; rw [if_pos (.inl ht)]
theorem cell_is (is : List (List Int)) (i j : Nat) (hi : i < is.length) (hj : j < is[i].length) : cellT is j i = ifI is[i][j] := by
  have hg : is.getD i [] = is[i] := by rw [List.getD_eq_getElem?_getD, List.getElem?_eq_getElem hi]; rfl
  unfold cellT
  rw [hg, if_pos hj, List.getD_eq_getElem?_getD, List.getElem?_eq_getElem hj]; rfl

def L2 (l n B : Nat) (w : World) (vi : Value) (wr : World) : Prop :=
  ∃ j : Nat, j ≤ l ∧ vi = .int .i64 j ∧ Hid (wr.heap[B]? = some (.cells ((List.range j).map (fun t => slV (B + 2 + t) n) ++ List.replicate (l - j) (Value.slice none 0 0)).toArray 34 (0, 0))) ∧
    Hid (wr.heap[B + 1]? = some (.cells ((List.range j).map (fun t => ifS (slV (B + 2 + t) n)) ++ List.replicate (l - j) Value.nilIface).toArray 20 (0, 0))) ∧
    Hid (∀ t, t < j → wr.heap[B + 2 + t]? = some (.cells ((List.range n).map fun _ => Value.nilIface).toArray 20 (0, 0))) ∧ Hid (wr.heap.size = B + 2 + j) ∧ Below B w wr
def L3 (is : List (List Int)) (l n B : Nat) (w W : World) (vi : Value) (wr : World) : Prop :=
  ∃ i : Nat, i ≤ n ∧ vi = .int .i64 i ∧ Hid (GRD (B + 2) l n (FF is i 0) wr) ∧ Hid (wr.heap[B]? = W.heap[B]?) ∧ Hid (wr.heap[B + 1]? = W.heap[B + 1]?) ∧ Below B w wr
def L4 (is : List (List Int)) (i m l n B : Nat) (w W : World) (vi : Value) (wr : World) : Prop :=
  ∃ j : Nat, j ≤ m ∧ vi = .int .i64 j ∧ Hid (GRD (B + 2) l n (FF is i j) wr) ∧ Hid (wr.heap[B]? = W.heap[B]?) ∧ Hid (wr.heap[B + 1]? = W.heap[B + 1]?) ∧ Below B w wr
def FTOut (is : List (List Int)) (w : World) (e : Ending) (w' : World) : Prop := ∃ v', e = .returned (ifS v') ∧ RowsW v' (tr is) w' ∧ Below w.heap.size w w'
set_option maxHeartbeats 4000000 in
set_option maxRecDepth 100000 in
theorem ft_any (v : Value) (is : List (List Int)) (w : World) (h : RowsW v (rowsI is) w) (hn : is.length ≤ 1048576) (hr : ∀ i (h : i < is.length), is[i].length ≤ 1048576) :
    Calls Try.prog 12 #[ifS v] w (FTOut is w) := by
  have H := Lib.hid h
  have HR := Lib.hid hr
  obtain ⟨a, cap, ev⟩ := h.shape
  rw [rowsI_len] at ev
  subst ev
  have h1 := ta_sl
  unfold ifS
  clear h hr
  by_cases h0 : 0 < is.length
  · obtain ⟨n, hn0⟩ : ∃ n, is.length = n := ⟨_, rfl⟩
    rw [hn0] at H hn h0 ⊢
    have HN := Lib.hid hn0
    clear hn0
    go_enter Try.func12, Try.ntmps12
    go_wp2_with fail
    go_loop [5, 38] (fun z i => ∃ k : Nat, k ≤ n ∧ i = .int .i64 k ∧ ∃ q : Nat, z = .int .i64 q ∧ Hid (q = mx (is.take k)) ∧ q ≤ 1048576) (fun _ i => n - (intOf i).toNat)
    case atStart => exact ⟨0, Nat.zero_le _, rfl, 0, rfl, rfl, by omega⟩
    case round =>
      obtain ⟨k, hk, rfl, q, rfl, hq, hq2⟩ := hrel
      by_cases hlt : k < n
      · have hki : k < is.length := by rw [HN.out]; exact hlt
        obtain ⟨b, off, ha, ai, ci, hc, hs⟩ := H.out.row (i := k) (by rw [rowsI_len]; exact hki)
        subst ha
        rw [rowsI_at, List.length_map] at hc
        have hm := HR.out k hki
        have HX : Hid (mx (is.take (k + 1)) = max q is[k].length) := Lib.hid (by rw [mx_snoc is k hki, ← hq.out])
        obtain ⟨m, hm2⟩ : ∃ m, is[k].length = m := ⟨_, rfl⟩
        rw [hm2] at hc hm HX
        unfold ifS at hc
        clear hs hm2 hq
        by_cases h2 : q < m
        · go_wp2_with fail
          go_round
          case rel => exact ⟨k + 1, by omega, by go_num, m, rfl, Lib.hid (by rw [HX.out]; omega), by omega⟩
          case measure => simp [intOf]; omega
        · go_wp2_with fail
          go_round
          case rel => exact ⟨k + 1, by omega, by go_num, q, rfl, Lib.hid (by rw [HX.out]; omega), by omega⟩
          case measure => simp [intOf]; omega
      · obtain rfl : k = n := by omega
        have HQ : Hid (q = mx is) := Lib.hid (by rw [hq.out, ← HN.out, mx_all])
        have hmk1 := fun W => run_mkW info_ss Try.underlying40 rfl q hq2 W
        have hmk2 := fun W => run_mkW info_if Try.underlying34 rfl q hq2 W
        clear hq
        have hB0 : ∃ B, w.heap.size = B := ⟨_, rfl⟩
        obtain ⟨B, hB⟩ := hB0
        go_wp2_with fail
        obtain ⟨W, hW⟩ : ∃ W, W = (w.alloc (.cells (Array.replicate q (Value.slice none 0 0)) 34)).alloc (.cells (Array.replicate q Value.nilIface) 20) := ⟨_, rfl⟩
        have hs1 : (w.alloc (.cells (Array.replicate q (Value.slice none 0 0)) 34)).heap.size = B + 1 := by show (w.heap.push _).size = _; simp [hB]
        have hWs : W.heap.size = B + 2 := by rw [hW]; show (Array.push _ _).size = _; rw [Array.size_push, hs1]
        have hW0 : W.heap[B]? = some (.cells ((List.range 0).map (fun t => slV (B + 2 + t) k) ++ List.replicate (q - 0) (Value.slice none 0 0)).toArray 34 (0, 0)) := by
          rw [hW]
          refine (heap_alloc_ne (by rw [hs1]; omega)).trans ?_
          have := heap_alloc_at w (.cells (Array.replicate q (Value.slice none 0 0)) 34)
          rw [hB] at this
          exact this.trans (by simp)
        have hW1 : W.heap[B + 1]? = some (.cells ((List.range 0).map (fun t => ifS (slV (B + 2 + t) k)) ++ List.replicate (q - 0) Value.nilIface).toArray 20 (0, 0)) := by
          rw [hW]
          have := heap_alloc_at (w.alloc (.cells (Array.replicate q (Value.slice none 0 0)) 34)) (.cells (Array.replicate q Value.nilIface) 20)
          rw [hs1] at this
          exact this.trans (by simp)
        have hbW : Below B w W := by rw [hW, ← hB]; exact ((Below.refl _ _).alloc (Nat.le_refl _) _).alloc (by rw [hs1, hB]; omega) _
        have HB := Lib.hid hB
        rw [← hW]
        have HW0 := Lib.hid hW0
        have HW1 := Lib.hid hW1
        have HWs := Lib.hid hWs
        have HMK := Lib.hid (fun W => run_mkW info_if Try.underlying34 rfl k hn W)
        clear hmk1 hmk2 hW hs1 hWs hW0 hW1
        clear hB
        go_loopw [13] (L2 q k B w) (fun i _ => q - (intOf i).toNat)
        case atStart => exact ⟨0, Nat.zero_le _, rfl, HW0, HW1, Lib.hid (fun t h => by omega), Lib.hid HWs.out, hbW⟩
        case round =>
          obtain ⟨j, hj, rfl, h0a, h1a, hra, hsa, hb⟩ := hrel
          by_cases hlt2 : j < q
          · have hmk := HMK.out wr
            rw [hsa.out] at hmk
            obtain ⟨W1, hW1⟩ : ∃ W1, W1 = wr.alloc (.cells (Array.replicate k Value.nilIface) 20) := ⟨_, rfl⟩
            rw [← hW1] at hmk
            have e0 := (show W1.heap[B]? = wr.heap[B]? from by rw [hW1]; exact heap_alloc_ne (by have := hsa.out; omega)).trans h0a.out
            have e1 := (show W1.heap[B + 1]? = wr.heap[B + 1]? from by rw [hW1]; exact heap_alloc_ne (by have := hsa.out; omega)).trans h1a.out
            have e2 : ∀ t, t < j + 1 → W1.heap[B + 2 + t]? = some (.cells ((List.range k).map fun _ => Value.nilIface).toArray 20 (0, 0)) := by
              intro t ht
              rw [hW1]
              by_cases e : t = j
              · subst e
                have := heap_alloc_at wr (.cells (Array.replicate k Value.nilIface) 20)
                rw [hsa.out] at this
                rw [this]
                rw [rangeC]; simp
              · exact (heap_alloc_ne (by have := hsa.out; omega)).trans (hra.out t (by omega))
            have e3 : W1.heap.size = B + 2 + (j + 1) := by rw [hW1]; show (Array.push _ _).size = _; rw [Array.size_push, hsa.out]; omega
            have e4 : Below B w W1 := by rw [hW1]; exact hb.alloc (by have := hsa.out; omega) _
            have c0 : W1.cell? ⟨B, j, none⟩ = some (Value.slice none 0 0) := cell_of_block e0 (getK _ j q (rangeL _ _) _ hlt2)
            have f0 : W1.frozen? ⟨B, j, none⟩ = false := free_of_block e0
            have n0 := heap_setCell_at (i := j) e0 (slV (B + 2 + j) k)
            rw [stepK _ j q (rangeL _ _) _ _ hlt2, ← rangeS] at n0
            have n1 := (heap_setCell_ne (w := W1) (b := B) (i := j) (k := B + 1) (by omega) (slV (B + 2 + j) k)).trans e1
            have c1 : (W1.setCell ⟨B, j, none⟩ (slV (B + 2 + j) k)).cell? ⟨B + 1, j, none⟩ = some Value.nilIface := cell_of_block n1 (getK _ j q (rangeL _ _) _ hlt2)
            have f1 : (W1.setCell ⟨B, j, none⟩ (slV (B + 2 + j) k)).frozen? ⟨B + 1, j, none⟩ = false := free_of_block n1
            have n2 := heap_setCell_at (i := j) n1 (ifS (slV (B + 2 + j) k))
            rw [stepK _ j q (rangeL _ _) _ _ hlt2, ← rangeS (fun t => ifS (slV (B + 2 + t) k))] at n2
            have n3 := (heap_setCell_ne (w := W1.setCell ⟨B, j, none⟩ (slV (B + 2 + j) k)) (b := B + 1) (i := j) (k := B) (by omega) (ifS (slV (B + 2 + j) k))).trans n0
            have n4 : ∀ t, t < j + 1 → ((W1.setCell ⟨B, j, none⟩ (slV (B + 2 + j) k)).setCell ⟨B + 1, j, none⟩ (ifS (slV (B + 2 + j) k))).heap[B + 2 + t]? = some (.cells ((List.range k).map fun _ => Value.nilIface).toArray 20 (0, 0)) := fun t ht =>
              ((heap_setCell_ne (by omega) _).trans (heap_setCell_ne (by omega) _)).trans (e2 t ht)
            have n5 : ((W1.setCell ⟨B, j, none⟩ (slV (B + 2 + j) k)).setCell ⟨B + 1, j, none⟩ (ifS (slV (B + 2 + j) k))).heap.size = B + 2 + (j + 1) := by simp [World.setCell, e3]
            have n6 := (e4.setCell (p := ⟨B, j, none⟩) (Nat.le_refl _) (slV (B + 2 + j) k)).setCell (p := ⟨B + 1, j, none⟩) (Nat.le_succ _) (ifS (slV (B + 2 + j) k))
            have N2 := Lib.hid n2
            have N3 := Lib.hid n3
            have N4 := Lib.hid n4
            have N5 := Lib.hid n5
            unfold slV at c1 f1
            unfold slV ifS at n6
            clear n0 n1 n2 n3 n4 n5 e0 e1 e2 e3 e4 hW1 h0a h1a hra hsa
            go_wp2_with fail
            go_roundw
            case rel => exact ⟨j + 1, by omega, by go_num, N3, N2, N4, N5, n6⟩
            case measure => simp [intOf]; omega
          · obtain rfl : j = q := by omega
            clear hbW
            have g0 : wr.heap[B]? = some (.cells ((List.range j).map (fun t => slV (B + 2 + t) k)).toArray 34 (0, 0)) := by have := h0a.out; rw [Nat.sub_self] at this; simpa using this
            have g1 : wr.heap[B + 1]? = some (.cells ((List.range j).map (fun t => ifS (slV (B + 2 + t) k))).toArray 20 (0, 0)) := by have := h1a.out; rw [Nat.sub_self] at this; simpa using this
            have g2 : GRD (B + 2) j k (FF is 0 0) wr := fun t ht => by
              rw [hra.out t ht]
              congr 3
              apply List.map_congr_left
              intro x _
              unfold FF
              rw [if_neg (by omega)]
            have G0 := Lib.hid g0
            have G1 := Lib.hid g1
            have G2 := Lib.hid g2
            clear g0 g1 g2 h0a h1a hra hsa HMK HW0 HW1 HWs
            obtain ⟨W2, hW2⟩ : ∃ W2, W2 = wr := ⟨_, rfl⟩
            rw [← hW2] at G0 G1 G2 hb ⊢
            have h2 := ta_sl1
            clear hW2
            go_wp2_with fail
            go_loopw [84] (L3 is j k B w W2) (fun i _ => k - (intOf i).toNat)
            case atStart => exact ⟨0, Nat.zero_le _, rfl, G2, Lib.hid rfl, Lib.hid rfl, hb⟩
            case round =>
              obtain ⟨i, hi, rfl, hg, hq0, hq1, hbr⟩ := hrel
              clear hb
              by_cases hlt3 : i < k
              · have hii : i < is.length := by rw [HN.out]; exact hlt3
                obtain ⟨b, off, ha, ai, ci, hc, hs⟩ := H.out.row (i := i) (by rw [rowsI_len]; exact hii)
                subst ha
                rw [rowsI_at] at hc hs
                rw [List.length_map] at hc hs
                have hmq : is[i].length ≤ j := by
                  rw [HQ.out, ← mx_all]
                  exact mx_ge is is.length i (Nat.le_refl _) hii
                have hbl := World.block_lt_of_cell? w _ hc
                have ck := (hbr.cell (p := ⟨b, off + i, none⟩) (by rw [← HB.out]; exact hbl)).trans hc
                obtain ⟨m, hm⟩ : ∃ m, is[i].length = m := ⟨_, rfl⟩
                rw [hm] at ck hs hmq
                have HS := Lib.hid hs
                have HM := Lib.hid hm
                unfold ifS at ck
                clear hc hs hm hlt2
                obtain ⟨Wo, hWo⟩ : ∃ Wo, Wo = wr := ⟨_, rfl⟩
                rw [← hWo] at hg hq0 hq1 hbr ck ⊢
                clear hWo
                go_wp2_with fail
                go_loopw [92] (L4 is i m j k B w W2) (fun i _ => m - (intOf i).toNat)
                case atStart => exact ⟨0, Nat.zero_le _, rfl, hg, hq0, hq1, hbr⟩
                case round =>
                  obtain ⟨jj, hjj, rfl, kg, k0, k1, kb⟩ := hrel
                  by_cases hlt4 : jj < m
                  · have hji : jj < is[i].length := by rw [HM.out]; exact hlt4
                    have hjq : jj < j := by omega
                    obtain ⟨rb, ro, hra, hrc⟩ := HS.out.at (k := jj) (by rw [List.length_map]; exact hji)
                    rw [List.getElem_map, ← cell_is is i jj hii hji] at hrc
                    subst hra
                    have hrl := World.block_lt_of_cell? w _ hrc
                    have cr := (kb.cell (p := ⟨rb, ro + jj, none⟩) (by rw [← HB.out]; exact hrl)).trans hrc
                    have c0 : wr.cell? ⟨B, jj, none⟩ = some (slV (B + 2 + jj) k) := cell_of_block (k0.out.trans G0.out) (getRange (fun t => slV (B + 2 + t) k) j jj hjq)
                    have ct : wr.cell? ⟨B + 2 + jj, i, none⟩ = some (FF is i jj jj i) := cell_of_block (kg.out jj hjq) (getRange _ k i hlt3)
                    have ft : wr.frozen? ⟨B + 2 + jj, i, none⟩ = false := free_of_block (kg.out jj hjq)
                    have n0 := (kg.out.upd jj i hjq (cellT is jj i)).congr fun a _ t _ => ff_step is i jj a t
                    have n1 := (heap_setCell_ne (w := wr) (b := B + 2 + jj) (i := i) (k := B) (by omega) (cellT is jj i)).trans k0.out
                    have n2 := (heap_setCell_ne (w := wr) (b := B + 2 + jj) (i := i) (k := B + 1) (by omega) (cellT is jj i)).trans k1.out
                    have n3 := kb.setCell (p := ⟨B + 2 + jj, i, none⟩) (by show B ≤ B + 2 + jj; omega) (cellT is jj i)
                    have hif : cellT is jj i = .iface 3 (.int .i64 is[i][jj]) := cell_is is i jj hii hji
                    have hnil : FF is i jj jj i = .nilIface := by unfold FF; rw [if_neg (by omega)]
                    rw [hnil] at ct
                    have N0 := Lib.hid n0
                    have N1 := Lib.hid n1
                    have N2 := Lib.hid n2
                    rw [hif] at cr N0 N1 N2 n3
                    obtain ⟨xv, hxv⟩ : ∃ xv, is[i][jj] = xv := ⟨_, rfl⟩
                    rw [hxv] at cr N0 N1 N2 n3
                    unfold slV at c0
                    clear n0 n1 n2 hrc hif hnil hxv kg k0 k1 kb hbr
                    go_wp2_with fail
                    go_roundw
                    case rel => exact ⟨jj + 1, by omega, by go_num, N0, N1, N2, n3⟩
                    case measure => simp [intOf]; omega
                  · obtain rfl : jj = m := by omega
                    have n0 : GRD (B + 2) j k (FF is (i + 1) 0) wr := kg.out.congr fun a _ t _ => by rw [← HM.out]; exact ff_row is i hii a t
                    have N0 := Lib.hid n0
                    clear n0 kg hbr
                    go_wp2_with fail
                    go_roundw
                    case rel => exact ⟨i + 1, by omega, by go_num, N0, k0, k1, kb⟩
                    case measure => simp [intOf]; omega
              · obtain rfl : i = k := by omega
                have hF : GRD (B + 2) j i (fun a t => cellT is a t) wr := hg.out.congr fun a _ t ht => by
                  have e := ff_all is a t (by rw [HN.out]; exact ht)
                  rw [HN.out] at e
                  exact e
                have HF := Lib.hid hF
                clear hF hg
                go_wp2_with fail
                go_ret
                refine ⟨_, rfl, ⟨(List.range j).map (fun t => slV (B + 2 + t) i), ?_, by simp [tr, HQ.out], fun t ht ht2 => ?_⟩, by rw [HB.out]; exact hbr⟩
                · have := Sl.made (l := ((List.range j).map (fun t => slV (B + 2 + t) i)).map ifS) (t := 20) ((hq1.out.trans G1.out).trans (by simp)) (by simp; unfold maxLen; omega)
                  simpa using this
                · have htj : t < j := by simpa using ht
                  have e1 : ((List.range j).map (fun t => slV (B + 2 + t) i))[t] = slV (B + 2 + t) i := by simp
                  have e2 : (tr is)[t] = (List.range i).map fun x => cellT is t x := by simp [tr, HN.out]
                  rw [e1, e2]
                  have := Sl.made (HF.out t htj) (by simp; unfold maxLen; omega)
                  simpa [slV] using this
  · obtain rfl : is = [] := by
      cases is with
      | nil => rfl
      | cons x l => simp at h0
    go_enter Try.func12, Try.ntmps12
    go_wp2_with fail
    go_ret
    refine ⟨_, rfl, ⟨[], ⟨_, 0, rfl, Nat.le_refl _, Nat.zero_le _, (fun h => by cases h), .inl rfl⟩, rfl, fun i h => by simp at h⟩, (Below.refl _ _).alloc (Nat.le_refl _) _⟩
end Go.Proofs.Ytnfgegibplogeaa
