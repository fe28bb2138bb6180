/- Slices of slices in memory; the law's guards; copies. -/
import Derived.Test.YtnfgegibplogeaaSlKit
import Derived.Deep.Matrix
namespace Go.Proofs.Ytnfgegibplogeaa
open Go.RowKit
set_option linter.unusedVariables false

def iV (x : Int) : Value := .int .i64 x
def mV (is : List (List Int)) : List (List Value) := is.map (·.map iV)
theorem mV_len (is : List (List Int)) : (mV is).length = is.length := by simp [mV]
/-- The slice v of slices holds these rows. -/
def Rows (v : Value) (rs : List (List Value)) (w : World) : Prop :=
  ∃ vs : List Value, Sl v vs w ∧ vs.length = rs.length ∧ ∀ i (h : i < vs.length) (h2 : i < rs.length), Sl vs[i] rs[i] w
theorem Rows.below {v : Value} {rs : List (List Value)} {w w' : World} (h : Rows v rs w) {n : Nat} (hb : Below n w w') (hn : w.heap.size ≤ n) : Rows v rs w' := by
  obtain ⟨vs, h1, h2, h3⟩ := h
  exact ⟨vs, h1.below hb hn, h2, fun i h h2 => (h3 i h h2).below hb hn⟩
theorem Rows.len {v : Value} {rs : List (List Value)} {w : World} (h : Rows v rs w) : rs.length ≤ maxLen := by
  obtain ⟨vs, h1, h2, _⟩ := h
  rw [← h2]; exact h1.len
theorem Rows.shape {v : Value} {rs : List (List Value)} {w : World} (h : Rows v rs w) : ∃ a cap, v = .slice a rs.length cap := by
  obtain ⟨vs, ⟨a, cap, hv, _⟩, h2, _⟩ := h
  exact ⟨a, cap, by rw [hv, h2]⟩
theorem Sl.at {a : Option Addr} {n cap : Nat} {l : List Value} {w : World} (h : Sl (.slice a n cap) l w) {k : Nat} (hk : k < l.length) : ∃ b off, a = some ⟨b, off, none⟩ ∧ w.cell? ⟨b, off + k, none⟩ = some l[k] := by
  obtain ⟨a', cap', hv, _, _, _, h4⟩ := h
  cases hv
  rcases h4 with h0 | ⟨b, off, ha, hc⟩
  · rw [h0] at hk; simp at hk
  · exact ⟨b, off, ha, hc k hk⟩
theorem Sl.shape {v : Value} {l : List Value} {w : World} (h : Sl v l w) : ∃ a cap, v = .slice a l.length cap := by
  obtain ⟨a, cap, hv, _⟩ := h
  exact ⟨a, cap, hv⟩
theorem Rows.row {a : Option Addr} {n cap : Nat} {rs : List (List Value)} {w : World} (h : Rows (.slice a n cap) rs w) {i : Nat} (hi : i < rs.length) :
    ∃ b off, a = some ⟨b, off, none⟩ ∧ ∃ ai ci, w.cell? ⟨b, off + i, none⟩ = some (.slice ai rs[i].length ci) ∧ Sl (.slice ai rs[i].length ci) rs[i] w := by
  obtain ⟨vs, h1, h2, h3⟩ := h
  have hv : i < vs.length := by omega
  obtain ⟨b, off, ha, hc⟩ := h1.at hv
  have h4 := h3 i hv hi
  obtain ⟨ai, ci, he⟩ := h4.shape
  rw [he] at hc h4
  exact ⟨b, off, ha, ai, ci, hc, h4⟩
section
open Go.ChangeShapes Go.WideShapes Go.Deep
variable {H : Type} {enc : TypeId × Value → H} {w : World} {v : Value} {d : DataW H} {p : List MemPlace} {T e q : TypeId} {r : Reach} {b0 : Nat}
set_option maxRecDepth 100000 in
theorem open_mat (hT : Try.prog.underlying T = some (.slice e)) (he : Try.prog.underlying e = some (.slice q)) (hq : Try.prog.underlying q = some (.int .i64)) (ce : Try.prog.cellsOf e = 1) (cq : Try.prog.cellsOf q = 1) (hv : Value.okWide Try.prog w r b0 T v) (h : DataW.Trod enc Try.prog w 0 (fun _ => true) true T v d p) :
    ∃ is : List (List Int), Rows v (mV is) w := by
  obtain ⟨a, len, cap, rfl⟩ := okWide_slice hT hv
  obtain ⟨fuel, hf⟩ := h
  rcases open_int_rows hT he hq ce cq hf with ⟨hcs, hx⟩ | ⟨a', len', cap', A, L, C, Z, hcs, hb, hl, hm, hx, hcell⟩
  · simp [Value.cells] at hcs
    obtain ⟨rfl, rfl, rfl⟩ := hcs
    exact ⟨[], [], Sl.nil w, rfl, fun i h => by simp at h⟩
  · simp [Value.cells] at hcs
    obtain ⟨rfl, rfl, rfl⟩ := hcs
    refine ⟨(List.range len).map fun i => (Z i).take (L i), (List.range len).map fun i => .slice (A i) (L i) (C i), Sl.of (by simp) hl hm (fun i hi => ?_), by simp [mV], fun i hi h2 => ?_⟩
    · simp at hi
      rw [(hcell i (by omega)).1]; simp
    · simp at hi
      obtain ⟨h1, h3, h4, h5, h6, h7, h8⟩ := hcell i (by omega)
      have e1 : (mV ((List.range len).map fun i => (Z i).take (L i)))[i] = ((Z i).take (L i)).map iV := by simp [mV]
      have e2 : ((List.range len).map fun i => Value.slice (A i) (L i) (C i))[i] = .slice (A i) (L i) (C i) := by simp
      rw [e1, e2]
      have hlen : (((Z i).take (L i)).map iV).length = L i := by simp; omega
      cases hA : A i with
      | none =>
        have hC := h7 hA
        have hL : L i = 0 := by omega
        rw [hC, hL]
        exact Sl.nil w
      | some x =>
        refine Sl.of hlen h3 h4 (fun j hj => ?_)
        rw [hlen] at hj
        rw [(h8 x hA).2 j (by omega)]
        simp [iV, List.getElem?_eq_getElem (show j < (Z i).length by omega)]
end

def AnyB (w : World) (e : Ending) (w' : World) : Prop := ∃ b : Bool, e = .returned (.bool b) ∧ w = w'
set_option maxHeartbeats 1000000 in
set_option maxRecDepth 100000 in
theorem zb_FnTransposeModel (v : Value) (rs : List (List Value)) (w : World) (h : Rows v rs w) : Calls Try.prog 9 #[v] w (AnyB w) := by
  have hl := h.len
  unfold maxLen at hl
  obtain ⟨a, cap, ev⟩ := h.shape
  subst ev
  have H := Lib.hid h
  clear h
  by_cases hn : rs.length ≤ 1048576
  · go_enter Try.func9, Try.ntmps9
    go_wp2_with fail
    go_loop [3, 4] (fun z i => ∃ k q : Nat, k ≤ rs.length ∧ i = .int .i64 k ∧ z = .int .i64 q ∧ q ≤ 1048576) (fun _ i => rs.length - (intOf i).toNat)
    case atStart => exact ⟨0, rs.length, Nat.zero_le _, rfl, by first | rfl | go_num, hn⟩
    case round =>
      obtain ⟨k, q, hk, rfl, rfl, hq⟩ := hrel
      by_cases hlt : k < rs.length
      · obtain ⟨b, off, ha, ai, ci, hc, hs⟩ := H.out.row hlt
        subst ha
        have hm := hs.len
        unfold maxLen at hm
        obtain ⟨m, hm2⟩ : ∃ m, m = rs[k].length := ⟨_, rfl⟩
        rw [← hm2] at hc hm
        clear hs hm2
        by_cases h1 : m ≤ 1048576
        · by_cases h2 : q + m ≤ 1048576
          · go_wp2_with fail
            go_round
            case rel => exact ⟨k + 1, q + m, by omega, by go_num, by go_num, h2⟩
            case measure => simp [intOf]; omega
          · go_wp2_with fail
            go_ret
            exact ⟨_, rfl, rfl⟩
        · go_wp2_with fail
          go_ret
          exact ⟨_, rfl, rfl⟩
      · obtain rfl : k = rs.length := by omega
        go_wp2_with fail
        go_ret
        exact ⟨_, rfl, rfl⟩
  · go_enter Try.func9, Try.ntmps9
    go_wp2_with fail
    go_ret
    exact ⟨_, rfl, rfl⟩
set_option maxHeartbeats 1000000 in
set_option maxRecDepth 100000 in
theorem zb_FnTransposeTwiceIsIdentity (v : Value) (rs : List (List Value)) (w : World) (h : Rows v rs w) : Calls Try.prog 5 #[v] w (AnyB w) := by
  have hl := h.len
  unfold maxLen at hl
  obtain ⟨a, cap, ev⟩ := h.shape
  subst ev
  have H := Lib.hid h
  clear h
  by_cases hn : rs.length ≤ 1048576
  · go_enter Try.func5, Try.ntmps5
    go_wp2_with fail
    go_loop [3, 4] (fun z i => ∃ k q : Nat, k ≤ rs.length ∧ i = .int .i64 k ∧ z = .int .i64 q ∧ q ≤ 1048576) (fun _ i => rs.length - (intOf i).toNat)
    case atStart => exact ⟨0, rs.length, Nat.zero_le _, rfl, by first | rfl | go_num, hn⟩
    case round =>
      obtain ⟨k, q, hk, rfl, rfl, hq⟩ := hrel
      by_cases hlt : k < rs.length
      · obtain ⟨b, off, ha, ai, ci, hc, hs⟩ := H.out.row hlt
        subst ha
        have hm := hs.len
        unfold maxLen at hm
        obtain ⟨m, hm2⟩ : ∃ m, m = rs[k].length := ⟨_, rfl⟩
        rw [← hm2] at hc hm
        clear hs hm2
        by_cases h1 : m ≤ 1048576
        · by_cases h2 : q + m ≤ 1048576
          · go_wp2_with fail
            go_round
            case rel => exact ⟨k + 1, q + m, by omega, by go_num, by go_num, h2⟩
            case measure => simp [intOf]; omega
          · go_wp2_with fail
            go_ret
            exact ⟨_, rfl, rfl⟩
        · go_wp2_with fail
          go_ret
          exact ⟨_, rfl, rfl⟩
      · obtain rfl : k = rs.length := by omega
        go_wp2_with fail
        go_ret
        exact ⟨_, rfl, rfl⟩
  · go_enter Try.func5, Try.ntmps5
    go_wp2_with fail
    go_ret
    exact ⟨_, rfl, rfl⟩
/-- What matrixBytes tells. -/
def MB (rs : List (List Value)) (w : World) (e : Ending) (w' : World) : Prop :=
  ∃ t : Nat, e = .returned (.int .i64 t) ∧ w = w' ∧ t ≤ 1073741824 ∧ (t ≤ 1048576 → rs.length ≤ 65536 ∧ ∀ i (h : i < rs.length), rs[i].length ≤ 131072)
set_option maxHeartbeats 1000000 in
set_option maxRecDepth 100000 in
theorem mb_any (v : Value) (rs : List (List Value)) (w : World) (h : Rows v rs w) : Calls Try.prog 10 #[v] w (MB rs w) := by
  have hl := h.len
  unfold maxLen at hl
  obtain ⟨a, cap, ev⟩ := h.shape
  subst ev
  have H := Lib.hid h
  clear h
  by_cases hn : rs.length ≤ 65536
  · go_enter Try.func10, Try.ntmps10
    go_wp2_with fail
    go_loop [3, 4] (fun z i => ∃ k q : Nat, k ≤ rs.length ∧ i = .int .i64 k ∧ z = .int .i64 q ∧ q ≤ 4000000 ∧ Hid (∀ i (h : i < rs.length), i < k → rs[i].length ≤ 131072)) (fun _ i => rs.length - (intOf i).toNat)
    case atStart => exact ⟨0, 24 * rs.length, Nat.zero_le _, rfl, by go_num, by omega, Lib.hid fun i h h2 => by omega⟩
    case round =>
      obtain ⟨k, q, hk, rfl, rfl, hq, hA⟩ := hrel
      by_cases hlt : k < rs.length
      · obtain ⟨b, off, ha, ai, ci, hc, hs⟩ := H.out.row hlt
        subst ha
        have hm := hs.len
        unfold maxLen at hm
        have hA2 : Hid (rs[k].length ≤ 131072 → ∀ i (h : i < rs.length), i < k + 1 → rs[i].length ≤ 131072) := Lib.hid fun hh i h hi => by
          by_cases e : i = k
          · subst e; exact hh
          · exact hA.out i h (by omega)
        obtain ⟨m, hm2⟩ : ∃ m, rs[k].length = m := ⟨_, rfl⟩
        rw [hm2] at hc hm hA2
        clear hs hm2 hA
        by_cases h1 : m ≤ 131072
        · have hA3 := Lib.hid (hA2.out h1)
          clear hA2
          by_cases h2 : q + 8 * m ≤ 1048576
          · go_wp2_with fail
            go_round
            case rel => exact ⟨k + 1, q + 8 * m, by omega, by go_num, by go_num, by omega, hA3⟩
            case measure => simp [intOf]; omega
          · go_wp2_with fail
            go_ret
            exact ⟨1073741824, rfl, rfl, by omega, fun h => by omega⟩
        · clear hA2
          go_wp2_with fail
          go_ret
          exact ⟨1073741824, rfl, rfl, by omega, fun h => by omega⟩
      · obtain rfl : k = rs.length := by omega
        have hA2 := Lib.hid hA.out
        clear hA
        go_wp2_with fail
        go_ret
        exact ⟨q, rfl, rfl, by omega, fun _ => ⟨hn, fun i h => hA2.out i h h⟩⟩
  · go_enter Try.func10, Try.ntmps10
    go_wp2_with fail
    go_ret
    exact ⟨1073741824, rfl, rfl, by omega, fun h => by omega⟩
/-- The longest row. -/
def mx {α : Type} (rs : List (List α)) : Nat := rs.foldl (fun m r => max m r.length) 0
theorem mx_snoc {α : Type} (rs : List (List α)) (k : Nat) (h : k < rs.length) : mx (rs.take (k + 1)) = max (mx (rs.take k)) rs[k].length := by
  unfold mx; rw [List.take_succ_eq_append_getElem h, List.foldl_append]; rfl
theorem mx_bound {α : Type} (rs : List (List α)) (B : Nat) (k : Nat) (hk : k ≤ rs.length) (h : ∀ i (h : i < rs.length), rs[i].length ≤ B) : mx (rs.take k) ≤ B := by
  induction k with
  | zero => exact Nat.zero_le _
  | succ k ih =>
    rw [mx_snoc rs k (by omega)]
    have := ih (by omega)
    have := h k (by omega)
    omega
theorem mx_ge {α : Type} (rs : List (List α)) (k i : Nat) (hk : k ≤ rs.length) (hi : i < k) : (rs[i]'(by omega)).length ≤ mx (rs.take k) := by
  induction k with
  | zero => omega
  | succ k ih =>
    rw [mx_snoc rs k (by omega)]
    by_cases e : i = k
    · subst e; omega
    · have := ih (by omega) (by omega); omega
theorem mx_all {α : Type} (rs : List (List α)) : mx (rs.take rs.length) = mx rs := by rw [List.take_length]
theorem div_cast (n q : Nat) (h : (n : Int) ≤ 1048576 / (q : Int)) : n ≤ 1048576 / q := by
  have e : (1048576 : Int) / (q : Int) = ((1048576 / q : Nat) : Int) := (Int.natCast_ediv 1048576 q).symm
  rw [e] at h
  exact Int.ofNat_le.1 h
/-- What transposeSize tells. -/
def Fits (rs : List (List Value)) : Prop := rs.length ≤ 65536 ∧ (∀ i (h : i < rs.length), rs[i].length ≤ 131072) ∧ (0 < mx rs → rs.length ≤ 1048576 / mx rs)
def TS (rs : List (List Value)) (w : World) (e : Ending) (w' : World) : Prop :=
  ∃ (l : Nat) (b : Bool), e = .returned (.tuple #[.int .i64 l, .bool b]) ∧ w = w' ∧ (b = true → l = mx rs ∧ Fits rs)
set_option maxHeartbeats 1000000 in
set_option maxRecDepth 100000 in
theorem ts_any (v : Value) (rs : List (List Value)) (w : World) (h : Rows v rs w) : Calls Try.prog 6 #[v] w (TS rs w) := by
  have hl := h.len
  unfold maxLen at hl
  have HM := Lib.hid (mb_any v rs w h)
  obtain ⟨a, cap, ev⟩ := h.shape
  subst ev
  have H := Lib.hid h
  clear h
  go_enter Try.func6, Try.ntmps6
  go_wp2_with fail
  refine HM.out.mono ?_
  rintro e w' ⟨t, rfl, rfl, ht, hF⟩
  by_cases h1 : t ≤ 1048576
  · obtain ⟨hn, hA⟩ := hF h1
    have HA := Lib.hid hA
    clear hF hA
    go_wp2_with fail
    go_loop [4, 5] (fun z i => ∃ k : Nat, k ≤ rs.length ∧ i = .int .i64 k ∧ ∃ q : Nat, z = .int .i64 q ∧ Hid (q = mx (rs.take k)) ∧ q ≤ 131072) (fun _ i => rs.length - (intOf i).toNat)
    case atStart => exact ⟨0, Nat.zero_le _, rfl, 0, rfl, rfl, by omega⟩
    case round =>
      obtain ⟨k, hk, rfl, q, rfl, hq, hq2⟩ := hrel
      by_cases hlt : k < rs.length
      · obtain ⟨b, off, ha, ai, ci, hc, hs⟩ := H.out.row hlt
        subst ha
        have hm := HA.out k hlt
        have HX : Hid (mx (rs.take (k + 1)) = max q rs[k].length) := Lib.hid (by rw [mx_snoc rs k hlt, ← hq.out])
        obtain ⟨m, hm2⟩ : ∃ m, rs[k].length = m := ⟨_, rfl⟩
        rw [hm2] at hc hm HX
        clear hs hm2 hq
        by_cases h2 : q < m
        · go_wp2_with fail
          go_round
          case rel => exact ⟨k + 1, by omega, by go_num, m, rfl, Lib.hid (by rw [HX.out]; omega), by omega⟩
          case measure => simp [intOf]; omega
        · go_wp2_with fail
          go_round
          case rel => exact ⟨k + 1, by omega, by go_num, q, rfl, Lib.hid (by rw [HX.out]; omega), by omega⟩
          case measure => simp [intOf]; omega
      · obtain rfl : k = rs.length := by omega
        have HQ : Hid (q = mx rs) := Lib.hid (by rw [hq.out, mx_all])
        clear hq
        by_cases h0 : 0 < q
        · go_wp2_with fail
          · go_ret2
            exact ⟨0, false, rfl, rfl, fun h => by cases h⟩
          · have hx : (rs.length : Int) ≤ 1048576 / (q : Int) := by assumption
            have HX := Lib.hid hx
            clear hx
            go_ret2
            exact ⟨q, true, rfl, rfl, fun _ => ⟨HQ.out, hn, HA.out, fun _ => by rw [← HQ.out]; exact div_cast _ _ HX.out⟩⟩
        · go_wp2_with fail
          go_ret2
          exact ⟨q, true, rfl, rfl, fun _ => ⟨HQ.out, hn, HA.out, fun h => by rw [← HQ.out] at h; omega⟩⟩
  · clear hF
    go_wp2_with fail
    go_ret2
    exact ⟨0, false, rfl, rfl, fun h => by cases h⟩
end Go.Proofs.Ytnfgegibplogeaa
