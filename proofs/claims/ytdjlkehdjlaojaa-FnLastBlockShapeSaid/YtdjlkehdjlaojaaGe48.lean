/- What the law reads of the compiler. -/
import Derived.Test.YtdjlkehdjlaojaaCl48
import Derived.Stop.Asserts
namespace Go.Proofs.Ytdjlkehdjlaojaa
open Go.RowKit
set_option linter.unusedVariables false
set_option linter.unusedSimpArgs false

theorem len_any (cp n cap : Nat) (a : Option Addr) (w : World) (h5 : w.cell? ⟨cp, 5, none⟩ = some (.slice a n cap)) : Calls Try.prog 9 #[ptr cp] w fun e w' => e = .returned (.int .i64 n) ∧ w' = w := by
  unfold ptr
  go_enter Try.func9, Try.ntmps9
  go_wp2_with fail
  go_ret
  exact ⟨rfl, rfl⟩
theorem count_any (cp bs n cap : Nat) (a : Option Addr) (w : World) (h7 : w.cell? ⟨cp, 7, none⟩ = some (ptr bs)) (h1 : w.cell? ⟨bs, 1, none⟩ = some (.slice a n cap)) : Calls Try.prog 7 #[ptr cp] w fun e w' => e = .returned (.int .i64 n) ∧ w' = w := by
  unfold ptr at *
  go_enter Try.func7, Try.ntmps7
  go_wp2_with fail
  go_ret
  exact ⟨rfl, rfl⟩
theorem scopecnt_any (cp : Nat) (k : Int) (w : World) (h9 : w.cell? ⟨cp, 9, none⟩ = some (.int .i64 k)) : Calls Try.prog 15 #[ptr cp] w fun e w' => e = .returned (.int .i64 k) ∧ w' = w := by
  unfold ptr
  go_enter Try.func15, Try.ntmps15
  go_wp2_with fail
  go_ret
  exact ⟨rfl, rfl⟩
theorem pc_any (fp : Nat) (k : Int) (w : World) (h : w.cell? ⟨fp, 1, none⟩ = some (.int .i64 k)) : Calls Try.prog 13 #[ptr fp] w fun e w' => e = .returned (.int .i64 k) ∧ w' = w := by
  unfold ptr
  go_enter Try.func13, Try.ntmps13
  go_wp2_with fail
  go_ret
  exact ⟨rfl, rfl⟩
theorem argcnt_any (fp : Nat) (k : Int) (w : World) (h : w.cell? ⟨fp, 2, none⟩ = some (.int .i64 k)) : Calls Try.prog 14 #[ptr fp] w fun e w' => e = .returned (.int .i64 k) ∧ w' = w := by
  unfold ptr
  go_enter Try.func14, Try.ntmps14
  go_wp2_with fail
  go_ret
  exact ⟨rfl, rfl⟩
theorem ta_int (m : Int) (W : World) : Sem.run Try.prog (Instr.typeAssert (Value.iface 3 (.int .i64 m)) 20 3 true) W = .ok (.tuple #[.int .i64 m, .bool true]) W := by kernel_rfl
theorem ta_pair (x y : Int) (W : World) : Sem.run Try.prog (Instr.typeAssert (Value.iface 92 (.agg #[.int .i64 x, .int .i64 y])) 20 92 true) W = .ok (.tuple #[.agg #[.int .i64 x, .int .i64 y], .bool true]) W := by kernel_rfl
theorem ta_triple (x y z : Int) (W : World) : Sem.run Try.prog (Instr.typeAssert (Value.iface 32 (.agg #[.int .i64 x, .int .i64 y, .int .i64 z])) 20 32 true) W = .ok (.tuple #[.agg #[.int .i64 x, .int .i64 y, .int .i64 z], .bool true]) W := by kernel_rfl
theorem isNil_any (cp cg n cap i p : Nat) (w : World) (h5 : w.cell? ⟨cp, 5, none⟩ = some (.slice (some ⟨cg, 0, none⟩) n cap)) (hi : i < n) (hp : w.cell? ⟨cg, i, none⟩ = some (ptr p)) : Calls Try.prog 26 #[ptr cp, .int .i64 i] w fun e w' => e = .returned (.bool false) ∧ w' = w := by
  unfold ptr at *
  go_enter Try.func26, Try.ntmps26
  go_wp2_with fail
  go_ret
  exact ⟨rfl, rfl⟩
theorem codeOp_any (cp cg n cap i p : Nat) (w : World) (h5 : w.cell? ⟨cp, 5, none⟩ = some (.slice (some ⟨cg, 0, none⟩) n cap)) (hi : i < n) (hp : w.cell? ⟨cg, i, none⟩ = some (ptr p)) (o : Int) (ho : w.cell? ⟨p, 1, none⟩ = some (.int .i64 o)) : Calls Try.prog 27 #[ptr cp, .int .i64 i] w fun e w' => e = .returned (.int .i64 o) ∧ w' = w := by
  unfold ptr at *
  go_enter Try.func27, Try.ntmps27
  go_wp2_with fail
  go_ret
  exact ⟨rfl, rfl⟩
theorem zzOp_any (cp cg n cap i p : Nat) (w : World) (h5 : w.cell? ⟨cp, 5, none⟩ = some (.slice (some ⟨cg, 0, none⟩) n cap)) (hi : i < n) (hp : w.cell? ⟨cg, i, none⟩ = some (ptr p)) (o : Int) (hn : n ≤ 1000000) (ho : w.cell? ⟨p, 1, none⟩ = some (.int .i64 o)) : Calls Try.prog 10 #[ptr cp, .int .i64 i] w fun e w' => e = .returned (.int .i64 o) ∧ w' = w := by
  have H1 := Lib.hid (len_any cp n cap _ w h5)
  have H2 := Lib.hid (isNil_any cp cg n cap i p w h5 hi hp)
  have H3 := Lib.hid (codeOp_any cp cg n cap i p w h5 hi hp o ho)
  have d1 : decide ((i : Int) < 0) = false := by first | (simp; done) | (simp; omega)
  have d2 : decide ((n : Int) ≤ (i : Int)) = false := by simp; omega
  have d3 : decide (n ≤ i) = false := by simp; omega
  clear h5 hp ho
  unfold ptr at *
  go_enter Try.func10, Try.ntmps10
  go_wp2_with fail
  refine H1.out.mono ?_
  rintro e w1 ⟨rfl, h⟩
  obtain rfl : w = w1 := h.symm
  go_wp2_with fail
  refine H2.out.mono ?_
  rintro e w1 ⟨rfl, h⟩
  obtain rfl : w = w1 := h.symm
  go_wp2_with fail
  refine H3.out.mono ?_
  rintro e w1 ⟨rfl, h⟩
  obtain rfl : w = w1 := h.symm
  go_wp2_with fail
  go_ret
  exact ⟨rfl, rfl⟩
set_option maxRecDepth 100000 in
theorem codeInt_any (cp cg n cap i p : Nat) (w : World) (h5 : w.cell? ⟨cp, 5, none⟩ = some (.slice (some ⟨cg, 0, none⟩) n cap)) (hi : i < n) (hp : w.cell? ⟨cg, i, none⟩ = some (ptr p)) (m : Int) (hv : w.cell? ⟨p, 0, none⟩ = some (.iface 3 (.int .i64 m))) : Calls Try.prog 11 #[ptr cp, .int .i64 i] w fun e w' => e = .returned (.tuple #[.int .i64 m, .bool true]) ∧ w' = w := by
  have hta := ta_int m
  unfold ptr at *
  go_enter Try.func11, Try.ntmps11
  go_wp2_with fail
  go_ret2
  exact ⟨rfl, rfl⟩
set_option maxRecDepth 100000 in
theorem codePair_any (cp cg n cap i p : Nat) (w : World) (h5 : w.cell? ⟨cp, 5, none⟩ = some (.slice (some ⟨cg, 0, none⟩) n cap)) (hi : i < n) (hp : w.cell? ⟨cg, i, none⟩ = some (ptr p)) (x y : Int) (hv : w.cell? ⟨p, 0, none⟩ = some (.iface 92 (.agg #[.int .i64 x, .int .i64 y]))) : Calls Try.prog 29 #[ptr cp, .int .i64 i] w fun e w' => e = .returned (.tuple #[.agg #[.int .i64 x, .int .i64 y], .bool true]) ∧ Below w.heap.size w w' := by
  have hbA : Below w.heap.size w (w.alloc (.cells #[.int .i64 0, .int .i64 0] 92)) := (Below.refl _ _).alloc (Nat.le_refl _) _
  have k5 := cell_stay hbA h5
  have kp := cell_stay hbA hp
  have kv := cell_stay hbA hv
  have hta := ta_pair x y
  have HB := Lib.hid hbA
  clear h5 hp hv hbA
  unfold ptr at *
  go_enter Try.func29, Try.ntmps29
  go_wp2_with fail
  (try simp only [Exit.inBlock, Exit.then])
  refine bodyPost_ret (by simp [results, Try.results29, go_sem]; try rfl) rfl ?_
  exact ⟨rfl, ((Below.refl _ _).alloc (Nat.le_refl _) _).alloc (by rw [size_alloc]; omega) _⟩
set_option maxRecDepth 100000 in
theorem codeTriple_any (cp cg n cap i p : Nat) (w : World) (h5 : w.cell? ⟨cp, 5, none⟩ = some (.slice (some ⟨cg, 0, none⟩) n cap)) (hi : i < n) (hp : w.cell? ⟨cg, i, none⟩ = some (ptr p)) (x y z : Int) (hv : w.cell? ⟨p, 0, none⟩ = some (.iface 32 (.agg #[.int .i64 x, .int .i64 y, .int .i64 z]))) : Calls Try.prog 16 #[ptr cp, .int .i64 i] w fun e w' => e = .returned (.tuple #[.agg #[.int .i64 x, .int .i64 y, .int .i64 z], .bool true]) ∧ Below w.heap.size w w' := by
  have hbA : Below w.heap.size w (w.alloc (.cells #[.int .i64 0, .int .i64 0, .int .i64 0] 32)) := (Below.refl _ _).alloc (Nat.le_refl _) _
  have k5 := cell_stay hbA h5
  have kp := cell_stay hbA hp
  have kv := cell_stay hbA hv
  have hta := ta_triple x y z
  have HB := Lib.hid hbA
  clear h5 hp hv hbA
  unfold ptr at *
  go_enter Try.func16, Try.ntmps16
  go_wp2_with fail
  (try simp only [Exit.inBlock, Exit.then])
  refine bodyPost_ret (by simp [results, Try.results16, go_sem]; try rfl) rfl ?_
  exact ⟨rfl, ((Below.refl _ _).alloc (Nat.le_refl _) _).alloc (by rw [size_alloc]; omega) _⟩
theorem pairIs_any (cp cg n cap i p : Nat) (w : World) (h5 : w.cell? ⟨cp, 5, none⟩ = some (.slice (some ⟨cg, 0, none⟩) n cap)) (hi : i < n) (hp : w.cell? ⟨cg, i, none⟩ = some (ptr p)) (x y o : Int) (hn : n ≤ 1000000) (ho : w.cell? ⟨p, 1, none⟩ = some (.int .i64 o)) (ho0 : 0 ≤ o) (hv : w.cell? ⟨p, 0, none⟩ = some (.iface 92 (.agg #[.int .i64 x, .int .i64 y]))) : Calls Try.prog 17 #[ptr cp, .int .i64 i, .int .i64 x, .int .i64 y] w fun e w' => e = .returned (.bool true) ∧ Below w.heap.size w w' := by
  have H1 := Lib.hid (zzOp_any cp cg n cap i p w h5 hi hp o hn ho)
  have H2 := Lib.hid (codePair_any cp cg n cap i p w h5 hi hp x y hv)
  have d1 : decide (o < 0) = false := by simp; omega
  clear h5 hp ho hv
  unfold ptr at *
  go_enter Try.func17, Try.ntmps17
  go_wp2_with fail
  refine H1.out.mono ?_
  rintro e w1 ⟨rfl, h⟩
  obtain rfl : w = w1 := h.symm
  go_wp2_with fail
  refine H2.out.mono ?_
  rintro e w1 ⟨rfl, hb⟩
  go_wp2_with fail
  go_ret
  exact ⟨rfl, hb.alloc hb.size _⟩
theorem isBranch_any (o : Int) (w : World) : Calls Try.prog 18 #[.int .i64 o] w fun e w' => e = .returned (.bool (decide (o = 9 ∨ o = 15 ∨ o = 16))) ∧ w' = w := by
  go_enter Try.func18, Try.ntmps18
  go_wp2
  all_goals
    go_ret
    refine ⟨ret_bool ?_, by first | rfl | trivial⟩
    try simp only [beq_iff_eq, beq_eq_false_iff_ne, ne_eq, decide_eq_true_eq, decide_eq_false_iff_not] at *
    first | omega | (rw [Bool.eq_iff_iff]; simp only [decide_eq_true_eq, Bool.false_eq_true, iff_true, true_iff, false_iff, iff_false, iff_self]; omega) | (rw [Bool.eq_iff_iff]; simp only [Bool.or_eq_true, Bool.and_eq_true, beq_iff_eq, decide_eq_true_eq]; omega) | (simp; omega) | (simp; done)
theorem last6_any (w : World) : Calls Try.prog 19 #[.int .i64 6] w fun e w' => e = .returned (.tuple #[.int .i64 9, .int .i64 13, .int .i64 2, .bool true]) ∧ w' = w := by
  go_enter Try.func19, Try.ntmps19
  go_wp2_with fail
  go_returns
  exact ⟨rfl, rfl⟩
theorem last15_any (w : World) : Calls Try.prog 19 #[.int .i64 15] w fun e w' => e = .returned (.tuple #[.int .i64 16, .int .i64 17, .int .i64 5, .bool true]) ∧ w' = w := by
  go_enter Try.func19, Try.ntmps19
  go_wp2_with fail
  go_returns
  exact ⟨rfl, rfl⟩
def LkRel (b : Bool) (W : World) (vi : Value) (wr : World) : Prop := (vi = .int .i64 0 ∨ (vi = .int .i64 (-1) ∧ b = false)) ∧ wr = W
set_option maxRecDepth 100000 in
theorem lookup_any (cp bs g cap fp : Nat) (nm nm' : ByteArray) (pc ac ac' : Int) (w : World) (h7 : w.cell? ⟨cp, 7, none⟩ = some (ptr bs)) (h1 : w.cell? ⟨bs, 1, none⟩ = some (.slice (some ⟨g, 0, none⟩) 1 cap)) (hg : w.cell? ⟨g, 0, none⟩ = some (ptr fp)) (f0 : w.cell? ⟨fp, 0, none⟩ = some (.string nm)) (f2 : w.cell? ⟨fp, 2, none⟩ = some (.int .i64 ac)) (b : Bool) (hb : (nm.toList == nm'.toList) = b) (b2 : Bool) (hb2 : (ac == ac') = b2) :
    Calls Try.prog 28 #[ptr cp, .string nm', .int .i64 ac'] w fun e w' => e = .returned (if b && b2 then ptr fp else .pointer none) ∧ w' = w := by
  obtain ⟨r, hr⟩ : ∃ r : Value, (if b && b2 then ptr fp else .pointer none) = r := ⟨_, rfl⟩
  rw [hr]
  have HR := Lib.hid hr
  clear hr
  unfold ptr at h7 hg ⊢
  go_enter Try.func28, Try.ntmps28
  go_wp2_with fail
  go_loopw [8] (LkRel (b && b2) w) (fun i _ => (Go.RowKit.intOf i + 1).toNat)
  case atStart => exact ⟨.inl rfl, rfl⟩
  case round =>
    obtain ⟨hv, rfl⟩ := hrel
    rcases hv with rfl | ⟨rfl, hbb⟩
    · cases b <;> cases b2
      · go_wp2_with fail
        refine ⟨⟨.inr ⟨rfl, rfl⟩, rfl⟩, by decide⟩
      · go_wp2_with fail
        refine ⟨⟨.inr ⟨rfl, rfl⟩, rfl⟩, by decide⟩
      · go_wp2_with fail
        refine ⟨⟨.inr ⟨rfl, rfl⟩, rfl⟩, by decide⟩
      · go_wp2_with fail
        go_ret
        exact ⟨congrArg Ending.returned HR.out, rfl⟩
    · have HBB := Lib.hid hbb
      clear hbb
      go_wp2_with fail
      go_ret
      have h1 := HR.out
      rw [HBB.out] at h1
      exact ⟨congrArg Ending.returned h1, rfl⟩
theorem zlookup_any (cp bs g cap fp : Nat) (nm nm' : ByteArray) (pc ac ac' : Int) (w : World) (h7 : w.cell? ⟨cp, 7, none⟩ = some (ptr bs)) (h1 : w.cell? ⟨bs, 1, none⟩ = some (.slice (some ⟨g, 0, none⟩) 1 cap)) (hg : w.cell? ⟨g, 0, none⟩ = some (ptr fp)) (f0 : w.cell? ⟨fp, 0, none⟩ = some (.string nm)) (f2 : w.cell? ⟨fp, 2, none⟩ = some (.int .i64 ac)) (b : Bool) (hb : (nm.toList == nm'.toList) = b) (b2 : Bool) (hb2 : (ac == ac') = b2) :
    Calls Try.prog 12 #[ptr cp, .string nm', .int .i64 ac'] w fun e w' => e = .returned (if b && b2 then ptr fp else .pointer none) ∧ w' = w := by
  have HC := Lib.hid (lookup_any cp bs g cap fp nm nm' pc ac ac' w h7 h1 hg f0 f2 b hb b2 hb2)
  clear h7 h1 hg f0 f2 hb hb2
  obtain ⟨r, hr⟩ : ∃ r : Value, (if b && b2 then ptr fp else .pointer none) = r := ⟨_, rfl⟩
  rw [hr] at HC ⊢
  clear hr
  unfold ptr at *
  go_enter Try.func12, Try.ntmps12
  go_wp2_with fail
  refine HC.out.mono ?_
  rintro e w1 ⟨rfl, h⟩
  obtain rfl : w = w1 := h.symm
  go_wp2_with fail
  go_ret
  exact ⟨rfl, rfl⟩
/-- The compiler, made. -/
theorem new_any (k : Int) (w : World) : Calls Try.prog 5 #[.int .i64 k] w fun e w' => ∃ C : Array Value, e = .returned (ptr (w.heap.size + 1)) ∧ w'.heap.size = w.heap.size + 2 ∧ Nd (w.heap.size + 1) 82 C w' ∧ Nd w.heap.size 50 #[.slice none 0 0, .slice none 0 0, .int .i64 0, .int .i64 0, .int .i64 0] w' ∧ C[5]? = some (.slice none 0 0) ∧ C[7]? = some (ptr w.heap.size) ∧ C[9]? = some (.int .i64 k) ∧ Below w.heap.size w w' := by
  unfold ptr
  go_enter Try.func5, Try.ntmps5
  go_wp2_with fail
  go_ret
  refine ⟨_, rfl, ?_, Nd.newAt _ _ (by rw [size_alloc]), (Nd.newAt _ _ rfl).alloc _, rfl, rfl, rfl, ((Below.refl _ _).alloc (Nat.le_refl _) _).alloc (by rw [size_alloc]; omega) _⟩
  rw [size_alloc, size_alloc]
theorem zlast_any (cp bs base : Nat) (C S : Array Value) (v : Value) (n : Nat) (k : Int) (xs : List Value) (w : World) (hC : Nd cp 82 C w) (h5 : C[5]? = some v) (h7 : C[7]? = some (ptr bs)) (h9 : C[9]? = some (.int .i64 k)) (hS : Nd bs 50 S w) (h1 : S[1]? = some (.slice none 0 0)) (own : w.ownsRow base 84 1 v n xs) (hcb : cp < base) (hbb : bs < base) (hcs : cp ≠ bs) (hb : base ≤ w.heap.size) (hn : n ≤ 100000) :
    Calls Try.prog 8 #[ptr cp] w (ClE cp bs base n k xs w) := by
  have HC := Lib.hid (compileLast_any cp bs base C S v n k xs w hC h5 h7 h9 hS h1 own hcb hbb hcs hb hn)
  clear hC h5 h7 h9 hS h1 own
  unfold ptr at *
  go_enter Try.func8, Try.ntmps8
  go_wp2_with fail
  refine HC.out.mono ?_
  rintro e w1 h
  obtain rfl := h.1
  have H := Lib.hid h
  clear h HC
  go_wp2_with fail
  go_end0
  exact H.out
end Go.Proofs.Ytdjlkehdjlaojaa
