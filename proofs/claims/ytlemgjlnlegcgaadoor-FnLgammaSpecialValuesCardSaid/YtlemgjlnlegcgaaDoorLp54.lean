/- The walks of math.Lgamma, one for each path. -/
import Derived.Test.YtlemgjlnlegcgaaDoorTr54
import Derived.Test.YtlemgjlnlegcgaaDoorTb54
namespace Go.Proofs.YtlemgjlnlegcgaaDoor
open Go.RowKit
open FL
set_option linter.unusedVariables false
set_option linter.unusedSimpArgs false
theorem ord_w {x c : Nat} (hx : x < 2047 * 2 ^ 52) (hc : c < 2047 * 2 ^ 52) : FloatKind.f64.format.order x c = some (compare x c) := order_pos hx hc
theorem lss_t {x c : Nat} (h : x < c) (hc : c < 2047 * 2 ^ 52) : (FloatKind.f64.format.order x c == some .lt) = true := by
  rw [ord_w (by omega) hc, Nat.compare_eq_lt.2 h]; rfl
theorem lss_f {x c : Nat} (h : c ≤ x) (hx : x < 2047 * 2 ^ 52) : (FloatKind.f64.format.order x c == some .lt) = false := by
  rw [ord_w hx (by omega)]
  rcases Nat.lt_or_eq_of_le h with h | h
  · rw [Nat.compare_eq_gt.2 h]; rfl
  · rw [Nat.compare_eq_eq.2 h.symm]; rfl
theorem eql_f {x c : Nat} (h : x < c ∨ c < x) (hx : x < 2047 * 2 ^ 52) (hc : c < 2047 * 2 ^ 52) : (FloatKind.f64.format.order x c == some .eq) = false := by
  rw [ord_w hx hc]
  rcases h with h | h
  · rw [Nat.compare_eq_lt.2 h]; rfl
  · rw [Nat.compare_eq_gt.2 h]; rfl
theorem leq_t {x c : Nat} (h : x ≤ c) (hc : c < 2047 * 2 ^ 52) : (FloatKind.f64.format.order x c == some .lt || FloatKind.f64.format.order x c == some .eq) = true := by
  rw [ord_w (by omega) hc]
  rcases Nat.lt_or_eq_of_le h with h | h
  · rw [Nat.compare_eq_lt.2 h]; rfl
  · rw [Nat.compare_eq_eq.2 h]; rfl
theorem leq_f {x c : Nat} (h : c < x) (hx : x < 2047 * 2 ^ 52) : (FloatKind.f64.format.order x c == some .lt || FloatKind.f64.format.order x c == some .eq) = false := by
  rw [ord_w hx (by omega), Nat.compare_eq_gt.2 h]; rfl
theorem geq_t {x c : Nat} (h : c ≤ x) (hx : x < 2047 * 2 ^ 52) : (FloatKind.f64.format.order x c == some .gt || FloatKind.f64.format.order x c == some .eq) = true := by
  rw [ord_w hx (by omega)]
  rcases Nat.lt_or_eq_of_le h with h | h
  · rw [Nat.compare_eq_gt.2 h]; rfl
  · rw [Nat.compare_eq_eq.2 h.symm]; rfl
theorem geq_f {x c : Nat} (h : x < c) (hc : c < 2047 * 2 ^ 52) : (FloatKind.f64.format.order x c == some .gt || FloatKind.f64.format.order x c == some .eq) = false := by
  rw [ord_w (by omega) hc, Nat.compare_eq_lt.2 h]; rfl
theorem run_neg {x r : Nat} (w : World) (h : negw x = r) : Sem.run Tryd.prog (Op.unary .neg (.float .f64 x)) w = .ok (.float .f64 r) w := by
  rw [← h]
  rfl

def opsA0 : List (Nat × Sum Nat Nat × Sum Nat Nat) := [(4, .inl 0, .inr 0), (1, .inr 4607182418800017408, .inl 2), (2, .inl 0, .inl 0), (2, .inl 0, .inr 4538063219164248658), (0, .inr 4552280422768239949, .inl 0), (2, .inl 2, .inl 0), (0, .inr 4563143216008740701, .inl 0), (2, .inl 4, .inl 0), (0, .inr 4575164982564483048, .inl 0), (2, .inl 6, .inl 0), (0, .inr 4589517665429971623, .inl 0), (2, .inl 8, .inl 0), (0, .inr 4590228395698008264, .inl 0), (2, .inl 10, .inr 4541745596584974391), (0, .inr 4547598271341525767, .inl 0), (2, .inl 12, .inl 0), (0, .inr 4557843786729364480, .inl 0), (2, .inl 14, .inl 0), (0, .inr 4568811493649781355, .inl 0), (2, .inl 16, .inl 0), (0, .inr 4581589235564434555, .inl 0), (2, .inl 18, .inl 0), (0, .inr 4599480669564178349, .inl 0), (2, .inl 20, .inl 0), (2, .inl 22, .inl 11), (0, .inl 0, .inl 1), (2, .inr 4602678819172646912, .inl 24), (1, .inl 1, .inl 0), (0, .inl 27, .inl 0)]
set_option maxRecDepth 100000 in
theorem walkA0 (x : Nat) (hlo : 4604765176056180002 ≤ x) (hhi : x ≤ 4606281698874543309) (w : World) (T : Tabs w) {Q : List Nat → Prop} (H : ∃ L, Go.Extern.MathLog.archLog #[.float .f64 x] = pure (.float .f64 L) ∧ Runs opsA0 [L, x] Q) : ∃ r e, Q (r :: e) ∧ Calls Tryd.prog 11 #[.float .f64 x] w fun e w' => e = .returned (.tuple #[.float .f64 r, .int .i64 1]) ∧ w' = w := by
  have hfx : x < 2047 * 2 ^ 52 := by omega
  have hx64 : x < 2 ^ 64 := by omega
  have o0lss := lss_f (x := x) (c := 4291930444884082688) (by omega) hfx
  have o1eql := eql_f (x := x) (c := 4607182418800017408) (.inl (by omega)) hfx (by decide)
  have o2eql := eql_f (x := x) (c := 4611686018427387904) (.inl (by omega)) hfx (by decide)
  have o2lss := lss_t (x := x) (c := 4611686018427387904) (by omega) (by decide)
  have o3leq := leq_t (x := x) (c := 4606281698874543309) (by omega) (by decide)
  have o4geq := geq_t (x := x) (c := 4604765176056180002) (by omega) hfx
  have ozl := lss_f (x := x) (c := 0) (by omega) hfx
  have oze := eql_f (x := x) (c := 0) (.inr (by omega)) hfx (by decide)
  have HI := Lib.hid (isInf_fin x hx64 (by unfold Fnt rung; omega) w)
  have HN := Lib.hid (isNaN_any x w)
  rw [order_self (x := x) (by unfold Fnt rung; omega)] at HN
  have c1_0 := T.a.cell 0 4590228395698008264 rfl
  have c1_1 := T.a.cell 1 4599480669564178349 rfl
  have c1_2 := T.a.cell 2 4589517665429971623 rfl
  have c1_3 := T.a.cell 3 4581589235564434555 rfl
  have c1_4 := T.a.cell 4 4575164982564483048 rfl
  have c1_5 := T.a.cell 5 4568811493649781355 rfl
  have c1_6 := T.a.cell 6 4563143216008740701 rfl
  have c1_7 := T.a.cell 7 4557843786729364480 rfl
  have c1_8 := T.a.cell 8 4552280422768239949 rfl
  have c1_9 := T.a.cell 9 4547598271341525767 rfl
  have c1_10 := T.a.cell 10 4538063219164248658 rfl
  have c1_11 := T.a.cell 11 4541745596584974391 rfl
  obtain ⟨L, hL, r1, e1, r2, e2, r3, e3, r4, e4, r5, e5, r6, e6, r7, e7, r8, e8, r9, e9, r10, e10, r11, e11, r12, e12, r13, e13, r14, e14, r15, e15, r16, e16, r17, e17, r18, e18, r19, e19, r20, e20, r21, e21, r22, e22, r23, e23, r24, e24, r25, e25, r26, e26, r27, e27, r28, e28, r29, e29, hQ⟩ := H
  have HL := Lib.hid (log_call hL w)
  have f1 : ∀ w, Sem.run Tryd.prog (Op.unary .neg (.float .f64 L)) w = .ok (.float .f64 r1) w := fun w => run_neg w (Option.some.inj e1)
  have f2 : ∀ w, Sem.run Tryd.prog (binOp .sub 22 (.float .f64 4607182418800017408) (.float .f64 x)) w = .ok (.float .f64 r2) w := fun w => run_float_arith w .sub _ .f64 _ _ _ e2
  have f3 : ∀ w, Sem.run Tryd.prog (binOp .mul 22 (.float .f64 r2) (.float .f64 r2)) w = .ok (.float .f64 r3) w := fun w => run_float_arith w .mul _ .f64 _ _ _ e3
  have f4 : ∀ w, Sem.run Tryd.prog (binOp .mul 22 (.float .f64 r3) (.float .f64 4538063219164248658)) w = .ok (.float .f64 r4) w := fun w => run_float_arith w .mul _ .f64 _ _ _ e4
  have f5 : ∀ w, Sem.run Tryd.prog (binOp .add 22 (.float .f64 4552280422768239949) (.float .f64 r4)) w = .ok (.float .f64 r5) w := fun w => run_float_arith w .add _ .f64 _ _ _ e5
  have f6 : ∀ w, Sem.run Tryd.prog (binOp .mul 22 (.float .f64 r3) (.float .f64 r5)) w = .ok (.float .f64 r6) w := fun w => run_float_arith w .mul _ .f64 _ _ _ e6
  have f7 : ∀ w, Sem.run Tryd.prog (binOp .add 22 (.float .f64 4563143216008740701) (.float .f64 r6)) w = .ok (.float .f64 r7) w := fun w => run_float_arith w .add _ .f64 _ _ _ e7
  have f8 : ∀ w, Sem.run Tryd.prog (binOp .mul 22 (.float .f64 r3) (.float .f64 r7)) w = .ok (.float .f64 r8) w := fun w => run_float_arith w .mul _ .f64 _ _ _ e8
  have f9 : ∀ w, Sem.run Tryd.prog (binOp .add 22 (.float .f64 4575164982564483048) (.float .f64 r8)) w = .ok (.float .f64 r9) w := fun w => run_float_arith w .add _ .f64 _ _ _ e9
  have f10 : ∀ w, Sem.run Tryd.prog (binOp .mul 22 (.float .f64 r3) (.float .f64 r9)) w = .ok (.float .f64 r10) w := fun w => run_float_arith w .mul _ .f64 _ _ _ e10
  have f11 : ∀ w, Sem.run Tryd.prog (binOp .add 22 (.float .f64 4589517665429971623) (.float .f64 r10)) w = .ok (.float .f64 r11) w := fun w => run_float_arith w .add _ .f64 _ _ _ e11
  have f12 : ∀ w, Sem.run Tryd.prog (binOp .mul 22 (.float .f64 r3) (.float .f64 r11)) w = .ok (.float .f64 r12) w := fun w => run_float_arith w .mul _ .f64 _ _ _ e12
  have f13 : ∀ w, Sem.run Tryd.prog (binOp .add 22 (.float .f64 4590228395698008264) (.float .f64 r12)) w = .ok (.float .f64 r13) w := fun w => run_float_arith w .add _ .f64 _ _ _ e13
  have f14 : ∀ w, Sem.run Tryd.prog (binOp .mul 22 (.float .f64 r3) (.float .f64 4541745596584974391)) w = .ok (.float .f64 r14) w := fun w => run_float_arith w .mul _ .f64 _ _ _ e14
  have f15 : ∀ w, Sem.run Tryd.prog (binOp .add 22 (.float .f64 4547598271341525767) (.float .f64 r14)) w = .ok (.float .f64 r15) w := fun w => run_float_arith w .add _ .f64 _ _ _ e15
  have f16 : ∀ w, Sem.run Tryd.prog (binOp .mul 22 (.float .f64 r3) (.float .f64 r15)) w = .ok (.float .f64 r16) w := fun w => run_float_arith w .mul _ .f64 _ _ _ e16
  have f17 : ∀ w, Sem.run Tryd.prog (binOp .add 22 (.float .f64 4557843786729364480) (.float .f64 r16)) w = .ok (.float .f64 r17) w := fun w => run_float_arith w .add _ .f64 _ _ _ e17
  have f18 : ∀ w, Sem.run Tryd.prog (binOp .mul 22 (.float .f64 r3) (.float .f64 r17)) w = .ok (.float .f64 r18) w := fun w => run_float_arith w .mul _ .f64 _ _ _ e18
  have f19 : ∀ w, Sem.run Tryd.prog (binOp .add 22 (.float .f64 4568811493649781355) (.float .f64 r18)) w = .ok (.float .f64 r19) w := fun w => run_float_arith w .add _ .f64 _ _ _ e19
  have f20 : ∀ w, Sem.run Tryd.prog (binOp .mul 22 (.float .f64 r3) (.float .f64 r19)) w = .ok (.float .f64 r20) w := fun w => run_float_arith w .mul _ .f64 _ _ _ e20
  have f21 : ∀ w, Sem.run Tryd.prog (binOp .add 22 (.float .f64 4581589235564434555) (.float .f64 r20)) w = .ok (.float .f64 r21) w := fun w => run_float_arith w .add _ .f64 _ _ _ e21
  have f22 : ∀ w, Sem.run Tryd.prog (binOp .mul 22 (.float .f64 r3) (.float .f64 r21)) w = .ok (.float .f64 r22) w := fun w => run_float_arith w .mul _ .f64 _ _ _ e22
  have f23 : ∀ w, Sem.run Tryd.prog (binOp .add 22 (.float .f64 4599480669564178349) (.float .f64 r22)) w = .ok (.float .f64 r23) w := fun w => run_float_arith w .add _ .f64 _ _ _ e23
  have f24 : ∀ w, Sem.run Tryd.prog (binOp .mul 22 (.float .f64 r3) (.float .f64 r23)) w = .ok (.float .f64 r24) w := fun w => run_float_arith w .mul _ .f64 _ _ _ e24
  have f25 : ∀ w, Sem.run Tryd.prog (binOp .mul 22 (.float .f64 r2) (.float .f64 r13)) w = .ok (.float .f64 r25) w := fun w => run_float_arith w .mul _ .f64 _ _ _ e25
  have f26 : ∀ w, Sem.run Tryd.prog (binOp .add 22 (.float .f64 r25) (.float .f64 r24)) w = .ok (.float .f64 r26) w := fun w => run_float_arith w .add _ .f64 _ _ _ e26
  have f27 : ∀ w, Sem.run Tryd.prog (binOp .mul 22 (.float .f64 4602678819172646912) (.float .f64 r2)) w = .ok (.float .f64 r27) w := fun w => run_float_arith w .mul _ .f64 _ _ _ e27
  have f28 : ∀ w, Sem.run Tryd.prog (binOp .sub 22 (.float .f64 r26) (.float .f64 r27)) w = .ok (.float .f64 r28) w := fun w => run_float_arith w .sub _ .f64 _ _ _ e28
  have f29 : ∀ w, Sem.run Tryd.prog (binOp .add 22 (.float .f64 r1) (.float .f64 r28)) w = .ok (.float .f64 r29) w := fun w => run_float_arith w .add _ .f64 _ _ _ e29
  refine ⟨r29, _, hQ, ?_⟩
  clear hQ e1 e2 e3 e4 e5 e6 e7 e8 e9 e10 e11 e12 e13 e14 e15 e16 e17 e18 e19 e20 e21 e22 e23 e24 e25 e26 e27 e28 e29
  go_enter Tryd.func11, Tryd.ntmps11
  go_wp2_with fail
  refine HN.out.mono ?_
  rintro e w1 ⟨rfl, hw⟩
  obtain rfl : w = w1 := hw.symm
  go_wp2_with fail
  refine HI.out.mono ?_
  rintro e w1 ⟨rfl, hw⟩
  obtain rfl : w = w1 := hw.symm
  go_wp2_with fail
  refine HL.out.mono ?_
  rintro e w1 ⟨rfl, hw⟩
  obtain rfl : w = w1 := hw.symm
  go_wp2_with fail
  go_returns
  exact ⟨rfl, rfl⟩
def opsA1 : List (Nat × Sum Nat Nat × Sum Nat Nat) := [(4, .inl 0, .inr 0), (1, .inl 2, .inr 4601987645342152956), (2, .inl 0, .inl 0), (2, .inl 0, .inl 1), (2, .inl 0, .inr 4554458007677615095), (0, .inr 13787487198287567601, .inl 0), (2, .inl 2, .inl 0), (0, .inr 4573683464413438788, .inl 0), (2, .inl 4, .inl 0), (0, .inr 13808258184654468883, .inl 0), (2, .inl 6, .inl 0), (0, .inr 4602387636645935266, .inl 0), (2, .inl 8, .inr 13777776956600978488), (0, .inr 4561265769268226281, .inl 0), (2, .inl 10, .inl 0), (0, .inr 13794014384452342999, .inl 0), (2, .inl 12, .inl 0), (0, .inr 4580836915846773228, .inl 0), (2, .inl 14, .inl 0), (0, .inr 13817857465259574537, .inl 0), (2, .inl 16, .inr 4554825044790006772), (0, .inr 13781478925004955884, .inl 0), (2, .inl 18, .inl 0), (0, .inr 4567356815629994261, .inl 0), (2, .inl 20, .inl 0), (0, .inr 13800471404037139562, .inl 0), (2, .inl 22, .inl 0), (0, .inr 4589321138371641755, .inl 0), (2, .inl 25, .inl 16), (2, .inl 27, .inl 1), (0, .inl 10, .inl 0), (2, .inl 27, .inl 0), (1, .inr 13569565350425171743, .inl 0), (1, .inl 4, .inl 0), (0, .inr 13816790467322546754, .inl 0), (0, .inl 34, .inl 0)]
set_option maxRecDepth 100000 in
theorem walkA1 (x : Nat) (hlo : 4596072295943909225 ≤ x) (hhi : x ≤ 4604765176056180001) (w : World) (T : Tabs w) {Q : List Nat → Prop} (H : ∃ L, Go.Extern.MathLog.archLog #[.float .f64 x] = pure (.float .f64 L) ∧ Runs opsA1 [L, x] Q) : ∃ r e, Q (r :: e) ∧ Calls Tryd.prog 11 #[.float .f64 x] w fun e w' => e = .returned (.tuple #[.float .f64 r, .int .i64 1]) ∧ w' = w := by
  have hfx : x < 2047 * 2 ^ 52 := by omega
  have hx64 : x < 2 ^ 64 := by omega
  have o0lss := lss_f (x := x) (c := 4291930444884082688) (by omega) hfx
  have o1eql := eql_f (x := x) (c := 4607182418800017408) (.inl (by omega)) hfx (by decide)
  have o2eql := eql_f (x := x) (c := 4611686018427387904) (.inl (by omega)) hfx (by decide)
  have o2lss := lss_t (x := x) (c := 4611686018427387904) (by omega) (by decide)
  have o3leq := leq_t (x := x) (c := 4606281698874543309) (by omega) (by decide)
  have o4geq := geq_f (x := x) (c := 4604765176056180002) (by omega) (by decide)
  have o5geq := geq_t (x := x) (c := 4596072295943909225) (by omega) hfx
  have ozl := lss_f (x := x) (c := 0) (by omega) hfx
  have oze := eql_f (x := x) (c := 0) (.inr (by omega)) hfx (by decide)
  have HI := Lib.hid (isInf_fin x hx64 (by unfold Fnt rung; omega) w)
  have HN := Lib.hid (isNaN_any x w)
  rw [order_self (x := x) (by unfold Fnt rung; omega)] at HN
  have c2_0 := T.t.cell 0 4602387636645935266 rfl
  have c2_1 := T.t.cell 1 13817857465259574537 rfl
  have c2_2 := T.t.cell 2 4589321138371641755 rfl
  have c2_3 := T.t.cell 3 13808258184654468883 rfl
  have c2_4 := T.t.cell 4 4580836915846773228 rfl
  have c2_5 := T.t.cell 5 13800471404037139562 rfl
  have c2_6 := T.t.cell 6 4573683464413438788 rfl
  have c2_7 := T.t.cell 7 13794014384452342999 rfl
  have c2_8 := T.t.cell 8 4567356815629994261 rfl
  have c2_9 := T.t.cell 9 13787487198287567601 rfl
  have c2_10 := T.t.cell 10 4561265769268226281 rfl
  have c2_11 := T.t.cell 11 13781478925004955884 rfl
  have c2_12 := T.t.cell 12 4554458007677615095 rfl
  have c2_13 := T.t.cell 13 13777776956600978488 rfl
  have c2_14 := T.t.cell 14 4554825044790006772 rfl
  obtain ⟨L, hL, r1, e1, r2, e2, r3, e3, r4, e4, r5, e5, r6, e6, r7, e7, r8, e8, r9, e9, r10, e10, r11, e11, r12, e12, r13, e13, r14, e14, r15, e15, r16, e16, r17, e17, r18, e18, r19, e19, r20, e20, r21, e21, r22, e22, r23, e23, r24, e24, r25, e25, r26, e26, r27, e27, r28, e28, r29, e29, r30, e30, r31, e31, r32, e32, r33, e33, r34, e34, r35, e35, r36, e36, hQ⟩ := H
  have HL := Lib.hid (log_call hL w)
  have f1 : ∀ w, Sem.run Tryd.prog (Op.unary .neg (.float .f64 L)) w = .ok (.float .f64 r1) w := fun w => run_neg w (Option.some.inj e1)
  have f2 : ∀ w, Sem.run Tryd.prog (binOp .sub 22 (.float .f64 x) (.float .f64 4601987645342152956)) w = .ok (.float .f64 r2) w := fun w => run_float_arith w .sub _ .f64 _ _ _ e2
  have f3 : ∀ w, Sem.run Tryd.prog (binOp .mul 22 (.float .f64 r2) (.float .f64 r2)) w = .ok (.float .f64 r3) w := fun w => run_float_arith w .mul _ .f64 _ _ _ e3
  have f4 : ∀ w, Sem.run Tryd.prog (binOp .mul 22 (.float .f64 r3) (.float .f64 r2)) w = .ok (.float .f64 r4) w := fun w => run_float_arith w .mul _ .f64 _ _ _ e4
  have f5 : ∀ w, Sem.run Tryd.prog (binOp .mul 22 (.float .f64 r4) (.float .f64 4554458007677615095)) w = .ok (.float .f64 r5) w := fun w => run_float_arith w .mul _ .f64 _ _ _ e5
  have f6 : ∀ w, Sem.run Tryd.prog (binOp .add 22 (.float .f64 13787487198287567601) (.float .f64 r5)) w = .ok (.float .f64 r6) w := fun w => run_float_arith w .add _ .f64 _ _ _ e6
  have f7 : ∀ w, Sem.run Tryd.prog (binOp .mul 22 (.float .f64 r4) (.float .f64 r6)) w = .ok (.float .f64 r7) w := fun w => run_float_arith w .mul _ .f64 _ _ _ e7
  have f8 : ∀ w, Sem.run Tryd.prog (binOp .add 22 (.float .f64 4573683464413438788) (.float .f64 r7)) w = .ok (.float .f64 r8) w := fun w => run_float_arith w .add _ .f64 _ _ _ e8
  have f9 : ∀ w, Sem.run Tryd.prog (binOp .mul 22 (.float .f64 r4) (.float .f64 r8)) w = .ok (.float .f64 r9) w := fun w => run_float_arith w .mul _ .f64 _ _ _ e9
  have f10 : ∀ w, Sem.run Tryd.prog (binOp .add 22 (.float .f64 13808258184654468883) (.float .f64 r9)) w = .ok (.float .f64 r10) w := fun w => run_float_arith w .add _ .f64 _ _ _ e10
  have f11 : ∀ w, Sem.run Tryd.prog (binOp .mul 22 (.float .f64 r4) (.float .f64 r10)) w = .ok (.float .f64 r11) w := fun w => run_float_arith w .mul _ .f64 _ _ _ e11
  have f12 : ∀ w, Sem.run Tryd.prog (binOp .add 22 (.float .f64 4602387636645935266) (.float .f64 r11)) w = .ok (.float .f64 r12) w := fun w => run_float_arith w .add _ .f64 _ _ _ e12
  have f13 : ∀ w, Sem.run Tryd.prog (binOp .mul 22 (.float .f64 r4) (.float .f64 13777776956600978488)) w = .ok (.float .f64 r13) w := fun w => run_float_arith w .mul _ .f64 _ _ _ e13
  have f14 : ∀ w, Sem.run Tryd.prog (binOp .add 22 (.float .f64 4561265769268226281) (.float .f64 r13)) w = .ok (.float .f64 r14) w := fun w => run_float_arith w .add _ .f64 _ _ _ e14
  have f15 : ∀ w, Sem.run Tryd.prog (binOp .mul 22 (.float .f64 r4) (.float .f64 r14)) w = .ok (.float .f64 r15) w := fun w => run_float_arith w .mul _ .f64 _ _ _ e15
  have f16 : ∀ w, Sem.run Tryd.prog (binOp .add 22 (.float .f64 13794014384452342999) (.float .f64 r15)) w = .ok (.float .f64 r16) w := fun w => run_float_arith w .add _ .f64 _ _ _ e16
  have f17 : ∀ w, Sem.run Tryd.prog (binOp .mul 22 (.float .f64 r4) (.float .f64 r16)) w = .ok (.float .f64 r17) w := fun w => run_float_arith w .mul _ .f64 _ _ _ e17
  have f18 : ∀ w, Sem.run Tryd.prog (binOp .add 22 (.float .f64 4580836915846773228) (.float .f64 r17)) w = .ok (.float .f64 r18) w := fun w => run_float_arith w .add _ .f64 _ _ _ e18
  have f19 : ∀ w, Sem.run Tryd.prog (binOp .mul 22 (.float .f64 r4) (.float .f64 r18)) w = .ok (.float .f64 r19) w := fun w => run_float_arith w .mul _ .f64 _ _ _ e19
  have f20 : ∀ w, Sem.run Tryd.prog (binOp .add 22 (.float .f64 13817857465259574537) (.float .f64 r19)) w = .ok (.float .f64 r20) w := fun w => run_float_arith w .add _ .f64 _ _ _ e20
  have f21 : ∀ w, Sem.run Tryd.prog (binOp .mul 22 (.float .f64 r4) (.float .f64 4554825044790006772)) w = .ok (.float .f64 r21) w := fun w => run_float_arith w .mul _ .f64 _ _ _ e21
  have f22 : ∀ w, Sem.run Tryd.prog (binOp .add 22 (.float .f64 13781478925004955884) (.float .f64 r21)) w = .ok (.float .f64 r22) w := fun w => run_float_arith w .add _ .f64 _ _ _ e22
  have f23 : ∀ w, Sem.run Tryd.prog (binOp .mul 22 (.float .f64 r4) (.float .f64 r22)) w = .ok (.float .f64 r23) w := fun w => run_float_arith w .mul _ .f64 _ _ _ e23
  have f24 : ∀ w, Sem.run Tryd.prog (binOp .add 22 (.float .f64 4567356815629994261) (.float .f64 r23)) w = .ok (.float .f64 r24) w := fun w => run_float_arith w .add _ .f64 _ _ _ e24
  have f25 : ∀ w, Sem.run Tryd.prog (binOp .mul 22 (.float .f64 r4) (.float .f64 r24)) w = .ok (.float .f64 r25) w := fun w => run_float_arith w .mul _ .f64 _ _ _ e25
  have f26 : ∀ w, Sem.run Tryd.prog (binOp .add 22 (.float .f64 13800471404037139562) (.float .f64 r25)) w = .ok (.float .f64 r26) w := fun w => run_float_arith w .add _ .f64 _ _ _ e26
  have f27 : ∀ w, Sem.run Tryd.prog (binOp .mul 22 (.float .f64 r4) (.float .f64 r26)) w = .ok (.float .f64 r27) w := fun w => run_float_arith w .mul _ .f64 _ _ _ e27
  have f28 : ∀ w, Sem.run Tryd.prog (binOp .add 22 (.float .f64 4589321138371641755) (.float .f64 r27)) w = .ok (.float .f64 r28) w := fun w => run_float_arith w .add _ .f64 _ _ _ e28
  have f29 : ∀ w, Sem.run Tryd.prog (binOp .mul 22 (.float .f64 r3) (.float .f64 r12)) w = .ok (.float .f64 r29) w := fun w => run_float_arith w .mul _ .f64 _ _ _ e29
  have f30 : ∀ w, Sem.run Tryd.prog (binOp .mul 22 (.float .f64 r2) (.float .f64 r28)) w = .ok (.float .f64 r30) w := fun w => run_float_arith w .mul _ .f64 _ _ _ e30
  have f31 : ∀ w, Sem.run Tryd.prog (binOp .add 22 (.float .f64 r20) (.float .f64 r30)) w = .ok (.float .f64 r31) w := fun w => run_float_arith w .add _ .f64 _ _ _ e31
  have f32 : ∀ w, Sem.run Tryd.prog (binOp .mul 22 (.float .f64 r4) (.float .f64 r31)) w = .ok (.float .f64 r32) w := fun w => run_float_arith w .mul _ .f64 _ _ _ e32
  have f33 : ∀ w, Sem.run Tryd.prog (binOp .sub 22 (.float .f64 13569565350425171743) (.float .f64 r32)) w = .ok (.float .f64 r33) w := fun w => run_float_arith w .sub _ .f64 _ _ _ e33
  have f34 : ∀ w, Sem.run Tryd.prog (binOp .sub 22 (.float .f64 r29) (.float .f64 r33)) w = .ok (.float .f64 r34) w := fun w => run_float_arith w .sub _ .f64 _ _ _ e34
  have f35 : ∀ w, Sem.run Tryd.prog (binOp .add 22 (.float .f64 13816790467322546754) (.float .f64 r34)) w = .ok (.float .f64 r35) w := fun w => run_float_arith w .add _ .f64 _ _ _ e35
  have f36 : ∀ w, Sem.run Tryd.prog (binOp .add 22 (.float .f64 r1) (.float .f64 r35)) w = .ok (.float .f64 r36) w := fun w => run_float_arith w .add _ .f64 _ _ _ e36
  refine ⟨r36, _, hQ, ?_⟩
  clear hQ e1 e2 e3 e4 e5 e6 e7 e8 e9 e10 e11 e12 e13 e14 e15 e16 e17 e18 e19 e20 e21 e22 e23 e24 e25 e26 e27 e28 e29 e30 e31 e32 e33 e34 e35 e36
  go_enter Tryd.func11, Tryd.ntmps11
  go_wp2_with fail
  refine HN.out.mono ?_
  rintro e w1 ⟨rfl, hw⟩
  obtain rfl : w = w1 := hw.symm
  go_wp2_with fail
  refine HI.out.mono ?_
  rintro e w1 ⟨rfl, hw⟩
  obtain rfl : w = w1 := hw.symm
  go_wp2_with fail
  refine HL.out.mono ?_
  rintro e w1 ⟨rfl, hw⟩
  obtain rfl : w = w1 := hw.symm
  go_wp2_with fail
  go_returns
  exact ⟨rfl, rfl⟩
def opsA2 : List (Nat × Sum Nat Nat × Sum Nat Nat) := [(4, .inl 0, .inr 0), (2, .inl 2, .inr 4578867296057666313), (0, .inr 4597417307973683492, .inl 0), (2, .inl 4, .inl 0), (0, .inr 4606981716134495312, .inl 0), (2, .inl 6, .inl 0), (0, .inr 4609231207607680367, .inl 0), (2, .inl 8, .inl 0), (0, .inr 4603875219004743167, .inl 0), (2, .inl 10, .inl 0), (0, .inr 13813600432552784072, .inl 0), (2, .inl 12, .inl 0), (2, .inl 13, .inr 4569564532599476065), (0, .inr 4592174453748890760, .inl 0), (2, .inl 15, .inl 0), (0, .inr 4605104324179153071, .inl 0), (2, .inl 17, .inl 0), (0, .inr 4611975351653570805, .inl 0), (2, .inl 19, .inl 0), (0, .inr 4612712789461262748, .inl 0), (2, .inl 21, .inl 0), (0, .inr 4607182418800017408, .inl 0), (2, .inr 13826050856027422720, .inl 23), (3, .inl 11, .inl 1), (0, .inl 1, .inl 0), (0, .inl 24, .inl 0)]
set_option maxRecDepth 100000 in
theorem walkA2 (x : Nat) (hlo : 4291930444884082688 ≤ x) (hhi : x ≤ 4596072295943909224) (w : World) (T : Tabs w) {Q : List Nat → Prop} (H : ∃ L, Go.Extern.MathLog.archLog #[.float .f64 x] = pure (.float .f64 L) ∧ Runs opsA2 [L, x] Q) : ∃ r e, Q (r :: e) ∧ Calls Tryd.prog 11 #[.float .f64 x] w fun e w' => e = .returned (.tuple #[.float .f64 r, .int .i64 1]) ∧ w' = w := by
  have hfx : x < 2047 * 2 ^ 52 := by omega
  have hx64 : x < 2 ^ 64 := by omega
  have o0lss := lss_f (x := x) (c := 4291930444884082688) (by omega) hfx
  have o1eql := eql_f (x := x) (c := 4607182418800017408) (.inl (by omega)) hfx (by decide)
  have o2eql := eql_f (x := x) (c := 4611686018427387904) (.inl (by omega)) hfx (by decide)
  have o2lss := lss_t (x := x) (c := 4611686018427387904) (by omega) (by decide)
  have o3leq := leq_t (x := x) (c := 4606281698874543309) (by omega) (by decide)
  have o4geq := geq_f (x := x) (c := 4604765176056180002) (by omega) (by decide)
  have o5geq := geq_f (x := x) (c := 4596072295943909225) (by omega) (by decide)
  have ozl := lss_f (x := x) (c := 0) (by omega) hfx
  have oze := eql_f (x := x) (c := 0) (.inr (by omega)) hfx (by decide)
  have HI := Lib.hid (isInf_fin x hx64 (by unfold Fnt rung; omega) w)
  have HN := Lib.hid (isNaN_any x w)
  rw [order_self (x := x) (by unfold Fnt rung; omega)] at HN
  have c3_0 := T.u.cell 0 13813600432552784072 rfl
  have c3_1 := T.u.cell 1 4603875219004743167 rfl
  have c3_2 := T.u.cell 2 4609231207607680367 rfl
  have c3_3 := T.u.cell 3 4606981716134495312 rfl
  have c3_4 := T.u.cell 4 4597417307973683492 rfl
  have c3_5 := T.u.cell 5 4578867296057666313 rfl
  have c4_1 := T.v.cell 1 4612712789461262748 rfl
  have c4_2 := T.v.cell 2 4611975351653570805 rfl
  have c4_3 := T.v.cell 3 4605104324179153071 rfl
  have c4_4 := T.v.cell 4 4592174453748890760 rfl
  have c4_5 := T.v.cell 5 4569564532599476065 rfl
  obtain ⟨L, hL, r1, e1, r2, e2, r3, e3, r4, e4, r5, e5, r6, e6, r7, e7, r8, e8, r9, e9, r10, e10, r11, e11, r12, e12, r13, e13, r14, e14, r15, e15, r16, e16, r17, e17, r18, e18, r19, e19, r20, e20, r21, e21, r22, e22, r23, e23, r24, e24, r25, e25, r26, e26, hQ⟩ := H
  have HL := Lib.hid (log_call hL w)
  have f1 : ∀ w, Sem.run Tryd.prog (Op.unary .neg (.float .f64 L)) w = .ok (.float .f64 r1) w := fun w => run_neg w (Option.some.inj e1)
  have f2 : ∀ w, Sem.run Tryd.prog (binOp .mul 22 (.float .f64 x) (.float .f64 4578867296057666313)) w = .ok (.float .f64 r2) w := fun w => run_float_arith w .mul _ .f64 _ _ _ e2
  have f3 : ∀ w, Sem.run Tryd.prog (binOp .add 22 (.float .f64 4597417307973683492) (.float .f64 r2)) w = .ok (.float .f64 r3) w := fun w => run_float_arith w .add _ .f64 _ _ _ e3
  have f4 : ∀ w, Sem.run Tryd.prog (binOp .mul 22 (.float .f64 x) (.float .f64 r3)) w = .ok (.float .f64 r4) w := fun w => run_float_arith w .mul _ .f64 _ _ _ e4
  have f5 : ∀ w, Sem.run Tryd.prog (binOp .add 22 (.float .f64 4606981716134495312) (.float .f64 r4)) w = .ok (.float .f64 r5) w := fun w => run_float_arith w .add _ .f64 _ _ _ e5
  have f6 : ∀ w, Sem.run Tryd.prog (binOp .mul 22 (.float .f64 x) (.float .f64 r5)) w = .ok (.float .f64 r6) w := fun w => run_float_arith w .mul _ .f64 _ _ _ e6
  have f7 : ∀ w, Sem.run Tryd.prog (binOp .add 22 (.float .f64 4609231207607680367) (.float .f64 r6)) w = .ok (.float .f64 r7) w := fun w => run_float_arith w .add _ .f64 _ _ _ e7
  have f8 : ∀ w, Sem.run Tryd.prog (binOp .mul 22 (.float .f64 x) (.float .f64 r7)) w = .ok (.float .f64 r8) w := fun w => run_float_arith w .mul _ .f64 _ _ _ e8
  have f9 : ∀ w, Sem.run Tryd.prog (binOp .add 22 (.float .f64 4603875219004743167) (.float .f64 r8)) w = .ok (.float .f64 r9) w := fun w => run_float_arith w .add _ .f64 _ _ _ e9
  have f10 : ∀ w, Sem.run Tryd.prog (binOp .mul 22 (.float .f64 x) (.float .f64 r9)) w = .ok (.float .f64 r10) w := fun w => run_float_arith w .mul _ .f64 _ _ _ e10
  have f11 : ∀ w, Sem.run Tryd.prog (binOp .add 22 (.float .f64 13813600432552784072) (.float .f64 r10)) w = .ok (.float .f64 r11) w := fun w => run_float_arith w .add _ .f64 _ _ _ e11
  have f12 : ∀ w, Sem.run Tryd.prog (binOp .mul 22 (.float .f64 x) (.float .f64 r11)) w = .ok (.float .f64 r12) w := fun w => run_float_arith w .mul _ .f64 _ _ _ e12
  have f13 : ∀ w, Sem.run Tryd.prog (binOp .mul 22 (.float .f64 x) (.float .f64 4569564532599476065)) w = .ok (.float .f64 r13) w := fun w => run_float_arith w .mul _ .f64 _ _ _ e13
  have f14 : ∀ w, Sem.run Tryd.prog (binOp .add 22 (.float .f64 4592174453748890760) (.float .f64 r13)) w = .ok (.float .f64 r14) w := fun w => run_float_arith w .add _ .f64 _ _ _ e14
  have f15 : ∀ w, Sem.run Tryd.prog (binOp .mul 22 (.float .f64 x) (.float .f64 r14)) w = .ok (.float .f64 r15) w := fun w => run_float_arith w .mul _ .f64 _ _ _ e15
  have f16 : ∀ w, Sem.run Tryd.prog (binOp .add 22 (.float .f64 4605104324179153071) (.float .f64 r15)) w = .ok (.float .f64 r16) w := fun w => run_float_arith w .add _ .f64 _ _ _ e16
  have f17 : ∀ w, Sem.run Tryd.prog (binOp .mul 22 (.float .f64 x) (.float .f64 r16)) w = .ok (.float .f64 r17) w := fun w => run_float_arith w .mul _ .f64 _ _ _ e17
  have f18 : ∀ w, Sem.run Tryd.prog (binOp .add 22 (.float .f64 4611975351653570805) (.float .f64 r17)) w = .ok (.float .f64 r18) w := fun w => run_float_arith w .add _ .f64 _ _ _ e18
  have f19 : ∀ w, Sem.run Tryd.prog (binOp .mul 22 (.float .f64 x) (.float .f64 r18)) w = .ok (.float .f64 r19) w := fun w => run_float_arith w .mul _ .f64 _ _ _ e19
  have f20 : ∀ w, Sem.run Tryd.prog (binOp .add 22 (.float .f64 4612712789461262748) (.float .f64 r19)) w = .ok (.float .f64 r20) w := fun w => run_float_arith w .add _ .f64 _ _ _ e20
  have f21 : ∀ w, Sem.run Tryd.prog (binOp .mul 22 (.float .f64 x) (.float .f64 r20)) w = .ok (.float .f64 r21) w := fun w => run_float_arith w .mul _ .f64 _ _ _ e21
  have f22 : ∀ w, Sem.run Tryd.prog (binOp .add 22 (.float .f64 4607182418800017408) (.float .f64 r21)) w = .ok (.float .f64 r22) w := fun w => run_float_arith w .add _ .f64 _ _ _ e22
  have f23 : ∀ w, Sem.run Tryd.prog (binOp .mul 22 (.float .f64 13826050856027422720) (.float .f64 x)) w = .ok (.float .f64 r23) w := fun w => run_float_arith w .mul _ .f64 _ _ _ e23
  have f24 : ∀ w, Sem.run Tryd.prog (binOp .quo 22 (.float .f64 r12) (.float .f64 r22)) w = .ok (.float .f64 r24) w := fun w => run_float_arith w .quo _ .f64 _ _ _ e24
  have f25 : ∀ w, Sem.run Tryd.prog (binOp .add 22 (.float .f64 r23) (.float .f64 r24)) w = .ok (.float .f64 r25) w := fun w => run_float_arith w .add _ .f64 _ _ _ e25
  have f26 : ∀ w, Sem.run Tryd.prog (binOp .add 22 (.float .f64 r1) (.float .f64 r25)) w = .ok (.float .f64 r26) w := fun w => run_float_arith w .add _ .f64 _ _ _ e26
  refine ⟨r26, _, hQ, ?_⟩
  clear hQ e1 e2 e3 e4 e5 e6 e7 e8 e9 e10 e11 e12 e13 e14 e15 e16 e17 e18 e19 e20 e21 e22 e23 e24 e25 e26
  go_enter Tryd.func11, Tryd.ntmps11
  go_wp2_with fail
  refine HN.out.mono ?_
  rintro e w1 ⟨rfl, hw⟩
  obtain rfl : w = w1 := hw.symm
  go_wp2_with fail
  refine HI.out.mono ?_
  rintro e w1 ⟨rfl, hw⟩
  obtain rfl : w = w1 := hw.symm
  go_wp2_with fail
  refine HL.out.mono ?_
  rintro e w1 ⟨rfl, hw⟩
  obtain rfl : w = w1 := hw.symm
  go_wp2_with fail
  go_returns
  exact ⟨rfl, rfl⟩
def opsB0 : List (Nat × Sum Nat Nat × Sum Nat Nat) := [(1, .inr 4611686018427387904, .inl 0), (2, .inl 0, .inl 0), (2, .inl 0, .inr 4538063219164248658), (0, .inr 4552280422768239949, .inl 0), (2, .inl 2, .inl 0), (0, .inr 4563143216008740701, .inl 0), (2, .inl 4, .inl 0), (0, .inr 4575164982564483048, .inl 0), (2, .inl 6, .inl 0), (0, .inr 4589517665429971623, .inl 0), (2, .inl 8, .inl 0), (0, .inr 4590228395698008264, .inl 0), (2, .inl 10, .inr 4541745596584974391), (0, .inr 4547598271341525767, .inl 0), (2, .inl 12, .inl 0), (0, .inr 4557843786729364480, .inl 0), (2, .inl 14, .inl 0), (0, .inr 4568811493649781355, .inl 0), (2, .inl 16, .inl 0), (0, .inr 4581589235564434555, .inl 0), (2, .inl 18, .inl 0), (0, .inr 4599480669564178349, .inl 0), (2, .inl 20, .inl 0), (2, .inl 22, .inl 11), (0, .inl 0, .inl 1), (2, .inr 4602678819172646912, .inl 24), (1, .inl 1, .inl 0), (0, .inr 0, .inl 0)]
set_option maxRecDepth 100000 in
theorem walkB0 (x : Nat) (hlo : 4610477397055469201 ≤ x) (hhi : x ≤ 4611686018427387903) (w : World) (T : Tabs w) {Q : List Nat → Prop} (H : Runs opsB0 [x] Q) : ∃ r e, Q (r :: e) ∧ Calls Tryd.prog 11 #[.float .f64 x] w fun e w' => e = .returned (.tuple #[.float .f64 r, .int .i64 1]) ∧ w' = w := by
  have hfx : x < 2047 * 2 ^ 52 := by omega
  have hx64 : x < 2 ^ 64 := by omega
  have o0lss := lss_f (x := x) (c := 4291930444884082688) (by omega) hfx
  have o1eql := eql_f (x := x) (c := 4607182418800017408) (.inr (by omega)) hfx (by decide)
  have o2eql := eql_f (x := x) (c := 4611686018427387904) (.inl (by omega)) hfx (by decide)
  have o2lss := lss_t (x := x) (c := 4611686018427387904) (by omega) (by decide)
  have o3leq := leq_f (x := x) (c := 4606281698874543309) (by omega) hfx
  have o4geq := geq_t (x := x) (c := 4610477397055469201) (by omega) hfx
  have ozl := lss_f (x := x) (c := 0) (by omega) hfx
  have oze := eql_f (x := x) (c := 0) (.inr (by omega)) hfx (by decide)
  have HI := Lib.hid (isInf_fin x hx64 (by unfold Fnt rung; omega) w)
  have HN := Lib.hid (isNaN_any x w)
  rw [order_self (x := x) (by unfold Fnt rung; omega)] at HN
  have c1_0 := T.a.cell 0 4590228395698008264 rfl
  have c1_1 := T.a.cell 1 4599480669564178349 rfl
  have c1_2 := T.a.cell 2 4589517665429971623 rfl
  have c1_3 := T.a.cell 3 4581589235564434555 rfl
  have c1_4 := T.a.cell 4 4575164982564483048 rfl
  have c1_5 := T.a.cell 5 4568811493649781355 rfl
  have c1_6 := T.a.cell 6 4563143216008740701 rfl
  have c1_7 := T.a.cell 7 4557843786729364480 rfl
  have c1_8 := T.a.cell 8 4552280422768239949 rfl
  have c1_9 := T.a.cell 9 4547598271341525767 rfl
  have c1_10 := T.a.cell 10 4538063219164248658 rfl
  have c1_11 := T.a.cell 11 4541745596584974391 rfl
  obtain ⟨r1, e1, r2, e2, r3, e3, r4, e4, r5, e5, r6, e6, r7, e7, r8, e8, r9, e9, r10, e10, r11, e11, r12, e12, r13, e13, r14, e14, r15, e15, r16, e16, r17, e17, r18, e18, r19, e19, r20, e20, r21, e21, r22, e22, r23, e23, r24, e24, r25, e25, r26, e26, r27, e27, r28, e28, hQ⟩ := H
  have f1 : ∀ w, Sem.run Tryd.prog (binOp .sub 22 (.float .f64 4611686018427387904) (.float .f64 x)) w = .ok (.float .f64 r1) w := fun w => run_float_arith w .sub _ .f64 _ _ _ e1
  have f2 : ∀ w, Sem.run Tryd.prog (binOp .mul 22 (.float .f64 r1) (.float .f64 r1)) w = .ok (.float .f64 r2) w := fun w => run_float_arith w .mul _ .f64 _ _ _ e2
  have f3 : ∀ w, Sem.run Tryd.prog (binOp .mul 22 (.float .f64 r2) (.float .f64 4538063219164248658)) w = .ok (.float .f64 r3) w := fun w => run_float_arith w .mul _ .f64 _ _ _ e3
  have f4 : ∀ w, Sem.run Tryd.prog (binOp .add 22 (.float .f64 4552280422768239949) (.float .f64 r3)) w = .ok (.float .f64 r4) w := fun w => run_float_arith w .add _ .f64 _ _ _ e4
  have f5 : ∀ w, Sem.run Tryd.prog (binOp .mul 22 (.float .f64 r2) (.float .f64 r4)) w = .ok (.float .f64 r5) w := fun w => run_float_arith w .mul _ .f64 _ _ _ e5
  have f6 : ∀ w, Sem.run Tryd.prog (binOp .add 22 (.float .f64 4563143216008740701) (.float .f64 r5)) w = .ok (.float .f64 r6) w := fun w => run_float_arith w .add _ .f64 _ _ _ e6
  have f7 : ∀ w, Sem.run Tryd.prog (binOp .mul 22 (.float .f64 r2) (.float .f64 r6)) w = .ok (.float .f64 r7) w := fun w => run_float_arith w .mul _ .f64 _ _ _ e7
  have f8 : ∀ w, Sem.run Tryd.prog (binOp .add 22 (.float .f64 4575164982564483048) (.float .f64 r7)) w = .ok (.float .f64 r8) w := fun w => run_float_arith w .add _ .f64 _ _ _ e8
  have f9 : ∀ w, Sem.run Tryd.prog (binOp .mul 22 (.float .f64 r2) (.float .f64 r8)) w = .ok (.float .f64 r9) w := fun w => run_float_arith w .mul _ .f64 _ _ _ e9
  have f10 : ∀ w, Sem.run Tryd.prog (binOp .add 22 (.float .f64 4589517665429971623) (.float .f64 r9)) w = .ok (.float .f64 r10) w := fun w => run_float_arith w .add _ .f64 _ _ _ e10
  have f11 : ∀ w, Sem.run Tryd.prog (binOp .mul 22 (.float .f64 r2) (.float .f64 r10)) w = .ok (.float .f64 r11) w := fun w => run_float_arith w .mul _ .f64 _ _ _ e11
  have f12 : ∀ w, Sem.run Tryd.prog (binOp .add 22 (.float .f64 4590228395698008264) (.float .f64 r11)) w = .ok (.float .f64 r12) w := fun w => run_float_arith w .add _ .f64 _ _ _ e12
  have f13 : ∀ w, Sem.run Tryd.prog (binOp .mul 22 (.float .f64 r2) (.float .f64 4541745596584974391)) w = .ok (.float .f64 r13) w := fun w => run_float_arith w .mul _ .f64 _ _ _ e13
  have f14 : ∀ w, Sem.run Tryd.prog (binOp .add 22 (.float .f64 4547598271341525767) (.float .f64 r13)) w = .ok (.float .f64 r14) w := fun w => run_float_arith w .add _ .f64 _ _ _ e14
  have f15 : ∀ w, Sem.run Tryd.prog (binOp .mul 22 (.float .f64 r2) (.float .f64 r14)) w = .ok (.float .f64 r15) w := fun w => run_float_arith w .mul _ .f64 _ _ _ e15
  have f16 : ∀ w, Sem.run Tryd.prog (binOp .add 22 (.float .f64 4557843786729364480) (.float .f64 r15)) w = .ok (.float .f64 r16) w := fun w => run_float_arith w .add _ .f64 _ _ _ e16
  have f17 : ∀ w, Sem.run Tryd.prog (binOp .mul 22 (.float .f64 r2) (.float .f64 r16)) w = .ok (.float .f64 r17) w := fun w => run_float_arith w .mul _ .f64 _ _ _ e17
  have f18 : ∀ w, Sem.run Tryd.prog (binOp .add 22 (.float .f64 4568811493649781355) (.float .f64 r17)) w = .ok (.float .f64 r18) w := fun w => run_float_arith w .add _ .f64 _ _ _ e18
  have f19 : ∀ w, Sem.run Tryd.prog (binOp .mul 22 (.float .f64 r2) (.float .f64 r18)) w = .ok (.float .f64 r19) w := fun w => run_float_arith w .mul _ .f64 _ _ _ e19
  have f20 : ∀ w, Sem.run Tryd.prog (binOp .add 22 (.float .f64 4581589235564434555) (.float .f64 r19)) w = .ok (.float .f64 r20) w := fun w => run_float_arith w .add _ .f64 _ _ _ e20
  have f21 : ∀ w, Sem.run Tryd.prog (binOp .mul 22 (.float .f64 r2) (.float .f64 r20)) w = .ok (.float .f64 r21) w := fun w => run_float_arith w .mul _ .f64 _ _ _ e21
  have f22 : ∀ w, Sem.run Tryd.prog (binOp .add 22 (.float .f64 4599480669564178349) (.float .f64 r21)) w = .ok (.float .f64 r22) w := fun w => run_float_arith w .add _ .f64 _ _ _ e22
  have f23 : ∀ w, Sem.run Tryd.prog (binOp .mul 22 (.float .f64 r2) (.float .f64 r22)) w = .ok (.float .f64 r23) w := fun w => run_float_arith w .mul _ .f64 _ _ _ e23
  have f24 : ∀ w, Sem.run Tryd.prog (binOp .mul 22 (.float .f64 r1) (.float .f64 r12)) w = .ok (.float .f64 r24) w := fun w => run_float_arith w .mul _ .f64 _ _ _ e24
  have f25 : ∀ w, Sem.run Tryd.prog (binOp .add 22 (.float .f64 r24) (.float .f64 r23)) w = .ok (.float .f64 r25) w := fun w => run_float_arith w .add _ .f64 _ _ _ e25
  have f26 : ∀ w, Sem.run Tryd.prog (binOp .mul 22 (.float .f64 4602678819172646912) (.float .f64 r1)) w = .ok (.float .f64 r26) w := fun w => run_float_arith w .mul _ .f64 _ _ _ e26
  have f27 : ∀ w, Sem.run Tryd.prog (binOp .sub 22 (.float .f64 r25) (.float .f64 r26)) w = .ok (.float .f64 r27) w := fun w => run_float_arith w .sub _ .f64 _ _ _ e27
  have f28 : ∀ w, Sem.run Tryd.prog (binOp .add 22 (.float .f64 0) (.float .f64 r27)) w = .ok (.float .f64 r28) w := fun w => run_float_arith w .add _ .f64 _ _ _ e28
  refine ⟨r28, _, hQ, ?_⟩
  clear hQ e1 e2 e3 e4 e5 e6 e7 e8 e9 e10 e11 e12 e13 e14 e15 e16 e17 e18 e19 e20 e21 e22 e23 e24 e25 e26 e27 e28
  go_enter Tryd.func11, Tryd.ntmps11
  go_wp2_with fail
  refine HN.out.mono ?_
  rintro e w1 ⟨rfl, hw⟩
  obtain rfl : w = w1 := hw.symm
  go_wp2_with fail
  refine HI.out.mono ?_
  rintro e w1 ⟨rfl, hw⟩
  obtain rfl : w = w1 := hw.symm
  go_wp2_with fail
  go_returns
  exact ⟨rfl, rfl⟩
def opsB1 : List (Nat × Sum Nat Nat × Sum Nat Nat) := [(1, .inl 0, .inr 4609261425156079167), (2, .inl 0, .inl 0), (2, .inl 0, .inl 1), (2, .inl 0, .inr 4554458007677615095), (0, .inr 13787487198287567601, .inl 0), (2, .inl 2, .inl 0), (0, .inr 4573683464413438788, .inl 0), (2, .inl 4, .inl 0), (0, .inr 13808258184654468883, .inl 0), (2, .inl 6, .inl 0), (0, .inr 4602387636645935266, .inl 0), (2, .inl 8, .inr 13777776956600978488), (0, .inr 4561265769268226281, .inl 0), (2, .inl 10, .inl 0), (0, .inr 13794014384452342999, .inl 0), (2, .inl 12, .inl 0), (0, .inr 4580836915846773228, .inl 0), (2, .inl 14, .inl 0), (0, .inr 13817857465259574537, .inl 0), (2, .inl 16, .inr 4554825044790006772), (0, .inr 13781478925004955884, .inl 0), (2, .inl 18, .inl 0), (0, .inr 4567356815629994261, .inl 0), (2, .inl 20, .inl 0), (0, .inr 13800471404037139562, .inl 0), (2, .inl 22, .inl 0), (0, .inr 4589321138371641755, .inl 0), (2, .inl 25, .inl 16), (2, .inl 27, .inl 1), (0, .inl 10, .inl 0), (2, .inl 27, .inl 0), (1, .inr 13569565350425171743, .inl 0), (1, .inl 4, .inl 0), (0, .inr 13816790467322546754, .inl 0), (0, .inr 0, .inl 0)]
set_option maxRecDepth 100000 in
theorem walkB1 (x : Nat) (hlo : 4608045453256689133 ≤ x) (hhi : x ≤ 4610477397055469200) (w : World) (T : Tabs w) {Q : List Nat → Prop} (H : Runs opsB1 [x] Q) : ∃ r e, Q (r :: e) ∧ Calls Tryd.prog 11 #[.float .f64 x] w fun e w' => e = .returned (.tuple #[.float .f64 r, .int .i64 1]) ∧ w' = w := by
  have hfx : x < 2047 * 2 ^ 52 := by omega
  have hx64 : x < 2 ^ 64 := by omega
  have o0lss := lss_f (x := x) (c := 4291930444884082688) (by omega) hfx
  have o1eql := eql_f (x := x) (c := 4607182418800017408) (.inr (by omega)) hfx (by decide)
  have o2eql := eql_f (x := x) (c := 4611686018427387904) (.inl (by omega)) hfx (by decide)
  have o2lss := lss_t (x := x) (c := 4611686018427387904) (by omega) (by decide)
  have o3leq := leq_f (x := x) (c := 4606281698874543309) (by omega) hfx
  have o4geq := geq_f (x := x) (c := 4610477397055469201) (by omega) (by decide)
  have o5geq := geq_t (x := x) (c := 4608045453256689133) (by omega) hfx
  have ozl := lss_f (x := x) (c := 0) (by omega) hfx
  have oze := eql_f (x := x) (c := 0) (.inr (by omega)) hfx (by decide)
  have HI := Lib.hid (isInf_fin x hx64 (by unfold Fnt rung; omega) w)
  have HN := Lib.hid (isNaN_any x w)
  rw [order_self (x := x) (by unfold Fnt rung; omega)] at HN
  have c2_0 := T.t.cell 0 4602387636645935266 rfl
  have c2_1 := T.t.cell 1 13817857465259574537 rfl
  have c2_2 := T.t.cell 2 4589321138371641755 rfl
  have c2_3 := T.t.cell 3 13808258184654468883 rfl
  have c2_4 := T.t.cell 4 4580836915846773228 rfl
  have c2_5 := T.t.cell 5 13800471404037139562 rfl
  have c2_6 := T.t.cell 6 4573683464413438788 rfl
  have c2_7 := T.t.cell 7 13794014384452342999 rfl
  have c2_8 := T.t.cell 8 4567356815629994261 rfl
  have c2_9 := T.t.cell 9 13787487198287567601 rfl
  have c2_10 := T.t.cell 10 4561265769268226281 rfl
  have c2_11 := T.t.cell 11 13781478925004955884 rfl
  have c2_12 := T.t.cell 12 4554458007677615095 rfl
  have c2_13 := T.t.cell 13 13777776956600978488 rfl
  have c2_14 := T.t.cell 14 4554825044790006772 rfl
  obtain ⟨r1, e1, r2, e2, r3, e3, r4, e4, r5, e5, r6, e6, r7, e7, r8, e8, r9, e9, r10, e10, r11, e11, r12, e12, r13, e13, r14, e14, r15, e15, r16, e16, r17, e17, r18, e18, r19, e19, r20, e20, r21, e21, r22, e22, r23, e23, r24, e24, r25, e25, r26, e26, r27, e27, r28, e28, r29, e29, r30, e30, r31, e31, r32, e32, r33, e33, r34, e34, r35, e35, hQ⟩ := H
  have f1 : ∀ w, Sem.run Tryd.prog (binOp .sub 22 (.float .f64 x) (.float .f64 4609261425156079167)) w = .ok (.float .f64 r1) w := fun w => run_float_arith w .sub _ .f64 _ _ _ e1
  have f2 : ∀ w, Sem.run Tryd.prog (binOp .mul 22 (.float .f64 r1) (.float .f64 r1)) w = .ok (.float .f64 r2) w := fun w => run_float_arith w .mul _ .f64 _ _ _ e2
  have f3 : ∀ w, Sem.run Tryd.prog (binOp .mul 22 (.float .f64 r2) (.float .f64 r1)) w = .ok (.float .f64 r3) w := fun w => run_float_arith w .mul _ .f64 _ _ _ e3
  have f4 : ∀ w, Sem.run Tryd.prog (binOp .mul 22 (.float .f64 r3) (.float .f64 4554458007677615095)) w = .ok (.float .f64 r4) w := fun w => run_float_arith w .mul _ .f64 _ _ _ e4
  have f5 : ∀ w, Sem.run Tryd.prog (binOp .add 22 (.float .f64 13787487198287567601) (.float .f64 r4)) w = .ok (.float .f64 r5) w := fun w => run_float_arith w .add _ .f64 _ _ _ e5
  have f6 : ∀ w, Sem.run Tryd.prog (binOp .mul 22 (.float .f64 r3) (.float .f64 r5)) w = .ok (.float .f64 r6) w := fun w => run_float_arith w .mul _ .f64 _ _ _ e6
  have f7 : ∀ w, Sem.run Tryd.prog (binOp .add 22 (.float .f64 4573683464413438788) (.float .f64 r6)) w = .ok (.float .f64 r7) w := fun w => run_float_arith w .add _ .f64 _ _ _ e7
  have f8 : ∀ w, Sem.run Tryd.prog (binOp .mul 22 (.float .f64 r3) (.float .f64 r7)) w = .ok (.float .f64 r8) w := fun w => run_float_arith w .mul _ .f64 _ _ _ e8
  have f9 : ∀ w, Sem.run Tryd.prog (binOp .add 22 (.float .f64 13808258184654468883) (.float .f64 r8)) w = .ok (.float .f64 r9) w := fun w => run_float_arith w .add _ .f64 _ _ _ e9
  have f10 : ∀ w, Sem.run Tryd.prog (binOp .mul 22 (.float .f64 r3) (.float .f64 r9)) w = .ok (.float .f64 r10) w := fun w => run_float_arith w .mul _ .f64 _ _ _ e10
  have f11 : ∀ w, Sem.run Tryd.prog (binOp .add 22 (.float .f64 4602387636645935266) (.float .f64 r10)) w = .ok (.float .f64 r11) w := fun w => run_float_arith w .add _ .f64 _ _ _ e11
  have f12 : ∀ w, Sem.run Tryd.prog (binOp .mul 22 (.float .f64 r3) (.float .f64 13777776956600978488)) w = .ok (.float .f64 r12) w := fun w => run_float_arith w .mul _ .f64 _ _ _ e12
  have f13 : ∀ w, Sem.run Tryd.prog (binOp .add 22 (.float .f64 4561265769268226281) (.float .f64 r12)) w = .ok (.float .f64 r13) w := fun w => run_float_arith w .add _ .f64 _ _ _ e13
  have f14 : ∀ w, Sem.run Tryd.prog (binOp .mul 22 (.float .f64 r3) (.float .f64 r13)) w = .ok (.float .f64 r14) w := fun w => run_float_arith w .mul _ .f64 _ _ _ e14
  have f15 : ∀ w, Sem.run Tryd.prog (binOp .add 22 (.float .f64 13794014384452342999) (.float .f64 r14)) w = .ok (.float .f64 r15) w := fun w => run_float_arith w .add _ .f64 _ _ _ e15
  have f16 : ∀ w, Sem.run Tryd.prog (binOp .mul 22 (.float .f64 r3) (.float .f64 r15)) w = .ok (.float .f64 r16) w := fun w => run_float_arith w .mul _ .f64 _ _ _ e16
  have f17 : ∀ w, Sem.run Tryd.prog (binOp .add 22 (.float .f64 4580836915846773228) (.float .f64 r16)) w = .ok (.float .f64 r17) w := fun w => run_float_arith w .add _ .f64 _ _ _ e17
  have f18 : ∀ w, Sem.run Tryd.prog (binOp .mul 22 (.float .f64 r3) (.float .f64 r17)) w = .ok (.float .f64 r18) w := fun w => run_float_arith w .mul _ .f64 _ _ _ e18
  have f19 : ∀ w, Sem.run Tryd.prog (binOp .add 22 (.float .f64 13817857465259574537) (.float .f64 r18)) w = .ok (.float .f64 r19) w := fun w => run_float_arith w .add _ .f64 _ _ _ e19
  have f20 : ∀ w, Sem.run Tryd.prog (binOp .mul 22 (.float .f64 r3) (.float .f64 4554825044790006772)) w = .ok (.float .f64 r20) w := fun w => run_float_arith w .mul _ .f64 _ _ _ e20
  have f21 : ∀ w, Sem.run Tryd.prog (binOp .add 22 (.float .f64 13781478925004955884) (.float .f64 r20)) w = .ok (.float .f64 r21) w := fun w => run_float_arith w .add _ .f64 _ _ _ e21
  have f22 : ∀ w, Sem.run Tryd.prog (binOp .mul 22 (.float .f64 r3) (.float .f64 r21)) w = .ok (.float .f64 r22) w := fun w => run_float_arith w .mul _ .f64 _ _ _ e22
  have f23 : ∀ w, Sem.run Tryd.prog (binOp .add 22 (.float .f64 4567356815629994261) (.float .f64 r22)) w = .ok (.float .f64 r23) w := fun w => run_float_arith w .add _ .f64 _ _ _ e23
  have f24 : ∀ w, Sem.run Tryd.prog (binOp .mul 22 (.float .f64 r3) (.float .f64 r23)) w = .ok (.float .f64 r24) w := fun w => run_float_arith w .mul _ .f64 _ _ _ e24
  have f25 : ∀ w, Sem.run Tryd.prog (binOp .add 22 (.float .f64 13800471404037139562) (.float .f64 r24)) w = .ok (.float .f64 r25) w := fun w => run_float_arith w .add _ .f64 _ _ _ e25
  have f26 : ∀ w, Sem.run Tryd.prog (binOp .mul 22 (.float .f64 r3) (.float .f64 r25)) w = .ok (.float .f64 r26) w := fun w => run_float_arith w .mul _ .f64 _ _ _ e26
  have f27 : ∀ w, Sem.run Tryd.prog (binOp .add 22 (.float .f64 4589321138371641755) (.float .f64 r26)) w = .ok (.float .f64 r27) w := fun w => run_float_arith w .add _ .f64 _ _ _ e27
  have f28 : ∀ w, Sem.run Tryd.prog (binOp .mul 22 (.float .f64 r2) (.float .f64 r11)) w = .ok (.float .f64 r28) w := fun w => run_float_arith w .mul _ .f64 _ _ _ e28
  have f29 : ∀ w, Sem.run Tryd.prog (binOp .mul 22 (.float .f64 r1) (.float .f64 r27)) w = .ok (.float .f64 r29) w := fun w => run_float_arith w .mul _ .f64 _ _ _ e29
  have f30 : ∀ w, Sem.run Tryd.prog (binOp .add 22 (.float .f64 r19) (.float .f64 r29)) w = .ok (.float .f64 r30) w := fun w => run_float_arith w .add _ .f64 _ _ _ e30
  have f31 : ∀ w, Sem.run Tryd.prog (binOp .mul 22 (.float .f64 r3) (.float .f64 r30)) w = .ok (.float .f64 r31) w := fun w => run_float_arith w .mul _ .f64 _ _ _ e31
  have f32 : ∀ w, Sem.run Tryd.prog (binOp .sub 22 (.float .f64 13569565350425171743) (.float .f64 r31)) w = .ok (.float .f64 r32) w := fun w => run_float_arith w .sub _ .f64 _ _ _ e32
  have f33 : ∀ w, Sem.run Tryd.prog (binOp .sub 22 (.float .f64 r28) (.float .f64 r32)) w = .ok (.float .f64 r33) w := fun w => run_float_arith w .sub _ .f64 _ _ _ e33
  have f34 : ∀ w, Sem.run Tryd.prog (binOp .add 22 (.float .f64 13816790467322546754) (.float .f64 r33)) w = .ok (.float .f64 r34) w := fun w => run_float_arith w .add _ .f64 _ _ _ e34
  have f35 : ∀ w, Sem.run Tryd.prog (binOp .add 22 (.float .f64 0) (.float .f64 r34)) w = .ok (.float .f64 r35) w := fun w => run_float_arith w .add _ .f64 _ _ _ e35
  refine ⟨r35, _, hQ, ?_⟩
  clear hQ e1 e2 e3 e4 e5 e6 e7 e8 e9 e10 e11 e12 e13 e14 e15 e16 e17 e18 e19 e20 e21 e22 e23 e24 e25 e26 e27 e28 e29 e30 e31 e32 e33 e34 e35
  go_enter Tryd.func11, Tryd.ntmps11
  go_wp2_with fail
  refine HN.out.mono ?_
  rintro e w1 ⟨rfl, hw⟩
  obtain rfl : w = w1 := hw.symm
  go_wp2_with fail
  refine HI.out.mono ?_
  rintro e w1 ⟨rfl, hw⟩
  obtain rfl : w = w1 := hw.symm
  go_wp2_with fail
  go_returns
  exact ⟨rfl, rfl⟩
def opsB2 : List (Nat × Sum Nat Nat × Sum Nat Nat) := [(1, .inl 0, .inr 4607182418800017408), (2, .inl 0, .inr 4578867296057666313), (0, .inr 4597417307973683492, .inl 0), (2, .inl 2, .inl 0), (0, .inr 4606981716134495312, .inl 0), (2, .inl 4, .inl 0), (0, .inr 4609231207607680367, .inl 0), (2, .inl 6, .inl 0), (0, .inr 4603875219004743167, .inl 0), (2, .inl 8, .inl 0), (0, .inr 13813600432552784072, .inl 0), (2, .inl 10, .inl 0), (2, .inl 11, .inr 4569564532599476065), (0, .inr 4592174453748890760, .inl 0), (2, .inl 13, .inl 0), (0, .inr 4605104324179153071, .inl 0), (2, .inl 15, .inl 0), (0, .inr 4611975351653570805, .inl 0), (2, .inl 17, .inl 0), (0, .inr 4612712789461262748, .inl 0), (2, .inl 19, .inl 0), (0, .inr 4607182418800017408, .inl 0), (2, .inr 13826050856027422720, .inl 21), (3, .inl 11, .inl 1), (0, .inl 1, .inl 0), (0, .inr 0, .inl 0)]
set_option maxRecDepth 100000 in
theorem walkB2 (x : Nat) (hlo : 4606281698874543310 ≤ x) (hhi : x ≤ 4607182418800017407) (w : World) (T : Tabs w) {Q : List Nat → Prop} (H : Runs opsB2 [x] Q) : ∃ r e, Q (r :: e) ∧ Calls Tryd.prog 11 #[.float .f64 x] w fun e w' => e = .returned (.tuple #[.float .f64 r, .int .i64 1]) ∧ w' = w := by
  have hfx : x < 2047 * 2 ^ 52 := by omega
  have hx64 : x < 2 ^ 64 := by omega
  have o0lss := lss_f (x := x) (c := 4291930444884082688) (by omega) hfx
  have o1eql := eql_f (x := x) (c := 4607182418800017408) (.inl (by omega)) hfx (by decide)
  have o2eql := eql_f (x := x) (c := 4611686018427387904) (.inl (by omega)) hfx (by decide)
  have o2lss := lss_t (x := x) (c := 4611686018427387904) (by omega) (by decide)
  have o3leq := leq_f (x := x) (c := 4606281698874543309) (by omega) hfx
  have o4geq := geq_f (x := x) (c := 4610477397055469201) (by omega) (by decide)
  have o5geq := geq_f (x := x) (c := 4608045453256689133) (by omega) (by decide)
  have ozl := lss_f (x := x) (c := 0) (by omega) hfx
  have oze := eql_f (x := x) (c := 0) (.inr (by omega)) hfx (by decide)
  have HI := Lib.hid (isInf_fin x hx64 (by unfold Fnt rung; omega) w)
  have HN := Lib.hid (isNaN_any x w)
  rw [order_self (x := x) (by unfold Fnt rung; omega)] at HN
  have c3_0 := T.u.cell 0 13813600432552784072 rfl
  have c3_1 := T.u.cell 1 4603875219004743167 rfl
  have c3_2 := T.u.cell 2 4609231207607680367 rfl
  have c3_3 := T.u.cell 3 4606981716134495312 rfl
  have c3_4 := T.u.cell 4 4597417307973683492 rfl
  have c3_5 := T.u.cell 5 4578867296057666313 rfl
  have c4_1 := T.v.cell 1 4612712789461262748 rfl
  have c4_2 := T.v.cell 2 4611975351653570805 rfl
  have c4_3 := T.v.cell 3 4605104324179153071 rfl
  have c4_4 := T.v.cell 4 4592174453748890760 rfl
  have c4_5 := T.v.cell 5 4569564532599476065 rfl
  obtain ⟨r1, e1, r2, e2, r3, e3, r4, e4, r5, e5, r6, e6, r7, e7, r8, e8, r9, e9, r10, e10, r11, e11, r12, e12, r13, e13, r14, e14, r15, e15, r16, e16, r17, e17, r18, e18, r19, e19, r20, e20, r21, e21, r22, e22, r23, e23, r24, e24, r25, e25, r26, e26, hQ⟩ := H
  have f1 : ∀ w, Sem.run Tryd.prog (binOp .sub 22 (.float .f64 x) (.float .f64 4607182418800017408)) w = .ok (.float .f64 r1) w := fun w => run_float_arith w .sub _ .f64 _ _ _ e1
  have f2 : ∀ w, Sem.run Tryd.prog (binOp .mul 22 (.float .f64 r1) (.float .f64 4578867296057666313)) w = .ok (.float .f64 r2) w := fun w => run_float_arith w .mul _ .f64 _ _ _ e2
  have f3 : ∀ w, Sem.run Tryd.prog (binOp .add 22 (.float .f64 4597417307973683492) (.float .f64 r2)) w = .ok (.float .f64 r3) w := fun w => run_float_arith w .add _ .f64 _ _ _ e3
  have f4 : ∀ w, Sem.run Tryd.prog (binOp .mul 22 (.float .f64 r1) (.float .f64 r3)) w = .ok (.float .f64 r4) w := fun w => run_float_arith w .mul _ .f64 _ _ _ e4
  have f5 : ∀ w, Sem.run Tryd.prog (binOp .add 22 (.float .f64 4606981716134495312) (.float .f64 r4)) w = .ok (.float .f64 r5) w := fun w => run_float_arith w .add _ .f64 _ _ _ e5
  have f6 : ∀ w, Sem.run Tryd.prog (binOp .mul 22 (.float .f64 r1) (.float .f64 r5)) w = .ok (.float .f64 r6) w := fun w => run_float_arith w .mul _ .f64 _ _ _ e6
  have f7 : ∀ w, Sem.run Tryd.prog (binOp .add 22 (.float .f64 4609231207607680367) (.float .f64 r6)) w = .ok (.float .f64 r7) w := fun w => run_float_arith w .add _ .f64 _ _ _ e7
  have f8 : ∀ w, Sem.run Tryd.prog (binOp .mul 22 (.float .f64 r1) (.float .f64 r7)) w = .ok (.float .f64 r8) w := fun w => run_float_arith w .mul _ .f64 _ _ _ e8
  have f9 : ∀ w, Sem.run Tryd.prog (binOp .add 22 (.float .f64 4603875219004743167) (.float .f64 r8)) w = .ok (.float .f64 r9) w := fun w => run_float_arith w .add _ .f64 _ _ _ e9
  have f10 : ∀ w, Sem.run Tryd.prog (binOp .mul 22 (.float .f64 r1) (.float .f64 r9)) w = .ok (.float .f64 r10) w := fun w => run_float_arith w .mul _ .f64 _ _ _ e10
  have f11 : ∀ w, Sem.run Tryd.prog (binOp .add 22 (.float .f64 13813600432552784072) (.float .f64 r10)) w = .ok (.float .f64 r11) w := fun w => run_float_arith w .add _ .f64 _ _ _ e11
  have f12 : ∀ w, Sem.run Tryd.prog (binOp .mul 22 (.float .f64 r1) (.float .f64 r11)) w = .ok (.float .f64 r12) w := fun w => run_float_arith w .mul _ .f64 _ _ _ e12
  have f13 : ∀ w, Sem.run Tryd.prog (binOp .mul 22 (.float .f64 r1) (.float .f64 4569564532599476065)) w = .ok (.float .f64 r13) w := fun w => run_float_arith w .mul _ .f64 _ _ _ e13
  have f14 : ∀ w, Sem.run Tryd.prog (binOp .add 22 (.float .f64 4592174453748890760) (.float .f64 r13)) w = .ok (.float .f64 r14) w := fun w => run_float_arith w .add _ .f64 _ _ _ e14
  have f15 : ∀ w, Sem.run Tryd.prog (binOp .mul 22 (.float .f64 r1) (.float .f64 r14)) w = .ok (.float .f64 r15) w := fun w => run_float_arith w .mul _ .f64 _ _ _ e15
  have f16 : ∀ w, Sem.run Tryd.prog (binOp .add 22 (.float .f64 4605104324179153071) (.float .f64 r15)) w = .ok (.float .f64 r16) w := fun w => run_float_arith w .add _ .f64 _ _ _ e16
  have f17 : ∀ w, Sem.run Tryd.prog (binOp .mul 22 (.float .f64 r1) (.float .f64 r16)) w = .ok (.float .f64 r17) w := fun w => run_float_arith w .mul _ .f64 _ _ _ e17
  have f18 : ∀ w, Sem.run Tryd.prog (binOp .add 22 (.float .f64 4611975351653570805) (.float .f64 r17)) w = .ok (.float .f64 r18) w := fun w => run_float_arith w .add _ .f64 _ _ _ e18
  have f19 : ∀ w, Sem.run Tryd.prog (binOp .mul 22 (.float .f64 r1) (.float .f64 r18)) w = .ok (.float .f64 r19) w := fun w => run_float_arith w .mul _ .f64 _ _ _ e19
  have f20 : ∀ w, Sem.run Tryd.prog (binOp .add 22 (.float .f64 4612712789461262748) (.float .f64 r19)) w = .ok (.float .f64 r20) w := fun w => run_float_arith w .add _ .f64 _ _ _ e20
  have f21 : ∀ w, Sem.run Tryd.prog (binOp .mul 22 (.float .f64 r1) (.float .f64 r20)) w = .ok (.float .f64 r21) w := fun w => run_float_arith w .mul _ .f64 _ _ _ e21
  have f22 : ∀ w, Sem.run Tryd.prog (binOp .add 22 (.float .f64 4607182418800017408) (.float .f64 r21)) w = .ok (.float .f64 r22) w := fun w => run_float_arith w .add _ .f64 _ _ _ e22
  have f23 : ∀ w, Sem.run Tryd.prog (binOp .mul 22 (.float .f64 13826050856027422720) (.float .f64 r1)) w = .ok (.float .f64 r23) w := fun w => run_float_arith w .mul _ .f64 _ _ _ e23
  have f24 : ∀ w, Sem.run Tryd.prog (binOp .quo 22 (.float .f64 r12) (.float .f64 r22)) w = .ok (.float .f64 r24) w := fun w => run_float_arith w .quo _ .f64 _ _ _ e24
  have f25 : ∀ w, Sem.run Tryd.prog (binOp .add 22 (.float .f64 r23) (.float .f64 r24)) w = .ok (.float .f64 r25) w := fun w => run_float_arith w .add _ .f64 _ _ _ e25
  have f26 : ∀ w, Sem.run Tryd.prog (binOp .add 22 (.float .f64 0) (.float .f64 r25)) w = .ok (.float .f64 r26) w := fun w => run_float_arith w .add _ .f64 _ _ _ e26
  refine ⟨r26, _, hQ, ?_⟩
  clear hQ e1 e2 e3 e4 e5 e6 e7 e8 e9 e10 e11 e12 e13 e14 e15 e16 e17 e18 e19 e20 e21 e22 e23 e24 e25 e26
  go_enter Tryd.func11, Tryd.ntmps11
  go_wp2_with fail
  refine HN.out.mono ?_
  rintro e w1 ⟨rfl, hw⟩
  obtain rfl : w = w1 := hw.symm
  go_wp2_with fail
  refine HI.out.mono ?_
  rintro e w1 ⟨rfl, hw⟩
  obtain rfl : w = w1 := hw.symm
  go_wp2_with fail
  go_returns
  exact ⟨rfl, rfl⟩
def opsB3 : List (Nat × Sum Nat Nat × Sum Nat Nat) := [(1, .inl 0, .inr 4607182418800017408), (2, .inl 0, .inr 4578867296057666313), (0, .inr 4597417307973683492, .inl 0), (2, .inl 2, .inl 0), (0, .inr 4606981716134495312, .inl 0), (2, .inl 4, .inl 0), (0, .inr 4609231207607680367, .inl 0), (2, .inl 6, .inl 0), (0, .inr 4603875219004743167, .inl 0), (2, .inl 8, .inl 0), (0, .inr 13813600432552784072, .inl 0), (2, .inl 10, .inl 0), (2, .inl 11, .inr 4569564532599476065), (0, .inr 4592174453748890760, .inl 0), (2, .inl 13, .inl 0), (0, .inr 4605104324179153071, .inl 0), (2, .inl 15, .inl 0), (0, .inr 4611975351653570805, .inl 0), (2, .inl 17, .inl 0), (0, .inr 4612712789461262748, .inl 0), (2, .inl 19, .inl 0), (0, .inr 4607182418800017408, .inl 0), (2, .inr 13826050856027422720, .inl 21), (3, .inl 11, .inl 1), (0, .inl 1, .inl 0), (0, .inr 0, .inl 0)]
set_option maxRecDepth 100000 in
theorem walkB3 (x : Nat) (hlo : 4607182418800017409 ≤ x) (hhi : x ≤ 4608045453256689132) (w : World) (T : Tabs w) {Q : List Nat → Prop} (H : Runs opsB3 [x] Q) : ∃ r e, Q (r :: e) ∧ Calls Tryd.prog 11 #[.float .f64 x] w fun e w' => e = .returned (.tuple #[.float .f64 r, .int .i64 1]) ∧ w' = w := by
  have hfx : x < 2047 * 2 ^ 52 := by omega
  have hx64 : x < 2 ^ 64 := by omega
  have o0lss := lss_f (x := x) (c := 4291930444884082688) (by omega) hfx
  have o1eql := eql_f (x := x) (c := 4607182418800017408) (.inr (by omega)) hfx (by decide)
  have o2eql := eql_f (x := x) (c := 4611686018427387904) (.inl (by omega)) hfx (by decide)
  have o2lss := lss_t (x := x) (c := 4611686018427387904) (by omega) (by decide)
  have o3leq := leq_f (x := x) (c := 4606281698874543309) (by omega) hfx
  have o4geq := geq_f (x := x) (c := 4610477397055469201) (by omega) (by decide)
  have o5geq := geq_f (x := x) (c := 4608045453256689133) (by omega) (by decide)
  have ozl := lss_f (x := x) (c := 0) (by omega) hfx
  have oze := eql_f (x := x) (c := 0) (.inr (by omega)) hfx (by decide)
  have HI := Lib.hid (isInf_fin x hx64 (by unfold Fnt rung; omega) w)
  have HN := Lib.hid (isNaN_any x w)
  rw [order_self (x := x) (by unfold Fnt rung; omega)] at HN
  have c3_0 := T.u.cell 0 13813600432552784072 rfl
  have c3_1 := T.u.cell 1 4603875219004743167 rfl
  have c3_2 := T.u.cell 2 4609231207607680367 rfl
  have c3_3 := T.u.cell 3 4606981716134495312 rfl
  have c3_4 := T.u.cell 4 4597417307973683492 rfl
  have c3_5 := T.u.cell 5 4578867296057666313 rfl
  have c4_1 := T.v.cell 1 4612712789461262748 rfl
  have c4_2 := T.v.cell 2 4611975351653570805 rfl
  have c4_3 := T.v.cell 3 4605104324179153071 rfl
  have c4_4 := T.v.cell 4 4592174453748890760 rfl
  have c4_5 := T.v.cell 5 4569564532599476065 rfl
  obtain ⟨r1, e1, r2, e2, r3, e3, r4, e4, r5, e5, r6, e6, r7, e7, r8, e8, r9, e9, r10, e10, r11, e11, r12, e12, r13, e13, r14, e14, r15, e15, r16, e16, r17, e17, r18, e18, r19, e19, r20, e20, r21, e21, r22, e22, r23, e23, r24, e24, r25, e25, r26, e26, hQ⟩ := H
  have f1 : ∀ w, Sem.run Tryd.prog (binOp .sub 22 (.float .f64 x) (.float .f64 4607182418800017408)) w = .ok (.float .f64 r1) w := fun w => run_float_arith w .sub _ .f64 _ _ _ e1
  have f2 : ∀ w, Sem.run Tryd.prog (binOp .mul 22 (.float .f64 r1) (.float .f64 4578867296057666313)) w = .ok (.float .f64 r2) w := fun w => run_float_arith w .mul _ .f64 _ _ _ e2
  have f3 : ∀ w, Sem.run Tryd.prog (binOp .add 22 (.float .f64 4597417307973683492) (.float .f64 r2)) w = .ok (.float .f64 r3) w := fun w => run_float_arith w .add _ .f64 _ _ _ e3
  have f4 : ∀ w, Sem.run Tryd.prog (binOp .mul 22 (.float .f64 r1) (.float .f64 r3)) w = .ok (.float .f64 r4) w := fun w => run_float_arith w .mul _ .f64 _ _ _ e4
  have f5 : ∀ w, Sem.run Tryd.prog (binOp .add 22 (.float .f64 4606981716134495312) (.float .f64 r4)) w = .ok (.float .f64 r5) w := fun w => run_float_arith w .add _ .f64 _ _ _ e5
  have f6 : ∀ w, Sem.run Tryd.prog (binOp .mul 22 (.float .f64 r1) (.float .f64 r5)) w = .ok (.float .f64 r6) w := fun w => run_float_arith w .mul _ .f64 _ _ _ e6
  have f7 : ∀ w, Sem.run Tryd.prog (binOp .add 22 (.float .f64 4609231207607680367) (.float .f64 r6)) w = .ok (.float .f64 r7) w := fun w => run_float_arith w .add _ .f64 _ _ _ e7
  have f8 : ∀ w, Sem.run Tryd.prog (binOp .mul 22 (.float .f64 r1) (.float .f64 r7)) w = .ok (.float .f64 r8) w := fun w => run_float_arith w .mul _ .f64 _ _ _ e8
  have f9 : ∀ w, Sem.run Tryd.prog (binOp .add 22 (.float .f64 4603875219004743167) (.float .f64 r8)) w = .ok (.float .f64 r9) w := fun w => run_float_arith w .add _ .f64 _ _ _ e9
  have f10 : ∀ w, Sem.run Tryd.prog (binOp .mul 22 (.float .f64 r1) (.float .f64 r9)) w = .ok (.float .f64 r10) w := fun w => run_float_arith w .mul _ .f64 _ _ _ e10
  have f11 : ∀ w, Sem.run Tryd.prog (binOp .add 22 (.float .f64 13813600432552784072) (.float .f64 r10)) w = .ok (.float .f64 r11) w := fun w => run_float_arith w .add _ .f64 _ _ _ e11
  have f12 : ∀ w, Sem.run Tryd.prog (binOp .mul 22 (.float .f64 r1) (.float .f64 r11)) w = .ok (.float .f64 r12) w := fun w => run_float_arith w .mul _ .f64 _ _ _ e12
  have f13 : ∀ w, Sem.run Tryd.prog (binOp .mul 22 (.float .f64 r1) (.float .f64 4569564532599476065)) w = .ok (.float .f64 r13) w := fun w => run_float_arith w .mul _ .f64 _ _ _ e13
  have f14 : ∀ w, Sem.run Tryd.prog (binOp .add 22 (.float .f64 4592174453748890760) (.float .f64 r13)) w = .ok (.float .f64 r14) w := fun w => run_float_arith w .add _ .f64 _ _ _ e14
  have f15 : ∀ w, Sem.run Tryd.prog (binOp .mul 22 (.float .f64 r1) (.float .f64 r14)) w = .ok (.float .f64 r15) w := fun w => run_float_arith w .mul _ .f64 _ _ _ e15
  have f16 : ∀ w, Sem.run Tryd.prog (binOp .add 22 (.float .f64 4605104324179153071) (.float .f64 r15)) w = .ok (.float .f64 r16) w := fun w => run_float_arith w .add _ .f64 _ _ _ e16
  have f17 : ∀ w, Sem.run Tryd.prog (binOp .mul 22 (.float .f64 r1) (.float .f64 r16)) w = .ok (.float .f64 r17) w := fun w => run_float_arith w .mul _ .f64 _ _ _ e17
  have f18 : ∀ w, Sem.run Tryd.prog (binOp .add 22 (.float .f64 4611975351653570805) (.float .f64 r17)) w = .ok (.float .f64 r18) w := fun w => run_float_arith w .add _ .f64 _ _ _ e18
  have f19 : ∀ w, Sem.run Tryd.prog (binOp .mul 22 (.float .f64 r1) (.float .f64 r18)) w = .ok (.float .f64 r19) w := fun w => run_float_arith w .mul _ .f64 _ _ _ e19
  have f20 : ∀ w, Sem.run Tryd.prog (binOp .add 22 (.float .f64 4612712789461262748) (.float .f64 r19)) w = .ok (.float .f64 r20) w := fun w => run_float_arith w .add _ .f64 _ _ _ e20
  have f21 : ∀ w, Sem.run Tryd.prog (binOp .mul 22 (.float .f64 r1) (.float .f64 r20)) w = .ok (.float .f64 r21) w := fun w => run_float_arith w .mul _ .f64 _ _ _ e21
  have f22 : ∀ w, Sem.run Tryd.prog (binOp .add 22 (.float .f64 4607182418800017408) (.float .f64 r21)) w = .ok (.float .f64 r22) w := fun w => run_float_arith w .add _ .f64 _ _ _ e22
  have f23 : ∀ w, Sem.run Tryd.prog (binOp .mul 22 (.float .f64 13826050856027422720) (.float .f64 r1)) w = .ok (.float .f64 r23) w := fun w => run_float_arith w .mul _ .f64 _ _ _ e23
  have f24 : ∀ w, Sem.run Tryd.prog (binOp .quo 22 (.float .f64 r12) (.float .f64 r22)) w = .ok (.float .f64 r24) w := fun w => run_float_arith w .quo _ .f64 _ _ _ e24
  have f25 : ∀ w, Sem.run Tryd.prog (binOp .add 22 (.float .f64 r23) (.float .f64 r24)) w = .ok (.float .f64 r25) w := fun w => run_float_arith w .add _ .f64 _ _ _ e25
  have f26 : ∀ w, Sem.run Tryd.prog (binOp .add 22 (.float .f64 0) (.float .f64 r25)) w = .ok (.float .f64 r26) w := fun w => run_float_arith w .add _ .f64 _ _ _ e26
  refine ⟨r26, _, hQ, ?_⟩
  clear hQ e1 e2 e3 e4 e5 e6 e7 e8 e9 e10 e11 e12 e13 e14 e15 e16 e17 e18 e19 e20 e21 e22 e23 e24 e25 e26
  go_enter Tryd.func11, Tryd.ntmps11
  go_wp2_with fail
  refine HN.out.mono ?_
  rintro e w1 ⟨rfl, hw⟩
  obtain rfl : w = w1 := hw.symm
  go_wp2_with fail
  refine HI.out.mono ?_
  rintro e w1 ⟨rfl, hw⟩
  obtain rfl : w = w1 := hw.symm
  go_wp2_with fail
  go_returns
  exact ⟨rfl, rfl⟩
end Go.Proofs.YtlemgjlnlegcgaaDoor
