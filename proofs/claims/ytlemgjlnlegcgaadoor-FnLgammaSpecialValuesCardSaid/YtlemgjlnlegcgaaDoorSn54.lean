/- The walks of math.sin and math.cos, path by path. -/
import Derived.Test.YtlemgjlnlegcgaaDoorLp54
import Derived.Test.YtlemgjlnlegcgaaDoorTb54
namespace Go.Proofs.YtlemgjlnlegcgaaDoor
open Go.RowKit
open FL
set_option linter.unusedVariables false
set_option linter.unusedSimpArgs false

def ops_sinO0B0S0 : List (Nat × Sum Nat Nat × Sum Nat Nat) := [(2, .inl 0, .inr 4605249456957292544), (1, .inl 3, .inl 0), (2, .inl 2, .inr 4495793288086814720), (1, .inl 1, .inl 0), (2, .inl 4, .inr 4388835458085048688), (1, .inl 1, .inl 0), (2, .inl 0, .inl 0), (2, .inl 1, .inl 0), (2, .inr 4460209587652500685, .inl 1), (0, .inl 0, .inr 13716528389658582877), (2, .inl 0, .inl 3), (0, .inl 0, .inr 4523617212962785441), (2, .inl 0, .inl 5), (0, .inl 0, .inr 13774824197404483331), (2, .inl 0, .inl 7), (0, .inl 0, .inr 4575957461383575504), (2, .inl 0, .inl 9), (0, .inl 0, .inr 13818544856648471880), (2, .inl 10, .inl 0), (0, .inl 13, .inl 0)]
set_option maxRecDepth 100000 in
theorem sin_p00 (x xa r1 j : Nat) (hx : x < 2 ^ 64) (hf : Fnt x) (hj : j ≤ 30) (hn : FloatKind.f64.format.order x 0 = some .gt) (hneg : x = xa) (oth : (FloatKind.f64.format.order xa 4737786807993761792 == some .gt || FloatKind.f64.format.order xa 4737786807993761792 == some .eq) = false) (e0 : Ieee.double.mul xa 4608412980311869571 = some r1) (hc : floatToIntVal .f64 r1 .u64 = some (j : Int))
    (b1 : bits .and .u64 (j : Int) 1 = 0) (b7 : bits .and .u64 ((j : Int)) 7 = 0) (w : World) (T : Tabs w) {Q : List Nat → Prop} (H : Runs ops_sinO0B0S0 [floatOfInt .f64 (j : Int), r1, xa] Q) : ∃ r e, Q (r :: e) ∧ Calls Tryd.prog 29 #[.float .f64 x] w fun e w' => e = .returned (.float .f64 r) ∧ w' = w := by
  have HN := Lib.hid (isNaN_any x w)
  rw [order_self hf] at HN
  have HI := Lib.hid (isInf_fin x hx hf w)
  subst hneg
  have f0 : ∀ w, Sem.run Tryd.prog (binOp .mul 22 (.float .f64 x) (.float .f64 4608412980311869571)) w = .ok (.float .f64 r1) w := fun w => run_float_arith w .mul _ .f64 _ _ _ e0
  have cv : ∀ w, Sem.run Tryd.prog (convert 22 33 (.float .f64 r1)) w = .ok (.int .u64 (j : Int)) w := fun w => run_convert_float_int w _ _ .f64 .u64 r1 j (by kernel_rfl) (by kernel_rfl) hc
  have cw : ∀ w, Sem.run Tryd.prog (convert 33 22 (.int .u64 (j : Int))) w = .ok (.float .f64 (floatOfInt .f64 (j : Int))) w := fun w => run_convert_int_float w _ _ .u64 .f64 _ (by kernel_rfl) (by kernel_rfl)
  obtain ⟨y, hy⟩ : ∃ y, floatOfInt .f64 (j : Int) = y := ⟨_, rfl⟩
  rw [hy] at cw H
  have c9_0 := T.sin.cell 0 4460209587652500685 rfl
  have c9_1 := T.sin.cell 1 13716528389658582877 rfl
  have c9_2 := T.sin.cell 2 4523617212962785441 rfl
  have c9_3 := T.sin.cell 3 13774824197404483331 rfl
  have c9_4 := T.sin.cell 4 4575957461383575504 rfl
  have c9_5 := T.sin.cell 5 13818544856648471880 rfl
  obtain ⟨r2, er2, r3, er3, r4, er4, r5, er5, r6, er6, r7, er7, r8, er8, r9, er9, r10, er10, r11, er11, r12, er12, r13, er13, r14, er14, r15, er15, r16, er16, r17, er17, r18, er18, r19, er19, r20, er20, r21, er21, hQ⟩ := H
  have fr2 : ∀ w, Sem.run Tryd.prog (binOp .mul 22 (.float .f64 y) (.float .f64 4605249456957292544)) w = .ok (.float .f64 r2) w := fun w => run_float_arith w .mul _ .f64 _ _ _ er2
  have fr3 : ∀ w, Sem.run Tryd.prog (binOp .sub 22 (.float .f64 x) (.float .f64 r2)) w = .ok (.float .f64 r3) w := fun w => run_float_arith w .sub _ .f64 _ _ _ er3
  have fr4 : ∀ w, Sem.run Tryd.prog (binOp .mul 22 (.float .f64 y) (.float .f64 4495793288086814720)) w = .ok (.float .f64 r4) w := fun w => run_float_arith w .mul _ .f64 _ _ _ er4
  have fr5 : ∀ w, Sem.run Tryd.prog (binOp .sub 22 (.float .f64 r3) (.float .f64 r4)) w = .ok (.float .f64 r5) w := fun w => run_float_arith w .sub _ .f64 _ _ _ er5
  have fr6 : ∀ w, Sem.run Tryd.prog (binOp .mul 22 (.float .f64 y) (.float .f64 4388835458085048688)) w = .ok (.float .f64 r6) w := fun w => run_float_arith w .mul _ .f64 _ _ _ er6
  have fr7 : ∀ w, Sem.run Tryd.prog (binOp .sub 22 (.float .f64 r5) (.float .f64 r6)) w = .ok (.float .f64 r7) w := fun w => run_float_arith w .sub _ .f64 _ _ _ er7
  have fr8 : ∀ w, Sem.run Tryd.prog (binOp .mul 22 (.float .f64 r7) (.float .f64 r7)) w = .ok (.float .f64 r8) w := fun w => run_float_arith w .mul _ .f64 _ _ _ er8
  have fr9 : ∀ w, Sem.run Tryd.prog (binOp .mul 22 (.float .f64 r7) (.float .f64 r8)) w = .ok (.float .f64 r9) w := fun w => run_float_arith w .mul _ .f64 _ _ _ er9
  have fr10 : ∀ w, Sem.run Tryd.prog (binOp .mul 22 (.float .f64 4460209587652500685) (.float .f64 r8)) w = .ok (.float .f64 r10) w := fun w => run_float_arith w .mul _ .f64 _ _ _ er10
  have fr11 : ∀ w, Sem.run Tryd.prog (binOp .add 22 (.float .f64 r10) (.float .f64 13716528389658582877)) w = .ok (.float .f64 r11) w := fun w => run_float_arith w .add _ .f64 _ _ _ er11
  have fr12 : ∀ w, Sem.run Tryd.prog (binOp .mul 22 (.float .f64 r11) (.float .f64 r8)) w = .ok (.float .f64 r12) w := fun w => run_float_arith w .mul _ .f64 _ _ _ er12
  have fr13 : ∀ w, Sem.run Tryd.prog (binOp .add 22 (.float .f64 r12) (.float .f64 4523617212962785441)) w = .ok (.float .f64 r13) w := fun w => run_float_arith w .add _ .f64 _ _ _ er13
  have fr14 : ∀ w, Sem.run Tryd.prog (binOp .mul 22 (.float .f64 r13) (.float .f64 r8)) w = .ok (.float .f64 r14) w := fun w => run_float_arith w .mul _ .f64 _ _ _ er14
  have fr15 : ∀ w, Sem.run Tryd.prog (binOp .add 22 (.float .f64 r14) (.float .f64 13774824197404483331)) w = .ok (.float .f64 r15) w := fun w => run_float_arith w .add _ .f64 _ _ _ er15
  have fr16 : ∀ w, Sem.run Tryd.prog (binOp .mul 22 (.float .f64 r15) (.float .f64 r8)) w = .ok (.float .f64 r16) w := fun w => run_float_arith w .mul _ .f64 _ _ _ er16
  have fr17 : ∀ w, Sem.run Tryd.prog (binOp .add 22 (.float .f64 r16) (.float .f64 4575957461383575504)) w = .ok (.float .f64 r17) w := fun w => run_float_arith w .add _ .f64 _ _ _ er17
  have fr18 : ∀ w, Sem.run Tryd.prog (binOp .mul 22 (.float .f64 r17) (.float .f64 r8)) w = .ok (.float .f64 r18) w := fun w => run_float_arith w .mul _ .f64 _ _ _ er18
  have fr19 : ∀ w, Sem.run Tryd.prog (binOp .add 22 (.float .f64 r18) (.float .f64 13818544856648471880)) w = .ok (.float .f64 r19) w := fun w => run_float_arith w .add _ .f64 _ _ _ er19
  have fr20 : ∀ w, Sem.run Tryd.prog (binOp .mul 22 (.float .f64 r9) (.float .f64 r19)) w = .ok (.float .f64 r20) w := fun w => run_float_arith w .mul _ .f64 _ _ _ er20
  have fr21 : ∀ w, Sem.run Tryd.prog (binOp .add 22 (.float .f64 r7) (.float .f64 r20)) w = .ok (.float .f64 r21) w := fun w => run_float_arith w .add _ .f64 _ _ _ er21
  refine ⟨r21, _, hQ, ?_⟩
  clear hQ e0 hc hy hf hx er2 er3 er4 er5 er6 er7 er8 er9 er10 er11 er12 er13 er14 er15 er16 er17 er18 er19 er20 er21
  go_enter Tryd.func29, Tryd.ntmps29
  go_wp2_with fail
  refine HN.out.mono ?_
  rintro e w1 ⟨rfl, hw⟩
  obtain rfl : w = w1 := hw.symm
  go_wp2_with fail
  refine HI.out.mono ?_
  rintro e w1 ⟨rfl, hw⟩
  obtain rfl : w = w1 := hw.symm
  go_wp2_with fail
  go_ret
  exact ⟨rfl, rfl⟩
def ops_sinO0B1S0 : List (Nat × Sum Nat Nat × Sum Nat Nat) := [(2, .inl 0, .inr 4605249456957292544), (1, .inl 3, .inl 0), (2, .inl 2, .inr 4495793288086814720), (1, .inl 1, .inl 0), (2, .inl 4, .inr 4388835458085048688), (1, .inl 1, .inl 0), (2, .inl 0, .inl 0), (2, .inr 4602678819172646912, .inl 0), (1, .inr 4607182418800017408, .inl 0), (2, .inl 2, .inl 2), (2, .inr 13666448263388469915, .inl 3), (0, .inl 0, .inr 4477121864728985349), (2, .inl 0, .inl 5), (0, .inl 0, .inr 13732177093698800582), (2, .inl 0, .inl 7), (0, .inl 0, .inr 4537941361668146421), (2, .inl 0, .inl 9), (0, .inl 0, .inr 13787419979223748497), (2, .inl 0, .inl 11), (0, .inl 0, .inr 4586165620538955083), (2, .inl 10, .inl 0), (0, .inl 12, .inl 0)]
set_option maxRecDepth 100000 in
theorem sin_p02 (x xa r1 j : Nat) (hx : x < 2 ^ 64) (hf : Fnt x) (hj : j ≤ 30) (hn : FloatKind.f64.format.order x 0 = some .gt) (hneg : x = xa) (oth : (FloatKind.f64.format.order xa 4737786807993761792 == some .gt || FloatKind.f64.format.order xa 4737786807993761792 == some .eq) = false) (e0 : Ieee.double.mul xa 4608412980311869571 = some r1) (hc : floatToIntVal .f64 r1 .u64 = some (j : Int))
    (b1 : bits .and .u64 (j : Int) 1 = 0) (b7 : bits .and .u64 ((j : Int)) 7 = 2) (w : World) (T : Tabs w) {Q : List Nat → Prop} (H : Runs ops_sinO0B1S0 [floatOfInt .f64 (j : Int), r1, xa] Q) : ∃ r e, Q (r :: e) ∧ Calls Tryd.prog 29 #[.float .f64 x] w fun e w' => e = .returned (.float .f64 r) ∧ w' = w := by
  have HN := Lib.hid (isNaN_any x w)
  rw [order_self hf] at HN
  have HI := Lib.hid (isInf_fin x hx hf w)
  subst hneg
  have f0 : ∀ w, Sem.run Tryd.prog (binOp .mul 22 (.float .f64 x) (.float .f64 4608412980311869571)) w = .ok (.float .f64 r1) w := fun w => run_float_arith w .mul _ .f64 _ _ _ e0
  have cv : ∀ w, Sem.run Tryd.prog (convert 22 33 (.float .f64 r1)) w = .ok (.int .u64 (j : Int)) w := fun w => run_convert_float_int w _ _ .f64 .u64 r1 j (by kernel_rfl) (by kernel_rfl) hc
  have cw : ∀ w, Sem.run Tryd.prog (convert 33 22 (.int .u64 (j : Int))) w = .ok (.float .f64 (floatOfInt .f64 (j : Int))) w := fun w => run_convert_int_float w _ _ .u64 .f64 _ (by kernel_rfl) (by kernel_rfl)
  obtain ⟨y, hy⟩ : ∃ y, floatOfInt .f64 (j : Int) = y := ⟨_, rfl⟩
  rw [hy] at cw H
  have c8_0 := T.cos.cell 0 13666448263388469915 rfl
  have c8_1 := T.cos.cell 1 4477121864728985349 rfl
  have c8_2 := T.cos.cell 2 13732177093698800582 rfl
  have c8_3 := T.cos.cell 3 4537941361668146421 rfl
  have c8_4 := T.cos.cell 4 13787419979223748497 rfl
  have c8_5 := T.cos.cell 5 4586165620538955083 rfl
  obtain ⟨r2, er2, r3, er3, r4, er4, r5, er5, r6, er6, r7, er7, r8, er8, r9, er9, r10, er10, r11, er11, r12, er12, r13, er13, r14, er14, r15, er15, r16, er16, r17, er17, r18, er18, r19, er19, r20, er20, r21, er21, r22, er22, r23, er23, hQ⟩ := H
  have fr2 : ∀ w, Sem.run Tryd.prog (binOp .mul 22 (.float .f64 y) (.float .f64 4605249456957292544)) w = .ok (.float .f64 r2) w := fun w => run_float_arith w .mul _ .f64 _ _ _ er2
  have fr3 : ∀ w, Sem.run Tryd.prog (binOp .sub 22 (.float .f64 x) (.float .f64 r2)) w = .ok (.float .f64 r3) w := fun w => run_float_arith w .sub _ .f64 _ _ _ er3
  have fr4 : ∀ w, Sem.run Tryd.prog (binOp .mul 22 (.float .f64 y) (.float .f64 4495793288086814720)) w = .ok (.float .f64 r4) w := fun w => run_float_arith w .mul _ .f64 _ _ _ er4
  have fr5 : ∀ w, Sem.run Tryd.prog (binOp .sub 22 (.float .f64 r3) (.float .f64 r4)) w = .ok (.float .f64 r5) w := fun w => run_float_arith w .sub _ .f64 _ _ _ er5
  have fr6 : ∀ w, Sem.run Tryd.prog (binOp .mul 22 (.float .f64 y) (.float .f64 4388835458085048688)) w = .ok (.float .f64 r6) w := fun w => run_float_arith w .mul _ .f64 _ _ _ er6
  have fr7 : ∀ w, Sem.run Tryd.prog (binOp .sub 22 (.float .f64 r5) (.float .f64 r6)) w = .ok (.float .f64 r7) w := fun w => run_float_arith w .sub _ .f64 _ _ _ er7
  have fr8 : ∀ w, Sem.run Tryd.prog (binOp .mul 22 (.float .f64 r7) (.float .f64 r7)) w = .ok (.float .f64 r8) w := fun w => run_float_arith w .mul _ .f64 _ _ _ er8
  have fr9 : ∀ w, Sem.run Tryd.prog (binOp .mul 22 (.float .f64 4602678819172646912) (.float .f64 r8)) w = .ok (.float .f64 r9) w := fun w => run_float_arith w .mul _ .f64 _ _ _ er9
  have fr10 : ∀ w, Sem.run Tryd.prog (binOp .sub 22 (.float .f64 4607182418800017408) (.float .f64 r9)) w = .ok (.float .f64 r10) w := fun w => run_float_arith w .sub _ .f64 _ _ _ er10
  have fr11 : ∀ w, Sem.run Tryd.prog (binOp .mul 22 (.float .f64 r8) (.float .f64 r8)) w = .ok (.float .f64 r11) w := fun w => run_float_arith w .mul _ .f64 _ _ _ er11
  have fr12 : ∀ w, Sem.run Tryd.prog (binOp .mul 22 (.float .f64 13666448263388469915) (.float .f64 r8)) w = .ok (.float .f64 r12) w := fun w => run_float_arith w .mul _ .f64 _ _ _ er12
  have fr13 : ∀ w, Sem.run Tryd.prog (binOp .add 22 (.float .f64 r12) (.float .f64 4477121864728985349)) w = .ok (.float .f64 r13) w := fun w => run_float_arith w .add _ .f64 _ _ _ er13
  have fr14 : ∀ w, Sem.run Tryd.prog (binOp .mul 22 (.float .f64 r13) (.float .f64 r8)) w = .ok (.float .f64 r14) w := fun w => run_float_arith w .mul _ .f64 _ _ _ er14
  have fr15 : ∀ w, Sem.run Tryd.prog (binOp .add 22 (.float .f64 r14) (.float .f64 13732177093698800582)) w = .ok (.float .f64 r15) w := fun w => run_float_arith w .add _ .f64 _ _ _ er15
  have fr16 : ∀ w, Sem.run Tryd.prog (binOp .mul 22 (.float .f64 r15) (.float .f64 r8)) w = .ok (.float .f64 r16) w := fun w => run_float_arith w .mul _ .f64 _ _ _ er16
  have fr17 : ∀ w, Sem.run Tryd.prog (binOp .add 22 (.float .f64 r16) (.float .f64 4537941361668146421)) w = .ok (.float .f64 r17) w := fun w => run_float_arith w .add _ .f64 _ _ _ er17
  have fr18 : ∀ w, Sem.run Tryd.prog (binOp .mul 22 (.float .f64 r17) (.float .f64 r8)) w = .ok (.float .f64 r18) w := fun w => run_float_arith w .mul _ .f64 _ _ _ er18
  have fr19 : ∀ w, Sem.run Tryd.prog (binOp .add 22 (.float .f64 r18) (.float .f64 13787419979223748497)) w = .ok (.float .f64 r19) w := fun w => run_float_arith w .add _ .f64 _ _ _ er19
  have fr20 : ∀ w, Sem.run Tryd.prog (binOp .mul 22 (.float .f64 r19) (.float .f64 r8)) w = .ok (.float .f64 r20) w := fun w => run_float_arith w .mul _ .f64 _ _ _ er20
  have fr21 : ∀ w, Sem.run Tryd.prog (binOp .add 22 (.float .f64 r20) (.float .f64 4586165620538955083)) w = .ok (.float .f64 r21) w := fun w => run_float_arith w .add _ .f64 _ _ _ er21
  have fr22 : ∀ w, Sem.run Tryd.prog (binOp .mul 22 (.float .f64 r11) (.float .f64 r21)) w = .ok (.float .f64 r22) w := fun w => run_float_arith w .mul _ .f64 _ _ _ er22
  have fr23 : ∀ w, Sem.run Tryd.prog (binOp .add 22 (.float .f64 r10) (.float .f64 r22)) w = .ok (.float .f64 r23) w := fun w => run_float_arith w .add _ .f64 _ _ _ er23
  refine ⟨r23, _, hQ, ?_⟩
  clear hQ e0 hc hy hf hx er2 er3 er4 er5 er6 er7 er8 er9 er10 er11 er12 er13 er14 er15 er16 er17 er18 er19 er20 er21 er22 er23
  go_enter Tryd.func29, Tryd.ntmps29
  go_wp2_with fail
  refine HN.out.mono ?_
  rintro e w1 ⟨rfl, hw⟩
  obtain rfl : w = w1 := hw.symm
  go_wp2_with fail
  refine HI.out.mono ?_
  rintro e w1 ⟨rfl, hw⟩
  obtain rfl : w = w1 := hw.symm
  go_wp2_with fail
  go_ret
  exact ⟨rfl, rfl⟩
def ops_sinO0B0S1 : List (Nat × Sum Nat Nat × Sum Nat Nat) := [(2, .inl 0, .inr 4605249456957292544), (1, .inl 3, .inl 0), (2, .inl 2, .inr 4495793288086814720), (1, .inl 1, .inl 0), (2, .inl 4, .inr 4388835458085048688), (1, .inl 1, .inl 0), (2, .inl 0, .inl 0), (2, .inl 1, .inl 0), (2, .inr 4460209587652500685, .inl 1), (0, .inl 0, .inr 13716528389658582877), (2, .inl 0, .inl 3), (0, .inl 0, .inr 4523617212962785441), (2, .inl 0, .inl 5), (0, .inl 0, .inr 13774824197404483331), (2, .inl 0, .inl 7), (0, .inl 0, .inr 4575957461383575504), (2, .inl 0, .inl 9), (0, .inl 0, .inr 13818544856648471880), (2, .inl 10, .inl 0), (0, .inl 13, .inl 0), (4, .inl 0, .inr 0)]
set_option maxRecDepth 100000 in
theorem sin_p04 (x xa r1 j : Nat) (hx : x < 2 ^ 64) (hf : Fnt x) (hj : j ≤ 30) (hn : FloatKind.f64.format.order x 0 = some .gt) (hneg : x = xa) (oth : (FloatKind.f64.format.order xa 4737786807993761792 == some .gt || FloatKind.f64.format.order xa 4737786807993761792 == some .eq) = false) (e0 : Ieee.double.mul xa 4608412980311869571 = some r1) (hc : floatToIntVal .f64 r1 .u64 = some (j : Int))
    (b1 : bits .and .u64 (j : Int) 1 = 0) (b7 : bits .and .u64 ((j : Int)) 7 = 4) (w : World) (T : Tabs w) {Q : List Nat → Prop} (H : Runs ops_sinO0B0S1 [floatOfInt .f64 (j : Int), r1, xa] Q) : ∃ r e, Q (r :: e) ∧ Calls Tryd.prog 29 #[.float .f64 x] w fun e w' => e = .returned (.float .f64 r) ∧ w' = w := by
  have HN := Lib.hid (isNaN_any x w)
  rw [order_self hf] at HN
  have HI := Lib.hid (isInf_fin x hx hf w)
  subst hneg
  have f0 : ∀ w, Sem.run Tryd.prog (binOp .mul 22 (.float .f64 x) (.float .f64 4608412980311869571)) w = .ok (.float .f64 r1) w := fun w => run_float_arith w .mul _ .f64 _ _ _ e0
  have cv : ∀ w, Sem.run Tryd.prog (convert 22 33 (.float .f64 r1)) w = .ok (.int .u64 (j : Int)) w := fun w => run_convert_float_int w _ _ .f64 .u64 r1 j (by kernel_rfl) (by kernel_rfl) hc
  have cw : ∀ w, Sem.run Tryd.prog (convert 33 22 (.int .u64 (j : Int))) w = .ok (.float .f64 (floatOfInt .f64 (j : Int))) w := fun w => run_convert_int_float w _ _ .u64 .f64 _ (by kernel_rfl) (by kernel_rfl)
  obtain ⟨y, hy⟩ : ∃ y, floatOfInt .f64 (j : Int) = y := ⟨_, rfl⟩
  rw [hy] at cw H
  have c9_0 := T.sin.cell 0 4460209587652500685 rfl
  have c9_1 := T.sin.cell 1 13716528389658582877 rfl
  have c9_2 := T.sin.cell 2 4523617212962785441 rfl
  have c9_3 := T.sin.cell 3 13774824197404483331 rfl
  have c9_4 := T.sin.cell 4 4575957461383575504 rfl
  have c9_5 := T.sin.cell 5 13818544856648471880 rfl
  obtain ⟨r2, er2, r3, er3, r4, er4, r5, er5, r6, er6, r7, er7, r8, er8, r9, er9, r10, er10, r11, er11, r12, er12, r13, er13, r14, er14, r15, er15, r16, er16, r17, er17, r18, er18, r19, er19, r20, er20, r21, er21, r22, er22, hQ⟩ := H
  have fr2 : ∀ w, Sem.run Tryd.prog (binOp .mul 22 (.float .f64 y) (.float .f64 4605249456957292544)) w = .ok (.float .f64 r2) w := fun w => run_float_arith w .mul _ .f64 _ _ _ er2
  have fr3 : ∀ w, Sem.run Tryd.prog (binOp .sub 22 (.float .f64 x) (.float .f64 r2)) w = .ok (.float .f64 r3) w := fun w => run_float_arith w .sub _ .f64 _ _ _ er3
  have fr4 : ∀ w, Sem.run Tryd.prog (binOp .mul 22 (.float .f64 y) (.float .f64 4495793288086814720)) w = .ok (.float .f64 r4) w := fun w => run_float_arith w .mul _ .f64 _ _ _ er4
  have fr5 : ∀ w, Sem.run Tryd.prog (binOp .sub 22 (.float .f64 r3) (.float .f64 r4)) w = .ok (.float .f64 r5) w := fun w => run_float_arith w .sub _ .f64 _ _ _ er5
  have fr6 : ∀ w, Sem.run Tryd.prog (binOp .mul 22 (.float .f64 y) (.float .f64 4388835458085048688)) w = .ok (.float .f64 r6) w := fun w => run_float_arith w .mul _ .f64 _ _ _ er6
  have fr7 : ∀ w, Sem.run Tryd.prog (binOp .sub 22 (.float .f64 r5) (.float .f64 r6)) w = .ok (.float .f64 r7) w := fun w => run_float_arith w .sub _ .f64 _ _ _ er7
  have fr8 : ∀ w, Sem.run Tryd.prog (binOp .mul 22 (.float .f64 r7) (.float .f64 r7)) w = .ok (.float .f64 r8) w := fun w => run_float_arith w .mul _ .f64 _ _ _ er8
  have fr9 : ∀ w, Sem.run Tryd.prog (binOp .mul 22 (.float .f64 r7) (.float .f64 r8)) w = .ok (.float .f64 r9) w := fun w => run_float_arith w .mul _ .f64 _ _ _ er9
  have fr10 : ∀ w, Sem.run Tryd.prog (binOp .mul 22 (.float .f64 4460209587652500685) (.float .f64 r8)) w = .ok (.float .f64 r10) w := fun w => run_float_arith w .mul _ .f64 _ _ _ er10
  have fr11 : ∀ w, Sem.run Tryd.prog (binOp .add 22 (.float .f64 r10) (.float .f64 13716528389658582877)) w = .ok (.float .f64 r11) w := fun w => run_float_arith w .add _ .f64 _ _ _ er11
  have fr12 : ∀ w, Sem.run Tryd.prog (binOp .mul 22 (.float .f64 r11) (.float .f64 r8)) w = .ok (.float .f64 r12) w := fun w => run_float_arith w .mul _ .f64 _ _ _ er12
  have fr13 : ∀ w, Sem.run Tryd.prog (binOp .add 22 (.float .f64 r12) (.float .f64 4523617212962785441)) w = .ok (.float .f64 r13) w := fun w => run_float_arith w .add _ .f64 _ _ _ er13
  have fr14 : ∀ w, Sem.run Tryd.prog (binOp .mul 22 (.float .f64 r13) (.float .f64 r8)) w = .ok (.float .f64 r14) w := fun w => run_float_arith w .mul _ .f64 _ _ _ er14
  have fr15 : ∀ w, Sem.run Tryd.prog (binOp .add 22 (.float .f64 r14) (.float .f64 13774824197404483331)) w = .ok (.float .f64 r15) w := fun w => run_float_arith w .add _ .f64 _ _ _ er15
  have fr16 : ∀ w, Sem.run Tryd.prog (binOp .mul 22 (.float .f64 r15) (.float .f64 r8)) w = .ok (.float .f64 r16) w := fun w => run_float_arith w .mul _ .f64 _ _ _ er16
  have fr17 : ∀ w, Sem.run Tryd.prog (binOp .add 22 (.float .f64 r16) (.float .f64 4575957461383575504)) w = .ok (.float .f64 r17) w := fun w => run_float_arith w .add _ .f64 _ _ _ er17
  have fr18 : ∀ w, Sem.run Tryd.prog (binOp .mul 22 (.float .f64 r17) (.float .f64 r8)) w = .ok (.float .f64 r18) w := fun w => run_float_arith w .mul _ .f64 _ _ _ er18
  have fr19 : ∀ w, Sem.run Tryd.prog (binOp .add 22 (.float .f64 r18) (.float .f64 13818544856648471880)) w = .ok (.float .f64 r19) w := fun w => run_float_arith w .add _ .f64 _ _ _ er19
  have fr20 : ∀ w, Sem.run Tryd.prog (binOp .mul 22 (.float .f64 r9) (.float .f64 r19)) w = .ok (.float .f64 r20) w := fun w => run_float_arith w .mul _ .f64 _ _ _ er20
  have fr21 : ∀ w, Sem.run Tryd.prog (binOp .add 22 (.float .f64 r7) (.float .f64 r20)) w = .ok (.float .f64 r21) w := fun w => run_float_arith w .add _ .f64 _ _ _ er21
  have fr22 : ∀ w, Sem.run Tryd.prog (Op.unary .neg (.float .f64 r21)) w = .ok (.float .f64 r22) w := fun w => run_neg w (Option.some.inj er22)
  refine ⟨r22, _, hQ, ?_⟩
  clear hQ e0 hc hy hf hx er2 er3 er4 er5 er6 er7 er8 er9 er10 er11 er12 er13 er14 er15 er16 er17 er18 er19 er20 er21 er22
  go_enter Tryd.func29, Tryd.ntmps29
  go_wp2_with fail
  refine HN.out.mono ?_
  rintro e w1 ⟨rfl, hw⟩
  obtain rfl : w = w1 := hw.symm
  go_wp2_with fail
  refine HI.out.mono ?_
  rintro e w1 ⟨rfl, hw⟩
  obtain rfl : w = w1 := hw.symm
  go_wp2_with fail
  go_ret
  exact ⟨rfl, rfl⟩
def ops_sinO0B1S1 : List (Nat × Sum Nat Nat × Sum Nat Nat) := [(2, .inl 0, .inr 4605249456957292544), (1, .inl 3, .inl 0), (2, .inl 2, .inr 4495793288086814720), (1, .inl 1, .inl 0), (2, .inl 4, .inr 4388835458085048688), (1, .inl 1, .inl 0), (2, .inl 0, .inl 0), (2, .inr 4602678819172646912, .inl 0), (1, .inr 4607182418800017408, .inl 0), (2, .inl 2, .inl 2), (2, .inr 13666448263388469915, .inl 3), (0, .inl 0, .inr 4477121864728985349), (2, .inl 0, .inl 5), (0, .inl 0, .inr 13732177093698800582), (2, .inl 0, .inl 7), (0, .inl 0, .inr 4537941361668146421), (2, .inl 0, .inl 9), (0, .inl 0, .inr 13787419979223748497), (2, .inl 0, .inl 11), (0, .inl 0, .inr 4586165620538955083), (2, .inl 10, .inl 0), (0, .inl 12, .inl 0), (4, .inl 0, .inr 0)]
set_option maxRecDepth 100000 in
theorem sin_p06 (x xa r1 j : Nat) (hx : x < 2 ^ 64) (hf : Fnt x) (hj : j ≤ 30) (hn : FloatKind.f64.format.order x 0 = some .gt) (hneg : x = xa) (oth : (FloatKind.f64.format.order xa 4737786807993761792 == some .gt || FloatKind.f64.format.order xa 4737786807993761792 == some .eq) = false) (e0 : Ieee.double.mul xa 4608412980311869571 = some r1) (hc : floatToIntVal .f64 r1 .u64 = some (j : Int))
    (b1 : bits .and .u64 (j : Int) 1 = 0) (b7 : bits .and .u64 ((j : Int)) 7 = 6) (w : World) (T : Tabs w) {Q : List Nat → Prop} (H : Runs ops_sinO0B1S1 [floatOfInt .f64 (j : Int), r1, xa] Q) : ∃ r e, Q (r :: e) ∧ Calls Tryd.prog 29 #[.float .f64 x] w fun e w' => e = .returned (.float .f64 r) ∧ w' = w := by
  have HN := Lib.hid (isNaN_any x w)
  rw [order_self hf] at HN
  have HI := Lib.hid (isInf_fin x hx hf w)
  subst hneg
  have f0 : ∀ w, Sem.run Tryd.prog (binOp .mul 22 (.float .f64 x) (.float .f64 4608412980311869571)) w = .ok (.float .f64 r1) w := fun w => run_float_arith w .mul _ .f64 _ _ _ e0
  have cv : ∀ w, Sem.run Tryd.prog (convert 22 33 (.float .f64 r1)) w = .ok (.int .u64 (j : Int)) w := fun w => run_convert_float_int w _ _ .f64 .u64 r1 j (by kernel_rfl) (by kernel_rfl) hc
  have cw : ∀ w, Sem.run Tryd.prog (convert 33 22 (.int .u64 (j : Int))) w = .ok (.float .f64 (floatOfInt .f64 (j : Int))) w := fun w => run_convert_int_float w _ _ .u64 .f64 _ (by kernel_rfl) (by kernel_rfl)
  obtain ⟨y, hy⟩ : ∃ y, floatOfInt .f64 (j : Int) = y := ⟨_, rfl⟩
  rw [hy] at cw H
  have c8_0 := T.cos.cell 0 13666448263388469915 rfl
  have c8_1 := T.cos.cell 1 4477121864728985349 rfl
  have c8_2 := T.cos.cell 2 13732177093698800582 rfl
  have c8_3 := T.cos.cell 3 4537941361668146421 rfl
  have c8_4 := T.cos.cell 4 13787419979223748497 rfl
  have c8_5 := T.cos.cell 5 4586165620538955083 rfl
  obtain ⟨r2, er2, r3, er3, r4, er4, r5, er5, r6, er6, r7, er7, r8, er8, r9, er9, r10, er10, r11, er11, r12, er12, r13, er13, r14, er14, r15, er15, r16, er16, r17, er17, r18, er18, r19, er19, r20, er20, r21, er21, r22, er22, r23, er23, r24, er24, hQ⟩ := H
  have fr2 : ∀ w, Sem.run Tryd.prog (binOp .mul 22 (.float .f64 y) (.float .f64 4605249456957292544)) w = .ok (.float .f64 r2) w := fun w => run_float_arith w .mul _ .f64 _ _ _ er2
  have fr3 : ∀ w, Sem.run Tryd.prog (binOp .sub 22 (.float .f64 x) (.float .f64 r2)) w = .ok (.float .f64 r3) w := fun w => run_float_arith w .sub _ .f64 _ _ _ er3
  have fr4 : ∀ w, Sem.run Tryd.prog (binOp .mul 22 (.float .f64 y) (.float .f64 4495793288086814720)) w = .ok (.float .f64 r4) w := fun w => run_float_arith w .mul _ .f64 _ _ _ er4
  have fr5 : ∀ w, Sem.run Tryd.prog (binOp .sub 22 (.float .f64 r3) (.float .f64 r4)) w = .ok (.float .f64 r5) w := fun w => run_float_arith w .sub _ .f64 _ _ _ er5
  have fr6 : ∀ w, Sem.run Tryd.prog (binOp .mul 22 (.float .f64 y) (.float .f64 4388835458085048688)) w = .ok (.float .f64 r6) w := fun w => run_float_arith w .mul _ .f64 _ _ _ er6
  have fr7 : ∀ w, Sem.run Tryd.prog (binOp .sub 22 (.float .f64 r5) (.float .f64 r6)) w = .ok (.float .f64 r7) w := fun w => run_float_arith w .sub _ .f64 _ _ _ er7
  have fr8 : ∀ w, Sem.run Tryd.prog (binOp .mul 22 (.float .f64 r7) (.float .f64 r7)) w = .ok (.float .f64 r8) w := fun w => run_float_arith w .mul _ .f64 _ _ _ er8
  have fr9 : ∀ w, Sem.run Tryd.prog (binOp .mul 22 (.float .f64 4602678819172646912) (.float .f64 r8)) w = .ok (.float .f64 r9) w := fun w => run_float_arith w .mul _ .f64 _ _ _ er9
  have fr10 : ∀ w, Sem.run Tryd.prog (binOp .sub 22 (.float .f64 4607182418800017408) (.float .f64 r9)) w = .ok (.float .f64 r10) w := fun w => run_float_arith w .sub _ .f64 _ _ _ er10
  have fr11 : ∀ w, Sem.run Tryd.prog (binOp .mul 22 (.float .f64 r8) (.float .f64 r8)) w = .ok (.float .f64 r11) w := fun w => run_float_arith w .mul _ .f64 _ _ _ er11
  have fr12 : ∀ w, Sem.run Tryd.prog (binOp .mul 22 (.float .f64 13666448263388469915) (.float .f64 r8)) w = .ok (.float .f64 r12) w := fun w => run_float_arith w .mul _ .f64 _ _ _ er12
  have fr13 : ∀ w, Sem.run Tryd.prog (binOp .add 22 (.float .f64 r12) (.float .f64 4477121864728985349)) w = .ok (.float .f64 r13) w := fun w => run_float_arith w .add _ .f64 _ _ _ er13
  have fr14 : ∀ w, Sem.run Tryd.prog (binOp .mul 22 (.float .f64 r13) (.float .f64 r8)) w = .ok (.float .f64 r14) w := fun w => run_float_arith w .mul _ .f64 _ _ _ er14
  have fr15 : ∀ w, Sem.run Tryd.prog (binOp .add 22 (.float .f64 r14) (.float .f64 13732177093698800582)) w = .ok (.float .f64 r15) w := fun w => run_float_arith w .add _ .f64 _ _ _ er15
  have fr16 : ∀ w, Sem.run Tryd.prog (binOp .mul 22 (.float .f64 r15) (.float .f64 r8)) w = .ok (.float .f64 r16) w := fun w => run_float_arith w .mul _ .f64 _ _ _ er16
  have fr17 : ∀ w, Sem.run Tryd.prog (binOp .add 22 (.float .f64 r16) (.float .f64 4537941361668146421)) w = .ok (.float .f64 r17) w := fun w => run_float_arith w .add _ .f64 _ _ _ er17
  have fr18 : ∀ w, Sem.run Tryd.prog (binOp .mul 22 (.float .f64 r17) (.float .f64 r8)) w = .ok (.float .f64 r18) w := fun w => run_float_arith w .mul _ .f64 _ _ _ er18
  have fr19 : ∀ w, Sem.run Tryd.prog (binOp .add 22 (.float .f64 r18) (.float .f64 13787419979223748497)) w = .ok (.float .f64 r19) w := fun w => run_float_arith w .add _ .f64 _ _ _ er19
  have fr20 : ∀ w, Sem.run Tryd.prog (binOp .mul 22 (.float .f64 r19) (.float .f64 r8)) w = .ok (.float .f64 r20) w := fun w => run_float_arith w .mul _ .f64 _ _ _ er20
  have fr21 : ∀ w, Sem.run Tryd.prog (binOp .add 22 (.float .f64 r20) (.float .f64 4586165620538955083)) w = .ok (.float .f64 r21) w := fun w => run_float_arith w .add _ .f64 _ _ _ er21
  have fr22 : ∀ w, Sem.run Tryd.prog (binOp .mul 22 (.float .f64 r11) (.float .f64 r21)) w = .ok (.float .f64 r22) w := fun w => run_float_arith w .mul _ .f64 _ _ _ er22
  have fr23 : ∀ w, Sem.run Tryd.prog (binOp .add 22 (.float .f64 r10) (.float .f64 r22)) w = .ok (.float .f64 r23) w := fun w => run_float_arith w .add _ .f64 _ _ _ er23
  have fr24 : ∀ w, Sem.run Tryd.prog (Op.unary .neg (.float .f64 r23)) w = .ok (.float .f64 r24) w := fun w => run_neg w (Option.some.inj er24)
  refine ⟨r24, _, hQ, ?_⟩
  clear hQ e0 hc hy hf hx er2 er3 er4 er5 er6 er7 er8 er9 er10 er11 er12 er13 er14 er15 er16 er17 er18 er19 er20 er21 er22 er23 er24
  go_enter Tryd.func29, Tryd.ntmps29
  go_wp2_with fail
  refine HN.out.mono ?_
  rintro e w1 ⟨rfl, hw⟩
  obtain rfl : w = w1 := hw.symm
  go_wp2_with fail
  refine HI.out.mono ?_
  rintro e w1 ⟨rfl, hw⟩
  obtain rfl : w = w1 := hw.symm
  go_wp2_with fail
  go_ret
  exact ⟨rfl, rfl⟩
def ops_sinO1B0S0 : List (Nat × Sum Nat Nat × Sum Nat Nat) := [(0, .inl 0, .inr 4607182418800017408), (2, .inl 0, .inr 4605249456957292544), (1, .inl 4, .inl 0), (2, .inl 2, .inr 4495793288086814720), (1, .inl 1, .inl 0), (2, .inl 4, .inr 4388835458085048688), (1, .inl 1, .inl 0), (2, .inl 0, .inl 0), (2, .inl 1, .inl 0), (2, .inr 4460209587652500685, .inl 1), (0, .inl 0, .inr 13716528389658582877), (2, .inl 0, .inl 3), (0, .inl 0, .inr 4523617212962785441), (2, .inl 0, .inl 5), (0, .inl 0, .inr 13774824197404483331), (2, .inl 0, .inl 7), (0, .inl 0, .inr 4575957461383575504), (2, .inl 0, .inl 9), (0, .inl 0, .inr 13818544856648471880), (2, .inl 10, .inl 0), (0, .inl 13, .inl 0)]
set_option maxRecDepth 100000 in
theorem sin_p10 (x xa r1 j : Nat) (hx : x < 2 ^ 64) (hf : Fnt x) (hj : j ≤ 30) (hn : FloatKind.f64.format.order x 0 = some .gt) (hneg : x = xa) (oth : (FloatKind.f64.format.order xa 4737786807993761792 == some .gt || FloatKind.f64.format.order xa 4737786807993761792 == some .eq) = false) (e0 : Ieee.double.mul xa 4608412980311869571 = some r1) (hc : floatToIntVal .f64 r1 .u64 = some (j : Int))
    (b1 : bits .and .u64 (j : Int) 1 = 1) (b7 : bits .and .u64 ((j : Int) + 1) 7 = 0) (w : World) (T : Tabs w) {Q : List Nat → Prop} (H : Runs ops_sinO1B0S0 [floatOfInt .f64 (j : Int), r1, xa] Q) : ∃ r e, Q (r :: e) ∧ Calls Tryd.prog 29 #[.float .f64 x] w fun e w' => e = .returned (.float .f64 r) ∧ w' = w := by
  have HN := Lib.hid (isNaN_any x w)
  rw [order_self hf] at HN
  have HI := Lib.hid (isInf_fin x hx hf w)
  subst hneg
  have f0 : ∀ w, Sem.run Tryd.prog (binOp .mul 22 (.float .f64 x) (.float .f64 4608412980311869571)) w = .ok (.float .f64 r1) w := fun w => run_float_arith w .mul _ .f64 _ _ _ e0
  have cv : ∀ w, Sem.run Tryd.prog (convert 22 33 (.float .f64 r1)) w = .ok (.int .u64 (j : Int)) w := fun w => run_convert_float_int w _ _ .f64 .u64 r1 j (by kernel_rfl) (by kernel_rfl) hc
  have cw : ∀ w, Sem.run Tryd.prog (convert 33 22 (.int .u64 (j : Int))) w = .ok (.float .f64 (floatOfInt .f64 (j : Int))) w := fun w => run_convert_int_float w _ _ .u64 .f64 _ (by kernel_rfl) (by kernel_rfl)
  obtain ⟨y, hy⟩ : ∃ y, floatOfInt .f64 (j : Int) = y := ⟨_, rfl⟩
  rw [hy] at cw H
  have c9_0 := T.sin.cell 0 4460209587652500685 rfl
  have c9_1 := T.sin.cell 1 13716528389658582877 rfl
  have c9_2 := T.sin.cell 2 4523617212962785441 rfl
  have c9_3 := T.sin.cell 3 13774824197404483331 rfl
  have c9_4 := T.sin.cell 4 4575957461383575504 rfl
  have c9_5 := T.sin.cell 5 13818544856648471880 rfl
  obtain ⟨r2, er2, r3, er3, r4, er4, r5, er5, r6, er6, r7, er7, r8, er8, r9, er9, r10, er10, r11, er11, r12, er12, r13, er13, r14, er14, r15, er15, r16, er16, r17, er17, r18, er18, r19, er19, r20, er20, r21, er21, r22, er22, hQ⟩ := H
  have fr2 : ∀ w, Sem.run Tryd.prog (binOp .add 22 (.float .f64 y) (.float .f64 4607182418800017408)) w = .ok (.float .f64 r2) w := fun w => run_float_arith w .add _ .f64 _ _ _ er2
  have fr3 : ∀ w, Sem.run Tryd.prog (binOp .mul 22 (.float .f64 r2) (.float .f64 4605249456957292544)) w = .ok (.float .f64 r3) w := fun w => run_float_arith w .mul _ .f64 _ _ _ er3
  have fr4 : ∀ w, Sem.run Tryd.prog (binOp .sub 22 (.float .f64 x) (.float .f64 r3)) w = .ok (.float .f64 r4) w := fun w => run_float_arith w .sub _ .f64 _ _ _ er4
  have fr5 : ∀ w, Sem.run Tryd.prog (binOp .mul 22 (.float .f64 r2) (.float .f64 4495793288086814720)) w = .ok (.float .f64 r5) w := fun w => run_float_arith w .mul _ .f64 _ _ _ er5
  have fr6 : ∀ w, Sem.run Tryd.prog (binOp .sub 22 (.float .f64 r4) (.float .f64 r5)) w = .ok (.float .f64 r6) w := fun w => run_float_arith w .sub _ .f64 _ _ _ er6
  have fr7 : ∀ w, Sem.run Tryd.prog (binOp .mul 22 (.float .f64 r2) (.float .f64 4388835458085048688)) w = .ok (.float .f64 r7) w := fun w => run_float_arith w .mul _ .f64 _ _ _ er7
  have fr8 : ∀ w, Sem.run Tryd.prog (binOp .sub 22 (.float .f64 r6) (.float .f64 r7)) w = .ok (.float .f64 r8) w := fun w => run_float_arith w .sub _ .f64 _ _ _ er8
  have fr9 : ∀ w, Sem.run Tryd.prog (binOp .mul 22 (.float .f64 r8) (.float .f64 r8)) w = .ok (.float .f64 r9) w := fun w => run_float_arith w .mul _ .f64 _ _ _ er9
  have fr10 : ∀ w, Sem.run Tryd.prog (binOp .mul 22 (.float .f64 r8) (.float .f64 r9)) w = .ok (.float .f64 r10) w := fun w => run_float_arith w .mul _ .f64 _ _ _ er10
  have fr11 : ∀ w, Sem.run Tryd.prog (binOp .mul 22 (.float .f64 4460209587652500685) (.float .f64 r9)) w = .ok (.float .f64 r11) w := fun w => run_float_arith w .mul _ .f64 _ _ _ er11
  have fr12 : ∀ w, Sem.run Tryd.prog (binOp .add 22 (.float .f64 r11) (.float .f64 13716528389658582877)) w = .ok (.float .f64 r12) w := fun w => run_float_arith w .add _ .f64 _ _ _ er12
  have fr13 : ∀ w, Sem.run Tryd.prog (binOp .mul 22 (.float .f64 r12) (.float .f64 r9)) w = .ok (.float .f64 r13) w := fun w => run_float_arith w .mul _ .f64 _ _ _ er13
  have fr14 : ∀ w, Sem.run Tryd.prog (binOp .add 22 (.float .f64 r13) (.float .f64 4523617212962785441)) w = .ok (.float .f64 r14) w := fun w => run_float_arith w .add _ .f64 _ _ _ er14
  have fr15 : ∀ w, Sem.run Tryd.prog (binOp .mul 22 (.float .f64 r14) (.float .f64 r9)) w = .ok (.float .f64 r15) w := fun w => run_float_arith w .mul _ .f64 _ _ _ er15
  have fr16 : ∀ w, Sem.run Tryd.prog (binOp .add 22 (.float .f64 r15) (.float .f64 13774824197404483331)) w = .ok (.float .f64 r16) w := fun w => run_float_arith w .add _ .f64 _ _ _ er16
  have fr17 : ∀ w, Sem.run Tryd.prog (binOp .mul 22 (.float .f64 r16) (.float .f64 r9)) w = .ok (.float .f64 r17) w := fun w => run_float_arith w .mul _ .f64 _ _ _ er17
  have fr18 : ∀ w, Sem.run Tryd.prog (binOp .add 22 (.float .f64 r17) (.float .f64 4575957461383575504)) w = .ok (.float .f64 r18) w := fun w => run_float_arith w .add _ .f64 _ _ _ er18
  have fr19 : ∀ w, Sem.run Tryd.prog (binOp .mul 22 (.float .f64 r18) (.float .f64 r9)) w = .ok (.float .f64 r19) w := fun w => run_float_arith w .mul _ .f64 _ _ _ er19
  have fr20 : ∀ w, Sem.run Tryd.prog (binOp .add 22 (.float .f64 r19) (.float .f64 13818544856648471880)) w = .ok (.float .f64 r20) w := fun w => run_float_arith w .add _ .f64 _ _ _ er20
  have fr21 : ∀ w, Sem.run Tryd.prog (binOp .mul 22 (.float .f64 r10) (.float .f64 r20)) w = .ok (.float .f64 r21) w := fun w => run_float_arith w .mul _ .f64 _ _ _ er21
  have fr22 : ∀ w, Sem.run Tryd.prog (binOp .add 22 (.float .f64 r8) (.float .f64 r21)) w = .ok (.float .f64 r22) w := fun w => run_float_arith w .add _ .f64 _ _ _ er22
  refine ⟨r22, _, hQ, ?_⟩
  clear hQ e0 hc hy hf hx er2 er3 er4 er5 er6 er7 er8 er9 er10 er11 er12 er13 er14 er15 er16 er17 er18 er19 er20 er21 er22
  go_enter Tryd.func29, Tryd.ntmps29
  go_wp2_with fail
  refine HN.out.mono ?_
  rintro e w1 ⟨rfl, hw⟩
  obtain rfl : w = w1 := hw.symm
  go_wp2_with fail
  refine HI.out.mono ?_
  rintro e w1 ⟨rfl, hw⟩
  obtain rfl : w = w1 := hw.symm
  go_wp2_with fail
  go_ret
  exact ⟨rfl, rfl⟩
def ops_sinO1B1S0 : List (Nat × Sum Nat Nat × Sum Nat Nat) := [(0, .inl 0, .inr 4607182418800017408), (2, .inl 0, .inr 4605249456957292544), (1, .inl 4, .inl 0), (2, .inl 2, .inr 4495793288086814720), (1, .inl 1, .inl 0), (2, .inl 4, .inr 4388835458085048688), (1, .inl 1, .inl 0), (2, .inl 0, .inl 0), (2, .inr 4602678819172646912, .inl 0), (1, .inr 4607182418800017408, .inl 0), (2, .inl 2, .inl 2), (2, .inr 13666448263388469915, .inl 3), (0, .inl 0, .inr 4477121864728985349), (2, .inl 0, .inl 5), (0, .inl 0, .inr 13732177093698800582), (2, .inl 0, .inl 7), (0, .inl 0, .inr 4537941361668146421), (2, .inl 0, .inl 9), (0, .inl 0, .inr 13787419979223748497), (2, .inl 0, .inl 11), (0, .inl 0, .inr 4586165620538955083), (2, .inl 10, .inl 0), (0, .inl 12, .inl 0)]
set_option maxRecDepth 100000 in
theorem sin_p12 (x xa r1 j : Nat) (hx : x < 2 ^ 64) (hf : Fnt x) (hj : j ≤ 30) (hn : FloatKind.f64.format.order x 0 = some .gt) (hneg : x = xa) (oth : (FloatKind.f64.format.order xa 4737786807993761792 == some .gt || FloatKind.f64.format.order xa 4737786807993761792 == some .eq) = false) (e0 : Ieee.double.mul xa 4608412980311869571 = some r1) (hc : floatToIntVal .f64 r1 .u64 = some (j : Int))
    (b1 : bits .and .u64 (j : Int) 1 = 1) (b7 : bits .and .u64 ((j : Int) + 1) 7 = 2) (w : World) (T : Tabs w) {Q : List Nat → Prop} (H : Runs ops_sinO1B1S0 [floatOfInt .f64 (j : Int), r1, xa] Q) : ∃ r e, Q (r :: e) ∧ Calls Tryd.prog 29 #[.float .f64 x] w fun e w' => e = .returned (.float .f64 r) ∧ w' = w := by
  have HN := Lib.hid (isNaN_any x w)
  rw [order_self hf] at HN
  have HI := Lib.hid (isInf_fin x hx hf w)
  subst hneg
  have f0 : ∀ w, Sem.run Tryd.prog (binOp .mul 22 (.float .f64 x) (.float .f64 4608412980311869571)) w = .ok (.float .f64 r1) w := fun w => run_float_arith w .mul _ .f64 _ _ _ e0
  have cv : ∀ w, Sem.run Tryd.prog (convert 22 33 (.float .f64 r1)) w = .ok (.int .u64 (j : Int)) w := fun w => run_convert_float_int w _ _ .f64 .u64 r1 j (by kernel_rfl) (by kernel_rfl) hc
  have cw : ∀ w, Sem.run Tryd.prog (convert 33 22 (.int .u64 (j : Int))) w = .ok (.float .f64 (floatOfInt .f64 (j : Int))) w := fun w => run_convert_int_float w _ _ .u64 .f64 _ (by kernel_rfl) (by kernel_rfl)
  obtain ⟨y, hy⟩ : ∃ y, floatOfInt .f64 (j : Int) = y := ⟨_, rfl⟩
  rw [hy] at cw H
  have c8_0 := T.cos.cell 0 13666448263388469915 rfl
  have c8_1 := T.cos.cell 1 4477121864728985349 rfl
  have c8_2 := T.cos.cell 2 13732177093698800582 rfl
  have c8_3 := T.cos.cell 3 4537941361668146421 rfl
  have c8_4 := T.cos.cell 4 13787419979223748497 rfl
  have c8_5 := T.cos.cell 5 4586165620538955083 rfl
  obtain ⟨r2, er2, r3, er3, r4, er4, r5, er5, r6, er6, r7, er7, r8, er8, r9, er9, r10, er10, r11, er11, r12, er12, r13, er13, r14, er14, r15, er15, r16, er16, r17, er17, r18, er18, r19, er19, r20, er20, r21, er21, r22, er22, r23, er23, r24, er24, hQ⟩ := H
  have fr2 : ∀ w, Sem.run Tryd.prog (binOp .add 22 (.float .f64 y) (.float .f64 4607182418800017408)) w = .ok (.float .f64 r2) w := fun w => run_float_arith w .add _ .f64 _ _ _ er2
  have fr3 : ∀ w, Sem.run Tryd.prog (binOp .mul 22 (.float .f64 r2) (.float .f64 4605249456957292544)) w = .ok (.float .f64 r3) w := fun w => run_float_arith w .mul _ .f64 _ _ _ er3
  have fr4 : ∀ w, Sem.run Tryd.prog (binOp .sub 22 (.float .f64 x) (.float .f64 r3)) w = .ok (.float .f64 r4) w := fun w => run_float_arith w .sub _ .f64 _ _ _ er4
  have fr5 : ∀ w, Sem.run Tryd.prog (binOp .mul 22 (.float .f64 r2) (.float .f64 4495793288086814720)) w = .ok (.float .f64 r5) w := fun w => run_float_arith w .mul _ .f64 _ _ _ er5
  have fr6 : ∀ w, Sem.run Tryd.prog (binOp .sub 22 (.float .f64 r4) (.float .f64 r5)) w = .ok (.float .f64 r6) w := fun w => run_float_arith w .sub _ .f64 _ _ _ er6
  have fr7 : ∀ w, Sem.run Tryd.prog (binOp .mul 22 (.float .f64 r2) (.float .f64 4388835458085048688)) w = .ok (.float .f64 r7) w := fun w => run_float_arith w .mul _ .f64 _ _ _ er7
  have fr8 : ∀ w, Sem.run Tryd.prog (binOp .sub 22 (.float .f64 r6) (.float .f64 r7)) w = .ok (.float .f64 r8) w := fun w => run_float_arith w .sub _ .f64 _ _ _ er8
  have fr9 : ∀ w, Sem.run Tryd.prog (binOp .mul 22 (.float .f64 r8) (.float .f64 r8)) w = .ok (.float .f64 r9) w := fun w => run_float_arith w .mul _ .f64 _ _ _ er9
  have fr10 : ∀ w, Sem.run Tryd.prog (binOp .mul 22 (.float .f64 4602678819172646912) (.float .f64 r9)) w = .ok (.float .f64 r10) w := fun w => run_float_arith w .mul _ .f64 _ _ _ er10
  have fr11 : ∀ w, Sem.run Tryd.prog (binOp .sub 22 (.float .f64 4607182418800017408) (.float .f64 r10)) w = .ok (.float .f64 r11) w := fun w => run_float_arith w .sub _ .f64 _ _ _ er11
  have fr12 : ∀ w, Sem.run Tryd.prog (binOp .mul 22 (.float .f64 r9) (.float .f64 r9)) w = .ok (.float .f64 r12) w := fun w => run_float_arith w .mul _ .f64 _ _ _ er12
  have fr13 : ∀ w, Sem.run Tryd.prog (binOp .mul 22 (.float .f64 13666448263388469915) (.float .f64 r9)) w = .ok (.float .f64 r13) w := fun w => run_float_arith w .mul _ .f64 _ _ _ er13
  have fr14 : ∀ w, Sem.run Tryd.prog (binOp .add 22 (.float .f64 r13) (.float .f64 4477121864728985349)) w = .ok (.float .f64 r14) w := fun w => run_float_arith w .add _ .f64 _ _ _ er14
  have fr15 : ∀ w, Sem.run Tryd.prog (binOp .mul 22 (.float .f64 r14) (.float .f64 r9)) w = .ok (.float .f64 r15) w := fun w => run_float_arith w .mul _ .f64 _ _ _ er15
  have fr16 : ∀ w, Sem.run Tryd.prog (binOp .add 22 (.float .f64 r15) (.float .f64 13732177093698800582)) w = .ok (.float .f64 r16) w := fun w => run_float_arith w .add _ .f64 _ _ _ er16
  have fr17 : ∀ w, Sem.run Tryd.prog (binOp .mul 22 (.float .f64 r16) (.float .f64 r9)) w = .ok (.float .f64 r17) w := fun w => run_float_arith w .mul _ .f64 _ _ _ er17
  have fr18 : ∀ w, Sem.run Tryd.prog (binOp .add 22 (.float .f64 r17) (.float .f64 4537941361668146421)) w = .ok (.float .f64 r18) w := fun w => run_float_arith w .add _ .f64 _ _ _ er18
  have fr19 : ∀ w, Sem.run Tryd.prog (binOp .mul 22 (.float .f64 r18) (.float .f64 r9)) w = .ok (.float .f64 r19) w := fun w => run_float_arith w .mul _ .f64 _ _ _ er19
  have fr20 : ∀ w, Sem.run Tryd.prog (binOp .add 22 (.float .f64 r19) (.float .f64 13787419979223748497)) w = .ok (.float .f64 r20) w := fun w => run_float_arith w .add _ .f64 _ _ _ er20
  have fr21 : ∀ w, Sem.run Tryd.prog (binOp .mul 22 (.float .f64 r20) (.float .f64 r9)) w = .ok (.float .f64 r21) w := fun w => run_float_arith w .mul _ .f64 _ _ _ er21
  have fr22 : ∀ w, Sem.run Tryd.prog (binOp .add 22 (.float .f64 r21) (.float .f64 4586165620538955083)) w = .ok (.float .f64 r22) w := fun w => run_float_arith w .add _ .f64 _ _ _ er22
  have fr23 : ∀ w, Sem.run Tryd.prog (binOp .mul 22 (.float .f64 r12) (.float .f64 r22)) w = .ok (.float .f64 r23) w := fun w => run_float_arith w .mul _ .f64 _ _ _ er23
  have fr24 : ∀ w, Sem.run Tryd.prog (binOp .add 22 (.float .f64 r11) (.float .f64 r23)) w = .ok (.float .f64 r24) w := fun w => run_float_arith w .add _ .f64 _ _ _ er24
  refine ⟨r24, _, hQ, ?_⟩
  clear hQ e0 hc hy hf hx er2 er3 er4 er5 er6 er7 er8 er9 er10 er11 er12 er13 er14 er15 er16 er17 er18 er19 er20 er21 er22 er23 er24
  go_enter Tryd.func29, Tryd.ntmps29
  go_wp2_with fail
  refine HN.out.mono ?_
  rintro e w1 ⟨rfl, hw⟩
  obtain rfl : w = w1 := hw.symm
  go_wp2_with fail
  refine HI.out.mono ?_
  rintro e w1 ⟨rfl, hw⟩
  obtain rfl : w = w1 := hw.symm
  go_wp2_with fail
  go_ret
  exact ⟨rfl, rfl⟩
def ops_sinO1B0S1 : List (Nat × Sum Nat Nat × Sum Nat Nat) := [(0, .inl 0, .inr 4607182418800017408), (2, .inl 0, .inr 4605249456957292544), (1, .inl 4, .inl 0), (2, .inl 2, .inr 4495793288086814720), (1, .inl 1, .inl 0), (2, .inl 4, .inr 4388835458085048688), (1, .inl 1, .inl 0), (2, .inl 0, .inl 0), (2, .inl 1, .inl 0), (2, .inr 4460209587652500685, .inl 1), (0, .inl 0, .inr 13716528389658582877), (2, .inl 0, .inl 3), (0, .inl 0, .inr 4523617212962785441), (2, .inl 0, .inl 5), (0, .inl 0, .inr 13774824197404483331), (2, .inl 0, .inl 7), (0, .inl 0, .inr 4575957461383575504), (2, .inl 0, .inl 9), (0, .inl 0, .inr 13818544856648471880), (2, .inl 10, .inl 0), (0, .inl 13, .inl 0), (4, .inl 0, .inr 0)]
set_option maxRecDepth 100000 in
theorem sin_p14 (x xa r1 j : Nat) (hx : x < 2 ^ 64) (hf : Fnt x) (hj : j ≤ 30) (hn : FloatKind.f64.format.order x 0 = some .gt) (hneg : x = xa) (oth : (FloatKind.f64.format.order xa 4737786807993761792 == some .gt || FloatKind.f64.format.order xa 4737786807993761792 == some .eq) = false) (e0 : Ieee.double.mul xa 4608412980311869571 = some r1) (hc : floatToIntVal .f64 r1 .u64 = some (j : Int))
    (b1 : bits .and .u64 (j : Int) 1 = 1) (b7 : bits .and .u64 ((j : Int) + 1) 7 = 4) (w : World) (T : Tabs w) {Q : List Nat → Prop} (H : Runs ops_sinO1B0S1 [floatOfInt .f64 (j : Int), r1, xa] Q) : ∃ r e, Q (r :: e) ∧ Calls Tryd.prog 29 #[.float .f64 x] w fun e w' => e = .returned (.float .f64 r) ∧ w' = w := by
  have HN := Lib.hid (isNaN_any x w)
  rw [order_self hf] at HN
  have HI := Lib.hid (isInf_fin x hx hf w)
  subst hneg
  have f0 : ∀ w, Sem.run Tryd.prog (binOp .mul 22 (.float .f64 x) (.float .f64 4608412980311869571)) w = .ok (.float .f64 r1) w := fun w => run_float_arith w .mul _ .f64 _ _ _ e0
  have cv : ∀ w, Sem.run Tryd.prog (convert 22 33 (.float .f64 r1)) w = .ok (.int .u64 (j : Int)) w := fun w => run_convert_float_int w _ _ .f64 .u64 r1 j (by kernel_rfl) (by kernel_rfl) hc
  have cw : ∀ w, Sem.run Tryd.prog (convert 33 22 (.int .u64 (j : Int))) w = .ok (.float .f64 (floatOfInt .f64 (j : Int))) w := fun w => run_convert_int_float w _ _ .u64 .f64 _ (by kernel_rfl) (by kernel_rfl)
  obtain ⟨y, hy⟩ : ∃ y, floatOfInt .f64 (j : Int) = y := ⟨_, rfl⟩
  rw [hy] at cw H
  have c9_0 := T.sin.cell 0 4460209587652500685 rfl
  have c9_1 := T.sin.cell 1 13716528389658582877 rfl
  have c9_2 := T.sin.cell 2 4523617212962785441 rfl
  have c9_3 := T.sin.cell 3 13774824197404483331 rfl
  have c9_4 := T.sin.cell 4 4575957461383575504 rfl
  have c9_5 := T.sin.cell 5 13818544856648471880 rfl
  obtain ⟨r2, er2, r3, er3, r4, er4, r5, er5, r6, er6, r7, er7, r8, er8, r9, er9, r10, er10, r11, er11, r12, er12, r13, er13, r14, er14, r15, er15, r16, er16, r17, er17, r18, er18, r19, er19, r20, er20, r21, er21, r22, er22, r23, er23, hQ⟩ := H
  have fr2 : ∀ w, Sem.run Tryd.prog (binOp .add 22 (.float .f64 y) (.float .f64 4607182418800017408)) w = .ok (.float .f64 r2) w := fun w => run_float_arith w .add _ .f64 _ _ _ er2
  have fr3 : ∀ w, Sem.run Tryd.prog (binOp .mul 22 (.float .f64 r2) (.float .f64 4605249456957292544)) w = .ok (.float .f64 r3) w := fun w => run_float_arith w .mul _ .f64 _ _ _ er3
  have fr4 : ∀ w, Sem.run Tryd.prog (binOp .sub 22 (.float .f64 x) (.float .f64 r3)) w = .ok (.float .f64 r4) w := fun w => run_float_arith w .sub _ .f64 _ _ _ er4
  have fr5 : ∀ w, Sem.run Tryd.prog (binOp .mul 22 (.float .f64 r2) (.float .f64 4495793288086814720)) w = .ok (.float .f64 r5) w := fun w => run_float_arith w .mul _ .f64 _ _ _ er5
  have fr6 : ∀ w, Sem.run Tryd.prog (binOp .sub 22 (.float .f64 r4) (.float .f64 r5)) w = .ok (.float .f64 r6) w := fun w => run_float_arith w .sub _ .f64 _ _ _ er6
  have fr7 : ∀ w, Sem.run Tryd.prog (binOp .mul 22 (.float .f64 r2) (.float .f64 4388835458085048688)) w = .ok (.float .f64 r7) w := fun w => run_float_arith w .mul _ .f64 _ _ _ er7
  have fr8 : ∀ w, Sem.run Tryd.prog (binOp .sub 22 (.float .f64 r6) (.float .f64 r7)) w = .ok (.float .f64 r8) w := fun w => run_float_arith w .sub _ .f64 _ _ _ er8
  have fr9 : ∀ w, Sem.run Tryd.prog (binOp .mul 22 (.float .f64 r8) (.float .f64 r8)) w = .ok (.float .f64 r9) w := fun w => run_float_arith w .mul _ .f64 _ _ _ er9
  have fr10 : ∀ w, Sem.run Tryd.prog (binOp .mul 22 (.float .f64 r8) (.float .f64 r9)) w = .ok (.float .f64 r10) w := fun w => run_float_arith w .mul _ .f64 _ _ _ er10
  have fr11 : ∀ w, Sem.run Tryd.prog (binOp .mul 22 (.float .f64 4460209587652500685) (.float .f64 r9)) w = .ok (.float .f64 r11) w := fun w => run_float_arith w .mul _ .f64 _ _ _ er11
  have fr12 : ∀ w, Sem.run Tryd.prog (binOp .add 22 (.float .f64 r11) (.float .f64 13716528389658582877)) w = .ok (.float .f64 r12) w := fun w => run_float_arith w .add _ .f64 _ _ _ er12
  have fr13 : ∀ w, Sem.run Tryd.prog (binOp .mul 22 (.float .f64 r12) (.float .f64 r9)) w = .ok (.float .f64 r13) w := fun w => run_float_arith w .mul _ .f64 _ _ _ er13
  have fr14 : ∀ w, Sem.run Tryd.prog (binOp .add 22 (.float .f64 r13) (.float .f64 4523617212962785441)) w = .ok (.float .f64 r14) w := fun w => run_float_arith w .add _ .f64 _ _ _ er14
  have fr15 : ∀ w, Sem.run Tryd.prog (binOp .mul 22 (.float .f64 r14) (.float .f64 r9)) w = .ok (.float .f64 r15) w := fun w => run_float_arith w .mul _ .f64 _ _ _ er15
  have fr16 : ∀ w, Sem.run Tryd.prog (binOp .add 22 (.float .f64 r15) (.float .f64 13774824197404483331)) w = .ok (.float .f64 r16) w := fun w => run_float_arith w .add _ .f64 _ _ _ er16
  have fr17 : ∀ w, Sem.run Tryd.prog (binOp .mul 22 (.float .f64 r16) (.float .f64 r9)) w = .ok (.float .f64 r17) w := fun w => run_float_arith w .mul _ .f64 _ _ _ er17
  have fr18 : ∀ w, Sem.run Tryd.prog (binOp .add 22 (.float .f64 r17) (.float .f64 4575957461383575504)) w = .ok (.float .f64 r18) w := fun w => run_float_arith w .add _ .f64 _ _ _ er18
  have fr19 : ∀ w, Sem.run Tryd.prog (binOp .mul 22 (.float .f64 r18) (.float .f64 r9)) w = .ok (.float .f64 r19) w := fun w => run_float_arith w .mul _ .f64 _ _ _ er19
  have fr20 : ∀ w, Sem.run Tryd.prog (binOp .add 22 (.float .f64 r19) (.float .f64 13818544856648471880)) w = .ok (.float .f64 r20) w := fun w => run_float_arith w .add _ .f64 _ _ _ er20
  have fr21 : ∀ w, Sem.run Tryd.prog (binOp .mul 22 (.float .f64 r10) (.float .f64 r20)) w = .ok (.float .f64 r21) w := fun w => run_float_arith w .mul _ .f64 _ _ _ er21
  have fr22 : ∀ w, Sem.run Tryd.prog (binOp .add 22 (.float .f64 r8) (.float .f64 r21)) w = .ok (.float .f64 r22) w := fun w => run_float_arith w .add _ .f64 _ _ _ er22
  have fr23 : ∀ w, Sem.run Tryd.prog (Op.unary .neg (.float .f64 r22)) w = .ok (.float .f64 r23) w := fun w => run_neg w (Option.some.inj er23)
  refine ⟨r23, _, hQ, ?_⟩
  clear hQ e0 hc hy hf hx er2 er3 er4 er5 er6 er7 er8 er9 er10 er11 er12 er13 er14 er15 er16 er17 er18 er19 er20 er21 er22 er23
  go_enter Tryd.func29, Tryd.ntmps29
  go_wp2_with fail
  refine HN.out.mono ?_
  rintro e w1 ⟨rfl, hw⟩
  obtain rfl : w = w1 := hw.symm
  go_wp2_with fail
  refine HI.out.mono ?_
  rintro e w1 ⟨rfl, hw⟩
  obtain rfl : w = w1 := hw.symm
  go_wp2_with fail
  go_ret
  exact ⟨rfl, rfl⟩
def ops_sinO1B1S1 : List (Nat × Sum Nat Nat × Sum Nat Nat) := [(0, .inl 0, .inr 4607182418800017408), (2, .inl 0, .inr 4605249456957292544), (1, .inl 4, .inl 0), (2, .inl 2, .inr 4495793288086814720), (1, .inl 1, .inl 0), (2, .inl 4, .inr 4388835458085048688), (1, .inl 1, .inl 0), (2, .inl 0, .inl 0), (2, .inr 4602678819172646912, .inl 0), (1, .inr 4607182418800017408, .inl 0), (2, .inl 2, .inl 2), (2, .inr 13666448263388469915, .inl 3), (0, .inl 0, .inr 4477121864728985349), (2, .inl 0, .inl 5), (0, .inl 0, .inr 13732177093698800582), (2, .inl 0, .inl 7), (0, .inl 0, .inr 4537941361668146421), (2, .inl 0, .inl 9), (0, .inl 0, .inr 13787419979223748497), (2, .inl 0, .inl 11), (0, .inl 0, .inr 4586165620538955083), (2, .inl 10, .inl 0), (0, .inl 12, .inl 0), (4, .inl 0, .inr 0)]
set_option maxRecDepth 100000 in
theorem sin_p16 (x xa r1 j : Nat) (hx : x < 2 ^ 64) (hf : Fnt x) (hj : j ≤ 30) (hn : FloatKind.f64.format.order x 0 = some .gt) (hneg : x = xa) (oth : (FloatKind.f64.format.order xa 4737786807993761792 == some .gt || FloatKind.f64.format.order xa 4737786807993761792 == some .eq) = false) (e0 : Ieee.double.mul xa 4608412980311869571 = some r1) (hc : floatToIntVal .f64 r1 .u64 = some (j : Int))
    (b1 : bits .and .u64 (j : Int) 1 = 1) (b7 : bits .and .u64 ((j : Int) + 1) 7 = 6) (w : World) (T : Tabs w) {Q : List Nat → Prop} (H : Runs ops_sinO1B1S1 [floatOfInt .f64 (j : Int), r1, xa] Q) : ∃ r e, Q (r :: e) ∧ Calls Tryd.prog 29 #[.float .f64 x] w fun e w' => e = .returned (.float .f64 r) ∧ w' = w := by
  have HN := Lib.hid (isNaN_any x w)
  rw [order_self hf] at HN
  have HI := Lib.hid (isInf_fin x hx hf w)
  subst hneg
  have f0 : ∀ w, Sem.run Tryd.prog (binOp .mul 22 (.float .f64 x) (.float .f64 4608412980311869571)) w = .ok (.float .f64 r1) w := fun w => run_float_arith w .mul _ .f64 _ _ _ e0
  have cv : ∀ w, Sem.run Tryd.prog (convert 22 33 (.float .f64 r1)) w = .ok (.int .u64 (j : Int)) w := fun w => run_convert_float_int w _ _ .f64 .u64 r1 j (by kernel_rfl) (by kernel_rfl) hc
  have cw : ∀ w, Sem.run Tryd.prog (convert 33 22 (.int .u64 (j : Int))) w = .ok (.float .f64 (floatOfInt .f64 (j : Int))) w := fun w => run_convert_int_float w _ _ .u64 .f64 _ (by kernel_rfl) (by kernel_rfl)
  obtain ⟨y, hy⟩ : ∃ y, floatOfInt .f64 (j : Int) = y := ⟨_, rfl⟩
  rw [hy] at cw H
  have c8_0 := T.cos.cell 0 13666448263388469915 rfl
  have c8_1 := T.cos.cell 1 4477121864728985349 rfl
  have c8_2 := T.cos.cell 2 13732177093698800582 rfl
  have c8_3 := T.cos.cell 3 4537941361668146421 rfl
  have c8_4 := T.cos.cell 4 13787419979223748497 rfl
  have c8_5 := T.cos.cell 5 4586165620538955083 rfl
  obtain ⟨r2, er2, r3, er3, r4, er4, r5, er5, r6, er6, r7, er7, r8, er8, r9, er9, r10, er10, r11, er11, r12, er12, r13, er13, r14, er14, r15, er15, r16, er16, r17, er17, r18, er18, r19, er19, r20, er20, r21, er21, r22, er22, r23, er23, r24, er24, r25, er25, hQ⟩ := H
  have fr2 : ∀ w, Sem.run Tryd.prog (binOp .add 22 (.float .f64 y) (.float .f64 4607182418800017408)) w = .ok (.float .f64 r2) w := fun w => run_float_arith w .add _ .f64 _ _ _ er2
  have fr3 : ∀ w, Sem.run Tryd.prog (binOp .mul 22 (.float .f64 r2) (.float .f64 4605249456957292544)) w = .ok (.float .f64 r3) w := fun w => run_float_arith w .mul _ .f64 _ _ _ er3
  have fr4 : ∀ w, Sem.run Tryd.prog (binOp .sub 22 (.float .f64 x) (.float .f64 r3)) w = .ok (.float .f64 r4) w := fun w => run_float_arith w .sub _ .f64 _ _ _ er4
  have fr5 : ∀ w, Sem.run Tryd.prog (binOp .mul 22 (.float .f64 r2) (.float .f64 4495793288086814720)) w = .ok (.float .f64 r5) w := fun w => run_float_arith w .mul _ .f64 _ _ _ er5
  have fr6 : ∀ w, Sem.run Tryd.prog (binOp .sub 22 (.float .f64 r4) (.float .f64 r5)) w = .ok (.float .f64 r6) w := fun w => run_float_arith w .sub _ .f64 _ _ _ er6
  have fr7 : ∀ w, Sem.run Tryd.prog (binOp .mul 22 (.float .f64 r2) (.float .f64 4388835458085048688)) w = .ok (.float .f64 r7) w := fun w => run_float_arith w .mul _ .f64 _ _ _ er7
  have fr8 : ∀ w, Sem.run Tryd.prog (binOp .sub 22 (.float .f64 r6) (.float .f64 r7)) w = .ok (.float .f64 r8) w := fun w => run_float_arith w .sub _ .f64 _ _ _ er8
  have fr9 : ∀ w, Sem.run Tryd.prog (binOp .mul 22 (.float .f64 r8) (.float .f64 r8)) w = .ok (.float .f64 r9) w := fun w => run_float_arith w .mul _ .f64 _ _ _ er9
  have fr10 : ∀ w, Sem.run Tryd.prog (binOp .mul 22 (.float .f64 4602678819172646912) (.float .f64 r9)) w = .ok (.float .f64 r10) w := fun w => run_float_arith w .mul _ .f64 _ _ _ er10
  have fr11 : ∀ w, Sem.run Tryd.prog (binOp .sub 22 (.float .f64 4607182418800017408) (.float .f64 r10)) w = .ok (.float .f64 r11) w := fun w => run_float_arith w .sub _ .f64 _ _ _ er11
  have fr12 : ∀ w, Sem.run Tryd.prog (binOp .mul 22 (.float .f64 r9) (.float .f64 r9)) w = .ok (.float .f64 r12) w := fun w => run_float_arith w .mul _ .f64 _ _ _ er12
  have fr13 : ∀ w, Sem.run Tryd.prog (binOp .mul 22 (.float .f64 13666448263388469915) (.float .f64 r9)) w = .ok (.float .f64 r13) w := fun w => run_float_arith w .mul _ .f64 _ _ _ er13
  have fr14 : ∀ w, Sem.run Tryd.prog (binOp .add 22 (.float .f64 r13) (.float .f64 4477121864728985349)) w = .ok (.float .f64 r14) w := fun w => run_float_arith w .add _ .f64 _ _ _ er14
  have fr15 : ∀ w, Sem.run Tryd.prog (binOp .mul 22 (.float .f64 r14) (.float .f64 r9)) w = .ok (.float .f64 r15) w := fun w => run_float_arith w .mul _ .f64 _ _ _ er15
  have fr16 : ∀ w, Sem.run Tryd.prog (binOp .add 22 (.float .f64 r15) (.float .f64 13732177093698800582)) w = .ok (.float .f64 r16) w := fun w => run_float_arith w .add _ .f64 _ _ _ er16
  have fr17 : ∀ w, Sem.run Tryd.prog (binOp .mul 22 (.float .f64 r16) (.float .f64 r9)) w = .ok (.float .f64 r17) w := fun w => run_float_arith w .mul _ .f64 _ _ _ er17
  have fr18 : ∀ w, Sem.run Tryd.prog (binOp .add 22 (.float .f64 r17) (.float .f64 4537941361668146421)) w = .ok (.float .f64 r18) w := fun w => run_float_arith w .add _ .f64 _ _ _ er18
  have fr19 : ∀ w, Sem.run Tryd.prog (binOp .mul 22 (.float .f64 r18) (.float .f64 r9)) w = .ok (.float .f64 r19) w := fun w => run_float_arith w .mul _ .f64 _ _ _ er19
  have fr20 : ∀ w, Sem.run Tryd.prog (binOp .add 22 (.float .f64 r19) (.float .f64 13787419979223748497)) w = .ok (.float .f64 r20) w := fun w => run_float_arith w .add _ .f64 _ _ _ er20
  have fr21 : ∀ w, Sem.run Tryd.prog (binOp .mul 22 (.float .f64 r20) (.float .f64 r9)) w = .ok (.float .f64 r21) w := fun w => run_float_arith w .mul _ .f64 _ _ _ er21
  have fr22 : ∀ w, Sem.run Tryd.prog (binOp .add 22 (.float .f64 r21) (.float .f64 4586165620538955083)) w = .ok (.float .f64 r22) w := fun w => run_float_arith w .add _ .f64 _ _ _ er22
  have fr23 : ∀ w, Sem.run Tryd.prog (binOp .mul 22 (.float .f64 r12) (.float .f64 r22)) w = .ok (.float .f64 r23) w := fun w => run_float_arith w .mul _ .f64 _ _ _ er23
  have fr24 : ∀ w, Sem.run Tryd.prog (binOp .add 22 (.float .f64 r11) (.float .f64 r23)) w = .ok (.float .f64 r24) w := fun w => run_float_arith w .add _ .f64 _ _ _ er24
  have fr25 : ∀ w, Sem.run Tryd.prog (Op.unary .neg (.float .f64 r24)) w = .ok (.float .f64 r25) w := fun w => run_neg w (Option.some.inj er25)
  refine ⟨r25, _, hQ, ?_⟩
  clear hQ e0 hc hy hf hx er2 er3 er4 er5 er6 er7 er8 er9 er10 er11 er12 er13 er14 er15 er16 er17 er18 er19 er20 er21 er22 er23 er24 er25
  go_enter Tryd.func29, Tryd.ntmps29
  go_wp2_with fail
  refine HN.out.mono ?_
  rintro e w1 ⟨rfl, hw⟩
  obtain rfl : w = w1 := hw.symm
  go_wp2_with fail
  refine HI.out.mono ?_
  rintro e w1 ⟨rfl, hw⟩
  obtain rfl : w = w1 := hw.symm
  go_wp2_with fail
  go_ret
  exact ⟨rfl, rfl⟩
set_option maxRecDepth 100000 in
theorem sin_n00 (x xa r1 j : Nat) (hx : x < 2 ^ 64) (hf : Fnt x) (hj : j ≤ 30) (hn : FloatKind.f64.format.order x 0 = some .lt) (hneg : negw x = xa) (oth : (FloatKind.f64.format.order xa 4737786807993761792 == some .gt || FloatKind.f64.format.order xa 4737786807993761792 == some .eq) = false) (e0 : Ieee.double.mul xa 4608412980311869571 = some r1) (hc : floatToIntVal .f64 r1 .u64 = some (j : Int))
    (b1 : bits .and .u64 (j : Int) 1 = 0) (b7 : bits .and .u64 ((j : Int)) 7 = 0) (w : World) (T : Tabs w) {Q : List Nat → Prop} (H : Runs ops_sinO0B0S1 [floatOfInt .f64 (j : Int), r1, xa] Q) : ∃ r e, Q (r :: e) ∧ Calls Tryd.prog 29 #[.float .f64 x] w fun e w' => e = .returned (.float .f64 r) ∧ w' = w := by
  have HN := Lib.hid (isNaN_any x w)
  rw [order_self hf] at HN
  have HI := Lib.hid (isInf_fin x hx hf w)
  have fneg : ∀ w, Sem.run Tryd.prog (Op.unary .neg (.float .f64 x)) w = .ok (.float .f64 xa) w := fun w => run_neg w hneg
  have f0 : ∀ w, Sem.run Tryd.prog (binOp .mul 22 (.float .f64 xa) (.float .f64 4608412980311869571)) w = .ok (.float .f64 r1) w := fun w => run_float_arith w .mul _ .f64 _ _ _ e0
  have cv : ∀ w, Sem.run Tryd.prog (convert 22 33 (.float .f64 r1)) w = .ok (.int .u64 (j : Int)) w := fun w => run_convert_float_int w _ _ .f64 .u64 r1 j (by kernel_rfl) (by kernel_rfl) hc
  have cw : ∀ w, Sem.run Tryd.prog (convert 33 22 (.int .u64 (j : Int))) w = .ok (.float .f64 (floatOfInt .f64 (j : Int))) w := fun w => run_convert_int_float w _ _ .u64 .f64 _ (by kernel_rfl) (by kernel_rfl)
  obtain ⟨y, hy⟩ : ∃ y, floatOfInt .f64 (j : Int) = y := ⟨_, rfl⟩
  rw [hy] at cw H
  have c9_0 := T.sin.cell 0 4460209587652500685 rfl
  have c9_1 := T.sin.cell 1 13716528389658582877 rfl
  have c9_2 := T.sin.cell 2 4523617212962785441 rfl
  have c9_3 := T.sin.cell 3 13774824197404483331 rfl
  have c9_4 := T.sin.cell 4 4575957461383575504 rfl
  have c9_5 := T.sin.cell 5 13818544856648471880 rfl
  obtain ⟨r2, er2, r3, er3, r4, er4, r5, er5, r6, er6, r7, er7, r8, er8, r9, er9, r10, er10, r11, er11, r12, er12, r13, er13, r14, er14, r15, er15, r16, er16, r17, er17, r18, er18, r19, er19, r20, er20, r21, er21, r22, er22, hQ⟩ := H
  have fr2 : ∀ w, Sem.run Tryd.prog (binOp .mul 22 (.float .f64 y) (.float .f64 4605249456957292544)) w = .ok (.float .f64 r2) w := fun w => run_float_arith w .mul _ .f64 _ _ _ er2
  have fr3 : ∀ w, Sem.run Tryd.prog (binOp .sub 22 (.float .f64 xa) (.float .f64 r2)) w = .ok (.float .f64 r3) w := fun w => run_float_arith w .sub _ .f64 _ _ _ er3
  have fr4 : ∀ w, Sem.run Tryd.prog (binOp .mul 22 (.float .f64 y) (.float .f64 4495793288086814720)) w = .ok (.float .f64 r4) w := fun w => run_float_arith w .mul _ .f64 _ _ _ er4
  have fr5 : ∀ w, Sem.run Tryd.prog (binOp .sub 22 (.float .f64 r3) (.float .f64 r4)) w = .ok (.float .f64 r5) w := fun w => run_float_arith w .sub _ .f64 _ _ _ er5
  have fr6 : ∀ w, Sem.run Tryd.prog (binOp .mul 22 (.float .f64 y) (.float .f64 4388835458085048688)) w = .ok (.float .f64 r6) w := fun w => run_float_arith w .mul _ .f64 _ _ _ er6
  have fr7 : ∀ w, Sem.run Tryd.prog (binOp .sub 22 (.float .f64 r5) (.float .f64 r6)) w = .ok (.float .f64 r7) w := fun w => run_float_arith w .sub _ .f64 _ _ _ er7
  have fr8 : ∀ w, Sem.run Tryd.prog (binOp .mul 22 (.float .f64 r7) (.float .f64 r7)) w = .ok (.float .f64 r8) w := fun w => run_float_arith w .mul _ .f64 _ _ _ er8
  have fr9 : ∀ w, Sem.run Tryd.prog (binOp .mul 22 (.float .f64 r7) (.float .f64 r8)) w = .ok (.float .f64 r9) w := fun w => run_float_arith w .mul _ .f64 _ _ _ er9
  have fr10 : ∀ w, Sem.run Tryd.prog (binOp .mul 22 (.float .f64 4460209587652500685) (.float .f64 r8)) w = .ok (.float .f64 r10) w := fun w => run_float_arith w .mul _ .f64 _ _ _ er10
  have fr11 : ∀ w, Sem.run Tryd.prog (binOp .add 22 (.float .f64 r10) (.float .f64 13716528389658582877)) w = .ok (.float .f64 r11) w := fun w => run_float_arith w .add _ .f64 _ _ _ er11
  have fr12 : ∀ w, Sem.run Tryd.prog (binOp .mul 22 (.float .f64 r11) (.float .f64 r8)) w = .ok (.float .f64 r12) w := fun w => run_float_arith w .mul _ .f64 _ _ _ er12
  have fr13 : ∀ w, Sem.run Tryd.prog (binOp .add 22 (.float .f64 r12) (.float .f64 4523617212962785441)) w = .ok (.float .f64 r13) w := fun w => run_float_arith w .add _ .f64 _ _ _ er13
  have fr14 : ∀ w, Sem.run Tryd.prog (binOp .mul 22 (.float .f64 r13) (.float .f64 r8)) w = .ok (.float .f64 r14) w := fun w => run_float_arith w .mul _ .f64 _ _ _ er14
  have fr15 : ∀ w, Sem.run Tryd.prog (binOp .add 22 (.float .f64 r14) (.float .f64 13774824197404483331)) w = .ok (.float .f64 r15) w := fun w => run_float_arith w .add _ .f64 _ _ _ er15
  have fr16 : ∀ w, Sem.run Tryd.prog (binOp .mul 22 (.float .f64 r15) (.float .f64 r8)) w = .ok (.float .f64 r16) w := fun w => run_float_arith w .mul _ .f64 _ _ _ er16
  have fr17 : ∀ w, Sem.run Tryd.prog (binOp .add 22 (.float .f64 r16) (.float .f64 4575957461383575504)) w = .ok (.float .f64 r17) w := fun w => run_float_arith w .add _ .f64 _ _ _ er17
  have fr18 : ∀ w, Sem.run Tryd.prog (binOp .mul 22 (.float .f64 r17) (.float .f64 r8)) w = .ok (.float .f64 r18) w := fun w => run_float_arith w .mul _ .f64 _ _ _ er18
  have fr19 : ∀ w, Sem.run Tryd.prog (binOp .add 22 (.float .f64 r18) (.float .f64 13818544856648471880)) w = .ok (.float .f64 r19) w := fun w => run_float_arith w .add _ .f64 _ _ _ er19
  have fr20 : ∀ w, Sem.run Tryd.prog (binOp .mul 22 (.float .f64 r9) (.float .f64 r19)) w = .ok (.float .f64 r20) w := fun w => run_float_arith w .mul _ .f64 _ _ _ er20
  have fr21 : ∀ w, Sem.run Tryd.prog (binOp .add 22 (.float .f64 r7) (.float .f64 r20)) w = .ok (.float .f64 r21) w := fun w => run_float_arith w .add _ .f64 _ _ _ er21
  have fr22 : ∀ w, Sem.run Tryd.prog (Op.unary .neg (.float .f64 r21)) w = .ok (.float .f64 r22) w := fun w => run_neg w (Option.some.inj er22)
  refine ⟨r22, _, hQ, ?_⟩
  clear hQ e0 hc hy hf hx er2 er3 er4 er5 er6 er7 er8 er9 er10 er11 er12 er13 er14 er15 er16 er17 er18 er19 er20 er21 er22 hneg
  go_enter Tryd.func29, Tryd.ntmps29
  go_wp2_with fail
  refine HN.out.mono ?_
  rintro e w1 ⟨rfl, hw⟩
  obtain rfl : w = w1 := hw.symm
  go_wp2_with fail
  refine HI.out.mono ?_
  rintro e w1 ⟨rfl, hw⟩
  obtain rfl : w = w1 := hw.symm
  go_wp2_with fail
  go_ret
  exact ⟨rfl, rfl⟩
set_option maxRecDepth 100000 in
theorem sin_n02 (x xa r1 j : Nat) (hx : x < 2 ^ 64) (hf : Fnt x) (hj : j ≤ 30) (hn : FloatKind.f64.format.order x 0 = some .lt) (hneg : negw x = xa) (oth : (FloatKind.f64.format.order xa 4737786807993761792 == some .gt || FloatKind.f64.format.order xa 4737786807993761792 == some .eq) = false) (e0 : Ieee.double.mul xa 4608412980311869571 = some r1) (hc : floatToIntVal .f64 r1 .u64 = some (j : Int))
    (b1 : bits .and .u64 (j : Int) 1 = 0) (b7 : bits .and .u64 ((j : Int)) 7 = 2) (w : World) (T : Tabs w) {Q : List Nat → Prop} (H : Runs ops_sinO0B1S1 [floatOfInt .f64 (j : Int), r1, xa] Q) : ∃ r e, Q (r :: e) ∧ Calls Tryd.prog 29 #[.float .f64 x] w fun e w' => e = .returned (.float .f64 r) ∧ w' = w := by
  have HN := Lib.hid (isNaN_any x w)
  rw [order_self hf] at HN
  have HI := Lib.hid (isInf_fin x hx hf w)
  have fneg : ∀ w, Sem.run Tryd.prog (Op.unary .neg (.float .f64 x)) w = .ok (.float .f64 xa) w := fun w => run_neg w hneg
  have f0 : ∀ w, Sem.run Tryd.prog (binOp .mul 22 (.float .f64 xa) (.float .f64 4608412980311869571)) w = .ok (.float .f64 r1) w := fun w => run_float_arith w .mul _ .f64 _ _ _ e0
  have cv : ∀ w, Sem.run Tryd.prog (convert 22 33 (.float .f64 r1)) w = .ok (.int .u64 (j : Int)) w := fun w => run_convert_float_int w _ _ .f64 .u64 r1 j (by kernel_rfl) (by kernel_rfl) hc
  have cw : ∀ w, Sem.run Tryd.prog (convert 33 22 (.int .u64 (j : Int))) w = .ok (.float .f64 (floatOfInt .f64 (j : Int))) w := fun w => run_convert_int_float w _ _ .u64 .f64 _ (by kernel_rfl) (by kernel_rfl)
  obtain ⟨y, hy⟩ : ∃ y, floatOfInt .f64 (j : Int) = y := ⟨_, rfl⟩
  rw [hy] at cw H
  have c8_0 := T.cos.cell 0 13666448263388469915 rfl
  have c8_1 := T.cos.cell 1 4477121864728985349 rfl
  have c8_2 := T.cos.cell 2 13732177093698800582 rfl
  have c8_3 := T.cos.cell 3 4537941361668146421 rfl
  have c8_4 := T.cos.cell 4 13787419979223748497 rfl
  have c8_5 := T.cos.cell 5 4586165620538955083 rfl
  obtain ⟨r2, er2, r3, er3, r4, er4, r5, er5, r6, er6, r7, er7, r8, er8, r9, er9, r10, er10, r11, er11, r12, er12, r13, er13, r14, er14, r15, er15, r16, er16, r17, er17, r18, er18, r19, er19, r20, er20, r21, er21, r22, er22, r23, er23, r24, er24, hQ⟩ := H
  have fr2 : ∀ w, Sem.run Tryd.prog (binOp .mul 22 (.float .f64 y) (.float .f64 4605249456957292544)) w = .ok (.float .f64 r2) w := fun w => run_float_arith w .mul _ .f64 _ _ _ er2
  have fr3 : ∀ w, Sem.run Tryd.prog (binOp .sub 22 (.float .f64 xa) (.float .f64 r2)) w = .ok (.float .f64 r3) w := fun w => run_float_arith w .sub _ .f64 _ _ _ er3
  have fr4 : ∀ w, Sem.run Tryd.prog (binOp .mul 22 (.float .f64 y) (.float .f64 4495793288086814720)) w = .ok (.float .f64 r4) w := fun w => run_float_arith w .mul _ .f64 _ _ _ er4
  have fr5 : ∀ w, Sem.run Tryd.prog (binOp .sub 22 (.float .f64 r3) (.float .f64 r4)) w = .ok (.float .f64 r5) w := fun w => run_float_arith w .sub _ .f64 _ _ _ er5
  have fr6 : ∀ w, Sem.run Tryd.prog (binOp .mul 22 (.float .f64 y) (.float .f64 4388835458085048688)) w = .ok (.float .f64 r6) w := fun w => run_float_arith w .mul _ .f64 _ _ _ er6
  have fr7 : ∀ w, Sem.run Tryd.prog (binOp .sub 22 (.float .f64 r5) (.float .f64 r6)) w = .ok (.float .f64 r7) w := fun w => run_float_arith w .sub _ .f64 _ _ _ er7
  have fr8 : ∀ w, Sem.run Tryd.prog (binOp .mul 22 (.float .f64 r7) (.float .f64 r7)) w = .ok (.float .f64 r8) w := fun w => run_float_arith w .mul _ .f64 _ _ _ er8
  have fr9 : ∀ w, Sem.run Tryd.prog (binOp .mul 22 (.float .f64 4602678819172646912) (.float .f64 r8)) w = .ok (.float .f64 r9) w := fun w => run_float_arith w .mul _ .f64 _ _ _ er9
  have fr10 : ∀ w, Sem.run Tryd.prog (binOp .sub 22 (.float .f64 4607182418800017408) (.float .f64 r9)) w = .ok (.float .f64 r10) w := fun w => run_float_arith w .sub _ .f64 _ _ _ er10
  have fr11 : ∀ w, Sem.run Tryd.prog (binOp .mul 22 (.float .f64 r8) (.float .f64 r8)) w = .ok (.float .f64 r11) w := fun w => run_float_arith w .mul _ .f64 _ _ _ er11
  have fr12 : ∀ w, Sem.run Tryd.prog (binOp .mul 22 (.float .f64 13666448263388469915) (.float .f64 r8)) w = .ok (.float .f64 r12) w := fun w => run_float_arith w .mul _ .f64 _ _ _ er12
  have fr13 : ∀ w, Sem.run Tryd.prog (binOp .add 22 (.float .f64 r12) (.float .f64 4477121864728985349)) w = .ok (.float .f64 r13) w := fun w => run_float_arith w .add _ .f64 _ _ _ er13
  have fr14 : ∀ w, Sem.run Tryd.prog (binOp .mul 22 (.float .f64 r13) (.float .f64 r8)) w = .ok (.float .f64 r14) w := fun w => run_float_arith w .mul _ .f64 _ _ _ er14
  have fr15 : ∀ w, Sem.run Tryd.prog (binOp .add 22 (.float .f64 r14) (.float .f64 13732177093698800582)) w = .ok (.float .f64 r15) w := fun w => run_float_arith w .add _ .f64 _ _ _ er15
  have fr16 : ∀ w, Sem.run Tryd.prog (binOp .mul 22 (.float .f64 r15) (.float .f64 r8)) w = .ok (.float .f64 r16) w := fun w => run_float_arith w .mul _ .f64 _ _ _ er16
  have fr17 : ∀ w, Sem.run Tryd.prog (binOp .add 22 (.float .f64 r16) (.float .f64 4537941361668146421)) w = .ok (.float .f64 r17) w := fun w => run_float_arith w .add _ .f64 _ _ _ er17
  have fr18 : ∀ w, Sem.run Tryd.prog (binOp .mul 22 (.float .f64 r17) (.float .f64 r8)) w = .ok (.float .f64 r18) w := fun w => run_float_arith w .mul _ .f64 _ _ _ er18
  have fr19 : ∀ w, Sem.run Tryd.prog (binOp .add 22 (.float .f64 r18) (.float .f64 13787419979223748497)) w = .ok (.float .f64 r19) w := fun w => run_float_arith w .add _ .f64 _ _ _ er19
  have fr20 : ∀ w, Sem.run Tryd.prog (binOp .mul 22 (.float .f64 r19) (.float .f64 r8)) w = .ok (.float .f64 r20) w := fun w => run_float_arith w .mul _ .f64 _ _ _ er20
  have fr21 : ∀ w, Sem.run Tryd.prog (binOp .add 22 (.float .f64 r20) (.float .f64 4586165620538955083)) w = .ok (.float .f64 r21) w := fun w => run_float_arith w .add _ .f64 _ _ _ er21
  have fr22 : ∀ w, Sem.run Tryd.prog (binOp .mul 22 (.float .f64 r11) (.float .f64 r21)) w = .ok (.float .f64 r22) w := fun w => run_float_arith w .mul _ .f64 _ _ _ er22
  have fr23 : ∀ w, Sem.run Tryd.prog (binOp .add 22 (.float .f64 r10) (.float .f64 r22)) w = .ok (.float .f64 r23) w := fun w => run_float_arith w .add _ .f64 _ _ _ er23
  have fr24 : ∀ w, Sem.run Tryd.prog (Op.unary .neg (.float .f64 r23)) w = .ok (.float .f64 r24) w := fun w => run_neg w (Option.some.inj er24)
  refine ⟨r24, _, hQ, ?_⟩
  clear hQ e0 hc hy hf hx er2 er3 er4 er5 er6 er7 er8 er9 er10 er11 er12 er13 er14 er15 er16 er17 er18 er19 er20 er21 er22 er23 er24 hneg
  go_enter Tryd.func29, Tryd.ntmps29
  go_wp2_with fail
  refine HN.out.mono ?_
  rintro e w1 ⟨rfl, hw⟩
  obtain rfl : w = w1 := hw.symm
  go_wp2_with fail
  refine HI.out.mono ?_
  rintro e w1 ⟨rfl, hw⟩
  obtain rfl : w = w1 := hw.symm
  go_wp2_with fail
  go_ret
  exact ⟨rfl, rfl⟩
set_option maxRecDepth 100000 in
theorem sin_n04 (x xa r1 j : Nat) (hx : x < 2 ^ 64) (hf : Fnt x) (hj : j ≤ 30) (hn : FloatKind.f64.format.order x 0 = some .lt) (hneg : negw x = xa) (oth : (FloatKind.f64.format.order xa 4737786807993761792 == some .gt || FloatKind.f64.format.order xa 4737786807993761792 == some .eq) = false) (e0 : Ieee.double.mul xa 4608412980311869571 = some r1) (hc : floatToIntVal .f64 r1 .u64 = some (j : Int))
    (b1 : bits .and .u64 (j : Int) 1 = 0) (b7 : bits .and .u64 ((j : Int)) 7 = 4) (w : World) (T : Tabs w) {Q : List Nat → Prop} (H : Runs ops_sinO0B0S0 [floatOfInt .f64 (j : Int), r1, xa] Q) : ∃ r e, Q (r :: e) ∧ Calls Tryd.prog 29 #[.float .f64 x] w fun e w' => e = .returned (.float .f64 r) ∧ w' = w := by
  have HN := Lib.hid (isNaN_any x w)
  rw [order_self hf] at HN
  have HI := Lib.hid (isInf_fin x hx hf w)
  have fneg : ∀ w, Sem.run Tryd.prog (Op.unary .neg (.float .f64 x)) w = .ok (.float .f64 xa) w := fun w => run_neg w hneg
  have f0 : ∀ w, Sem.run Tryd.prog (binOp .mul 22 (.float .f64 xa) (.float .f64 4608412980311869571)) w = .ok (.float .f64 r1) w := fun w => run_float_arith w .mul _ .f64 _ _ _ e0
  have cv : ∀ w, Sem.run Tryd.prog (convert 22 33 (.float .f64 r1)) w = .ok (.int .u64 (j : Int)) w := fun w => run_convert_float_int w _ _ .f64 .u64 r1 j (by kernel_rfl) (by kernel_rfl) hc
  have cw : ∀ w, Sem.run Tryd.prog (convert 33 22 (.int .u64 (j : Int))) w = .ok (.float .f64 (floatOfInt .f64 (j : Int))) w := fun w => run_convert_int_float w _ _ .u64 .f64 _ (by kernel_rfl) (by kernel_rfl)
  obtain ⟨y, hy⟩ : ∃ y, floatOfInt .f64 (j : Int) = y := ⟨_, rfl⟩
  rw [hy] at cw H
  have c9_0 := T.sin.cell 0 4460209587652500685 rfl
  have c9_1 := T.sin.cell 1 13716528389658582877 rfl
  have c9_2 := T.sin.cell 2 4523617212962785441 rfl
  have c9_3 := T.sin.cell 3 13774824197404483331 rfl
  have c9_4 := T.sin.cell 4 4575957461383575504 rfl
  have c9_5 := T.sin.cell 5 13818544856648471880 rfl
  obtain ⟨r2, er2, r3, er3, r4, er4, r5, er5, r6, er6, r7, er7, r8, er8, r9, er9, r10, er10, r11, er11, r12, er12, r13, er13, r14, er14, r15, er15, r16, er16, r17, er17, r18, er18, r19, er19, r20, er20, r21, er21, hQ⟩ := H
  have fr2 : ∀ w, Sem.run Tryd.prog (binOp .mul 22 (.float .f64 y) (.float .f64 4605249456957292544)) w = .ok (.float .f64 r2) w := fun w => run_float_arith w .mul _ .f64 _ _ _ er2
  have fr3 : ∀ w, Sem.run Tryd.prog (binOp .sub 22 (.float .f64 xa) (.float .f64 r2)) w = .ok (.float .f64 r3) w := fun w => run_float_arith w .sub _ .f64 _ _ _ er3
  have fr4 : ∀ w, Sem.run Tryd.prog (binOp .mul 22 (.float .f64 y) (.float .f64 4495793288086814720)) w = .ok (.float .f64 r4) w := fun w => run_float_arith w .mul _ .f64 _ _ _ er4
  have fr5 : ∀ w, Sem.run Tryd.prog (binOp .sub 22 (.float .f64 r3) (.float .f64 r4)) w = .ok (.float .f64 r5) w := fun w => run_float_arith w .sub _ .f64 _ _ _ er5
  have fr6 : ∀ w, Sem.run Tryd.prog (binOp .mul 22 (.float .f64 y) (.float .f64 4388835458085048688)) w = .ok (.float .f64 r6) w := fun w => run_float_arith w .mul _ .f64 _ _ _ er6
  have fr7 : ∀ w, Sem.run Tryd.prog (binOp .sub 22 (.float .f64 r5) (.float .f64 r6)) w = .ok (.float .f64 r7) w := fun w => run_float_arith w .sub _ .f64 _ _ _ er7
  have fr8 : ∀ w, Sem.run Tryd.prog (binOp .mul 22 (.float .f64 r7) (.float .f64 r7)) w = .ok (.float .f64 r8) w := fun w => run_float_arith w .mul _ .f64 _ _ _ er8
  have fr9 : ∀ w, Sem.run Tryd.prog (binOp .mul 22 (.float .f64 r7) (.float .f64 r8)) w = .ok (.float .f64 r9) w := fun w => run_float_arith w .mul _ .f64 _ _ _ er9
  have fr10 : ∀ w, Sem.run Tryd.prog (binOp .mul 22 (.float .f64 4460209587652500685) (.float .f64 r8)) w = .ok (.float .f64 r10) w := fun w => run_float_arith w .mul _ .f64 _ _ _ er10
  have fr11 : ∀ w, Sem.run Tryd.prog (binOp .add 22 (.float .f64 r10) (.float .f64 13716528389658582877)) w = .ok (.float .f64 r11) w := fun w => run_float_arith w .add _ .f64 _ _ _ er11
  have fr12 : ∀ w, Sem.run Tryd.prog (binOp .mul 22 (.float .f64 r11) (.float .f64 r8)) w = .ok (.float .f64 r12) w := fun w => run_float_arith w .mul _ .f64 _ _ _ er12
  have fr13 : ∀ w, Sem.run Tryd.prog (binOp .add 22 (.float .f64 r12) (.float .f64 4523617212962785441)) w = .ok (.float .f64 r13) w := fun w => run_float_arith w .add _ .f64 _ _ _ er13
  have fr14 : ∀ w, Sem.run Tryd.prog (binOp .mul 22 (.float .f64 r13) (.float .f64 r8)) w = .ok (.float .f64 r14) w := fun w => run_float_arith w .mul _ .f64 _ _ _ er14
  have fr15 : ∀ w, Sem.run Tryd.prog (binOp .add 22 (.float .f64 r14) (.float .f64 13774824197404483331)) w = .ok (.float .f64 r15) w := fun w => run_float_arith w .add _ .f64 _ _ _ er15
  have fr16 : ∀ w, Sem.run Tryd.prog (binOp .mul 22 (.float .f64 r15) (.float .f64 r8)) w = .ok (.float .f64 r16) w := fun w => run_float_arith w .mul _ .f64 _ _ _ er16
  have fr17 : ∀ w, Sem.run Tryd.prog (binOp .add 22 (.float .f64 r16) (.float .f64 4575957461383575504)) w = .ok (.float .f64 r17) w := fun w => run_float_arith w .add _ .f64 _ _ _ er17
  have fr18 : ∀ w, Sem.run Tryd.prog (binOp .mul 22 (.float .f64 r17) (.float .f64 r8)) w = .ok (.float .f64 r18) w := fun w => run_float_arith w .mul _ .f64 _ _ _ er18
  have fr19 : ∀ w, Sem.run Tryd.prog (binOp .add 22 (.float .f64 r18) (.float .f64 13818544856648471880)) w = .ok (.float .f64 r19) w := fun w => run_float_arith w .add _ .f64 _ _ _ er19
  have fr20 : ∀ w, Sem.run Tryd.prog (binOp .mul 22 (.float .f64 r9) (.float .f64 r19)) w = .ok (.float .f64 r20) w := fun w => run_float_arith w .mul _ .f64 _ _ _ er20
  have fr21 : ∀ w, Sem.run Tryd.prog (binOp .add 22 (.float .f64 r7) (.float .f64 r20)) w = .ok (.float .f64 r21) w := fun w => run_float_arith w .add _ .f64 _ _ _ er21
  refine ⟨r21, _, hQ, ?_⟩
  clear hQ e0 hc hy hf hx er2 er3 er4 er5 er6 er7 er8 er9 er10 er11 er12 er13 er14 er15 er16 er17 er18 er19 er20 er21 hneg
  go_enter Tryd.func29, Tryd.ntmps29
  go_wp2_with fail
  refine HN.out.mono ?_
  rintro e w1 ⟨rfl, hw⟩
  obtain rfl : w = w1 := hw.symm
  go_wp2_with fail
  refine HI.out.mono ?_
  rintro e w1 ⟨rfl, hw⟩
  obtain rfl : w = w1 := hw.symm
  go_wp2_with fail
  go_ret
  exact ⟨rfl, rfl⟩
set_option maxRecDepth 100000 in
theorem sin_n06 (x xa r1 j : Nat) (hx : x < 2 ^ 64) (hf : Fnt x) (hj : j ≤ 30) (hn : FloatKind.f64.format.order x 0 = some .lt) (hneg : negw x = xa) (oth : (FloatKind.f64.format.order xa 4737786807993761792 == some .gt || FloatKind.f64.format.order xa 4737786807993761792 == some .eq) = false) (e0 : Ieee.double.mul xa 4608412980311869571 = some r1) (hc : floatToIntVal .f64 r1 .u64 = some (j : Int))
    (b1 : bits .and .u64 (j : Int) 1 = 0) (b7 : bits .and .u64 ((j : Int)) 7 = 6) (w : World) (T : Tabs w) {Q : List Nat → Prop} (H : Runs ops_sinO0B1S0 [floatOfInt .f64 (j : Int), r1, xa] Q) : ∃ r e, Q (r :: e) ∧ Calls Tryd.prog 29 #[.float .f64 x] w fun e w' => e = .returned (.float .f64 r) ∧ w' = w := by
  have HN := Lib.hid (isNaN_any x w)
  rw [order_self hf] at HN
  have HI := Lib.hid (isInf_fin x hx hf w)
  have fneg : ∀ w, Sem.run Tryd.prog (Op.unary .neg (.float .f64 x)) w = .ok (.float .f64 xa) w := fun w => run_neg w hneg
  have f0 : ∀ w, Sem.run Tryd.prog (binOp .mul 22 (.float .f64 xa) (.float .f64 4608412980311869571)) w = .ok (.float .f64 r1) w := fun w => run_float_arith w .mul _ .f64 _ _ _ e0
  have cv : ∀ w, Sem.run Tryd.prog (convert 22 33 (.float .f64 r1)) w = .ok (.int .u64 (j : Int)) w := fun w => run_convert_float_int w _ _ .f64 .u64 r1 j (by kernel_rfl) (by kernel_rfl) hc
  have cw : ∀ w, Sem.run Tryd.prog (convert 33 22 (.int .u64 (j : Int))) w = .ok (.float .f64 (floatOfInt .f64 (j : Int))) w := fun w => run_convert_int_float w _ _ .u64 .f64 _ (by kernel_rfl) (by kernel_rfl)
  obtain ⟨y, hy⟩ : ∃ y, floatOfInt .f64 (j : Int) = y := ⟨_, rfl⟩
  rw [hy] at cw H
  have c8_0 := T.cos.cell 0 13666448263388469915 rfl
  have c8_1 := T.cos.cell 1 4477121864728985349 rfl
  have c8_2 := T.cos.cell 2 13732177093698800582 rfl
  have c8_3 := T.cos.cell 3 4537941361668146421 rfl
  have c8_4 := T.cos.cell 4 13787419979223748497 rfl
  have c8_5 := T.cos.cell 5 4586165620538955083 rfl
  obtain ⟨r2, er2, r3, er3, r4, er4, r5, er5, r6, er6, r7, er7, r8, er8, r9, er9, r10, er10, r11, er11, r12, er12, r13, er13, r14, er14, r15, er15, r16, er16, r17, er17, r18, er18, r19, er19, r20, er20, r21, er21, r22, er22, r23, er23, hQ⟩ := H
  have fr2 : ∀ w, Sem.run Tryd.prog (binOp .mul 22 (.float .f64 y) (.float .f64 4605249456957292544)) w = .ok (.float .f64 r2) w := fun w => run_float_arith w .mul _ .f64 _ _ _ er2
  have fr3 : ∀ w, Sem.run Tryd.prog (binOp .sub 22 (.float .f64 xa) (.float .f64 r2)) w = .ok (.float .f64 r3) w := fun w => run_float_arith w .sub _ .f64 _ _ _ er3
  have fr4 : ∀ w, Sem.run Tryd.prog (binOp .mul 22 (.float .f64 y) (.float .f64 4495793288086814720)) w = .ok (.float .f64 r4) w := fun w => run_float_arith w .mul _ .f64 _ _ _ er4
  have fr5 : ∀ w, Sem.run Tryd.prog (binOp .sub 22 (.float .f64 r3) (.float .f64 r4)) w = .ok (.float .f64 r5) w := fun w => run_float_arith w .sub _ .f64 _ _ _ er5
  have fr6 : ∀ w, Sem.run Tryd.prog (binOp .mul 22 (.float .f64 y) (.float .f64 4388835458085048688)) w = .ok (.float .f64 r6) w := fun w => run_float_arith w .mul _ .f64 _ _ _ er6
  have fr7 : ∀ w, Sem.run Tryd.prog (binOp .sub 22 (.float .f64 r5) (.float .f64 r6)) w = .ok (.float .f64 r7) w := fun w => run_float_arith w .sub _ .f64 _ _ _ er7
  have fr8 : ∀ w, Sem.run Tryd.prog (binOp .mul 22 (.float .f64 r7) (.float .f64 r7)) w = .ok (.float .f64 r8) w := fun w => run_float_arith w .mul _ .f64 _ _ _ er8
  have fr9 : ∀ w, Sem.run Tryd.prog (binOp .mul 22 (.float .f64 4602678819172646912) (.float .f64 r8)) w = .ok (.float .f64 r9) w := fun w => run_float_arith w .mul _ .f64 _ _ _ er9
  have fr10 : ∀ w, Sem.run Tryd.prog (binOp .sub 22 (.float .f64 4607182418800017408) (.float .f64 r9)) w = .ok (.float .f64 r10) w := fun w => run_float_arith w .sub _ .f64 _ _ _ er10
  have fr11 : ∀ w, Sem.run Tryd.prog (binOp .mul 22 (.float .f64 r8) (.float .f64 r8)) w = .ok (.float .f64 r11) w := fun w => run_float_arith w .mul _ .f64 _ _ _ er11
  have fr12 : ∀ w, Sem.run Tryd.prog (binOp .mul 22 (.float .f64 13666448263388469915) (.float .f64 r8)) w = .ok (.float .f64 r12) w := fun w => run_float_arith w .mul _ .f64 _ _ _ er12
  have fr13 : ∀ w, Sem.run Tryd.prog (binOp .add 22 (.float .f64 r12) (.float .f64 4477121864728985349)) w = .ok (.float .f64 r13) w := fun w => run_float_arith w .add _ .f64 _ _ _ er13
  have fr14 : ∀ w, Sem.run Tryd.prog (binOp .mul 22 (.float .f64 r13) (.float .f64 r8)) w = .ok (.float .f64 r14) w := fun w => run_float_arith w .mul _ .f64 _ _ _ er14
  have fr15 : ∀ w, Sem.run Tryd.prog (binOp .add 22 (.float .f64 r14) (.float .f64 13732177093698800582)) w = .ok (.float .f64 r15) w := fun w => run_float_arith w .add _ .f64 _ _ _ er15
  have fr16 : ∀ w, Sem.run Tryd.prog (binOp .mul 22 (.float .f64 r15) (.float .f64 r8)) w = .ok (.float .f64 r16) w := fun w => run_float_arith w .mul _ .f64 _ _ _ er16
  have fr17 : ∀ w, Sem.run Tryd.prog (binOp .add 22 (.float .f64 r16) (.float .f64 4537941361668146421)) w = .ok (.float .f64 r17) w := fun w => run_float_arith w .add _ .f64 _ _ _ er17
  have fr18 : ∀ w, Sem.run Tryd.prog (binOp .mul 22 (.float .f64 r17) (.float .f64 r8)) w = .ok (.float .f64 r18) w := fun w => run_float_arith w .mul _ .f64 _ _ _ er18
  have fr19 : ∀ w, Sem.run Tryd.prog (binOp .add 22 (.float .f64 r18) (.float .f64 13787419979223748497)) w = .ok (.float .f64 r19) w := fun w => run_float_arith w .add _ .f64 _ _ _ er19
  have fr20 : ∀ w, Sem.run Tryd.prog (binOp .mul 22 (.float .f64 r19) (.float .f64 r8)) w = .ok (.float .f64 r20) w := fun w => run_float_arith w .mul _ .f64 _ _ _ er20
  have fr21 : ∀ w, Sem.run Tryd.prog (binOp .add 22 (.float .f64 r20) (.float .f64 4586165620538955083)) w = .ok (.float .f64 r21) w := fun w => run_float_arith w .add _ .f64 _ _ _ er21
  have fr22 : ∀ w, Sem.run Tryd.prog (binOp .mul 22 (.float .f64 r11) (.float .f64 r21)) w = .ok (.float .f64 r22) w := fun w => run_float_arith w .mul _ .f64 _ _ _ er22
  have fr23 : ∀ w, Sem.run Tryd.prog (binOp .add 22 (.float .f64 r10) (.float .f64 r22)) w = .ok (.float .f64 r23) w := fun w => run_float_arith w .add _ .f64 _ _ _ er23
  refine ⟨r23, _, hQ, ?_⟩
  clear hQ e0 hc hy hf hx er2 er3 er4 er5 er6 er7 er8 er9 er10 er11 er12 er13 er14 er15 er16 er17 er18 er19 er20 er21 er22 er23 hneg
  go_enter Tryd.func29, Tryd.ntmps29
  go_wp2_with fail
  refine HN.out.mono ?_
  rintro e w1 ⟨rfl, hw⟩
  obtain rfl : w = w1 := hw.symm
  go_wp2_with fail
  refine HI.out.mono ?_
  rintro e w1 ⟨rfl, hw⟩
  obtain rfl : w = w1 := hw.symm
  go_wp2_with fail
  go_ret
  exact ⟨rfl, rfl⟩
set_option maxRecDepth 100000 in
theorem sin_n10 (x xa r1 j : Nat) (hx : x < 2 ^ 64) (hf : Fnt x) (hj : j ≤ 30) (hn : FloatKind.f64.format.order x 0 = some .lt) (hneg : negw x = xa) (oth : (FloatKind.f64.format.order xa 4737786807993761792 == some .gt || FloatKind.f64.format.order xa 4737786807993761792 == some .eq) = false) (e0 : Ieee.double.mul xa 4608412980311869571 = some r1) (hc : floatToIntVal .f64 r1 .u64 = some (j : Int))
    (b1 : bits .and .u64 (j : Int) 1 = 1) (b7 : bits .and .u64 ((j : Int) + 1) 7 = 0) (w : World) (T : Tabs w) {Q : List Nat → Prop} (H : Runs ops_sinO1B0S1 [floatOfInt .f64 (j : Int), r1, xa] Q) : ∃ r e, Q (r :: e) ∧ Calls Tryd.prog 29 #[.float .f64 x] w fun e w' => e = .returned (.float .f64 r) ∧ w' = w := by
  have HN := Lib.hid (isNaN_any x w)
  rw [order_self hf] at HN
  have HI := Lib.hid (isInf_fin x hx hf w)
  have fneg : ∀ w, Sem.run Tryd.prog (Op.unary .neg (.float .f64 x)) w = .ok (.float .f64 xa) w := fun w => run_neg w hneg
  have f0 : ∀ w, Sem.run Tryd.prog (binOp .mul 22 (.float .f64 xa) (.float .f64 4608412980311869571)) w = .ok (.float .f64 r1) w := fun w => run_float_arith w .mul _ .f64 _ _ _ e0
  have cv : ∀ w, Sem.run Tryd.prog (convert 22 33 (.float .f64 r1)) w = .ok (.int .u64 (j : Int)) w := fun w => run_convert_float_int w _ _ .f64 .u64 r1 j (by kernel_rfl) (by kernel_rfl) hc
  have cw : ∀ w, Sem.run Tryd.prog (convert 33 22 (.int .u64 (j : Int))) w = .ok (.float .f64 (floatOfInt .f64 (j : Int))) w := fun w => run_convert_int_float w _ _ .u64 .f64 _ (by kernel_rfl) (by kernel_rfl)
  obtain ⟨y, hy⟩ : ∃ y, floatOfInt .f64 (j : Int) = y := ⟨_, rfl⟩
  rw [hy] at cw H
  have c9_0 := T.sin.cell 0 4460209587652500685 rfl
  have c9_1 := T.sin.cell 1 13716528389658582877 rfl
  have c9_2 := T.sin.cell 2 4523617212962785441 rfl
  have c9_3 := T.sin.cell 3 13774824197404483331 rfl
  have c9_4 := T.sin.cell 4 4575957461383575504 rfl
  have c9_5 := T.sin.cell 5 13818544856648471880 rfl
  obtain ⟨r2, er2, r3, er3, r4, er4, r5, er5, r6, er6, r7, er7, r8, er8, r9, er9, r10, er10, r11, er11, r12, er12, r13, er13, r14, er14, r15, er15, r16, er16, r17, er17, r18, er18, r19, er19, r20, er20, r21, er21, r22, er22, r23, er23, hQ⟩ := H
  have fr2 : ∀ w, Sem.run Tryd.prog (binOp .add 22 (.float .f64 y) (.float .f64 4607182418800017408)) w = .ok (.float .f64 r2) w := fun w => run_float_arith w .add _ .f64 _ _ _ er2
  have fr3 : ∀ w, Sem.run Tryd.prog (binOp .mul 22 (.float .f64 r2) (.float .f64 4605249456957292544)) w = .ok (.float .f64 r3) w := fun w => run_float_arith w .mul _ .f64 _ _ _ er3
  have fr4 : ∀ w, Sem.run Tryd.prog (binOp .sub 22 (.float .f64 xa) (.float .f64 r3)) w = .ok (.float .f64 r4) w := fun w => run_float_arith w .sub _ .f64 _ _ _ er4
  have fr5 : ∀ w, Sem.run Tryd.prog (binOp .mul 22 (.float .f64 r2) (.float .f64 4495793288086814720)) w = .ok (.float .f64 r5) w := fun w => run_float_arith w .mul _ .f64 _ _ _ er5
  have fr6 : ∀ w, Sem.run Tryd.prog (binOp .sub 22 (.float .f64 r4) (.float .f64 r5)) w = .ok (.float .f64 r6) w := fun w => run_float_arith w .sub _ .f64 _ _ _ er6
  have fr7 : ∀ w, Sem.run Tryd.prog (binOp .mul 22 (.float .f64 r2) (.float .f64 4388835458085048688)) w = .ok (.float .f64 r7) w := fun w => run_float_arith w .mul _ .f64 _ _ _ er7
  have fr8 : ∀ w, Sem.run Tryd.prog (binOp .sub 22 (.float .f64 r6) (.float .f64 r7)) w = .ok (.float .f64 r8) w := fun w => run_float_arith w .sub _ .f64 _ _ _ er8
  have fr9 : ∀ w, Sem.run Tryd.prog (binOp .mul 22 (.float .f64 r8) (.float .f64 r8)) w = .ok (.float .f64 r9) w := fun w => run_float_arith w .mul _ .f64 _ _ _ er9
  have fr10 : ∀ w, Sem.run Tryd.prog (binOp .mul 22 (.float .f64 r8) (.float .f64 r9)) w = .ok (.float .f64 r10) w := fun w => run_float_arith w .mul _ .f64 _ _ _ er10
  have fr11 : ∀ w, Sem.run Tryd.prog (binOp .mul 22 (.float .f64 4460209587652500685) (.float .f64 r9)) w = .ok (.float .f64 r11) w := fun w => run_float_arith w .mul _ .f64 _ _ _ er11
  have fr12 : ∀ w, Sem.run Tryd.prog (binOp .add 22 (.float .f64 r11) (.float .f64 13716528389658582877)) w = .ok (.float .f64 r12) w := fun w => run_float_arith w .add _ .f64 _ _ _ er12
  have fr13 : ∀ w, Sem.run Tryd.prog (binOp .mul 22 (.float .f64 r12) (.float .f64 r9)) w = .ok (.float .f64 r13) w := fun w => run_float_arith w .mul _ .f64 _ _ _ er13
  have fr14 : ∀ w, Sem.run Tryd.prog (binOp .add 22 (.float .f64 r13) (.float .f64 4523617212962785441)) w = .ok (.float .f64 r14) w := fun w => run_float_arith w .add _ .f64 _ _ _ er14
  have fr15 : ∀ w, Sem.run Tryd.prog (binOp .mul 22 (.float .f64 r14) (.float .f64 r9)) w = .ok (.float .f64 r15) w := fun w => run_float_arith w .mul _ .f64 _ _ _ er15
  have fr16 : ∀ w, Sem.run Tryd.prog (binOp .add 22 (.float .f64 r15) (.float .f64 13774824197404483331)) w = .ok (.float .f64 r16) w := fun w => run_float_arith w .add _ .f64 _ _ _ er16
  have fr17 : ∀ w, Sem.run Tryd.prog (binOp .mul 22 (.float .f64 r16) (.float .f64 r9)) w = .ok (.float .f64 r17) w := fun w => run_float_arith w .mul _ .f64 _ _ _ er17
  have fr18 : ∀ w, Sem.run Tryd.prog (binOp .add 22 (.float .f64 r17) (.float .f64 4575957461383575504)) w = .ok (.float .f64 r18) w := fun w => run_float_arith w .add _ .f64 _ _ _ er18
  have fr19 : ∀ w, Sem.run Tryd.prog (binOp .mul 22 (.float .f64 r18) (.float .f64 r9)) w = .ok (.float .f64 r19) w := fun w => run_float_arith w .mul _ .f64 _ _ _ er19
  have fr20 : ∀ w, Sem.run Tryd.prog (binOp .add 22 (.float .f64 r19) (.float .f64 13818544856648471880)) w = .ok (.float .f64 r20) w := fun w => run_float_arith w .add _ .f64 _ _ _ er20
  have fr21 : ∀ w, Sem.run Tryd.prog (binOp .mul 22 (.float .f64 r10) (.float .f64 r20)) w = .ok (.float .f64 r21) w := fun w => run_float_arith w .mul _ .f64 _ _ _ er21
  have fr22 : ∀ w, Sem.run Tryd.prog (binOp .add 22 (.float .f64 r8) (.float .f64 r21)) w = .ok (.float .f64 r22) w := fun w => run_float_arith w .add _ .f64 _ _ _ er22
  have fr23 : ∀ w, Sem.run Tryd.prog (Op.unary .neg (.float .f64 r22)) w = .ok (.float .f64 r23) w := fun w => run_neg w (Option.some.inj er23)
  refine ⟨r23, _, hQ, ?_⟩
  clear hQ e0 hc hy hf hx er2 er3 er4 er5 er6 er7 er8 er9 er10 er11 er12 er13 er14 er15 er16 er17 er18 er19 er20 er21 er22 er23 hneg
  go_enter Tryd.func29, Tryd.ntmps29
  go_wp2_with fail
  refine HN.out.mono ?_
  rintro e w1 ⟨rfl, hw⟩
  obtain rfl : w = w1 := hw.symm
  go_wp2_with fail
  refine HI.out.mono ?_
  rintro e w1 ⟨rfl, hw⟩
  obtain rfl : w = w1 := hw.symm
  go_wp2_with fail
  go_ret
  exact ⟨rfl, rfl⟩
set_option maxRecDepth 100000 in
theorem sin_n12 (x xa r1 j : Nat) (hx : x < 2 ^ 64) (hf : Fnt x) (hj : j ≤ 30) (hn : FloatKind.f64.format.order x 0 = some .lt) (hneg : negw x = xa) (oth : (FloatKind.f64.format.order xa 4737786807993761792 == some .gt || FloatKind.f64.format.order xa 4737786807993761792 == some .eq) = false) (e0 : Ieee.double.mul xa 4608412980311869571 = some r1) (hc : floatToIntVal .f64 r1 .u64 = some (j : Int))
    (b1 : bits .and .u64 (j : Int) 1 = 1) (b7 : bits .and .u64 ((j : Int) + 1) 7 = 2) (w : World) (T : Tabs w) {Q : List Nat → Prop} (H : Runs ops_sinO1B1S1 [floatOfInt .f64 (j : Int), r1, xa] Q) : ∃ r e, Q (r :: e) ∧ Calls Tryd.prog 29 #[.float .f64 x] w fun e w' => e = .returned (.float .f64 r) ∧ w' = w := by
  have HN := Lib.hid (isNaN_any x w)
  rw [order_self hf] at HN
  have HI := Lib.hid (isInf_fin x hx hf w)
  have fneg : ∀ w, Sem.run Tryd.prog (Op.unary .neg (.float .f64 x)) w = .ok (.float .f64 xa) w := fun w => run_neg w hneg
  have f0 : ∀ w, Sem.run Tryd.prog (binOp .mul 22 (.float .f64 xa) (.float .f64 4608412980311869571)) w = .ok (.float .f64 r1) w := fun w => run_float_arith w .mul _ .f64 _ _ _ e0
  have cv : ∀ w, Sem.run Tryd.prog (convert 22 33 (.float .f64 r1)) w = .ok (.int .u64 (j : Int)) w := fun w => run_convert_float_int w _ _ .f64 .u64 r1 j (by kernel_rfl) (by kernel_rfl) hc
  have cw : ∀ w, Sem.run Tryd.prog (convert 33 22 (.int .u64 (j : Int))) w = .ok (.float .f64 (floatOfInt .f64 (j : Int))) w := fun w => run_convert_int_float w _ _ .u64 .f64 _ (by kernel_rfl) (by kernel_rfl)
  obtain ⟨y, hy⟩ : ∃ y, floatOfInt .f64 (j : Int) = y := ⟨_, rfl⟩
  rw [hy] at cw H
  have c8_0 := T.cos.cell 0 13666448263388469915 rfl
  have c8_1 := T.cos.cell 1 4477121864728985349 rfl
  have c8_2 := T.cos.cell 2 13732177093698800582 rfl
  have c8_3 := T.cos.cell 3 4537941361668146421 rfl
  have c8_4 := T.cos.cell 4 13787419979223748497 rfl
  have c8_5 := T.cos.cell 5 4586165620538955083 rfl
  obtain ⟨r2, er2, r3, er3, r4, er4, r5, er5, r6, er6, r7, er7, r8, er8, r9, er9, r10, er10, r11, er11, r12, er12, r13, er13, r14, er14, r15, er15, r16, er16, r17, er17, r18, er18, r19, er19, r20, er20, r21, er21, r22, er22, r23, er23, r24, er24, r25, er25, hQ⟩ := H
  have fr2 : ∀ w, Sem.run Tryd.prog (binOp .add 22 (.float .f64 y) (.float .f64 4607182418800017408)) w = .ok (.float .f64 r2) w := fun w => run_float_arith w .add _ .f64 _ _ _ er2
  have fr3 : ∀ w, Sem.run Tryd.prog (binOp .mul 22 (.float .f64 r2) (.float .f64 4605249456957292544)) w = .ok (.float .f64 r3) w := fun w => run_float_arith w .mul _ .f64 _ _ _ er3
  have fr4 : ∀ w, Sem.run Tryd.prog (binOp .sub 22 (.float .f64 xa) (.float .f64 r3)) w = .ok (.float .f64 r4) w := fun w => run_float_arith w .sub _ .f64 _ _ _ er4
  have fr5 : ∀ w, Sem.run Tryd.prog (binOp .mul 22 (.float .f64 r2) (.float .f64 4495793288086814720)) w = .ok (.float .f64 r5) w := fun w => run_float_arith w .mul _ .f64 _ _ _ er5
  have fr6 : ∀ w, Sem.run Tryd.prog (binOp .sub 22 (.float .f64 r4) (.float .f64 r5)) w = .ok (.float .f64 r6) w := fun w => run_float_arith w .sub _ .f64 _ _ _ er6
  have fr7 : ∀ w, Sem.run Tryd.prog (binOp .mul 22 (.float .f64 r2) (.float .f64 4388835458085048688)) w = .ok (.float .f64 r7) w := fun w => run_float_arith w .mul _ .f64 _ _ _ er7
  have fr8 : ∀ w, Sem.run Tryd.prog (binOp .sub 22 (.float .f64 r6) (.float .f64 r7)) w = .ok (.float .f64 r8) w := fun w => run_float_arith w .sub _ .f64 _ _ _ er8
  have fr9 : ∀ w, Sem.run Tryd.prog (binOp .mul 22 (.float .f64 r8) (.float .f64 r8)) w = .ok (.float .f64 r9) w := fun w => run_float_arith w .mul _ .f64 _ _ _ er9
  have fr10 : ∀ w, Sem.run Tryd.prog (binOp .mul 22 (.float .f64 4602678819172646912) (.float .f64 r9)) w = .ok (.float .f64 r10) w := fun w => run_float_arith w .mul _ .f64 _ _ _ er10
  have fr11 : ∀ w, Sem.run Tryd.prog (binOp .sub 22 (.float .f64 4607182418800017408) (.float .f64 r10)) w = .ok (.float .f64 r11) w := fun w => run_float_arith w .sub _ .f64 _ _ _ er11
  have fr12 : ∀ w, Sem.run Tryd.prog (binOp .mul 22 (.float .f64 r9) (.float .f64 r9)) w = .ok (.float .f64 r12) w := fun w => run_float_arith w .mul _ .f64 _ _ _ er12
  have fr13 : ∀ w, Sem.run Tryd.prog (binOp .mul 22 (.float .f64 13666448263388469915) (.float .f64 r9)) w = .ok (.float .f64 r13) w := fun w => run_float_arith w .mul _ .f64 _ _ _ er13
  have fr14 : ∀ w, Sem.run Tryd.prog (binOp .add 22 (.float .f64 r13) (.float .f64 4477121864728985349)) w = .ok (.float .f64 r14) w := fun w => run_float_arith w .add _ .f64 _ _ _ er14
  have fr15 : ∀ w, Sem.run Tryd.prog (binOp .mul 22 (.float .f64 r14) (.float .f64 r9)) w = .ok (.float .f64 r15) w := fun w => run_float_arith w .mul _ .f64 _ _ _ er15
  have fr16 : ∀ w, Sem.run Tryd.prog (binOp .add 22 (.float .f64 r15) (.float .f64 13732177093698800582)) w = .ok (.float .f64 r16) w := fun w => run_float_arith w .add _ .f64 _ _ _ er16
  have fr17 : ∀ w, Sem.run Tryd.prog (binOp .mul 22 (.float .f64 r16) (.float .f64 r9)) w = .ok (.float .f64 r17) w := fun w => run_float_arith w .mul _ .f64 _ _ _ er17
  have fr18 : ∀ w, Sem.run Tryd.prog (binOp .add 22 (.float .f64 r17) (.float .f64 4537941361668146421)) w = .ok (.float .f64 r18) w := fun w => run_float_arith w .add _ .f64 _ _ _ er18
  have fr19 : ∀ w, Sem.run Tryd.prog (binOp .mul 22 (.float .f64 r18) (.float .f64 r9)) w = .ok (.float .f64 r19) w := fun w => run_float_arith w .mul _ .f64 _ _ _ er19
  have fr20 : ∀ w, Sem.run Tryd.prog (binOp .add 22 (.float .f64 r19) (.float .f64 13787419979223748497)) w = .ok (.float .f64 r20) w := fun w => run_float_arith w .add _ .f64 _ _ _ er20
  have fr21 : ∀ w, Sem.run Tryd.prog (binOp .mul 22 (.float .f64 r20) (.float .f64 r9)) w = .ok (.float .f64 r21) w := fun w => run_float_arith w .mul _ .f64 _ _ _ er21
  have fr22 : ∀ w, Sem.run Tryd.prog (binOp .add 22 (.float .f64 r21) (.float .f64 4586165620538955083)) w = .ok (.float .f64 r22) w := fun w => run_float_arith w .add _ .f64 _ _ _ er22
  have fr23 : ∀ w, Sem.run Tryd.prog (binOp .mul 22 (.float .f64 r12) (.float .f64 r22)) w = .ok (.float .f64 r23) w := fun w => run_float_arith w .mul _ .f64 _ _ _ er23
  have fr24 : ∀ w, Sem.run Tryd.prog (binOp .add 22 (.float .f64 r11) (.float .f64 r23)) w = .ok (.float .f64 r24) w := fun w => run_float_arith w .add _ .f64 _ _ _ er24
  have fr25 : ∀ w, Sem.run Tryd.prog (Op.unary .neg (.float .f64 r24)) w = .ok (.float .f64 r25) w := fun w => run_neg w (Option.some.inj er25)
  refine ⟨r25, _, hQ, ?_⟩
  clear hQ e0 hc hy hf hx er2 er3 er4 er5 er6 er7 er8 er9 er10 er11 er12 er13 er14 er15 er16 er17 er18 er19 er20 er21 er22 er23 er24 er25 hneg
  go_enter Tryd.func29, Tryd.ntmps29
  go_wp2_with fail
  refine HN.out.mono ?_
  rintro e w1 ⟨rfl, hw⟩
  obtain rfl : w = w1 := hw.symm
  go_wp2_with fail
  refine HI.out.mono ?_
  rintro e w1 ⟨rfl, hw⟩
  obtain rfl : w = w1 := hw.symm
  go_wp2_with fail
  go_ret
  exact ⟨rfl, rfl⟩
set_option maxRecDepth 100000 in
theorem sin_n14 (x xa r1 j : Nat) (hx : x < 2 ^ 64) (hf : Fnt x) (hj : j ≤ 30) (hn : FloatKind.f64.format.order x 0 = some .lt) (hneg : negw x = xa) (oth : (FloatKind.f64.format.order xa 4737786807993761792 == some .gt || FloatKind.f64.format.order xa 4737786807993761792 == some .eq) = false) (e0 : Ieee.double.mul xa 4608412980311869571 = some r1) (hc : floatToIntVal .f64 r1 .u64 = some (j : Int))
    (b1 : bits .and .u64 (j : Int) 1 = 1) (b7 : bits .and .u64 ((j : Int) + 1) 7 = 4) (w : World) (T : Tabs w) {Q : List Nat → Prop} (H : Runs ops_sinO1B0S0 [floatOfInt .f64 (j : Int), r1, xa] Q) : ∃ r e, Q (r :: e) ∧ Calls Tryd.prog 29 #[.float .f64 x] w fun e w' => e = .returned (.float .f64 r) ∧ w' = w := by
  have HN := Lib.hid (isNaN_any x w)
  rw [order_self hf] at HN
  have HI := Lib.hid (isInf_fin x hx hf w)
  have fneg : ∀ w, Sem.run Tryd.prog (Op.unary .neg (.float .f64 x)) w = .ok (.float .f64 xa) w := fun w => run_neg w hneg
  have f0 : ∀ w, Sem.run Tryd.prog (binOp .mul 22 (.float .f64 xa) (.float .f64 4608412980311869571)) w = .ok (.float .f64 r1) w := fun w => run_float_arith w .mul _ .f64 _ _ _ e0
  have cv : ∀ w, Sem.run Tryd.prog (convert 22 33 (.float .f64 r1)) w = .ok (.int .u64 (j : Int)) w := fun w => run_convert_float_int w _ _ .f64 .u64 r1 j (by kernel_rfl) (by kernel_rfl) hc
  have cw : ∀ w, Sem.run Tryd.prog (convert 33 22 (.int .u64 (j : Int))) w = .ok (.float .f64 (floatOfInt .f64 (j : Int))) w := fun w => run_convert_int_float w _ _ .u64 .f64 _ (by kernel_rfl) (by kernel_rfl)
  obtain ⟨y, hy⟩ : ∃ y, floatOfInt .f64 (j : Int) = y := ⟨_, rfl⟩
  rw [hy] at cw H
  have c9_0 := T.sin.cell 0 4460209587652500685 rfl
  have c9_1 := T.sin.cell 1 13716528389658582877 rfl
  have c9_2 := T.sin.cell 2 4523617212962785441 rfl
  have c9_3 := T.sin.cell 3 13774824197404483331 rfl
  have c9_4 := T.sin.cell 4 4575957461383575504 rfl
  have c9_5 := T.sin.cell 5 13818544856648471880 rfl
  obtain ⟨r2, er2, r3, er3, r4, er4, r5, er5, r6, er6, r7, er7, r8, er8, r9, er9, r10, er10, r11, er11, r12, er12, r13, er13, r14, er14, r15, er15, r16, er16, r17, er17, r18, er18, r19, er19, r20, er20, r21, er21, r22, er22, hQ⟩ := H
  have fr2 : ∀ w, Sem.run Tryd.prog (binOp .add 22 (.float .f64 y) (.float .f64 4607182418800017408)) w = .ok (.float .f64 r2) w := fun w => run_float_arith w .add _ .f64 _ _ _ er2
  have fr3 : ∀ w, Sem.run Tryd.prog (binOp .mul 22 (.float .f64 r2) (.float .f64 4605249456957292544)) w = .ok (.float .f64 r3) w := fun w => run_float_arith w .mul _ .f64 _ _ _ er3
  have fr4 : ∀ w, Sem.run Tryd.prog (binOp .sub 22 (.float .f64 xa) (.float .f64 r3)) w = .ok (.float .f64 r4) w := fun w => run_float_arith w .sub _ .f64 _ _ _ er4
  have fr5 : ∀ w, Sem.run Tryd.prog (binOp .mul 22 (.float .f64 r2) (.float .f64 4495793288086814720)) w = .ok (.float .f64 r5) w := fun w => run_float_arith w .mul _ .f64 _ _ _ er5
  have fr6 : ∀ w, Sem.run Tryd.prog (binOp .sub 22 (.float .f64 r4) (.float .f64 r5)) w = .ok (.float .f64 r6) w := fun w => run_float_arith w .sub _ .f64 _ _ _ er6
  have fr7 : ∀ w, Sem.run Tryd.prog (binOp .mul 22 (.float .f64 r2) (.float .f64 4388835458085048688)) w = .ok (.float .f64 r7) w := fun w => run_float_arith w .mul _ .f64 _ _ _ er7
  have fr8 : ∀ w, Sem.run Tryd.prog (binOp .sub 22 (.float .f64 r6) (.float .f64 r7)) w = .ok (.float .f64 r8) w := fun w => run_float_arith w .sub _ .f64 _ _ _ er8
  have fr9 : ∀ w, Sem.run Tryd.prog (binOp .mul 22 (.float .f64 r8) (.float .f64 r8)) w = .ok (.float .f64 r9) w := fun w => run_float_arith w .mul _ .f64 _ _ _ er9
  have fr10 : ∀ w, Sem.run Tryd.prog (binOp .mul 22 (.float .f64 r8) (.float .f64 r9)) w = .ok (.float .f64 r10) w := fun w => run_float_arith w .mul _ .f64 _ _ _ er10
  have fr11 : ∀ w, Sem.run Tryd.prog (binOp .mul 22 (.float .f64 4460209587652500685) (.float .f64 r9)) w = .ok (.float .f64 r11) w := fun w => run_float_arith w .mul _ .f64 _ _ _ er11
  have fr12 : ∀ w, Sem.run Tryd.prog (binOp .add 22 (.float .f64 r11) (.float .f64 13716528389658582877)) w = .ok (.float .f64 r12) w := fun w => run_float_arith w .add _ .f64 _ _ _ er12
  have fr13 : ∀ w, Sem.run Tryd.prog (binOp .mul 22 (.float .f64 r12) (.float .f64 r9)) w = .ok (.float .f64 r13) w := fun w => run_float_arith w .mul _ .f64 _ _ _ er13
  have fr14 : ∀ w, Sem.run Tryd.prog (binOp .add 22 (.float .f64 r13) (.float .f64 4523617212962785441)) w = .ok (.float .f64 r14) w := fun w => run_float_arith w .add _ .f64 _ _ _ er14
  have fr15 : ∀ w, Sem.run Tryd.prog (binOp .mul 22 (.float .f64 r14) (.float .f64 r9)) w = .ok (.float .f64 r15) w := fun w => run_float_arith w .mul _ .f64 _ _ _ er15
  have fr16 : ∀ w, Sem.run Tryd.prog (binOp .add 22 (.float .f64 r15) (.float .f64 13774824197404483331)) w = .ok (.float .f64 r16) w := fun w => run_float_arith w .add _ .f64 _ _ _ er16
  have fr17 : ∀ w, Sem.run Tryd.prog (binOp .mul 22 (.float .f64 r16) (.float .f64 r9)) w = .ok (.float .f64 r17) w := fun w => run_float_arith w .mul _ .f64 _ _ _ er17
  have fr18 : ∀ w, Sem.run Tryd.prog (binOp .add 22 (.float .f64 r17) (.float .f64 4575957461383575504)) w = .ok (.float .f64 r18) w := fun w => run_float_arith w .add _ .f64 _ _ _ er18
  have fr19 : ∀ w, Sem.run Tryd.prog (binOp .mul 22 (.float .f64 r18) (.float .f64 r9)) w = .ok (.float .f64 r19) w := fun w => run_float_arith w .mul _ .f64 _ _ _ er19
  have fr20 : ∀ w, Sem.run Tryd.prog (binOp .add 22 (.float .f64 r19) (.float .f64 13818544856648471880)) w = .ok (.float .f64 r20) w := fun w => run_float_arith w .add _ .f64 _ _ _ er20
  have fr21 : ∀ w, Sem.run Tryd.prog (binOp .mul 22 (.float .f64 r10) (.float .f64 r20)) w = .ok (.float .f64 r21) w := fun w => run_float_arith w .mul _ .f64 _ _ _ er21
  have fr22 : ∀ w, Sem.run Tryd.prog (binOp .add 22 (.float .f64 r8) (.float .f64 r21)) w = .ok (.float .f64 r22) w := fun w => run_float_arith w .add _ .f64 _ _ _ er22
  refine ⟨r22, _, hQ, ?_⟩
  clear hQ e0 hc hy hf hx er2 er3 er4 er5 er6 er7 er8 er9 er10 er11 er12 er13 er14 er15 er16 er17 er18 er19 er20 er21 er22 hneg
  go_enter Tryd.func29, Tryd.ntmps29
  go_wp2_with fail
  refine HN.out.mono ?_
  rintro e w1 ⟨rfl, hw⟩
  obtain rfl : w = w1 := hw.symm
  go_wp2_with fail
  refine HI.out.mono ?_
  rintro e w1 ⟨rfl, hw⟩
  obtain rfl : w = w1 := hw.symm
  go_wp2_with fail
  go_ret
  exact ⟨rfl, rfl⟩
set_option maxRecDepth 100000 in
theorem sin_n16 (x xa r1 j : Nat) (hx : x < 2 ^ 64) (hf : Fnt x) (hj : j ≤ 30) (hn : FloatKind.f64.format.order x 0 = some .lt) (hneg : negw x = xa) (oth : (FloatKind.f64.format.order xa 4737786807993761792 == some .gt || FloatKind.f64.format.order xa 4737786807993761792 == some .eq) = false) (e0 : Ieee.double.mul xa 4608412980311869571 = some r1) (hc : floatToIntVal .f64 r1 .u64 = some (j : Int))
    (b1 : bits .and .u64 (j : Int) 1 = 1) (b7 : bits .and .u64 ((j : Int) + 1) 7 = 6) (w : World) (T : Tabs w) {Q : List Nat → Prop} (H : Runs ops_sinO1B1S0 [floatOfInt .f64 (j : Int), r1, xa] Q) : ∃ r e, Q (r :: e) ∧ Calls Tryd.prog 29 #[.float .f64 x] w fun e w' => e = .returned (.float .f64 r) ∧ w' = w := by
  have HN := Lib.hid (isNaN_any x w)
  rw [order_self hf] at HN
  have HI := Lib.hid (isInf_fin x hx hf w)
  have fneg : ∀ w, Sem.run Tryd.prog (Op.unary .neg (.float .f64 x)) w = .ok (.float .f64 xa) w := fun w => run_neg w hneg
  have f0 : ∀ w, Sem.run Tryd.prog (binOp .mul 22 (.float .f64 xa) (.float .f64 4608412980311869571)) w = .ok (.float .f64 r1) w := fun w => run_float_arith w .mul _ .f64 _ _ _ e0
  have cv : ∀ w, Sem.run Tryd.prog (convert 22 33 (.float .f64 r1)) w = .ok (.int .u64 (j : Int)) w := fun w => run_convert_float_int w _ _ .f64 .u64 r1 j (by kernel_rfl) (by kernel_rfl) hc
  have cw : ∀ w, Sem.run Tryd.prog (convert 33 22 (.int .u64 (j : Int))) w = .ok (.float .f64 (floatOfInt .f64 (j : Int))) w := fun w => run_convert_int_float w _ _ .u64 .f64 _ (by kernel_rfl) (by kernel_rfl)
  obtain ⟨y, hy⟩ : ∃ y, floatOfInt .f64 (j : Int) = y := ⟨_, rfl⟩
  rw [hy] at cw H
  have c8_0 := T.cos.cell 0 13666448263388469915 rfl
  have c8_1 := T.cos.cell 1 4477121864728985349 rfl
  have c8_2 := T.cos.cell 2 13732177093698800582 rfl
  have c8_3 := T.cos.cell 3 4537941361668146421 rfl
  have c8_4 := T.cos.cell 4 13787419979223748497 rfl
  have c8_5 := T.cos.cell 5 4586165620538955083 rfl
  obtain ⟨r2, er2, r3, er3, r4, er4, r5, er5, r6, er6, r7, er7, r8, er8, r9, er9, r10, er10, r11, er11, r12, er12, r13, er13, r14, er14, r15, er15, r16, er16, r17, er17, r18, er18, r19, er19, r20, er20, r21, er21, r22, er22, r23, er23, r24, er24, hQ⟩ := H
  have fr2 : ∀ w, Sem.run Tryd.prog (binOp .add 22 (.float .f64 y) (.float .f64 4607182418800017408)) w = .ok (.float .f64 r2) w := fun w => run_float_arith w .add _ .f64 _ _ _ er2
  have fr3 : ∀ w, Sem.run Tryd.prog (binOp .mul 22 (.float .f64 r2) (.float .f64 4605249456957292544)) w = .ok (.float .f64 r3) w := fun w => run_float_arith w .mul _ .f64 _ _ _ er3
  have fr4 : ∀ w, Sem.run Tryd.prog (binOp .sub 22 (.float .f64 xa) (.float .f64 r3)) w = .ok (.float .f64 r4) w := fun w => run_float_arith w .sub _ .f64 _ _ _ er4
  have fr5 : ∀ w, Sem.run Tryd.prog (binOp .mul 22 (.float .f64 r2) (.float .f64 4495793288086814720)) w = .ok (.float .f64 r5) w := fun w => run_float_arith w .mul _ .f64 _ _ _ er5
  have fr6 : ∀ w, Sem.run Tryd.prog (binOp .sub 22 (.float .f64 r4) (.float .f64 r5)) w = .ok (.float .f64 r6) w := fun w => run_float_arith w .sub _ .f64 _ _ _ er6
  have fr7 : ∀ w, Sem.run Tryd.prog (binOp .mul 22 (.float .f64 r2) (.float .f64 4388835458085048688)) w = .ok (.float .f64 r7) w := fun w => run_float_arith w .mul _ .f64 _ _ _ er7
  have fr8 : ∀ w, Sem.run Tryd.prog (binOp .sub 22 (.float .f64 r6) (.float .f64 r7)) w = .ok (.float .f64 r8) w := fun w => run_float_arith w .sub _ .f64 _ _ _ er8
  have fr9 : ∀ w, Sem.run Tryd.prog (binOp .mul 22 (.float .f64 r8) (.float .f64 r8)) w = .ok (.float .f64 r9) w := fun w => run_float_arith w .mul _ .f64 _ _ _ er9
  have fr10 : ∀ w, Sem.run Tryd.prog (binOp .mul 22 (.float .f64 4602678819172646912) (.float .f64 r9)) w = .ok (.float .f64 r10) w := fun w => run_float_arith w .mul _ .f64 _ _ _ er10
  have fr11 : ∀ w, Sem.run Tryd.prog (binOp .sub 22 (.float .f64 4607182418800017408) (.float .f64 r10)) w = .ok (.float .f64 r11) w := fun w => run_float_arith w .sub _ .f64 _ _ _ er11
  have fr12 : ∀ w, Sem.run Tryd.prog (binOp .mul 22 (.float .f64 r9) (.float .f64 r9)) w = .ok (.float .f64 r12) w := fun w => run_float_arith w .mul _ .f64 _ _ _ er12
  have fr13 : ∀ w, Sem.run Tryd.prog (binOp .mul 22 (.float .f64 13666448263388469915) (.float .f64 r9)) w = .ok (.float .f64 r13) w := fun w => run_float_arith w .mul _ .f64 _ _ _ er13
  have fr14 : ∀ w, Sem.run Tryd.prog (binOp .add 22 (.float .f64 r13) (.float .f64 4477121864728985349)) w = .ok (.float .f64 r14) w := fun w => run_float_arith w .add _ .f64 _ _ _ er14
  have fr15 : ∀ w, Sem.run Tryd.prog (binOp .mul 22 (.float .f64 r14) (.float .f64 r9)) w = .ok (.float .f64 r15) w := fun w => run_float_arith w .mul _ .f64 _ _ _ er15
  have fr16 : ∀ w, Sem.run Tryd.prog (binOp .add 22 (.float .f64 r15) (.float .f64 13732177093698800582)) w = .ok (.float .f64 r16) w := fun w => run_float_arith w .add _ .f64 _ _ _ er16
  have fr17 : ∀ w, Sem.run Tryd.prog (binOp .mul 22 (.float .f64 r16) (.float .f64 r9)) w = .ok (.float .f64 r17) w := fun w => run_float_arith w .mul _ .f64 _ _ _ er17
  have fr18 : ∀ w, Sem.run Tryd.prog (binOp .add 22 (.float .f64 r17) (.float .f64 4537941361668146421)) w = .ok (.float .f64 r18) w := fun w => run_float_arith w .add _ .f64 _ _ _ er18
  have fr19 : ∀ w, Sem.run Tryd.prog (binOp .mul 22 (.float .f64 r18) (.float .f64 r9)) w = .ok (.float .f64 r19) w := fun w => run_float_arith w .mul _ .f64 _ _ _ er19
  have fr20 : ∀ w, Sem.run Tryd.prog (binOp .add 22 (.float .f64 r19) (.float .f64 13787419979223748497)) w = .ok (.float .f64 r20) w := fun w => run_float_arith w .add _ .f64 _ _ _ er20
  have fr21 : ∀ w, Sem.run Tryd.prog (binOp .mul 22 (.float .f64 r20) (.float .f64 r9)) w = .ok (.float .f64 r21) w := fun w => run_float_arith w .mul _ .f64 _ _ _ er21
  have fr22 : ∀ w, Sem.run Tryd.prog (binOp .add 22 (.float .f64 r21) (.float .f64 4586165620538955083)) w = .ok (.float .f64 r22) w := fun w => run_float_arith w .add _ .f64 _ _ _ er22
  have fr23 : ∀ w, Sem.run Tryd.prog (binOp .mul 22 (.float .f64 r12) (.float .f64 r22)) w = .ok (.float .f64 r23) w := fun w => run_float_arith w .mul _ .f64 _ _ _ er23
  have fr24 : ∀ w, Sem.run Tryd.prog (binOp .add 22 (.float .f64 r11) (.float .f64 r23)) w = .ok (.float .f64 r24) w := fun w => run_float_arith w .add _ .f64 _ _ _ er24
  refine ⟨r24, _, hQ, ?_⟩
  clear hQ e0 hc hy hf hx er2 er3 er4 er5 er6 er7 er8 er9 er10 er11 er12 er13 er14 er15 er16 er17 er18 er19 er20 er21 er22 er23 er24 hneg
  go_enter Tryd.func29, Tryd.ntmps29
  go_wp2_with fail
  refine HN.out.mono ?_
  rintro e w1 ⟨rfl, hw⟩
  obtain rfl : w = w1 := hw.symm
  go_wp2_with fail
  refine HI.out.mono ?_
  rintro e w1 ⟨rfl, hw⟩
  obtain rfl : w = w1 := hw.symm
  go_wp2_with fail
  go_ret
  exact ⟨rfl, rfl⟩
def ops_cosO0B0S0 : List (Nat × Sum Nat Nat × Sum Nat Nat) := [(2, .inl 0, .inr 4605249456957292544), (1, .inl 3, .inl 0), (2, .inl 2, .inr 4495793288086814720), (1, .inl 1, .inl 0), (2, .inl 4, .inr 4388835458085048688), (1, .inl 1, .inl 0), (2, .inl 0, .inl 0), (2, .inr 4602678819172646912, .inl 0), (1, .inr 4607182418800017408, .inl 0), (2, .inl 2, .inl 2), (2, .inr 13666448263388469915, .inl 3), (0, .inl 0, .inr 4477121864728985349), (2, .inl 0, .inl 5), (0, .inl 0, .inr 13732177093698800582), (2, .inl 0, .inl 7), (0, .inl 0, .inr 4537941361668146421), (2, .inl 0, .inl 9), (0, .inl 0, .inr 13787419979223748497), (2, .inl 0, .inl 11), (0, .inl 0, .inr 4586165620538955083), (2, .inl 10, .inl 0), (0, .inl 12, .inl 0)]
set_option maxRecDepth 100000 in
theorem cos_p00 (x xa r1 j : Nat) (hx : x < 2 ^ 64) (hf : Fnt x) (hj : j ≤ 30) (hxa : x % 2 ^ 63 = xa) (oth : (FloatKind.f64.format.order xa 4737786807993761792 == some .gt || FloatKind.f64.format.order xa 4737786807993761792 == some .eq) = false) (e0 : Ieee.double.mul xa 4608412980311869571 = some r1) (hc : floatToIntVal .f64 r1 .u64 = some (j : Int))
    (b1 : bits .and .u64 (j : Int) 1 = 0) (b7 : bits .and .u64 ((j : Int)) 7 = 0) (w : World) (T : Tabs w) {Q : List Nat → Prop} (H : Runs ops_cosO0B0S0 [floatOfInt .f64 (j : Int), r1, xa] Q) : ∃ r e, Q (r :: e) ∧ Calls Tryd.prog 35 #[.float .f64 x] w fun e w' => e = .returned (.float .f64 r) ∧ w' = w := by
  have HN := Lib.hid (isNaN_any x w)
  rw [order_self hf] at HN
  have HI := Lib.hid (isInf_fin x hx hf w)
  have HA := Lib.hid (abs_any x hx w)
  rw [hxa] at HA
  have f0 : ∀ w, Sem.run Tryd.prog (binOp .mul 22 (.float .f64 xa) (.float .f64 4608412980311869571)) w = .ok (.float .f64 r1) w := fun w => run_float_arith w .mul _ .f64 _ _ _ e0
  have cv : ∀ w, Sem.run Tryd.prog (convert 22 33 (.float .f64 r1)) w = .ok (.int .u64 (j : Int)) w := fun w => run_convert_float_int w _ _ .f64 .u64 r1 j (by kernel_rfl) (by kernel_rfl) hc
  have cw : ∀ w, Sem.run Tryd.prog (convert 33 22 (.int .u64 (j : Int))) w = .ok (.float .f64 (floatOfInt .f64 (j : Int))) w := fun w => run_convert_int_float w _ _ .u64 .f64 _ (by kernel_rfl) (by kernel_rfl)
  obtain ⟨y, hy⟩ : ∃ y, floatOfInt .f64 (j : Int) = y := ⟨_, rfl⟩
  rw [hy] at cw H
  have c8_0 := T.cos.cell 0 13666448263388469915 rfl
  have c8_1 := T.cos.cell 1 4477121864728985349 rfl
  have c8_2 := T.cos.cell 2 13732177093698800582 rfl
  have c8_3 := T.cos.cell 3 4537941361668146421 rfl
  have c8_4 := T.cos.cell 4 13787419979223748497 rfl
  have c8_5 := T.cos.cell 5 4586165620538955083 rfl
  obtain ⟨r2, er2, r3, er3, r4, er4, r5, er5, r6, er6, r7, er7, r8, er8, r9, er9, r10, er10, r11, er11, r12, er12, r13, er13, r14, er14, r15, er15, r16, er16, r17, er17, r18, er18, r19, er19, r20, er20, r21, er21, r22, er22, r23, er23, hQ⟩ := H
  have fr2 : ∀ w, Sem.run Tryd.prog (binOp .mul 22 (.float .f64 y) (.float .f64 4605249456957292544)) w = .ok (.float .f64 r2) w := fun w => run_float_arith w .mul _ .f64 _ _ _ er2
  have fr3 : ∀ w, Sem.run Tryd.prog (binOp .sub 22 (.float .f64 xa) (.float .f64 r2)) w = .ok (.float .f64 r3) w := fun w => run_float_arith w .sub _ .f64 _ _ _ er3
  have fr4 : ∀ w, Sem.run Tryd.prog (binOp .mul 22 (.float .f64 y) (.float .f64 4495793288086814720)) w = .ok (.float .f64 r4) w := fun w => run_float_arith w .mul _ .f64 _ _ _ er4
  have fr5 : ∀ w, Sem.run Tryd.prog (binOp .sub 22 (.float .f64 r3) (.float .f64 r4)) w = .ok (.float .f64 r5) w := fun w => run_float_arith w .sub _ .f64 _ _ _ er5
  have fr6 : ∀ w, Sem.run Tryd.prog (binOp .mul 22 (.float .f64 y) (.float .f64 4388835458085048688)) w = .ok (.float .f64 r6) w := fun w => run_float_arith w .mul _ .f64 _ _ _ er6
  have fr7 : ∀ w, Sem.run Tryd.prog (binOp .sub 22 (.float .f64 r5) (.float .f64 r6)) w = .ok (.float .f64 r7) w := fun w => run_float_arith w .sub _ .f64 _ _ _ er7
  have fr8 : ∀ w, Sem.run Tryd.prog (binOp .mul 22 (.float .f64 r7) (.float .f64 r7)) w = .ok (.float .f64 r8) w := fun w => run_float_arith w .mul _ .f64 _ _ _ er8
  have fr9 : ∀ w, Sem.run Tryd.prog (binOp .mul 22 (.float .f64 4602678819172646912) (.float .f64 r8)) w = .ok (.float .f64 r9) w := fun w => run_float_arith w .mul _ .f64 _ _ _ er9
  have fr10 : ∀ w, Sem.run Tryd.prog (binOp .sub 22 (.float .f64 4607182418800017408) (.float .f64 r9)) w = .ok (.float .f64 r10) w := fun w => run_float_arith w .sub _ .f64 _ _ _ er10
  have fr11 : ∀ w, Sem.run Tryd.prog (binOp .mul 22 (.float .f64 r8) (.float .f64 r8)) w = .ok (.float .f64 r11) w := fun w => run_float_arith w .mul _ .f64 _ _ _ er11
  have fr12 : ∀ w, Sem.run Tryd.prog (binOp .mul 22 (.float .f64 13666448263388469915) (.float .f64 r8)) w = .ok (.float .f64 r12) w := fun w => run_float_arith w .mul _ .f64 _ _ _ er12
  have fr13 : ∀ w, Sem.run Tryd.prog (binOp .add 22 (.float .f64 r12) (.float .f64 4477121864728985349)) w = .ok (.float .f64 r13) w := fun w => run_float_arith w .add _ .f64 _ _ _ er13
  have fr14 : ∀ w, Sem.run Tryd.prog (binOp .mul 22 (.float .f64 r13) (.float .f64 r8)) w = .ok (.float .f64 r14) w := fun w => run_float_arith w .mul _ .f64 _ _ _ er14
  have fr15 : ∀ w, Sem.run Tryd.prog (binOp .add 22 (.float .f64 r14) (.float .f64 13732177093698800582)) w = .ok (.float .f64 r15) w := fun w => run_float_arith w .add _ .f64 _ _ _ er15
  have fr16 : ∀ w, Sem.run Tryd.prog (binOp .mul 22 (.float .f64 r15) (.float .f64 r8)) w = .ok (.float .f64 r16) w := fun w => run_float_arith w .mul _ .f64 _ _ _ er16
  have fr17 : ∀ w, Sem.run Tryd.prog (binOp .add 22 (.float .f64 r16) (.float .f64 4537941361668146421)) w = .ok (.float .f64 r17) w := fun w => run_float_arith w .add _ .f64 _ _ _ er17
  have fr18 : ∀ w, Sem.run Tryd.prog (binOp .mul 22 (.float .f64 r17) (.float .f64 r8)) w = .ok (.float .f64 r18) w := fun w => run_float_arith w .mul _ .f64 _ _ _ er18
  have fr19 : ∀ w, Sem.run Tryd.prog (binOp .add 22 (.float .f64 r18) (.float .f64 13787419979223748497)) w = .ok (.float .f64 r19) w := fun w => run_float_arith w .add _ .f64 _ _ _ er19
  have fr20 : ∀ w, Sem.run Tryd.prog (binOp .mul 22 (.float .f64 r19) (.float .f64 r8)) w = .ok (.float .f64 r20) w := fun w => run_float_arith w .mul _ .f64 _ _ _ er20
  have fr21 : ∀ w, Sem.run Tryd.prog (binOp .add 22 (.float .f64 r20) (.float .f64 4586165620538955083)) w = .ok (.float .f64 r21) w := fun w => run_float_arith w .add _ .f64 _ _ _ er21
  have fr22 : ∀ w, Sem.run Tryd.prog (binOp .mul 22 (.float .f64 r11) (.float .f64 r21)) w = .ok (.float .f64 r22) w := fun w => run_float_arith w .mul _ .f64 _ _ _ er22
  have fr23 : ∀ w, Sem.run Tryd.prog (binOp .add 22 (.float .f64 r10) (.float .f64 r22)) w = .ok (.float .f64 r23) w := fun w => run_float_arith w .add _ .f64 _ _ _ er23
  refine ⟨r23, _, hQ, ?_⟩
  clear hQ e0 hc hy hf hx er2 er3 er4 er5 er6 er7 er8 er9 er10 er11 er12 er13 er14 er15 er16 er17 er18 er19 er20 er21 er22 er23 hxa
  go_enter Tryd.func35, Tryd.ntmps35
  go_wp2_with fail
  refine HN.out.mono ?_
  rintro e w1 ⟨rfl, hw⟩
  obtain rfl : w = w1 := hw.symm
  go_wp2_with fail
  refine HI.out.mono ?_
  rintro e w1 ⟨rfl, hw⟩
  obtain rfl : w = w1 := hw.symm
  go_wp2_with fail
  refine HA.out.mono ?_
  rintro e w1 ⟨rfl, hw⟩
  obtain rfl : w = w1 := hw.symm
  go_wp2_with fail
  go_ret
  exact ⟨rfl, rfl⟩
def ops_cosO0B1S1 : List (Nat × Sum Nat Nat × Sum Nat Nat) := [(2, .inl 0, .inr 4605249456957292544), (1, .inl 3, .inl 0), (2, .inl 2, .inr 4495793288086814720), (1, .inl 1, .inl 0), (2, .inl 4, .inr 4388835458085048688), (1, .inl 1, .inl 0), (2, .inl 0, .inl 0), (2, .inl 1, .inl 0), (2, .inr 4460209587652500685, .inl 1), (0, .inl 0, .inr 13716528389658582877), (2, .inl 0, .inl 3), (0, .inl 0, .inr 4523617212962785441), (2, .inl 0, .inl 5), (0, .inl 0, .inr 13774824197404483331), (2, .inl 0, .inl 7), (0, .inl 0, .inr 4575957461383575504), (2, .inl 0, .inl 9), (0, .inl 0, .inr 13818544856648471880), (2, .inl 10, .inl 0), (0, .inl 13, .inl 0), (4, .inl 0, .inr 0)]
set_option maxRecDepth 100000 in
theorem cos_p02 (x xa r1 j : Nat) (hx : x < 2 ^ 64) (hf : Fnt x) (hj : j ≤ 30) (hxa : x % 2 ^ 63 = xa) (oth : (FloatKind.f64.format.order xa 4737786807993761792 == some .gt || FloatKind.f64.format.order xa 4737786807993761792 == some .eq) = false) (e0 : Ieee.double.mul xa 4608412980311869571 = some r1) (hc : floatToIntVal .f64 r1 .u64 = some (j : Int))
    (b1 : bits .and .u64 (j : Int) 1 = 0) (b7 : bits .and .u64 ((j : Int)) 7 = 2) (w : World) (T : Tabs w) {Q : List Nat → Prop} (H : Runs ops_cosO0B1S1 [floatOfInt .f64 (j : Int), r1, xa] Q) : ∃ r e, Q (r :: e) ∧ Calls Tryd.prog 35 #[.float .f64 x] w fun e w' => e = .returned (.float .f64 r) ∧ w' = w := by
  have HN := Lib.hid (isNaN_any x w)
  rw [order_self hf] at HN
  have HI := Lib.hid (isInf_fin x hx hf w)
  have HA := Lib.hid (abs_any x hx w)
  rw [hxa] at HA
  have f0 : ∀ w, Sem.run Tryd.prog (binOp .mul 22 (.float .f64 xa) (.float .f64 4608412980311869571)) w = .ok (.float .f64 r1) w := fun w => run_float_arith w .mul _ .f64 _ _ _ e0
  have cv : ∀ w, Sem.run Tryd.prog (convert 22 33 (.float .f64 r1)) w = .ok (.int .u64 (j : Int)) w := fun w => run_convert_float_int w _ _ .f64 .u64 r1 j (by kernel_rfl) (by kernel_rfl) hc
  have cw : ∀ w, Sem.run Tryd.prog (convert 33 22 (.int .u64 (j : Int))) w = .ok (.float .f64 (floatOfInt .f64 (j : Int))) w := fun w => run_convert_int_float w _ _ .u64 .f64 _ (by kernel_rfl) (by kernel_rfl)
  obtain ⟨y, hy⟩ : ∃ y, floatOfInt .f64 (j : Int) = y := ⟨_, rfl⟩
  rw [hy] at cw H
  have c9_0 := T.sin.cell 0 4460209587652500685 rfl
  have c9_1 := T.sin.cell 1 13716528389658582877 rfl
  have c9_2 := T.sin.cell 2 4523617212962785441 rfl
  have c9_3 := T.sin.cell 3 13774824197404483331 rfl
  have c9_4 := T.sin.cell 4 4575957461383575504 rfl
  have c9_5 := T.sin.cell 5 13818544856648471880 rfl
  obtain ⟨r2, er2, r3, er3, r4, er4, r5, er5, r6, er6, r7, er7, r8, er8, r9, er9, r10, er10, r11, er11, r12, er12, r13, er13, r14, er14, r15, er15, r16, er16, r17, er17, r18, er18, r19, er19, r20, er20, r21, er21, r22, er22, hQ⟩ := H
  have fr2 : ∀ w, Sem.run Tryd.prog (binOp .mul 22 (.float .f64 y) (.float .f64 4605249456957292544)) w = .ok (.float .f64 r2) w := fun w => run_float_arith w .mul _ .f64 _ _ _ er2
  have fr3 : ∀ w, Sem.run Tryd.prog (binOp .sub 22 (.float .f64 xa) (.float .f64 r2)) w = .ok (.float .f64 r3) w := fun w => run_float_arith w .sub _ .f64 _ _ _ er3
  have fr4 : ∀ w, Sem.run Tryd.prog (binOp .mul 22 (.float .f64 y) (.float .f64 4495793288086814720)) w = .ok (.float .f64 r4) w := fun w => run_float_arith w .mul _ .f64 _ _ _ er4
  have fr5 : ∀ w, Sem.run Tryd.prog (binOp .sub 22 (.float .f64 r3) (.float .f64 r4)) w = .ok (.float .f64 r5) w := fun w => run_float_arith w .sub _ .f64 _ _ _ er5
  have fr6 : ∀ w, Sem.run Tryd.prog (binOp .mul 22 (.float .f64 y) (.float .f64 4388835458085048688)) w = .ok (.float .f64 r6) w := fun w => run_float_arith w .mul _ .f64 _ _ _ er6
  have fr7 : ∀ w, Sem.run Tryd.prog (binOp .sub 22 (.float .f64 r5) (.float .f64 r6)) w = .ok (.float .f64 r7) w := fun w => run_float_arith w .sub _ .f64 _ _ _ er7
  have fr8 : ∀ w, Sem.run Tryd.prog (binOp .mul 22 (.float .f64 r7) (.float .f64 r7)) w = .ok (.float .f64 r8) w := fun w => run_float_arith w .mul _ .f64 _ _ _ er8
  have fr9 : ∀ w, Sem.run Tryd.prog (binOp .mul 22 (.float .f64 r7) (.float .f64 r8)) w = .ok (.float .f64 r9) w := fun w => run_float_arith w .mul _ .f64 _ _ _ er9
  have fr10 : ∀ w, Sem.run Tryd.prog (binOp .mul 22 (.float .f64 4460209587652500685) (.float .f64 r8)) w = .ok (.float .f64 r10) w := fun w => run_float_arith w .mul _ .f64 _ _ _ er10
  have fr11 : ∀ w, Sem.run Tryd.prog (binOp .add 22 (.float .f64 r10) (.float .f64 13716528389658582877)) w = .ok (.float .f64 r11) w := fun w => run_float_arith w .add _ .f64 _ _ _ er11
  have fr12 : ∀ w, Sem.run Tryd.prog (binOp .mul 22 (.float .f64 r11) (.float .f64 r8)) w = .ok (.float .f64 r12) w := fun w => run_float_arith w .mul _ .f64 _ _ _ er12
  have fr13 : ∀ w, Sem.run Tryd.prog (binOp .add 22 (.float .f64 r12) (.float .f64 4523617212962785441)) w = .ok (.float .f64 r13) w := fun w => run_float_arith w .add _ .f64 _ _ _ er13
  have fr14 : ∀ w, Sem.run Tryd.prog (binOp .mul 22 (.float .f64 r13) (.float .f64 r8)) w = .ok (.float .f64 r14) w := fun w => run_float_arith w .mul _ .f64 _ _ _ er14
  have fr15 : ∀ w, Sem.run Tryd.prog (binOp .add 22 (.float .f64 r14) (.float .f64 13774824197404483331)) w = .ok (.float .f64 r15) w := fun w => run_float_arith w .add _ .f64 _ _ _ er15
  have fr16 : ∀ w, Sem.run Tryd.prog (binOp .mul 22 (.float .f64 r15) (.float .f64 r8)) w = .ok (.float .f64 r16) w := fun w => run_float_arith w .mul _ .f64 _ _ _ er16
  have fr17 : ∀ w, Sem.run Tryd.prog (binOp .add 22 (.float .f64 r16) (.float .f64 4575957461383575504)) w = .ok (.float .f64 r17) w := fun w => run_float_arith w .add _ .f64 _ _ _ er17
  have fr18 : ∀ w, Sem.run Tryd.prog (binOp .mul 22 (.float .f64 r17) (.float .f64 r8)) w = .ok (.float .f64 r18) w := fun w => run_float_arith w .mul _ .f64 _ _ _ er18
  have fr19 : ∀ w, Sem.run Tryd.prog (binOp .add 22 (.float .f64 r18) (.float .f64 13818544856648471880)) w = .ok (.float .f64 r19) w := fun w => run_float_arith w .add _ .f64 _ _ _ er19
  have fr20 : ∀ w, Sem.run Tryd.prog (binOp .mul 22 (.float .f64 r9) (.float .f64 r19)) w = .ok (.float .f64 r20) w := fun w => run_float_arith w .mul _ .f64 _ _ _ er20
  have fr21 : ∀ w, Sem.run Tryd.prog (binOp .add 22 (.float .f64 r7) (.float .f64 r20)) w = .ok (.float .f64 r21) w := fun w => run_float_arith w .add _ .f64 _ _ _ er21
  have fr22 : ∀ w, Sem.run Tryd.prog (Op.unary .neg (.float .f64 r21)) w = .ok (.float .f64 r22) w := fun w => run_neg w (Option.some.inj er22)
  refine ⟨r22, _, hQ, ?_⟩
  clear hQ e0 hc hy hf hx er2 er3 er4 er5 er6 er7 er8 er9 er10 er11 er12 er13 er14 er15 er16 er17 er18 er19 er20 er21 er22 hxa
  go_enter Tryd.func35, Tryd.ntmps35
  go_wp2_with fail
  refine HN.out.mono ?_
  rintro e w1 ⟨rfl, hw⟩
  obtain rfl : w = w1 := hw.symm
  go_wp2_with fail
  refine HI.out.mono ?_
  rintro e w1 ⟨rfl, hw⟩
  obtain rfl : w = w1 := hw.symm
  go_wp2_with fail
  refine HA.out.mono ?_
  rintro e w1 ⟨rfl, hw⟩
  obtain rfl : w = w1 := hw.symm
  go_wp2_with fail
  go_ret
  exact ⟨rfl, rfl⟩
def ops_cosO0B0S1 : List (Nat × Sum Nat Nat × Sum Nat Nat) := [(2, .inl 0, .inr 4605249456957292544), (1, .inl 3, .inl 0), (2, .inl 2, .inr 4495793288086814720), (1, .inl 1, .inl 0), (2, .inl 4, .inr 4388835458085048688), (1, .inl 1, .inl 0), (2, .inl 0, .inl 0), (2, .inr 4602678819172646912, .inl 0), (1, .inr 4607182418800017408, .inl 0), (2, .inl 2, .inl 2), (2, .inr 13666448263388469915, .inl 3), (0, .inl 0, .inr 4477121864728985349), (2, .inl 0, .inl 5), (0, .inl 0, .inr 13732177093698800582), (2, .inl 0, .inl 7), (0, .inl 0, .inr 4537941361668146421), (2, .inl 0, .inl 9), (0, .inl 0, .inr 13787419979223748497), (2, .inl 0, .inl 11), (0, .inl 0, .inr 4586165620538955083), (2, .inl 10, .inl 0), (0, .inl 12, .inl 0), (4, .inl 0, .inr 0)]
set_option maxRecDepth 100000 in
theorem cos_p04 (x xa r1 j : Nat) (hx : x < 2 ^ 64) (hf : Fnt x) (hj : j ≤ 30) (hxa : x % 2 ^ 63 = xa) (oth : (FloatKind.f64.format.order xa 4737786807993761792 == some .gt || FloatKind.f64.format.order xa 4737786807993761792 == some .eq) = false) (e0 : Ieee.double.mul xa 4608412980311869571 = some r1) (hc : floatToIntVal .f64 r1 .u64 = some (j : Int))
    (b1 : bits .and .u64 (j : Int) 1 = 0) (b7 : bits .and .u64 ((j : Int)) 7 = 4) (w : World) (T : Tabs w) {Q : List Nat → Prop} (H : Runs ops_cosO0B0S1 [floatOfInt .f64 (j : Int), r1, xa] Q) : ∃ r e, Q (r :: e) ∧ Calls Tryd.prog 35 #[.float .f64 x] w fun e w' => e = .returned (.float .f64 r) ∧ w' = w := by
  have HN := Lib.hid (isNaN_any x w)
  rw [order_self hf] at HN
  have HI := Lib.hid (isInf_fin x hx hf w)
  have HA := Lib.hid (abs_any x hx w)
  rw [hxa] at HA
  have f0 : ∀ w, Sem.run Tryd.prog (binOp .mul 22 (.float .f64 xa) (.float .f64 4608412980311869571)) w = .ok (.float .f64 r1) w := fun w => run_float_arith w .mul _ .f64 _ _ _ e0
  have cv : ∀ w, Sem.run Tryd.prog (convert 22 33 (.float .f64 r1)) w = .ok (.int .u64 (j : Int)) w := fun w => run_convert_float_int w _ _ .f64 .u64 r1 j (by kernel_rfl) (by kernel_rfl) hc
  have cw : ∀ w, Sem.run Tryd.prog (convert 33 22 (.int .u64 (j : Int))) w = .ok (.float .f64 (floatOfInt .f64 (j : Int))) w := fun w => run_convert_int_float w _ _ .u64 .f64 _ (by kernel_rfl) (by kernel_rfl)
  obtain ⟨y, hy⟩ : ∃ y, floatOfInt .f64 (j : Int) = y := ⟨_, rfl⟩
  rw [hy] at cw H
  have c8_0 := T.cos.cell 0 13666448263388469915 rfl
  have c8_1 := T.cos.cell 1 4477121864728985349 rfl
  have c8_2 := T.cos.cell 2 13732177093698800582 rfl
  have c8_3 := T.cos.cell 3 4537941361668146421 rfl
  have c8_4 := T.cos.cell 4 13787419979223748497 rfl
  have c8_5 := T.cos.cell 5 4586165620538955083 rfl
  obtain ⟨r2, er2, r3, er3, r4, er4, r5, er5, r6, er6, r7, er7, r8, er8, r9, er9, r10, er10, r11, er11, r12, er12, r13, er13, r14, er14, r15, er15, r16, er16, r17, er17, r18, er18, r19, er19, r20, er20, r21, er21, r22, er22, r23, er23, r24, er24, hQ⟩ := H
  have fr2 : ∀ w, Sem.run Tryd.prog (binOp .mul 22 (.float .f64 y) (.float .f64 4605249456957292544)) w = .ok (.float .f64 r2) w := fun w => run_float_arith w .mul _ .f64 _ _ _ er2
  have fr3 : ∀ w, Sem.run Tryd.prog (binOp .sub 22 (.float .f64 xa) (.float .f64 r2)) w = .ok (.float .f64 r3) w := fun w => run_float_arith w .sub _ .f64 _ _ _ er3
  have fr4 : ∀ w, Sem.run Tryd.prog (binOp .mul 22 (.float .f64 y) (.float .f64 4495793288086814720)) w = .ok (.float .f64 r4) w := fun w => run_float_arith w .mul _ .f64 _ _ _ er4
  have fr5 : ∀ w, Sem.run Tryd.prog (binOp .sub 22 (.float .f64 r3) (.float .f64 r4)) w = .ok (.float .f64 r5) w := fun w => run_float_arith w .sub _ .f64 _ _ _ er5
  have fr6 : ∀ w, Sem.run Tryd.prog (binOp .mul 22 (.float .f64 y) (.float .f64 4388835458085048688)) w = .ok (.float .f64 r6) w := fun w => run_float_arith w .mul _ .f64 _ _ _ er6
  have fr7 : ∀ w, Sem.run Tryd.prog (binOp .sub 22 (.float .f64 r5) (.float .f64 r6)) w = .ok (.float .f64 r7) w := fun w => run_float_arith w .sub _ .f64 _ _ _ er7
  have fr8 : ∀ w, Sem.run Tryd.prog (binOp .mul 22 (.float .f64 r7) (.float .f64 r7)) w = .ok (.float .f64 r8) w := fun w => run_float_arith w .mul _ .f64 _ _ _ er8
  have fr9 : ∀ w, Sem.run Tryd.prog (binOp .mul 22 (.float .f64 4602678819172646912) (.float .f64 r8)) w = .ok (.float .f64 r9) w := fun w => run_float_arith w .mul _ .f64 _ _ _ er9
  have fr10 : ∀ w, Sem.run Tryd.prog (binOp .sub 22 (.float .f64 4607182418800017408) (.float .f64 r9)) w = .ok (.float .f64 r10) w := fun w => run_float_arith w .sub _ .f64 _ _ _ er10
  have fr11 : ∀ w, Sem.run Tryd.prog (binOp .mul 22 (.float .f64 r8) (.float .f64 r8)) w = .ok (.float .f64 r11) w := fun w => run_float_arith w .mul _ .f64 _ _ _ er11
  have fr12 : ∀ w, Sem.run Tryd.prog (binOp .mul 22 (.float .f64 13666448263388469915) (.float .f64 r8)) w = .ok (.float .f64 r12) w := fun w => run_float_arith w .mul _ .f64 _ _ _ er12
  have fr13 : ∀ w, Sem.run Tryd.prog (binOp .add 22 (.float .f64 r12) (.float .f64 4477121864728985349)) w = .ok (.float .f64 r13) w := fun w => run_float_arith w .add _ .f64 _ _ _ er13
  have fr14 : ∀ w, Sem.run Tryd.prog (binOp .mul 22 (.float .f64 r13) (.float .f64 r8)) w = .ok (.float .f64 r14) w := fun w => run_float_arith w .mul _ .f64 _ _ _ er14
  have fr15 : ∀ w, Sem.run Tryd.prog (binOp .add 22 (.float .f64 r14) (.float .f64 13732177093698800582)) w = .ok (.float .f64 r15) w := fun w => run_float_arith w .add _ .f64 _ _ _ er15
  have fr16 : ∀ w, Sem.run Tryd.prog (binOp .mul 22 (.float .f64 r15) (.float .f64 r8)) w = .ok (.float .f64 r16) w := fun w => run_float_arith w .mul _ .f64 _ _ _ er16
  have fr17 : ∀ w, Sem.run Tryd.prog (binOp .add 22 (.float .f64 r16) (.float .f64 4537941361668146421)) w = .ok (.float .f64 r17) w := fun w => run_float_arith w .add _ .f64 _ _ _ er17
  have fr18 : ∀ w, Sem.run Tryd.prog (binOp .mul 22 (.float .f64 r17) (.float .f64 r8)) w = .ok (.float .f64 r18) w := fun w => run_float_arith w .mul _ .f64 _ _ _ er18
  have fr19 : ∀ w, Sem.run Tryd.prog (binOp .add 22 (.float .f64 r18) (.float .f64 13787419979223748497)) w = .ok (.float .f64 r19) w := fun w => run_float_arith w .add _ .f64 _ _ _ er19
  have fr20 : ∀ w, Sem.run Tryd.prog (binOp .mul 22 (.float .f64 r19) (.float .f64 r8)) w = .ok (.float .f64 r20) w := fun w => run_float_arith w .mul _ .f64 _ _ _ er20
  have fr21 : ∀ w, Sem.run Tryd.prog (binOp .add 22 (.float .f64 r20) (.float .f64 4586165620538955083)) w = .ok (.float .f64 r21) w := fun w => run_float_arith w .add _ .f64 _ _ _ er21
  have fr22 : ∀ w, Sem.run Tryd.prog (binOp .mul 22 (.float .f64 r11) (.float .f64 r21)) w = .ok (.float .f64 r22) w := fun w => run_float_arith w .mul _ .f64 _ _ _ er22
  have fr23 : ∀ w, Sem.run Tryd.prog (binOp .add 22 (.float .f64 r10) (.float .f64 r22)) w = .ok (.float .f64 r23) w := fun w => run_float_arith w .add _ .f64 _ _ _ er23
  have fr24 : ∀ w, Sem.run Tryd.prog (Op.unary .neg (.float .f64 r23)) w = .ok (.float .f64 r24) w := fun w => run_neg w (Option.some.inj er24)
  refine ⟨r24, _, hQ, ?_⟩
  clear hQ e0 hc hy hf hx er2 er3 er4 er5 er6 er7 er8 er9 er10 er11 er12 er13 er14 er15 er16 er17 er18 er19 er20 er21 er22 er23 er24 hxa
  go_enter Tryd.func35, Tryd.ntmps35
  go_wp2_with fail
  refine HN.out.mono ?_
  rintro e w1 ⟨rfl, hw⟩
  obtain rfl : w = w1 := hw.symm
  go_wp2_with fail
  refine HI.out.mono ?_
  rintro e w1 ⟨rfl, hw⟩
  obtain rfl : w = w1 := hw.symm
  go_wp2_with fail
  refine HA.out.mono ?_
  rintro e w1 ⟨rfl, hw⟩
  obtain rfl : w = w1 := hw.symm
  go_wp2_with fail
  go_ret
  exact ⟨rfl, rfl⟩
def ops_cosO0B1S0 : List (Nat × Sum Nat Nat × Sum Nat Nat) := [(2, .inl 0, .inr 4605249456957292544), (1, .inl 3, .inl 0), (2, .inl 2, .inr 4495793288086814720), (1, .inl 1, .inl 0), (2, .inl 4, .inr 4388835458085048688), (1, .inl 1, .inl 0), (2, .inl 0, .inl 0), (2, .inl 1, .inl 0), (2, .inr 4460209587652500685, .inl 1), (0, .inl 0, .inr 13716528389658582877), (2, .inl 0, .inl 3), (0, .inl 0, .inr 4523617212962785441), (2, .inl 0, .inl 5), (0, .inl 0, .inr 13774824197404483331), (2, .inl 0, .inl 7), (0, .inl 0, .inr 4575957461383575504), (2, .inl 0, .inl 9), (0, .inl 0, .inr 13818544856648471880), (2, .inl 10, .inl 0), (0, .inl 13, .inl 0)]
set_option maxRecDepth 100000 in
theorem cos_p06 (x xa r1 j : Nat) (hx : x < 2 ^ 64) (hf : Fnt x) (hj : j ≤ 30) (hxa : x % 2 ^ 63 = xa) (oth : (FloatKind.f64.format.order xa 4737786807993761792 == some .gt || FloatKind.f64.format.order xa 4737786807993761792 == some .eq) = false) (e0 : Ieee.double.mul xa 4608412980311869571 = some r1) (hc : floatToIntVal .f64 r1 .u64 = some (j : Int))
    (b1 : bits .and .u64 (j : Int) 1 = 0) (b7 : bits .and .u64 ((j : Int)) 7 = 6) (w : World) (T : Tabs w) {Q : List Nat → Prop} (H : Runs ops_cosO0B1S0 [floatOfInt .f64 (j : Int), r1, xa] Q) : ∃ r e, Q (r :: e) ∧ Calls Tryd.prog 35 #[.float .f64 x] w fun e w' => e = .returned (.float .f64 r) ∧ w' = w := by
  have HN := Lib.hid (isNaN_any x w)
  rw [order_self hf] at HN
  have HI := Lib.hid (isInf_fin x hx hf w)
  have HA := Lib.hid (abs_any x hx w)
  rw [hxa] at HA
  have f0 : ∀ w, Sem.run Tryd.prog (binOp .mul 22 (.float .f64 xa) (.float .f64 4608412980311869571)) w = .ok (.float .f64 r1) w := fun w => run_float_arith w .mul _ .f64 _ _ _ e0
  have cv : ∀ w, Sem.run Tryd.prog (convert 22 33 (.float .f64 r1)) w = .ok (.int .u64 (j : Int)) w := fun w => run_convert_float_int w _ _ .f64 .u64 r1 j (by kernel_rfl) (by kernel_rfl) hc
  have cw : ∀ w, Sem.run Tryd.prog (convert 33 22 (.int .u64 (j : Int))) w = .ok (.float .f64 (floatOfInt .f64 (j : Int))) w := fun w => run_convert_int_float w _ _ .u64 .f64 _ (by kernel_rfl) (by kernel_rfl)
  obtain ⟨y, hy⟩ : ∃ y, floatOfInt .f64 (j : Int) = y := ⟨_, rfl⟩
  rw [hy] at cw H
  have c9_0 := T.sin.cell 0 4460209587652500685 rfl
  have c9_1 := T.sin.cell 1 13716528389658582877 rfl
  have c9_2 := T.sin.cell 2 4523617212962785441 rfl
  have c9_3 := T.sin.cell 3 13774824197404483331 rfl
  have c9_4 := T.sin.cell 4 4575957461383575504 rfl
  have c9_5 := T.sin.cell 5 13818544856648471880 rfl
  obtain ⟨r2, er2, r3, er3, r4, er4, r5, er5, r6, er6, r7, er7, r8, er8, r9, er9, r10, er10, r11, er11, r12, er12, r13, er13, r14, er14, r15, er15, r16, er16, r17, er17, r18, er18, r19, er19, r20, er20, r21, er21, hQ⟩ := H
  have fr2 : ∀ w, Sem.run Tryd.prog (binOp .mul 22 (.float .f64 y) (.float .f64 4605249456957292544)) w = .ok (.float .f64 r2) w := fun w => run_float_arith w .mul _ .f64 _ _ _ er2
  have fr3 : ∀ w, Sem.run Tryd.prog (binOp .sub 22 (.float .f64 xa) (.float .f64 r2)) w = .ok (.float .f64 r3) w := fun w => run_float_arith w .sub _ .f64 _ _ _ er3
  have fr4 : ∀ w, Sem.run Tryd.prog (binOp .mul 22 (.float .f64 y) (.float .f64 4495793288086814720)) w = .ok (.float .f64 r4) w := fun w => run_float_arith w .mul _ .f64 _ _ _ er4
  have fr5 : ∀ w, Sem.run Tryd.prog (binOp .sub 22 (.float .f64 r3) (.float .f64 r4)) w = .ok (.float .f64 r5) w := fun w => run_float_arith w .sub _ .f64 _ _ _ er5
  have fr6 : ∀ w, Sem.run Tryd.prog (binOp .mul 22 (.float .f64 y) (.float .f64 4388835458085048688)) w = .ok (.float .f64 r6) w := fun w => run_float_arith w .mul _ .f64 _ _ _ er6
  have fr7 : ∀ w, Sem.run Tryd.prog (binOp .sub 22 (.float .f64 r5) (.float .f64 r6)) w = .ok (.float .f64 r7) w := fun w => run_float_arith w .sub _ .f64 _ _ _ er7
  have fr8 : ∀ w, Sem.run Tryd.prog (binOp .mul 22 (.float .f64 r7) (.float .f64 r7)) w = .ok (.float .f64 r8) w := fun w => run_float_arith w .mul _ .f64 _ _ _ er8
  have fr9 : ∀ w, Sem.run Tryd.prog (binOp .mul 22 (.float .f64 r7) (.float .f64 r8)) w = .ok (.float .f64 r9) w := fun w => run_float_arith w .mul _ .f64 _ _ _ er9
  have fr10 : ∀ w, Sem.run Tryd.prog (binOp .mul 22 (.float .f64 4460209587652500685) (.float .f64 r8)) w = .ok (.float .f64 r10) w := fun w => run_float_arith w .mul _ .f64 _ _ _ er10
  have fr11 : ∀ w, Sem.run Tryd.prog (binOp .add 22 (.float .f64 r10) (.float .f64 13716528389658582877)) w = .ok (.float .f64 r11) w := fun w => run_float_arith w .add _ .f64 _ _ _ er11
  have fr12 : ∀ w, Sem.run Tryd.prog (binOp .mul 22 (.float .f64 r11) (.float .f64 r8)) w = .ok (.float .f64 r12) w := fun w => run_float_arith w .mul _ .f64 _ _ _ er12
  have fr13 : ∀ w, Sem.run Tryd.prog (binOp .add 22 (.float .f64 r12) (.float .f64 4523617212962785441)) w = .ok (.float .f64 r13) w := fun w => run_float_arith w .add _ .f64 _ _ _ er13
  have fr14 : ∀ w, Sem.run Tryd.prog (binOp .mul 22 (.float .f64 r13) (.float .f64 r8)) w = .ok (.float .f64 r14) w := fun w => run_float_arith w .mul _ .f64 _ _ _ er14
  have fr15 : ∀ w, Sem.run Tryd.prog (binOp .add 22 (.float .f64 r14) (.float .f64 13774824197404483331)) w = .ok (.float .f64 r15) w := fun w => run_float_arith w .add _ .f64 _ _ _ er15
  have fr16 : ∀ w, Sem.run Tryd.prog (binOp .mul 22 (.float .f64 r15) (.float .f64 r8)) w = .ok (.float .f64 r16) w := fun w => run_float_arith w .mul _ .f64 _ _ _ er16
  have fr17 : ∀ w, Sem.run Tryd.prog (binOp .add 22 (.float .f64 r16) (.float .f64 4575957461383575504)) w = .ok (.float .f64 r17) w := fun w => run_float_arith w .add _ .f64 _ _ _ er17
  have fr18 : ∀ w, Sem.run Tryd.prog (binOp .mul 22 (.float .f64 r17) (.float .f64 r8)) w = .ok (.float .f64 r18) w := fun w => run_float_arith w .mul _ .f64 _ _ _ er18
  have fr19 : ∀ w, Sem.run Tryd.prog (binOp .add 22 (.float .f64 r18) (.float .f64 13818544856648471880)) w = .ok (.float .f64 r19) w := fun w => run_float_arith w .add _ .f64 _ _ _ er19
  have fr20 : ∀ w, Sem.run Tryd.prog (binOp .mul 22 (.float .f64 r9) (.float .f64 r19)) w = .ok (.float .f64 r20) w := fun w => run_float_arith w .mul _ .f64 _ _ _ er20
  have fr21 : ∀ w, Sem.run Tryd.prog (binOp .add 22 (.float .f64 r7) (.float .f64 r20)) w = .ok (.float .f64 r21) w := fun w => run_float_arith w .add _ .f64 _ _ _ er21
  refine ⟨r21, _, hQ, ?_⟩
  clear hQ e0 hc hy hf hx er2 er3 er4 er5 er6 er7 er8 er9 er10 er11 er12 er13 er14 er15 er16 er17 er18 er19 er20 er21 hxa
  go_enter Tryd.func35, Tryd.ntmps35
  go_wp2_with fail
  refine HN.out.mono ?_
  rintro e w1 ⟨rfl, hw⟩
  obtain rfl : w = w1 := hw.symm
  go_wp2_with fail
  refine HI.out.mono ?_
  rintro e w1 ⟨rfl, hw⟩
  obtain rfl : w = w1 := hw.symm
  go_wp2_with fail
  refine HA.out.mono ?_
  rintro e w1 ⟨rfl, hw⟩
  obtain rfl : w = w1 := hw.symm
  go_wp2_with fail
  go_ret
  exact ⟨rfl, rfl⟩
def ops_cosO1B0S0 : List (Nat × Sum Nat Nat × Sum Nat Nat) := [(0, .inl 0, .inr 4607182418800017408), (2, .inl 0, .inr 4605249456957292544), (1, .inl 4, .inl 0), (2, .inl 2, .inr 4495793288086814720), (1, .inl 1, .inl 0), (2, .inl 4, .inr 4388835458085048688), (1, .inl 1, .inl 0), (2, .inl 0, .inl 0), (2, .inr 4602678819172646912, .inl 0), (1, .inr 4607182418800017408, .inl 0), (2, .inl 2, .inl 2), (2, .inr 13666448263388469915, .inl 3), (0, .inl 0, .inr 4477121864728985349), (2, .inl 0, .inl 5), (0, .inl 0, .inr 13732177093698800582), (2, .inl 0, .inl 7), (0, .inl 0, .inr 4537941361668146421), (2, .inl 0, .inl 9), (0, .inl 0, .inr 13787419979223748497), (2, .inl 0, .inl 11), (0, .inl 0, .inr 4586165620538955083), (2, .inl 10, .inl 0), (0, .inl 12, .inl 0)]
set_option maxRecDepth 100000 in
theorem cos_p10 (x xa r1 j : Nat) (hx : x < 2 ^ 64) (hf : Fnt x) (hj : j ≤ 30) (hxa : x % 2 ^ 63 = xa) (oth : (FloatKind.f64.format.order xa 4737786807993761792 == some .gt || FloatKind.f64.format.order xa 4737786807993761792 == some .eq) = false) (e0 : Ieee.double.mul xa 4608412980311869571 = some r1) (hc : floatToIntVal .f64 r1 .u64 = some (j : Int))
    (b1 : bits .and .u64 (j : Int) 1 = 1) (b7 : bits .and .u64 ((j : Int) + 1) 7 = 0) (w : World) (T : Tabs w) {Q : List Nat → Prop} (H : Runs ops_cosO1B0S0 [floatOfInt .f64 (j : Int), r1, xa] Q) : ∃ r e, Q (r :: e) ∧ Calls Tryd.prog 35 #[.float .f64 x] w fun e w' => e = .returned (.float .f64 r) ∧ w' = w := by
  have HN := Lib.hid (isNaN_any x w)
  rw [order_self hf] at HN
  have HI := Lib.hid (isInf_fin x hx hf w)
  have HA := Lib.hid (abs_any x hx w)
  rw [hxa] at HA
  have f0 : ∀ w, Sem.run Tryd.prog (binOp .mul 22 (.float .f64 xa) (.float .f64 4608412980311869571)) w = .ok (.float .f64 r1) w := fun w => run_float_arith w .mul _ .f64 _ _ _ e0
  have cv : ∀ w, Sem.run Tryd.prog (convert 22 33 (.float .f64 r1)) w = .ok (.int .u64 (j : Int)) w := fun w => run_convert_float_int w _ _ .f64 .u64 r1 j (by kernel_rfl) (by kernel_rfl) hc
  have cw : ∀ w, Sem.run Tryd.prog (convert 33 22 (.int .u64 (j : Int))) w = .ok (.float .f64 (floatOfInt .f64 (j : Int))) w := fun w => run_convert_int_float w _ _ .u64 .f64 _ (by kernel_rfl) (by kernel_rfl)
  obtain ⟨y, hy⟩ : ∃ y, floatOfInt .f64 (j : Int) = y := ⟨_, rfl⟩
  rw [hy] at cw H
  have c8_0 := T.cos.cell 0 13666448263388469915 rfl
  have c8_1 := T.cos.cell 1 4477121864728985349 rfl
  have c8_2 := T.cos.cell 2 13732177093698800582 rfl
  have c8_3 := T.cos.cell 3 4537941361668146421 rfl
  have c8_4 := T.cos.cell 4 13787419979223748497 rfl
  have c8_5 := T.cos.cell 5 4586165620538955083 rfl
  obtain ⟨r2, er2, r3, er3, r4, er4, r5, er5, r6, er6, r7, er7, r8, er8, r9, er9, r10, er10, r11, er11, r12, er12, r13, er13, r14, er14, r15, er15, r16, er16, r17, er17, r18, er18, r19, er19, r20, er20, r21, er21, r22, er22, r23, er23, r24, er24, hQ⟩ := H
  have fr2 : ∀ w, Sem.run Tryd.prog (binOp .add 22 (.float .f64 y) (.float .f64 4607182418800017408)) w = .ok (.float .f64 r2) w := fun w => run_float_arith w .add _ .f64 _ _ _ er2
  have fr3 : ∀ w, Sem.run Tryd.prog (binOp .mul 22 (.float .f64 r2) (.float .f64 4605249456957292544)) w = .ok (.float .f64 r3) w := fun w => run_float_arith w .mul _ .f64 _ _ _ er3
  have fr4 : ∀ w, Sem.run Tryd.prog (binOp .sub 22 (.float .f64 xa) (.float .f64 r3)) w = .ok (.float .f64 r4) w := fun w => run_float_arith w .sub _ .f64 _ _ _ er4
  have fr5 : ∀ w, Sem.run Tryd.prog (binOp .mul 22 (.float .f64 r2) (.float .f64 4495793288086814720)) w = .ok (.float .f64 r5) w := fun w => run_float_arith w .mul _ .f64 _ _ _ er5
  have fr6 : ∀ w, Sem.run Tryd.prog (binOp .sub 22 (.float .f64 r4) (.float .f64 r5)) w = .ok (.float .f64 r6) w := fun w => run_float_arith w .sub _ .f64 _ _ _ er6
  have fr7 : ∀ w, Sem.run Tryd.prog (binOp .mul 22 (.float .f64 r2) (.float .f64 4388835458085048688)) w = .ok (.float .f64 r7) w := fun w => run_float_arith w .mul _ .f64 _ _ _ er7
  have fr8 : ∀ w, Sem.run Tryd.prog (binOp .sub 22 (.float .f64 r6) (.float .f64 r7)) w = .ok (.float .f64 r8) w := fun w => run_float_arith w .sub _ .f64 _ _ _ er8
  have fr9 : ∀ w, Sem.run Tryd.prog (binOp .mul 22 (.float .f64 r8) (.float .f64 r8)) w = .ok (.float .f64 r9) w := fun w => run_float_arith w .mul _ .f64 _ _ _ er9
  have fr10 : ∀ w, Sem.run Tryd.prog (binOp .mul 22 (.float .f64 4602678819172646912) (.float .f64 r9)) w = .ok (.float .f64 r10) w := fun w => run_float_arith w .mul _ .f64 _ _ _ er10
  have fr11 : ∀ w, Sem.run Tryd.prog (binOp .sub 22 (.float .f64 4607182418800017408) (.float .f64 r10)) w = .ok (.float .f64 r11) w := fun w => run_float_arith w .sub _ .f64 _ _ _ er11
  have fr12 : ∀ w, Sem.run Tryd.prog (binOp .mul 22 (.float .f64 r9) (.float .f64 r9)) w = .ok (.float .f64 r12) w := fun w => run_float_arith w .mul _ .f64 _ _ _ er12
  have fr13 : ∀ w, Sem.run Tryd.prog (binOp .mul 22 (.float .f64 13666448263388469915) (.float .f64 r9)) w = .ok (.float .f64 r13) w := fun w => run_float_arith w .mul _ .f64 _ _ _ er13
  have fr14 : ∀ w, Sem.run Tryd.prog (binOp .add 22 (.float .f64 r13) (.float .f64 4477121864728985349)) w = .ok (.float .f64 r14) w := fun w => run_float_arith w .add _ .f64 _ _ _ er14
  have fr15 : ∀ w, Sem.run Tryd.prog (binOp .mul 22 (.float .f64 r14) (.float .f64 r9)) w = .ok (.float .f64 r15) w := fun w => run_float_arith w .mul _ .f64 _ _ _ er15
  have fr16 : ∀ w, Sem.run Tryd.prog (binOp .add 22 (.float .f64 r15) (.float .f64 13732177093698800582)) w = .ok (.float .f64 r16) w := fun w => run_float_arith w .add _ .f64 _ _ _ er16
  have fr17 : ∀ w, Sem.run Tryd.prog (binOp .mul 22 (.float .f64 r16) (.float .f64 r9)) w = .ok (.float .f64 r17) w := fun w => run_float_arith w .mul _ .f64 _ _ _ er17
  have fr18 : ∀ w, Sem.run Tryd.prog (binOp .add 22 (.float .f64 r17) (.float .f64 4537941361668146421)) w = .ok (.float .f64 r18) w := fun w => run_float_arith w .add _ .f64 _ _ _ er18
  have fr19 : ∀ w, Sem.run Tryd.prog (binOp .mul 22 (.float .f64 r18) (.float .f64 r9)) w = .ok (.float .f64 r19) w := fun w => run_float_arith w .mul _ .f64 _ _ _ er19
  have fr20 : ∀ w, Sem.run Tryd.prog (binOp .add 22 (.float .f64 r19) (.float .f64 13787419979223748497)) w = .ok (.float .f64 r20) w := fun w => run_float_arith w .add _ .f64 _ _ _ er20
  have fr21 : ∀ w, Sem.run Tryd.prog (binOp .mul 22 (.float .f64 r20) (.float .f64 r9)) w = .ok (.float .f64 r21) w := fun w => run_float_arith w .mul _ .f64 _ _ _ er21
  have fr22 : ∀ w, Sem.run Tryd.prog (binOp .add 22 (.float .f64 r21) (.float .f64 4586165620538955083)) w = .ok (.float .f64 r22) w := fun w => run_float_arith w .add _ .f64 _ _ _ er22
  have fr23 : ∀ w, Sem.run Tryd.prog (binOp .mul 22 (.float .f64 r12) (.float .f64 r22)) w = .ok (.float .f64 r23) w := fun w => run_float_arith w .mul _ .f64 _ _ _ er23
  have fr24 : ∀ w, Sem.run Tryd.prog (binOp .add 22 (.float .f64 r11) (.float .f64 r23)) w = .ok (.float .f64 r24) w := fun w => run_float_arith w .add _ .f64 _ _ _ er24
  refine ⟨r24, _, hQ, ?_⟩
  clear hQ e0 hc hy hf hx er2 er3 er4 er5 er6 er7 er8 er9 er10 er11 er12 er13 er14 er15 er16 er17 er18 er19 er20 er21 er22 er23 er24 hxa
  go_enter Tryd.func35, Tryd.ntmps35
  go_wp2_with fail
  refine HN.out.mono ?_
  rintro e w1 ⟨rfl, hw⟩
  obtain rfl : w = w1 := hw.symm
  go_wp2_with fail
  refine HI.out.mono ?_
  rintro e w1 ⟨rfl, hw⟩
  obtain rfl : w = w1 := hw.symm
  go_wp2_with fail
  refine HA.out.mono ?_
  rintro e w1 ⟨rfl, hw⟩
  obtain rfl : w = w1 := hw.symm
  go_wp2_with fail
  go_ret
  exact ⟨rfl, rfl⟩
def ops_cosO1B1S1 : List (Nat × Sum Nat Nat × Sum Nat Nat) := [(0, .inl 0, .inr 4607182418800017408), (2, .inl 0, .inr 4605249456957292544), (1, .inl 4, .inl 0), (2, .inl 2, .inr 4495793288086814720), (1, .inl 1, .inl 0), (2, .inl 4, .inr 4388835458085048688), (1, .inl 1, .inl 0), (2, .inl 0, .inl 0), (2, .inl 1, .inl 0), (2, .inr 4460209587652500685, .inl 1), (0, .inl 0, .inr 13716528389658582877), (2, .inl 0, .inl 3), (0, .inl 0, .inr 4523617212962785441), (2, .inl 0, .inl 5), (0, .inl 0, .inr 13774824197404483331), (2, .inl 0, .inl 7), (0, .inl 0, .inr 4575957461383575504), (2, .inl 0, .inl 9), (0, .inl 0, .inr 13818544856648471880), (2, .inl 10, .inl 0), (0, .inl 13, .inl 0), (4, .inl 0, .inr 0)]
set_option maxRecDepth 100000 in
theorem cos_p12 (x xa r1 j : Nat) (hx : x < 2 ^ 64) (hf : Fnt x) (hj : j ≤ 30) (hxa : x % 2 ^ 63 = xa) (oth : (FloatKind.f64.format.order xa 4737786807993761792 == some .gt || FloatKind.f64.format.order xa 4737786807993761792 == some .eq) = false) (e0 : Ieee.double.mul xa 4608412980311869571 = some r1) (hc : floatToIntVal .f64 r1 .u64 = some (j : Int))
    (b1 : bits .and .u64 (j : Int) 1 = 1) (b7 : bits .and .u64 ((j : Int) + 1) 7 = 2) (w : World) (T : Tabs w) {Q : List Nat → Prop} (H : Runs ops_cosO1B1S1 [floatOfInt .f64 (j : Int), r1, xa] Q) : ∃ r e, Q (r :: e) ∧ Calls Tryd.prog 35 #[.float .f64 x] w fun e w' => e = .returned (.float .f64 r) ∧ w' = w := by
  have HN := Lib.hid (isNaN_any x w)
  rw [order_self hf] at HN
  have HI := Lib.hid (isInf_fin x hx hf w)
  have HA := Lib.hid (abs_any x hx w)
  rw [hxa] at HA
  have f0 : ∀ w, Sem.run Tryd.prog (binOp .mul 22 (.float .f64 xa) (.float .f64 4608412980311869571)) w = .ok (.float .f64 r1) w := fun w => run_float_arith w .mul _ .f64 _ _ _ e0
  have cv : ∀ w, Sem.run Tryd.prog (convert 22 33 (.float .f64 r1)) w = .ok (.int .u64 (j : Int)) w := fun w => run_convert_float_int w _ _ .f64 .u64 r1 j (by kernel_rfl) (by kernel_rfl) hc
  have cw : ∀ w, Sem.run Tryd.prog (convert 33 22 (.int .u64 (j : Int))) w = .ok (.float .f64 (floatOfInt .f64 (j : Int))) w := fun w => run_convert_int_float w _ _ .u64 .f64 _ (by kernel_rfl) (by kernel_rfl)
  obtain ⟨y, hy⟩ : ∃ y, floatOfInt .f64 (j : Int) = y := ⟨_, rfl⟩
  rw [hy] at cw H
  have c9_0 := T.sin.cell 0 4460209587652500685 rfl
  have c9_1 := T.sin.cell 1 13716528389658582877 rfl
  have c9_2 := T.sin.cell 2 4523617212962785441 rfl
  have c9_3 := T.sin.cell 3 13774824197404483331 rfl
  have c9_4 := T.sin.cell 4 4575957461383575504 rfl
  have c9_5 := T.sin.cell 5 13818544856648471880 rfl
  obtain ⟨r2, er2, r3, er3, r4, er4, r5, er5, r6, er6, r7, er7, r8, er8, r9, er9, r10, er10, r11, er11, r12, er12, r13, er13, r14, er14, r15, er15, r16, er16, r17, er17, r18, er18, r19, er19, r20, er20, r21, er21, r22, er22, r23, er23, hQ⟩ := H
  have fr2 : ∀ w, Sem.run Tryd.prog (binOp .add 22 (.float .f64 y) (.float .f64 4607182418800017408)) w = .ok (.float .f64 r2) w := fun w => run_float_arith w .add _ .f64 _ _ _ er2
  have fr3 : ∀ w, Sem.run Tryd.prog (binOp .mul 22 (.float .f64 r2) (.float .f64 4605249456957292544)) w = .ok (.float .f64 r3) w := fun w => run_float_arith w .mul _ .f64 _ _ _ er3
  have fr4 : ∀ w, Sem.run Tryd.prog (binOp .sub 22 (.float .f64 xa) (.float .f64 r3)) w = .ok (.float .f64 r4) w := fun w => run_float_arith w .sub _ .f64 _ _ _ er4
  have fr5 : ∀ w, Sem.run Tryd.prog (binOp .mul 22 (.float .f64 r2) (.float .f64 4495793288086814720)) w = .ok (.float .f64 r5) w := fun w => run_float_arith w .mul _ .f64 _ _ _ er5
  have fr6 : ∀ w, Sem.run Tryd.prog (binOp .sub 22 (.float .f64 r4) (.float .f64 r5)) w = .ok (.float .f64 r6) w := fun w => run_float_arith w .sub _ .f64 _ _ _ er6
  have fr7 : ∀ w, Sem.run Tryd.prog (binOp .mul 22 (.float .f64 r2) (.float .f64 4388835458085048688)) w = .ok (.float .f64 r7) w := fun w => run_float_arith w .mul _ .f64 _ _ _ er7
  have fr8 : ∀ w, Sem.run Tryd.prog (binOp .sub 22 (.float .f64 r6) (.float .f64 r7)) w = .ok (.float .f64 r8) w := fun w => run_float_arith w .sub _ .f64 _ _ _ er8
  have fr9 : ∀ w, Sem.run Tryd.prog (binOp .mul 22 (.float .f64 r8) (.float .f64 r8)) w = .ok (.float .f64 r9) w := fun w => run_float_arith w .mul _ .f64 _ _ _ er9
  have fr10 : ∀ w, Sem.run Tryd.prog (binOp .mul 22 (.float .f64 r8) (.float .f64 r9)) w = .ok (.float .f64 r10) w := fun w => run_float_arith w .mul _ .f64 _ _ _ er10
  have fr11 : ∀ w, Sem.run Tryd.prog (binOp .mul 22 (.float .f64 4460209587652500685) (.float .f64 r9)) w = .ok (.float .f64 r11) w := fun w => run_float_arith w .mul _ .f64 _ _ _ er11
  have fr12 : ∀ w, Sem.run Tryd.prog (binOp .add 22 (.float .f64 r11) (.float .f64 13716528389658582877)) w = .ok (.float .f64 r12) w := fun w => run_float_arith w .add _ .f64 _ _ _ er12
  have fr13 : ∀ w, Sem.run Tryd.prog (binOp .mul 22 (.float .f64 r12) (.float .f64 r9)) w = .ok (.float .f64 r13) w := fun w => run_float_arith w .mul _ .f64 _ _ _ er13
  have fr14 : ∀ w, Sem.run Tryd.prog (binOp .add 22 (.float .f64 r13) (.float .f64 4523617212962785441)) w = .ok (.float .f64 r14) w := fun w => run_float_arith w .add _ .f64 _ _ _ er14
  have fr15 : ∀ w, Sem.run Tryd.prog (binOp .mul 22 (.float .f64 r14) (.float .f64 r9)) w = .ok (.float .f64 r15) w := fun w => run_float_arith w .mul _ .f64 _ _ _ er15
  have fr16 : ∀ w, Sem.run Tryd.prog (binOp .add 22 (.float .f64 r15) (.float .f64 13774824197404483331)) w = .ok (.float .f64 r16) w := fun w => run_float_arith w .add _ .f64 _ _ _ er16
  have fr17 : ∀ w, Sem.run Tryd.prog (binOp .mul 22 (.float .f64 r16) (.float .f64 r9)) w = .ok (.float .f64 r17) w := fun w => run_float_arith w .mul _ .f64 _ _ _ er17
  have fr18 : ∀ w, Sem.run Tryd.prog (binOp .add 22 (.float .f64 r17) (.float .f64 4575957461383575504)) w = .ok (.float .f64 r18) w := fun w => run_float_arith w .add _ .f64 _ _ _ er18
  have fr19 : ∀ w, Sem.run Tryd.prog (binOp .mul 22 (.float .f64 r18) (.float .f64 r9)) w = .ok (.float .f64 r19) w := fun w => run_float_arith w .mul _ .f64 _ _ _ er19
  have fr20 : ∀ w, Sem.run Tryd.prog (binOp .add 22 (.float .f64 r19) (.float .f64 13818544856648471880)) w = .ok (.float .f64 r20) w := fun w => run_float_arith w .add _ .f64 _ _ _ er20
  have fr21 : ∀ w, Sem.run Tryd.prog (binOp .mul 22 (.float .f64 r10) (.float .f64 r20)) w = .ok (.float .f64 r21) w := fun w => run_float_arith w .mul _ .f64 _ _ _ er21
  have fr22 : ∀ w, Sem.run Tryd.prog (binOp .add 22 (.float .f64 r8) (.float .f64 r21)) w = .ok (.float .f64 r22) w := fun w => run_float_arith w .add _ .f64 _ _ _ er22
  have fr23 : ∀ w, Sem.run Tryd.prog (Op.unary .neg (.float .f64 r22)) w = .ok (.float .f64 r23) w := fun w => run_neg w (Option.some.inj er23)
  refine ⟨r23, _, hQ, ?_⟩
  clear hQ e0 hc hy hf hx er2 er3 er4 er5 er6 er7 er8 er9 er10 er11 er12 er13 er14 er15 er16 er17 er18 er19 er20 er21 er22 er23 hxa
  go_enter Tryd.func35, Tryd.ntmps35
  go_wp2_with fail
  refine HN.out.mono ?_
  rintro e w1 ⟨rfl, hw⟩
  obtain rfl : w = w1 := hw.symm
  go_wp2_with fail
  refine HI.out.mono ?_
  rintro e w1 ⟨rfl, hw⟩
  obtain rfl : w = w1 := hw.symm
  go_wp2_with fail
  refine HA.out.mono ?_
  rintro e w1 ⟨rfl, hw⟩
  obtain rfl : w = w1 := hw.symm
  go_wp2_with fail
  go_ret
  exact ⟨rfl, rfl⟩
def ops_cosO1B0S1 : List (Nat × Sum Nat Nat × Sum Nat Nat) := [(0, .inl 0, .inr 4607182418800017408), (2, .inl 0, .inr 4605249456957292544), (1, .inl 4, .inl 0), (2, .inl 2, .inr 4495793288086814720), (1, .inl 1, .inl 0), (2, .inl 4, .inr 4388835458085048688), (1, .inl 1, .inl 0), (2, .inl 0, .inl 0), (2, .inr 4602678819172646912, .inl 0), (1, .inr 4607182418800017408, .inl 0), (2, .inl 2, .inl 2), (2, .inr 13666448263388469915, .inl 3), (0, .inl 0, .inr 4477121864728985349), (2, .inl 0, .inl 5), (0, .inl 0, .inr 13732177093698800582), (2, .inl 0, .inl 7), (0, .inl 0, .inr 4537941361668146421), (2, .inl 0, .inl 9), (0, .inl 0, .inr 13787419979223748497), (2, .inl 0, .inl 11), (0, .inl 0, .inr 4586165620538955083), (2, .inl 10, .inl 0), (0, .inl 12, .inl 0), (4, .inl 0, .inr 0)]
set_option maxRecDepth 100000 in
theorem cos_p14 (x xa r1 j : Nat) (hx : x < 2 ^ 64) (hf : Fnt x) (hj : j ≤ 30) (hxa : x % 2 ^ 63 = xa) (oth : (FloatKind.f64.format.order xa 4737786807993761792 == some .gt || FloatKind.f64.format.order xa 4737786807993761792 == some .eq) = false) (e0 : Ieee.double.mul xa 4608412980311869571 = some r1) (hc : floatToIntVal .f64 r1 .u64 = some (j : Int))
    (b1 : bits .and .u64 (j : Int) 1 = 1) (b7 : bits .and .u64 ((j : Int) + 1) 7 = 4) (w : World) (T : Tabs w) {Q : List Nat → Prop} (H : Runs ops_cosO1B0S1 [floatOfInt .f64 (j : Int), r1, xa] Q) : ∃ r e, Q (r :: e) ∧ Calls Tryd.prog 35 #[.float .f64 x] w fun e w' => e = .returned (.float .f64 r) ∧ w' = w := by
  have HN := Lib.hid (isNaN_any x w)
  rw [order_self hf] at HN
  have HI := Lib.hid (isInf_fin x hx hf w)
  have HA := Lib.hid (abs_any x hx w)
  rw [hxa] at HA
  have f0 : ∀ w, Sem.run Tryd.prog (binOp .mul 22 (.float .f64 xa) (.float .f64 4608412980311869571)) w = .ok (.float .f64 r1) w := fun w => run_float_arith w .mul _ .f64 _ _ _ e0
  have cv : ∀ w, Sem.run Tryd.prog (convert 22 33 (.float .f64 r1)) w = .ok (.int .u64 (j : Int)) w := fun w => run_convert_float_int w _ _ .f64 .u64 r1 j (by kernel_rfl) (by kernel_rfl) hc
  have cw : ∀ w, Sem.run Tryd.prog (convert 33 22 (.int .u64 (j : Int))) w = .ok (.float .f64 (floatOfInt .f64 (j : Int))) w := fun w => run_convert_int_float w _ _ .u64 .f64 _ (by kernel_rfl) (by kernel_rfl)
  obtain ⟨y, hy⟩ : ∃ y, floatOfInt .f64 (j : Int) = y := ⟨_, rfl⟩
  rw [hy] at cw H
  have c8_0 := T.cos.cell 0 13666448263388469915 rfl
  have c8_1 := T.cos.cell 1 4477121864728985349 rfl
  have c8_2 := T.cos.cell 2 13732177093698800582 rfl
  have c8_3 := T.cos.cell 3 4537941361668146421 rfl
  have c8_4 := T.cos.cell 4 13787419979223748497 rfl
  have c8_5 := T.cos.cell 5 4586165620538955083 rfl
  obtain ⟨r2, er2, r3, er3, r4, er4, r5, er5, r6, er6, r7, er7, r8, er8, r9, er9, r10, er10, r11, er11, r12, er12, r13, er13, r14, er14, r15, er15, r16, er16, r17, er17, r18, er18, r19, er19, r20, er20, r21, er21, r22, er22, r23, er23, r24, er24, r25, er25, hQ⟩ := H
  have fr2 : ∀ w, Sem.run Tryd.prog (binOp .add 22 (.float .f64 y) (.float .f64 4607182418800017408)) w = .ok (.float .f64 r2) w := fun w => run_float_arith w .add _ .f64 _ _ _ er2
  have fr3 : ∀ w, Sem.run Tryd.prog (binOp .mul 22 (.float .f64 r2) (.float .f64 4605249456957292544)) w = .ok (.float .f64 r3) w := fun w => run_float_arith w .mul _ .f64 _ _ _ er3
  have fr4 : ∀ w, Sem.run Tryd.prog (binOp .sub 22 (.float .f64 xa) (.float .f64 r3)) w = .ok (.float .f64 r4) w := fun w => run_float_arith w .sub _ .f64 _ _ _ er4
  have fr5 : ∀ w, Sem.run Tryd.prog (binOp .mul 22 (.float .f64 r2) (.float .f64 4495793288086814720)) w = .ok (.float .f64 r5) w := fun w => run_float_arith w .mul _ .f64 _ _ _ er5
  have fr6 : ∀ w, Sem.run Tryd.prog (binOp .sub 22 (.float .f64 r4) (.float .f64 r5)) w = .ok (.float .f64 r6) w := fun w => run_float_arith w .sub _ .f64 _ _ _ er6
  have fr7 : ∀ w, Sem.run Tryd.prog (binOp .mul 22 (.float .f64 r2) (.float .f64 4388835458085048688)) w = .ok (.float .f64 r7) w := fun w => run_float_arith w .mul _ .f64 _ _ _ er7
  have fr8 : ∀ w, Sem.run Tryd.prog (binOp .sub 22 (.float .f64 r6) (.float .f64 r7)) w = .ok (.float .f64 r8) w := fun w => run_float_arith w .sub _ .f64 _ _ _ er8
  have fr9 : ∀ w, Sem.run Tryd.prog (binOp .mul 22 (.float .f64 r8) (.float .f64 r8)) w = .ok (.float .f64 r9) w := fun w => run_float_arith w .mul _ .f64 _ _ _ er9
  have fr10 : ∀ w, Sem.run Tryd.prog (binOp .mul 22 (.float .f64 4602678819172646912) (.float .f64 r9)) w = .ok (.float .f64 r10) w := fun w => run_float_arith w .mul _ .f64 _ _ _ er10
  have fr11 : ∀ w, Sem.run Tryd.prog (binOp .sub 22 (.float .f64 4607182418800017408) (.float .f64 r10)) w = .ok (.float .f64 r11) w := fun w => run_float_arith w .sub _ .f64 _ _ _ er11
  have fr12 : ∀ w, Sem.run Tryd.prog (binOp .mul 22 (.float .f64 r9) (.float .f64 r9)) w = .ok (.float .f64 r12) w := fun w => run_float_arith w .mul _ .f64 _ _ _ er12
  have fr13 : ∀ w, Sem.run Tryd.prog (binOp .mul 22 (.float .f64 13666448263388469915) (.float .f64 r9)) w = .ok (.float .f64 r13) w := fun w => run_float_arith w .mul _ .f64 _ _ _ er13
  have fr14 : ∀ w, Sem.run Tryd.prog (binOp .add 22 (.float .f64 r13) (.float .f64 4477121864728985349)) w = .ok (.float .f64 r14) w := fun w => run_float_arith w .add _ .f64 _ _ _ er14
  have fr15 : ∀ w, Sem.run Tryd.prog (binOp .mul 22 (.float .f64 r14) (.float .f64 r9)) w = .ok (.float .f64 r15) w := fun w => run_float_arith w .mul _ .f64 _ _ _ er15
  have fr16 : ∀ w, Sem.run Tryd.prog (binOp .add 22 (.float .f64 r15) (.float .f64 13732177093698800582)) w = .ok (.float .f64 r16) w := fun w => run_float_arith w .add _ .f64 _ _ _ er16
  have fr17 : ∀ w, Sem.run Tryd.prog (binOp .mul 22 (.float .f64 r16) (.float .f64 r9)) w = .ok (.float .f64 r17) w := fun w => run_float_arith w .mul _ .f64 _ _ _ er17
  have fr18 : ∀ w, Sem.run Tryd.prog (binOp .add 22 (.float .f64 r17) (.float .f64 4537941361668146421)) w = .ok (.float .f64 r18) w := fun w => run_float_arith w .add _ .f64 _ _ _ er18
  have fr19 : ∀ w, Sem.run Tryd.prog (binOp .mul 22 (.float .f64 r18) (.float .f64 r9)) w = .ok (.float .f64 r19) w := fun w => run_float_arith w .mul _ .f64 _ _ _ er19
  have fr20 : ∀ w, Sem.run Tryd.prog (binOp .add 22 (.float .f64 r19) (.float .f64 13787419979223748497)) w = .ok (.float .f64 r20) w := fun w => run_float_arith w .add _ .f64 _ _ _ er20
  have fr21 : ∀ w, Sem.run Tryd.prog (binOp .mul 22 (.float .f64 r20) (.float .f64 r9)) w = .ok (.float .f64 r21) w := fun w => run_float_arith w .mul _ .f64 _ _ _ er21
  have fr22 : ∀ w, Sem.run Tryd.prog (binOp .add 22 (.float .f64 r21) (.float .f64 4586165620538955083)) w = .ok (.float .f64 r22) w := fun w => run_float_arith w .add _ .f64 _ _ _ er22
  have fr23 : ∀ w, Sem.run Tryd.prog (binOp .mul 22 (.float .f64 r12) (.float .f64 r22)) w = .ok (.float .f64 r23) w := fun w => run_float_arith w .mul _ .f64 _ _ _ er23
  have fr24 : ∀ w, Sem.run Tryd.prog (binOp .add 22 (.float .f64 r11) (.float .f64 r23)) w = .ok (.float .f64 r24) w := fun w => run_float_arith w .add _ .f64 _ _ _ er24
  have fr25 : ∀ w, Sem.run Tryd.prog (Op.unary .neg (.float .f64 r24)) w = .ok (.float .f64 r25) w := fun w => run_neg w (Option.some.inj er25)
  refine ⟨r25, _, hQ, ?_⟩
  clear hQ e0 hc hy hf hx er2 er3 er4 er5 er6 er7 er8 er9 er10 er11 er12 er13 er14 er15 er16 er17 er18 er19 er20 er21 er22 er23 er24 er25 hxa
  go_enter Tryd.func35, Tryd.ntmps35
  go_wp2_with fail
  refine HN.out.mono ?_
  rintro e w1 ⟨rfl, hw⟩
  obtain rfl : w = w1 := hw.symm
  go_wp2_with fail
  refine HI.out.mono ?_
  rintro e w1 ⟨rfl, hw⟩
  obtain rfl : w = w1 := hw.symm
  go_wp2_with fail
  refine HA.out.mono ?_
  rintro e w1 ⟨rfl, hw⟩
  obtain rfl : w = w1 := hw.symm
  go_wp2_with fail
  go_ret
  exact ⟨rfl, rfl⟩
def ops_cosO1B1S0 : List (Nat × Sum Nat Nat × Sum Nat Nat) := [(0, .inl 0, .inr 4607182418800017408), (2, .inl 0, .inr 4605249456957292544), (1, .inl 4, .inl 0), (2, .inl 2, .inr 4495793288086814720), (1, .inl 1, .inl 0), (2, .inl 4, .inr 4388835458085048688), (1, .inl 1, .inl 0), (2, .inl 0, .inl 0), (2, .inl 1, .inl 0), (2, .inr 4460209587652500685, .inl 1), (0, .inl 0, .inr 13716528389658582877), (2, .inl 0, .inl 3), (0, .inl 0, .inr 4523617212962785441), (2, .inl 0, .inl 5), (0, .inl 0, .inr 13774824197404483331), (2, .inl 0, .inl 7), (0, .inl 0, .inr 4575957461383575504), (2, .inl 0, .inl 9), (0, .inl 0, .inr 13818544856648471880), (2, .inl 10, .inl 0), (0, .inl 13, .inl 0)]
set_option maxRecDepth 100000 in
theorem cos_p16 (x xa r1 j : Nat) (hx : x < 2 ^ 64) (hf : Fnt x) (hj : j ≤ 30) (hxa : x % 2 ^ 63 = xa) (oth : (FloatKind.f64.format.order xa 4737786807993761792 == some .gt || FloatKind.f64.format.order xa 4737786807993761792 == some .eq) = false) (e0 : Ieee.double.mul xa 4608412980311869571 = some r1) (hc : floatToIntVal .f64 r1 .u64 = some (j : Int))
    (b1 : bits .and .u64 (j : Int) 1 = 1) (b7 : bits .and .u64 ((j : Int) + 1) 7 = 6) (w : World) (T : Tabs w) {Q : List Nat → Prop} (H : Runs ops_cosO1B1S0 [floatOfInt .f64 (j : Int), r1, xa] Q) : ∃ r e, Q (r :: e) ∧ Calls Tryd.prog 35 #[.float .f64 x] w fun e w' => e = .returned (.float .f64 r) ∧ w' = w := by
  have HN := Lib.hid (isNaN_any x w)
  rw [order_self hf] at HN
  have HI := Lib.hid (isInf_fin x hx hf w)
  have HA := Lib.hid (abs_any x hx w)
  rw [hxa] at HA
  have f0 : ∀ w, Sem.run Tryd.prog (binOp .mul 22 (.float .f64 xa) (.float .f64 4608412980311869571)) w = .ok (.float .f64 r1) w := fun w => run_float_arith w .mul _ .f64 _ _ _ e0
  have cv : ∀ w, Sem.run Tryd.prog (convert 22 33 (.float .f64 r1)) w = .ok (.int .u64 (j : Int)) w := fun w => run_convert_float_int w _ _ .f64 .u64 r1 j (by kernel_rfl) (by kernel_rfl) hc
  have cw : ∀ w, Sem.run Tryd.prog (convert 33 22 (.int .u64 (j : Int))) w = .ok (.float .f64 (floatOfInt .f64 (j : Int))) w := fun w => run_convert_int_float w _ _ .u64 .f64 _ (by kernel_rfl) (by kernel_rfl)
  obtain ⟨y, hy⟩ : ∃ y, floatOfInt .f64 (j : Int) = y := ⟨_, rfl⟩
  rw [hy] at cw H
  have c9_0 := T.sin.cell 0 4460209587652500685 rfl
  have c9_1 := T.sin.cell 1 13716528389658582877 rfl
  have c9_2 := T.sin.cell 2 4523617212962785441 rfl
  have c9_3 := T.sin.cell 3 13774824197404483331 rfl
  have c9_4 := T.sin.cell 4 4575957461383575504 rfl
  have c9_5 := T.sin.cell 5 13818544856648471880 rfl
  obtain ⟨r2, er2, r3, er3, r4, er4, r5, er5, r6, er6, r7, er7, r8, er8, r9, er9, r10, er10, r11, er11, r12, er12, r13, er13, r14, er14, r15, er15, r16, er16, r17, er17, r18, er18, r19, er19, r20, er20, r21, er21, r22, er22, hQ⟩ := H
  have fr2 : ∀ w, Sem.run Tryd.prog (binOp .add 22 (.float .f64 y) (.float .f64 4607182418800017408)) w = .ok (.float .f64 r2) w := fun w => run_float_arith w .add _ .f64 _ _ _ er2
  have fr3 : ∀ w, Sem.run Tryd.prog (binOp .mul 22 (.float .f64 r2) (.float .f64 4605249456957292544)) w = .ok (.float .f64 r3) w := fun w => run_float_arith w .mul _ .f64 _ _ _ er3
  have fr4 : ∀ w, Sem.run Tryd.prog (binOp .sub 22 (.float .f64 xa) (.float .f64 r3)) w = .ok (.float .f64 r4) w := fun w => run_float_arith w .sub _ .f64 _ _ _ er4
  have fr5 : ∀ w, Sem.run Tryd.prog (binOp .mul 22 (.float .f64 r2) (.float .f64 4495793288086814720)) w = .ok (.float .f64 r5) w := fun w => run_float_arith w .mul _ .f64 _ _ _ er5
  have fr6 : ∀ w, Sem.run Tryd.prog (binOp .sub 22 (.float .f64 r4) (.float .f64 r5)) w = .ok (.float .f64 r6) w := fun w => run_float_arith w .sub _ .f64 _ _ _ er6
  have fr7 : ∀ w, Sem.run Tryd.prog (binOp .mul 22 (.float .f64 r2) (.float .f64 4388835458085048688)) w = .ok (.float .f64 r7) w := fun w => run_float_arith w .mul _ .f64 _ _ _ er7
  have fr8 : ∀ w, Sem.run Tryd.prog (binOp .sub 22 (.float .f64 r6) (.float .f64 r7)) w = .ok (.float .f64 r8) w := fun w => run_float_arith w .sub _ .f64 _ _ _ er8
  have fr9 : ∀ w, Sem.run Tryd.prog (binOp .mul 22 (.float .f64 r8) (.float .f64 r8)) w = .ok (.float .f64 r9) w := fun w => run_float_arith w .mul _ .f64 _ _ _ er9
  have fr10 : ∀ w, Sem.run Tryd.prog (binOp .mul 22 (.float .f64 r8) (.float .f64 r9)) w = .ok (.float .f64 r10) w := fun w => run_float_arith w .mul _ .f64 _ _ _ er10
  have fr11 : ∀ w, Sem.run Tryd.prog (binOp .mul 22 (.float .f64 4460209587652500685) (.float .f64 r9)) w = .ok (.float .f64 r11) w := fun w => run_float_arith w .mul _ .f64 _ _ _ er11
  have fr12 : ∀ w, Sem.run Tryd.prog (binOp .add 22 (.float .f64 r11) (.float .f64 13716528389658582877)) w = .ok (.float .f64 r12) w := fun w => run_float_arith w .add _ .f64 _ _ _ er12
  have fr13 : ∀ w, Sem.run Tryd.prog (binOp .mul 22 (.float .f64 r12) (.float .f64 r9)) w = .ok (.float .f64 r13) w := fun w => run_float_arith w .mul _ .f64 _ _ _ er13
  have fr14 : ∀ w, Sem.run Tryd.prog (binOp .add 22 (.float .f64 r13) (.float .f64 4523617212962785441)) w = .ok (.float .f64 r14) w := fun w => run_float_arith w .add _ .f64 _ _ _ er14
  have fr15 : ∀ w, Sem.run Tryd.prog (binOp .mul 22 (.float .f64 r14) (.float .f64 r9)) w = .ok (.float .f64 r15) w := fun w => run_float_arith w .mul _ .f64 _ _ _ er15
  have fr16 : ∀ w, Sem.run Tryd.prog (binOp .add 22 (.float .f64 r15) (.float .f64 13774824197404483331)) w = .ok (.float .f64 r16) w := fun w => run_float_arith w .add _ .f64 _ _ _ er16
  have fr17 : ∀ w, Sem.run Tryd.prog (binOp .mul 22 (.float .f64 r16) (.float .f64 r9)) w = .ok (.float .f64 r17) w := fun w => run_float_arith w .mul _ .f64 _ _ _ er17
  have fr18 : ∀ w, Sem.run Tryd.prog (binOp .add 22 (.float .f64 r17) (.float .f64 4575957461383575504)) w = .ok (.float .f64 r18) w := fun w => run_float_arith w .add _ .f64 _ _ _ er18
  have fr19 : ∀ w, Sem.run Tryd.prog (binOp .mul 22 (.float .f64 r18) (.float .f64 r9)) w = .ok (.float .f64 r19) w := fun w => run_float_arith w .mul _ .f64 _ _ _ er19
  have fr20 : ∀ w, Sem.run Tryd.prog (binOp .add 22 (.float .f64 r19) (.float .f64 13818544856648471880)) w = .ok (.float .f64 r20) w := fun w => run_float_arith w .add _ .f64 _ _ _ er20
  have fr21 : ∀ w, Sem.run Tryd.prog (binOp .mul 22 (.float .f64 r10) (.float .f64 r20)) w = .ok (.float .f64 r21) w := fun w => run_float_arith w .mul _ .f64 _ _ _ er21
  have fr22 : ∀ w, Sem.run Tryd.prog (binOp .add 22 (.float .f64 r8) (.float .f64 r21)) w = .ok (.float .f64 r22) w := fun w => run_float_arith w .add _ .f64 _ _ _ er22
  refine ⟨r22, _, hQ, ?_⟩
  clear hQ e0 hc hy hf hx er2 er3 er4 er5 er6 er7 er8 er9 er10 er11 er12 er13 er14 er15 er16 er17 er18 er19 er20 er21 er22 hxa
  go_enter Tryd.func35, Tryd.ntmps35
  go_wp2_with fail
  refine HN.out.mono ?_
  rintro e w1 ⟨rfl, hw⟩
  obtain rfl : w = w1 := hw.symm
  go_wp2_with fail
  refine HI.out.mono ?_
  rintro e w1 ⟨rfl, hw⟩
  obtain rfl : w = w1 := hw.symm
  go_wp2_with fail
  refine HA.out.mono ?_
  rintro e w1 ⟨rfl, hw⟩
  obtain rfl : w = w1 := hw.symm
  go_wp2_with fail
  go_ret
  exact ⟨rfl, rfl⟩
end Go.Proofs.YtlemgjlnlegcgaaDoor
