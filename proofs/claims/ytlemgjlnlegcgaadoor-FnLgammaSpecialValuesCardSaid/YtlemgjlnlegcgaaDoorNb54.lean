/- The walks of math.Lgamma, one for each path. -/
import Derived.Test.YtlemgjlnlegcgaaDoorLq54
import Derived.Test.YtlemgjlnlegcgaaDoorTb54
namespace Go.Proofs.YtlemgjlnlegcgaaDoor
open Go.RowKit
open FL
set_option linter.unusedVariables false
set_option linter.unusedSimpArgs false

set_option maxRecDepth 100000 in
theorem negB1 (x u t m d nadj : Nat) (hu : u < 2 ^ 64) (hf : Fnt u) (hn : FloatKind.f64.format.order u 0 = some .lt) (hneg : ∀ w, Sem.run Tryd.prog (Op.unary .neg (.float .f64 u)) w = .ok (.float .f64 x) w) (hlo : 4608045453256689133 ≤ x) (hhi : x ≤ 4610477397055469200) (h52 : x < 4841369599423283200) (w : World) (T : Tabs w)
    (HS : Calls Tryd.prog 16 #[.float .f64 x] w fun e w' => e = .returned (.float .f64 t) ∧ w' = w) (ht : FloatKind.f64.format.order t 0 = some .lt ∨ FloatKind.f64.format.order t 0 = some .gt)
    (hm : floatBits .mul .f64 t x = some m) (hm64 : m < 2 ^ 64) (hd : floatBits .quo .f64 4614256656552045848 (m % 2 ^ 63) = some d) (hl : Go.Extern.MathLog.archLog #[.float .f64 d] = pure (.float .f64 nadj))
    {Q : Nat → Prop} (H : Runs opsB1 [x] fun e => ∃ q e' r, e = q :: e' ∧ floatBits .sub .f64 nadj q = some r ∧ Q r) : ∃ r s, Q r ∧ Calls Tryd.prog 11 #[.float .f64 u] w fun e w' => e = .returned (.tuple #[.float .f64 r, .int .i64 s]) ∧ w' = w := by
  have hfx : x < 2047 * 2 ^ 52 := by omega
  have hx64 : x < 2 ^ 64 := by omega
  have o0lss := lss_f (x := x) (c := 4291930444884082688) (by omega) hfx
  have o1eql := eql_f (x := x) (c := 4607182418800017408) (.inr (by omega)) hfx (by decide)
  have o2eql := eql_f (x := x) (c := 4611686018427387904) (.inl (by omega)) hfx (by decide)
  have o2lss := lss_t (x := x) (c := 4611686018427387904) (by omega) (by decide)
  have o3leq := leq_f (x := x) (c := 4606281698874543309) (by omega) hfx
  have o4geq := geq_f (x := x) (c := 4610477397055469201) (by omega) (by decide)
  have o5geq := geq_t (x := x) (c := 4608045453256689133) (by omega) hfx
  have HI := Lib.hid (isInf_fin u hu (hf) w)
  have HN := Lib.hid (isNaN_any u w)
  rw [order_self (x := u) (hf)] at HN
  have o52 := geq_f (x := x) (c := 4841369599423283200) (by omega) (by decide)
  have HS := Lib.hid HS
  have HA := Lib.hid (abs_any m hm64 w)
  have HL1 := Lib.hid (log_call hl w)
  have fm : ∀ w, Sem.run Tryd.prog (binOp .mul 22 (.float .f64 t) (.float .f64 x)) w = .ok (.float .f64 m) w := fun w => run_float_arith w .mul _ .f64 _ _ _ hm
  have fd : ∀ w, Sem.run Tryd.prog (binOp .quo 22 (.float .f64 4614256656552045848) (.float .f64 (m % 2 ^ 63))) w = .ok (.float .f64 d) w := fun w => run_float_arith w .quo _ .f64 _ _ _ hd
  obtain ⟨ma, hma⟩ : ∃ ma, m % 2 ^ 63 = ma := ⟨_, rfl⟩
  rw [hma] at fd HA
  have c2_0 := T.t.cell 0 4602387636645935266 rfl
  have c2_1 := T.t.cell 1 13817857465259574537 rfl
  have c2_2 := T.t.cell 2 4589321138371641755 rfl
  have c2_3 := T.t.cell 3 13808258184654468883 rfl
  have c2_4 := T.t.cell 4 4580836915846773228 rfl
  have c2_5 := T.t.cell 5 13800471404037139562 rfl
  have c2_6 := T.t.cell 6 4573683464413438788 rfl
  have c2_7 := T.t.cell 7 13794014384452342999 rfl
  have c2_8 := T.t.cell 8 4567356815629994261 rfl
  have c2_9 := T.t.cell 9 13787487198287567601 rfl
  have c2_10 := T.t.cell 10 4561265769268226281 rfl
  have c2_11 := T.t.cell 11 13781478925004955884 rfl
  have c2_12 := T.t.cell 12 4554458007677615095 rfl
  have c2_13 := T.t.cell 13 13777776956600978488 rfl
  have c2_14 := T.t.cell 14 4554825044790006772 rfl
  obtain ⟨r1, e1, r2, e2, r3, e3, r4, e4, r5, e5, r6, e6, r7, e7, r8, e8, r9, e9, r10, e10, r11, e11, r12, e12, r13, e13, r14, e14, r15, e15, r16, e16, r17, e17, r18, e18, r19, e19, r20, e20, r21, e21, r22, e22, r23, e23, r24, e24, r25, e25, r26, e26, r27, e27, r28, e28, r29, e29, r30, e30, r31, e31, r32, e32, r33, e33, r34, e34, r35, e35, hQ⟩ := H
  obtain ⟨q, eq9, r, he9, hs, hQ⟩ := hQ
  obtain ⟨hq9, _⟩ := List.cons.inj he9
  subst hq9
  clear he9
  have fs : ∀ w, Sem.run Tryd.prog (binOp .sub 22 (.float .f64 nadj) (.float .f64 r35)) w = .ok (.float .f64 r) w := fun w => run_float_arith w .sub _ .f64 _ _ _ hs
  have f1 : ∀ w, Sem.run Tryd.prog (binOp .sub 22 (.float .f64 x) (.float .f64 4609261425156079167)) w = .ok (.float .f64 r1) w := fun w => run_float_arith w .sub _ .f64 _ _ _ e1
  have f2 : ∀ w, Sem.run Tryd.prog (binOp .mul 22 (.float .f64 r1) (.float .f64 r1)) w = .ok (.float .f64 r2) w := fun w => run_float_arith w .mul _ .f64 _ _ _ e2
  have f3 : ∀ w, Sem.run Tryd.prog (binOp .mul 22 (.float .f64 r2) (.float .f64 r1)) w = .ok (.float .f64 r3) w := fun w => run_float_arith w .mul _ .f64 _ _ _ e3
  have f4 : ∀ w, Sem.run Tryd.prog (binOp .mul 22 (.float .f64 r3) (.float .f64 4554458007677615095)) w = .ok (.float .f64 r4) w := fun w => run_float_arith w .mul _ .f64 _ _ _ e4
  have f5 : ∀ w, Sem.run Tryd.prog (binOp .add 22 (.float .f64 13787487198287567601) (.float .f64 r4)) w = .ok (.float .f64 r5) w := fun w => run_float_arith w .add _ .f64 _ _ _ e5
  have f6 : ∀ w, Sem.run Tryd.prog (binOp .mul 22 (.float .f64 r3) (.float .f64 r5)) w = .ok (.float .f64 r6) w := fun w => run_float_arith w .mul _ .f64 _ _ _ e6
  have f7 : ∀ w, Sem.run Tryd.prog (binOp .add 22 (.float .f64 4573683464413438788) (.float .f64 r6)) w = .ok (.float .f64 r7) w := fun w => run_float_arith w .add _ .f64 _ _ _ e7
  have f8 : ∀ w, Sem.run Tryd.prog (binOp .mul 22 (.float .f64 r3) (.float .f64 r7)) w = .ok (.float .f64 r8) w := fun w => run_float_arith w .mul _ .f64 _ _ _ e8
  have f9 : ∀ w, Sem.run Tryd.prog (binOp .add 22 (.float .f64 13808258184654468883) (.float .f64 r8)) w = .ok (.float .f64 r9) w := fun w => run_float_arith w .add _ .f64 _ _ _ e9
  have f10 : ∀ w, Sem.run Tryd.prog (binOp .mul 22 (.float .f64 r3) (.float .f64 r9)) w = .ok (.float .f64 r10) w := fun w => run_float_arith w .mul _ .f64 _ _ _ e10
  have f11 : ∀ w, Sem.run Tryd.prog (binOp .add 22 (.float .f64 4602387636645935266) (.float .f64 r10)) w = .ok (.float .f64 r11) w := fun w => run_float_arith w .add _ .f64 _ _ _ e11
  have f12 : ∀ w, Sem.run Tryd.prog (binOp .mul 22 (.float .f64 r3) (.float .f64 13777776956600978488)) w = .ok (.float .f64 r12) w := fun w => run_float_arith w .mul _ .f64 _ _ _ e12
  have f13 : ∀ w, Sem.run Tryd.prog (binOp .add 22 (.float .f64 4561265769268226281) (.float .f64 r12)) w = .ok (.float .f64 r13) w := fun w => run_float_arith w .add _ .f64 _ _ _ e13
  have f14 : ∀ w, Sem.run Tryd.prog (binOp .mul 22 (.float .f64 r3) (.float .f64 r13)) w = .ok (.float .f64 r14) w := fun w => run_float_arith w .mul _ .f64 _ _ _ e14
  have f15 : ∀ w, Sem.run Tryd.prog (binOp .add 22 (.float .f64 13794014384452342999) (.float .f64 r14)) w = .ok (.float .f64 r15) w := fun w => run_float_arith w .add _ .f64 _ _ _ e15
  have f16 : ∀ w, Sem.run Tryd.prog (binOp .mul 22 (.float .f64 r3) (.float .f64 r15)) w = .ok (.float .f64 r16) w := fun w => run_float_arith w .mul _ .f64 _ _ _ e16
  have f17 : ∀ w, Sem.run Tryd.prog (binOp .add 22 (.float .f64 4580836915846773228) (.float .f64 r16)) w = .ok (.float .f64 r17) w := fun w => run_float_arith w .add _ .f64 _ _ _ e17
  have f18 : ∀ w, Sem.run Tryd.prog (binOp .mul 22 (.float .f64 r3) (.float .f64 r17)) w = .ok (.float .f64 r18) w := fun w => run_float_arith w .mul _ .f64 _ _ _ e18
  have f19 : ∀ w, Sem.run Tryd.prog (binOp .add 22 (.float .f64 13817857465259574537) (.float .f64 r18)) w = .ok (.float .f64 r19) w := fun w => run_float_arith w .add _ .f64 _ _ _ e19
  have f20 : ∀ w, Sem.run Tryd.prog (binOp .mul 22 (.float .f64 r3) (.float .f64 4554825044790006772)) w = .ok (.float .f64 r20) w := fun w => run_float_arith w .mul _ .f64 _ _ _ e20
  have f21 : ∀ w, Sem.run Tryd.prog (binOp .add 22 (.float .f64 13781478925004955884) (.float .f64 r20)) w = .ok (.float .f64 r21) w := fun w => run_float_arith w .add _ .f64 _ _ _ e21
  have f22 : ∀ w, Sem.run Tryd.prog (binOp .mul 22 (.float .f64 r3) (.float .f64 r21)) w = .ok (.float .f64 r22) w := fun w => run_float_arith w .mul _ .f64 _ _ _ e22
  have f23 : ∀ w, Sem.run Tryd.prog (binOp .add 22 (.float .f64 4567356815629994261) (.float .f64 r22)) w = .ok (.float .f64 r23) w := fun w => run_float_arith w .add _ .f64 _ _ _ e23
  have f24 : ∀ w, Sem.run Tryd.prog (binOp .mul 22 (.float .f64 r3) (.float .f64 r23)) w = .ok (.float .f64 r24) w := fun w => run_float_arith w .mul _ .f64 _ _ _ e24
  have f25 : ∀ w, Sem.run Tryd.prog (binOp .add 22 (.float .f64 13800471404037139562) (.float .f64 r24)) w = .ok (.float .f64 r25) w := fun w => run_float_arith w .add _ .f64 _ _ _ e25
  have f26 : ∀ w, Sem.run Tryd.prog (binOp .mul 22 (.float .f64 r3) (.float .f64 r25)) w = .ok (.float .f64 r26) w := fun w => run_float_arith w .mul _ .f64 _ _ _ e26
  have f27 : ∀ w, Sem.run Tryd.prog (binOp .add 22 (.float .f64 4589321138371641755) (.float .f64 r26)) w = .ok (.float .f64 r27) w := fun w => run_float_arith w .add _ .f64 _ _ _ e27
  have f28 : ∀ w, Sem.run Tryd.prog (binOp .mul 22 (.float .f64 r2) (.float .f64 r11)) w = .ok (.float .f64 r28) w := fun w => run_float_arith w .mul _ .f64 _ _ _ e28
  have f29 : ∀ w, Sem.run Tryd.prog (binOp .mul 22 (.float .f64 r1) (.float .f64 r27)) w = .ok (.float .f64 r29) w := fun w => run_float_arith w .mul _ .f64 _ _ _ e29
  have f30 : ∀ w, Sem.run Tryd.prog (binOp .add 22 (.float .f64 r19) (.float .f64 r29)) w = .ok (.float .f64 r30) w := fun w => run_float_arith w .add _ .f64 _ _ _ e30
  have f31 : ∀ w, Sem.run Tryd.prog (binOp .mul 22 (.float .f64 r3) (.float .f64 r30)) w = .ok (.float .f64 r31) w := fun w => run_float_arith w .mul _ .f64 _ _ _ e31
  have f32 : ∀ w, Sem.run Tryd.prog (binOp .sub 22 (.float .f64 13569565350425171743) (.float .f64 r31)) w = .ok (.float .f64 r32) w := fun w => run_float_arith w .sub _ .f64 _ _ _ e32
  have f33 : ∀ w, Sem.run Tryd.prog (binOp .sub 22 (.float .f64 r28) (.float .f64 r32)) w = .ok (.float .f64 r33) w := fun w => run_float_arith w .sub _ .f64 _ _ _ e33
  have f34 : ∀ w, Sem.run Tryd.prog (binOp .add 22 (.float .f64 13816790467322546754) (.float .f64 r33)) w = .ok (.float .f64 r34) w := fun w => run_float_arith w .add _ .f64 _ _ _ e34
  have f35 : ∀ w, Sem.run Tryd.prog (binOp .add 22 (.float .f64 0) (.float .f64 r34)) w = .ok (.float .f64 r35) w := fun w => run_float_arith w .add _ .f64 _ _ _ e35
  rcases ht with ht | ht
  · refine ⟨r, -1, by assumption, ?_⟩
    go_enter Tryd.func11, Tryd.ntmps11
    go_wp2_with fail
    refine HN.out.mono ?_
    rintro e w1 ⟨rfl, hw⟩
    obtain rfl : w = w1 := hw.symm
    go_wp2_with fail
    refine HI.out.mono ?_
    rintro e w1 ⟨rfl, hw⟩
    obtain rfl : w = w1 := hw.symm
    go_wp2_with fail
    refine HS.out.mono ?_
    rintro e w1 ⟨rfl, hw⟩
    obtain rfl : w = w1 := hw.symm
    go_wp2_with fail
    refine HA.out.mono ?_
    rintro e w1 ⟨rfl, hw⟩
    obtain rfl : w = w1 := hw.symm
    go_wp2_with fail
    refine HL1.out.mono ?_
    rintro e w1 ⟨rfl, hw⟩
    obtain rfl : w = w1 := hw.symm
    go_wp2_with fail
    go_returns
    exact ⟨rfl, rfl⟩
  · refine ⟨r, 1, by assumption, ?_⟩
    go_enter Tryd.func11, Tryd.ntmps11
    go_wp2_with fail
    refine HN.out.mono ?_
    rintro e w1 ⟨rfl, hw⟩
    obtain rfl : w = w1 := hw.symm
    go_wp2_with fail
    refine HI.out.mono ?_
    rintro e w1 ⟨rfl, hw⟩
    obtain rfl : w = w1 := hw.symm
    go_wp2_with fail
    refine HS.out.mono ?_
    rintro e w1 ⟨rfl, hw⟩
    obtain rfl : w = w1 := hw.symm
    go_wp2_with fail
    refine HA.out.mono ?_
    rintro e w1 ⟨rfl, hw⟩
    obtain rfl : w = w1 := hw.symm
    go_wp2_with fail
    refine HL1.out.mono ?_
    rintro e w1 ⟨rfl, hw⟩
    obtain rfl : w = w1 := hw.symm
    go_wp2_with fail
    go_returns
    exact ⟨rfl, rfl⟩
set_option maxRecDepth 100000 in
theorem negB2 (x u t m d nadj : Nat) (hu : u < 2 ^ 64) (hf : Fnt u) (hn : FloatKind.f64.format.order u 0 = some .lt) (hneg : ∀ w, Sem.run Tryd.prog (Op.unary .neg (.float .f64 u)) w = .ok (.float .f64 x) w) (hlo : 4606281698874543310 ≤ x) (hhi : x ≤ 4607182418800017407) (h52 : x < 4841369599423283200) (w : World) (T : Tabs w)
    (HS : Calls Tryd.prog 16 #[.float .f64 x] w fun e w' => e = .returned (.float .f64 t) ∧ w' = w) (ht : FloatKind.f64.format.order t 0 = some .lt ∨ FloatKind.f64.format.order t 0 = some .gt)
    (hm : floatBits .mul .f64 t x = some m) (hm64 : m < 2 ^ 64) (hd : floatBits .quo .f64 4614256656552045848 (m % 2 ^ 63) = some d) (hl : Go.Extern.MathLog.archLog #[.float .f64 d] = pure (.float .f64 nadj))
    {Q : Nat → Prop} (H : Runs opsB2 [x] fun e => ∃ q e' r, e = q :: e' ∧ floatBits .sub .f64 nadj q = some r ∧ Q r) : ∃ r s, Q r ∧ Calls Tryd.prog 11 #[.float .f64 u] w fun e w' => e = .returned (.tuple #[.float .f64 r, .int .i64 s]) ∧ w' = w := by
  have hfx : x < 2047 * 2 ^ 52 := by omega
  have hx64 : x < 2 ^ 64 := by omega
  have o0lss := lss_f (x := x) (c := 4291930444884082688) (by omega) hfx
  have o1eql := eql_f (x := x) (c := 4607182418800017408) (.inl (by omega)) hfx (by decide)
  have o2eql := eql_f (x := x) (c := 4611686018427387904) (.inl (by omega)) hfx (by decide)
  have o2lss := lss_t (x := x) (c := 4611686018427387904) (by omega) (by decide)
  have o3leq := leq_f (x := x) (c := 4606281698874543309) (by omega) hfx
  have o4geq := geq_f (x := x) (c := 4610477397055469201) (by omega) (by decide)
  have o5geq := geq_f (x := x) (c := 4608045453256689133) (by omega) (by decide)
  have HI := Lib.hid (isInf_fin u hu (hf) w)
  have HN := Lib.hid (isNaN_any u w)
  rw [order_self (x := u) (hf)] at HN
  have o52 := geq_f (x := x) (c := 4841369599423283200) (by omega) (by decide)
  have HS := Lib.hid HS
  have HA := Lib.hid (abs_any m hm64 w)
  have HL1 := Lib.hid (log_call hl w)
  have fm : ∀ w, Sem.run Tryd.prog (binOp .mul 22 (.float .f64 t) (.float .f64 x)) w = .ok (.float .f64 m) w := fun w => run_float_arith w .mul _ .f64 _ _ _ hm
  have fd : ∀ w, Sem.run Tryd.prog (binOp .quo 22 (.float .f64 4614256656552045848) (.float .f64 (m % 2 ^ 63))) w = .ok (.float .f64 d) w := fun w => run_float_arith w .quo _ .f64 _ _ _ hd
  obtain ⟨ma, hma⟩ : ∃ ma, m % 2 ^ 63 = ma := ⟨_, rfl⟩
  rw [hma] at fd HA
  have c3_0 := T.u.cell 0 13813600432552784072 rfl
  have c3_1 := T.u.cell 1 4603875219004743167 rfl
  have c3_2 := T.u.cell 2 4609231207607680367 rfl
  have c3_3 := T.u.cell 3 4606981716134495312 rfl
  have c3_4 := T.u.cell 4 4597417307973683492 rfl
  have c3_5 := T.u.cell 5 4578867296057666313 rfl
  have c4_1 := T.v.cell 1 4612712789461262748 rfl
  have c4_2 := T.v.cell 2 4611975351653570805 rfl
  have c4_3 := T.v.cell 3 4605104324179153071 rfl
  have c4_4 := T.v.cell 4 4592174453748890760 rfl
  have c4_5 := T.v.cell 5 4569564532599476065 rfl
  obtain ⟨r1, e1, r2, e2, r3, e3, r4, e4, r5, e5, r6, e6, r7, e7, r8, e8, r9, e9, r10, e10, r11, e11, r12, e12, r13, e13, r14, e14, r15, e15, r16, e16, r17, e17, r18, e18, r19, e19, r20, e20, r21, e21, r22, e22, r23, e23, r24, e24, r25, e25, r26, e26, hQ⟩ := H
  obtain ⟨q, eq9, r, he9, hs, hQ⟩ := hQ
  obtain ⟨hq9, _⟩ := List.cons.inj he9
  subst hq9
  clear he9
  have fs : ∀ w, Sem.run Tryd.prog (binOp .sub 22 (.float .f64 nadj) (.float .f64 r26)) w = .ok (.float .f64 r) w := fun w => run_float_arith w .sub _ .f64 _ _ _ hs
  have f1 : ∀ w, Sem.run Tryd.prog (binOp .sub 22 (.float .f64 x) (.float .f64 4607182418800017408)) w = .ok (.float .f64 r1) w := fun w => run_float_arith w .sub _ .f64 _ _ _ e1
  have f2 : ∀ w, Sem.run Tryd.prog (binOp .mul 22 (.float .f64 r1) (.float .f64 4578867296057666313)) w = .ok (.float .f64 r2) w := fun w => run_float_arith w .mul _ .f64 _ _ _ e2
  have f3 : ∀ w, Sem.run Tryd.prog (binOp .add 22 (.float .f64 4597417307973683492) (.float .f64 r2)) w = .ok (.float .f64 r3) w := fun w => run_float_arith w .add _ .f64 _ _ _ e3
  have f4 : ∀ w, Sem.run Tryd.prog (binOp .mul 22 (.float .f64 r1) (.float .f64 r3)) w = .ok (.float .f64 r4) w := fun w => run_float_arith w .mul _ .f64 _ _ _ e4
  have f5 : ∀ w, Sem.run Tryd.prog (binOp .add 22 (.float .f64 4606981716134495312) (.float .f64 r4)) w = .ok (.float .f64 r5) w := fun w => run_float_arith w .add _ .f64 _ _ _ e5
  have f6 : ∀ w, Sem.run Tryd.prog (binOp .mul 22 (.float .f64 r1) (.float .f64 r5)) w = .ok (.float .f64 r6) w := fun w => run_float_arith w .mul _ .f64 _ _ _ e6
  have f7 : ∀ w, Sem.run Tryd.prog (binOp .add 22 (.float .f64 4609231207607680367) (.float .f64 r6)) w = .ok (.float .f64 r7) w := fun w => run_float_arith w .add _ .f64 _ _ _ e7
  have f8 : ∀ w, Sem.run Tryd.prog (binOp .mul 22 (.float .f64 r1) (.float .f64 r7)) w = .ok (.float .f64 r8) w := fun w => run_float_arith w .mul _ .f64 _ _ _ e8
  have f9 : ∀ w, Sem.run Tryd.prog (binOp .add 22 (.float .f64 4603875219004743167) (.float .f64 r8)) w = .ok (.float .f64 r9) w := fun w => run_float_arith w .add _ .f64 _ _ _ e9
  have f10 : ∀ w, Sem.run Tryd.prog (binOp .mul 22 (.float .f64 r1) (.float .f64 r9)) w = .ok (.float .f64 r10) w := fun w => run_float_arith w .mul _ .f64 _ _ _ e10
  have f11 : ∀ w, Sem.run Tryd.prog (binOp .add 22 (.float .f64 13813600432552784072) (.float .f64 r10)) w = .ok (.float .f64 r11) w := fun w => run_float_arith w .add _ .f64 _ _ _ e11
  have f12 : ∀ w, Sem.run Tryd.prog (binOp .mul 22 (.float .f64 r1) (.float .f64 r11)) w = .ok (.float .f64 r12) w := fun w => run_float_arith w .mul _ .f64 _ _ _ e12
  have f13 : ∀ w, Sem.run Tryd.prog (binOp .mul 22 (.float .f64 r1) (.float .f64 4569564532599476065)) w = .ok (.float .f64 r13) w := fun w => run_float_arith w .mul _ .f64 _ _ _ e13
  have f14 : ∀ w, Sem.run Tryd.prog (binOp .add 22 (.float .f64 4592174453748890760) (.float .f64 r13)) w = .ok (.float .f64 r14) w := fun w => run_float_arith w .add _ .f64 _ _ _ e14
  have f15 : ∀ w, Sem.run Tryd.prog (binOp .mul 22 (.float .f64 r1) (.float .f64 r14)) w = .ok (.float .f64 r15) w := fun w => run_float_arith w .mul _ .f64 _ _ _ e15
  have f16 : ∀ w, Sem.run Tryd.prog (binOp .add 22 (.float .f64 4605104324179153071) (.float .f64 r15)) w = .ok (.float .f64 r16) w := fun w => run_float_arith w .add _ .f64 _ _ _ e16
  have f17 : ∀ w, Sem.run Tryd.prog (binOp .mul 22 (.float .f64 r1) (.float .f64 r16)) w = .ok (.float .f64 r17) w := fun w => run_float_arith w .mul _ .f64 _ _ _ e17
  have f18 : ∀ w, Sem.run Tryd.prog (binOp .add 22 (.float .f64 4611975351653570805) (.float .f64 r17)) w = .ok (.float .f64 r18) w := fun w => run_float_arith w .add _ .f64 _ _ _ e18
  have f19 : ∀ w, Sem.run Tryd.prog (binOp .mul 22 (.float .f64 r1) (.float .f64 r18)) w = .ok (.float .f64 r19) w := fun w => run_float_arith w .mul _ .f64 _ _ _ e19
  have f20 : ∀ w, Sem.run Tryd.prog (binOp .add 22 (.float .f64 4612712789461262748) (.float .f64 r19)) w = .ok (.float .f64 r20) w := fun w => run_float_arith w .add _ .f64 _ _ _ e20
  have f21 : ∀ w, Sem.run Tryd.prog (binOp .mul 22 (.float .f64 r1) (.float .f64 r20)) w = .ok (.float .f64 r21) w := fun w => run_float_arith w .mul _ .f64 _ _ _ e21
  have f22 : ∀ w, Sem.run Tryd.prog (binOp .add 22 (.float .f64 4607182418800017408) (.float .f64 r21)) w = .ok (.float .f64 r22) w := fun w => run_float_arith w .add _ .f64 _ _ _ e22
  have f23 : ∀ w, Sem.run Tryd.prog (binOp .mul 22 (.float .f64 13826050856027422720) (.float .f64 r1)) w = .ok (.float .f64 r23) w := fun w => run_float_arith w .mul _ .f64 _ _ _ e23
  have f24 : ∀ w, Sem.run Tryd.prog (binOp .quo 22 (.float .f64 r12) (.float .f64 r22)) w = .ok (.float .f64 r24) w := fun w => run_float_arith w .quo _ .f64 _ _ _ e24
  have f25 : ∀ w, Sem.run Tryd.prog (binOp .add 22 (.float .f64 r23) (.float .f64 r24)) w = .ok (.float .f64 r25) w := fun w => run_float_arith w .add _ .f64 _ _ _ e25
  have f26 : ∀ w, Sem.run Tryd.prog (binOp .add 22 (.float .f64 0) (.float .f64 r25)) w = .ok (.float .f64 r26) w := fun w => run_float_arith w .add _ .f64 _ _ _ e26
  rcases ht with ht | ht
  · refine ⟨r, -1, by assumption, ?_⟩
    go_enter Tryd.func11, Tryd.ntmps11
    go_wp2_with fail
    refine HN.out.mono ?_
    rintro e w1 ⟨rfl, hw⟩
    obtain rfl : w = w1 := hw.symm
    go_wp2_with fail
    refine HI.out.mono ?_
    rintro e w1 ⟨rfl, hw⟩
    obtain rfl : w = w1 := hw.symm
    go_wp2_with fail
    refine HS.out.mono ?_
    rintro e w1 ⟨rfl, hw⟩
    obtain rfl : w = w1 := hw.symm
    go_wp2_with fail
    refine HA.out.mono ?_
    rintro e w1 ⟨rfl, hw⟩
    obtain rfl : w = w1 := hw.symm
    go_wp2_with fail
    refine HL1.out.mono ?_
    rintro e w1 ⟨rfl, hw⟩
    obtain rfl : w = w1 := hw.symm
    go_wp2_with fail
    go_returns
    exact ⟨rfl, rfl⟩
  · refine ⟨r, 1, by assumption, ?_⟩
    go_enter Tryd.func11, Tryd.ntmps11
    go_wp2_with fail
    refine HN.out.mono ?_
    rintro e w1 ⟨rfl, hw⟩
    obtain rfl : w = w1 := hw.symm
    go_wp2_with fail
    refine HI.out.mono ?_
    rintro e w1 ⟨rfl, hw⟩
    obtain rfl : w = w1 := hw.symm
    go_wp2_with fail
    refine HS.out.mono ?_
    rintro e w1 ⟨rfl, hw⟩
    obtain rfl : w = w1 := hw.symm
    go_wp2_with fail
    refine HA.out.mono ?_
    rintro e w1 ⟨rfl, hw⟩
    obtain rfl : w = w1 := hw.symm
    go_wp2_with fail
    refine HL1.out.mono ?_
    rintro e w1 ⟨rfl, hw⟩
    obtain rfl : w = w1 := hw.symm
    go_wp2_with fail
    go_returns
    exact ⟨rfl, rfl⟩
set_option maxRecDepth 100000 in
theorem negB3 (x u t m d nadj : Nat) (hu : u < 2 ^ 64) (hf : Fnt u) (hn : FloatKind.f64.format.order u 0 = some .lt) (hneg : ∀ w, Sem.run Tryd.prog (Op.unary .neg (.float .f64 u)) w = .ok (.float .f64 x) w) (hlo : 4607182418800017409 ≤ x) (hhi : x ≤ 4608045453256689132) (h52 : x < 4841369599423283200) (w : World) (T : Tabs w)
    (HS : Calls Tryd.prog 16 #[.float .f64 x] w fun e w' => e = .returned (.float .f64 t) ∧ w' = w) (ht : FloatKind.f64.format.order t 0 = some .lt ∨ FloatKind.f64.format.order t 0 = some .gt)
    (hm : floatBits .mul .f64 t x = some m) (hm64 : m < 2 ^ 64) (hd : floatBits .quo .f64 4614256656552045848 (m % 2 ^ 63) = some d) (hl : Go.Extern.MathLog.archLog #[.float .f64 d] = pure (.float .f64 nadj))
    {Q : Nat → Prop} (H : Runs opsB3 [x] fun e => ∃ q e' r, e = q :: e' ∧ floatBits .sub .f64 nadj q = some r ∧ Q r) : ∃ r s, Q r ∧ Calls Tryd.prog 11 #[.float .f64 u] w fun e w' => e = .returned (.tuple #[.float .f64 r, .int .i64 s]) ∧ w' = w := by
  have hfx : x < 2047 * 2 ^ 52 := by omega
  have hx64 : x < 2 ^ 64 := by omega
  have o0lss := lss_f (x := x) (c := 4291930444884082688) (by omega) hfx
  have o1eql := eql_f (x := x) (c := 4607182418800017408) (.inr (by omega)) hfx (by decide)
  have o2eql := eql_f (x := x) (c := 4611686018427387904) (.inl (by omega)) hfx (by decide)
  have o2lss := lss_t (x := x) (c := 4611686018427387904) (by omega) (by decide)
  have o3leq := leq_f (x := x) (c := 4606281698874543309) (by omega) hfx
  have o4geq := geq_f (x := x) (c := 4610477397055469201) (by omega) (by decide)
  have o5geq := geq_f (x := x) (c := 4608045453256689133) (by omega) (by decide)
  have HI := Lib.hid (isInf_fin u hu (hf) w)
  have HN := Lib.hid (isNaN_any u w)
  rw [order_self (x := u) (hf)] at HN
  have o52 := geq_f (x := x) (c := 4841369599423283200) (by omega) (by decide)
  have HS := Lib.hid HS
  have HA := Lib.hid (abs_any m hm64 w)
  have HL1 := Lib.hid (log_call hl w)
  have fm : ∀ w, Sem.run Tryd.prog (binOp .mul 22 (.float .f64 t) (.float .f64 x)) w = .ok (.float .f64 m) w := fun w => run_float_arith w .mul _ .f64 _ _ _ hm
  have fd : ∀ w, Sem.run Tryd.prog (binOp .quo 22 (.float .f64 4614256656552045848) (.float .f64 (m % 2 ^ 63))) w = .ok (.float .f64 d) w := fun w => run_float_arith w .quo _ .f64 _ _ _ hd
  obtain ⟨ma, hma⟩ : ∃ ma, m % 2 ^ 63 = ma := ⟨_, rfl⟩
  rw [hma] at fd HA
  have c3_0 := T.u.cell 0 13813600432552784072 rfl
  have c3_1 := T.u.cell 1 4603875219004743167 rfl
  have c3_2 := T.u.cell 2 4609231207607680367 rfl
  have c3_3 := T.u.cell 3 4606981716134495312 rfl
  have c3_4 := T.u.cell 4 4597417307973683492 rfl
  have c3_5 := T.u.cell 5 4578867296057666313 rfl
  have c4_1 := T.v.cell 1 4612712789461262748 rfl
  have c4_2 := T.v.cell 2 4611975351653570805 rfl
  have c4_3 := T.v.cell 3 4605104324179153071 rfl
  have c4_4 := T.v.cell 4 4592174453748890760 rfl
  have c4_5 := T.v.cell 5 4569564532599476065 rfl
  obtain ⟨r1, e1, r2, e2, r3, e3, r4, e4, r5, e5, r6, e6, r7, e7, r8, e8, r9, e9, r10, e10, r11, e11, r12, e12, r13, e13, r14, e14, r15, e15, r16, e16, r17, e17, r18, e18, r19, e19, r20, e20, r21, e21, r22, e22, r23, e23, r24, e24, r25, e25, r26, e26, hQ⟩ := H
  obtain ⟨q, eq9, r, he9, hs, hQ⟩ := hQ
  obtain ⟨hq9, _⟩ := List.cons.inj he9
  subst hq9
  clear he9
  have fs : ∀ w, Sem.run Tryd.prog (binOp .sub 22 (.float .f64 nadj) (.float .f64 r26)) w = .ok (.float .f64 r) w := fun w => run_float_arith w .sub _ .f64 _ _ _ hs
  have f1 : ∀ w, Sem.run Tryd.prog (binOp .sub 22 (.float .f64 x) (.float .f64 4607182418800017408)) w = .ok (.float .f64 r1) w := fun w => run_float_arith w .sub _ .f64 _ _ _ e1
  have f2 : ∀ w, Sem.run Tryd.prog (binOp .mul 22 (.float .f64 r1) (.float .f64 4578867296057666313)) w = .ok (.float .f64 r2) w := fun w => run_float_arith w .mul _ .f64 _ _ _ e2
  have f3 : ∀ w, Sem.run Tryd.prog (binOp .add 22 (.float .f64 4597417307973683492) (.float .f64 r2)) w = .ok (.float .f64 r3) w := fun w => run_float_arith w .add _ .f64 _ _ _ e3
  have f4 : ∀ w, Sem.run Tryd.prog (binOp .mul 22 (.float .f64 r1) (.float .f64 r3)) w = .ok (.float .f64 r4) w := fun w => run_float_arith w .mul _ .f64 _ _ _ e4
  have f5 : ∀ w, Sem.run Tryd.prog (binOp .add 22 (.float .f64 4606981716134495312) (.float .f64 r4)) w = .ok (.float .f64 r5) w := fun w => run_float_arith w .add _ .f64 _ _ _ e5
  have f6 : ∀ w, Sem.run Tryd.prog (binOp .mul 22 (.float .f64 r1) (.float .f64 r5)) w = .ok (.float .f64 r6) w := fun w => run_float_arith w .mul _ .f64 _ _ _ e6
  have f7 : ∀ w, Sem.run Tryd.prog (binOp .add 22 (.float .f64 4609231207607680367) (.float .f64 r6)) w = .ok (.float .f64 r7) w := fun w => run_float_arith w .add _ .f64 _ _ _ e7
  have f8 : ∀ w, Sem.run Tryd.prog (binOp .mul 22 (.float .f64 r1) (.float .f64 r7)) w = .ok (.float .f64 r8) w := fun w => run_float_arith w .mul _ .f64 _ _ _ e8
  have f9 : ∀ w, Sem.run Tryd.prog (binOp .add 22 (.float .f64 4603875219004743167) (.float .f64 r8)) w = .ok (.float .f64 r9) w := fun w => run_float_arith w .add _ .f64 _ _ _ e9
  have f10 : ∀ w, Sem.run Tryd.prog (binOp .mul 22 (.float .f64 r1) (.float .f64 r9)) w = .ok (.float .f64 r10) w := fun w => run_float_arith w .mul _ .f64 _ _ _ e10
  have f11 : ∀ w, Sem.run Tryd.prog (binOp .add 22 (.float .f64 13813600432552784072) (.float .f64 r10)) w = .ok (.float .f64 r11) w := fun w => run_float_arith w .add _ .f64 _ _ _ e11
  have f12 : ∀ w, Sem.run Tryd.prog (binOp .mul 22 (.float .f64 r1) (.float .f64 r11)) w = .ok (.float .f64 r12) w := fun w => run_float_arith w .mul _ .f64 _ _ _ e12
  have f13 : ∀ w, Sem.run Tryd.prog (binOp .mul 22 (.float .f64 r1) (.float .f64 4569564532599476065)) w = .ok (.float .f64 r13) w := fun w => run_float_arith w .mul _ .f64 _ _ _ e13
  have f14 : ∀ w, Sem.run Tryd.prog (binOp .add 22 (.float .f64 4592174453748890760) (.float .f64 r13)) w = .ok (.float .f64 r14) w := fun w => run_float_arith w .add _ .f64 _ _ _ e14
  have f15 : ∀ w, Sem.run Tryd.prog (binOp .mul 22 (.float .f64 r1) (.float .f64 r14)) w = .ok (.float .f64 r15) w := fun w => run_float_arith w .mul _ .f64 _ _ _ e15
  have f16 : ∀ w, Sem.run Tryd.prog (binOp .add 22 (.float .f64 4605104324179153071) (.float .f64 r15)) w = .ok (.float .f64 r16) w := fun w => run_float_arith w .add _ .f64 _ _ _ e16
  have f17 : ∀ w, Sem.run Tryd.prog (binOp .mul 22 (.float .f64 r1) (.float .f64 r16)) w = .ok (.float .f64 r17) w := fun w => run_float_arith w .mul _ .f64 _ _ _ e17
  have f18 : ∀ w, Sem.run Tryd.prog (binOp .add 22 (.float .f64 4611975351653570805) (.float .f64 r17)) w = .ok (.float .f64 r18) w := fun w => run_float_arith w .add _ .f64 _ _ _ e18
  have f19 : ∀ w, Sem.run Tryd.prog (binOp .mul 22 (.float .f64 r1) (.float .f64 r18)) w = .ok (.float .f64 r19) w := fun w => run_float_arith w .mul _ .f64 _ _ _ e19
  have f20 : ∀ w, Sem.run Tryd.prog (binOp .add 22 (.float .f64 4612712789461262748) (.float .f64 r19)) w = .ok (.float .f64 r20) w := fun w => run_float_arith w .add _ .f64 _ _ _ e20
  have f21 : ∀ w, Sem.run Tryd.prog (binOp .mul 22 (.float .f64 r1) (.float .f64 r20)) w = .ok (.float .f64 r21) w := fun w => run_float_arith w .mul _ .f64 _ _ _ e21
  have f22 : ∀ w, Sem.run Tryd.prog (binOp .add 22 (.float .f64 4607182418800017408) (.float .f64 r21)) w = .ok (.float .f64 r22) w := fun w => run_float_arith w .add _ .f64 _ _ _ e22
  have f23 : ∀ w, Sem.run Tryd.prog (binOp .mul 22 (.float .f64 13826050856027422720) (.float .f64 r1)) w = .ok (.float .f64 r23) w := fun w => run_float_arith w .mul _ .f64 _ _ _ e23
  have f24 : ∀ w, Sem.run Tryd.prog (binOp .quo 22 (.float .f64 r12) (.float .f64 r22)) w = .ok (.float .f64 r24) w := fun w => run_float_arith w .quo _ .f64 _ _ _ e24
  have f25 : ∀ w, Sem.run Tryd.prog (binOp .add 22 (.float .f64 r23) (.float .f64 r24)) w = .ok (.float .f64 r25) w := fun w => run_float_arith w .add _ .f64 _ _ _ e25
  have f26 : ∀ w, Sem.run Tryd.prog (binOp .add 22 (.float .f64 0) (.float .f64 r25)) w = .ok (.float .f64 r26) w := fun w => run_float_arith w .add _ .f64 _ _ _ e26
  rcases ht with ht | ht
  · refine ⟨r, -1, by assumption, ?_⟩
    go_enter Tryd.func11, Tryd.ntmps11
    go_wp2_with fail
    refine HN.out.mono ?_
    rintro e w1 ⟨rfl, hw⟩
    obtain rfl : w = w1 := hw.symm
    go_wp2_with fail
    refine HI.out.mono ?_
    rintro e w1 ⟨rfl, hw⟩
    obtain rfl : w = w1 := hw.symm
    go_wp2_with fail
    refine HS.out.mono ?_
    rintro e w1 ⟨rfl, hw⟩
    obtain rfl : w = w1 := hw.symm
    go_wp2_with fail
    refine HA.out.mono ?_
    rintro e w1 ⟨rfl, hw⟩
    obtain rfl : w = w1 := hw.symm
    go_wp2_with fail
    refine HL1.out.mono ?_
    rintro e w1 ⟨rfl, hw⟩
    obtain rfl : w = w1 := hw.symm
    go_wp2_with fail
    go_returns
    exact ⟨rfl, rfl⟩
  · refine ⟨r, 1, by assumption, ?_⟩
    go_enter Tryd.func11, Tryd.ntmps11
    go_wp2_with fail
    refine HN.out.mono ?_
    rintro e w1 ⟨rfl, hw⟩
    obtain rfl : w = w1 := hw.symm
    go_wp2_with fail
    refine HI.out.mono ?_
    rintro e w1 ⟨rfl, hw⟩
    obtain rfl : w = w1 := hw.symm
    go_wp2_with fail
    refine HS.out.mono ?_
    rintro e w1 ⟨rfl, hw⟩
    obtain rfl : w = w1 := hw.symm
    go_wp2_with fail
    refine HA.out.mono ?_
    rintro e w1 ⟨rfl, hw⟩
    obtain rfl : w = w1 := hw.symm
    go_wp2_with fail
    refine HL1.out.mono ?_
    rintro e w1 ⟨rfl, hw⟩
    obtain rfl : w = w1 := hw.symm
    go_wp2_with fail
    go_returns
    exact ⟨rfl, rfl⟩
set_option maxRecDepth 100000 in
theorem negC2 (x u t m d nadj : Nat) (hu : u < 2 ^ 64) (hf : Fnt u) (hn : FloatKind.f64.format.order u 0 = some .lt) (hneg : ∀ w, Sem.run Tryd.prog (Op.unary .neg (.float .f64 u)) w = .ok (.float .f64 x) w) (hlo : 4611686018427387905 ≤ x) (hhi : x ≤ 4613937818241073151) (h52 : x < 4841369599423283200) (w : World) (T : Tabs w)
    (HS : Calls Tryd.prog 16 #[.float .f64 x] w fun e w' => e = .returned (.float .f64 t) ∧ w' = w) (ht : FloatKind.f64.format.order t 0 = some .lt ∨ FloatKind.f64.format.order t 0 = some .gt)
    (hm : floatBits .mul .f64 t x = some m) (hm64 : m < 2 ^ 64) (hd : floatBits .quo .f64 4614256656552045848 (m % 2 ^ 63) = some d) (hl : Go.Extern.MathLog.archLog #[.float .f64 d] = pure (.float .f64 nadj))
    {Q : Nat → Prop} (H : Runs opsC2 [x] fun e => ∃ q e' r, e = q :: e' ∧ floatBits .sub .f64 nadj q = some r ∧ Q r) : ∃ r s, Q r ∧ Calls Tryd.prog 11 #[.float .f64 u] w fun e w' => e = .returned (.tuple #[.float .f64 r, .int .i64 s]) ∧ w' = w := by
  have hfx : x < 2047 * 2 ^ 52 := by omega
  have hx64 : x < 2 ^ 64 := by omega
  have o0lss := lss_f (x := x) (c := 4291930444884082688) (by omega) hfx
  have o1eql := eql_f (x := x) (c := 4607182418800017408) (.inr (by omega)) hfx (by decide)
  have o2eql := eql_f (x := x) (c := 4611686018427387904) (.inr (by omega)) hfx (by decide)
  have o2lss := lss_f (x := x) (c := 4611686018427387904) (by omega) hfx
  have o3lss := lss_t (x := x) (c := 4620693217682128896) (by omega) (by decide)
  have HI := Lib.hid (isInf_fin u hu (hf) w)
  have HN := Lib.hid (isNaN_any u w)
  rw [order_self (x := u) (hf)] at HN
  have o52 := geq_f (x := x) (c := 4841369599423283200) (by omega) (by decide)
  have HS := Lib.hid HS
  have HA := Lib.hid (abs_any m hm64 w)
  have HL1 := Lib.hid (log_call hl w)
  have fm : ∀ w, Sem.run Tryd.prog (binOp .mul 22 (.float .f64 t) (.float .f64 x)) w = .ok (.float .f64 m) w := fun w => run_float_arith w .mul _ .f64 _ _ _ hm
  have fd : ∀ w, Sem.run Tryd.prog (binOp .quo 22 (.float .f64 4614256656552045848) (.float .f64 (m % 2 ^ 63))) w = .ok (.float .f64 d) w := fun w => run_float_arith w .quo _ .f64 _ _ _ hd
  obtain ⟨ma, hma⟩ : ∃ ma, m % 2 ^ 63 = ma := ⟨_, rfl⟩
  rw [hma] at fd HA
  have cv : ∀ w, Sem.run Tryd.prog (convert 22 3 (.float .f64 x)) w = .ok (.int .i64 2) w := fun w => run_convert_float_int w _ _ .f64 .i64 x 2 (by kernel_rfl) (by kernel_rfl) (trunc_any (i := 2) hfx (by decide) (by decide +kernel) hlo hhi)
  have cw : ∀ w, Sem.run Tryd.prog (convert 3 22 (.int .i64 2)) w = .ok (.float .f64 4611686018427387904) w := fun w => by kernel_rfl
  have c5_0 := T.s.cell 0 13813600432552784072 rfl
  have c5_1 := T.s.cell 1 4596913578117826680 rfl
  have c5_2 := T.s.cell 2 4599540328982355801 rfl
  have c5_3 := T.s.cell 3 4594440851763360503 rfl
  have c5_4 := T.s.cell 4 4583336332999498081 rfl
  have c5_5 := T.s.cell 5 4566129637262422585 rfl
  have c5_6 := T.s.cell 6 4539839448431978821 rfl
  have c6_1 := T.r.cell 1 4608947853879192436 rfl
  have c6_2 := T.r.cell 2 4604677836871294172 rfl
  have c6_3 := T.r.cell 3 4595362590636105511 rfl
  have c6_4 := T.r.cell 4 4581031541704938613 rfl
  have c6_5 := T.r.cell 5 4560314476338981211 rfl
  have c6_6 := T.r.cell 6 4530263847980990784 rfl
  obtain ⟨r1, e1, r2, e2, r3, e3, r4, e4, r5, e5, r6, e6, r7, e7, r8, e8, r9, e9, r10, e10, r11, e11, r12, e12, r13, e13, r14, e14, r15, e15, r16, e16, r17, e17, r18, e18, r19, e19, r20, e20, r21, e21, r22, e22, r23, e23, r24, e24, r25, e25, r26, e26, r27, e27, r28, e28, r29, e29, hQ⟩ := H
  obtain ⟨q, eq9, r, he9, hs, hQ⟩ := hQ
  obtain ⟨hq9, _⟩ := List.cons.inj he9
  subst hq9
  clear he9
  have fs : ∀ w, Sem.run Tryd.prog (binOp .sub 22 (.float .f64 nadj) (.float .f64 r29)) w = .ok (.float .f64 r) w := fun w => run_float_arith w .sub _ .f64 _ _ _ hs
  have f1 : ∀ w, Sem.run Tryd.prog (binOp .sub 22 (.float .f64 x) (.float .f64 4611686018427387904)) w = .ok (.float .f64 r1) w := fun w => run_float_arith w .sub _ .f64 _ _ _ e1
  have f2 : ∀ w, Sem.run Tryd.prog (binOp .mul 22 (.float .f64 r1) (.float .f64 4539839448431978821)) w = .ok (.float .f64 r2) w := fun w => run_float_arith w .mul _ .f64 _ _ _ e2
  have f3 : ∀ w, Sem.run Tryd.prog (binOp .add 22 (.float .f64 4566129637262422585) (.float .f64 r2)) w = .ok (.float .f64 r3) w := fun w => run_float_arith w .add _ .f64 _ _ _ e3
  have f4 : ∀ w, Sem.run Tryd.prog (binOp .mul 22 (.float .f64 r1) (.float .f64 r3)) w = .ok (.float .f64 r4) w := fun w => run_float_arith w .mul _ .f64 _ _ _ e4
  have f5 : ∀ w, Sem.run Tryd.prog (binOp .add 22 (.float .f64 4583336332999498081) (.float .f64 r4)) w = .ok (.float .f64 r5) w := fun w => run_float_arith w .add _ .f64 _ _ _ e5
  have f6 : ∀ w, Sem.run Tryd.prog (binOp .mul 22 (.float .f64 r1) (.float .f64 r5)) w = .ok (.float .f64 r6) w := fun w => run_float_arith w .mul _ .f64 _ _ _ e6
  have f7 : ∀ w, Sem.run Tryd.prog (binOp .add 22 (.float .f64 4594440851763360503) (.float .f64 r6)) w = .ok (.float .f64 r7) w := fun w => run_float_arith w .add _ .f64 _ _ _ e7
  have f8 : ∀ w, Sem.run Tryd.prog (binOp .mul 22 (.float .f64 r1) (.float .f64 r7)) w = .ok (.float .f64 r8) w := fun w => run_float_arith w .mul _ .f64 _ _ _ e8
  have f9 : ∀ w, Sem.run Tryd.prog (binOp .add 22 (.float .f64 4599540328982355801) (.float .f64 r8)) w = .ok (.float .f64 r9) w := fun w => run_float_arith w .add _ .f64 _ _ _ e9
  have f10 : ∀ w, Sem.run Tryd.prog (binOp .mul 22 (.float .f64 r1) (.float .f64 r9)) w = .ok (.float .f64 r10) w := fun w => run_float_arith w .mul _ .f64 _ _ _ e10
  have f11 : ∀ w, Sem.run Tryd.prog (binOp .add 22 (.float .f64 4596913578117826680) (.float .f64 r10)) w = .ok (.float .f64 r11) w := fun w => run_float_arith w .add _ .f64 _ _ _ e11
  have f12 : ∀ w, Sem.run Tryd.prog (binOp .mul 22 (.float .f64 r1) (.float .f64 r11)) w = .ok (.float .f64 r12) w := fun w => run_float_arith w .mul _ .f64 _ _ _ e12
  have f13 : ∀ w, Sem.run Tryd.prog (binOp .add 22 (.float .f64 13813600432552784072) (.float .f64 r12)) w = .ok (.float .f64 r13) w := fun w => run_float_arith w .add _ .f64 _ _ _ e13
  have f14 : ∀ w, Sem.run Tryd.prog (binOp .mul 22 (.float .f64 r1) (.float .f64 r13)) w = .ok (.float .f64 r14) w := fun w => run_float_arith w .mul _ .f64 _ _ _ e14
  have f15 : ∀ w, Sem.run Tryd.prog (binOp .mul 22 (.float .f64 r1) (.float .f64 4530263847980990784)) w = .ok (.float .f64 r15) w := fun w => run_float_arith w .mul _ .f64 _ _ _ e15
  have f16 : ∀ w, Sem.run Tryd.prog (binOp .add 22 (.float .f64 4560314476338981211) (.float .f64 r15)) w = .ok (.float .f64 r16) w := fun w => run_float_arith w .add _ .f64 _ _ _ e16
  have f17 : ∀ w, Sem.run Tryd.prog (binOp .mul 22 (.float .f64 r1) (.float .f64 r16)) w = .ok (.float .f64 r17) w := fun w => run_float_arith w .mul _ .f64 _ _ _ e17
  have f18 : ∀ w, Sem.run Tryd.prog (binOp .add 22 (.float .f64 4581031541704938613) (.float .f64 r17)) w = .ok (.float .f64 r18) w := fun w => run_float_arith w .add _ .f64 _ _ _ e18
  have f19 : ∀ w, Sem.run Tryd.prog (binOp .mul 22 (.float .f64 r1) (.float .f64 r18)) w = .ok (.float .f64 r19) w := fun w => run_float_arith w .mul _ .f64 _ _ _ e19
  have f20 : ∀ w, Sem.run Tryd.prog (binOp .add 22 (.float .f64 4595362590636105511) (.float .f64 r19)) w = .ok (.float .f64 r20) w := fun w => run_float_arith w .add _ .f64 _ _ _ e20
  have f21 : ∀ w, Sem.run Tryd.prog (binOp .mul 22 (.float .f64 r1) (.float .f64 r20)) w = .ok (.float .f64 r21) w := fun w => run_float_arith w .mul _ .f64 _ _ _ e21
  have f22 : ∀ w, Sem.run Tryd.prog (binOp .add 22 (.float .f64 4604677836871294172) (.float .f64 r21)) w = .ok (.float .f64 r22) w := fun w => run_float_arith w .add _ .f64 _ _ _ e22
  have f23 : ∀ w, Sem.run Tryd.prog (binOp .mul 22 (.float .f64 r1) (.float .f64 r22)) w = .ok (.float .f64 r23) w := fun w => run_float_arith w .mul _ .f64 _ _ _ e23
  have f24 : ∀ w, Sem.run Tryd.prog (binOp .add 22 (.float .f64 4608947853879192436) (.float .f64 r23)) w = .ok (.float .f64 r24) w := fun w => run_float_arith w .add _ .f64 _ _ _ e24
  have f25 : ∀ w, Sem.run Tryd.prog (binOp .mul 22 (.float .f64 r1) (.float .f64 r24)) w = .ok (.float .f64 r25) w := fun w => run_float_arith w .mul _ .f64 _ _ _ e25
  have f26 : ∀ w, Sem.run Tryd.prog (binOp .add 22 (.float .f64 4607182418800017408) (.float .f64 r25)) w = .ok (.float .f64 r26) w := fun w => run_float_arith w .add _ .f64 _ _ _ e26
  have f27 : ∀ w, Sem.run Tryd.prog (binOp .mul 22 (.float .f64 4602678819172646912) (.float .f64 r1)) w = .ok (.float .f64 r27) w := fun w => run_float_arith w .mul _ .f64 _ _ _ e27
  have f28 : ∀ w, Sem.run Tryd.prog (binOp .quo 22 (.float .f64 r14) (.float .f64 r26)) w = .ok (.float .f64 r28) w := fun w => run_float_arith w .quo _ .f64 _ _ _ e28
  have f29 : ∀ w, Sem.run Tryd.prog (binOp .add 22 (.float .f64 r27) (.float .f64 r28)) w = .ok (.float .f64 r29) w := fun w => run_float_arith w .add _ .f64 _ _ _ e29
  rcases ht with ht | ht
  · refine ⟨r, -1, by assumption, ?_⟩
    go_enter Tryd.func11, Tryd.ntmps11
    go_wp2_with fail
    refine HN.out.mono ?_
    rintro e w1 ⟨rfl, hw⟩
    obtain rfl : w = w1 := hw.symm
    go_wp2_with fail
    refine HI.out.mono ?_
    rintro e w1 ⟨rfl, hw⟩
    obtain rfl : w = w1 := hw.symm
    go_wp2_with fail
    refine HS.out.mono ?_
    rintro e w1 ⟨rfl, hw⟩
    obtain rfl : w = w1 := hw.symm
    go_wp2_with fail
    refine HA.out.mono ?_
    rintro e w1 ⟨rfl, hw⟩
    obtain rfl : w = w1 := hw.symm
    go_wp2_with fail
    refine HL1.out.mono ?_
    rintro e w1 ⟨rfl, hw⟩
    obtain rfl : w = w1 := hw.symm
    go_wp2_with fail
    go_returns
    exact ⟨rfl, rfl⟩
  · refine ⟨r, 1, by assumption, ?_⟩
    go_enter Tryd.func11, Tryd.ntmps11
    go_wp2_with fail
    refine HN.out.mono ?_
    rintro e w1 ⟨rfl, hw⟩
    obtain rfl : w = w1 := hw.symm
    go_wp2_with fail
    refine HI.out.mono ?_
    rintro e w1 ⟨rfl, hw⟩
    obtain rfl : w = w1 := hw.symm
    go_wp2_with fail
    refine HS.out.mono ?_
    rintro e w1 ⟨rfl, hw⟩
    obtain rfl : w = w1 := hw.symm
    go_wp2_with fail
    refine HA.out.mono ?_
    rintro e w1 ⟨rfl, hw⟩
    obtain rfl : w = w1 := hw.symm
    go_wp2_with fail
    refine HL1.out.mono ?_
    rintro e w1 ⟨rfl, hw⟩
    obtain rfl : w = w1 := hw.symm
    go_wp2_with fail
    go_returns
    exact ⟨rfl, rfl⟩
set_option maxRecDepth 100000 in
theorem negC3 (x u t m d nadj : Nat) (hu : u < 2 ^ 64) (hf : Fnt u) (hn : FloatKind.f64.format.order u 0 = some .lt) (hneg : ∀ w, Sem.run Tryd.prog (Op.unary .neg (.float .f64 u)) w = .ok (.float .f64 x) w) (hlo : 4613937818241073152 ≤ x) (hhi : x ≤ 4616189618054758399) (h52 : x < 4841369599423283200) (w : World) (T : Tabs w)
    (HS : Calls Tryd.prog 16 #[.float .f64 x] w fun e w' => e = .returned (.float .f64 t) ∧ w' = w) (ht : FloatKind.f64.format.order t 0 = some .lt ∨ FloatKind.f64.format.order t 0 = some .gt)
    (hm : floatBits .mul .f64 t x = some m) (hm64 : m < 2 ^ 64) (hd : floatBits .quo .f64 4614256656552045848 (m % 2 ^ 63) = some d) (hl : Go.Extern.MathLog.archLog #[.float .f64 d] = pure (.float .f64 nadj))
    {Q : Nat → Prop} (H : Runs opsC3 [x] fun e1 => ∃ z e2, e1 = z :: e2 ∧ ∃ L, Go.Extern.MathLog.archLog #[.float .f64 z] = pure (.float .f64 L) ∧ Runs opsC3b (L :: e1) fun e => ∃ q e' r, e = q :: e' ∧ floatBits .sub .f64 nadj q = some r ∧ Q r) : ∃ r s, Q r ∧ Calls Tryd.prog 11 #[.float .f64 u] w fun e w' => e = .returned (.tuple #[.float .f64 r, .int .i64 s]) ∧ w' = w := by
  have hfx : x < 2047 * 2 ^ 52 := by omega
  have hx64 : x < 2 ^ 64 := by omega
  have o0lss := lss_f (x := x) (c := 4291930444884082688) (by omega) hfx
  have o1eql := eql_f (x := x) (c := 4607182418800017408) (.inr (by omega)) hfx (by decide)
  have o2eql := eql_f (x := x) (c := 4611686018427387904) (.inr (by omega)) hfx (by decide)
  have o2lss := lss_f (x := x) (c := 4611686018427387904) (by omega) hfx
  have o3lss := lss_t (x := x) (c := 4620693217682128896) (by omega) (by decide)
  have HI := Lib.hid (isInf_fin u hu (hf) w)
  have HN := Lib.hid (isNaN_any u w)
  rw [order_self (x := u) (hf)] at HN
  have o52 := geq_f (x := x) (c := 4841369599423283200) (by omega) (by decide)
  have HS := Lib.hid HS
  have HA := Lib.hid (abs_any m hm64 w)
  have HL1 := Lib.hid (log_call hl w)
  have fm : ∀ w, Sem.run Tryd.prog (binOp .mul 22 (.float .f64 t) (.float .f64 x)) w = .ok (.float .f64 m) w := fun w => run_float_arith w .mul _ .f64 _ _ _ hm
  have fd : ∀ w, Sem.run Tryd.prog (binOp .quo 22 (.float .f64 4614256656552045848) (.float .f64 (m % 2 ^ 63))) w = .ok (.float .f64 d) w := fun w => run_float_arith w .quo _ .f64 _ _ _ hd
  obtain ⟨ma, hma⟩ : ∃ ma, m % 2 ^ 63 = ma := ⟨_, rfl⟩
  rw [hma] at fd HA
  have cv : ∀ w, Sem.run Tryd.prog (convert 22 3 (.float .f64 x)) w = .ok (.int .i64 3) w := fun w => run_convert_float_int w _ _ .f64 .i64 x 3 (by kernel_rfl) (by kernel_rfl) (trunc_any (i := 3) hfx (by decide) (by decide +kernel) hlo hhi)
  have cw : ∀ w, Sem.run Tryd.prog (convert 3 22 (.int .i64 3)) w = .ok (.float .f64 4613937818241073152) w := fun w => by kernel_rfl
  have c5_0 := T.s.cell 0 13813600432552784072 rfl
  have c5_1 := T.s.cell 1 4596913578117826680 rfl
  have c5_2 := T.s.cell 2 4599540328982355801 rfl
  have c5_3 := T.s.cell 3 4594440851763360503 rfl
  have c5_4 := T.s.cell 4 4583336332999498081 rfl
  have c5_5 := T.s.cell 5 4566129637262422585 rfl
  have c5_6 := T.s.cell 6 4539839448431978821 rfl
  have c6_1 := T.r.cell 1 4608947853879192436 rfl
  have c6_2 := T.r.cell 2 4604677836871294172 rfl
  have c6_3 := T.r.cell 3 4595362590636105511 rfl
  have c6_4 := T.r.cell 4 4581031541704938613 rfl
  have c6_5 := T.r.cell 5 4560314476338981211 rfl
  have c6_6 := T.r.cell 6 4530263847980990784 rfl
  obtain ⟨r1, e1, r2, e2, r3, e3, r4, e4, r5, e5, r6, e6, r7, e7, r8, e8, r9, e9, r10, e10, r11, e11, r12, e12, r13, e13, r14, e14, r15, e15, r16, e16, r17, e17, r18, e18, r19, e19, r20, e20, r21, e21, r22, e22, r23, e23, r24, e24, r25, e25, r26, e26, r27, e27, r28, e28, r29, e29, r30, e30, r31, e31, z, zt, hze, L, hL, r32, e32, hQ⟩ := H
  have hz := (List.cons.inj hze).1
  subst hz
  have HL := Lib.hid (log_call hL w)
  obtain ⟨q, eq9, r, he9, hs, hQ⟩ := hQ
  obtain ⟨hq9, _⟩ := List.cons.inj he9
  subst hq9
  clear he9
  have fs : ∀ w, Sem.run Tryd.prog (binOp .sub 22 (.float .f64 nadj) (.float .f64 r32)) w = .ok (.float .f64 r) w := fun w => run_float_arith w .sub _ .f64 _ _ _ hs
  have f1 : ∀ w, Sem.run Tryd.prog (binOp .sub 22 (.float .f64 x) (.float .f64 4613937818241073152)) w = .ok (.float .f64 r1) w := fun w => run_float_arith w .sub _ .f64 _ _ _ e1
  have f2 : ∀ w, Sem.run Tryd.prog (binOp .mul 22 (.float .f64 r1) (.float .f64 4539839448431978821)) w = .ok (.float .f64 r2) w := fun w => run_float_arith w .mul _ .f64 _ _ _ e2
  have f3 : ∀ w, Sem.run Tryd.prog (binOp .add 22 (.float .f64 4566129637262422585) (.float .f64 r2)) w = .ok (.float .f64 r3) w := fun w => run_float_arith w .add _ .f64 _ _ _ e3
  have f4 : ∀ w, Sem.run Tryd.prog (binOp .mul 22 (.float .f64 r1) (.float .f64 r3)) w = .ok (.float .f64 r4) w := fun w => run_float_arith w .mul _ .f64 _ _ _ e4
  have f5 : ∀ w, Sem.run Tryd.prog (binOp .add 22 (.float .f64 4583336332999498081) (.float .f64 r4)) w = .ok (.float .f64 r5) w := fun w => run_float_arith w .add _ .f64 _ _ _ e5
  have f6 : ∀ w, Sem.run Tryd.prog (binOp .mul 22 (.float .f64 r1) (.float .f64 r5)) w = .ok (.float .f64 r6) w := fun w => run_float_arith w .mul _ .f64 _ _ _ e6
  have f7 : ∀ w, Sem.run Tryd.prog (binOp .add 22 (.float .f64 4594440851763360503) (.float .f64 r6)) w = .ok (.float .f64 r7) w := fun w => run_float_arith w .add _ .f64 _ _ _ e7
  have f8 : ∀ w, Sem.run Tryd.prog (binOp .mul 22 (.float .f64 r1) (.float .f64 r7)) w = .ok (.float .f64 r8) w := fun w => run_float_arith w .mul _ .f64 _ _ _ e8
  have f9 : ∀ w, Sem.run Tryd.prog (binOp .add 22 (.float .f64 4599540328982355801) (.float .f64 r8)) w = .ok (.float .f64 r9) w := fun w => run_float_arith w .add _ .f64 _ _ _ e9
  have f10 : ∀ w, Sem.run Tryd.prog (binOp .mul 22 (.float .f64 r1) (.float .f64 r9)) w = .ok (.float .f64 r10) w := fun w => run_float_arith w .mul _ .f64 _ _ _ e10
  have f11 : ∀ w, Sem.run Tryd.prog (binOp .add 22 (.float .f64 4596913578117826680) (.float .f64 r10)) w = .ok (.float .f64 r11) w := fun w => run_float_arith w .add _ .f64 _ _ _ e11
  have f12 : ∀ w, Sem.run Tryd.prog (binOp .mul 22 (.float .f64 r1) (.float .f64 r11)) w = .ok (.float .f64 r12) w := fun w => run_float_arith w .mul _ .f64 _ _ _ e12
  have f13 : ∀ w, Sem.run Tryd.prog (binOp .add 22 (.float .f64 13813600432552784072) (.float .f64 r12)) w = .ok (.float .f64 r13) w := fun w => run_float_arith w .add _ .f64 _ _ _ e13
  have f14 : ∀ w, Sem.run Tryd.prog (binOp .mul 22 (.float .f64 r1) (.float .f64 r13)) w = .ok (.float .f64 r14) w := fun w => run_float_arith w .mul _ .f64 _ _ _ e14
  have f15 : ∀ w, Sem.run Tryd.prog (binOp .mul 22 (.float .f64 r1) (.float .f64 4530263847980990784)) w = .ok (.float .f64 r15) w := fun w => run_float_arith w .mul _ .f64 _ _ _ e15
  have f16 : ∀ w, Sem.run Tryd.prog (binOp .add 22 (.float .f64 4560314476338981211) (.float .f64 r15)) w = .ok (.float .f64 r16) w := fun w => run_float_arith w .add _ .f64 _ _ _ e16
  have f17 : ∀ w, Sem.run Tryd.prog (binOp .mul 22 (.float .f64 r1) (.float .f64 r16)) w = .ok (.float .f64 r17) w := fun w => run_float_arith w .mul _ .f64 _ _ _ e17
  have f18 : ∀ w, Sem.run Tryd.prog (binOp .add 22 (.float .f64 4581031541704938613) (.float .f64 r17)) w = .ok (.float .f64 r18) w := fun w => run_float_arith w .add _ .f64 _ _ _ e18
  have f19 : ∀ w, Sem.run Tryd.prog (binOp .mul 22 (.float .f64 r1) (.float .f64 r18)) w = .ok (.float .f64 r19) w := fun w => run_float_arith w .mul _ .f64 _ _ _ e19
  have f20 : ∀ w, Sem.run Tryd.prog (binOp .add 22 (.float .f64 4595362590636105511) (.float .f64 r19)) w = .ok (.float .f64 r20) w := fun w => run_float_arith w .add _ .f64 _ _ _ e20
  have f21 : ∀ w, Sem.run Tryd.prog (binOp .mul 22 (.float .f64 r1) (.float .f64 r20)) w = .ok (.float .f64 r21) w := fun w => run_float_arith w .mul _ .f64 _ _ _ e21
  have f22 : ∀ w, Sem.run Tryd.prog (binOp .add 22 (.float .f64 4604677836871294172) (.float .f64 r21)) w = .ok (.float .f64 r22) w := fun w => run_float_arith w .add _ .f64 _ _ _ e22
  have f23 : ∀ w, Sem.run Tryd.prog (binOp .mul 22 (.float .f64 r1) (.float .f64 r22)) w = .ok (.float .f64 r23) w := fun w => run_float_arith w .mul _ .f64 _ _ _ e23
  have f24 : ∀ w, Sem.run Tryd.prog (binOp .add 22 (.float .f64 4608947853879192436) (.float .f64 r23)) w = .ok (.float .f64 r24) w := fun w => run_float_arith w .add _ .f64 _ _ _ e24
  have f25 : ∀ w, Sem.run Tryd.prog (binOp .mul 22 (.float .f64 r1) (.float .f64 r24)) w = .ok (.float .f64 r25) w := fun w => run_float_arith w .mul _ .f64 _ _ _ e25
  have f26 : ∀ w, Sem.run Tryd.prog (binOp .add 22 (.float .f64 4607182418800017408) (.float .f64 r25)) w = .ok (.float .f64 r26) w := fun w => run_float_arith w .add _ .f64 _ _ _ e26
  have f27 : ∀ w, Sem.run Tryd.prog (binOp .mul 22 (.float .f64 4602678819172646912) (.float .f64 r1)) w = .ok (.float .f64 r27) w := fun w => run_float_arith w .mul _ .f64 _ _ _ e27
  have f28 : ∀ w, Sem.run Tryd.prog (binOp .quo 22 (.float .f64 r14) (.float .f64 r26)) w = .ok (.float .f64 r28) w := fun w => run_float_arith w .quo _ .f64 _ _ _ e28
  have f29 : ∀ w, Sem.run Tryd.prog (binOp .add 22 (.float .f64 r27) (.float .f64 r28)) w = .ok (.float .f64 r29) w := fun w => run_float_arith w .add _ .f64 _ _ _ e29
  have f30 : ∀ w, Sem.run Tryd.prog (binOp .add 22 (.float .f64 r1) (.float .f64 4611686018427387904)) w = .ok (.float .f64 r30) w := fun w => run_float_arith w .add _ .f64 _ _ _ e30
  have f31 : ∀ w, Sem.run Tryd.prog (binOp .mul 22 (.float .f64 4607182418800017408) (.float .f64 r30)) w = .ok (.float .f64 r31) w := fun w => run_float_arith w .mul _ .f64 _ _ _ e31
  have f32 : ∀ w, Sem.run Tryd.prog (binOp .add 22 (.float .f64 r29) (.float .f64 L)) w = .ok (.float .f64 r32) w := fun w => run_float_arith w .add _ .f64 _ _ _ e32
  rcases ht with ht | ht
  · refine ⟨r, -1, by assumption, ?_⟩
    go_enter Tryd.func11, Tryd.ntmps11
    go_wp2_with fail
    refine HN.out.mono ?_
    rintro e w1 ⟨rfl, hw⟩
    obtain rfl : w = w1 := hw.symm
    go_wp2_with fail
    refine HI.out.mono ?_
    rintro e w1 ⟨rfl, hw⟩
    obtain rfl : w = w1 := hw.symm
    go_wp2_with fail
    refine HS.out.mono ?_
    rintro e w1 ⟨rfl, hw⟩
    obtain rfl : w = w1 := hw.symm
    go_wp2_with fail
    refine HA.out.mono ?_
    rintro e w1 ⟨rfl, hw⟩
    obtain rfl : w = w1 := hw.symm
    go_wp2_with fail
    refine HL1.out.mono ?_
    rintro e w1 ⟨rfl, hw⟩
    obtain rfl : w = w1 := hw.symm
    go_wp2_with fail
    refine HL.out.mono ?_
    rintro e w1 ⟨rfl, hw⟩
    obtain rfl : w = w1 := hw.symm
    go_wp2_with fail
    go_returns
    exact ⟨rfl, rfl⟩
  · refine ⟨r, 1, by assumption, ?_⟩
    go_enter Tryd.func11, Tryd.ntmps11
    go_wp2_with fail
    refine HN.out.mono ?_
    rintro e w1 ⟨rfl, hw⟩
    obtain rfl : w = w1 := hw.symm
    go_wp2_with fail
    refine HI.out.mono ?_
    rintro e w1 ⟨rfl, hw⟩
    obtain rfl : w = w1 := hw.symm
    go_wp2_with fail
    refine HS.out.mono ?_
    rintro e w1 ⟨rfl, hw⟩
    obtain rfl : w = w1 := hw.symm
    go_wp2_with fail
    refine HA.out.mono ?_
    rintro e w1 ⟨rfl, hw⟩
    obtain rfl : w = w1 := hw.symm
    go_wp2_with fail
    refine HL1.out.mono ?_
    rintro e w1 ⟨rfl, hw⟩
    obtain rfl : w = w1 := hw.symm
    go_wp2_with fail
    refine HL.out.mono ?_
    rintro e w1 ⟨rfl, hw⟩
    obtain rfl : w = w1 := hw.symm
    go_wp2_with fail
    go_returns
    exact ⟨rfl, rfl⟩
end Go.Proofs.YtlemgjlnlegcgaaDoor
