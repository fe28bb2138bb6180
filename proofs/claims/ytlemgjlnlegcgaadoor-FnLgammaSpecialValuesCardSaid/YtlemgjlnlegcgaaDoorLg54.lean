/- math.archLog, as the model has it: straight code. -/
import Derived.Test.YtlemgjlnlegcgaaDoorBa54
import Derived.Test.YtlemgjlnlegcgaaDoorCk54
namespace Go.Proofs.YtlemgjlnlegcgaaDoor
open Go.RowKit
open FL
open Go.Extern
set_option linter.unusedVariables false

theorem asm_eq (op : BinOp) {x y r : Nat} (h : floatBits op .f64 x y = some r) : MathAsm.arith op x y = pure r := by
  unfold floatBits at h
  unfold MathAsm.arith Op.floatArith
  cases op <;> simp only at h <;> first | (cases h; done) | skip
  all_goals
    rw [h]
    rfl
/-- The operations of archLog, c being what is taken off its exponent (0 or 1). Environment: f1, k. -/
def logOps (c : Nat) : List (Nat × Sum Nat Nat × Sum Nat Nat) :=
  [(1, .inl 1, .inr c), (0, .inr c, .inr 4607182418800017408), (2, .inl 2, .inl 0), (1, .inl 0, .inr 4607182418800017408), (0, .inr 4611686018427387904, .inl 0), (3, .inl 1, .inl 0), (2, .inl 0, .inl 0), (2, .inl 0, .inl 0),
   (2, .inr 0x3FC2F112DF3E5244, .inl 0), (0, .inl 0, .inr 0x3FC7466496CB03DE), (2, .inl 0, .inl 2), (0, .inl 0, .inr 0x3FD2492494229359), (2, .inl 0, .inl 4), (0, .inl 0, .inr 0x3FE5555555555593), (2, .inl 7, .inl 0),
   (2, .inr 0x3FC39A09D078C69F, .inl 7), (0, .inl 0, .inr 0x3FCC71C51D8E78AF), (2, .inl 0, .inl 9), (0, .inl 0, .inr 0x3FD999999997FA04), (2, .inl 11, .inl 0),
   (0, .inl 5, .inl 0), (2, .inr 4602678819172646912, .inl 17), (2, .inl 0, .inl 18), (0, .inl 2, .inl 0), (2, .inl 18, .inl 0), (2, .inr 0x3DEA39EF35793C76, .inl 24), (0, .inl 1, .inl 0), (1, .inl 4, .inl 0), (1, .inl 0, .inl 24), (2, .inl 28, .inr 0x3FE62E42FEE00000), (1, .inl 0, .inl 1)]
def f1of (x : Nat) : Nat := x % 2 ^ 52 + 4602678819172646912
def kof (x : Nat) : Int := ((x / 2 ^ 52 : Nat) : Int) - 1022
def logC (x : Nat) : Nat := if MathAsm.lt 0x3FE6A09E667F3BCD (f1of x) then 0 else 4607182418800017408
theorem fmul {op : BinOp} {x y r : Nat} (h : floatBits op .f64 x y = some r) {α : Type} (f : Nat → Sem α) : (MathAsm.arith op x y >>= f) = f r := by
  rw [asm_eq op h]
  rfl
set_option maxRecDepth 100000 in
theorem archLog_runs (x : Nat) (h1 : 1 ≤ x) (h2 : x < 9218868437227405312) {Q : List Nat → Prop} (H : Runs (logOps (logC x)) [f1of x, MathAsm.ofInt32 (kof x)] Q) :
    ∃ r env, Q (r :: env) ∧ MathLog.archLog #[.float .f64 x] = pure (.float .f64 r) := by
  have a1 : (x % 2 ^ 63 == 0) = false := by
    rw [beq_eq_false_iff_ne]; omega
  have a2 : ¬ x ≥ 2 ^ 63 := by omega
  have a3 : ¬ x ≥ MathAsm.posInf := by show ¬ x ≥ 9218868437227405312; omega
  obtain ⟨r1, e1, r2, e2, r3, e3, r4, e4, r5, e5, r6, e6, r7, e7, r8, e8, r9, e9, r10, e10, r11, e11, r12, e12, r13, e13, r14, e14, r15, e15, r16, e16, r17, e17, r18, e18, r19, e19, r20, e20, r21, e21, r22, e22, r23, e23, r24, e24, r25, e25, r26, e26, r27, e27, r28, e28, r29, e29, r30, e30, r31, e31, hQ⟩ := H
  refine ⟨r31, _, hQ, ?_⟩
  have e1 : Ieee.double.sub (MathAsm.ofInt32 (kof x)) (logC x) = some r1 := e1
  have e2 : Ieee.double.add (logC x) MathAsm.one = some r2 := e2
  have e3 : Ieee.double.mul (f1of x) r2 = some r3 := e3
  have e4 : Ieee.double.sub r3 MathAsm.one = some r4 := e4
  have e5 : Ieee.double.add MathAsm.two r4 = some r5 := e5
  have e6 : Ieee.double.div r4 r5 = some r6 := e6
  have e7 : Ieee.double.mul r6 r6 = some r7 := e7
  have e8 : Ieee.double.mul r7 r7 = some r8 := e8
  have e9 : Ieee.double.mul 0x3FC2F112DF3E5244 r8 = some r9 := e9
  have e10 : Ieee.double.add r9 0x3FC7466496CB03DE = some r10 := e10
  have e11 : Ieee.double.mul r10 r8 = some r11 := e11
  have e12 : Ieee.double.add r11 0x3FD2492494229359 = some r12 := e12
  have e13 : Ieee.double.mul r12 r8 = some r13 := e13
  have e14 : Ieee.double.add r13 0x3FE5555555555593 = some r14 := e14
  have e15 : Ieee.double.mul r7 r14 = some r15 := e15
  have e16 : Ieee.double.mul 0x3FC39A09D078C69F r8 = some r16 := e16
  have e17 : Ieee.double.add r16 0x3FCC71C51D8E78AF = some r17 := e17
  have e18 : Ieee.double.mul r17 r8 = some r18 := e18
  have e19 : Ieee.double.add r18 0x3FD999999997FA04 = some r19 := e19
  have e20 : Ieee.double.mul r8 r19 = some r20 := e20
  have e21 : Ieee.double.add r15 r20 = some r21 := e21
  have e22 : Ieee.double.mul MathAsm.half r4 = some r22 := e22
  have e23 : Ieee.double.mul r22 r4 = some r23 := e23
  have e24 : Ieee.double.add r21 r23 = some r24 := e24
  have e25 : Ieee.double.mul r6 r24 = some r25 := e25
  have e26 : Ieee.double.mul 0x3DEA39EF35793C76 r1 = some r26 := e26
  have e27 : Ieee.double.add r25 r26 = some r27 := e27
  have e28 : Ieee.double.sub r23 r27 = some r28 := e28
  have e29 : Ieee.double.sub r28 r4 = some r29 := e29
  have e30 : Ieee.double.mul r1 0x3FE62E42FEE00000 = some r30 := e30
  have e31 : Ieee.double.sub r30 r29 = some r31 := e31
  have hc1 : (if (!MathAsm.lt 0x3FE6A09E667F3BCD (f1of x)) = true then MathAsm.one else 0) = logC x := by
    unfold logC
    cases MathAsm.lt 0x3FE6A09E667F3BCD (f1of x) <;> rfl
  refine Eq.trans (show MathLog.archLog #[.float .f64 x] = ite ((x % 2 ^ 63 == 0) = true) _ _ from rfl) ?_
  rw [a1, if_neg Bool.false_ne_true]
  refine Eq.trans (show _ = ite (x ≥ 2 ^ 63) _ _ from rfl) ?_
  rw [if_neg a2]
  refine Eq.trans (show _ = ite (x ≥ MathAsm.posInf) _ _ from rfl) ?_
  rw [if_neg a3]
  show (MathAsm.sub (MathAsm.ofInt32 (kof x)) (if (!MathAsm.lt 0x3FE6A09E667F3BCD (f1of x)) = true then MathAsm.one else 0) >>= fun k => _) = _
  rw [hc1]
  rw [show MathAsm.sub (MathAsm.ofInt32 (kof x)) (logC x) = pure r1 from asm_eq .sub e1, pure_bind]
  rw [show (if (!MathAsm.lt 4604544271217802189 (x % 2 ^ 52 + MathAsm.half)) = true then MathAsm.one else 0) = logC x from hc1, show x % 2 ^ 52 + MathAsm.half = f1of x from rfl]
  rw [show MathAsm.add (logC x) MathAsm.one = pure r2 from asm_eq .add e2, pure_bind]
  rw [show MathAsm.mul (f1of x) r2 = pure r3 from asm_eq .mul e3, pure_bind]
  rw [show MathAsm.sub r3 MathAsm.one = pure r4 from asm_eq .sub e4, pure_bind]
  rw [show MathAsm.add MathAsm.two r4 = pure r5 from asm_eq .add e5, pure_bind]
  rw [show MathAsm.div r4 r5 = pure r6 from asm_eq .quo e6, pure_bind]
  rw [show MathAsm.mul r6 r6 = pure r7 from asm_eq .mul e7, pure_bind]
  rw [show MathAsm.mul r7 r7 = pure r8 from asm_eq .mul e8, pure_bind]
  rw [show MathAsm.mul 0x3FC2F112DF3E5244 r8 = pure r9 from asm_eq .mul e9, pure_bind]
  rw [show MathAsm.add r9 0x3FC7466496CB03DE = pure r10 from asm_eq .add e10, pure_bind]
  rw [show MathAsm.mul r10 r8 = pure r11 from asm_eq .mul e11, pure_bind]
  rw [show MathAsm.add r11 0x3FD2492494229359 = pure r12 from asm_eq .add e12, pure_bind]
  rw [show MathAsm.mul r12 r8 = pure r13 from asm_eq .mul e13, pure_bind]
  rw [show MathAsm.add r13 0x3FE5555555555593 = pure r14 from asm_eq .add e14, pure_bind]
  rw [show MathAsm.mul r7 r14 = pure r15 from asm_eq .mul e15, pure_bind]
  rw [show MathAsm.mul 0x3FC39A09D078C69F r8 = pure r16 from asm_eq .mul e16, pure_bind]
  rw [show MathAsm.add r16 0x3FCC71C51D8E78AF = pure r17 from asm_eq .add e17, pure_bind]
  rw [show MathAsm.mul r17 r8 = pure r18 from asm_eq .mul e18, pure_bind]
  rw [show MathAsm.add r18 0x3FD999999997FA04 = pure r19 from asm_eq .add e19, pure_bind]
  rw [show MathAsm.mul r8 r19 = pure r20 from asm_eq .mul e20, pure_bind]
  rw [show MathAsm.add r15 r20 = pure r21 from asm_eq .add e21, pure_bind]
  rw [show MathAsm.mul MathAsm.half r4 = pure r22 from asm_eq .mul e22, pure_bind]
  rw [show MathAsm.mul r22 r4 = pure r23 from asm_eq .mul e23, pure_bind]
  rw [show MathAsm.add r21 r23 = pure r24 from asm_eq .add e24, pure_bind]
  rw [show MathAsm.mul r6 r24 = pure r25 from asm_eq .mul e25, pure_bind]
  rw [show MathAsm.mul 0x3DEA39EF35793C76 r1 = pure r26 from asm_eq .mul e26, pure_bind]
  rw [show MathAsm.add r25 r26 = pure r27 from asm_eq .add e27, pure_bind]
  rw [show MathAsm.mul r1 0x3FE62E42FEE00000 = pure r30 from asm_eq .mul e30, pure_bind]
  rw [show MathAsm.sub r23 r27 = pure r28 from asm_eq .sub e28, pure_bind]
  rw [show MathAsm.sub r28 r4 = pure r29 from asm_eq .sub e29, pure_bind]
  rw [show MathAsm.sub r30 r29 = pure r31 from asm_eq .sub e31, pure_bind]
/-- The result's bounds, of all x between two words of one binade and one half of it, or of whole binades. -/
def fnInt (n : Int) : Nat := Ieee.double.nearest (n < 0) n.natAbs 0
def last (l : Option (List (Nat × Nat))) : Option (Nat × Nat) := l.bind fun l => l.head?
theorem rnk_int (n : Int) : ∃ k, k = 3000 ∧ Rnk (n * ((2 ^ k : Nat) : Int)) 0 (fnInt n) := by
  obtain ⟨k, hk⟩ : ∃ k : Nat, k = 3000 := ⟨_, rfl⟩
  have e : fnInt n = Ieee.double.nearest (decide (n < 0)) n.natAbs ((k : Int) - 3000) := by rw [hk]; rfl
  refine ⟨k, hk, decide (n < 0), n.natAbs, k, e, ?_, ?_, ?_⟩
  · rw [Nat.pow_zero, Nat.mul_one, Int.natAbs_mul, Int.natAbs_natCast]
  · intro h
    have hp : (0 : Int) < ((2 ^ k : Nat) : Int) := by have := Nat.two_pow_pos k; omega
    rcases Int.lt_or_le n 0 with h' | h'
    · have := Int.mul_neg_of_neg_of_pos h' hp; omega
    · exact decide_eq_false (by omega)
  · intro h
    have hp : (0 : Int) < ((2 ^ k : Nat) : Int) := by have := Nat.two_pow_pos k; omega
    rcases Int.lt_or_le n 0 with h' | h'
    · exact decide_eq_true h'
    · have := Int.mul_nonneg h' (Int.le_of_lt hp); omega
theorem int_in {n : Int} {lo hi : Nat} (h1 : finb lo = true) (h2 : finb hi = true) (h3 : SV lo ≤ n * UK) (h4 : n * UK ≤ SV hi) : In lo hi (fnInt n) := by
  obtain ⟨k, hk, hr⟩ := rnk_int n
  obtain ⟨k', hk', hU⟩ := UK_eq
  obtain rfl : k' = k := by omega
  rw [hU] at h3 h4
  refine rnk_in hr (fin_of h1).2 (fin_of h2).2 ?_ ?_
  · rw [Nat.pow_zero]; omega
  · rw [Nat.pow_zero]; omega
/-- What archLog gives of x. -/
def LogIs (x : Nat) (a b : Nat) : Prop := ∃ r, MathLog.archLog #[.float .f64 x] = pure (.float .f64 r) ∧ In a b r
theorem rung_small {x : Nat} (h : x < 2 ^ 63) : rung x = x := by unfold rung; omega
theorem sg_small {x : Nat} (h : x < 2 ^ 63) : sg x = false := by
  unfold sg
  have : x / 2 ^ 63 % 2 = 0 := by omega
  rw [this]; rfl
theorem SV_small {x y : Nat} (hx : x ≤ y) (hy : y < 2 ^ 63) : SV x ≤ SV y := by
  rw [SV_pos (sg_small (by omega)), SV_pos (sg_small hy)]
  have := V_mono (x := x) (y := y) (by rw [rung_small (by omega), rung_small hy]; exact hx)
  omega
theorem in_words {a b x : Nat} (h1 : a ≤ x) (h2 : x ≤ b) (h3 : b < 2047 * 2 ^ 52) : In a b x :=
  ⟨by omega, by unfold Fnt rung; omega, SV_small h1 (by omega), SV_small h2 (by omega)⟩
theorem logC_eq (x : Nat) : logC x = if 0x3FE6A09E667F3BCD < f1of x then 0 else 4607182418800017408 := by
  unfold logC MathAsm.lt
  have hf : f1of x < 2047 * 2 ^ 52 := by unfold f1of; omega
  rw [show FloatKind.f64.format.order 0x3FE6A09E667F3BCD (f1of x) = some (compare 0x3FE6A09E667F3BCD (f1of x)) from order_pos (by decide) hf]
  rcases Nat.lt_trichotomy 0x3FE6A09E667F3BCD (f1of x) with h | h | h
  · rw [Nat.compare_eq_lt.2 h, if_pos h]; rfl
  · rw [Nat.compare_eq_eq.2 h, if_neg (show ¬ 0x3FE6A09E667F3BCD < f1of x by omega)]; rfl
  · rw [Nat.compare_eq_gt.2 h, if_neg (show ¬ 0x3FE6A09E667F3BCD < f1of x by omega)]; rfl
/-- Bounds of log, f1 and k being bounded. -/
def logB (c flo fhi : Nat) (klo khi : Int) : Option (Nat × Nat) :=
  if finb (fnInt klo) && finb (fnInt khi) && decide (SV (fnInt klo) ≤ klo * UK) && decide (khi * UK ≤ SV (fnInt khi)) && decide (fhi < 2047 * 2 ^ 52) && (decide (c = 0) && decide (0x3FE6A09E667F3BCD < flo) || decide (c = 4607182418800017408) && decide (fhi ≤ 0x3FE6A09E667F3BCD))
  then last (auto (logOps c) [(flo, fhi), (fnInt klo, fnInt khi)]) else none
theorem logB_ok {x c flo fhi a b : Nat} {klo khi : Int} (h1 : 1 ≤ x) (h2 : x < 9218868437227405312) (hf1 : flo ≤ f1of x) (hf2 : f1of x ≤ fhi) (hk1 : klo ≤ kof x) (hk2 : kof x ≤ khi)
    (h : logB c flo fhi klo khi = some (a, b)) : LogIs x a b := by
  unfold logB at h
  split at h
  · rename_i hc
    simp only [Bool.and_eq_true, Bool.or_eq_true, decide_eq_true_eq] at hc
    obtain ⟨⟨⟨⟨⟨c1, c2⟩, c3⟩, c4⟩, c5⟩, c6⟩ := hc
    have hlc : logC x = c := by
      rw [logC_eq]
      rcases c6 with ⟨rfl, c6⟩ | ⟨rfl, c6⟩
      · rw [if_pos (show 0x3FE6A09E667F3BCD < f1of x by omega)]
      · rw [if_neg (show ¬ 0x3FE6A09E667F3BCD < f1of x by omega)]
    have hU : (0 : Int) < UK := by
      obtain ⟨k, _, hU⟩ := UK_eq
      rw [hU]
      have := Nat.two_pow_pos k
      omega
    have hki : In (fnInt klo) (fnInt khi) (fnInt (kof x)) := by
      refine int_in c1 c2 (Int.le_trans c3 ?_) (Int.le_trans ?_ c4)
      · exact Int.mul_le_mul_of_nonneg_right hk1 (Int.le_of_lt hU)
      · exact Int.mul_le_mul_of_nonneg_right hk2 (Int.le_of_lt hU)
    unfold last at h
    obtain ⟨l, hl, hh⟩ := Option.bind_eq_some_iff.1 h
    have hr := auto_ok (env := [f1of x, fnInt (kof x)]) (logOps c) hl ⟨in_words hf1 hf2 c5, hki, trivial⟩
    rw [← hlc] at hr
    obtain ⟨r, env, hQ, he⟩ := archLog_runs x h1 h2 hr
    refine ⟨r, he, ?_⟩
    match l, hh, hQ with
    | i :: l, hh, hQ =>
      have hi : i = (a, b) := by simpa using hh
      rw [hi] at hQ
      exact hQ.1
  · cases h
end Go.Proofs.YtlemgjlnlegcgaaDoor
