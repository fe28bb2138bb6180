/- math.sinPi of numbers below 2^52. -/
import Derived.Test.YtlemgjlnlegcgaaDoorSc54
import Derived.Test.YtlemgjlnlegcgaaDoorMo54
namespace Go.Proofs.YtlemgjlnlegcgaaDoor
open Go.RowKit
open FL
open Go.Extern
set_option linter.unusedVariables false
set_option linter.unusedSimpArgs false

set_option maxRecDepth 100000 in
theorem sinPi_low (x a s : Nat) (h1 : x < 4598175219545276416) (hm : Ieee.double.mul 4614256656552045848 x = some a) (w : World) (H : Calls Tryd.prog 21 #[.float .f64 a] w fun e w' => e = .returned (.float .f64 s) ∧ w' = w) : Calls Tryd.prog 16 #[.float .f64 x] w fun e w' => e = .returned (.float .f64 (negw s)) ∧ w' = w := by
  have o1 := lss_t (x := x) (c := 4598175219545276416) h1 (by decide)
  have fm : ∀ w, Sem.run Tryd.prog (binOp .mul 22 (.float .f64 4614256656552045848) (.float .f64 x)) w = .ok (.float .f64 a) w := fun w => run_float_arith w .mul _ .f64 _ _ _ hm
  obtain ⟨r, hr⟩ : ∃ r, negw s = r := ⟨_, rfl⟩
  have fn : ∀ w, Sem.run Tryd.prog (Op.unary .neg (.float .f64 s)) w = .ok (.float .f64 r) w := fun w => run_neg w hr
  rw [hr]
  have HC := Lib.hid H
  clear h1 hm hr H
  go_enter Tryd.func16, Tryd.ntmps16
  go_wp2_with fail
  refine HC.out.mono ?_
  rintro e w1 ⟨rfl, hw⟩
  obtain rfl : w = w1 := hw.symm
  go_wp2_with fail
  go_ret
  exact ⟨rfl, rfl⟩
set_option maxRecDepth 100000 in
theorem sinPi_even (x z z2 : Nat) (hx : x < 4841369599423283200) (h1 : 4598175219545276416 ≤ x) (hz : (FloatKind.f64.format.order z x != some .eq) = false) (ha : Ieee.double.add x 4841369599423283200 = some z2) (hb : bits .and .u64 1 (z2 : Int) = 0) (w : World)
    (HF : Calls Tryd.prog 22 #[.float .f64 x] w fun e w' => e = .returned (.float .f64 z) ∧ w' = w) (H : Calls Tryd.prog 21 #[.float .f64 0] w fun e w' => e = .returned (.float .f64 0) ∧ w' = w) : Calls Tryd.prog 16 #[.float .f64 x] w fun e w' => e = .returned (.float .f64 9223372036854775808) ∧ w' = w := by
  have o1 := lss_f (x := x) (c := 4598175219545276416) h1 (by omega)
  have o2 := geq_f (x := x) (c := 4845873199050653696) (by omega) (by decide)
  have o3 := lss_t (x := x) (c := 4841369599423283200) hx (by decide)
  have fa : ∀ w, Sem.run Tryd.prog (binOp .add 22 (.float .f64 x) (.float .f64 4841369599423283200)) w = .ok (.float .f64 z2) w := fun w => run_float_arith w .add _ .f64 _ _ _ ha
  have b1 := bits_run z2
  have cw : ∀ w, Sem.run Tryd.prog (convert 3 22 (.int .i64 0)) w = .ok (.float .f64 0) w := fun w => by kernel_rfl
  have fm : ∀ w, Sem.run Tryd.prog (binOp .mul 22 (.float .f64 4614256656552045848) (.float .f64 0)) w = .ok (.float .f64 0) w := fun w => run_float_arith w .mul _ .f64 _ _ _ (by decide +kernel)
  have fn : ∀ w, Sem.run Tryd.prog (Op.unary .neg (.float .f64 0)) w = .ok (.float .f64 9223372036854775808) w := fun w => run_neg w (by decide +kernel)
  have HC := Lib.hid H
  have HZ := Lib.hid HF
  clear h1 hx ha H HF
  go_enter Tryd.func16, Tryd.ntmps16
  go_wp2_with fail
  refine HZ.out.mono ?_
  rintro e w1 ⟨rfl, hw⟩
  obtain rfl : w = w1 := hw.symm
  go_wp2_with fail
  refine HC.out.mono ?_
  rintro e w1 ⟨rfl, hw⟩
  obtain rfl : w = w1 := hw.symm
  go_wp2_with fail
  go_ret
  exact ⟨rfl, rfl⟩
set_option maxRecDepth 100000 in
theorem sinPi_odd (x z z2 : Nat) (hx : x < 4841369599423283200) (h1 : 4598175219545276416 ≤ x) (hz : (FloatKind.f64.format.order z x != some .eq) = false) (ha : Ieee.double.add x 4841369599423283200 = some z2) (hb : bits .and .u64 1 (z2 : Int) = 1) (w : World)
    (HF : Calls Tryd.prog 22 #[.float .f64 x] w fun e w' => e = .returned (.float .f64 z) ∧ w' = w) (H : Calls Tryd.prog 21 #[.float .f64 0] w fun e w' => e = .returned (.float .f64 0) ∧ w' = w) : Calls Tryd.prog 16 #[.float .f64 x] w fun e w' => e = .returned (.float .f64 9223372036854775808) ∧ w' = w := by
  have o1 := lss_f (x := x) (c := 4598175219545276416) h1 (by omega)
  have o2 := geq_f (x := x) (c := 4845873199050653696) (by omega) (by decide)
  have o3 := lss_t (x := x) (c := 4841369599423283200) hx (by decide)
  have fa : ∀ w, Sem.run Tryd.prog (binOp .add 22 (.float .f64 x) (.float .f64 4841369599423283200)) w = .ok (.float .f64 z2) w := fun w => run_float_arith w .add _ .f64 _ _ _ ha
  have b1 := bits_run z2
  have cw : ∀ w, Sem.run Tryd.prog (convert 3 22 (.int .i64 1)) w = .ok (.float .f64 4607182418800017408) w := fun w => by kernel_rfl
  have fs : ∀ w, Sem.run Tryd.prog (binOp .sub 22 (.float .f64 4607182418800017408) (.float .f64 4607182418800017408)) w = .ok (.float .f64 0) w := fun w => run_float_arith w .sub _ .f64 _ _ _ (by decide +kernel)
  have fm : ∀ w, Sem.run Tryd.prog (binOp .mul 22 (.float .f64 4614256656552045848) (.float .f64 0)) w = .ok (.float .f64 0) w := fun w => run_float_arith w .mul _ .f64 _ _ _ (by decide +kernel)
  have fn : ∀ w, Sem.run Tryd.prog (Op.unary .neg (.float .f64 0)) w = .ok (.float .f64 9223372036854775808) w := fun w => run_neg w (by decide +kernel)
  have HC := Lib.hid H
  have HZ := Lib.hid HF
  clear h1 hx ha H HF
  go_enter Tryd.func16, Tryd.ntmps16
  go_wp2_with fail
  refine HZ.out.mono ?_
  rintro e w1 ⟨rfl, hw⟩
  obtain rfl : w = w1 := hw.symm
  go_wp2_with fail
  refine HC.out.mono ?_
  rintro e w1 ⟨rfl, hw⟩
  obtain rfl : w = w1 := hw.symm
  go_wp2_with fail
  go_ret
  exact ⟨rfl, rfl⟩
set_option maxRecDepth 100000 in
theorem sinPi_0 (x z T q a s : Nat) (h1 : 4598175219545276416 ≤ x) (hx : x < 4841369599423283200) (hz : (FloatKind.f64.format.order z x != some .eq) = true) (eq4 : Ieee.double.mul T 4616189618054758400 = some q) (hc : floatToIntVal .f64 q .i64 = some 0) (ea : Ieee.double.mul 4614256656552045848 T = some a) (w : World)
    (HF : Calls Tryd.prog 22 #[.float .f64 x] w fun e w' => e = .returned (.float .f64 z) ∧ w' = w) (HM : Calls Tryd.prog 23 #[.float .f64 x, .float .f64 4611686018427387904] w fun e w' => e = .returned (.float .f64 T) ∧ w' = w)
    (H : Calls Tryd.prog 21 #[.float .f64 a] w fun e w' => e = .returned (.float .f64 s) ∧ w' = w) : Calls Tryd.prog 16 #[.float .f64 x] w fun e w' => e = .returned (.float .f64 (negw s)) ∧ w' = w := by
  have o1 := lss_f (x := x) (c := 4598175219545276416) h1 (by omega)
  have f4 : ∀ w, Sem.run Tryd.prog (binOp .mul 22 (.float .f64 T) (.float .f64 4616189618054758400)) w = .ok (.float .f64 q) w := fun w => run_float_arith w .mul _ .f64 _ _ _ eq4
  have cv : ∀ w, Sem.run Tryd.prog (convert 22 3 (.float .f64 q)) w = .ok (.int .i64 0) w := fun w => run_convert_float_int w _ _ .f64 .i64 q 0 (by kernel_rfl) (by kernel_rfl) hc
  have fa : ∀ w, Sem.run Tryd.prog (binOp .mul 22 (.float .f64 4614256656552045848) (.float .f64 T)) w = .ok (.float .f64 a) w := fun w => run_float_arith w .mul _ .f64 _ _ _ ea
  obtain ⟨r1, hr1⟩ : ∃ r, negw s = r := ⟨_, rfl⟩
  have fn1 : ∀ w, Sem.run Tryd.prog (Op.unary .neg (.float .f64 s)) w = .ok (.float .f64 r1) w := fun w => run_neg w hr1
  rw [hr1]
  have HZ := Lib.hid HF
  have HD := Lib.hid HM
  have HC := Lib.hid H
  clear h1 hx eq4 hc HF HM H hr1 ea
  go_enter Tryd.func16, Tryd.ntmps16
  go_wp2_with fail
  refine HZ.out.mono ?_
  rintro e w1 ⟨rfl, hw⟩
  obtain rfl : w = w1 := hw.symm
  go_wp2_with fail
  refine HD.out.mono ?_
  rintro e w1 ⟨rfl, hw⟩
  obtain rfl : w = w1 := hw.symm
  go_wp2_with fail
  refine HC.out.mono ?_
  rintro e w1 ⟨rfl, hw⟩
  obtain rfl : w = w1 := hw.symm
  go_wp2_with fail
  go_ret
  exact ⟨rfl, rfl⟩
set_option maxRecDepth 100000 in
theorem sinPi_1 (x z T q b a s : Nat) (h1 : 4598175219545276416 ≤ x) (hx : x < 4841369599423283200) (hz : (FloatKind.f64.format.order z x != some .eq) = true) (eq4 : Ieee.double.mul T 4616189618054758400 = some q) (hc : floatToIntVal .f64 q .i64 = some 1) (eb : Ieee.double.sub 4602678819172646912 T = some b) (ea : Ieee.double.mul 4614256656552045848 b = some a) (w : World)
    (HF : Calls Tryd.prog 22 #[.float .f64 x] w fun e w' => e = .returned (.float .f64 z) ∧ w' = w) (HM : Calls Tryd.prog 23 #[.float .f64 x, .float .f64 4611686018427387904] w fun e w' => e = .returned (.float .f64 T) ∧ w' = w)
    (H : Calls Tryd.prog 25 #[.float .f64 a] w fun e w' => e = .returned (.float .f64 s) ∧ w' = w) : Calls Tryd.prog 16 #[.float .f64 x] w fun e w' => e = .returned (.float .f64 (negw s)) ∧ w' = w := by
  have o1 := lss_f (x := x) (c := 4598175219545276416) h1 (by omega)
  have f4 : ∀ w, Sem.run Tryd.prog (binOp .mul 22 (.float .f64 T) (.float .f64 4616189618054758400)) w = .ok (.float .f64 q) w := fun w => run_float_arith w .mul _ .f64 _ _ _ eq4
  have cv : ∀ w, Sem.run Tryd.prog (convert 22 3 (.float .f64 q)) w = .ok (.int .i64 1) w := fun w => run_convert_float_int w _ _ .f64 .i64 q 1 (by kernel_rfl) (by kernel_rfl) hc
  have fb : ∀ w, Sem.run Tryd.prog (binOp .sub 22 (.float .f64 4602678819172646912) (.float .f64 T)) w = .ok (.float .f64 b) w := fun w => run_float_arith w .sub _ .f64 _ _ _ eb
  have fa : ∀ w, Sem.run Tryd.prog (binOp .mul 22 (.float .f64 4614256656552045848) (.float .f64 b)) w = .ok (.float .f64 a) w := fun w => run_float_arith w .mul _ .f64 _ _ _ ea
  obtain ⟨r1, hr1⟩ : ∃ r, negw s = r := ⟨_, rfl⟩
  have fn1 : ∀ w, Sem.run Tryd.prog (Op.unary .neg (.float .f64 s)) w = .ok (.float .f64 r1) w := fun w => run_neg w hr1
  rw [hr1]
  have HZ := Lib.hid HF
  have HD := Lib.hid HM
  have HC := Lib.hid H
  clear h1 hx eq4 hc HF HM H hr1 eb ea
  go_enter Tryd.func16, Tryd.ntmps16
  go_wp2_with fail
  refine HZ.out.mono ?_
  rintro e w1 ⟨rfl, hw⟩
  obtain rfl : w = w1 := hw.symm
  go_wp2_with fail
  refine HD.out.mono ?_
  rintro e w1 ⟨rfl, hw⟩
  obtain rfl : w = w1 := hw.symm
  go_wp2_with fail
  refine HC.out.mono ?_
  rintro e w1 ⟨rfl, hw⟩
  obtain rfl : w = w1 := hw.symm
  go_wp2_with fail
  go_ret
  exact ⟨rfl, rfl⟩
set_option maxRecDepth 100000 in
theorem sinPi_2 (x z T q b a s : Nat) (h1 : 4598175219545276416 ≤ x) (hx : x < 4841369599423283200) (hz : (FloatKind.f64.format.order z x != some .eq) = true) (eq4 : Ieee.double.mul T 4616189618054758400 = some q) (hc : floatToIntVal .f64 q .i64 = some 2) (eb : Ieee.double.sub 4602678819172646912 T = some b) (ea : Ieee.double.mul 4614256656552045848 b = some a) (w : World)
    (HF : Calls Tryd.prog 22 #[.float .f64 x] w fun e w' => e = .returned (.float .f64 z) ∧ w' = w) (HM : Calls Tryd.prog 23 #[.float .f64 x, .float .f64 4611686018427387904] w fun e w' => e = .returned (.float .f64 T) ∧ w' = w)
    (H : Calls Tryd.prog 25 #[.float .f64 a] w fun e w' => e = .returned (.float .f64 s) ∧ w' = w) : Calls Tryd.prog 16 #[.float .f64 x] w fun e w' => e = .returned (.float .f64 (negw s)) ∧ w' = w := by
  have o1 := lss_f (x := x) (c := 4598175219545276416) h1 (by omega)
  have f4 : ∀ w, Sem.run Tryd.prog (binOp .mul 22 (.float .f64 T) (.float .f64 4616189618054758400)) w = .ok (.float .f64 q) w := fun w => run_float_arith w .mul _ .f64 _ _ _ eq4
  have cv : ∀ w, Sem.run Tryd.prog (convert 22 3 (.float .f64 q)) w = .ok (.int .i64 2) w := fun w => run_convert_float_int w _ _ .f64 .i64 q 2 (by kernel_rfl) (by kernel_rfl) hc
  have fb : ∀ w, Sem.run Tryd.prog (binOp .sub 22 (.float .f64 4602678819172646912) (.float .f64 T)) w = .ok (.float .f64 b) w := fun w => run_float_arith w .sub _ .f64 _ _ _ eb
  have fa : ∀ w, Sem.run Tryd.prog (binOp .mul 22 (.float .f64 4614256656552045848) (.float .f64 b)) w = .ok (.float .f64 a) w := fun w => run_float_arith w .mul _ .f64 _ _ _ ea
  obtain ⟨r1, hr1⟩ : ∃ r, negw s = r := ⟨_, rfl⟩
  have fn1 : ∀ w, Sem.run Tryd.prog (Op.unary .neg (.float .f64 s)) w = .ok (.float .f64 r1) w := fun w => run_neg w hr1
  rw [hr1]
  have HZ := Lib.hid HF
  have HD := Lib.hid HM
  have HC := Lib.hid H
  clear h1 hx eq4 hc HF HM H hr1 eb ea
  go_enter Tryd.func16, Tryd.ntmps16
  go_wp2_with fail
  refine HZ.out.mono ?_
  rintro e w1 ⟨rfl, hw⟩
  obtain rfl : w = w1 := hw.symm
  go_wp2_with fail
  refine HD.out.mono ?_
  rintro e w1 ⟨rfl, hw⟩
  obtain rfl : w = w1 := hw.symm
  go_wp2_with fail
  refine HC.out.mono ?_
  rintro e w1 ⟨rfl, hw⟩
  obtain rfl : w = w1 := hw.symm
  go_wp2_with fail
  go_ret
  exact ⟨rfl, rfl⟩
set_option maxRecDepth 100000 in
theorem sinPi_3 (x z T q b a s : Nat) (h1 : 4598175219545276416 ≤ x) (hx : x < 4841369599423283200) (hz : (FloatKind.f64.format.order z x != some .eq) = true) (eq4 : Ieee.double.mul T 4616189618054758400 = some q) (hc : floatToIntVal .f64 q .i64 = some 3) (eb : Ieee.double.sub 4607182418800017408 T = some b) (ea : Ieee.double.mul 4614256656552045848 b = some a) (w : World)
    (HF : Calls Tryd.prog 22 #[.float .f64 x] w fun e w' => e = .returned (.float .f64 z) ∧ w' = w) (HM : Calls Tryd.prog 23 #[.float .f64 x, .float .f64 4611686018427387904] w fun e w' => e = .returned (.float .f64 T) ∧ w' = w)
    (H : Calls Tryd.prog 21 #[.float .f64 a] w fun e w' => e = .returned (.float .f64 s) ∧ w' = w) : Calls Tryd.prog 16 #[.float .f64 x] w fun e w' => e = .returned (.float .f64 (negw s)) ∧ w' = w := by
  have o1 := lss_f (x := x) (c := 4598175219545276416) h1 (by omega)
  have f4 : ∀ w, Sem.run Tryd.prog (binOp .mul 22 (.float .f64 T) (.float .f64 4616189618054758400)) w = .ok (.float .f64 q) w := fun w => run_float_arith w .mul _ .f64 _ _ _ eq4
  have cv : ∀ w, Sem.run Tryd.prog (convert 22 3 (.float .f64 q)) w = .ok (.int .i64 3) w := fun w => run_convert_float_int w _ _ .f64 .i64 q 3 (by kernel_rfl) (by kernel_rfl) hc
  have fb : ∀ w, Sem.run Tryd.prog (binOp .sub 22 (.float .f64 4607182418800017408) (.float .f64 T)) w = .ok (.float .f64 b) w := fun w => run_float_arith w .sub _ .f64 _ _ _ eb
  have fa : ∀ w, Sem.run Tryd.prog (binOp .mul 22 (.float .f64 4614256656552045848) (.float .f64 b)) w = .ok (.float .f64 a) w := fun w => run_float_arith w .mul _ .f64 _ _ _ ea
  obtain ⟨r1, hr1⟩ : ∃ r, negw s = r := ⟨_, rfl⟩
  have fn1 : ∀ w, Sem.run Tryd.prog (Op.unary .neg (.float .f64 s)) w = .ok (.float .f64 r1) w := fun w => run_neg w hr1
  rw [hr1]
  have HZ := Lib.hid HF
  have HD := Lib.hid HM
  have HC := Lib.hid H
  clear h1 hx eq4 hc HF HM H hr1 eb ea
  go_enter Tryd.func16, Tryd.ntmps16
  go_wp2_with fail
  refine HZ.out.mono ?_
  rintro e w1 ⟨rfl, hw⟩
  obtain rfl : w = w1 := hw.symm
  go_wp2_with fail
  refine HD.out.mono ?_
  rintro e w1 ⟨rfl, hw⟩
  obtain rfl : w = w1 := hw.symm
  go_wp2_with fail
  refine HC.out.mono ?_
  rintro e w1 ⟨rfl, hw⟩
  obtain rfl : w = w1 := hw.symm
  go_wp2_with fail
  go_ret
  exact ⟨rfl, rfl⟩
set_option maxRecDepth 100000 in
theorem sinPi_4 (x z T q b a s : Nat) (h1 : 4598175219545276416 ≤ x) (hx : x < 4841369599423283200) (hz : (FloatKind.f64.format.order z x != some .eq) = true) (eq4 : Ieee.double.mul T 4616189618054758400 = some q) (hc : floatToIntVal .f64 q .i64 = some 4) (eb : Ieee.double.sub 4607182418800017408 T = some b) (ea : Ieee.double.mul 4614256656552045848 b = some a) (w : World)
    (HF : Calls Tryd.prog 22 #[.float .f64 x] w fun e w' => e = .returned (.float .f64 z) ∧ w' = w) (HM : Calls Tryd.prog 23 #[.float .f64 x, .float .f64 4611686018427387904] w fun e w' => e = .returned (.float .f64 T) ∧ w' = w)
    (H : Calls Tryd.prog 21 #[.float .f64 a] w fun e w' => e = .returned (.float .f64 s) ∧ w' = w) : Calls Tryd.prog 16 #[.float .f64 x] w fun e w' => e = .returned (.float .f64 (negw s)) ∧ w' = w := by
  have o1 := lss_f (x := x) (c := 4598175219545276416) h1 (by omega)
  have f4 : ∀ w, Sem.run Tryd.prog (binOp .mul 22 (.float .f64 T) (.float .f64 4616189618054758400)) w = .ok (.float .f64 q) w := fun w => run_float_arith w .mul _ .f64 _ _ _ eq4
  have cv : ∀ w, Sem.run Tryd.prog (convert 22 3 (.float .f64 q)) w = .ok (.int .i64 4) w := fun w => run_convert_float_int w _ _ .f64 .i64 q 4 (by kernel_rfl) (by kernel_rfl) hc
  have fb : ∀ w, Sem.run Tryd.prog (binOp .sub 22 (.float .f64 4607182418800017408) (.float .f64 T)) w = .ok (.float .f64 b) w := fun w => run_float_arith w .sub _ .f64 _ _ _ eb
  have fa : ∀ w, Sem.run Tryd.prog (binOp .mul 22 (.float .f64 4614256656552045848) (.float .f64 b)) w = .ok (.float .f64 a) w := fun w => run_float_arith w .mul _ .f64 _ _ _ ea
  obtain ⟨r1, hr1⟩ : ∃ r, negw s = r := ⟨_, rfl⟩
  have fn1 : ∀ w, Sem.run Tryd.prog (Op.unary .neg (.float .f64 s)) w = .ok (.float .f64 r1) w := fun w => run_neg w hr1
  rw [hr1]
  have HZ := Lib.hid HF
  have HD := Lib.hid HM
  have HC := Lib.hid H
  clear h1 hx eq4 hc HF HM H hr1 eb ea
  go_enter Tryd.func16, Tryd.ntmps16
  go_wp2_with fail
  refine HZ.out.mono ?_
  rintro e w1 ⟨rfl, hw⟩
  obtain rfl : w = w1 := hw.symm
  go_wp2_with fail
  refine HD.out.mono ?_
  rintro e w1 ⟨rfl, hw⟩
  obtain rfl : w = w1 := hw.symm
  go_wp2_with fail
  refine HC.out.mono ?_
  rintro e w1 ⟨rfl, hw⟩
  obtain rfl : w = w1 := hw.symm
  go_wp2_with fail
  go_ret
  exact ⟨rfl, rfl⟩
set_option maxRecDepth 100000 in
theorem sinPi_5 (x z T q b a s : Nat) (h1 : 4598175219545276416 ≤ x) (hx : x < 4841369599423283200) (hz : (FloatKind.f64.format.order z x != some .eq) = true) (eq4 : Ieee.double.mul T 4616189618054758400 = some q) (hc : floatToIntVal .f64 q .i64 = some 5) (eb : Ieee.double.sub T 4609434218613702656 = some b) (ea : Ieee.double.mul 4614256656552045848 b = some a) (w : World)
    (HF : Calls Tryd.prog 22 #[.float .f64 x] w fun e w' => e = .returned (.float .f64 z) ∧ w' = w) (HM : Calls Tryd.prog 23 #[.float .f64 x, .float .f64 4611686018427387904] w fun e w' => e = .returned (.float .f64 T) ∧ w' = w)
    (H : Calls Tryd.prog 25 #[.float .f64 a] w fun e w' => e = .returned (.float .f64 s) ∧ w' = w) : Calls Tryd.prog 16 #[.float .f64 x] w fun e w' => e = .returned (.float .f64 (negw (negw s))) ∧ w' = w := by
  have o1 := lss_f (x := x) (c := 4598175219545276416) h1 (by omega)
  have f4 : ∀ w, Sem.run Tryd.prog (binOp .mul 22 (.float .f64 T) (.float .f64 4616189618054758400)) w = .ok (.float .f64 q) w := fun w => run_float_arith w .mul _ .f64 _ _ _ eq4
  have cv : ∀ w, Sem.run Tryd.prog (convert 22 3 (.float .f64 q)) w = .ok (.int .i64 5) w := fun w => run_convert_float_int w _ _ .f64 .i64 q 5 (by kernel_rfl) (by kernel_rfl) hc
  have fb : ∀ w, Sem.run Tryd.prog (binOp .sub 22 (.float .f64 T) (.float .f64 4609434218613702656)) w = .ok (.float .f64 b) w := fun w => run_float_arith w .sub _ .f64 _ _ _ eb
  have fa : ∀ w, Sem.run Tryd.prog (binOp .mul 22 (.float .f64 4614256656552045848) (.float .f64 b)) w = .ok (.float .f64 a) w := fun w => run_float_arith w .mul _ .f64 _ _ _ ea
  obtain ⟨r1, hr1⟩ : ∃ r, negw s = r := ⟨_, rfl⟩
  have fn1 : ∀ w, Sem.run Tryd.prog (Op.unary .neg (.float .f64 s)) w = .ok (.float .f64 r1) w := fun w => run_neg w hr1
  rw [hr1]
  obtain ⟨r2, hr2⟩ : ∃ r, negw r1 = r := ⟨_, rfl⟩
  have fn2 : ∀ w, Sem.run Tryd.prog (Op.unary .neg (.float .f64 r1)) w = .ok (.float .f64 r2) w := fun w => run_neg w hr2
  rw [hr2]
  have HZ := Lib.hid HF
  have HD := Lib.hid HM
  have HC := Lib.hid H
  clear h1 hx eq4 hc HF HM H hr1 hr2 eb ea
  go_enter Tryd.func16, Tryd.ntmps16
  go_wp2_with fail
  refine HZ.out.mono ?_
  rintro e w1 ⟨rfl, hw⟩
  obtain rfl : w = w1 := hw.symm
  go_wp2_with fail
  refine HD.out.mono ?_
  rintro e w1 ⟨rfl, hw⟩
  obtain rfl : w = w1 := hw.symm
  go_wp2_with fail
  refine HC.out.mono ?_
  rintro e w1 ⟨rfl, hw⟩
  obtain rfl : w = w1 := hw.symm
  go_wp2_with fail
  go_ret
  exact ⟨rfl, rfl⟩
set_option maxRecDepth 100000 in
theorem sinPi_6 (x z T q b a s : Nat) (h1 : 4598175219545276416 ≤ x) (hx : x < 4841369599423283200) (hz : (FloatKind.f64.format.order z x != some .eq) = true) (eq4 : Ieee.double.mul T 4616189618054758400 = some q) (hc : floatToIntVal .f64 q .i64 = some 6) (eb : Ieee.double.sub T 4609434218613702656 = some b) (ea : Ieee.double.mul 4614256656552045848 b = some a) (w : World)
    (HF : Calls Tryd.prog 22 #[.float .f64 x] w fun e w' => e = .returned (.float .f64 z) ∧ w' = w) (HM : Calls Tryd.prog 23 #[.float .f64 x, .float .f64 4611686018427387904] w fun e w' => e = .returned (.float .f64 T) ∧ w' = w)
    (H : Calls Tryd.prog 25 #[.float .f64 a] w fun e w' => e = .returned (.float .f64 s) ∧ w' = w) : Calls Tryd.prog 16 #[.float .f64 x] w fun e w' => e = .returned (.float .f64 (negw (negw s))) ∧ w' = w := by
  have o1 := lss_f (x := x) (c := 4598175219545276416) h1 (by omega)
  have f4 : ∀ w, Sem.run Tryd.prog (binOp .mul 22 (.float .f64 T) (.float .f64 4616189618054758400)) w = .ok (.float .f64 q) w := fun w => run_float_arith w .mul _ .f64 _ _ _ eq4
  have cv : ∀ w, Sem.run Tryd.prog (convert 22 3 (.float .f64 q)) w = .ok (.int .i64 6) w := fun w => run_convert_float_int w _ _ .f64 .i64 q 6 (by kernel_rfl) (by kernel_rfl) hc
  have fb : ∀ w, Sem.run Tryd.prog (binOp .sub 22 (.float .f64 T) (.float .f64 4609434218613702656)) w = .ok (.float .f64 b) w := fun w => run_float_arith w .sub _ .f64 _ _ _ eb
  have fa : ∀ w, Sem.run Tryd.prog (binOp .mul 22 (.float .f64 4614256656552045848) (.float .f64 b)) w = .ok (.float .f64 a) w := fun w => run_float_arith w .mul _ .f64 _ _ _ ea
  obtain ⟨r1, hr1⟩ : ∃ r, negw s = r := ⟨_, rfl⟩
  have fn1 : ∀ w, Sem.run Tryd.prog (Op.unary .neg (.float .f64 s)) w = .ok (.float .f64 r1) w := fun w => run_neg w hr1
  rw [hr1]
  obtain ⟨r2, hr2⟩ : ∃ r, negw r1 = r := ⟨_, rfl⟩
  have fn2 : ∀ w, Sem.run Tryd.prog (Op.unary .neg (.float .f64 r1)) w = .ok (.float .f64 r2) w := fun w => run_neg w hr2
  rw [hr2]
  have HZ := Lib.hid HF
  have HD := Lib.hid HM
  have HC := Lib.hid H
  clear h1 hx eq4 hc HF HM H hr1 hr2 eb ea
  go_enter Tryd.func16, Tryd.ntmps16
  go_wp2_with fail
  refine HZ.out.mono ?_
  rintro e w1 ⟨rfl, hw⟩
  obtain rfl : w = w1 := hw.symm
  go_wp2_with fail
  refine HD.out.mono ?_
  rintro e w1 ⟨rfl, hw⟩
  obtain rfl : w = w1 := hw.symm
  go_wp2_with fail
  refine HC.out.mono ?_
  rintro e w1 ⟨rfl, hw⟩
  obtain rfl : w = w1 := hw.symm
  go_wp2_with fail
  go_ret
  exact ⟨rfl, rfl⟩
set_option maxRecDepth 100000 in
theorem sinPi_7 (x z T q b a s : Nat) (h1 : 4598175219545276416 ≤ x) (hx : x < 4841369599423283200) (hz : (FloatKind.f64.format.order z x != some .eq) = true) (eq4 : Ieee.double.mul T 4616189618054758400 = some q) (hc : floatToIntVal .f64 q .i64 = some 7) (eb : Ieee.double.sub T 4611686018427387904 = some b) (ea : Ieee.double.mul 4614256656552045848 b = some a) (w : World)
    (HF : Calls Tryd.prog 22 #[.float .f64 x] w fun e w' => e = .returned (.float .f64 z) ∧ w' = w) (HM : Calls Tryd.prog 23 #[.float .f64 x, .float .f64 4611686018427387904] w fun e w' => e = .returned (.float .f64 T) ∧ w' = w)
    (H : Calls Tryd.prog 21 #[.float .f64 a] w fun e w' => e = .returned (.float .f64 s) ∧ w' = w) : Calls Tryd.prog 16 #[.float .f64 x] w fun e w' => e = .returned (.float .f64 (negw s)) ∧ w' = w := by
  have o1 := lss_f (x := x) (c := 4598175219545276416) h1 (by omega)
  have f4 : ∀ w, Sem.run Tryd.prog (binOp .mul 22 (.float .f64 T) (.float .f64 4616189618054758400)) w = .ok (.float .f64 q) w := fun w => run_float_arith w .mul _ .f64 _ _ _ eq4
  have cv : ∀ w, Sem.run Tryd.prog (convert 22 3 (.float .f64 q)) w = .ok (.int .i64 7) w := fun w => run_convert_float_int w _ _ .f64 .i64 q 7 (by kernel_rfl) (by kernel_rfl) hc
  have fb : ∀ w, Sem.run Tryd.prog (binOp .sub 22 (.float .f64 T) (.float .f64 4611686018427387904)) w = .ok (.float .f64 b) w := fun w => run_float_arith w .sub _ .f64 _ _ _ eb
  have fa : ∀ w, Sem.run Tryd.prog (binOp .mul 22 (.float .f64 4614256656552045848) (.float .f64 b)) w = .ok (.float .f64 a) w := fun w => run_float_arith w .mul _ .f64 _ _ _ ea
  obtain ⟨r1, hr1⟩ : ∃ r, negw s = r := ⟨_, rfl⟩
  have fn1 : ∀ w, Sem.run Tryd.prog (Op.unary .neg (.float .f64 s)) w = .ok (.float .f64 r1) w := fun w => run_neg w hr1
  rw [hr1]
  have HZ := Lib.hid HF
  have HD := Lib.hid HM
  have HC := Lib.hid H
  clear h1 hx eq4 hc HF HM H hr1 eb ea
  go_enter Tryd.func16, Tryd.ntmps16
  go_wp2_with fail
  refine HZ.out.mono ?_
  rintro e w1 ⟨rfl, hw⟩
  obtain rfl : w = w1 := hw.symm
  go_wp2_with fail
  refine HD.out.mono ?_
  rintro e w1 ⟨rfl, hw⟩
  obtain rfl : w = w1 := hw.symm
  go_wp2_with fail
  refine HC.out.mono ?_
  rintro e w1 ⟨rfl, hw⟩
  obtain rfl : w = w1 := hw.symm
  go_wp2_with fail
  go_ret
  exact ⟨rfl, rfl⟩
def six (p : Nat × Nat) : Bool := decide (SV 13848568854164275200 ≤ SV p.1) && decide (SV p.2 ≤ SV 4625196817309499392)
theorem good_six {e : List Nat} {r : Nat} {e' : List Nat} (h : Good six e) (he : e = r :: e') : Sixteen r := by
  obtain ⟨r', e'', p, h1, hg, hi⟩ := h
  rw [h1] at he
  obtain ⟨rfl, _⟩ := List.cons.inj he
  unfold six at hg
  rw [Bool.and_eq_true, decide_eq_true_eq, decide_eq_true_eq] at hg
  exact hi.mono hg.1 hg.2
theorem runs_six {ops : List (Nat × Sum Nat Nat × Sum Nat Nat)} {lo hi : Nat} (hk : lastOk six (auto ops [(lo, hi)]) = true) {y : Nat} (h1 : In lo hi y) : Runs ops [y] (Good six) := by
  obtain ⟨p, l, ho, hg⟩ := last_ok hk
  exact (auto_ok (env := [y]) ops ho ⟨h1, trivial⟩).mono fun e he => good_of hg he
theorem Small.neg {s : Nat} (h : Small s) : Small (negw s) := by
  obtain ⟨n1, n2, _⟩ := negw_facts s h.1
  have n4 := SV_negw s h.1
  have e : SV 14010698440749613056 = -SV 4787326403894837248 := by decide +kernel
  have a1 := h.2.2.1
  have a2 := h.2.2.2
  exact ⟨n1, by have := h.2.1; unfold Fnt at this ⊢; omega, by omega, by omega⟩
/-- Four times a number below two, as an int. -/
theorem quarter {T : Nat} (h : In 0 4611686018427387903 T) : ∃ q n : Nat, Ieee.double.mul T 4616189618054758400 = some q ∧ n ≤ 7 ∧ floatToIntVal .f64 q .i64 = some (n : Int) := by
  have hk : (match auto [(2, .inl 0, .inr 4616189618054758400)] [(0, 4611686018427387903)] with
    | some (z :: _) => decide (SV 0 ≤ SV z.1) && decide (SV z.2 ≤ SV 4620693217682128895)
    | _ => false) = true := by decide +kernel
  split at hk
  · rename_i z l hz
    rw [Bool.and_eq_true, decide_eq_true_eq, decide_eq_true_eq] at hk
    obtain ⟨r, hr, hq⟩ := auto_ok (env := [T]) _ hz ⟨h, trivial⟩
    have hi : In 0 4620693217682128895 r := hq.1.mono hk.1 hk.2
    obtain ⟨n, k, hk, hr', b1, b2⟩ := toInt_fin hi.2.1
    obtain ⟨k', hk', hU⟩ := UK_eq
    obtain rfl : k' = k := by omega
    have a1 := hi.2.2.1
    have a2 := hi.2.2.2
    have a3 : SV 4620693217682128895 < 8 * UK := by decide +kernel
    rw [hU] at a3
    rw [SV0'] at a1
    have hp := Nat.two_pow_pos k'
    obtain ⟨K, hK⟩ : ∃ K, 2 ^ k' = K := ⟨_, rfl⟩
    rw [hK] at a3 b1 b2 hp
    have hv : (V r : Int) = SV r := by
      have := SV_abs r
      omega
    have hn : n ≤ 7 := by
      rcases Nat.lt_or_ge 7 n with h' | h'
      · exfalso
        have c : 8 * K ≤ n * K := Nat.mul_le_mul_right _ h'
        omega
      · exact h'
    have hs : (if sg r = true then -(n : Int) else (n : Int)) = (n : Int) := by
      cases e : sg r
      · rfl
      · have hz : V r = 0 := by
          have := SV_neg e
          omega
        have : n = 0 := by
          rcases Nat.eq_zero_or_pos n with h' | h'
          · exact h'
          · exfalso
            have := Nat.mul_pos h' hp
            omega
        subst this
        rfl
    refine ⟨r, n, hr, hn, ?_⟩
    unfold floatToIntVal
    rw [show FloatKind.f64.decode r = Ieee.double.read r from rfl, hr']
    rw [hs]
    show (if IntKind.i64.min ≤ (n : Int) ∧ (n : Int) ≤ IntKind.i64.max then some (n : Int) else none) = _
    rw [if_pos]
    refine ⟨?_, ?_⟩
    · show (-9223372036854775808 : Int) ≤ _; omega
    · show _ ≤ (9223372036854775807 : Int); omega
  · cases hk
theorem SV52 : SV 4841369599423283200 = 4503599627370496 * UK := by decide +kernel
theorem flr_in {x : Nat} (hx : x < 4841369599423283200) : In 0 4841369599423283200 (flr x) := by
  obtain ⟨n, k, hk, hfl, b1, b2⟩ := flr_pos (x := x) (sg_small (by omega))
  obtain ⟨k', hk', hU⟩ := UK_eq
  obtain rfl : k' = k := by omega
  rw [hfl]
  have h1 : SV x ≤ SV 4841369599423283200 := SV_small (by omega) (by decide)
  rw [SV_pos (sg_small (by omega)), SV52, hU] at h1
  have hp := Nat.two_pow_pos k'
  obtain ⟨K, hK⟩ : ∃ K, 2 ^ k' = K := ⟨_, rfl⟩
  rw [hK] at h1 b1 hp hU
  refine int_in (by decide +kernel) (by decide +kernel) ?_ ?_
  · rw [SV0', hU]
    exact Int.mul_nonneg (by omega) (by omega)
  · rw [SV52, hU]
    have d1 : ((n * K : Nat) : Int) = (n : Int) * K := by push_cast; rfl
    omega
theorem and_one (z : Nat) (h : z < 2 ^ 64) : bits .and .u64 1 (z : Int) = ((z % 2 : Nat) : Int) := by
  have h2 := bits_and_u64_nat 1 z (by decide) h
  refine h2.trans ?_
  rw [Nat.and_comm, Nat.and_one_is_mod]
theorem neq_of {x y : Nat} (hx : Fnt x) (hy : Fnt y) : (FloatKind.f64.format.order x y != some .eq) = !decide (SV x = SV y) := by
  rw [show FloatKind.f64.format.order x y = some (compare (SV x) (SV y)) from order_fin hx hy]
  rcases Int.lt_trichotomy (SV x) (SV y) with h' | h' | h'
  · rw [Int.compare_eq_lt.2 h', decide_eq_false (by omega)]; rfl
  · rw [Int.compare_eq_eq.2 h', decide_eq_true h']; rfl
  · rw [Int.compare_eq_gt.2 h', decide_eq_false (by omega)]; rfl
/-- sinPi of a number from 2^-70 on and below 2^52. -/
theorem sinPi_any (x : Nat) (h1 : 1 ≤ x) (h2 : x < 4841369599423283200) (w : World) (T : Tabs w) : ∃ t, Small t ∧ (4598175219545276416 ≤ x → SV (flr x) = SV x → t = 9223372036854775808) ∧ Calls Tryd.prog 16 #[.float .f64 x] w fun e w' => e = .returned (.float .f64 t) ∧ w' = w := by
  by_cases hlow : x < 4598175219545276416
  · obtain ⟨a, ha, hq⟩ := runs_six (ops := [(2, .inr 4614256656552045848, .inl 0)]) (lo := 0) (hi := 4598175219545276416) (by decide +kernel) (y := x) (in_words (Nat.zero_le _) (by omega) (by decide))
    have h16 := good_six hq rfl
    obtain ⟨s, hs, hc⟩ := Sin_fin a h16 w T
    exact ⟨negw s, hs.neg, fun h => by omega, sinPi_low x a s hlow ha w hc⟩
  · have hge : 4598175219545276416 ≤ x := by omega
    have hfx : Fnt x := by unfold Fnt rung; omega
    have HF := floor_call hfx w
    have hfl := flr_in h2
    have hne := neq_of hfl.2.1 hfx
    by_cases hint : SV (flr x) = SV x
    · rw [decide_eq_true hint] at hne
      have hne' : (FloatKind.f64.format.order (flr x) x != some .eq) = false := hne
      obtain ⟨z2, hz2, hrr⟩ := add_rnd (x := x) (y := 4841369599423283200) hfx (by unfold Fnt rung; decide)
      have hz64 : z2 < 2 ^ 64 := by
        obtain ⟨neg, mag, t, hr, _⟩ := hrr
        rw [hr]
        exact near_lt64 _ _ _
      have hb := and_one z2 hz64
      have hS : Calls Tryd.prog 21 #[.float .f64 0] w fun e w' => e = .returned (.float .f64 0) ∧ w' = w := Sin_call (sin_zero 0 (by decide +kernel) w)
      refine ⟨9223372036854775808, ⟨by decide, by unfold Fnt rung; decide, by decide +kernel, by decide +kernel⟩, fun _ _ => rfl, ?_⟩
      rcases Nat.mod_two_eq_zero_or_one z2 with hm | hm
      · rw [hm] at hb
        exact sinPi_even x (flr x) z2 h2 hge hne' hz2 hb w HF hS
      · rw [hm] at hb
        exact sinPi_odd x (flr x) z2 h2 hge hne' hz2 hb w HF hS
    · rw [decide_eq_false hint] at hne
      have hne' : (FloatKind.f64.format.order (flr x) x != some .eq) = true := hne
      obtain ⟨M, hM, HM⟩ := Mod_any x (by omega) h2 w
      obtain ⟨q, n, hq, hn, hc⟩ := quarter hM
      by_cases n0 : n = 0
      · subst n0
        obtain ⟨a, ea, hg⟩ := runs_six (ops := [(2, .inr 4614256656552045848, .inl 0)]) (lo := 0) (hi := 4611686018427387903) (by decide +kernel) (y := M) hM
        obtain ⟨s, hs, hcl⟩ := Sin_fin a (good_six hg rfl) w T
        exact ⟨_, hs.neg, fun _ h => absurd h hint, sinPi_0 x (flr x) M q a s hge h2 hne' hq hc ea w HF HM hcl⟩
      by_cases n1 : n = 1
      · subst n1
        obtain ⟨b, eb, a, ea, hg⟩ := runs_six (ops := [(1, .inr 4602678819172646912, .inl 0), (2, .inr 4614256656552045848, .inl 0)]) (lo := 0) (hi := 4611686018427387903) (by decide +kernel) (y := M) hM
        obtain ⟨s, hs, hcl⟩ := Cos_fin a (good_six hg rfl) w T
        exact ⟨_, hs.neg, fun _ h => absurd h hint, sinPi_1 x (flr x) M q b a s hge h2 hne' hq hc eb ea w HF HM hcl⟩
      by_cases n2 : n = 2
      · subst n2
        obtain ⟨b, eb, a, ea, hg⟩ := runs_six (ops := [(1, .inr 4602678819172646912, .inl 0), (2, .inr 4614256656552045848, .inl 0)]) (lo := 0) (hi := 4611686018427387903) (by decide +kernel) (y := M) hM
        obtain ⟨s, hs, hcl⟩ := Cos_fin a (good_six hg rfl) w T
        exact ⟨_, hs.neg, fun _ h => absurd h hint, sinPi_2 x (flr x) M q b a s hge h2 hne' hq hc eb ea w HF HM hcl⟩
      by_cases n3 : n = 3
      · subst n3
        obtain ⟨b, eb, a, ea, hg⟩ := runs_six (ops := [(1, .inr 4607182418800017408, .inl 0), (2, .inr 4614256656552045848, .inl 0)]) (lo := 0) (hi := 4611686018427387903) (by decide +kernel) (y := M) hM
        obtain ⟨s, hs, hcl⟩ := Sin_fin a (good_six hg rfl) w T
        exact ⟨_, hs.neg, fun _ h => absurd h hint, sinPi_3 x (flr x) M q b a s hge h2 hne' hq hc eb ea w HF HM hcl⟩
      by_cases n4 : n = 4
      · subst n4
        obtain ⟨b, eb, a, ea, hg⟩ := runs_six (ops := [(1, .inr 4607182418800017408, .inl 0), (2, .inr 4614256656552045848, .inl 0)]) (lo := 0) (hi := 4611686018427387903) (by decide +kernel) (y := M) hM
        obtain ⟨s, hs, hcl⟩ := Sin_fin a (good_six hg rfl) w T
        exact ⟨_, hs.neg, fun _ h => absurd h hint, sinPi_4 x (flr x) M q b a s hge h2 hne' hq hc eb ea w HF HM hcl⟩
      by_cases n5 : n = 5
      · subst n5
        obtain ⟨b, eb, a, ea, hg⟩ := runs_six (ops := [(1, .inl 0, .inr 4609434218613702656), (2, .inr 4614256656552045848, .inl 0)]) (lo := 0) (hi := 4611686018427387903) (by decide +kernel) (y := M) hM
        obtain ⟨s, hs, hcl⟩ := Cos_fin a (good_six hg rfl) w T
        exact ⟨_, hs.neg.neg, fun _ h => absurd h hint, sinPi_5 x (flr x) M q b a s hge h2 hne' hq hc eb ea w HF HM hcl⟩
      by_cases n6 : n = 6
      · subst n6
        obtain ⟨b, eb, a, ea, hg⟩ := runs_six (ops := [(1, .inl 0, .inr 4609434218613702656), (2, .inr 4614256656552045848, .inl 0)]) (lo := 0) (hi := 4611686018427387903) (by decide +kernel) (y := M) hM
        obtain ⟨s, hs, hcl⟩ := Cos_fin a (good_six hg rfl) w T
        exact ⟨_, hs.neg.neg, fun _ h => absurd h hint, sinPi_6 x (flr x) M q b a s hge h2 hne' hq hc eb ea w HF HM hcl⟩
      obtain rfl : n = 7 := by omega
      obtain ⟨b, eb, a, ea, hg⟩ := runs_six (ops := [(1, .inl 0, .inr 4611686018427387904), (2, .inr 4614256656552045848, .inl 0)]) (lo := 0) (hi := 4611686018427387903) (by decide +kernel) (y := M) hM
      obtain ⟨s, hs, hcl⟩ := Sin_fin a (good_six hg rfl) w T
      exact ⟨_, hs.neg, fun _ h => absurd h hint, sinPi_7 x (flr x) M q b a s hge h2 hne' hq hc eb ea w HF HM hcl⟩
end Go.Proofs.YtlemgjlnlegcgaaDoor
