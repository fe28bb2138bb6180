/- The bounds of math.Lgamma, path by path. -/
import Derived.Test.YtlemgjlnlegcgaaDoorCv54
import Derived.Test.YtlemgjlnlegcgaaDoorLq54
namespace Go.Proofs.YtlemgjlnlegcgaaDoor
open FL
open Go.Extern
def cutC2_0 : List Nat := [4611686018427387905, 4611686018427387906, 4611686018427387908, 4611686018427387912, 4611686018427387920, 4611686018427387936, 4611686018427387968, 4611686018427388032, 4611686018427388160]
set_option maxRecDepth 100000 in
theorem allC2_0 : allOk (okX opsC2 pos) cutC2_0 = true := by decide +kernel
def cutC2_1 : List Nat := [4611686018427388160, 4611686018427388416, 4611686018427388928, 4611686018427389952, 4611686018427392000, 4611686018427396096, 4611686018427404288, 4611686018427420672, 4611686018427453440]
set_option maxRecDepth 100000 in
theorem allC2_1 : allOk (okX opsC2 pos) cutC2_1 = true := by decide +kernel
def cutC2_2 : List Nat := [4611686018427453440, 4611686018427518976, 4611686018427650048, 4611686018427912192, 4611686018428436480, 4611686018429485056, 4611686018431582208, 4611686018435776512, 4611686018444165120]
set_option maxRecDepth 100000 in
theorem allC2_2 : allOk (okX opsC2 pos) cutC2_2 = true := by decide +kernel
def cutC2_3 : List Nat := [4611686018444165120, 4611686018460942336, 4611686018494496768, 4611686018561605632, 4611686018695823360, 4611686018964258816, 4611686019501129728, 4611686020574871552, 4611686022722355200]
set_option maxRecDepth 100000 in
theorem allC2_3 : allOk (okX opsC2 pos) cutC2_3 = true := by decide +kernel
def cutC2_4 : List Nat := [4611686022722355200, 4611686027017322496, 4611686035607257088, 4611686052787126272, 4611686087146864640, 4611686155866341376, 4611686293305294848, 4611686568183201792, 4611687117939015680]
set_option maxRecDepth 100000 in
theorem allC2_4 : allOk (okX opsC2 pos) cutC2_4 = true := by decide +kernel
def cutC2_5 : List Nat := [4611687117939015680, 4611688217450643456, 4611690416473899008, 4611694814520410112, 4611703610613432320, 4611721202799476736, 4611756387171565568, 4611826755915743232, 4611967493404098560]
set_option maxRecDepth 100000 in
theorem allC2_5 : allOk (okX opsC2 pos) cutC2_5 = true := by decide +kernel
def cutC2_6 : List Nat := [4611967493404098560, 4612248968380809216, 4612811918334230528, 4613937818241073152]
set_option maxRecDepth 100000 in
theorem allC2_6 : allOk (okX opsC2 pos) cutC2_6 = true := by decide +kernel
theorem encC2 {x : Nat} (h1 : 4611686018427387905 ≤ x) (h2 : x < 4613937818241073152) : Runs opsC2 [x] (Good pos) := by
  by_cases c0 : x < 4611686018427388160
  · obtain ⟨c, d, h, a, b⟩ := cover allC2_0 (show 4611686018427387905 ≤ x by omega) (show x < endOf _ _ from c0)
    exact okX_runs h a b
  by_cases c1 : x < 4611686018427453440
  · obtain ⟨c, d, h, a, b⟩ := cover allC2_1 (show 4611686018427388160 ≤ x by omega) (show x < endOf _ _ from c1)
    exact okX_runs h a b
  by_cases c2 : x < 4611686018444165120
  · obtain ⟨c, d, h, a, b⟩ := cover allC2_2 (show 4611686018427453440 ≤ x by omega) (show x < endOf _ _ from c2)
    exact okX_runs h a b
  by_cases c3 : x < 4611686022722355200
  · obtain ⟨c, d, h, a, b⟩ := cover allC2_3 (show 4611686018444165120 ≤ x by omega) (show x < endOf _ _ from c3)
    exact okX_runs h a b
  by_cases c4 : x < 4611687117939015680
  · obtain ⟨c, d, h, a, b⟩ := cover allC2_4 (show 4611686022722355200 ≤ x by omega) (show x < endOf _ _ from c4)
    exact okX_runs h a b
  by_cases c5 : x < 4611967493404098560
  · obtain ⟨c, d, h, a, b⟩ := cover allC2_5 (show 4611687117939015680 ≤ x by omega) (show x < endOf _ _ from c5)
    exact okX_runs h a b
  obtain ⟨c, d, h, a, b⟩ := cover allC2_6 (show 4611967493404098560 ≤ x by omega) (show x < endOf _ _ from h2)
  exact okX_runs h a b
def cutC3_0 : List Nat := [4613937818241073152, 4616189618054758400]
set_option maxRecDepth 100000 in
theorem allC3_0 : allOk (okZ opsC3 opsC3b pos) cutC3_0 = true := by decide +kernel
theorem encC3 {x : Nat} (h1 : 4613937818241073152 ≤ x) (h2 : x < 4616189618054758400) : Runs opsC3 [x] fun e1 => ∃ z e2, e1 = z :: e2 ∧ ∃ L, MathLog.archLog #[.float .f64 z] = pure (.float .f64 L) ∧ Runs opsC3b (L :: e1) (Good pos) := by
  obtain ⟨c, d, h, a, b⟩ := cover allC3_0 (show 4613937818241073152 ≤ x by omega) (show x < endOf _ _ from h2)
  exact okZ_runs h a b
def cutC4_0 : List Nat := [4616189618054758400, 4617315517961601024]
set_option maxRecDepth 100000 in
theorem allC4_0 : allOk (okZ opsC4 opsC4b pos) cutC4_0 = true := by decide +kernel
theorem encC4 {x : Nat} (h1 : 4616189618054758400 ≤ x) (h2 : x < 4617315517961601024) : Runs opsC4 [x] fun e1 => ∃ z e2, e1 = z :: e2 ∧ ∃ L, MathLog.archLog #[.float .f64 z] = pure (.float .f64 L) ∧ Runs opsC4b (L :: e1) (Good pos) := by
  obtain ⟨c, d, h, a, b⟩ := cover allC4_0 (show 4616189618054758400 ≤ x by omega) (show x < endOf _ _ from h2)
  exact okZ_runs h a b
def cutC5_0 : List Nat := [4617315517961601024, 4618441417868443648]
set_option maxRecDepth 100000 in
theorem allC5_0 : allOk (okZ opsC5 opsC5b pos) cutC5_0 = true := by decide +kernel
theorem encC5 {x : Nat} (h1 : 4617315517961601024 ≤ x) (h2 : x < 4618441417868443648) : Runs opsC5 [x] fun e1 => ∃ z e2, e1 = z :: e2 ∧ ∃ L, MathLog.archLog #[.float .f64 z] = pure (.float .f64 L) ∧ Runs opsC5b (L :: e1) (Good pos) := by
  obtain ⟨c, d, h, a, b⟩ := cover allC5_0 (show 4617315517961601024 ≤ x by omega) (show x < endOf _ _ from h2)
  exact okZ_runs h a b
def cutC6_0 : List Nat := [4618441417868443648, 4619567317775286272]
set_option maxRecDepth 100000 in
theorem allC6_0 : allOk (okZ opsC6 opsC6b pos) cutC6_0 = true := by decide +kernel
theorem encC6 {x : Nat} (h1 : 4618441417868443648 ≤ x) (h2 : x < 4619567317775286272) : Runs opsC6 [x] fun e1 => ∃ z e2, e1 = z :: e2 ∧ ∃ L, MathLog.archLog #[.float .f64 z] = pure (.float .f64 L) ∧ Runs opsC6b (L :: e1) (Good pos) := by
  obtain ⟨c, d, h, a, b⟩ := cover allC6_0 (show 4618441417868443648 ≤ x by omega) (show x < endOf _ _ from h2)
  exact okZ_runs h a b
def cutC7_0 : List Nat := [4619567317775286272, 4620693217682128896]
set_option maxRecDepth 100000 in
theorem allC7_0 : allOk (okZ opsC7 opsC7b pos) cutC7_0 = true := by decide +kernel
theorem encC7 {x : Nat} (h1 : 4619567317775286272 ≤ x) (h2 : x < 4620693217682128896) : Runs opsC7 [x] fun e1 => ∃ z e2, e1 = z :: e2 ∧ ∃ L, MathLog.archLog #[.float .f64 z] = pure (.float .f64 L) ∧ Runs opsC7b (L :: e1) (Good pos) := by
  obtain ⟨c, d, h, a, b⟩ := cover allC7_0 (show 4619567317775286272 ≤ x by omega) (show x < endOf _ _ from h2)
  exact okZ_runs h a b
def cutD_0 : List Nat := [4620693217682128896, 4868391197187506176]
set_option maxRecDepth 100000 in
theorem allD_0 : allOk (okL opsD pos) cutD_0 = true := by decide +kernel
theorem encD {x : Nat} (h1 : 4620693217682128896 ≤ x) (h2 : x < 4868391197187506176) : ∃ L, MathLog.archLog #[.float .f64 x] = pure (.float .f64 L) ∧ Runs opsD [L, x] (Good pos) := by
  obtain ⟨c, d, h, a, b⟩ := cover allD_0 (show 4620693217682128896 ≤ x by omega) (show x < endOf _ _ from h2)
  exact okL_runs h a b
end Go.Proofs.YtlemgjlnlegcgaaDoor
