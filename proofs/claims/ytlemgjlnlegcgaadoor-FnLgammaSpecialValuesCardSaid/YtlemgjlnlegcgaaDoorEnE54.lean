/- The bounds of math.Lgamma, path by path. -/
import Derived.Test.YtlemgjlnlegcgaaDoorCv54
import Derived.Test.YtlemgjlnlegcgaaDoorLq54
namespace Go.Proofs.YtlemgjlnlegcgaaDoor
open FL
open Go.Extern
def cutA1_0 : List Nat := [4596072295943909225, 4598175219545276416, 4599301119452119040, 4600427019358961664, 4601552919265804288, 4602678819172646912, 4602765750709460791, 4602852682246274669, 4602939613783088548]
set_option maxRecDepth 100000 in
theorem allA1_0 : allOk (okL opsA1 pos) cutA1_0 = true := by decide +kernel
def cutA1_1 : List Nat := [4602939613783088548, 4603026545319902427, 4603113476856716306, 4603200408393530184, 4603287339930344063, 4603374271467157942, 4603461203003971820, 4603548134540785699, 4603635066077599578]
set_option maxRecDepth 100000 in
theorem allA1_1 : allOk (okL opsA1 pos) cutA1_1 = true := by decide +kernel
def cutA1_2 : List Nat := [4603635066077599578, 4603721997614413456, 4603808929151227335, 4603895860688041214, 4603982792224855093, 4604069723761668971, 4604156655298482850, 4604243586835296729, 4604330518372110607]
set_option maxRecDepth 100000 in
theorem allA1_2 : allOk (okL opsA1 pos) cutA1_2 = true := by decide +kernel
def cutA1_3 : List Nat := [4604330518372110607, 4604417449908924486, 4604504381445738365, 4604591312982552244, 4604678244519366122, 4604765176056180002]
set_option maxRecDepth 100000 in
theorem allA1_3 : allOk (okL opsA1 pos) cutA1_3 = true := by decide +kernel
theorem encA1 {x : Nat} (h1 : 4596072295943909225 ≤ x) (h2 : x < 4604765176056180002) : ∃ L, MathLog.archLog #[.float .f64 x] = pure (.float .f64 L) ∧ Runs opsA1 [L, x] (Good pos) := by
  by_cases c0 : x < 4602939613783088548
  · obtain ⟨c, d, h, a, b⟩ := cover allA1_0 (show 4596072295943909225 ≤ x by omega) (show x < endOf _ _ from c0)
    exact okL_runs h a b
  by_cases c1 : x < 4603635066077599578
  · obtain ⟨c, d, h, a, b⟩ := cover allA1_1 (show 4602939613783088548 ≤ x by omega) (show x < endOf _ _ from c1)
    exact okL_runs h a b
  by_cases c2 : x < 4604330518372110607
  · obtain ⟨c, d, h, a, b⟩ := cover allA1_2 (show 4603635066077599578 ≤ x by omega) (show x < endOf _ _ from c2)
    exact okL_runs h a b
  obtain ⟨c, d, h, a, b⟩ := cover allA1_3 (show 4604330518372110607 ≤ x by omega) (show x < endOf _ _ from h2)
  exact okL_runs h a b
def cutA2_0 : List Nat := [4291930444884082688, 4593671619917905920, 4595923419731591168, 4596072295943909225]
set_option maxRecDepth 100000 in
theorem allA2_0 : allOk (okL opsA2 pos) cutA2_0 = true := by decide +kernel
theorem encA2 {x : Nat} (h1 : 4291930444884082688 ≤ x) (h2 : x < 4596072295943909225) : ∃ L, MathLog.archLog #[.float .f64 x] = pure (.float .f64 L) ∧ Runs opsA2 [L, x] (Good pos) := by
  obtain ⟨c, d, h, a, b⟩ := cover allA2_0 (show 4291930444884082688 ≤ x by omega) (show x < endOf _ _ from h2)
  exact okL_runs h a b
end Go.Proofs.YtlemgjlnlegcgaaDoor
