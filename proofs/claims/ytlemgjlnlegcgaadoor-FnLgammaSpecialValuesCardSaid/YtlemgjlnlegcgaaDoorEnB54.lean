/- The bounds of math.Lgamma, path by path. -/
import Derived.Test.YtlemgjlnlegcgaaDoorCv54
import Derived.Test.YtlemgjlnlegcgaaDoorLq54
namespace Go.Proofs.YtlemgjlnlegcgaaDoor
open FL
open Go.Extern
def cutB0_0 : List Nat := [4610477397055469201, 4610560118520545280, 4611123068473966592, 4611404543450677248, 4611545280939032576, 4611615649683210240, 4611650834055299072, 4611668426241343488, 4611677222334365696]
set_option maxRecDepth 100000 in
theorem allB0_0 : allOk (okX opsB0 neg) cutB0_0 = true := by decide +kernel
def cutB0_1 : List Nat := [4611677222334365696, 4611681620380876800, 4611683819404132352, 4611684918915760128, 4611685468671574016, 4611685743549480960, 4611685880988434432, 4611685949707911168, 4611685984067649536]
set_option maxRecDepth 100000 in
theorem allB0_1 : allOk (okX opsB0 neg) cutB0_1 = true := by decide +kernel
def cutB0_2 : List Nat := [4611685984067649536, 4611686001247518720, 4611686009837453312, 4611686014132420608, 4611686016279904256, 4611686017353646080, 4611686017890516992, 4611686018158952448, 4611686018293170176]
set_option maxRecDepth 100000 in
theorem allB0_2 : allOk (okX opsB0 neg) cutB0_2 = true := by decide +kernel
def cutB0_3 : List Nat := [4611686018293170176, 4611686018360279040, 4611686018393833472, 4611686018410610688, 4611686018418999296, 4611686018423193600, 4611686018425290752, 4611686018426339328, 4611686018426863616]
set_option maxRecDepth 100000 in
theorem allB0_3 : allOk (okX opsB0 neg) cutB0_3 = true := by decide +kernel
def cutB0_4 : List Nat := [4611686018426863616, 4611686018427125760, 4611686018427256832, 4611686018427322368, 4611686018427355136, 4611686018427371520, 4611686018427379712, 4611686018427383808, 4611686018427385856]
set_option maxRecDepth 100000 in
theorem allB0_4 : allOk (okX opsB0 neg) cutB0_4 = true := by decide +kernel
def cutB0_5 : List Nat := [4611686018427385856, 4611686018427386880, 4611686018427387392, 4611686018427387648, 4611686018427387776, 4611686018427387840, 4611686018427387872, 4611686018427387888, 4611686018427387896]
set_option maxRecDepth 100000 in
theorem allB0_5 : allOk (okX opsB0 neg) cutB0_5 = true := by decide +kernel
def cutB0_6 : List Nat := [4611686018427387896, 4611686018427387900, 4611686018427387902, 4611686018427387904]
set_option maxRecDepth 100000 in
theorem allB0_6 : allOk (okX opsB0 neg) cutB0_6 = true := by decide +kernel
theorem encB0 {x : Nat} (h1 : 4610477397055469201 ≤ x) (h2 : x < 4611686018427387904) : Runs opsB0 [x] (Good neg) := by
  by_cases c0 : x < 4611677222334365696
  · obtain ⟨c, d, h, a, b⟩ := cover allB0_0 (show 4610477397055469201 ≤ x by omega) (show x < endOf _ _ from c0)
    exact okX_runs h a b
  by_cases c1 : x < 4611685984067649536
  · obtain ⟨c, d, h, a, b⟩ := cover allB0_1 (show 4611677222334365696 ≤ x by omega) (show x < endOf _ _ from c1)
    exact okX_runs h a b
  by_cases c2 : x < 4611686018293170176
  · obtain ⟨c, d, h, a, b⟩ := cover allB0_2 (show 4611685984067649536 ≤ x by omega) (show x < endOf _ _ from c2)
    exact okX_runs h a b
  by_cases c3 : x < 4611686018426863616
  · obtain ⟨c, d, h, a, b⟩ := cover allB0_3 (show 4611686018293170176 ≤ x by omega) (show x < endOf _ _ from c3)
    exact okX_runs h a b
  by_cases c4 : x < 4611686018427385856
  · obtain ⟨c, d, h, a, b⟩ := cover allB0_4 (show 4611686018426863616 ≤ x by omega) (show x < endOf _ _ from c4)
    exact okX_runs h a b
  by_cases c5 : x < 4611686018427387896
  · obtain ⟨c, d, h, a, b⟩ := cover allB0_5 (show 4611686018427385856 ≤ x by omega) (show x < endOf _ _ from c5)
    exact okX_runs h a b
  obtain ⟨c, d, h, a, b⟩ := cover allB0_6 (show 4611686018427387896 ≤ x by omega) (show x < endOf _ _ from h2)
  exact okX_runs h a b
def cutB1_0 : List Nat := [4608045453256689133, 4608450777223152478, 4608856101189615822, 4609261425156079166, 4609666749122542511, 4610072073089005856, 4610477397055469201]
set_option maxRecDepth 100000 in
theorem allB1_0 : allOk (okX opsB1 neg) cutB1_0 = true := by decide +kernel
theorem encB1 {x : Nat} (h1 : 4608045453256689133 ≤ x) (h2 : x < 4610477397055469201) : Runs opsB1 [x] (Good neg) := by
  obtain ⟨c, d, h, a, b⟩ := cover allB1_0 (show 4608045453256689133 ≤ x by omega) (show x < endOf _ _ from h2)
  exact okX_runs h a b
end Go.Proofs.YtlemgjlnlegcgaaDoor
