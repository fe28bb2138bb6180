/- The bounds of math.Lgamma, path by path. -/
import Derived.Test.YtlemgjlnlegcgaaDoorCv54
import Derived.Test.YtlemgjlnlegcgaaDoorLq54
namespace Go.Proofs.YtlemgjlnlegcgaaDoor
open FL
open Go.Extern
def cutB3_0 : List Nat := [4607182418800017409, 4607182418800017410, 4607182418800017412, 4607182418800017416, 4607182418800017424, 4607182418800017440, 4607182418800017472, 4607182418800017536, 4607182418800017664]
set_option maxRecDepth 100000 in
theorem allB3_0 : allOk (okX opsB3 neg) cutB3_0 = true := by decide +kernel
def cutB3_1 : List Nat := [4607182418800017664, 4607182418800017920, 4607182418800018432, 4607182418800019456, 4607182418800021504, 4607182418800025600, 4607182418800033792, 4607182418800050176, 4607182418800082944]
set_option maxRecDepth 100000 in
theorem allB3_1 : allOk (okX opsB3 neg) cutB3_1 = true := by decide +kernel
def cutB3_2 : List Nat := [4607182418800082944, 4607182418800148480, 4607182418800279552, 4607182418800541696, 4607182418801065984, 4607182418802114560, 4607182418804211712, 4607182418808406016, 4607182418816794624]
set_option maxRecDepth 100000 in
theorem allB3_2 : allOk (okX opsB3 neg) cutB3_2 = true := by decide +kernel
def cutB3_3 : List Nat := [4607182418816794624, 4607182418833571840, 4607182418867126272, 4607182418934235136, 4607182419068452864, 4607182419336888320, 4607182419873759232, 4607182420947501056, 4607182423094984704]
set_option maxRecDepth 100000 in
theorem allB3_3 : allOk (okX opsB3 neg) cutB3_3 = true := by decide +kernel
def cutB3_4 : List Nat := [4607182423094984704, 4607182427389952000, 4607182435979886592, 4607182453159755776, 4607182487519494144, 4607182556238970880, 4607182693677924352, 4607182968555831296, 4607183518311645184]
set_option maxRecDepth 100000 in
theorem allB3_4 : allOk (okX opsB3 neg) cutB3_4 = true := by decide +kernel
def cutB3_5 : List Nat := [4607183518311645184, 4607184617823272960, 4607186816846528512, 4607191214893039616, 4607200010986061824, 4607217603172106240, 4607252787544195072, 4607323156288372736, 4607463893776728064]
set_option maxRecDepth 100000 in
theorem allB3_5 : allOk (okX opsB3 neg) cutB3_5 = true := by decide +kernel
def cutB3_6 : List Nat := [4607463893776728064, 4607745368753438720, 4608026843730149376, 4608045453256689133]
set_option maxRecDepth 100000 in
theorem allB3_6 : allOk (okX opsB3 neg) cutB3_6 = true := by decide +kernel
theorem encB3 {x : Nat} (h1 : 4607182418800017409 ≤ x) (h2 : x < 4608045453256689133) : Runs opsB3 [x] (Good neg) := by
  by_cases c0 : x < 4607182418800017664
  · obtain ⟨c, d, h, a, b⟩ := cover allB3_0 (show 4607182418800017409 ≤ x by omega) (show x < endOf _ _ from c0)
    exact okX_runs h a b
  by_cases c1 : x < 4607182418800082944
  · obtain ⟨c, d, h, a, b⟩ := cover allB3_1 (show 4607182418800017664 ≤ x by omega) (show x < endOf _ _ from c1)
    exact okX_runs h a b
  by_cases c2 : x < 4607182418816794624
  · obtain ⟨c, d, h, a, b⟩ := cover allB3_2 (show 4607182418800082944 ≤ x by omega) (show x < endOf _ _ from c2)
    exact okX_runs h a b
  by_cases c3 : x < 4607182423094984704
  · obtain ⟨c, d, h, a, b⟩ := cover allB3_3 (show 4607182418816794624 ≤ x by omega) (show x < endOf _ _ from c3)
    exact okX_runs h a b
  by_cases c4 : x < 4607183518311645184
  · obtain ⟨c, d, h, a, b⟩ := cover allB3_4 (show 4607182423094984704 ≤ x by omega) (show x < endOf _ _ from c4)
    exact okX_runs h a b
  by_cases c5 : x < 4607463893776728064
  · obtain ⟨c, d, h, a, b⟩ := cover allB3_5 (show 4607183518311645184 ≤ x by omega) (show x < endOf _ _ from c5)
    exact okX_runs h a b
  obtain ⟨c, d, h, a, b⟩ := cover allB3_6 (show 4607463893776728064 ≤ x by omega) (show x < endOf _ _ from h2)
  exact okX_runs h a b
end Go.Proofs.YtlemgjlnlegcgaaDoor
