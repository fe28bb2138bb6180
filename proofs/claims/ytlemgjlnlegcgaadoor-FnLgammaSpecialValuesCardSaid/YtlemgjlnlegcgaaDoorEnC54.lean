/- The bounds of math.Lgamma, path by path. -/
import Derived.Test.YtlemgjlnlegcgaaDoorCv54
import Derived.Test.YtlemgjlnlegcgaaDoorLq54
namespace Go.Proofs.YtlemgjlnlegcgaaDoor
open FL
open Go.Extern
def cutB2_0 : List Nat := [4606281698874543310, 4606619468846596096, 4606900943823306752, 4607041681311662080, 4607112050055839744, 4607147234427928576, 4607164826613972992, 4607173622706995200, 4607178020753506304]
set_option maxRecDepth 100000 in
theorem allB2_0 : allOk (okX opsB2 pos) cutB2_0 = true := by decide +kernel
def cutB2_1 : List Nat := [4607178020753506304, 4607180219776761856, 4607181319288389632, 4607181869044203520, 4607182143922110464, 4607182281361063936, 4607182350080540672, 4607182384440279040, 4607182401620148224]
set_option maxRecDepth 100000 in
theorem allB2_1 : allOk (okX opsB2 pos) cutB2_1 = true := by decide +kernel
def cutB2_2 : List Nat := [4607182401620148224, 4607182410210082816, 4607182414505050112, 4607182416652533760, 4607182417726275584, 4607182418263146496, 4607182418531581952, 4607182418665799680, 4607182418732908544]
set_option maxRecDepth 100000 in
theorem allB2_2 : allOk (okX opsB2 pos) cutB2_2 = true := by decide +kernel
def cutB2_3 : List Nat := [4607182418732908544, 4607182418766462976, 4607182418783240192, 4607182418791628800, 4607182418795823104, 4607182418797920256, 4607182418798968832, 4607182418799493120, 4607182418799755264]
set_option maxRecDepth 100000 in
theorem allB2_3 : allOk (okX opsB2 pos) cutB2_3 = true := by decide +kernel
def cutB2_4 : List Nat := [4607182418799755264, 4607182418799886336, 4607182418799951872, 4607182418799984640, 4607182418800001024, 4607182418800009216, 4607182418800013312, 4607182418800015360, 4607182418800016384]
set_option maxRecDepth 100000 in
theorem allB2_4 : allOk (okX opsB2 pos) cutB2_4 = true := by decide +kernel
def cutB2_5 : List Nat := [4607182418800016384, 4607182418800016896, 4607182418800017152, 4607182418800017280, 4607182418800017344, 4607182418800017376, 4607182418800017392, 4607182418800017400, 4607182418800017404]
set_option maxRecDepth 100000 in
theorem allB2_5 : allOk (okX opsB2 pos) cutB2_5 = true := by decide +kernel
def cutB2_6 : List Nat := [4607182418800017404, 4607182418800017406, 4607182418800017408]
set_option maxRecDepth 100000 in
theorem allB2_6 : allOk (okX opsB2 pos) cutB2_6 = true := by decide +kernel
theorem encB2 {x : Nat} (h1 : 4606281698874543310 ≤ x) (h2 : x < 4607182418800017408) : Runs opsB2 [x] (Good pos) := by
  by_cases c0 : x < 4607178020753506304
  · obtain ⟨c, d, h, a, b⟩ := cover allB2_0 (show 4606281698874543310 ≤ x by omega) (show x < endOf _ _ from c0)
    exact okX_runs h a b
  by_cases c1 : x < 4607182401620148224
  · obtain ⟨c, d, h, a, b⟩ := cover allB2_1 (show 4607178020753506304 ≤ x by omega) (show x < endOf _ _ from c1)
    exact okX_runs h a b
  by_cases c2 : x < 4607182418732908544
  · obtain ⟨c, d, h, a, b⟩ := cover allB2_2 (show 4607182401620148224 ≤ x by omega) (show x < endOf _ _ from c2)
    exact okX_runs h a b
  by_cases c3 : x < 4607182418799755264
  · obtain ⟨c, d, h, a, b⟩ := cover allB2_3 (show 4607182418732908544 ≤ x by omega) (show x < endOf _ _ from c3)
    exact okX_runs h a b
  by_cases c4 : x < 4607182418800016384
  · obtain ⟨c, d, h, a, b⟩ := cover allB2_4 (show 4607182418799755264 ≤ x by omega) (show x < endOf _ _ from c4)
    exact okX_runs h a b
  by_cases c5 : x < 4607182418800017404
  · obtain ⟨c, d, h, a, b⟩ := cover allB2_5 (show 4607182418800016384 ≤ x by omega) (show x < endOf _ _ from c5)
    exact okX_runs h a b
  obtain ⟨c, d, h, a, b⟩ := cover allB2_6 (show 4607182418800017404 ≤ x by omega) (show x < endOf _ _ from h2)
  exact okX_runs h a b
end Go.Proofs.YtlemgjlnlegcgaaDoor
