/- The bounds of math.Lgamma, path by path. -/
import Derived.Test.YtlemgjlnlegcgaaDoorCv54
import Derived.Test.YtlemgjlnlegcgaaDoorLq54
namespace Go.Proofs.YtlemgjlnlegcgaaDoor
open FL
open Go.Extern
def cutA0_0 : List Nat := [4604765176056180002, 4604803089126639085, 4604841002197098167, 4604878915267557250, 4604916828338016333, 4604954741408475415, 4604992654478934498, 4605030567549393581, 4605068480619852663]
set_option maxRecDepth 100000 in
theorem allA0_0 : allOk (okL opsA0 pos) cutA0_0 = true := by decide +kernel
def cutA0_1 : List Nat := [4605068480619852663, 4605106393690311746, 4605144306760770829, 4605182219831229911, 4605220132901688994, 4605258045972148077, 4605295959042607159, 4605333872113066242, 4605371785183525325]
set_option maxRecDepth 100000 in
theorem allA0_1 : allOk (okL opsA0 pos) cutA0_1 = true := by decide +kernel
def cutA0_2 : List Nat := [4605371785183525325, 4605409698253984408, 4605447611324443490, 4605485524394902573, 4605523437465361656, 4605561350535820738, 4605599263606279821, 4605637176676738904, 4605675089747197986]
set_option maxRecDepth 100000 in
theorem allA0_2 : allOk (okL opsA0 pos) cutA0_2 = true := by decide +kernel
def cutA0_3 : List Nat := [4605675089747197986, 4605713002817657069, 4605750915888116152, 4605788828958575234, 4605826742029034317, 4605864655099493400, 4605902568169952482, 4605940481240411565, 4605978394310870648]
set_option maxRecDepth 100000 in
theorem allA0_3 : allOk (okL opsA0 pos) cutA0_3 = true := by decide +kernel
def cutA0_4 : List Nat := [4605978394310870648, 4606016307381329730, 4606054220451788813, 4606092133522247896, 4606130046592706978, 4606167959663166061, 4606205872733625144, 4606243785804084226, 4606281698874543310]
set_option maxRecDepth 100000 in
theorem allA0_4 : allOk (okL opsA0 pos) cutA0_4 = true := by decide +kernel
theorem encA0 {x : Nat} (h1 : 4604765176056180002 ≤ x) (h2 : x < 4606281698874543310) : ∃ L, MathLog.archLog #[.float .f64 x] = pure (.float .f64 L) ∧ Runs opsA0 [L, x] (Good pos) := by
  by_cases c0 : x < 4605068480619852663
  · obtain ⟨c, d, h, a, b⟩ := cover allA0_0 (show 4604765176056180002 ≤ x by omega) (show x < endOf _ _ from c0)
    exact okL_runs h a b
  by_cases c1 : x < 4605371785183525325
  · obtain ⟨c, d, h, a, b⟩ := cover allA0_1 (show 4605068480619852663 ≤ x by omega) (show x < endOf _ _ from c1)
    exact okL_runs h a b
  by_cases c2 : x < 4605675089747197986
  · obtain ⟨c, d, h, a, b⟩ := cover allA0_2 (show 4605371785183525325 ≤ x by omega) (show x < endOf _ _ from c2)
    exact okL_runs h a b
  by_cases c3 : x < 4605978394310870648
  · obtain ⟨c, d, h, a, b⟩ := cover allA0_3 (show 4605675089747197986 ≤ x by omega) (show x < endOf _ _ from c3)
    exact okL_runs h a b
  obtain ⟨c, d, h, a, b⟩ := cover allA0_4 (show 4605978394310870648 ≤ x by omega) (show x < endOf _ _ from h2)
  exact okL_runs h a b
end Go.Proofs.YtlemgjlnlegcgaaDoor
