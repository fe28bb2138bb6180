/- math.Lgamma of every number that is not negative. -/
import Derived.Test.YtlemgjlnlegcgaaDoorPz54
import Derived.Test.YtlemgjlnlegcgaaDoorEnA54
import Derived.Test.YtlemgjlnlegcgaaDoorEnB54
import Derived.Test.YtlemgjlnlegcgaaDoorEnC54
import Derived.Test.YtlemgjlnlegcgaaDoorEnD54
import Derived.Test.YtlemgjlnlegcgaaDoorEnE54
import Derived.Test.YtlemgjlnlegcgaaDoorEnF54
namespace Go.Proofs.YtlemgjlnlegcgaaDoor
open Go.RowKit
open FL
open Go.Extern
set_option linter.unusedVariables false
set_option linter.unusedSimpArgs false

/-- What Lgamma gives of a positive number. -/
def LgOk (x r : Nat) : Prop := ((x = 4607182418800017408 ∨ x = 4611686018427387904) ∧ r = 0) ∨ ((4607182418800017408 < x ∧ x < 4611686018427387904) ∧ NegR r) ∨ ((x < 4607182418800017408 ∨ 4611686018427387904 < x) ∧ PosR r)
theorem lg_pos (x : Nat) (h1 : 1 ≤ x) (h2 : x < 2047 * 2 ^ 52) (w : World) (T : Tabs w) : ∃ r s, LgOk x r ∧ Calls Tryd.prog 11 #[.float .f64 x] w fun e w' => e = .returned (.tuple #[.float .f64 r, .int .i64 s]) ∧ w' = w := by
  have rp : ∀ {r : Nat} {e : List Nat}, Good pos (r :: e) → PosR r := fun h => (good_pos h rfl).1
  have rn : ∀ {r : Nat} {e : List Nat}, Good neg (r :: e) → NegR r := fun h => good_neg h rfl
  by_cases c0 : x < 4291930444884082688
  · obtain ⟨L, hL, hp, _⟩ := encTiny h1 c0
    exact ⟨_, _, .inr (.inr ⟨.inl (by omega), hp⟩), lgTiny x L h1 c0 hL w⟩
  by_cases c1 : x < 4596072295943909225
  · obtain ⟨r, e, hq, hc⟩ := walkA2 x (by omega) (by omega) w T (encA2 (by omega) c1)
    exact ⟨r, 1, .inr (.inr ⟨.inl (by omega), rp hq⟩), hc⟩
  by_cases c2 : x < 4604765176056180002
  · obtain ⟨r, e, hq, hc⟩ := walkA1 x (by omega) (by omega) w T (encA1 (by omega) c2)
    exact ⟨r, 1, .inr (.inr ⟨.inl (by omega), rp hq⟩), hc⟩
  by_cases c3 : x < 4606281698874543310
  · obtain ⟨r, e, hq, hc⟩ := walkA0 x (by omega) (by omega) w T (encA0 (by omega) c3)
    exact ⟨r, 1, .inr (.inr ⟨.inl (by omega), rp hq⟩), hc⟩
  by_cases c4 : x < 4607182418800017408
  · obtain ⟨r, e, hq, hc⟩ := walkB2 x (by omega) (by omega) w T (encB2 (by omega) c4)
    exact ⟨r, 1, .inr (.inr ⟨.inl (by omega), rp hq⟩), hc⟩
  by_cases c5 : x = 4607182418800017408
  · exact ⟨0, 1, .inl ⟨.inl c5, rfl⟩, lgOne x c5 w⟩
  by_cases c6 : x < 4608045453256689133
  · obtain ⟨r, e, hq, hc⟩ := walkB3 x (by omega) (by omega) w T (encB3 (by omega) c6)
    exact ⟨r, 1, .inr (.inl ⟨⟨by omega, by omega⟩, rn hq⟩), hc⟩
  by_cases c7 : x < 4610477397055469201
  · obtain ⟨r, e, hq, hc⟩ := walkB1 x (by omega) (by omega) w T (encB1 (by omega) c7)
    exact ⟨r, 1, .inr (.inl ⟨⟨by omega, by omega⟩, rn hq⟩), hc⟩
  by_cases c8 : x < 4611686018427387904
  · obtain ⟨r, e, hq, hc⟩ := walkB0 x (by omega) (by omega) w T (encB0 (by omega) c8)
    exact ⟨r, 1, .inr (.inl ⟨⟨by omega, by omega⟩, rn hq⟩), hc⟩
  by_cases c9 : x = 4611686018427387904
  · exact ⟨0, 1, .inl ⟨.inr c9, rfl⟩, lgTwo x c9 w⟩
  have big : x < 4607182418800017408 ∨ 4611686018427387904 < x := .inr (by omega)
  by_cases d2 : x < 4613937818241073152
  · obtain ⟨r, e, hq, hc⟩ := walkC2 x (by omega) (by omega) w T (encC2 (by omega) d2)
    exact ⟨r, 1, .inr (.inr ⟨big, rp hq⟩), hc⟩
  by_cases d3 : x < 4616189618054758400
  · obtain ⟨r, e, hq, hc⟩ := walkC3 x (by omega) (by omega) w T (encC3 (by omega) d3)
    exact ⟨r, 1, .inr (.inr ⟨big, rp hq⟩), hc⟩
  by_cases d4 : x < 4617315517961601024
  · obtain ⟨r, e, hq, hc⟩ := walkC4 x (by omega) (by omega) w T (encC4 (by omega) d4)
    exact ⟨r, 1, .inr (.inr ⟨big, rp hq⟩), hc⟩
  by_cases d5 : x < 4618441417868443648
  · obtain ⟨r, e, hq, hc⟩ := walkC5 x (by omega) (by omega) w T (encC5 (by omega) d5)
    exact ⟨r, 1, .inr (.inr ⟨big, rp hq⟩), hc⟩
  by_cases d6 : x < 4619567317775286272
  · obtain ⟨r, e, hq, hc⟩ := walkC6 x (by omega) (by omega) w T (encC6 (by omega) d6)
    exact ⟨r, 1, .inr (.inr ⟨big, rp hq⟩), hc⟩
  by_cases d7 : x < 4620693217682128896
  · obtain ⟨r, e, hq, hc⟩ := walkC7 x (by omega) (by omega) w T (encC7 (by omega) d7)
    exact ⟨r, 1, .inr (.inr ⟨big, rp hq⟩), hc⟩
  by_cases d8 : x < 4868391197187506176
  · obtain ⟨r, e, hq, hc⟩ := walkD x (by omega) (by omega) w T (encD (by omega) d8)
    exact ⟨r, 1, .inr (.inr ⟨big, rp hq⟩), hc⟩
  · obtain ⟨r, e, hq, hc⟩ := walkE x (by omega) (by omega) w T (encE (by omega) (by omega))
    obtain ⟨r', e', he, hp⟩ := hq
    obtain ⟨rfl, _⟩ := List.cons.inj he
    exact ⟨r, 1, .inr (.inr ⟨big, hp⟩), hc⟩
end Go.Proofs.YtlemgjlnlegcgaaDoor
