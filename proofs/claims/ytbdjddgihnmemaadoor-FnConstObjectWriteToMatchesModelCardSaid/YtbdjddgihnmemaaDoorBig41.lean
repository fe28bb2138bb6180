/- zzObjArgsTooBig. -/
import Derived.Test.YtbdjddgihnmemaaDoorModel41
namespace Go.Proofs.YtbdjddgihnmemaaDoor
open Go.RowKit

/-- Are the arguments too big? -/
def bigT (ks : List ByteArray) (a b : Nat) : Bool := !(decide (ks.length ≤ 65536) && decide (a ≤ 65536) && decide (b ≤ 65536) && decide (capS (16 * ks.length + tot ks) + 8 * a + 8 * b ≤ 1048576))
set_option maxHeartbeats 2000000 in
set_option maxRecDepth 100000 in
theorem tooBig_any (v1 v2 v3 : Value) (ks : List ByteArray) (xs ys : List Int) (w : World) (h1 : Sl v1 (ks.map Value.string) w) (h2 : Sl v2 (xs.map (Value.int .i64)) w) (h3 : Sl v3 (ys.map (Value.int .i64)) w) (hl : ks.length + tot ks ≤ 1048576) (l2 : xs.length ≤ 1048576) (l3 : ys.length ≤ 1048576) :
    Calls Tryd.prog 9 #[v1, v2, v3] w fun e w' => e = .returned (.bool (bigT ks xs.length ys.length)) ∧ w = w' := by
  have H1 := Lib.hid h1
  obtain ⟨a1, c1, e1, _⟩ := h1
  obtain ⟨a2, c2, e2, _⟩ := h2
  obtain ⟨a3, c3, e3, _⟩ := h3
  rw [List.length_map] at e1 e2 e3
  subst e1 e2 e3
  have l1 : ks.length ≤ 1048576 := by omega
  by_cases n : ks.length ≤ 65536 ∧ xs.length ≤ 65536 ∧ ys.length ≤ 65536
  · obtain ⟨n1, n2, n3⟩ := n
    have HS := Lib.hid (strsBytes_any _ ks w H1.out hl n1)
    have hq2 : capS (16 * ks.length + tot ks) ≤ 1048577 := by unfold capS; split <;> omega
    have HE : Hid (bigT ks xs.length ys.length = decide (1048576 < capS (16 * ks.length + tot ks) + 8 * xs.length + 8 * ys.length)) := Lib.hid (by
      unfold bigT
      rw [decide_eq_true n1, decide_eq_true n2, decide_eq_true n3]
      rw [Bool.eq_iff_iff]; simp)
    obtain ⟨q, hq⟩ : ∃ q, capS (16 * ks.length + tot ks) = q := ⟨_, rfl⟩
    rw [hq] at HS HE hq2
    clear hq
    go_enter Tryd.func9, Tryd.ntmps9
    go_wp2_with fail
    refine HS.out.mono ?_
    rintro e w' ⟨rfl, rfl⟩
    go_wp2_with fail
    go_ret
    exact ⟨ret_bool (by rw [HE.out, Bool.eq_iff_iff]; simp; omega), rfl⟩
  · have HE : Hid (bigT ks xs.length ys.length = true) := Lib.hid (by
      unfold bigT
      simp only [Bool.not_eq_true', Bool.and_eq_false_iff, decide_eq_false_iff_not]
      omega)
    have hor : (65536 < ks.length ∨ 65536 < xs.length) ∨ 65536 < ys.length := by omega
    have hd : ((decide ((65536 : Int) < (ks.length : Int)) || decide ((65536 : Int) < (xs.length : Int))) || decide ((65536 : Int) < (ys.length : Int))) = true := by simp; omega
    clear n
    go_enter Tryd.func9, Tryd.ntmps9
    go_wp2_with fail
    all_goals (go_ret; exact ⟨ret_bool HE.out.symm, rfl⟩)
end Go.Proofs.YtbdjddgihnmemaaDoor
