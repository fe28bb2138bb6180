/- Contracts of funcFmax, funcFmin, their exports, and the law's own helpers. -/
import Derived.Test.YtlemgjlnlegcgaaWords
import Derived.Laws.FloatArith
import Derived.Outline
namespace Go.Proofs.Ytlemgjlnlegcgaa
open Go.RowKit Ieee

theorem val_zero : val (rd 0) = 0 := by decide +kernel
theorem nan_zero : nanB 0 = false := by decide +kernel
theorem neg_val (x : Nat) : (val (rd x) < 0 → negB x = true) ∧ (0 < val (rd x) → negB x = false) := by
  have hb := big_pos
  unfold negB
  cases rd x with
  | number s m i =>
    cases s
    · have e : val (.number false m i) = ((m <<< (i + 1074).toNat : Nat) : Int) := rfl
      rw [e]; generalize m <<< (i + 1074).toNat = M; exact ⟨fun h => by omega, fun _ => rfl⟩
    · have e : val (.number true m i) = -((m <<< (i + 1074).toNat : Nat) : Int) := rfl
      rw [e]; generalize m <<< (i + 1074).toNat = M; exact ⟨fun _ => rfl, fun h => by omega⟩
  | infinity s => cases s <;> simp [val, Datum.neg] <;> omega
  | nan => simp [val]
theorem zero_word (x : Nat) (hx : nanB x = false) (h : x < 18446744073709551616) (hv : val (rd x) = 0) : x = 0 ∨ x = 9223372036854775808 := by
  have hb := big_pos
  rw [rd_def] at hv
  split at hv
  · have : x % 9223372036854775808 = 0 := by
      cases hs : (x / 9223372036854775808 % 2 == 1) <;> rw [hs] at hv <;> simp [val, signed] at hv <;> omega
    omega
  · split at hv
    · exfalso
      simp only [val] at hv
      generalize hk : (-1074 + ((x % 9223372036854775808 / 4503599627370496 - 1 : Nat) : Int) + 1074).toNat = k at hv
      have hp : 0 < (4503599627370496 + x % 9223372036854775808 % 4503599627370496) <<< k := by
        rw [Nat.shiftLeft_eq]; exact Nat.mul_pos (by omega) (Nat.two_pow_pos _)
      unfold signed at hv
      split at hv <;> omega
    · split at hv
      · exfalso
        simp only [val] at hv
        split at hv <;> omega
      · rename_i h1 h2 h3
        exfalso
        have := good_of x hx
        rw [rd_def, if_neg h1, if_neg h2, if_neg h3] at this
        exact this

theorem isNaN_any (x : Nat) (w : World) : Calls Try.prog 8 #[.float .f64 x] w fun e w' => e = .returned (.bool (nanB x)) ∧ w = w' := by
  go_enter Try.func8, Try.ntmps8
  go_wp2
  go_ret
  exact ⟨rfl, rfl⟩
theorem mathNaN_any (x : Nat) (w : World) : Calls Try.prog 12 #[.float .f64 x] w fun e w' => e = .returned (.bool (nanB x)) ∧ w = w' := by
  go_enter Try.func12, Try.ntmps12
  go_wp2
  go_ret
  exact ⟨rfl, rfl⟩

theorem run_max (ts : Array TypeId) (t : TypeId) (x y : Nat) (hx : nanB x = false) (hy : nanB y = false) (w : World) :
    (Builtin.max_ ts t #[.float .f64 x, .float .f64 y]).run Try.prog w = .ok (.float .f64 (maxW x y)) w := by
  have h := ord_key x y hx hy
  unfold maxW
  generalize hc : compare (val (rd x)) (val (rd y)) = c at *
  have h' : FloatKind.f64.format.order x y = some c := h
  rw [h]
  cases c <;> simp [Builtin.max_, Builtin.max2, h'] <;> rfl
theorem run_min (ts : Array TypeId) (t : TypeId) (x y : Nat) (hx : nanB x = false) (hy : nanB y = false) (w : World) :
    (Builtin.min_ ts t #[.float .f64 x, .float .f64 y]).run Try.prog w = .ok (.float .f64 (minW x y)) w := by
  have h := ord_key x y hx hy
  unfold minW
  generalize hc : compare (val (rd x)) (val (rd y)) = c at *
  have h' : FloatKind.f64.format.order x y = some c := h
  rw [h]
  cases c <;> simp [Builtin.min_, Builtin.min2, h'] <;> rfl

theorem ret_float {k : FloatKind} {a b : Nat} (h : a = b) : Ending.returned (.float k a) = .returned (.float k b) := by rw [h]

set_option maxHeartbeats 400000 in
theorem fmax_any (x y : Nat) (w : World) : Calls Try.prog 11 #[.float .f64 x, .float .f64 y] w fun e w' => e = .returned (.float .f64 (fmaxW x y)) ∧ w = w' := by
  unfold fmaxW
  cases hx : nanB x
  · cases hy : nanB y
    · have hr := fun (ts : Array TypeId) (t : TypeId) (W : World) => run_max ts t x y hx hy W
      go_enter Try.func11, Try.ntmps11
      go_wp2_with (go_at_call 12; refine (mathNaN_any _ _).mono ?_; rintro e w' ⟨rfl, rfl⟩)
      go_ret
      exact ⟨rfl, rfl⟩
    · go_enter Try.func11, Try.ntmps11
      go_wp2_with (go_at_call 12; refine (mathNaN_any _ _).mono ?_; rintro e w' ⟨rfl, rfl⟩)
      go_ret
      exact ⟨rfl, rfl⟩
  · go_enter Try.func11, Try.ntmps11
    go_wp2_with (go_at_call 12; refine (mathNaN_any _ _).mono ?_; rintro e w' ⟨rfl, rfl⟩)
    go_ret
    exact ⟨rfl, rfl⟩
set_option maxHeartbeats 400000 in
theorem fmin_any (x y : Nat) (w : World) : Calls Try.prog 10 #[.float .f64 x, .float .f64 y] w fun e w' => e = .returned (.float .f64 (fminW x y)) ∧ w = w' := by
  unfold fminW
  cases hx : nanB x
  · cases hy : nanB y
    · have hr := fun (ts : Array TypeId) (t : TypeId) (W : World) => run_min ts t x y hx hy W
      go_enter Try.func10, Try.ntmps10
      go_wp2_with (go_at_call 12; refine (mathNaN_any _ _).mono ?_; rintro e w' ⟨rfl, rfl⟩)
      go_ret
      exact ⟨rfl, rfl⟩
    · go_enter Try.func10, Try.ntmps10
      go_wp2_with (go_at_call 12; refine (mathNaN_any _ _).mono ?_; rintro e w' ⟨rfl, rfl⟩)
      go_ret
      exact ⟨rfl, rfl⟩
  · go_enter Try.func10, Try.ntmps10
    go_wp2_with (go_at_call 12; refine (mathNaN_any _ _).mono ?_; rintro e w' ⟨rfl, rfl⟩)
    go_ret
    exact ⟨rfl, rfl⟩
theorem zzMax_any (x y : Nat) (w : World) : Calls Try.prog 7 #[.float .f64 x, .float .f64 y] w fun e w' => e = .returned (.float .f64 (fmaxW x y)) ∧ w = w' := by
  go_enter Try.func7, Try.ntmps7
  go_wp2_with (go_at_call 11; refine (fmax_any _ _ _).mono ?_; rintro e w' ⟨rfl, rfl⟩)
  go_ret
  exact ⟨rfl, rfl⟩
theorem zzMin_any (x y : Nat) (w : World) : Calls Try.prog 6 #[.float .f64 x, .float .f64 y] w fun e w' => e = .returned (.float .f64 (fminW x y)) ∧ w = w' := by
  go_enter Try.func6, Try.ntmps6
  go_wp2_with (go_at_call 10; refine (fmin_any _ _ _).mono ?_; rintro e w' ⟨rfl, rfl⟩)
  go_ret
  exact ⟨rfl, rfl⟩

set_option maxHeartbeats 400000 in
theorem sign_any (x : Nat) (w : World) (hx : nanB x = false) (h : x < 18446744073709551616) : Calls Try.prog 9 #[.float .f64 x] w fun e w' => e = .returned (.bool (negB x)) ∧ w = w' := by
  have ho : FloatKind.f64.format.order x 0 = some (compare (val (rd x)) 0) := by
    have := ord_key x 0 hx nan_zero
    rw [val_zero] at this; exact this
  obtain ⟨n1, n2⟩ := neg_val x
  rcases Int.lt_trichotomy (val (rd x)) 0 with hv | hv | hv
  · rw [n1 hv]
    rw [Int.compare_eq_lt.2 hv] at ho
    clear n1 n2 hv hx
    go_enter Try.func9, Try.ntmps9
    go_wp2
    go_ret
    exact ⟨rfl, rfl⟩
  · rw [Int.compare_eq_eq.2 hv] at ho
    rcases zero_word x hx h hv with rfl | rfl
    · have hq : floatBits .quo .f64 4607182418800017408 0 = some 9218868437227405312 := by decide +kernel
      have hr := fun (W : World) => run_float_arith (P := Try.prog) W .quo 22 .f64 _ _ _ hq
      have ho2 : FloatKind.f64.format.order 9218868437227405312 0 = some .gt := by decide +kernel
      have hn : negB 0 = false := by decide +kernel
      rw [hn]
      clear n1 n2 hv hx hq hn h
      go_enter Try.func9, Try.ntmps9
      go_wp2
      go_ret
      exact ⟨rfl, rfl⟩
    · have hq : floatBits .quo .f64 4607182418800017408 9223372036854775808 = some 18442240474082181120 := by decide +kernel
      have hr := fun (W : World) => run_float_arith (P := Try.prog) W .quo 22 .f64 _ _ _ hq
      have ho2 : FloatKind.f64.format.order 18442240474082181120 0 = some .lt := by decide +kernel
      have hn : negB 9223372036854775808 = true := by decide +kernel
      rw [hn]
      clear n1 n2 hv hx hq hn h
      go_enter Try.func9, Try.ntmps9
      go_wp2
      go_ret
      exact ⟨rfl, rfl⟩
  · rw [n2 hv]
    rw [Int.compare_eq_gt.2 hv] at ho
    clear n1 n2 hv hx
    go_enter Try.func9, Try.ntmps9
    go_wp2
    go_ret
    exact ⟨rfl, rfl⟩

set_option maxHeartbeats 400000 in
theorem same_any (x y : Nat) (w : World) (hx : x < 18446744073709551616) (hy : y < 18446744073709551616) (h : sameB x y = true) :
    Calls Try.prog 5 #[.float .f64 x, .float .f64 y] w fun e w' => e = .returned (.bool true) ∧ w = w' := by
  unfold sameB at h
  cases nx : nanB x
  · cases ny : nanB y
    · rw [nx, ny] at h
      simp only [Bool.or_false, Bool.false_eq_true, if_false, Bool.and_eq_true, beq_iff_eq] at h
      obtain ⟨h1, h2⟩ := h
      have ho : FloatKind.f64.format.order x y = some .eq := h1
      clear h1
      have HN := Lib.hid h2
      clear h2
      go_enter Try.func5, Try.ntmps5
      go_wp2_with (first | (go_at_call 8; refine (isNaN_any _ _).mono ?_; rintro e w' ⟨rfl, rfl⟩) | (go_at_call 9; refine (sign_any _ _ (by assumption) (by assumption)).mono ?_; rintro e w' ⟨rfl, rfl⟩))
      go_ret
      exact ⟨ret_bool (by rw [HN.out]; simp), rfl⟩
    · rw [nx, ny] at h; simp at h
  · cases ny : nanB y
    · rw [nx, ny] at h; simp at h
    · clear h
      go_enter Try.func5, Try.ntmps5
      go_wp2_with (go_at_call 8; refine (isNaN_any _ _).mono ?_; rintro e w' ⟨rfl, rfl⟩)
      go_ret
      exact ⟨rfl, rfl⟩

theorem lt_of_wf {x : Nat} (h : (Lit.float .f64 x).wf = true) : x < 18446744073709551616 := by
  simpa [Lit.wf] using h

theorem run_neg (x : Nat) (w : World) : (Op.unary .neg (.float .f64 x)).run Try.prog w = .ok (.float .f64 (negW x)) w := rfl

set_option maxHeartbeats 400000 in
theorem law3 (x y : Nat) (w : World) (hx : x < 18446744073709551616) (hy : y < 18446744073709551616) :
    Calls Try.prog 3 #[.float .f64 x, .float .f64 y] w fun e w' => e = .returned (.bool true) ∧ w = w' := by
  have hm := fmax_lt _ _ (negW_lt x hx) (negW_lt y hy)
  have HS := Lib.hid (fmin_dual x y hx hy hm)
  have h1 := fmin_lt x y hx hy
  have h2 := negW_lt _ hm
  have r1 := fun (W : World) => run_neg x W
  have r2 := fun (W : World) => run_neg y W
  have r3 := fun (W : World) => run_neg (fmaxW (negW x) (negW y)) W
  go_enter Try.func3, Try.ntmps3
  go_wp2_with fail
  refine (zzMin_any x y _).mono ?_
  rintro e w' ⟨rfl, rfl⟩
  go_wp2_with fail
  refine (zzMax_any (negW x) (negW y) _).mono ?_
  rintro e w' ⟨rfl, rfl⟩
  go_wp2_with fail
  refine (same_any _ _ _ h1 h2 HS.out).mono ?_
  rintro e w' ⟨rfl, rfl⟩
  go_wp2_with fail
  go_ret
  exact ⟨rfl, rfl⟩

set_option maxHeartbeats 400000 in
theorem law4 (x y z : Nat) (w : World) (hx : x < 18446744073709551616) (hy : y < 18446744073709551616) (hz : z < 18446744073709551616) :
    Calls Try.prog 4 #[.float .f64 x, .float .f64 y, .float .f64 z] w fun e w' => e = .returned (.bool true) ∧ w = w' := by
  have h1 := fmax_lt x y hx hy
  have h2 := fmax_lt y x hy hx
  have h3 := fmax_lt x x hx hx
  have h4 := fmax_lt y z hy hz
  have h5 := fmax_lt _ z h1 hz
  have h6 := fmax_lt x _ hx h4
  have S1 := Lib.hid (fmax_comm x y)
  have S2 := Lib.hid (fmax_idem x)
  have S3 := Lib.hid (fmax_assoc x y z)
  go_enter Try.func4, Try.ntmps4
  go_wp2_with fail
  refine (zzMax_any x y _).mono ?_
  rintro e w' ⟨rfl, rfl⟩
  go_wp2_with fail
  refine (zzMax_any y x _).mono ?_
  rintro e w' ⟨rfl, rfl⟩
  go_wp2_with fail
  refine (same_any _ _ _ h1 h2 S1.out).mono ?_
  rintro e w' ⟨rfl, rfl⟩
  go_wp2_with fail
  refine (zzMax_any x x _).mono ?_
  rintro e w' ⟨rfl, rfl⟩
  go_wp2_with fail
  refine (same_any _ _ _ h3 hx S2.out).mono ?_
  rintro e w' ⟨rfl, rfl⟩
  go_wp2_with fail
  refine (zzMax_any x y _).mono ?_
  rintro e w' ⟨rfl, rfl⟩
  go_wp2_with fail
  refine (zzMax_any _ z _).mono ?_
  rintro e w' ⟨rfl, rfl⟩
  go_wp2_with fail
  refine (zzMax_any y z _).mono ?_
  rintro e w' ⟨rfl, rfl⟩
  go_wp2_with fail
  refine (zzMax_any x _ _).mono ?_
  rintro e w' ⟨rfl, rfl⟩
  go_wp2_with fail
  refine (same_any _ _ _ h5 h6 S3.out).mono ?_
  rintro e w' ⟨rfl, rfl⟩
  go_wp2_with fail
  go_ret
  exact ⟨rfl, rfl⟩

end Go.Proofs.Ytlemgjlnlegcgaa
