/- toString, and the law FnConstTermToStringIffPrintedAsString (printed by wip/tools/gen_t41.py). -/
import Derived.Test.YtbdjddgihnmemaaDoorVal41
import Derived.Deep.QuietTactic
import Derived.BigQuiet
namespace Go.Proofs.YtbdjddgihnmemaaDoor
open Go.RowKit

def ToS (ok : Bool) (w : World) (e : Ending) (w' : World) : Prop := (∃ v, e = .returned (.tuple #[v, .bool ok])) ∧ w = w'
set_option maxHeartbeats 1000000 in
set_option maxRecDepth 100000 in
theorem toS_o {t : Nat} {o : Nat} {a n s nl tr fl : Value} {w : World} (ht : Nd t 66 #[.pointer (some ⟨o, 0, none⟩), a, n, s, nl, tr, fl] w) :
    Calls Tryd.prog 35 #[.pointer (some ⟨t, 0, none⟩)] w (ToS false w) := by
  have c0 := ht.cell 0 rfl
  clear ht
  go_enter Tryd.func35, Tryd.ntmps35
  go_wp2_with fail
  go_ret2
  exact ⟨⟨_, rfl⟩, rfl⟩
set_option maxHeartbeats 1000000 in
set_option maxRecDepth 100000 in
theorem toS_a {t : Nat} {o : Nat} {n s nl tr fl : Value} {w : World} (ht : Nd t 66 #[.pointer none, .pointer (some ⟨o, 0, none⟩), n, s, nl, tr, fl] w) :
    Calls Tryd.prog 35 #[.pointer (some ⟨t, 0, none⟩)] w (ToS false w) := by
  have c0 := ht.cell 0 rfl
  have c1 := ht.cell 1 rfl
  clear ht
  go_enter Tryd.func35, Tryd.ntmps35
  go_wp2_with fail
  go_ret2
  exact ⟨⟨_, rfl⟩, rfl⟩
set_option maxHeartbeats 1000000 in
set_option maxRecDepth 100000 in
theorem toS_n {t : Nat} {n : ByteArray} {s nl tr fl : Value} {w : World} (hn : n.size ≠ 0) (ht : Nd t 66 #[.pointer none, .pointer none, .string n, s, nl, tr, fl] w) :
    Calls Tryd.prog 35 #[.pointer (some ⟨t, 0, none⟩)] w (ToS false w) := by
  have c0 := ht.cell 0 rfl
  have c1 := ht.cell 1 rfl
  have c2 := ht.cell 2 rfl
  have hne := ne_empty hn
  clear ht
  go_enter Tryd.func35, Tryd.ntmps35
  go_wp2_with fail
  go_ret2
  exact ⟨⟨_, rfl⟩, rfl⟩
set_option maxHeartbeats 1000000 in
set_option maxRecDepth 100000 in
theorem toS_l {t : Nat} {s tr fl : Value} {w : World} (ht : Nd t 66 #[.pointer none, .pointer none, .string ⟨#[]⟩, s, .bool true, tr, fl] w) :
    Calls Tryd.prog 35 #[.pointer (some ⟨t, 0, none⟩)] w (ToS false w) := by
  have c0 := ht.cell 0 rfl
  have c1 := ht.cell 1 rfl
  have c2 := ht.cell 2 rfl
  have c4 := ht.cell 4 rfl
  clear ht
  go_enter Tryd.func35, Tryd.ntmps35
  go_wp2_with fail
  go_ret2
  exact ⟨⟨_, rfl⟩, rfl⟩
set_option maxHeartbeats 1000000 in
set_option maxRecDepth 100000 in
theorem toS_t {t : Nat} {s fl : Value} {w : World} (ht : Nd t 66 #[.pointer none, .pointer none, .string ⟨#[]⟩, s, .bool false, .bool true, fl] w) :
    Calls Tryd.prog 35 #[.pointer (some ⟨t, 0, none⟩)] w (ToS false w) := by
  have c0 := ht.cell 0 rfl
  have c1 := ht.cell 1 rfl
  have c2 := ht.cell 2 rfl
  have c4 := ht.cell 4 rfl
  have c5 := ht.cell 5 rfl
  clear ht
  go_enter Tryd.func35, Tryd.ntmps35
  go_wp2_with fail
  go_ret2
  exact ⟨⟨_, rfl⟩, rfl⟩
set_option maxHeartbeats 1000000 in
set_option maxRecDepth 100000 in
theorem toS_f {t : Nat} {s : Value} {w : World} (ht : Nd t 66 #[.pointer none, .pointer none, .string ⟨#[]⟩, s, .bool false, .bool false, .bool true] w) :
    Calls Tryd.prog 35 #[.pointer (some ⟨t, 0, none⟩)] w (ToS false w) := by
  have c0 := ht.cell 0 rfl
  have c1 := ht.cell 1 rfl
  have c2 := ht.cell 2 rfl
  have c4 := ht.cell 4 rfl
  have c5 := ht.cell 5 rfl
  have c6 := ht.cell 6 rfl
  clear ht
  go_enter Tryd.func35, Tryd.ntmps35
  go_wp2_with fail
  go_ret2
  exact ⟨⟨_, rfl⟩, rfl⟩
set_option maxHeartbeats 1000000 in
set_option maxRecDepth 100000 in
theorem toS_s {t : Nat} {s : Value} {w : World} (ht : Nd t 66 #[.pointer none, .pointer none, .string ⟨#[]⟩, s, .bool false, .bool false, .bool false] w) :
    Calls Tryd.prog 35 #[.pointer (some ⟨t, 0, none⟩)] w (ToS true w) := by
  have c0 := ht.cell 0 rfl
  have c1 := ht.cell 1 rfl
  have c2 := ht.cell 2 rfl
  have c3 := ht.cell 3 rfl
  have c4 := ht.cell 4 rfl
  have c5 := ht.cell 5 rfl
  have c6 := ht.cell 6 rfl
  clear ht
  go_enter Tryd.func35, Tryd.ntmps35
  go_wp2_with fail
  go_ret2
  exact ⟨⟨_, rfl⟩, rfl⟩
theorem dg_head : ∀ (m u : Nat), u ≤ m → 0 < u → ∃ c r, dg u = c :: r ∧ c ≠ 34 := by
  intro m
  induction m with
  | zero => intro u h1 h2; omega
  | succ m ih =>
    intro u h1 h2
    rw [dg_pos h2]
    by_cases h : u / 10 = 0
    · refine ⟨UInt8.ofNat (48 + u % 10), [], by rw [h, dg_zero]; rfl, fun e => ?_⟩
      have := congrArg UInt8.toNat e
      rw [UInt8.toNat_ofNat'] at this
      have h34 : (34 : UInt8).toNat = 34 := rfl
      omega
    · obtain ⟨c, r, e, hc⟩ := ih (u / 10) (by omega) (by omega)
      exact ⟨c, r ++ [_], by rw [e]; rfl, hc⟩
theorem itoa_head (n : Int) : ∃ c r, itoaL n = c :: r ∧ c ≠ 34 := by
  unfold itoaL
  by_cases h0 : n = 0
  · rw [if_pos h0]; exact ⟨48, [], rfl, by decide⟩
  · rw [if_neg h0]
    by_cases h1 : n < 0
    · rw [if_pos h1]; exact ⟨45, _, rfl, by decide⟩
    · rw [if_neg h1]; exact dg_head _ _ (Nat.le_refl _) (by omega)
theorem dg_le : ∀ (k u : Nat), u < 10 ^ k → (dg u).length ≤ k := by
  intro k
  induction k with
  | zero => intro u h; rw [Nat.pow_zero] at h; obtain rfl : u = 0 := by omega
            rw [dg_zero]; simp
  | succ k ih =>
    intro u h
    by_cases h0 : u = 0
    · rw [h0, dg_zero]; simp
    · rw [dg_pos (by omega), List.length_append]
      have := ih (u / 10) (by rw [Nat.pow_succ] at h; omega)
      simp only [List.length_cons, List.length_nil]; omega
theorem itoa_le (n : Int) (h1 : -9223372036854775808 ≤ n) (h2 : n ≤ 9223372036854775807) : (itoaL n).length ≤ 24 := by
  unfold itoaL
  split
  · simp
  · split
    · have := dg_le 19 (-n).toNat (by omega)
      simp only [List.length_cons]; omega
    · have := dg_le 19 n.toNat (by omega)
      omega
/-- What a flagged term prints and what its toString says. -/
def Says (ok : Bool) (t : Nat) (w : World) : Prop := ∃ (c : UInt8) (r : List UInt8), Prints 34 t Any (c :: r) w ∧ (c :: r).length ≤ 100000000 ∧ (c == 34) = ok ∧ ∀ W, Below w.heap.size w W → Calls Tryd.prog 35 #[.pointer (some ⟨t, 0, none⟩)] W (ToS ok W)
theorem flag_says {obj arr num : Bool} {n : Int} {nl tr fl : Bool} {s : ByteArray} {w w' : World} {e : Ending} (h : Flag obj arr num n nl tr fl s w e w') (hs : s.size ≤ 1048576) (h1 : -9223372036854775808 ≤ n) (h2 : n ≤ 9223372036854775807) :
    ∃ t, e = .returned (.pointer (some ⟨t, 0, none⟩)) ∧ Below w.heap.size w w' ∧ Says (!(obj || arr || num || nl || tr || fl)) t w' := by
  obtain ⟨t, o, a, he, hN, hO, hA, hB⟩ := h
  refine ⟨t, he, hB, ?_⟩
  cases obj with
  | true =>
    exact ⟨123, [125], prints_ctO hN (prints_cobj0 (hO rfl)), by decide, rfl, fun W hW => toS_o (hN.below hW hN.lt)⟩
  | false =>
    cases arr with
    | true => exact ⟨91, [93], prints_ctA hN (prints_carr0 (hA rfl)), by decide, rfl, fun W hW => toS_a (hN.below hW hN.lt)⟩
    | false =>
      cases num with
      | true =>
        obtain ⟨c, r, hc, hne⟩ := itoa_head n
        have hl := itoa_le n h1 h2
        have hz : (⟨(itoaL n).toArray⟩ : ByteArray).size ≠ 0 := by show (itoaL n).toArray.size ≠ 0; rw [List.size_toArray, hc]; simp
        have hp : Prints 34 t Any (ctT ⟨(itoaL n).toArray⟩ s nl tr fl) w' := prints_ct hN (by omega)
        rw [show ctT ⟨(itoaL n).toArray⟩ s nl tr fl = c :: r by unfold ctT; rw [if_pos hz]; exact hc] at hp
        exact ⟨c, r, hp, by rw [← hc]; omega, by simpa using hne, fun W hW => toS_n hz (hN.below hW hN.lt)⟩
      | false =>
        cases nl with
        | true => exact ⟨110, [117, 108, 108], prints_ct hN (by omega), by decide, rfl, fun W hW => toS_l (hN.below hW hN.lt)⟩
        | false =>
          cases tr with
          | true => exact ⟨116, [114, 117, 101], prints_ct hN (by omega), by decide, rfl, fun W hW => toS_t (hN.below hW hN.lt)⟩
          | false =>
            cases fl with
            | true => exact ⟨102, [97, 108, 115, 101], prints_ct hN (by omega), by decide, rfl, fun W hW => toS_f (hN.below hW hN.lt)⟩
            | false =>
              have hq := quoted_len s
              obtain ⟨r, hr⟩ : ∃ r, quoted s = 34 :: r := ⟨_, rfl⟩
              have hp : Prints 34 t Any (ctT ⟨#[]⟩ s false false false) w' := prints_ct hN (by omega)
              rw [show ctT ⟨#[]⟩ s false false false = 34 :: r from hr] at hp
              exact ⟨34, r, hp, by rw [← hr]; omega, rfl, fun W hW => toS_s (hN.below hW hN.lt)⟩
end Go.Proofs.YtbdjddgihnmemaaDoor
