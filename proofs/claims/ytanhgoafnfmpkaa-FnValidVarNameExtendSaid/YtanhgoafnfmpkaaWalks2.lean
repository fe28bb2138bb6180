/- Contracts of scanIdentOrModule, of the exports, and of the law's own helpers. -/
import Derived.Test.YtanhgoafnfmpkaaWalks
namespace Go.Proofs.Ytanhgoafnfmpkaa
open Go.RowKit

theorem Scan.trans {b j k : Nat} {src src' : ByteArray} {w w1 w2 : World} (h : Scan b src j w w1) (h' : Scan b src' k w1 w2) : Scan b src' k w w2 :=
  ⟨h'.1, h.2.1.trans h'.2.1, h'.2.2.trans h.2.2⟩
theorem Scan.refl {b j : Nat} {src : ByteArray} {w : World} (h : At b src j w) : Scan b src j w w := ⟨h, Below.refl _ _, rfl⟩
theorem Scan.set {b k : Nat} {src : ByteArray} {w w1 : World} (h : Scan b src k w w1) (j : Nat) (v : Int) (hv : v = j) : Scan b src j w (w1.setCell ⟨b, 1, none⟩ (.int .i64 v)) := by
  subst hv
  exact ⟨h.1.set j, h.2.1.setCell (Nat.le_refl _) _, by rw [World.size_setCell]; exact h.2.2⟩

theorem peek_s (b k : Nat) (src : ByteArray) (w : World) (h : At b src k w) (hk : k ≤ src.size) :
    Calls Try.prog 23 #[.pointer (some ⟨b, 0, none⟩)] w fun e w' => e = .returned (.int .u8 (at0 src k)) ∧ Scan b src k w w' :=
  (peek_any b k src w h hk).mono fun e w' ⟨he, n, hw⟩ => ⟨he, by subst hw; exact ⟨h.drewN n, below_drewN (Below.refl _ _) n, rfl⟩⟩

def modIdx (s : ByteArray) (k : Nat) : Nat × Bool :=
  if at0 s (scanEnd s k) = 58 ∧ at0 s (scanEnd s k + 1) = 58 ∧ identB (at0 s (scanEnd s k + 2)) false = true then (scanEnd s (scanEnd s k + 3), true) else (scanEnd s k, false)

theorem lt_of_at0 {s : ByteArray} {k : Nat} {c : Int} (h : at0 s k = c) (hc : c ≠ 0) : k < s.size := by
  rcases Nat.lt_or_ge k s.size with h1 | h1
  · exact h1
  · rw [at0_end s k h1] at h; exact absurd h.symm hc
theorem lt_of_ident {s : ByteArray} {k : Nat} {t : Bool} (h : identB (at0 s k) t = true) : k < s.size := by
  rcases Nat.lt_or_ge k s.size with h1 | h1
  · exact h1
  · rw [at0_end s k h1, ident0] at h; cases h

theorem scan_j (b k : Nat) (src : ByteArray) (w : World) (h : At b src k w) (hk : k ≤ src.size) (hs : src.size ≤ 1048577) (j : Nat) (hj : scanEnd src k = j) :
    Calls Try.prog 21 #[.pointer (some ⟨b, 0, none⟩)] w fun e w' => e = .returned (.int .i64 j) ∧ Scan b src j w w' := by
  subst hj; exact scan_any b k src w h hk hs

set_option maxHeartbeats 1000000 in
theorem module_A (b k : Nat) (src : ByteArray) (w : World) (h : At b src k w) (hk : k ≤ src.size) (hs : src.size ≤ 1048577) (j : Nat) (hj : scanEnd src k = j) (h1 : (at0 src (j) == 58) = false) :
    Calls Try.prog 22 #[.pointer (some ⟨b, 0, none⟩)] w fun e w' => e = .returned (.tuple #[.int .i64 (j), .bool false]) ∧ Scan b src (j) w w' := by
  have H := Lib.hid h
  have HJ := Lib.hid hj
  have hle : j ≤ src.size := by rw [← hj]; exact end_le src k hk
  clear h hj
  go_enter Try.func22, Try.ntmps22
  go_wp2_with fail
  refine (scan_j b k src _ H.out hk hs j HJ.out).mono ?_
  rintro e w1 ⟨rfl, s1⟩
  go_wp2_with fail
  refine (peek_s b j src _ s1.1 hle).mono ?_
  rintro e w2 ⟨rfl, s2⟩
  have s12 := s1.trans s2
  have c2 := s2.1.c1
  have f2 := s2.1.f1
  clear s1 s2
  go_wp2_with fail
  go_ret2
  exact ⟨rfl, s12⟩

set_option maxHeartbeats 1000000 in
theorem module_B (b k : Nat) (src : ByteArray) (w : World) (h : At b src k w) (hk : k ≤ src.size) (hs : src.size ≤ 1048577) (j : Nat) (hj : scanEnd src k = j) (h1 : (at0 src (j) == 58) = true) (h2 : (at0 src (j + 1) == 58) = false) :
    Calls Try.prog 22 #[.pointer (some ⟨b, 0, none⟩)] w fun e w' => e = .returned (.tuple #[.int .i64 (j), .bool false]) ∧ Scan b src (j) w w' := by
  have g1 : j < src.size := lt_of_at0 (c := 58) (by simpa using h1) (by decide)
  have H := Lib.hid h
  have HJ := Lib.hid hj
  have hle : j ≤ src.size := by rw [← hj]; exact end_le src k hk
  clear h hj
  go_enter Try.func22, Try.ntmps22
  go_wp2_with fail
  refine (scan_j b k src _ H.out hk hs j HJ.out).mono ?_
  rintro e w1 ⟨rfl, s1⟩
  go_wp2_with fail
  refine (peek_s b j src _ s1.1 hle).mono ?_
  rintro e w2 ⟨rfl, s2⟩
  have s12 := s1.trans s2
  have c2 := s2.1.c1
  have f2 := s2.1.f1
  clear s1 s2
  go_wp2_with fail
  refine (peek_s b (j + 1) src _ (s12.set (j + 1) _ (by omega)).1 (by omega)).mono ?_
  rintro e w3 ⟨rfl, s3⟩
  have s13 := (s12.set (j + 1) (↑j + 1) (by omega)).trans s3
  have c3 := s3.1.c1
  have f3 := s3.1.f1
  clear s12 s3 c2 f2
  go_wp2_with fail
  go_ret2
  exact ⟨rfl, s13.set j _ (by omega)⟩

set_option maxHeartbeats 1000000 in
theorem module_C (b k : Nat) (src : ByteArray) (w : World) (h : At b src k w) (hk : k ≤ src.size) (hs : src.size ≤ 1048577) (j : Nat) (hj : scanEnd src k = j) (h1 : (at0 src (j) == 58) = true) (h2 : (at0 src (j + 1) == 58) = true) (h3 : identB (at0 src (j + 1 + 1)) false = false) :
    Calls Try.prog 22 #[.pointer (some ⟨b, 0, none⟩)] w fun e w' => e = .returned (.tuple #[.int .i64 (j), .bool false]) ∧ Scan b src (j) w w' := by
  have g1 : j < src.size := lt_of_at0 (c := 58) (by simpa using h1) (by decide)
  have g2 : j + 1 < src.size := lt_of_at0 (c := 58) (by simpa using h2) (by decide)
  have H := Lib.hid h
  have HJ := Lib.hid hj
  have hle : j ≤ src.size := by rw [← hj]; exact end_le src k hk
  clear h hj
  go_enter Try.func22, Try.ntmps22
  go_wp2_with fail
  refine (scan_j b k src _ H.out hk hs j HJ.out).mono ?_
  rintro e w1 ⟨rfl, s1⟩
  go_wp2_with fail
  refine (peek_s b j src _ s1.1 hle).mono ?_
  rintro e w2 ⟨rfl, s2⟩
  have s12 := s1.trans s2
  have c2 := s2.1.c1
  have f2 := s2.1.f1
  clear s1 s2
  go_wp2_with fail
  refine (peek_s b (j + 1) src _ (s12.set (j + 1) _ (by omega)).1 (by omega)).mono ?_
  rintro e w3 ⟨rfl, s3⟩
  have s13 := (s12.set (j + 1) (↑j + 1) (by omega)).trans s3
  have c3 := s3.1.c1
  have f3 := s3.1.f1
  clear s12 s3 c2 f2
  go_wp2_with fail
  refine (peek_s b (j + 1 + 1) src _ (s13.set (j + 1 + 1) _ (by omega)).1 (by omega)).mono ?_
  rintro e w4 ⟨rfl, s4⟩
  have s14 := (s13.set (j + 1 + 1) (↑(j + 1) + 1) (by omega)).trans s4
  have c4 := s4.1.c1
  have f4 := s4.1.f1
  clear s13 s4 c3 f3
  go_wp2_with fail
  refine (isIdent_any _ _ _).mono ?_
  rintro e w' ⟨rfl, rfl⟩
  go_wp2_with fail
  go_ret2
  exact ⟨rfl, s14.set j _ (by omega)⟩

set_option maxHeartbeats 1000000 in
theorem module_D (b k : Nat) (src : ByteArray) (w : World) (h : At b src k w) (hk : k ≤ src.size) (hs : src.size ≤ 1048577) (j : Nat) (hj : scanEnd src k = j) (r : Nat) (hr : scanEnd src (j + 1 + 1 + 1) = r) (h1 : (at0 src (j) == 58) = true) (h2 : (at0 src (j + 1) == 58) = true) (h3 : identB (at0 src (j + 1 + 1)) false = true) :
    Calls Try.prog 22 #[.pointer (some ⟨b, 0, none⟩)] w fun e w' => e = .returned (.tuple #[.int .i64 r, .bool true]) ∧ Scan b src r w w' := by
  have g1 : j < src.size := lt_of_at0 (c := 58) (by simpa using h1) (by decide)
  have g2 : j + 1 < src.size := lt_of_at0 (c := 58) (by simpa using h2) (by decide)
  have g3 : j + 1 + 1 < src.size := lt_of_ident h3
  have H := Lib.hid h
  have HJ := Lib.hid hj
  have hle : j ≤ src.size := by rw [← hj]; exact end_le src k hk
  have HR := Lib.hid hr
  clear h hj hr
  go_enter Try.func22, Try.ntmps22
  go_wp2_with fail
  refine (scan_j b k src _ H.out hk hs j HJ.out).mono ?_
  rintro e w1 ⟨rfl, s1⟩
  go_wp2_with fail
  refine (peek_s b j src _ s1.1 hle).mono ?_
  rintro e w2 ⟨rfl, s2⟩
  have s12 := s1.trans s2
  have c2 := s2.1.c1
  have f2 := s2.1.f1
  clear s1 s2
  go_wp2_with fail
  refine (peek_s b (j + 1) src _ (s12.set (j + 1) _ (by omega)).1 (by omega)).mono ?_
  rintro e w3 ⟨rfl, s3⟩
  have s13 := (s12.set (j + 1) (↑j + 1) (by omega)).trans s3
  have c3 := s3.1.c1
  have f3 := s3.1.f1
  clear s12 s3 c2 f2
  go_wp2_with fail
  refine (peek_s b (j + 1 + 1) src _ (s13.set (j + 1 + 1) _ (by omega)).1 (by omega)).mono ?_
  rintro e w4 ⟨rfl, s4⟩
  have s14 := (s13.set (j + 1 + 1) (↑(j + 1) + 1) (by omega)).trans s4
  have c4 := s4.1.c1
  have f4 := s4.1.f1
  clear s13 s4 c3 f3
  go_wp2_with fail
  refine (isIdent_any _ _ _).mono ?_
  rintro e w' ⟨rfl, rfl⟩
  go_wp2_with fail
  refine (scan_j b (j + 1 + 1 + 1) src _ (s14.set (j + 1 + 1 + 1) _ (by omega)).1 (by omega) hs r HR.out).mono ?_
  rintro e w5 ⟨rfl, s5⟩
  have s15 := (s14.set (j + 1 + 1 + 1) (↑(j + 1 + 1) + 1) (by omega)).trans s5
  clear s14 s5 c4 f4
  go_wp2_with fail
  go_ret2
  exact ⟨rfl, s15⟩

theorem module_any (b k : Nat) (src : ByteArray) (w : World) (h : At b src k w) (hk : k ≤ src.size) (hs : src.size ≤ 1048577) :
    Calls Try.prog 22 #[.pointer (some ⟨b, 0, none⟩)] w fun e w' => e = .returned (.tuple #[.int .i64 (modIdx src k).1, .bool (modIdx src k).2]) ∧ Scan b src (modIdx src k).1 w w' := by
  by_cases h1 : at0 src (scanEnd src k) = 58
  · by_cases h2 : at0 src (scanEnd src k + 1) = 58
    · by_cases h3 : identB (at0 src (scanEnd src k + 2)) false = true
      · have e : modIdx src k = (scanEnd src (scanEnd src k + 3), true) := if_pos ⟨h1, h2, h3⟩
        rw [e]
        exact module_D b k src w h hk hs _ rfl _ rfl (by simpa using h1) (by simpa using h2) h3
      · have e : modIdx src k = (scanEnd src k, false) := if_neg (fun x => h3 x.2.2)
        rw [e]
        exact module_C b k src w h hk hs _ rfl (by simpa using h1) (by simpa using h2) (by simpa using h3)
    · have e : modIdx src k = (scanEnd src k, false) := if_neg (fun x => h2 x.2.1)
      rw [e]
      exact module_B b k src w h hk hs _ rfl (by simpa using h1) (by simpa using h2)
  · have e : modIdx src k = (scanEnd src k, false) := if_neg (fun x => h1 x.1)
    rw [e]
    exact module_A b k src w h hk hs _ rfl (by simpa using h1)

end Go.Proofs.Ytanhgoafnfmpkaa
