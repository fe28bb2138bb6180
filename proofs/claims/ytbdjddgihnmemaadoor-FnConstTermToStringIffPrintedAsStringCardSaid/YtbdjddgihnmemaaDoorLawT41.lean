/- The law FnConstTermToStringIffPrintedAsString. -/
import Derived.Test.YtbdjddgihnmemaaDoorToS41
namespace Go.Proofs.YtbdjddgihnmemaaDoor
open Go.RowKit

set_option maxHeartbeats 1000000 in
set_option maxRecDepth 100000 in
theorem bytesT (obj arr num : Bool) (n : Int) (nl tr fl : Bool) (s : ByteArray) (w : World) (hs : s.size ≤ maxLen) :
    Calls Tryd.prog 16 #[.bool obj, .bool arr, .bool num, .int .i64 n, .bool nl, .bool tr, .bool fl, .string s] w fun e w' => e = .returned (.bool (fitT s.size)) ∧ w = w' := by
  unfold maxLen at hs
  by_cases h : s.size ≤ 1048576
  · have hf : Hid (fitT s.size = true) := Lib.hid (by unfold fitT; simpa using h)
    go_enter Tryd.func16, Tryd.ntmps16
    go_wp2_with fail
    go_ret
    exact ⟨by rw [hf.out]; rfl, rfl⟩
  · have hf : Hid (fitT s.size = false) := Lib.hid (by unfold fitT; simpa using h)
    go_enter Tryd.func16, Tryd.ntmps16
    go_wp2_with fail
    go_ret
    exact ⟨by rw [hf.out]; rfl, rfl⟩
theorem zzS_any {t : Nat} {ok : Bool} {w : World} (h : Calls Tryd.prog 35 #[.pointer (some ⟨t, 0, none⟩)] w (ToS ok w)) :
    Calls Tryd.prog 19 #[.pointer (some ⟨t, 0, none⟩)] w (ToS ok w) := by
  have H := Lib.hid h
  clear h
  go_enter Tryd.func19, Tryd.ntmps19
  go_wp2_with fail
  refine H.out.mono ?_
  rintro e w1 ⟨⟨v, rfl⟩, rfl⟩
  go_wp2_with fail
  go_ret2
  exact ⟨⟨_, rfl⟩, rfl⟩
set_option maxHeartbeats 4000000 in
set_option maxRecDepth 100000 in
theorem lawT (obj arr num : Bool) (n : Int) (nl tr fl : Bool) (s : ByteArray) (w : World) (hT : Lib.Utf8Tabs 0 1 w) (hn1 : -9223372036854775808 ≤ n) (hn2 : n ≤ 9223372036854775807) (hs : s.size ≤ maxLen) :
    Calls Tryd.prog 4 #[.bool obj, .bool arr, .bool num, .int .i64 n, .bool nl, .bool tr, .bool fl, .string s] w fun e w' => e = .returned (.bool true) ∧ Below w.heap.size w w' := by
  have HBy := Lib.hid (bytesT obj arr num n nl tr fl s w hs)
  by_cases h : s.size ≤ 1048576
  · have hf : fitT s.size = true := by unfold fitT; simpa using h
    rw [hf] at HBy
    have HF := Lib.hid (flag_any obj arr num n nl tr fl s w hn1 hn2)
    have HT := Lib.hid hT
    clear hf hs hT
    go_enter Tryd.func4, Tryd.ntmps4
    go_wp2_with fail
    refine HBy.out.mono ?_
    rintro e w' ⟨rfl, rfl⟩
    go_wp2_with fail
    refine HF.out.mono ?_
    rintro e w1 hfl
    obtain ⟨t, rfl, hb1, c, r, hp, hlen, hok, hS⟩ := flag_says hfl h hn1 hn2
    have T1 := tabs_below HT.out hb1 (by have := tabs_size HT.out; omega) (by have := tabs_size HT.out; omega)
    have HC := Lib.hid (str_ConstTerm hp trivial T1 (by omega))
    obtain ⟨ok, hok2⟩ : ∃ ok, (!(obj || arr || num || nl || tr || fl)) = ok := ⟨_, rfl⟩
    rw [hok2] at hok hS
    have HS := Lib.hid hS
    clear hp T1 HT HF HBy hS hfl hok2
    go_wp2_with fail
    refine HC.out.mono ?_
    rintro e w2 ⟨rfl, hb2⟩
    obtain ⟨S, hSS⟩ : ∃ S : ByteArray, S = ⟨(c :: r).toArray⟩ := ⟨_, rfl⟩
    rw [← hSS]
    have hz : 0 < S.size := by rw [hSS]; show 0 < (c :: r).toArray.size; simp
    have hz2 : S.size ≤ 100000000 := by rw [hSS]; show (c :: r).toArray.size ≤ _; rw [List.size_toArray]; exact hlen
    have h0 : S[0] = c := by subst hSS; rfl
    have hi : (0 : Int) < (S.size : Int) := by omega
    have HZ := Lib.hid (zzS_any (HS.out w2 hb2))
    have hbE := hb1.trans (hb2.mono hb1.size)
    clear HC HS hSS hlen
    go_wp2_with fail
    refine HZ.out.mono ?_
    rintro e w3 ⟨⟨v, rfl⟩, rfl⟩
    have hc : ((c.toNat : Int) == 34) = ok := by
      rw [← hok, Bool.eq_iff_iff]
      simp only [beq_iff_eq]
      constructor
      · intro h; exact UInt8.toNat_inj.1 (by have h34 : (34 : UInt8).toNat = 34 := rfl; omega)
      · intro h; rw [h]; rfl
    go_wp2_with fail
    go_ret
    exact ⟨ret_bool (by simp), hbE⟩
  · have hf : fitT s.size = false := by unfold fitT; simpa using h
    rw [hf] at HBy
    clear hf hT hs h
    go_enter Tryd.func4, Tryd.ntmps4
    go_wp2_with fail
    refine HBy.out.mono ?_
    rintro e w' ⟨rfl, rfl⟩
    go_wp2_with fail
    go_ret
    exact ⟨rfl, Below.refl _ _⟩
end Go.Proofs.YtbdjddgihnmemaaDoor
