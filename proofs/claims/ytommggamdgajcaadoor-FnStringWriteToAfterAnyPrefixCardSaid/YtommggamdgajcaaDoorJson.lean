/- jsonEncodeString. -/
import Derived.Test.YtommggamdgajcaaDoorEncW
import Derived.Test.YtommggamdgajcaaDoorMade
namespace Go.Proofs.YtommggamdgajcaaDoor
open Go.RowKit

set_option maxRecDepth 100000 in
/-- jsonEncodeString. -/
theorem json_any (s : ByteArray) (pre : List UInt8) (B b : Nat) (w : World) (hs : s.size ≤ 10000000) (hpre : pre.length ≤ 100000000000) (hb : BIs B b pre w) (hB : B ≤ w.heap.size) (hB2 : 2 ≤ B) (hT : Lib.Utf8Tabs 0 1 w) :
    Calls Tryd.prog 38 #[.pointer (some ⟨b, 0, none⟩), .string s] w fun e w' => e = .returned (.tuple #[]) ∧ BAt B b (pre ++ quoted s) w' ∧ Kept B b w w' := by
  have HS := Lib.hid hs
  have HP := Lib.hid hpre
  clear hs hpre
  have hlt := hb.lt
  go_enter Tryd.func38, Tryd.ntmps38
  go_wp2_with fail
  refine (encode_any s pre B b w.heap.size _ HS.out HP.out (hb.alloc _) (by rw [size_alloc]; omega) hB2 ⟨_, _, heap_alloc_at _ _, rfl⟩ (by omega) (tabs_below hT ((Below.refl w.heap.size w).alloc (Nat.le_refl _) _) (by omega) (by omega))).mono ?_
  rintro e w1 ⟨rfl, hb1, hk1⟩
  go_wp2_with fail
  go_end0
  exact ⟨rfl, hb1, (Kept.alloc B b w hB _).trans hk1⟩

set_option maxRecDepth 100000 in
/-- A string without interpolations. -/
theorem prints_string_lit {x : Nat} {s : ByteArray} {w : World} (hx : Nd x 26 #[.string s, .slice none 0 0] w) (hs : s.size ≤ 10000000) : Prints 30 x Any (quoted s) w := by
  intro B b pre w0 hp hb hB hB2 hT hok hlen
  have hx0 := hx.pres hp (by decide) (by decide)
  have c0 := hx0.cell 0 rfl
  have c1 := hx0.cell 1 rfl
  have hnil := fun (w : World) (a : Option Addr) (n c n' c' : Nat) => Lib.run_eql_slice_nil (P := Tryd.prog) w 24 41 a n c n' c' Tryd.underlying24
  have HC := Lib.hid (json_any s pre B b w0 hs (by omega) hb hB hB2 hT)
  clear hx0 hx hp hT hok hlen hs hb hB hB2
  go_enter Tryd.func30, Tryd.ntmps30
  go_wp2_with fail
  refine HC.out.mono ?_
  rintro e w1 ⟨rfl, hb1, hk1⟩
  go_wp2_with fail
  exact bodyPost_ret (results_none rfl _ _ _) rfl ⟨rfl, hb1, hk1⟩
end Go.Proofs.YtommggamdgajcaaDoor
