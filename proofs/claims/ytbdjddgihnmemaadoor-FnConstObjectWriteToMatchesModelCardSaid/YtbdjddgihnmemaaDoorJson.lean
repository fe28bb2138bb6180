/- jsonEncodeString. -/
import Derived.Test.YtbdjddgihnmemaaDoorEncW
import Derived.Test.YtbdjddgihnmemaaDoorMade
namespace Go.Proofs.YtbdjddgihnmemaaDoor
open Go.RowKit

theorem encZ : ∃ zs : Array Value, (∀ w : World, (zeroValue 84).run Tryd.prog w = .ok (.agg zs) w) ∧ zs.size = 65 := ⟨(Value.nilIface :: List.replicate 64 (Value.int .u8 0)).toArray, fun w => by kernel_rfl, by simp⟩
set_option maxRecDepth 100000 in
/-- jsonEncodeString. -/
theorem json_any (s : ByteArray) (pre : List UInt8) (B b : Nat) (w : World) (hs : s.size ≤ 10000000) (hpre : pre.length ≤ 100000000000) (hb : BIs B b pre w) (hB : B ≤ w.heap.size) (hB2 : 2 ≤ B) (hT : Lib.Utf8Tabs 0 1 w) :
    Calls Tryd.prog 40 #[.pointer (some ⟨b, 0, none⟩), .string s] w fun e w' => e = .returned (.tuple #[]) ∧ BAt B b (pre ++ quoted s) w' ∧ Kept B b w w' := by
  have HS := Lib.hid hs
  have HP := Lib.hid hpre
  clear hs hpre
  have hlt := hb.lt
  obtain ⟨zs, hzs, hsz⟩ := encZ
  have hzne : ¬ zs = #[] := by intro h; rw [h] at hsz; simp at hsz
  go_enter Tryd.func40, Tryd.ntmps40
  go_wp2_with fail
  refine (encode_any s pre B b w.heap.size _ HS.out HP.out (hb.alloc _) (by rw [size_alloc]; omega) hB2 (by exact ⟨_, _, heap_alloc_at _ _, by simp [hsz]⟩) (by omega) (tabs_below hT ((Below.refl w.heap.size w).alloc (Nat.le_refl _) _) (by omega) (by omega))).mono ?_
  rintro e w1 ⟨rfl, hb1, hk1⟩
  go_wp2_with fail
  go_end0
  exact ⟨rfl, hb1, (Kept.alloc B b w hB _).trans hk1⟩

end Go.Proofs.YtbdjddgihnmemaaDoor
