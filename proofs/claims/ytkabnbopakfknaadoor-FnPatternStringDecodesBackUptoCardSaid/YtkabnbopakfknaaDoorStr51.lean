/- A pattern's String method, over a node that prints. -/
import Derived.Test.YtkabnbopakfknaaDoorInd51
namespace Go.Proofs.YtkabnbopakfknaaDoor
open Go.RowKit
set_option linter.unusedVariables false

theorem str_Pat {p : Nat} {T : List UInt8} {w : World} (h : Prt 21 p T w) (hT : Lib.Utf8Tabs 0 1 w) (hlen : T.length ≤ 10000000000) :
    Calls Tryd.prog 9 #[.pointer (some ⟨p, 0, none⟩)] w (Str w T) := by
  have h2 := tabs_size hT
  have hfr := fresh_is w
  have hbw : Below w.heap.size w (w.alloc (.cells #[.pointer none, .slice none 0 0] 73)) := (Below.refl _ _).alloc (Nat.le_refl _) _
  have HC := Lib.hid (h w.heap.size w.heap.size [] (w.alloc (.cells #[.pointer none, .slice none 0 0] 73)) (Pres.below hbw (Nat.le_refl _)) hfr hbw.size h2 (tabs_below hT hbw (by omega) (by omega)) (by simpa using hlen))
  have HB := Lib.hid hbw
  clear h hT hfr hbw
  go_enter Tryd.func9, Tryd.ntmps9
  go_wp2_with fail
  refine HC.out.mono ?_
  rintro e w1 ⟨rfl, hb1, hk1⟩
  have hB1 : w.heap.size ≤ w1.heap.size := Nat.le_trans HB.out.size hk1.size
  clear HC
  go_wp2_with fail
  refine (bString2 hb1 hB1).mono ?_
  rintro e w2 ⟨rfl, hb2, hk2⟩
  go_wp2_with fail
  go_ret
  exact ⟨rfl, HB.out.trans (hk1.1.trans hk2.1)⟩
end Go.Proofs.YtkabnbopakfknaaDoor
