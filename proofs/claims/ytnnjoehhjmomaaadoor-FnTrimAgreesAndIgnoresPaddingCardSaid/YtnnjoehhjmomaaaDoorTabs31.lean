/- The tables of unicode/utf8, unicode.White_Space and strings.asciiSpace, out of the row's cell 'laid'. -/
import Derived.Test.YtnnjoehhjmomaaaDoorTrim31
import Derived.Lib.LaidU8
import Derived.Lib.LaidU8T
namespace Go.Proofs.YtnnjoehhjmomaaaDoor
open Go.RowKit
theorem u8extra : U8Extra Tryd.prog Tryd.lays260_ren := ⟨by kernel_rfl, by kernel_rfl, by kernel_rfl, by kernel_rfl, by kernel_rfl, by kernel_rfl, by kernel_rfl⟩
theorem whextra : WhiteExtra Tryd.prog Tryd.lays199_ren := ⟨by kernel_rfl, by kernel_rfl, by kernel_rfl, by kernel_rfl, by kernel_rfl, by kernel_rfl, by kernel_rfl, by kernel_rfl⟩
def UT (w : World) : Prop := Lib.Utf8Tabs 2 3 w
def WT (w : World) : Prop := Lib.WhiteTab 0 w
def AT (w : World) : Prop := Lib.TabIs Tryd.prog w "strings.asciiSpace" .u8 Lib.asciiSpaceTab
theorem ut_of {l : List (String × DataW Unit)} {w : World} (e : (l.filter fun x => x.2.handleName?.isSome) = []) (m1 : ("unicode/utf8.first", Lib.firstData) ∈ l) (m2 : ("unicode/utf8.acceptRanges", Lib.acceptData) ∈ l)
    (h : laidMetH Tryd.prog l w) : UT w := by
  unfold laidMetH at h
  rw [e] at h
  exact utf8Tabs_of_reads Tryd.lays260 u8extra (Lib.laidMet.reads h m1) (Lib.laidMet.reads h m2)
theorem wt_of {l : List (String × DataW Unit)} {w : World} (e : (l.filter fun x => x.2.handleName?.isSome) = []) (m : ("unicode.White_Space", Lib.whiteData) ∈ l)
    (h : laidMetH Tryd.prog l w) : WT w := by
  unfold laidMetH at h
  rw [e] at h
  exact whiteTab_of_reads Tryd.lays199 whextra (Lib.laidMet.reads h m)
theorem at_of {l : List (String × DataW Unit)} {w : World} (e : (l.filter fun x => x.2.handleName?.isSome) = []) (m : ("strings.asciiSpace", Lib.tabData .u8 Lib.asciiSpaceTab) ∈ l)
    (h : laidMetH Tryd.prog l w) : AT w := by
  unfold laidMetH at h
  rw [e] at h
  obtain ⟨g, t, cs, fuel, p, hg, hty, hvar, hd⟩ := Lib.laidMet.reads h m
  obtain rfl := Option.some.inj ((show Tryd.prog.globalNamed "strings.asciiSpace" = some 1 by kernel_rfl).symm.trans hg)
  obtain rfl := Option.some.inj ((show (Tryd.prog.globals[1]?).map (·.type) = some 45 by kernel_rfl).symm.trans hty)
  unfold AT Lib.TabIs
  rw [hvar, ← Lib.cells_of_tab Tryd.underlying45 Tryd.underlying5 (by kernel_rfl) (by kernel_rfl) hd]
theorem UT.below {w w' : World} (h : UT w) (hb : Below w.heap.size w w') : UT w' := Utf8Tabs_below h hb
theorem WT.below {w w' : World} (h : WT w) (hb : Below w.heap.size w w') : WT w' := WhiteTab_below h hb
theorem AT.below {w w' : World} (h : AT w) (hb : Below w.heap.size w w') : AT w' := by
  have hg : Tryd.prog.globalNamed "strings.asciiSpace" = some 1 := by kernel_rfl
  unfold AT Lib.TabIs World.var? at h ⊢
  rw [hg] at h ⊢
  simp only [Option.bind_some] at h ⊢
  have hlt : 1 < w.heap.size := by
    rcases Nat.lt_or_ge 1 w.heap.size with h' | h'
    · exact h'
    · rw [Array.getElem?_eq_none h'] at h; cases h
  rw [hb.block _ hlt]
  exact h
end Go.Proofs.YtnnjoehhjmomaaaDoor
