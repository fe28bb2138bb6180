/- The tables of unicode/utf8, out of the row's cell 'laid'. -/
import Derived.Test.YthifnfgjebmhjaaDoorMap40
import Derived.Lib.LaidU8
import Derived.Lib.LaidU8T
namespace Go.Proofs.YthifnfgjebmhjaaDoor
open Go.RowKit
theorem u8extra : U8Extra Tryd.prog Tryd.lays260_ren := ⟨by kernel_rfl, by kernel_rfl, by kernel_rfl, by kernel_rfl, by kernel_rfl, by kernel_rfl, by kernel_rfl⟩
theorem tabs_of {l : List (String × DataW Unit)} {w : World} (e : (l.filter fun x => x.2.handleName?.isSome) = []) (m1 : ("unicode/utf8.first", Lib.firstData) ∈ l) (m2 : ("unicode/utf8.acceptRanges", Lib.acceptData) ∈ l)
    (h : laidMetH Tryd.prog l w) : Lib.Utf8Tabs 0 1 w := by
  unfold laidMetH at h
  rw [e] at h
  exact utf8Tabs_of_reads Tryd.lays260 u8extra (Lib.laidMet.reads h m1) (Lib.laidMet.reads h m2)
end Go.Proofs.YthifnfgjebmhjaaDoor
