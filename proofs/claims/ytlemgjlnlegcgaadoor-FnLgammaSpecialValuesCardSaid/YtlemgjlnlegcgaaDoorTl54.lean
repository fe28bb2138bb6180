/- The tables of math, out of the rows' cells 'laid'. -/
import Derived.Test.YtlemgjlnlegcgaaDoorTb54
import Derived.Test.YtlemgjlnlegcgaaDoorRows
namespace Go.Proofs.YtlemgjlnlegcgaaDoor
open Go.RowKit
set_option linter.unusedSimpArgs false

theorem lt_of_wf {x : Nat} (h : (Lit.float .f64 x).wf = true) : x < 18446744073709551616 := by
  simpa [Lit.wf] using h
theorem mem_eq {l : List (String × DataW Unit)} {n : String} {d d' : DataW Unit} (h : (n, d') ∈ l) (e : d = d') : (n, d) ∈ l := e ▸ h
theorem tabsS {w : World} (h : laidMetH Tryd.prog Rows.fnLgammaSignOnPositiveRealsRow.laid w) : Tabs w :=
  ⟨ftab_of (l := Rows.fnLgammaSignOnPositiveRealsRow.laid) (name := "math._lgamA") (t := 29) (e := 22) (n := 12) (by kernel_rfl) (mem_eq (d' := Rows.laid_math_lgamA) (by repeat (first | exact List.Mem.head _ | apply List.Mem.tail)) (by kernel_rfl)) h (by kernel_rfl) (by kernel_rfl) (by kernel_rfl) (by kernel_rfl) (by kernel_rfl) (by kernel_rfl),
   ftab_of (l := Rows.fnLgammaSignOnPositiveRealsRow.laid) (name := "math._lgamR") (t := 32) (e := 22) (n := 7) (by kernel_rfl) (mem_eq (d' := Rows.laid_math_lgamR) (by repeat (first | exact List.Mem.head _ | apply List.Mem.tail)) (by kernel_rfl)) h (by kernel_rfl) (by kernel_rfl) (by kernel_rfl) (by kernel_rfl) (by kernel_rfl) (by kernel_rfl),
   ftab_of (l := Rows.fnLgammaSignOnPositiveRealsRow.laid) (name := "math._lgamS") (t := 32) (e := 22) (n := 7) (by kernel_rfl) (mem_eq (d' := Rows.laid_math_lgamS) (by repeat (first | exact List.Mem.head _ | apply List.Mem.tail)) (by kernel_rfl)) h (by kernel_rfl) (by kernel_rfl) (by kernel_rfl) (by kernel_rfl) (by kernel_rfl) (by kernel_rfl),
   ftab_of (l := Rows.fnLgammaSignOnPositiveRealsRow.laid) (name := "math._lgamT") (t := 30) (e := 22) (n := 15) (by kernel_rfl) (mem_eq (d' := Rows.laid_math_lgamT) (by repeat (first | exact List.Mem.head _ | apply List.Mem.tail)) (by kernel_rfl)) h (by kernel_rfl) (by kernel_rfl) (by kernel_rfl) (by kernel_rfl) (by kernel_rfl) (by kernel_rfl),
   ftab_of (l := Rows.fnLgammaSignOnPositiveRealsRow.laid) (name := "math._lgamU") (t := 31) (e := 22) (n := 6) (by kernel_rfl) (mem_eq (d' := Rows.laid_math_lgamU) (by repeat (first | exact List.Mem.head _ | apply List.Mem.tail)) (by kernel_rfl)) h (by kernel_rfl) (by kernel_rfl) (by kernel_rfl) (by kernel_rfl) (by kernel_rfl) (by kernel_rfl),
   ftab_of (l := Rows.fnLgammaSignOnPositiveRealsRow.laid) (name := "math._lgamV") (t := 31) (e := 22) (n := 6) (by kernel_rfl) (mem_eq (d' := Rows.laid_math_lgamV) (by repeat (first | exact List.Mem.head _ | apply List.Mem.tail)) (by kernel_rfl)) h (by kernel_rfl) (by kernel_rfl) (by kernel_rfl) (by kernel_rfl) (by kernel_rfl) (by kernel_rfl),
   ftab_of (l := Rows.fnLgammaSignOnPositiveRealsRow.laid) (name := "math._lgamW") (t := 32) (e := 22) (n := 7) (by kernel_rfl) (mem_eq (d' := Rows.laid_math_lgamW) (by repeat (first | exact List.Mem.head _ | apply List.Mem.tail)) (by kernel_rfl)) h (by kernel_rfl) (by kernel_rfl) (by kernel_rfl) (by kernel_rfl) (by kernel_rfl) (by kernel_rfl),
   ftab_of (l := Rows.fnLgammaSignOnPositiveRealsRow.laid) (name := "math._sin") (t := 31) (e := 22) (n := 6) (by kernel_rfl) (mem_eq (d' := Rows.laid_math_sin) (by repeat (first | exact List.Mem.head _ | apply List.Mem.tail)) (by kernel_rfl)) h (by kernel_rfl) (by kernel_rfl) (by kernel_rfl) (by kernel_rfl) (by kernel_rfl) (by kernel_rfl),
   ftab_of (l := Rows.fnLgammaSignOnPositiveRealsRow.laid) (name := "math._cos") (t := 31) (e := 22) (n := 6) (by kernel_rfl) (mem_eq (d' := Rows.laid_math_cos) (by repeat (first | exact List.Mem.head _ | apply List.Mem.tail)) (by kernel_rfl)) h (by kernel_rfl) (by kernel_rfl) (by kernel_rfl) (by kernel_rfl) (by kernel_rfl) (by kernel_rfl)⟩
theorem tabsV {w : World} (h : laidMetH Tryd.prog Rows.fnLgammaSpecialValuesRow.laid w) : Tabs w := tabsS h
end Go.Proofs.YtlemgjlnlegcgaaDoor
