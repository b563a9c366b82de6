/- What the rows' list of package-level tables gives: the table of math/bits holds what Go lays. -/
import Derived.Test.YtfkagnpdapkaaaaDoorTz
import Derived.Test.YtfkagnpdapkaaaaDoorRows
import Derived.LaidMore
namespace Go.Proofs.YtfkagnpdapkaaaaDoor.Laid
open Go.RowKit
abbrev tabs : List (String × DataW Unit) := [("math/bits.deBruijn64tab", Rows.laid_math_bits_deBruijn64tab), ("unicode/utf8.acceptRanges", Rows.laid_unicode_utf8_acceptRanges), ("strconv.isGraphic", Rows.laid_strconv_isGraphic), ("strconv.isNotPrint16", Rows.laid_strconv_isNotPrint16), ("strconv.isNotPrint32", Rows.laid_strconv_isNotPrint32), ("strconv.isPrint16", Rows.laid_strconv_isPrint16), ("strconv.isPrint32", Rows.laid_strconv_isPrint32), ("unicode/utf8.first", Rows.laid_unicode_utf8_first)]
theorem plain {W : World} (h : laidMetH Tryd.prog tabs W) : laidMet Tryd.prog tabs W := by
  rw [MakeChecks.laidMetH_plain _ _ _ (by kernel_rfl)] at h
  exact h
theorem glob {W : World} (h : laidMetH Tryd.prog tabs W) : Tab.Glob W := by
  have h := plain h
  have hT : Lib.TabIs Tryd.prog W "math/bits.deBruijn64tab" .u8 (Lib.deBruijn64tab.map fun n : Nat => (n : Int)) :=
    Lib.tabIs_of_head (g := 0) (t := 34) (e := 5) (n := 64) (by kernel_rfl) (by kernel_rfl) (by kernel_rfl) Tryd.underlying5 (by kernel_rfl) (by kernel_rfl) h
  refine ⟨fun i hi => ?_⟩
  have := hT.cell (g := 0) (by kernel_rfl) i (by rw [List.length_map]; exact hi)
  rw [this]
  congr 2
  simp only [List.getD_eq_getElem?_getD, List.getElem?_map]
  have hl : Lib.deBruijn64tab.length = 64 := rfl
  rw [List.getElem?_eq_getElem (by omega)]
  rfl
end Go.Proofs.YtfkagnpdapkaaaaDoor.Laid
