/- What the rows' lists of package-level tables give: the table of math/bits holds what Go lays. -/
import Derived.Test.YtoigokgechcaiaaDoorTz
import Derived.Test.YtoigokgechcaiaaDoorRows
import Derived.LaidMore
namespace Go.Proofs.YtoigokgechcaiaaDoor.Laid
open Go.RowKit
theorem glob {W : World} (h : laidMetH Tryd.prog [("math/bits.deBruijn64tab", Rows.laid_math_bits_deBruijn64tab)] W) : Tab.Glob W := by
  rw [MakeChecks.laidMetH_plain _ _ _ (by kernel_rfl)] at h
  have hT : Lib.TabIs Tryd.prog W "math/bits.deBruijn64tab" .u8 (Lib.deBruijn64tab.map fun n : Nat => (n : Int)) :=
    Lib.tabIs_of_head (g := 1) (t := 45) (e := 5) (n := 64) (by kernel_rfl) (by kernel_rfl) (by kernel_rfl) Tryd.underlying5 (by kernel_rfl) (by kernel_rfl) h
  refine ⟨fun i hi => ?_⟩
  have := hT.cell (g := 1) (by kernel_rfl) i (by rw [List.length_map]; exact hi)
  rw [this]
  congr 2
  simp only [List.getD_eq_getElem?_getD, List.getElem?_map]
  have hl : Lib.deBruijn64tab.length = 64 := rfl
  rw [List.getElem?_eq_getElem (by omega)]
  rfl
end Go.Proofs.YtoigokgechcaiaaDoor.Laid
