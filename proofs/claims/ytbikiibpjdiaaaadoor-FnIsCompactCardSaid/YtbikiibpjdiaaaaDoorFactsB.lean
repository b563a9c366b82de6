/- Closed facts of the program that every row asks, each by itself. -/
import Derived.Test.YtbikiibpjdiaaaaDoorRows
import Derived.LaidMore
import Derived.SevenTiedAt
import Derived.Stop.Joined
import Derived.WalkKit
import Derived.ProofKit
namespace Go.Proofs.YtbikiibpjdiaaaaDoor.Facts
open Go.ChangeShapes Go.WideShapes Go.ChangeAt Go.RowKit
theorem and_t {a b : Bool} (ha : a = true) (hb : b = true) : (a && b) = true := by rw [ha, hb]; rfl
theorem laidOut : laidOutB Tryd.pinned.checked.prog = true := by kernel_rfl
theorem mapsRowed_ : mapsRowed Tryd.pinned.checked.prog = true := by kernel_rfl
theorem stops : (Tryd.pinned.checked.prog.stops == []) = true := by kernel_rfl
theorem stopKnobs : (Tryd.pinned.checked.prog.stopKnobs == []) = true := by kernel_rfl
theorem plainKeys : (Rows.fnCompactByPassRow.plainKeys == Tryd.pinned.checked.prog.plainKeys) = true := by kernel_rfl
theorem stopsHeard : Tryd.pinned.checked.prog.stopsHeard = true := by kernel_rfl
theorem mayEnter : Tryd.pinned.checked.prog.mayEnter = true := by kernel_rfl
theorem lifted : (Rows.fnCompactByPassRow.lifted == Tryd.pinned.checked.prog.liftsFinal) = true := by kernel_rfl
theorem make : (Tryd.pinned.checked.prog.make == some Rows.fnCompactByPassRow.make) = true := by kernel_rfl
end Go.Proofs.YtbikiibpjdiaaaaDoor.Facts
