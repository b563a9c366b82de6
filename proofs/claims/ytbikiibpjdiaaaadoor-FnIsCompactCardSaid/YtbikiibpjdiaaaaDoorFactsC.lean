/- Closed facts of the program that every card asks, each by itself. -/
import Derived.Test.YtbikiibpjdiaaaaDoorRows
import Derived.Test.YtbikiibpjdiaaaaDoorCards
import Derived.SevenTiedAt
import Derived.WalkKit
import Derived.ProofKit
namespace Go.Proofs.YtbikiibpjdiaaaaDoor.Facts
open Go
theorem mainIs : Tryd.pinned.checked.prog.mainIs = some (Rows.fnCompactByPassCard.stood.harness.1, Rows.fnCompactByPassCard.stood.harness.2.toList) := by kernel_rfl
theorem looks : Rows.fnCompactByPassCard.stood.looks = Tryd.pinned.checked.prog.looks [] := by kernel_rfl
end Go.Proofs.YtbikiibpjdiaaaaDoor.Facts
