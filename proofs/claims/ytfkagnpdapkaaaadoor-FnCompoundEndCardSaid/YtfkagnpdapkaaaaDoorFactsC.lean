/- Closed facts of the program that every card asks, each by itself. -/
import Derived.Test.YtfkagnpdapkaaaaDoorRows
import Derived.Test.YtfkagnpdapkaaaaDoorCards
import Derived.SevenTiedAt
import Derived.WalkKit
import Derived.ProofKit
namespace Go.Proofs.YtfkagnpdapkaaaaDoor.Facts
open Go
theorem mainIs : Tryd.pinned.checked.prog.mainIs = some (Rows.fnNumberPassedCard.stood.harness.1, Rows.fnNumberPassedCard.stood.harness.2.toList) := by kernel_rfl
theorem looks : Rows.fnNumberPassedCard.stood.looks = Tryd.pinned.checked.prog.looks [] := by kernel_rfl
end Go.Proofs.YtfkagnpdapkaaaaDoor.Facts
