/- What the row of FnIsNumber lays: the table of accepting states. (Laid as <Name>Laid for this claim.) -/
import Derived.Test.YtoigokgechcaiaaDoorNumIsC
import Derived.Test.YtoigokgechcaiaaDoorRows
import Derived.LaidMore
namespace Go.Proofs.YtoigokgechcaiaaDoor.Laid
open Go.RowKit
theorem globAcc {W : World} (h : laidMetH Tryd.prog [("loop.example/pub-g01526/pub/gojsonnum.accepting", Rows.laid_loop_example_pub_g01526_pub_gojsonnum_accepting)] W) : AccT.Glob W := ⟨Dig.laidAcc h⟩
end Go.Proofs.YtoigokgechcaiaaDoor.Laid
