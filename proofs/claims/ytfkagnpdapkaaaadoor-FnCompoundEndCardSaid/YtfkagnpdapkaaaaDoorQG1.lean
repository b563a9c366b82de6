-- Written by a program of this session (wip/tools/myprint.py) out of Lean's own print of the translation.
import Derived.Test.YtfkagnpdapkaaaaDoorQG0
namespace Go.Proofs.YtfkagnpdapkaaaaDoor.QG
open Go.RowKit Go.Proofs.YtfkagnpdapkaaaaDoorW.PrintWords Go.Proofs.YtfkagnpdapkaaaaDoorW.PrintLast Go.Proofs.YtfkagnpdapkaaaaDoorW.PrintMore
attribute [local go_sem] max2_int min2_int max_two min_two max_three min_three max_four min_four   -- for this text's walks alone
open Go.Proofs.YtfkagnpdapkaaaaDoor.Tab
set_option linter.unusedVariables false
set_option linter.unusedSimpArgs false

/-! ### gojson_gatherMask: function 102 -/
def gojson_gatherMask.f (a0 : Int) : Option (Int) := some ((IntKind.u64.wrap ((a0 / 128) * 72624976668147840)) / 72057594037927936)
set_option maxHeartbeats 8000000 in
set_option maxRecDepth 100000 in
theorem gojson_gatherMask.calls (a0 : Int) (r : Int) (w : World) (h : gojson_gatherMask.f a0 = some r) :
    Calls Tryd.prog 102 #[.int .u64 a0] w fun e w' => e = .returned (.int .u64 r) ∧ Drawn0 w w' := by
  have H : (some ((IntKind.u64.wrap ((a0 / 128) * 72624976668147840)) / 72057594037927936)) = some r := h
  clear h
  obtain rfl := Option.some.inj H
  go_enter Tryd.func102, Tryd.ntmps102
  go_wp2
  go_ret
  exact ⟨by first | rfl | (simp; done) | (simp [*]; done) | (simp [wrap64]; done), by repeat (first | exact Drawn0.refl _ | apply Drawn0.step)⟩

end Go.Proofs.YtfkagnpdapkaaaaDoor.QG
