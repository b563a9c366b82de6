-- Written by a program of this session (wip/tools/myprint.py) out of Lean's own print of the translation.
import Derived.Test.YtfkagnpdapkaaaaDoorProg
import Derived.Below
import Derived.Deep.Draws
import Derived.Deep.AppendLies
import Derived.Maps.AppendAt
import Derived.OwnWalk
import Derived.Laws.BytesArg
import Derived.Laws.MakeOwn
import Derived.Laws.OwnMore
import Derived.Deep.OwnRows
import Derived.Tactics
import Derived.Lib.ConvBytes
import Derived.Laws.Slices
import Derived.WalkKit
import Derived.KernelRfl
import Derived.RowKit3
import Derived.Deep.LoopGhost
import Derived.Deep.QuietTactic
import Derived.BigQuiet
import Derived.WideLaws
import Derived.Deep.DeepCutAuto
import Derived.Deep.CutBlock
import Derived.Deep.RegionHeld3
import Derived.Laws.Rows
import Derived.Lib.AppendStr
import Derived.ArgAppend
import Derived.Laws.IdiomCopy
import Derived.OrdersHeld
import Derived.Laws.BitsLemmas
import Derived.RowKit
import Derived.Test.YtfkagnpdapkaaaaDoorTz
import Derived.Test.YtfkagnpdapkaaaaDoorWWords
import Derived.Test.YtfkagnpdapkaaaaDoorWLast
import Derived.Test.YtfkagnpdapkaaaaDoorWTab
import Derived.Test.YtfkagnpdapkaaaaDoorWFour
import Derived.Test.YtfkagnpdapkaaaaDoorWQPut
import Derived.Test.YtfkagnpdapkaaaaDoorWApart
import Derived.Test.YtfkagnpdapkaaaaDoorWArr
import Derived.Test.YtfkagnpdapkaaaaDoorWZeros
import Derived.Test.YtfkagnpdapkaaaaDoorWFoot
import Derived.Test.YtfkagnpdapkaaaaDoorWKept
import Derived.Test.YtfkagnpdapkaaaaDoorWShare
import Derived.Test.YtfkagnpdapkaaaaDoorWN
import Derived.Test.YtfkagnpdapkaaaaDoorWFootNe
import Derived.Test.YtfkagnpdapkaaaaDoorWAt
import Derived.Test.YtfkagnpdapkaaaaDoorWEqStruct
import Derived.Test.YtfkagnpdapkaaaaDoorWRepsOne
import Derived.Test.YtfkagnpdapkaaaaDoorWInv
import Derived.Test.YtfkagnpdapkaaaaDoorWInvWords
import Derived.Test.YtfkagnpdapkaaaaDoorWGuard
import Derived.Test.YtfkagnpdapkaaaaDoorWNEv
import Derived.Test.YtfkagnpdapkaaaaDoorWMore
namespace Go.Proofs.YtfkagnpdapkaaaaDoor.QE
open Go.RowKit Go.Proofs.YtfkagnpdapkaaaaDoorW.PrintWords Go.Proofs.YtfkagnpdapkaaaaDoorW.PrintLast Go.Proofs.YtfkagnpdapkaaaaDoorW.PrintMore
attribute [local go_sem] max2_int min2_int max_two min_two max_three min_three max_four min_four   -- for this text's walks alone
open Go.Proofs.YtfkagnpdapkaaaaDoor.Tab
set_option linter.unusedVariables false
set_option linter.unusedSimpArgs false



def errW : Option Int → Value
  | none => .nilIface
  | some c => .iface 0 (.int .i64 c)
theorem errW_none : errW none = .nilIface := rfl
theorem errW_some (c : Int) : errW (some c) = .iface 0 (.int .i64 c) := rfl

-- the values' own types

end Go.Proofs.YtfkagnpdapkaaaaDoor.QE
