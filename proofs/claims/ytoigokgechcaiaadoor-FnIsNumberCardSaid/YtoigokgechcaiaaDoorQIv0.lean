-- Written by a program of this session (wip/tools/myprint.py) out of Lean's own print of the translation.
import Derived.Test.YtoigokgechcaiaaDoorProg
import Derived.Below
import Derived.Deep.Draws
import Derived.Deep.AppendLies
import Derived.Maps.AppendAt
import Derived.OwnWalk
import Derived.Laws.BytesArg
import Derived.Laws.MakeOwn
import Derived.Laws.OwnMore
import Derived.Deep.OwnRows
import Derived.Tactics
import Derived.Lib.ConvBytes
import Derived.Laws.Slices
import Derived.WalkKit
import Derived.KernelRfl
import Derived.RowKit3
import Derived.Deep.LoopGhost
import Derived.Deep.QuietTactic
import Derived.BigQuiet
import Derived.WideLaws
import Derived.Deep.DeepCutAuto
import Derived.Deep.CutBlock
import Derived.Deep.RegionHeld3
import Derived.Laws.Rows
import Derived.Lib.AppendStr
import Derived.ArgAppend
import Derived.Laws.IdiomCopy
import Derived.OrdersHeld
import Derived.Laws.BitsLemmas
import Derived.RowKit
import Derived.Test.YtoigokgechcaiaaDoorNumIsC
import Derived.Test.YtoigokgechcaiaaDoorQIs
import Derived.Test.YtoigokgechcaiaaDoorWWords
import Derived.Test.YtoigokgechcaiaaDoorWLast
import Derived.Test.YtoigokgechcaiaaDoorWTab
import Derived.Test.YtoigokgechcaiaaDoorWFour
import Derived.Test.YtoigokgechcaiaaDoorWQPut
import Derived.Test.YtoigokgechcaiaaDoorWApart
import Derived.Test.YtoigokgechcaiaaDoorWArr
import Derived.Test.YtoigokgechcaiaaDoorWZeros
import Derived.Test.YtoigokgechcaiaaDoorWFoot
import Derived.Test.YtoigokgechcaiaaDoorWKept
import Derived.Test.YtoigokgechcaiaaDoorWShare
import Derived.Test.YtoigokgechcaiaaDoorWN
import Derived.Test.YtoigokgechcaiaaDoorWFootNe
import Derived.Test.YtoigokgechcaiaaDoorWAt
import Derived.Test.YtoigokgechcaiaaDoorWEqStruct
import Derived.Test.YtoigokgechcaiaaDoorWRepsOne
import Derived.Test.YtoigokgechcaiaaDoorWInv
import Derived.Test.YtoigokgechcaiaaDoorWInvWords
import Derived.Test.YtoigokgechcaiaaDoorWGuard
import Derived.Test.YtoigokgechcaiaaDoorWNEv
import Derived.Test.YtoigokgechcaiaaDoorWMore
namespace Go.Proofs.YtoigokgechcaiaaDoor.QIv
open Go.RowKit Go.Proofs.YtoigokgechcaiaaDoorW.PrintWords Go.Proofs.YtoigokgechcaiaaDoorW.PrintLast Go.Proofs.YtoigokgechcaiaaDoorW.PrintMore
attribute [local go_sem] max2_int min2_int max_two min_two max_three min_three max_four min_four   -- for this text's walks alone
open Go.Proofs.YtoigokgechcaiaaDoor.AccT
open Go.Proofs.YtoigokgechcaiaaDoor.QIs
set_option linter.unusedVariables false
set_option linter.unusedSimpArgs false



def errW : Option Int → Value
  | none => .nilIface
  | some c => .iface 0 (.int .i64 c)
theorem errW_none : errW none = .nilIface := rfl
theorem errW_some (c : Int) : errW (some c) = .iface 0 (.int .i64 c) := rfl

-- the values' own types

end Go.Proofs.YtoigokgechcaiaaDoor.QIv
