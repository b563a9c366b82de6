-- Written by a program of this session (wip/tools/myprint.py) out of Lean's own print of the translation.
import Derived.Test.YtoigokgechcaiaaDoorQIs0
import Derived.Test.YtoigokgechcaiaaDoorQIs1
namespace Go.Proofs.YtoigokgechcaiaaDoor.QIs
open Go.RowKit Go.Proofs.YtoigokgechcaiaaDoorW.PrintWords Go.Proofs.YtoigokgechcaiaaDoorW.PrintLast Go.Proofs.YtoigokgechcaiaaDoorW.PrintMore
attribute [local go_sem] max2_int min2_int max_two min_two max_three min_three max_four min_four   -- for this text's walks alone
open Go.Proofs.YtoigokgechcaiaaDoor.Tab
open Go.Proofs.YtoigokgechcaiaaDoor.QNm
set_option linter.unusedVariables false
set_option linter.unusedSimpArgs false

end Go.Proofs.YtoigokgechcaiaaDoor.QIs
