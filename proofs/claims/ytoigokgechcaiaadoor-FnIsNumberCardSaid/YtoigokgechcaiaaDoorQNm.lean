-- Written by a program of this session (wip/tools/myprint.py) out of Lean's own print of the translation.
import Derived.Test.YtoigokgechcaiaaDoorQNm0
import Derived.Test.YtoigokgechcaiaaDoorQNm1
import Derived.Test.YtoigokgechcaiaaDoorQNm2
import Derived.Test.YtoigokgechcaiaaDoorQNm3
import Derived.Test.YtoigokgechcaiaaDoorQNm4
import Derived.Test.YtoigokgechcaiaaDoorQNm5
import Derived.Test.YtoigokgechcaiaaDoorQNm6
namespace Go.Proofs.YtoigokgechcaiaaDoor.QNm
open Go.RowKit Go.Proofs.YtoigokgechcaiaaDoorW.PrintWords Go.Proofs.YtoigokgechcaiaaDoorW.PrintLast Go.Proofs.YtoigokgechcaiaaDoorW.PrintMore
attribute [local go_sem] max2_int min2_int max_two min_two max_three min_three max_four min_four   -- for this text's walks alone
open Go.Proofs.YtoigokgechcaiaaDoor.Tab
set_option linter.unusedVariables false
set_option linter.unusedSimpArgs false

end Go.Proofs.YtoigokgechcaiaaDoor.QNm
