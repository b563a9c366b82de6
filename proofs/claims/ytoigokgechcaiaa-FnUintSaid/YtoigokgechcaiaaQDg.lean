-- Written by a program of this session (wip/tools/myprint.py) out of Lean's own print of the translation.
import Derived.Test.YtoigokgechcaiaaQDg0
import Derived.Test.YtoigokgechcaiaaQDg1
import Derived.Test.YtoigokgechcaiaaQDg2
namespace Go.Proofs.Ytoigokgechcaiaa.QDg
open Go.RowKit Go.Proofs.YtoigokgechcaiaaW.PrintWords Go.Proofs.YtoigokgechcaiaaW.PrintLast Go.Proofs.YtoigokgechcaiaaW.PrintMore
attribute [local go_sem] max2_int min2_int max_two min_two max_three min_three max_four min_four   -- for this text's walks alone
set_option linter.unusedVariables false
set_option linter.unusedSimpArgs false

end Go.Proofs.Ytoigokgechcaiaa.QDg
