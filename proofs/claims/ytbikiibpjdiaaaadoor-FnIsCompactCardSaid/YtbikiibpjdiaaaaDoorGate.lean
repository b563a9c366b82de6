/- Looks ahead of a call, as the print's words have them (their module More is not wanted otherwise). -/
import Derived.Test.YtbikiibpjdiaaaaDoorWWords
import Derived.Test.YtbikiibpjdiaaaaDoorWLast
import Derived.Test.YtbikiibpjdiaaaaDoorWRepsOne
namespace Go.Proofs.YtbikiibpjdiaaaaDoorW.PrintMore
end Go.Proofs.YtbikiibpjdiaaaaDoorW.PrintMore
namespace Go.Proofs.YtbikiibpjdiaaaaDoorW.PrintWords
open Go.RowKit
section
variable {P : Program} {ops : Array Oper} {rest : List Oper} {o : Oper} {a : Act} {Q : Exit → Act → World → Prop} {W : World}
theorem gate_callee {f : FuncId} {as : Array Operand} {ts : Array TypeId} (_ho : o.op = .call { callee := .value (.func f), args := as, argTypes := ts }) (h : wpList P ops Q (o :: rest) a W) : wpList P ops Q (o :: rest) a W := h
theorem gate_builtin {b : Builtin} {xs : Array Operand} {ts : Array TypeId} (_ho : o.op = .call { callee := .builtin b, args := xs, argTypes := ts }) (h : wpList P ops Q (o :: rest) a W) : wpList P ops Q (o :: rest) a W := h
end
end Go.Proofs.YtbikiibpjdiaaaaDoorW.PrintWords
