import Derived.Test.YtghmajlfmoggfaaGreatMWWords
import Derived.Test.YtghmajlfmoggfaaGreatMWLast
import Derived.Test.YtghmajlfmoggfaaGreatMWApart
import Derived.Test.YtghmajlfmoggfaaGreatMWFoot
import Derived.Test.YtghmajlfmoggfaaGreatMWNEv
namespace Go.Proofs.YtghmajlfmoggfaaGreatW.PrintWords
open Go.RowKit
section
variable {P : Program} {ops : Array Oper} {rest : List Oper} {o : Oper} {a : Act} {Q : Exit → Act → World → Prop} {W : World}
theorem gate_callee {f : FuncId} {as : Array Operand} {ts : Array TypeId} (_ho : o.op = .call { callee := .value (.func f), args := as, argTypes := ts }) (h : wpList P ops Q (o :: rest) a W) : wpList P ops Q (o :: rest) a W := h
end
end Go.Proofs.YtghmajlfmoggfaaGreatW.PrintWords
