/- Three words that the printed functions use. Conditions: none. -/
import Derived.Test.YtmecbmgfacpecaaGreatDoorProg
import Derived.Test.YtmecbmgfacpecaaGreatDoorWWords
namespace Go.Proofs.YtmecbmgfacpecaaGreatDoor.Pr
open Go Go.RowKit
set_option linter.unusedVariables false
section
variable {P : Program} {ops : Array Oper} {rest : List Oper} {o : Oper} {a : Act} {W : World} {Q : Exit → Act → World → Prop}
theorem gate_callee {f : FuncId} {ys : Array Operand} {ts : Array TypeId} (ho : o.op = .call { callee := .value (.func f), args := ys, argTypes := ts }) (h : wpList P ops Q (o :: rest) a W) : wpList P ops Q (o :: rest) a W := h
theorem gate_builtin {b : Builtin} {xs : Array Operand} {ts : Array TypeId} (ho : o.op = .call { callee := .builtin b, args := xs, argTypes := ts }) (h : wpList P ops Q (o :: rest) a W) : wpList P ops Q (o :: rest) a W := h
end
theorem drewN_self (w : World) (n : Nat) : w.drewN n = w.drewN n := rfl
end Go.Proofs.YtmecbmgfacpecaaGreatDoor.Pr
