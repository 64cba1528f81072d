/- Words of the kit's print (print.sh): those that this claim names. Conditions: none. -/
import Derived.Test.YtlopkdhblfibkaaWWordsT
import Derived.Test.YtlopkdhblfibkaaWLastT
import Derived.Test.YtlopkdhblfibkaaWApartT
import Derived.Test.YtlopkdhblfibkaaWNT
namespace Go.Proofs.YtlopkdhblfibkaaW.PrintWords
open Go.RowKit
section
variable {P : Program} {ops : Array Oper} {rest : List Oper} {o : Oper} {a : Act} {Q : Exit → Act → World → Prop} {W : World}
theorem gate_callee {f : FuncId} {as : Array Operand} {ts : Array TypeId} (_ho : o.op = .call { callee := .value (.func f), args := as, argTypes := ts }) (h : wpList P ops Q (o :: rest) a W) : wpList P ops Q (o :: rest) a W := h
end
def mn (a b : Int) : Int := if b < a then b else a
theorem drewN_self (w : World) (n : Nat) : w.drewN n = w.drewN n := rfl
end Go.Proofs.YtlopkdhblfibkaaW.PrintWords
namespace Go.Proofs.YtlopkdhblfibkaaW.PrintWords
open Go.RowKit
namespace Kd
def V {α : Type} (d : Kd α) (_e : Nat) (W : World) (_base : Nat) (ok : Nat → Prop) (v : Value) (xs : List α) : Prop := ∃ A c, v = .slice A xs.length c ∧ xs.length ≤ c ∧ F d W ok A xs.length xs
end Kd
end Go.Proofs.YtlopkdhblfibkaaW.PrintWords
