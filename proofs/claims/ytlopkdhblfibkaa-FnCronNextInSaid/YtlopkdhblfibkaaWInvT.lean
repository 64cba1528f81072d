/- Words of the kit's print (print.sh): those that this claim names. Conditions: none. -/
import Derived.Test.YtlopkdhblfibkaaWLastT
import Derived.Test.YtlopkdhblfibkaaWWordsT
namespace Go.Proofs.YtlopkdhblfibkaaW.PrintLast
def up (b : Nat → Bool) (i : Nat) : Nat → Bool := fun j => if j = i then true else b j
section
variable {P : Program} {ops : Array Oper} {Q : Exit → Act → World → Prop} {md : Region.Mode} {T : Bool × List (List Nat × List Nat)} {B : List Nat} {O : List Nat} {b : Nat → Bool} {i j n : Nat}
end
end Go.Proofs.YtlopkdhblfibkaaW.PrintLast
