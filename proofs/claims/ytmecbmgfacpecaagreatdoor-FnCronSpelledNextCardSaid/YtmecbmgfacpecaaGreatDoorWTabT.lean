/- Words of the kit's print (print.sh): those that this claim names. Conditions: none. -/
import Derived.Test.YtmecbmgfacpecaaGreatDoorWLastT
import Derived.Test.YtmecbmgfacpecaaGreatDoorWWordsT
namespace Go.Proofs.YtmecbmgfacpecaaGreatDoorW.PrintLast
open Go.Proofs.YtmecbmgfacpecaaGreatDoorW.PrintWords (Aside0)
section
variable {md : Region.Mode} {ops : Array Oper} {T : Bool × List (List Nat × List Nat)} {l l' li lj lk : Array Bool} {ds : List Nat} {i j k : Nat}
theorem gd (l : Array Bool) (j : Nat) (b : Bool) : l.getD j b = l.toList.getD j b := by simp [Array.getD_eq_getD_getElem?, List.getD_eq_getElem?_getD]
end
end Go.Proofs.YtmecbmgfacpecaaGreatDoorW.PrintLast
