/- The law FnCronBlanks, from what the row hands over. -/
import Derived.Test.YtikgnpachlgakaaGreatDoorGrA
import Derived.Test.YtikgnpachlgakaaGreatDoorGrN
import Derived.Test.YtikgnpachlgakaaGreatDoorRows
import Derived.OpenShut
namespace Go.Proofs.YtikgnpachlgakaaGreatDoor.Cron
open Go Go.RowKit
set_option linter.unusedVariables false

theorem blanks_walk (a0 : Int) (a1 : ByteArray) (w0 : (Lit.int .i64 a0).wf = true) (s1 : a1.size ≤ 140737488351232) (W : World) (hL : laidMetH Tryz.prog Rows.fnCronBlanksRow.laid W) :
    Calls Tryz.prog 3 #[.int .i64 a0, .string a1] W fun e w' => e = .returned (.bool true) ∧ Below W.heap.size W w' := by
  rw [MakeChecks.laidMetH_plain _ _ _ (by kernel_rfl)] at hL
  exact lawBlanks_any a0 a1 W (g_of_met hL (by first | exact List.mem_of_getElem? (i := 0) rfl | exact List.mem_of_getElem? (i := 1) rfl | exact List.mem_of_getElem? (i := 2) rfl | exact List.mem_of_getElem? (i := 3) rfl | exact List.mem_of_getElem? (i := 4) rfl | exact List.mem_of_getElem? (i := 5) rfl | exact List.mem_of_getElem? (i := 6) rfl | exact List.mem_of_getElem? (i := 7) rfl | exact List.mem_of_getElem? (i := 8) rfl) (by first | exact List.mem_of_getElem? (i := 0) rfl | exact List.mem_of_getElem? (i := 1) rfl | exact List.mem_of_getElem? (i := 2) rfl | exact List.mem_of_getElem? (i := 3) rfl | exact List.mem_of_getElem? (i := 4) rfl | exact List.mem_of_getElem? (i := 5) rfl | exact List.mem_of_getElem? (i := 6) rfl | exact List.mem_of_getElem? (i := 7) rfl | exact List.mem_of_getElem? (i := 8) rfl))

end Go.Proofs.YtikgnpachlgakaaGreatDoor.Cron
