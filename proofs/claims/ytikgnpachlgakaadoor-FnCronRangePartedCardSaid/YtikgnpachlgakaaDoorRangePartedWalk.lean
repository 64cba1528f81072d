/- The law FnCronRangeParted, from what the row hands over. -/
import Derived.Test.YtikgnpachlgakaaDoorLaid
import Derived.Test.YtikgnpachlgakaaDoorLawRangeParted
import Derived.Test.YtikgnpachlgakaaDoorRows
import Derived.OpenShut
namespace Go.Proofs.YtikgnpachlgakaaDoor.Cron
open Go Go.RowKit
set_option linter.unusedVariables false

theorem rangeParted_walk (a0 a1 a2 a3 : Int) (w0 : (Lit.int .i64 a0).wf = true) (w1 : (Lit.int .i64 a1).wf = true) (w2 : (Lit.int .i64 a2).wf = true) (w3 : (Lit.int .i64 a3).wf = true) (W : World) (hL : laidMetH Tryd.prog Rows.fnCronRangePartedRow.laid W) :
    Calls Tryd.prog 5 #[.int .i64 a0, .int .i64 a1, .int .i64 a2, .int .i64 a3] W fun e w' => e = .returned (.bool true) ∧ Below W.heap.size W w' := by
  rw [MakeChecks.laidMetH_plain _ _ _ (by kernel_rfl)] at hL
  exact lawRangeParted_any a0 a1 a2 a3 w1 w2 w3 W (g_of_met hL (by first | exact List.mem_of_getElem? (i := 0) rfl | exact List.mem_of_getElem? (i := 1) rfl | exact List.mem_of_getElem? (i := 2) rfl | exact List.mem_of_getElem? (i := 3) rfl | exact List.mem_of_getElem? (i := 4) rfl | exact List.mem_of_getElem? (i := 5) rfl | exact List.mem_of_getElem? (i := 6) rfl | exact List.mem_of_getElem? (i := 7) rfl | exact List.mem_of_getElem? (i := 8) rfl) (by first | exact List.mem_of_getElem? (i := 0) rfl | exact List.mem_of_getElem? (i := 1) rfl | exact List.mem_of_getElem? (i := 2) rfl | exact List.mem_of_getElem? (i := 3) rfl | exact List.mem_of_getElem? (i := 4) rfl | exact List.mem_of_getElem? (i := 5) rfl | exact List.mem_of_getElem? (i := 6) rfl | exact List.mem_of_getElem? (i := 7) rfl | exact List.mem_of_getElem? (i := 8) rfl))

end Go.Proofs.YtikgnpachlgakaaDoor.Cron
