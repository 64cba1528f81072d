/- The law FnCronItemIn, from what the row hands over. -/
import Derived.Test.YtikgnpachlgakaaDoorLaid
import Derived.Test.YtikgnpachlgakaaDoorLawItemIn
import Derived.Test.YtikgnpachlgakaaDoorRows
import Derived.OpenShut
namespace Go.Proofs.YtikgnpachlgakaaDoor.Cron
open Go Go.RowKit

theorem itemIn_walk (a0 a1 : Int) (a2 : ByteArray) (w0 : (Lit.int .u64 a0).wf = true) (w1 : (Lit.int .u64 a1).wf = true) (w2 : a2.size ≤ 140737488351232) (W : World) (hL : laidMetH Tryd.prog Rows.fnCronItemInRow.laid W) :
    Calls Tryd.prog 4 #[.int .u64 a0, .int .u64 a1, .string a2] W fun e w' => e = .returned (.bool true) ∧ Below W.heap.size W w' := by
  rw [MakeChecks.laidMetH_plain _ _ _ (by kernel_rfl)] at hL
  obtain ⟨lo, rfl⟩ := Int.eq_ofNat_of_zero_le (bounds_u64 w0).1
  obtain ⟨hi, rfl⟩ := Int.eq_ofNat_of_zero_le (bounds_u64 w1).1
  exact lawItemIn_any lo hi a2 w2 W (g_of_met hL (by first | exact List.mem_of_getElem? (i := 0) rfl | exact List.mem_of_getElem? (i := 1) rfl | exact List.mem_of_getElem? (i := 2) rfl | exact List.mem_of_getElem? (i := 3) rfl | exact List.mem_of_getElem? (i := 4) rfl | exact List.mem_of_getElem? (i := 5) rfl | exact List.mem_of_getElem? (i := 6) rfl | exact List.mem_of_getElem? (i := 7) rfl | exact List.mem_of_getElem? (i := 8) rfl) (by first | exact List.mem_of_getElem? (i := 0) rfl | exact List.mem_of_getElem? (i := 1) rfl | exact List.mem_of_getElem? (i := 2) rfl | exact List.mem_of_getElem? (i := 3) rfl | exact List.mem_of_getElem? (i := 4) rfl | exact List.mem_of_getElem? (i := 5) rfl | exact List.mem_of_getElem? (i := 6) rfl | exact List.mem_of_getElem? (i := 7) rfl | exact List.mem_of_getElem? (i := 8) rfl))

end Go.Proofs.YtikgnpachlgakaaDoor.Cron
