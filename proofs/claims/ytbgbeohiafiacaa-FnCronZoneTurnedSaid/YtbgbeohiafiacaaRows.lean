/-
  No cell of these rows narrows 'for every input' (looked for: loops, veiled, ifaces, maps, wideKeys, modest, calm, conditions, laid).
  DERIVED. THE GIVEN ROWS OF THIS SEAT. 5 by the template 'for every input the law returns true; each argument reads behind the call as it read before'; 0 by the template 'total and deterministic' (their statements: YtbgbeohiafiacaaTotals.lean).
  GIVEN WITH THE SEED: the statements are not yours to turn. If you find one false, say at which input.
  Laid BY PROGRAM, IN A SANDBOX (cutbox-rows.mjs): the forced cells as the released guide's own fill.sh prints them over the translation 1fb0c15a0f9b7f5a… (all of the seat's roots in one cut). By AI agents, Wed Nov 11 2026. No macro, syntax, notation, axiom, sorry.
-/
import Derived.Test.YtbgbeohiafiacaaChecked
import GoSem.Claim
import GoSem.ClaimJoined
import GoSem.ClaimMapViews
import Derived.JoinedTies
import Derived.KernelRfl
namespace Go.Proofs.Ytbgbeohiafiacaa
/- THE CELL 'sum', in the pinned program and in every row, IS THE sha256 OF THE DUMP (.gsa) THAT YtbgbeohiafiacaaProg.lean LOADS. Nothing in Lean hashes anything: it is a label: what it is worth is what the hold of that sum in a sandbox is worth. -/
noncomputable def Try.pinned : Pinned := { name := "ytbgbeohiafiacaa", sum := "1fb0c15a0f9b7f5a1862aa9c6f01fecc90d6038065469c1d96ee7499535d9a37", checked := Try.checked }
namespace Rows
def none {H : Type} : Left H := { results := [], args := [] }

/-- 'laws.FnCronScheduled': WHATEVER THE INPUT: true; the input reads as it did. -/
def fnCronScheduledSpec : ChangeSpec := { name := "fnCronScheduled", fn := fun _ => fun
  | [d] => { results := [.lit (.bool true)], args := [d] }
  | _ => none }
def fnCronScheduledRow : OpenClaim := { program := "ytbgbeohiafiacaa", sum := "1fb0c15a0f9b7f5a1862aa9c6f01fecc90d6038065469c1d96ee7499535d9a37", func := "pub-timebook/laws.FnCronScheduled", spec := "fnCronScheduled", inPlace := ["(*internal/sync.Mutex).Lock", "internal/race.Disable", "sync/atomic.CompareAndSwapInt32", "internal/race.Enable", "internal/race.Acquire", "(*internal/sync.Mutex).lockSlow", "internal/sync.runtime_canSpin", "internal/sync.runtime_doSpin", "internal/sync.throw", "internal/sync.runtime_nanotime", "internal/sync.runtime_SemacquireMutex", "sync/atomic.AddInt32", "(*internal/sync.Mutex).Unlock", "internal/race.ReleaseMerge", "(*internal/sync.Mutex).unlockSlow", "internal/sync.fatal", "internal/sync.runtime_Semrelease"], unfollowed := true, recurses := true, apart := false }
def FnCronScheduledSaid : Prop := fnCronScheduledRow.holds Try.pinned (OpenSpec.ofChange fnCronScheduledSpec)

/-- ITS FALSE NEIGHBOUR: 'it returns false'. Refute it at one input. -/
def fnCronScheduledWrong : ChangeSpec := { name := "fnCronScheduled", fn := fun _ => fun
  | [d] => { results := [.lit (.bool false)], args := [d] }
  | _ => none }
def FnCronScheduledWrongFalsely : Prop := fnCronScheduledRow.holds Try.pinned (OpenSpec.ofChange fnCronScheduledWrong)

/-- 'laws.FnCronNext400': WHATEVER THE INPUT: true; the input reads as it did. -/
def fnCronNext400Spec : ChangeSpec := { name := "fnCronNext400", fn := fun _ => fun
  | [d1, d2] => { results := [.lit (.bool true)], args := [d1, d2] }
  | _ => none }
def fnCronNext400Row : OpenClaim := { program := "ytbgbeohiafiacaa", sum := "1fb0c15a0f9b7f5a1862aa9c6f01fecc90d6038065469c1d96ee7499535d9a37", func := "pub-timebook/laws.FnCronNext400", spec := "fnCronNext400", unfollowed := true, recurses := true, apart := false }
def FnCronNext400Said : Prop := fnCronNext400Row.holds Try.pinned (OpenSpec.ofChange fnCronNext400Spec)

/-- ITS FALSE NEIGHBOUR: 'it returns false'. Refute it at one input. -/
def fnCronNext400Wrong : ChangeSpec := { name := "fnCronNext400", fn := fun _ => fun
  | [d1, d2] => { results := [.lit (.bool false)], args := [d1, d2] }
  | _ => none }
def FnCronNext400WrongFalsely : Prop := fnCronNext400Row.holds Try.pinned (OpenSpec.ofChange fnCronNext400Wrong)

/-- 'laws.FnCronNextIn': WHATEVER THE INPUT: true; the input reads as it did. -/
def fnCronNextInSpec : ChangeSpec := { name := "fnCronNextIn", fn := fun _ => fun
  | [d1, d2, d3, d4] => { results := [.lit (.bool true)], args := [d1, d2, d3, d4] }
  | _ => none }
def fnCronNextInRow : OpenClaim := { program := "ytbgbeohiafiacaa", sum := "1fb0c15a0f9b7f5a1862aa9c6f01fecc90d6038065469c1d96ee7499535d9a37", func := "pub-timebook/laws.FnCronNextIn", spec := "fnCronNextIn", unfollowed := true, recurses := true, apart := false }
def FnCronNextInSaid : Prop := fnCronNextInRow.holds Try.pinned (OpenSpec.ofChange fnCronNextInSpec)

/-- ITS FALSE NEIGHBOUR: 'it returns false'. Refute it at one input. -/
def fnCronNextInWrong : ChangeSpec := { name := "fnCronNextIn", fn := fun _ => fun
  | [d1, d2, d3, d4] => { results := [.lit (.bool false)], args := [d1, d2, d3, d4] }
  | _ => none }
def FnCronNextInWrongFalsely : Prop := fnCronNextInRow.holds Try.pinned (OpenSpec.ofChange fnCronNextInWrong)

/-- 'laws.FnCronNextNever': WHATEVER THE INPUT: true; the input reads as it did. -/
def fnCronNextNeverSpec : ChangeSpec := { name := "fnCronNextNever", fn := fun _ => fun
  | [d1, d2] => { results := [.lit (.bool true)], args := [d1, d2] }
  | _ => none }
def fnCronNextNeverRow : OpenClaim := { program := "ytbgbeohiafiacaa", sum := "1fb0c15a0f9b7f5a1862aa9c6f01fecc90d6038065469c1d96ee7499535d9a37", func := "pub-timebook/laws.FnCronNextNever", spec := "fnCronNextNever", unfollowed := true, recurses := true, apart := false }
def FnCronNextNeverSaid : Prop := fnCronNextNeverRow.holds Try.pinned (OpenSpec.ofChange fnCronNextNeverSpec)

/-- ITS FALSE NEIGHBOUR: 'it returns false'. Refute it at one input. -/
def fnCronNextNeverWrong : ChangeSpec := { name := "fnCronNextNever", fn := fun _ => fun
  | [d1, d2] => { results := [.lit (.bool false)], args := [d1, d2] }
  | _ => none }
def FnCronNextNeverWrongFalsely : Prop := fnCronNextNeverRow.holds Try.pinned (OpenSpec.ofChange fnCronNextNeverWrong)

/-- 'laws.FnCronZoneTurned': WHATEVER THE INPUT: true; the input reads as it did. -/
def fnCronZoneTurnedSpec : ChangeSpec := { name := "fnCronZoneTurned", fn := fun _ => fun
  | [d1, d2, d3] => { results := [.lit (.bool true)], args := [d1, d2, d3] }
  | _ => none }
def fnCronZoneTurnedRow : OpenClaim := { program := "ytbgbeohiafiacaa", sum := "1fb0c15a0f9b7f5a1862aa9c6f01fecc90d6038065469c1d96ee7499535d9a37", func := "pub-timebook/laws.FnCronZoneTurned", spec := "fnCronZoneTurned", unfollowed := true, recurses := true, apart := false }
def FnCronZoneTurnedSaid : Prop := fnCronZoneTurnedRow.holds Try.pinned (OpenSpec.ofChange fnCronZoneTurnedSpec)

/-- ITS FALSE NEIGHBOUR: 'it returns false'. Refute it at one input. -/
def fnCronZoneTurnedWrong : ChangeSpec := { name := "fnCronZoneTurned", fn := fun _ => fun
  | [d1, d2, d3] => { results := [.lit (.bool false)], args := [d1, d2, d3] }
  | _ => none }
def FnCronZoneTurnedWrongFalsely : Prop := fnCronZoneTurnedRow.holds Try.pinned (OpenSpec.ofChange fnCronZoneTurnedWrong)

/- THE SECOND FORM. 'bulk': how many values and letters a reading holds, each counted each time it is reached (what is shared counts as often as it is met; a slice's spare places count too). A statement '..UptoSaid' is the law's where the arguments, and the package variables that the reading takes, are together of bulk at most 1048576: NARROWER than '..Said'. Prove '..Said' where nothing that the law and all that it calls make is longer than what came in: it says more and counts as full. Else prove '..UptoSaid'. A law counts once. -/
mutual
def uptoBulk {H : Type} : DataW H → Nat
  | .lit (.string bytes) => bytes.length + 1
  | .lit _ => 1
  | .nil => 1
  | .ptr d => uptoBulk d + 1
  | .slice elems spare => uptoBulkAll elems + uptoBulkAll spare + 1
  | .agg parts => uptoBulkAll parts + 1
  | .iface _ d => uptoBulk d + 1
  | .map entries => uptoBulkEntries entries + 1
  | .held _ => 1
def uptoBulkAll {H : Type} : List (DataW H) → Nat
  | [] => 0
  | d :: r => uptoBulk d + uptoBulkAll r
def uptoBulkEntries {H : Type} : List (Lit × DataW H) → Nat
  | [] => 0
  | x :: r => uptoBulkEntry x + uptoBulkEntries r
def uptoBulkEntry {H : Type} : Lit × DataW H → Nat
  | (.string bytes, d) => bytes.length + uptoBulk d + 1
  | (_, d) => uptoBulk d + 1
 end
def uptoSmall : (H : Type) → List (DataW H) → Bool := fun _ ds => decide (uptoBulkAll ds ≤ 1048576)
def OpenSpec.upto (s : _root_.Go.ChangeSpec) : _root_.Go.OpenSpec := { _root_.Go.OpenSpec.ofChange s with cond := some uptoSmall }

/-- 'laws.FnCronScheduled', WHERE WHAT IT READS IS OF BULK AT MOST 1048576: true; the input reads as it did. -/
def fnCronScheduledUptoRow : OpenClaim := { program := "ytbgbeohiafiacaa", sum := "1fb0c15a0f9b7f5a1862aa9c6f01fecc90d6038065469c1d96ee7499535d9a37", func := "pub-timebook/laws.FnCronScheduled", spec := "fnCronScheduled", inPlace := ["(*internal/sync.Mutex).Lock", "internal/race.Disable", "sync/atomic.CompareAndSwapInt32", "internal/race.Enable", "internal/race.Acquire", "(*internal/sync.Mutex).lockSlow", "internal/sync.runtime_canSpin", "internal/sync.runtime_doSpin", "internal/sync.throw", "internal/sync.runtime_nanotime", "internal/sync.runtime_SemacquireMutex", "sync/atomic.AddInt32", "(*internal/sync.Mutex).Unlock", "internal/race.ReleaseMerge", "(*internal/sync.Mutex).unlockSlow", "internal/sync.fatal", "internal/sync.runtime_Semrelease"], unfollowed := true, recurses := true, apart := false, narrowed := true }
def FnCronScheduledUptoSaid : Prop := fnCronScheduledUptoRow.holds Try.pinned (OpenSpec.upto fnCronScheduledSpec)

/-- 'laws.FnCronNext400', WHERE WHAT IT READS IS OF BULK AT MOST 1048576: true; the input reads as it did. -/
def fnCronNext400UptoRow : OpenClaim := { program := "ytbgbeohiafiacaa", sum := "1fb0c15a0f9b7f5a1862aa9c6f01fecc90d6038065469c1d96ee7499535d9a37", func := "pub-timebook/laws.FnCronNext400", spec := "fnCronNext400", unfollowed := true, recurses := true, apart := false, narrowed := true }
def FnCronNext400UptoSaid : Prop := fnCronNext400UptoRow.holds Try.pinned (OpenSpec.upto fnCronNext400Spec)

/-- 'laws.FnCronNextIn', WHERE WHAT IT READS IS OF BULK AT MOST 1048576: true; the input reads as it did. -/
def fnCronNextInUptoRow : OpenClaim := { program := "ytbgbeohiafiacaa", sum := "1fb0c15a0f9b7f5a1862aa9c6f01fecc90d6038065469c1d96ee7499535d9a37", func := "pub-timebook/laws.FnCronNextIn", spec := "fnCronNextIn", unfollowed := true, recurses := true, apart := false, narrowed := true }
def FnCronNextInUptoSaid : Prop := fnCronNextInUptoRow.holds Try.pinned (OpenSpec.upto fnCronNextInSpec)

/-- 'laws.FnCronNextNever', WHERE WHAT IT READS IS OF BULK AT MOST 1048576: true; the input reads as it did. -/
def fnCronNextNeverUptoRow : OpenClaim := { program := "ytbgbeohiafiacaa", sum := "1fb0c15a0f9b7f5a1862aa9c6f01fecc90d6038065469c1d96ee7499535d9a37", func := "pub-timebook/laws.FnCronNextNever", spec := "fnCronNextNever", unfollowed := true, recurses := true, apart := false, narrowed := true }
def FnCronNextNeverUptoSaid : Prop := fnCronNextNeverUptoRow.holds Try.pinned (OpenSpec.upto fnCronNextNeverSpec)

/-- 'laws.FnCronZoneTurned', WHERE WHAT IT READS IS OF BULK AT MOST 1048576: true; the input reads as it did. -/
def fnCronZoneTurnedUptoRow : OpenClaim := { program := "ytbgbeohiafiacaa", sum := "1fb0c15a0f9b7f5a1862aa9c6f01fecc90d6038065469c1d96ee7499535d9a37", func := "pub-timebook/laws.FnCronZoneTurned", spec := "fnCronZoneTurned", unfollowed := true, recurses := true, apart := false, narrowed := true }
def FnCronZoneTurnedUptoSaid : Prop := fnCronZoneTurnedUptoRow.holds Try.pinned (OpenSpec.upto fnCronZoneTurnedSpec)

end Rows
end Go.Proofs.Ytbgbeohiafiacaa
