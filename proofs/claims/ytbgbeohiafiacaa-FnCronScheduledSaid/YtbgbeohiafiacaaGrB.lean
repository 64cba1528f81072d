/- Lemmas and walks on the way to the law, merged by wip/tools/pack.py: Locks, Sched, Sched2. Conditions: none. -/
import Derived.Test.YtbgbeohiafiacaaProg
import Derived.Conc.RwLib
import Derived.Conc.MuData
import Derived.KernelRfl
import Derived.Test.YtbgbeohiafiacaaGrA
import Derived.Conc.MuLone
import Derived.WalkLawsBesides
import Derived.Test.YtbgbeohiafiacaaWWords
import Derived.Test.YtbgbeohiafiacaaWLast
import Derived.Deep.DeepCutAuto
import Derived.Laws.CopyOwn
namespace Go.Proofs
abbrev Try.muLink : Go.Conc.Locks.MuLink := { lock := 48, unlock := 49, ilock := 67, iunlock := 68, lockSlow := 80, unlockSlow := 83, disable := 76, enable := 78, acquire := 79, relMerge := 81, cas32 := 77, add32 := 82, tMutex := 115, tIMutex := 113, tPMutex := 148, tPIMutex := 172, tPI32 := 174, tUP := 176, tNoCopy := 110, tU32 := 111 }
theorem Try.muLib : Go.Conc.Locks.MuLib Try.prog Try.muLink :=
  ⟨Try.func48, Try.func49, Try.func67, Try.func68, Try.func76, Try.func78, Try.func79, Try.func81, Try.func77, Try.func82, Try.underlying113, Try.runUnderlying113, Try.sizeOf113, Try.isAgg113, Try.zeroValue113, Try.underlying115, Try.runUnderlying115, Try.sizeOf115, Try.isAgg115, Try.zeroValue115, Try.underlying148, Try.runUnderlying148, Try.sizeOf148, Try.isAgg148, Try.zeroValue148, Try.underlying172, Try.runUnderlying172, Try.sizeOf172, Try.isAgg172, Try.zeroValue172, Try.underlying174, Try.runUnderlying174, Try.sizeOf174, Try.isAgg174, Try.zeroValue174, Try.underlying176, Try.runUnderlying176, Try.sizeOf176, Try.isAgg176, Try.zeroValue176, Try.underlying110, Try.runUnderlying110, Try.sizeOf110, Try.isAgg110, Try.zeroValue110, Try.underlying21, Try.runUnderlying21, Try.sizeOf21, Try.isAgg21, Try.zeroValue21, (by kernel_rfl)⟩
end Go.Proofs

namespace Go.Proofs.Ytbgbeohiafiacaa.Sched
open Go Go.RowKit Go.Proofs.Ytbgbeohiafiacaa.Cal
set_option linter.unusedVariables false
set_option linter.unusedSimpArgs false

/-- a schedule of the law: every, delay, six sets -/
structure Sch where
  ev : Bool
  d : Int
  a0 : Int
  a1 : Int
  a2 : Int
  a3 : Int
  a4 : Int
  a5 : Int

def Sch.cells (s : Sch) : Array Value := #[.bool s.ev, .int .i64 s.d, .int .u64 s.a0, .int .u64 s.a1, .int .u64 s.a2, .int .u64 s.a3, .int .u64 s.a4, .int .u64 s.a5]
/-- the schedule as it is read back -/
def Sch.plain (s : Sch) : Array Value :=
  if s.ev = true then #[.bool true, .int .i64 s.d, .int .u64 0, .int .u64 0, .int .u64 0, .int .u64 0, .int .u64 0, .int .u64 0]
  else #[.bool false, .int .i64 0, .int .u64 s.a0, .int .u64 s.a1, .int .u64 s.a2, .int .u64 s.a3, .int .u64 s.a4, .int .u64 s.a5]
def Sch.spec (s : Sch) : Array Value := #[.int .u64 s.a0, .int .u64 s.a1, .int .u64 s.a2, .int .u64 s.a3, .int .u64 s.a4, .int .u64 s.a5, .pointer none]

/-- v is the program's schedule of s -/
def SchIs (w : World) (v : Value) (s : Sch) : Prop :=
  if s.ev = true then v = .iface 131 (.agg #[.int .i64 s.d]) else ∃ g, v = .iface 132 (.pointer (some ⟨g, 0, none⟩)) ∧ w.heap[g]? = some (.cells s.spec 134 (0, 0))

theorem SchIs.below {w w' : World} {v : Value} {s : Sch} (h : SchIs w v s) (hb : Below w.heap.size w w') : SchIs w' v s := by
  unfold SchIs at h ⊢
  split at h
  · rename_i he
    rw [if_pos he]
    exact h
  · rename_i he
    rw [if_neg he]
    obtain ⟨g, h1, h2⟩ := h
    exact ⟨g, h1, (hb.block g (Array.getElem?_eq_some_iff.1 h2).1).trans h2⟩

theorem heap_alloc2 (w : World) (o o' : Obj) : ((w.alloc o).alloc o').heap[w.heap.size + 1]? = some o' := by
  have := heap_alloc_new (w.alloc o) o'
  rw [show (w.alloc o).heap.size = w.heap.size + 1 by simp] at this
  exact this

theorem chainThen_any (j : Value) (w : World) :
    Calls Try.prog 50 #[.agg #[.slice none 0 0], j] w fun e w' => e = .returned j ∧ Below w.heap.size w w' := by
  go_enter Try.func50, Try.ntmps50
  go_wp2_with fail
  go_loopw [1, 9] (fun v1 v9 wr => v1 = j ∧ v9 = .int .i64 0 ∧ Below w.heap.size w wr) (fun _ _ _ => 0)
  case atStart => exact ⟨rfl, rfl, (Below.refl _ _).alloc (Nat.le_refl _) _⟩
  case round =>
    obtain ⟨rfl, rfl, hbr⟩ := hrel
    go_wp2_with fail
    go_ret
    exact ⟨rfl, hbr⟩

theorem isZero_any (w : World) :
    Calls Try.prog 52 #[.agg #[.int .u64 0, .int .i64 0, .pointer none]] w fun e w' => e = .returned (.bool true) ∧ Below w.heap.size w w' := by
  go_enter Try.func52, Try.ntmps52
  go_wp2_with fail
  go_ret
  exact ⟨rfl, (Below.refl _ _).alloc (Nat.le_refl _) _⟩

def entryCells (id : Int) (sch wj job : Value) : Array Value := #[.int .i64 id, sch, .int .u64 0, .int .i64 0, .pointer none, .int .u64 0, .int .i64 0, .pointer none, wj, job]

theorem valid_any (id : Int) (sch wj job : Value) (w : World) :
    Calls Try.prog 51 #[.agg (entryCells id sch wj job)] w fun e w' => e = .returned (.bool (id != 0)) ∧ Below w.heap.size w w' := by
  unfold entryCells
  go_enter Try.func51, Try.ntmps51
  go_wp2_with fail
  go_ret
  exact ⟨rfl, (Below.refl _ _).alloc (Nat.le_refl _) _⟩

theorem schedule_any (s : Sch) (w : World) :
    Calls Try.prog 29 #[.agg s.cells, .pointer none] w fun e w' => ∃ v, e = .returned v ∧ SchIs w' v s ∧ Below w.heap.size w w' := by
  obtain ⟨ev, d, a0, a1, a2, a3, a4, a5⟩ := s
  unfold Sch.cells SchIs Sch.spec
  dsimp only
  cases ev with
  | true =>
    go_enter Try.func29, Try.ntmps29
    go_wp2_with fail
    go_ret
    exact ⟨_, rfl, by simp, (Below.refl _ _).alloc (Nat.le_refl _) _⟩
  | false =>
    go_enter Try.func29, Try.ntmps29
    go_wp2_with fail
    go_ret
    refine ⟨_, rfl, ?_, ?_⟩
    · simp only [Bool.false_eq_true, if_false]
      exact ⟨_, rfl, heap_alloc2 _ _ _⟩
    exact ((Below.refl _ _).alloc (Nat.le_refl _) _).alloc (by simp) _
end Go.Proofs.Ytbgbeohiafiacaa.Sched

namespace Go.Proofs.Ytbgbeohiafiacaa.Sched
open Go Go.RowKit Go.Proofs.Ytbgbeohiafiacaa.Cal Go.Proofs.YtbgbeohiafiacaaW.PrintWords Go.Proofs.YtbgbeohiafiacaaW.PrintLast
set_option linter.unusedVariables false
set_option linter.unusedSimpArgs false

def noSch : Array Value := #[.bool false, .int .i64 0, .int .u64 0, .int .u64 0, .int .u64 0, .int .u64 0, .int .u64 0, .int .u64 0]
theorem schSize : (Try.prog.info? 27).map (·.size) = some 8 := by kernel_rfl
theorem results_sch {fn : Func} {p u : Tmp} (h : fn.results = #[.cell p 27, .tmp u]) (tmps : Array Value) (w : World) (g : Nat) (cs : Array Value) (h8 : cs.size = 8)
    (hp : tmps.getD p undef = .pointer (some ⟨g, 0, none⟩)) (hs : w.heap[g]? = some (.cells cs 27 (0, 0))) :
    (results fn tmps).run Try.prog w = .ok (.tuple #[.agg cs, tmps.getD u undef]) w := by
  rw [results_cell_tmp h, hp]
  simp only [asAddr, Sem.run_pure, Result.andThen_ok, run_loadVar_row w g _ _ _ _ _ hs Try.underlying27 rfl (by rw [schSize, h8])]

set_option maxRecDepth 100000 in
theorem plainSchedule_any (s : Sch) (v : Value) (w : World) (h : SchIs w v s) :
    Calls Try.prog 53 #[v, .nilIface] w fun e w' => e = .returned (.tuple #[.agg s.plain, .bool true]) ∧ Below w.heap.size w w' := by
  obtain ⟨ev, d, a0, a1, a2, a3, a4, a5⟩ := s
  unfold SchIs Sch.spec at h
  unfold Sch.plain
  dsimp only at h ⊢
  cases ev with
  | true =>
    rw [if_pos rfl] at h ⊢
    subst h
    have ht1 : ∀ w' : World, (Instr.typeAssert (.iface 131 (.agg #[.int .i64 d])) 68 132 true).run Try.prog w' = .ok (.tuple #[.pointer none, .bool false]) w' := fun w' => by rfl
    have ht2 : ∀ w' : World, (Instr.typeAssert (.iface 131 (.agg #[.int .i64 d])) 68 131 true).run Try.prog w' = .ok (.tuple #[.agg #[.int .i64 d], .bool true]) w' := fun w' => by rfl
    go_enter Try.func53, Try.ntmps53
    go_wp2_with fail
    exact bodyPost_ret (v := .tuple #[.agg #[.bool true, .int .i64 d, .int .u64 0, .int .u64 0, .int .u64 0, .int .u64 0, .int .u64 0, .int .u64 0], .bool true]) (by simp [results, Try.results53, go_sem]) rfl ⟨rfl, ((Below.refl _ _).alloc (Nat.le_refl _) _).alloc (by simp) _⟩
  | false =>
    rw [if_neg (by decide)] at h ⊢
    obtain ⟨g, rfl, hr⟩ := h
    have ht1 : ∀ w' : World, (Instr.typeAssert (.iface 132 (.pointer (some ⟨g, 0, none⟩))) 68 132 true).run Try.prog w' = .ok (.tuple #[.pointer (some ⟨g, 0, none⟩), .bool true]) w' := fun w' => by rfl
    have hlt : g < w.heap.size := (Array.getElem?_eq_some_iff.1 hr).1
    have c0 : w.cell? ⟨g, 0, none⟩ = some (.int .u64 a0) := cell_of_row _ _ _ _ _ _ hr
    have c1 : w.cell? ⟨g, 1, none⟩ = some (.int .u64 a1) := cell_of_row _ _ _ _ _ _ hr
    have c2 : w.cell? ⟨g, 2, none⟩ = some (.int .u64 a2) := cell_of_row _ _ _ _ _ _ hr
    have c3 : w.cell? ⟨g, 3, none⟩ = some (.int .u64 a3) := cell_of_row _ _ _ _ _ _ hr
    have c4 : w.cell? ⟨g, 4, none⟩ = some (.int .u64 a4) := cell_of_row _ _ _ _ _ _ hr
    have c5 : w.cell? ⟨g, 5, none⟩ = some (.int .u64 a5) := cell_of_row _ _ _ _ _ _ hr
    clear hr
    go_enter Try.func53, Try.ntmps53
    go_wp2_with fail
    generalize hW : World.alloc w _ = w1
    have hB1 : Below w.heap.size w w1 := by rw [← hW]; exact (Below.refl _ _).alloc (Nat.le_refl _) _
    have hrow : w1.heap[w.heap.size]? = some (.cells noSch 27 (0, 0)) := by rw [← hW]; exact heap_alloc_new w _
    clear hW
    have d0 := (hB1.cell (p := ⟨g, 0, none⟩) hlt).trans c0
    have d1 := (hB1.cell (p := ⟨g, 1, none⟩) hlt).trans c1
    have d2 := (hB1.cell (p := ⟨g, 2, none⟩) hlt).trans c2
    have d3 := (hB1.cell (p := ⟨g, 3, none⟩) hlt).trans c3
    have d4 := (hB1.cell (p := ⟨g, 4, none⟩) hlt).trans c4
    have d5 := (hB1.cell (p := ⟨g, 5, none⟩) hlt).trans c5
    clear c0 c1 c2 c3 c4 c5
    refine start_ (n := 27) (S := fun w' => w'.cell? ⟨g, 0, none⟩ = some (.int .u64 a0) ∧ w'.cell? ⟨g, 1, none⟩ = some (.int .u64 a1) ∧ w'.cell? ⟨g, 2, none⟩ = some (.int .u64 a2) ∧ w'.cell? ⟨g, 3, none⟩ = some (.int .u64 a3) ∧ w'.cell? ⟨g, 4, none⟩ = some (.int .u64 a4) ∧ w'.cell? ⟨g, 5, none⟩ = some (.int .u64 a5)) (ds := [25]) #[false, false, false, false, false, false, false, false, false, false, false, false, false, false, false, false, false, false, false, false, false, false, false, false, false, false, false] (by kernel_rfl) rfl rfl ⟨d0, d1, d2, d3, d4, d5⟩ (fun hHeld => ?_)
    refine pure_ (i := 0) (N := some 15) (v := ?_) (a' := ?_) #[true, false, false, false, false, false, false, false, false, false, false, false, false, false, false, false, false, false, false, false, false, false, false, false, false, false, false] rfl rfl (by kernel_rfl) (fun _ _ _ h => h) (Or.inl ⟨by rfl, ?_⟩) ?_ ?_
    rotate_left
    · intro w'
      go_simp
      with_reducible rfl
    rotate_left
    · simp only [Act.put, List.setIfInBounds_toArray, List.set_cons_zero, List.set_cons_succ, i64_w, i32_w]
      rfl
    refine pure_ (i := 1) (N := some 16) (v := ?_) (a' := ?_) #[true, true, false, false, false, false, false, false, false, false, false, false, false, false, false, false, false, false, false, false, false, false, false, false, false, false, false] rfl rfl (by kernel_rfl) (fun _ _ _ h => h) (Or.inl ⟨by rfl, ?_⟩) ?_ ?_
    rotate_left
    · intro w'
      go_simp
      with_reducible rfl
    rotate_left
    · simp only [Act.put, List.setIfInBounds_toArray, List.set_cons_zero, List.set_cons_succ, i64_w, i32_w]
      rfl
    refine pure_ (i := 2) (N := some 17) (v := ?_) (a' := ?_) #[true, true, true, false, false, false, false, false, false, false, false, false, false, false, false, false, false, false, false, false, false, false, false, false, false, false, false] rfl rfl (by kernel_rfl) (fun _ _ _ h => h) (Or.inl ⟨by rfl, ?_⟩) ?_ ?_
    rotate_left
    · intro w'
      go_simp
      with_reducible rfl
    rotate_left
    · simp only [Act.put, List.setIfInBounds_toArray, List.set_cons_zero, List.set_cons_succ, i64_w, i32_w]
      rfl
    refine pure_ (i := 4) (N := some 19) (v := ?_) (a' := ?_) #[true, true, true, false, true, false, false, false, false, false, false, false, false, false, false, false, false, false, false, false, false, false, false, false, false, false, false] rfl rfl (by kernel_rfl) (fun _ _ _ h => h) (Or.inl ⟨by rfl, ?_⟩) ?_ ?_
    rotate_left
    · intro w'
      go_simp
      with_reducible rfl
    rotate_left
    · simp only [Act.put, List.setIfInBounds_toArray, List.set_cons_zero, List.set_cons_succ, i64_w, i32_w]
      rfl
    refine pure_ (i := 5) (N := some 20) (v := ?_) (a' := ?_) #[true, true, true, false, true, true, false, false, false, false, false, false, false, false, false, false, false, false, false, false, false, false, false, false, false, false, false] rfl rfl (by kernel_rfl) (fun _ _ _ h => h) (Or.inl ⟨by rfl, ?_⟩) ?_ ?_
    rotate_left
    · intro w'
      go_simp
      with_reducible rfl
    rotate_left
    · simp only [Act.put, List.setIfInBounds_toArray, List.set_cons_zero, List.set_cons_succ, i64_w, i32_w]
      rfl
    refine pure_ (i := 6) (N := some 21) (v := ?_) (a' := ?_) #[true, true, true, false, true, true, true, false, false, false, false, false, false, false, false, false, false, false, false, false, false, false, false, false, false, false, false] rfl rfl (by kernel_rfl) (fun _ _ _ h => h) (Or.inl ⟨by rfl, ?_⟩) ?_ ?_
    rotate_left
    · intro w'
      go_simp
      with_reducible rfl
    rotate_left
    · simp only [Act.put, List.setIfInBounds_toArray, List.set_cons_zero, List.set_cons_succ, i64_w, i32_w]
      rfl
    refine pure_ (i := 8) (N := some 23) (v := ?_) (a' := ?_) #[true, true, true, false, true, true, true, false, true, false, false, false, false, false, false, false, false, false, false, false, false, false, false, false, false, false, false] rfl rfl (by kernel_rfl) (fun _ _ _ h => h) (Or.inl ⟨by rfl, ?_⟩) ?_ ?_
    rotate_left
    · intro w'
      go_simp
      with_reducible rfl
    rotate_left
    · simp only [Act.put, List.setIfInBounds_toArray, List.set_cons_zero, List.set_cons_succ, i64_w, i32_w]
      rfl
    refine pure_ (i := 9) (N := some 24) (v := ?_) (a' := ?_) #[true, true, true, false, true, true, true, false, true, true, false, false, false, false, false, false, false, false, false, false, false, false, false, false, false, false, false] rfl rfl (by kernel_rfl) (fun _ _ _ h => h) (Or.inl ⟨by rfl, ?_⟩) ?_ ?_
    rotate_left
    · intro w'
      go_simp
      with_reducible rfl
    rotate_left
    · simp only [Act.put, List.setIfInBounds_toArray, List.set_cons_zero, List.set_cons_succ, i64_w, i32_w]
      rfl
    refine pure_ (i := 10) (N := some 25) (v := ?_) (a' := ?_) #[true, true, true, false, true, true, true, false, true, true, true, false, false, false, false, false, false, false, false, false, false, false, false, false, false, false, false] rfl rfl (by kernel_rfl) (fun _ _ _ h => h) (Or.inl ⟨by rfl, ?_⟩) ?_ ?_
    rotate_left
    · intro w'
      go_simp
      with_reducible rfl
    rotate_left
    · simp only [Act.put, List.setIfInBounds_toArray, List.set_cons_zero, List.set_cons_succ, i64_w, i32_w]
      rfl
    refine pure_ (i := 12) (N := some 27) (v := ?_) (a' := ?_) #[true, true, true, false, true, true, true, false, true, true, true, false, true, false, false, false, false, false, false, false, false, false, false, false, false, false, false] rfl rfl (by kernel_rfl) (fun _ _ _ h => h) (Or.inl ⟨by rfl, ?_⟩) ?_ ?_
    rotate_left
    · intro w'
      go_simp
      with_reducible rfl
    rotate_left
    · simp only [Act.put, List.setIfInBounds_toArray, List.set_cons_zero, List.set_cons_succ, i64_w, i32_w]
      rfl
    refine pure_ (i := 13) (N := some 28) (v := ?_) (a' := ?_) #[true, true, true, false, true, true, true, false, true, true, true, false, true, true, false, false, false, false, false, false, false, false, false, false, false, false, false] rfl rfl (by kernel_rfl) (fun _ _ _ h => h) (Or.inl ⟨by rfl, ?_⟩) ?_ ?_
    rotate_left
    · intro w'
      go_simp
      with_reducible rfl
    rotate_left
    · simp only [Act.put, List.setIfInBounds_toArray, List.set_cons_zero, List.set_cons_succ, i64_w, i32_w]
      rfl
    refine pure_ (i := 14) (N := some 29) (v := ?_) (a' := ?_) #[true, true, true, false, true, true, true, false, true, true, true, false, true, true, true, false, false, false, false, false, false, false, false, false, false, false, false] rfl rfl (by kernel_rfl) (fun _ _ _ h => h) (Or.inl ⟨by rfl, ?_⟩) ?_ ?_
    rotate_left
    · intro w'
      go_simp
      with_reducible rfl
    rotate_left
    · simp only [Act.put, List.setIfInBounds_toArray, List.set_cons_zero, List.set_cons_succ, i64_w, i32_w]
      rfl
    refine pure_ (i := 16) (N := some 31) (v := ?_) (a' := ?_) #[true, true, true, false, true, true, true, false, true, true, true, false, true, true, true, false, true, false, false, false, false, false, false, false, false, false, false] rfl rfl (by kernel_rfl) (fun _ _ _ h => h) (Or.inl ⟨by rfl, ?_⟩) ?_ ?_
    rotate_left
    · intro w'
      go_simp
      with_reducible rfl
    rotate_left
    · simp only [Act.put, List.setIfInBounds_toArray, List.set_cons_zero, List.set_cons_succ, i64_w, i32_w]
      rfl
    refine pure_ (i := 17) (N := some 32) (v := ?_) (a' := ?_) #[true, true, true, false, true, true, true, false, true, true, true, false, true, true, true, false, true, true, false, false, false, false, false, false, false, false, false] rfl rfl (by kernel_rfl) (fun _ _ _ h => h) (Or.inl ⟨by rfl, ?_⟩) ?_ ?_
    rotate_left
    · intro w'
      go_simp
      with_reducible rfl
    rotate_left
    · simp only [Act.put, List.setIfInBounds_toArray, List.set_cons_zero, List.set_cons_succ, i64_w, i32_w]
      rfl
    refine pure_ (i := 18) (N := some 33) (v := ?_) (a' := ?_) #[true, true, true, false, true, true, true, false, true, true, true, false, true, true, true, false, true, true, true, false, false, false, false, false, false, false, false] rfl rfl (by kernel_rfl) (fun _ _ _ h => h) (Or.inl ⟨by rfl, ?_⟩) ?_ ?_
    rotate_left
    · intro w'
      go_simp
      with_reducible rfl
    rotate_left
    · simp only [Act.put, List.setIfInBounds_toArray, List.set_cons_zero, List.set_cons_succ, i64_w, i32_w]
      rfl
    refine pure_ (i := 20) (N := some 35) (v := ?_) (a' := ?_) #[true, true, true, false, true, true, true, false, true, true, true, false, true, true, true, false, true, true, true, false, true, false, false, false, false, false, false] rfl rfl (by kernel_rfl) (fun _ _ _ h => h) (Or.inl ⟨by rfl, ?_⟩) ?_ ?_
    rotate_left
    · intro w'
      go_simp
      with_reducible rfl
    rotate_left
    · simp only [Act.put, List.setIfInBounds_toArray, List.set_cons_zero, List.set_cons_succ, i64_w, i32_w]
      rfl
    refine pure_ (i := 21) (N := some 36) (v := ?_) (a' := ?_) #[true, true, true, false, true, true, true, false, true, true, true, false, true, true, true, false, true, true, true, false, true, true, false, false, false, false, false] rfl rfl (by kernel_rfl) (fun _ _ _ h => h) (Or.inl ⟨by rfl, ?_⟩) ?_ ?_
    rotate_left
    · intro w'
      go_simp
      with_reducible rfl
    rotate_left
    · simp only [Act.put, List.setIfInBounds_toArray, List.set_cons_zero, List.set_cons_succ, i64_w, i32_w]
      rfl
    refine pure_ (i := 22) (N := some 37) (v := ?_) (a' := ?_) #[true, true, true, false, true, true, true, false, true, true, true, false, true, true, true, false, true, true, true, false, true, true, true, false, false, false, false] rfl rfl (by kernel_rfl) (fun _ _ _ h => h) (Or.inl ⟨by rfl, ?_⟩) ?_ ?_
    rotate_left
    · intro w'
      go_simp
      with_reducible rfl
    rotate_left
    · simp only [Act.put, List.setIfInBounds_toArray, List.set_cons_zero, List.set_cons_succ, i64_w, i32_w]
      rfl
    refine take_ (i := 3) (N := some 18) (v := ?_) (a' := ?_) #[true, true, true, true, true, true, true, false, true, true, true, false, true, true, true, false, true, true, true, false, true, true, true, false, false, false, false] rfl rfl (by kernel_rfl) (fun _ _ _ h => h) (Or.inl ⟨by rfl, ?_⟩) hHeld ?_ ?_
    rotate_left
    · rintro w' ⟨s0, s1, s2, s3, s4, s5⟩
      go_simp
      with_reducible rfl
    rotate_left
    · simp only [Act.put, List.setIfInBounds_toArray, List.set_cons_zero, List.set_cons_succ, i64_w, i32_w]
      rfl
    refine take_ (i := 7) (N := some 22) (v := ?_) (a' := ?_) #[true, true, true, true, true, true, true, true, true, true, true, false, true, true, true, false, true, true, true, false, true, true, true, false, false, false, false] rfl rfl (by kernel_rfl) (fun _ _ _ h => h) (Or.inl ⟨by rfl, ?_⟩) hHeld ?_ ?_
    rotate_left
    · rintro w' ⟨s0, s1, s2, s3, s4, s5⟩
      go_simp
      with_reducible rfl
    rotate_left
    · simp only [Act.put, List.setIfInBounds_toArray, List.set_cons_zero, List.set_cons_succ, i64_w, i32_w]
      rfl
    refine take_ (i := 11) (N := some 26) (v := ?_) (a' := ?_) #[true, true, true, true, true, true, true, true, true, true, true, true, true, true, true, false, true, true, true, false, true, true, true, false, false, false, false] rfl rfl (by kernel_rfl) (fun _ _ _ h => h) (Or.inl ⟨by rfl, ?_⟩) hHeld ?_ ?_
    rotate_left
    · rintro w' ⟨s0, s1, s2, s3, s4, s5⟩
      go_simp
      with_reducible rfl
    rotate_left
    · simp only [Act.put, List.setIfInBounds_toArray, List.set_cons_zero, List.set_cons_succ, i64_w, i32_w]
      rfl
    refine take_ (i := 15) (N := some 30) (v := ?_) (a' := ?_) #[true, true, true, true, true, true, true, true, true, true, true, true, true, true, true, true, true, true, true, false, true, true, true, false, false, false, false] rfl rfl (by kernel_rfl) (fun _ _ _ h => h) (Or.inl ⟨by rfl, ?_⟩) hHeld ?_ ?_
    rotate_left
    · rintro w' ⟨s0, s1, s2, s3, s4, s5⟩
      go_simp
      with_reducible rfl
    rotate_left
    · simp only [Act.put, List.setIfInBounds_toArray, List.set_cons_zero, List.set_cons_succ, i64_w, i32_w]
      rfl
    refine take_ (i := 19) (N := some 34) (v := ?_) (a' := ?_) #[true, true, true, true, true, true, true, true, true, true, true, true, true, true, true, true, true, true, true, true, true, true, true, false, false, false, false] rfl rfl (by kernel_rfl) (fun _ _ _ h => h) (Or.inl ⟨by rfl, ?_⟩) hHeld ?_ ?_
    rotate_left
    · rintro w' ⟨s0, s1, s2, s3, s4, s5⟩
      go_simp
      with_reducible rfl
    rotate_left
    · simp only [Act.put, List.setIfInBounds_toArray, List.set_cons_zero, List.set_cons_succ, i64_w, i32_w]
      rfl
    refine take_ (i := 23) (N := some 38) (v := ?_) (a' := ?_) #[true, true, true, true, true, true, true, true, true, true, true, true, true, true, true, true, true, true, true, true, true, true, true, true, false, false, false] rfl rfl (by kernel_rfl) (fun _ _ _ h => h) (Or.inl ⟨by rfl, ?_⟩) hHeld ?_ ?_
    rotate_left
    · rintro w' ⟨s0, s1, s2, s3, s4, s5⟩
      go_simp
      with_reducible rfl
    rotate_left
    · simp only [Act.put, List.setIfInBounds_toArray, List.set_cons_zero, List.set_cons_succ, i64_w, i32_w]
      rfl
    refine pure_ (i := 24) (N := some 39) (v := ?_) (a' := ?_) #[true, true, true, true, true, true, true, true, true, true, true, true, true, true, true, true, true, true, true, true, true, true, true, true, true, false, false] rfl rfl (by kernel_rfl) (fun _ _ _ h => h) (Or.inl ⟨by rfl, ?_⟩) ?_ ?_
    rotate_left
    · intro w'
      go_simp
      with_reducible rfl
    rotate_left
    · simp only [Act.put, List.setIfInBounds_toArray, List.set_cons_zero, List.set_cons_succ, i64_w, i32_w]
      rfl
    refine last_ (i := 25) (N := none) #[true, true, true, true, true, true, true, true, true, true, true, true, true, true, true, true, true, true, true, true, true, true, true, true, true, true, false] rfl rfl (by kernel_rfl) (by decide) (fun K hK => ?_)
    rw [if_pos (by rfl)]
    refine wp_store_row 27 _ _ rfl w.heap.size #[.bool false, .int .i64 0, .int .u64 a0, .int .u64 a1, .int .u64 a2, .int .u64 a3, .int .u64 a4, .int .u64 a5] rfl rfl 27 noSch hrow schSize rfl (by simp [Value.oneCell']) ?_
    refine hK.out _ _ ?_
    clear hK K
    refine pure_ (i := 26) (N := some 5) (v := ?_) (a' := ?_) #[true, true, true, true, true, true, true, true, true, true, true, true, true, true, true, true, true, true, true, true, true, true, true, true, true, true, true] rfl rfl (by kernel_rfl) (fun _ _ _ h => h) (Or.inl ⟨by rfl, ?_⟩) ?_ ?_
    rotate_left
    · intro w'
      go_simp
      with_reducible rfl
    rotate_left
    · simp only [Act.put, List.setIfInBounds_toArray, List.set_cons_zero, List.set_cons_succ, i64_w, i32_w]
      rfl
    refine done_ (by kernel_rfl) ?_
    go_wp2_with fail
    refine bodyPost_ret (v := .tuple #[.agg #[.bool false, .int .i64 0, .int .u64 a0, .int .u64 a1, .int .u64 a2, .int .u64 a3, .int .u64 a4, .int .u64 a5], .bool true]) ?_ rfl ⟨rfl, ?_⟩
    · exact results_sch (fn := Try.f53) (p := 4) (u := 5) rfl _ _ w.heap.size _ rfl rfl (setRow_heap _ _ _ _ _ _ hrow)
    · exact below_setRow (hB1.drew) (Nat.le_refl _) _
end Go.Proofs.Ytbgbeohiafiacaa.Sched
