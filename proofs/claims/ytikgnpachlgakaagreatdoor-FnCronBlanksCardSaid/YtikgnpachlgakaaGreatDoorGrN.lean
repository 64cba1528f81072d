/- Lemmas and walks on the way to the law, merged by wip/tools/pack.py: ParseCron, Meaning, LawBlanks. Conditions: none. -/
import Derived.Test.YtikgnpachlgakaaGreatDoorGrJ
import Derived.Test.YtikgnpachlgakaaGreatDoorGrK
import Derived.Laws.Rows
import Derived.Laws.Tables
import Derived.Laws.ResultCell
import Derived.Test.YtikgnpachlgakaaGreatDoorGrM
import Derived.Test.YtikgnpachlgakaaGreatDoorWEqStruct
import Derived.Test.YtikgnpachlgakaaGreatDoorPrB
namespace Go.Proofs.YtikgnpachlgakaaGreatDoor.Cron
open Go Go.RowKit Go.Proofs.YtikgnpachlgakaaGreatDoor.Text Go.Proofs.YtikgnpachlgakaaGreatDoor.Bits Go.Proofs.YtikgnpachlgakaaGreatDoorW.PrintWords Go.Proofs.YtikgnpachlgakaaGreatDoorW.PrintLast Go.Proofs.YtikgnpachlgakaaGreatDoorW.PrintMore
set_option linter.unusedVariables false
set_option linter.unusedSimpArgs false

/-- a schedule of bits as the thin package has it -/
def schedCells (l : List Nat) : Array Value := #[.bool false, .int .i64 0, .int .u64 (l.getD 0 0 : Nat), .int .u64 (l.getD 1 0 : Nat), .int .u64 (l.getD 2 0 : Nat), .int .u64 (l.getD 3 0 : Nat), .int .u64 (l.getD 4 0 : Nat), .int .u64 (l.getD 5 0 : Nat)]
def noSched : Array Value := #[.bool false, .int .i64 0, .int .u64 0, .int .u64 0, .int .u64 0, .int .u64 0, .int .u64 0, .int .u64 0]

def CronAns (w : World) (r : Option (List Nat)) (e : Ending) (w' : World) : Prop :=
  (match r with
    | some l => e = .returned (.tuple #[.agg (schedCells l), .bool true])
    | none => e = .returned (.tuple #[.agg noSched, .bool false])) ∧ Below w.heap.size w w'

theorem schedSize : (Tryz.prog.info? 29).map (·.size) = some 8 := by kernel_rfl

theorem results_sched {fn : Func} {p u : Tmp} (h : fn.results = #[.cell p 29, .tmp u]) (tmps : Array Value) (w : World) (g : Nat) (cs : Array Value) (h8 : cs.size = 8)
    (hp : tmps.getD p undef = .pointer (some ⟨g, 0, none⟩)) (hs : w.heap[g]? = some (.cells cs 29 (0, 0))) :
    (results fn tmps).run Tryz.prog w = .ok (.tuple #[.agg cs, tmps.getD u undef]) w := by
  rw [results_cell_tmp h, hp]
  simp only [asAddr, Sem.run_pure, Result.andThen_ok, run_loadVar_row w g _ _ _ _ _ hs Tryz.underlying29 rfl (by rw [schedSize, h8])]

section
variable {ops : Array Oper} {rest : List Oper} {o : Oper} {a : Act} {w : World} {Q : Exit → Act → World → Prop}
theorem wpList_store_sched (hg : o.guard = none) (x y : Operand) (ho : o.op = .store 29 x y) (g : Nat) (cs old : Array Value)
    (hx : a.eval x = .pointer (some ⟨g, 0, none⟩)) (hy : a.eval y = .agg cs) (h8 : cs.size = 8) (h1 : cs.all (·.oneCell') = true) (h8' : old.size = 8) (hs : w.heap[g]? = some (.cells old 29 (0, 0)))
    (h : wpList Tryz.prog ops Q rest (a.put o.dst undef) (w.setRow g cs)) : wpList Tryz.prog ops Q (o :: rest) a w :=
  wpList_store_row hg 29 x y ho g _ hx hy _ _ hs (by rw [schedSize, h8]) (by rw [h8, h8']) h1 h
end

theorem sched_one (l : List Nat) : (schedCells l).all (·.oneCell') = true := by simp [schedCells, Value.oneCell']
theorem noSched_one : noSched.all (·.oneCell') = true := by simp [noSched, Value.oneCell']

theorem plainSched_bad (s : Value) (t : TypeId) (x : Value) (w : World) :
    Calls Tryz.prog 19 #[s, .iface t x] w fun e w' => e = .returned (.tuple #[.agg noSched, .bool false]) ∧ Below w.heap.size w w' := by
  go_enter Tryz.func19, Tryz.ntmps19
  go_wp2_with fail
  exact bodyPost_ret (v := .tuple #[.agg noSched, .bool false]) (by simp [results, Tryz.results19, go_sem, noSched]) rfl ⟨rfl, (Below.refl _ _).alloc (Nat.le_refl _) _⟩

set_option maxRecDepth 100000 in
theorem plainSched_ok (l : List Nat) (g : Nat) (loc : Option Addr) (w : World) (hc : w.heap[g]? = some (.cells (specCells l loc) 66 (0, 0))) :
    Calls Tryz.prog 19 #[.iface 63 (.pointer (some ⟨g, 0, none⟩)), .nilIface] w fun e w' => e = .returned (.tuple #[.agg (schedCells l), .bool true]) ∧ Below w.heap.size w w' := by
  have hlt : g < w.heap.size := (Array.getElem?_eq_some_iff.1 hc).1
  have c0 : w.cell? ⟨g, 0, none⟩ = some (.int .u64 (l.getD 0 0 : Nat)) := cell_of_row _ _ _ _ _ _ hc
  have c1 : w.cell? ⟨g, 1, none⟩ = some (.int .u64 (l.getD 1 0 : Nat)) := cell_of_row _ _ _ _ _ _ hc
  have c2 : w.cell? ⟨g, 2, none⟩ = some (.int .u64 (l.getD 2 0 : Nat)) := cell_of_row _ _ _ _ _ _ hc
  have c3 : w.cell? ⟨g, 3, none⟩ = some (.int .u64 (l.getD 3 0 : Nat)) := cell_of_row _ _ _ _ _ _ hc
  have c4 : w.cell? ⟨g, 4, none⟩ = some (.int .u64 (l.getD 4 0 : Nat)) := cell_of_row _ _ _ _ _ _ hc
  have c5 : w.cell? ⟨g, 5, none⟩ = some (.int .u64 (l.getD 5 0 : Nat)) := cell_of_row _ _ _ _ _ _ hc
  unfold schedCells
  clear hc
  generalize l.getD 0 0 = a0 at *
  generalize l.getD 1 0 = a1 at *
  generalize l.getD 2 0 = a2 at *
  generalize l.getD 3 0 = a3 at *
  generalize l.getD 4 0 = a4 at *
  generalize l.getD 5 0 = a5 at *
  have hta : ∀ (v : Value) (w : World), (Instr.typeAssert (.iface 63 v) 46 63 true).run Tryz.prog w = .ok (.tuple #[v, .bool true]) w := fun v w => by rfl
  go_enter Tryz.func19, Tryz.ntmps19
  go_wp2_with fail
  generalize hW : World.alloc w _ = w1
  have hB1 : Below w.heap.size w w1 := by rw [← hW]; exact (Below.refl _ _).alloc (Nat.le_refl _) _
  have hrow : w1.heap[w.heap.size]? = some (.cells noSched 29 (0, 0)) := by rw [← hW]; exact heap_alloc_new w _
  clear hW
  have d0 := (hB1.cell (p := ⟨g, 0, none⟩) hlt).trans c0
  have d1 := (hB1.cell (p := ⟨g, 1, none⟩) hlt).trans c1
  have d2 := (hB1.cell (p := ⟨g, 2, none⟩) hlt).trans c2
  have d3 := (hB1.cell (p := ⟨g, 3, none⟩) hlt).trans c3
  have d4 := (hB1.cell (p := ⟨g, 4, none⟩) hlt).trans c4
  have d5 := (hB1.cell (p := ⟨g, 5, none⟩) hlt).trans c5
  clear c0 c1 c2 c3 c4 c5
  refine start_ (n := 27) (S := fun w' => w'.cell? ⟨g, 0, none⟩ = some (.int .u64 a0) ∧ w'.cell? ⟨g, 1, none⟩ = some (.int .u64 a1) ∧ w'.cell? ⟨g, 2, none⟩ = some (.int .u64 a2) ∧ w'.cell? ⟨g, 3, none⟩ = some (.int .u64 a3) ∧ w'.cell? ⟨g, 4, none⟩ = some (.int .u64 a4) ∧ w'.cell? ⟨g, 5, none⟩ = some (.int .u64 a5)) (ds := [25]) #[false, false, false, false, false, false, false, false, false, false, false, false, false, false, false, false, false, false, false, false, false, false, false, false, false, false, false] (by kernel_rfl) rfl rfl ⟨d0, d1, d2, d3, d4, d5⟩ (fun hHeld => ?_)
  refine pure_ (i := 0) (N := some 15) (v := ?_) (a' := ?_) #[true, false, false, false, false, false, false, false, false, false, false, false, false, false, false, false, false, false, false, false, false, false, false, false, false, false, false] rfl rfl (by kernel_rfl) (fun _ _ _ h => h) (Or.inl ⟨by rfl, ?_⟩) ?_ ?_
  rotate_left
  · intro w'
    go_simp
    with_reducible rfl
  rotate_left
  · simp only [Act.put, List.setIfInBounds_toArray, List.set_cons_zero, List.set_cons_succ, i64_w, i32_w]
    rfl
  refine pure_ (i := 1) (N := some 16) (v := ?_) (a' := ?_) #[true, true, false, false, false, false, false, false, false, false, false, false, false, false, false, false, false, false, false, false, false, false, false, false, false, false, false] rfl rfl (by kernel_rfl) (fun _ _ _ h => h) (Or.inl ⟨by rfl, ?_⟩) ?_ ?_
  rotate_left
  · intro w'
    go_simp
    with_reducible rfl
  rotate_left
  · simp only [Act.put, List.setIfInBounds_toArray, List.set_cons_zero, List.set_cons_succ, i64_w, i32_w]
    rfl
  refine pure_ (i := 2) (N := some 17) (v := ?_) (a' := ?_) #[true, true, true, false, false, false, false, false, false, false, false, false, false, false, false, false, false, false, false, false, false, false, false, false, false, false, false] rfl rfl (by kernel_rfl) (fun _ _ _ h => h) (Or.inl ⟨by rfl, ?_⟩) ?_ ?_
  rotate_left
  · intro w'
    go_simp
    with_reducible rfl
  rotate_left
  · simp only [Act.put, List.setIfInBounds_toArray, List.set_cons_zero, List.set_cons_succ, i64_w, i32_w]
    rfl
  refine pure_ (i := 4) (N := some 19) (v := ?_) (a' := ?_) #[true, true, true, false, true, false, false, false, false, false, false, false, false, false, false, false, false, false, false, false, false, false, false, false, false, false, false] rfl rfl (by kernel_rfl) (fun _ _ _ h => h) (Or.inl ⟨by rfl, ?_⟩) ?_ ?_
  rotate_left
  · intro w'
    go_simp
    with_reducible rfl
  rotate_left
  · simp only [Act.put, List.setIfInBounds_toArray, List.set_cons_zero, List.set_cons_succ, i64_w, i32_w]
    rfl
  refine pure_ (i := 5) (N := some 20) (v := ?_) (a' := ?_) #[true, true, true, false, true, true, false, false, false, false, false, false, false, false, false, false, false, false, false, false, false, false, false, false, false, false, false] rfl rfl (by kernel_rfl) (fun _ _ _ h => h) (Or.inl ⟨by rfl, ?_⟩) ?_ ?_
  rotate_left
  · intro w'
    go_simp
    with_reducible rfl
  rotate_left
  · simp only [Act.put, List.setIfInBounds_toArray, List.set_cons_zero, List.set_cons_succ, i64_w, i32_w]
    rfl
  refine pure_ (i := 6) (N := some 21) (v := ?_) (a' := ?_) #[true, true, true, false, true, true, true, false, false, false, false, false, false, false, false, false, false, false, false, false, false, false, false, false, false, false, false] rfl rfl (by kernel_rfl) (fun _ _ _ h => h) (Or.inl ⟨by rfl, ?_⟩) ?_ ?_
  rotate_left
  · intro w'
    go_simp
    with_reducible rfl
  rotate_left
  · simp only [Act.put, List.setIfInBounds_toArray, List.set_cons_zero, List.set_cons_succ, i64_w, i32_w]
    rfl
  refine pure_ (i := 8) (N := some 23) (v := ?_) (a' := ?_) #[true, true, true, false, true, true, true, false, true, false, false, false, false, false, false, false, false, false, false, false, false, false, false, false, false, false, false] rfl rfl (by kernel_rfl) (fun _ _ _ h => h) (Or.inl ⟨by rfl, ?_⟩) ?_ ?_
  rotate_left
  · intro w'
    go_simp
    with_reducible rfl
  rotate_left
  · simp only [Act.put, List.setIfInBounds_toArray, List.set_cons_zero, List.set_cons_succ, i64_w, i32_w]
    rfl
  refine pure_ (i := 9) (N := some 24) (v := ?_) (a' := ?_) #[true, true, true, false, true, true, true, false, true, true, false, false, false, false, false, false, false, false, false, false, false, false, false, false, false, false, false] rfl rfl (by kernel_rfl) (fun _ _ _ h => h) (Or.inl ⟨by rfl, ?_⟩) ?_ ?_
  rotate_left
  · intro w'
    go_simp
    with_reducible rfl
  rotate_left
  · simp only [Act.put, List.setIfInBounds_toArray, List.set_cons_zero, List.set_cons_succ, i64_w, i32_w]
    rfl
  refine pure_ (i := 10) (N := some 25) (v := ?_) (a' := ?_) #[true, true, true, false, true, true, true, false, true, true, true, false, false, false, false, false, false, false, false, false, false, false, false, false, false, false, false] rfl rfl (by kernel_rfl) (fun _ _ _ h => h) (Or.inl ⟨by rfl, ?_⟩) ?_ ?_
  rotate_left
  · intro w'
    go_simp
    with_reducible rfl
  rotate_left
  · simp only [Act.put, List.setIfInBounds_toArray, List.set_cons_zero, List.set_cons_succ, i64_w, i32_w]
    rfl
  refine pure_ (i := 12) (N := some 27) (v := ?_) (a' := ?_) #[true, true, true, false, true, true, true, false, true, true, true, false, true, false, false, false, false, false, false, false, false, false, false, false, false, false, false] rfl rfl (by kernel_rfl) (fun _ _ _ h => h) (Or.inl ⟨by rfl, ?_⟩) ?_ ?_
  rotate_left
  · intro w'
    go_simp
    with_reducible rfl
  rotate_left
  · simp only [Act.put, List.setIfInBounds_toArray, List.set_cons_zero, List.set_cons_succ, i64_w, i32_w]
    rfl
  refine pure_ (i := 13) (N := some 28) (v := ?_) (a' := ?_) #[true, true, true, false, true, true, true, false, true, true, true, false, true, true, false, false, false, false, false, false, false, false, false, false, false, false, false] rfl rfl (by kernel_rfl) (fun _ _ _ h => h) (Or.inl ⟨by rfl, ?_⟩) ?_ ?_
  rotate_left
  · intro w'
    go_simp
    with_reducible rfl
  rotate_left
  · simp only [Act.put, List.setIfInBounds_toArray, List.set_cons_zero, List.set_cons_succ, i64_w, i32_w]
    rfl
  refine pure_ (i := 14) (N := some 29) (v := ?_) (a' := ?_) #[true, true, true, false, true, true, true, false, true, true, true, false, true, true, true, false, false, false, false, false, false, false, false, false, false, false, false] rfl rfl (by kernel_rfl) (fun _ _ _ h => h) (Or.inl ⟨by rfl, ?_⟩) ?_ ?_
  rotate_left
  · intro w'
    go_simp
    with_reducible rfl
  rotate_left
  · simp only [Act.put, List.setIfInBounds_toArray, List.set_cons_zero, List.set_cons_succ, i64_w, i32_w]
    rfl
  refine pure_ (i := 16) (N := some 31) (v := ?_) (a' := ?_) #[true, true, true, false, true, true, true, false, true, true, true, false, true, true, true, false, true, false, false, false, false, false, false, false, false, false, false] rfl rfl (by kernel_rfl) (fun _ _ _ h => h) (Or.inl ⟨by rfl, ?_⟩) ?_ ?_
  rotate_left
  · intro w'
    go_simp
    with_reducible rfl
  rotate_left
  · simp only [Act.put, List.setIfInBounds_toArray, List.set_cons_zero, List.set_cons_succ, i64_w, i32_w]
    rfl
  refine pure_ (i := 17) (N := some 32) (v := ?_) (a' := ?_) #[true, true, true, false, true, true, true, false, true, true, true, false, true, true, true, false, true, true, false, false, false, false, false, false, false, false, false] rfl rfl (by kernel_rfl) (fun _ _ _ h => h) (Or.inl ⟨by rfl, ?_⟩) ?_ ?_
  rotate_left
  · intro w'
    go_simp
    with_reducible rfl
  rotate_left
  · simp only [Act.put, List.setIfInBounds_toArray, List.set_cons_zero, List.set_cons_succ, i64_w, i32_w]
    rfl
  refine pure_ (i := 18) (N := some 33) (v := ?_) (a' := ?_) #[true, true, true, false, true, true, true, false, true, true, true, false, true, true, true, false, true, true, true, false, false, false, false, false, false, false, false] rfl rfl (by kernel_rfl) (fun _ _ _ h => h) (Or.inl ⟨by rfl, ?_⟩) ?_ ?_
  rotate_left
  · intro w'
    go_simp
    with_reducible rfl
  rotate_left
  · simp only [Act.put, List.setIfInBounds_toArray, List.set_cons_zero, List.set_cons_succ, i64_w, i32_w]
    rfl
  refine pure_ (i := 20) (N := some 35) (v := ?_) (a' := ?_) #[true, true, true, false, true, true, true, false, true, true, true, false, true, true, true, false, true, true, true, false, true, false, false, false, false, false, false] rfl rfl (by kernel_rfl) (fun _ _ _ h => h) (Or.inl ⟨by rfl, ?_⟩) ?_ ?_
  rotate_left
  · intro w'
    go_simp
    with_reducible rfl
  rotate_left
  · simp only [Act.put, List.setIfInBounds_toArray, List.set_cons_zero, List.set_cons_succ, i64_w, i32_w]
    rfl
  refine pure_ (i := 21) (N := some 36) (v := ?_) (a' := ?_) #[true, true, true, false, true, true, true, false, true, true, true, false, true, true, true, false, true, true, true, false, true, true, false, false, false, false, false] rfl rfl (by kernel_rfl) (fun _ _ _ h => h) (Or.inl ⟨by rfl, ?_⟩) ?_ ?_
  rotate_left
  · intro w'
    go_simp
    with_reducible rfl
  rotate_left
  · simp only [Act.put, List.setIfInBounds_toArray, List.set_cons_zero, List.set_cons_succ, i64_w, i32_w]
    rfl
  refine pure_ (i := 22) (N := some 37) (v := ?_) (a' := ?_) #[true, true, true, false, true, true, true, false, true, true, true, false, true, true, true, false, true, true, true, false, true, true, true, false, false, false, false] rfl rfl (by kernel_rfl) (fun _ _ _ h => h) (Or.inl ⟨by rfl, ?_⟩) ?_ ?_
  rotate_left
  · intro w'
    go_simp
    with_reducible rfl
  rotate_left
  · simp only [Act.put, List.setIfInBounds_toArray, List.set_cons_zero, List.set_cons_succ, i64_w, i32_w]
    rfl
  refine take_ (i := 3) (N := some 18) (v := ?_) (a' := ?_) #[true, true, true, true, true, true, true, false, true, true, true, false, true, true, true, false, true, true, true, false, true, true, true, false, false, false, false] rfl rfl (by kernel_rfl) (fun _ _ _ h => h) (Or.inl ⟨by rfl, ?_⟩) hHeld ?_ ?_
  rotate_left
  · rintro w' ⟨s0, s1, s2, s3, s4, s5⟩
    go_simp
    with_reducible rfl
  rotate_left
  · simp only [Act.put, List.setIfInBounds_toArray, List.set_cons_zero, List.set_cons_succ, i64_w, i32_w]
    rfl
  refine take_ (i := 7) (N := some 22) (v := ?_) (a' := ?_) #[true, true, true, true, true, true, true, true, true, true, true, false, true, true, true, false, true, true, true, false, true, true, true, false, false, false, false] rfl rfl (by kernel_rfl) (fun _ _ _ h => h) (Or.inl ⟨by rfl, ?_⟩) hHeld ?_ ?_
  rotate_left
  · rintro w' ⟨s0, s1, s2, s3, s4, s5⟩
    go_simp
    with_reducible rfl
  rotate_left
  · simp only [Act.put, List.setIfInBounds_toArray, List.set_cons_zero, List.set_cons_succ, i64_w, i32_w]
    rfl
  refine take_ (i := 11) (N := some 26) (v := ?_) (a' := ?_) #[true, true, true, true, true, true, true, true, true, true, true, true, true, true, true, false, true, true, true, false, true, true, true, false, false, false, false] rfl rfl (by kernel_rfl) (fun _ _ _ h => h) (Or.inl ⟨by rfl, ?_⟩) hHeld ?_ ?_
  rotate_left
  · rintro w' ⟨s0, s1, s2, s3, s4, s5⟩
    go_simp
    with_reducible rfl
  rotate_left
  · simp only [Act.put, List.setIfInBounds_toArray, List.set_cons_zero, List.set_cons_succ, i64_w, i32_w]
    rfl
  refine take_ (i := 15) (N := some 30) (v := ?_) (a' := ?_) #[true, true, true, true, true, true, true, true, true, true, true, true, true, true, true, true, true, true, true, false, true, true, true, false, false, false, false] rfl rfl (by kernel_rfl) (fun _ _ _ h => h) (Or.inl ⟨by rfl, ?_⟩) hHeld ?_ ?_
  rotate_left
  · rintro w' ⟨s0, s1, s2, s3, s4, s5⟩
    go_simp
    with_reducible rfl
  rotate_left
  · simp only [Act.put, List.setIfInBounds_toArray, List.set_cons_zero, List.set_cons_succ, i64_w, i32_w]
    rfl
  refine take_ (i := 19) (N := some 34) (v := ?_) (a' := ?_) #[true, true, true, true, true, true, true, true, true, true, true, true, true, true, true, true, true, true, true, true, true, true, true, false, false, false, false] rfl rfl (by kernel_rfl) (fun _ _ _ h => h) (Or.inl ⟨by rfl, ?_⟩) hHeld ?_ ?_
  rotate_left
  · rintro w' ⟨s0, s1, s2, s3, s4, s5⟩
    go_simp
    with_reducible rfl
  rotate_left
  · simp only [Act.put, List.setIfInBounds_toArray, List.set_cons_zero, List.set_cons_succ, i64_w, i32_w]
    rfl
  refine take_ (i := 23) (N := some 38) (v := ?_) (a' := ?_) #[true, true, true, true, true, true, true, true, true, true, true, true, true, true, true, true, true, true, true, true, true, true, true, true, false, false, false] rfl rfl (by kernel_rfl) (fun _ _ _ h => h) (Or.inl ⟨by rfl, ?_⟩) hHeld ?_ ?_
  rotate_left
  · rintro w' ⟨s0, s1, s2, s3, s4, s5⟩
    go_simp
    with_reducible rfl
  rotate_left
  · simp only [Act.put, List.setIfInBounds_toArray, List.set_cons_zero, List.set_cons_succ, i64_w, i32_w]
    rfl
  refine pure_ (i := 24) (N := some 39) (v := ?_) (a' := ?_) #[true, true, true, true, true, true, true, true, true, true, true, true, true, true, true, true, true, true, true, true, true, true, true, true, true, false, false] rfl rfl (by kernel_rfl) (fun _ _ _ h => h) (Or.inl ⟨by rfl, ?_⟩) ?_ ?_
  rotate_left
  · intro w'
    go_simp
    with_reducible rfl
  rotate_left
  · simp only [Act.put, List.setIfInBounds_toArray, List.set_cons_zero, List.set_cons_succ, i64_w, i32_w]
    rfl
  refine last_ (i := 25) (N := none) #[true, true, true, true, true, true, true, true, true, true, true, true, true, true, true, true, true, true, true, true, true, true, true, true, true, true, false] rfl rfl (by kernel_rfl) (by decide) (fun K hK => ?_)
  rw [if_pos (by rfl)]
  refine wp_store_row 29 _ _ rfl w.heap.size #[.bool false, .int .i64 0, .int .u64 a0, .int .u64 a1, .int .u64 a2, .int .u64 a3, .int .u64 a4, .int .u64 a5] rfl rfl 29 noSched hrow schedSize rfl (by simp [Value.oneCell']) ?_
  refine hK.out _ _ ?_
  clear hK K
  refine pure_ (i := 26) (N := some 5) (v := ?_) (a' := ?_) #[true, true, true, true, true, true, true, true, true, true, true, true, true, true, true, true, true, true, true, true, true, true, true, true, true, true, true] rfl rfl (by kernel_rfl) (fun _ _ _ h => h) (Or.inl ⟨by rfl, ?_⟩) ?_ ?_
  rotate_left
  · intro w'
    go_simp
    with_reducible rfl
  rotate_left
  · simp only [Act.put, List.setIfInBounds_toArray, List.set_cons_zero, List.set_cons_succ, i64_w, i32_w]
    rfl
  refine done_ (by kernel_rfl) ?_
  go_wp2_with fail
  refine bodyPost_ret (v := .tuple #[.agg #[.bool false, .int .i64 0, .int .u64 a0, .int .u64 a1, .int .u64 a2, .int .u64 a3, .int .u64 a4, .int .u64 a5], .bool true]) ?_ rfl ⟨rfl, ?_⟩
  · exact results_sched (fn := Tryz.f19) (p := 4) (u := 5) rfl _ _ w.heap.size _ rfl rfl (setRow_heap _ _ _ _ _ _ hrow)
  · exact below_setRow (hB1.drew) (Nat.le_refl _) _

theorem twoB_iff (o : Nat) : twoB o = true ↔ 0 < o &&& 128 ∧ 0 < o &&& 2 := by
  unfold twoB
  rw [Bool.and_eq_true, decide_eq_true_iff, decide_eq_true_iff]

set_option maxRecDepth 100000 in
theorem parseCron_any (o : Nat) (ho : o < 512) (s : ByteArray) (hs : s.size ≤ 4294967296) (h1 : Lib.hasPrefix s.data.toList [84, 90, 61] = false) (h2 : Lib.hasPrefix s.data.toList [67, 82, 79, 78, 95, 84, 90, 61] = false)
    (h3 : Lib.hasPrefix s.data.toList [64] = false) (w : World) (hg : G w) :
    Calls Tryz.prog 9 #[.int .i64 o, .string s] w (CronAns w (if twoB o = true then none else parseS s o)) := by
  by_cases htw : twoB o = true
  · rw [if_pos htw]
    have HP := Lib.hid (fun w' => parser_bad o ho ((twoB_iff o).1 htw) w')
    clear h1 h2 h3 htw
    go_enter Tryz.func9, Tryz.ntmps9
    go_wp2_with fail
    refine (HP.out _).mono ?_
    rintro e w1 ⟨rfl, hb1⟩
    have hrow : w1.heap[w.heap.size]? = some (.cells noSched 29 (0, 0)) := (hb1.block _ (by simp)).trans (heap_alloc_new w _)
    have hB1 : Below w.heap.size w w1 := ((Below.refl _ _).alloc (Nat.le_refl _) _).trans (hb1.mono (by simp))
    have hlt1 : w.heap.size < w1.heap.size := (Array.getElem?_eq_some_iff.1 hrow).1
    clear hb1
    have hrow2 : (w1.alloc (.cells #[.int .i64 0] 41)).heap[w.heap.size]? = some (.cells noSched 29 (0, 0)) := ((Below.refl w1.heap.size w1).alloc (Nat.le_refl _) _ |>.block _ hlt1).trans hrow
    go_wp2_with (refine wpList_store_sched rfl _ _ rfl w.heap.size noSched noSched rfl rfl rfl noSched_one rfl hrow2 ?_)
    refine bodyPost_ret (v := .tuple #[.agg noSched, .bool false]) ?_ rfl ⟨rfl, ?_⟩
    · exact results_sched (fn := Tryz.f9) (p := 4) (u := 5) rfl _ _ w.heap.size _ rfl rfl (setRow_heap _ _ _ _ _ _ hrow2)
    · exact below_setRow (hB1.alloc hB1.size _) (Nat.le_refl _) _
  · rw [if_neg htw]
    have HP := Lib.hid (fun w' => parser_ok o ho (fun h => htw ((twoB_iff o).2 h)) w')
    have HC := Lib.hid (fun w' hg' => parsePlain o ho s hs h1 h2 h3 w' hg')
    have HG := Lib.hid (fun w' (h : Below w.heap.size w w') => hg.below h)
    clear h1 h2 h3 htw hg
    generalize parseS s o = r at *
    go_enter Tryz.func9, Tryz.ntmps9
    go_wp2_with fail
    refine (HP.out _).mono ?_
    rintro e w1 ⟨rfl, hb1⟩
    have hrow : w1.heap[w.heap.size]? = some (.cells noSched 29 (0, 0)) := (hb1.block _ (by simp)).trans (heap_alloc_new w _)
    have hB1 : Below w.heap.size w w1 := ((Below.refl _ _).alloc (Nat.le_refl _) _).trans (hb1.mono (by simp))
    have hlt1 : w.heap.size < w1.heap.size := (Array.getElem?_eq_some_iff.1 hrow).1
    clear hb1
    have HB1 := Lib.hid hB1
    have HROW := Lib.hid hrow
    clear hB1 hrow
    go_wp2_with fail
    refine (HC.out _ (HG.out _ (HB1.out.alloc HB1.out.size _))).mono ?_
    intro e w2 hP
    obtain ⟨hres, hb2⟩ := hP
    have HB2 := Lib.hid (below_of_le (HB1.out.alloc HB1.out.size _) hb2)
    have hrow2 : w2.heap[w.heap.size]? = some (.cells noSched 29 (0, 0)) := (hb2.block _ (by simp; omega)).trans (((Below.refl w1.heap.size w1).alloc (Nat.le_refl _) _ |>.block _ hlt1).trans HROW.out)
    have HROW2 := Lib.hid hrow2
    clear hb2 hrow2 HC HG HP HROW HB1
    cases r with
    | none =>
      obtain ⟨t, x, rfl⟩ := hres
      go_wp2_with fail
      refine (plainSched_bad _ _ _ _).mono ?_
      rintro e w3 ⟨rfl, hb3⟩
      have hrow3 := (hb3.block _ (Array.getElem?_eq_some_iff.1 HROW2.out).1).trans HROW2.out
      have HROW3 := Lib.hid hrow3
      have HB3 := Lib.hid (below_of_le HB2.out hb3)
      clear hrow3 hb3
      go_wp2_with (refine wpList_store_sched rfl _ _ rfl w.heap.size noSched noSched rfl rfl rfl noSched_one rfl HROW3.out ?_)
      refine bodyPost_ret (v := .tuple #[.agg noSched, .bool false]) ?_ rfl ⟨rfl, ?_⟩
      · exact results_sched (fn := Tryz.f9) (p := 4) (u := 5) rfl _ _ w.heap.size _ rfl rfl (setRow_heap _ _ _ _ _ _ HROW3.out)
      · exact below_setRow HB3.out (Nat.le_refl _) _
    | some l =>
      obtain ⟨g, rfl, hg⟩ := hres
      have HGG := Lib.hid hg
      clear hg
      go_wp2_with fail
      refine (plainSched_ok l g none _ HGG.out).mono ?_
      rintro e w3 ⟨rfl, hb3⟩
      have hrow3 := (hb3.block _ (Array.getElem?_eq_some_iff.1 HROW2.out).1).trans HROW2.out
      have HROW3 := Lib.hid hrow3
      have HB3 := Lib.hid (below_of_le HB2.out hb3)
      clear hrow3 hb3
      go_wp2_with (refine wpList_store_sched rfl _ _ rfl w.heap.size (schedCells l) noSched rfl rfl rfl (sched_one l) rfl HROW3.out ?_)
      refine bodyPost_ret (v := .tuple #[.agg (schedCells l), .bool true]) ?_ rfl ⟨rfl, ?_⟩
      · exact results_sched (fn := Tryz.f9) (p := 4) (u := 5) rfl _ _ w.heap.size _ rfl rfl (setRow_heap _ _ _ _ _ _ HROW3.out)
      · exact below_setRow HB3.out (Nat.le_refl _) _
end Go.Proofs.YtikgnpachlgakaaGreatDoor.Cron

namespace Go.Proofs.YtikgnpachlgakaaGreatDoor.Cron
open Go Go.RowKit Go.Proofs.YtikgnpachlgakaaGreatDoor.Text Go.Proofs.YtikgnpachlgakaaGreatDoor.Bits Go.Proofs.YtikgnpachlgakaaGreatDoorW.PrintWords Go.Proofs.YtikgnpachlgakaaGreatDoorW.PrintLast Go.Proofs.YtikgnpachlgakaaGreatDoorW.PrintMore Go.Proofs.YtikgnpachlgakaaGreatDoor.Pr
set_option linter.unusedVariables false
set_option linter.unusedSimpArgs false

section
variable {P : Program}
theorem fold_size (off : Nat) : ∀ (l : List (Value × Nat)) (cells : Array Value), (l.foldl (fun cs (x : Value × Nat) => cs.setIfInBounds (off + x.2) x.1) cells).size = cells.size
  | [], cells => rfl
  | x :: l, cells => by rw [List.foldl_cons, fold_size off l]; simp

theorem fold_one (off : Nat) : ∀ (l : List (Value × Nat)) (cells : Array Value), (∀ x ∈ l, x.1.oneCell' = true) → (∀ v ∈ cells, v.oneCell' = true) → ∀ v ∈ l.foldl (fun cs (x : Value × Nat) => cs.setIfInBounds (off + x.2) x.1) cells, v.oneCell' = true
  | [], cells, _, h => h
  | x :: l, cells, hl, h => by
    rw [List.foldl_cons]
    refine fold_one off l _ (fun y hy => hl y (List.mem_cons_of_mem _ hy)) fun v hv => ?_
    rw [Array.mem_iff_getElem?] at hv
    obtain ⟨i, hi⟩ := hv
    rw [Array.getElem?_setIfInBounds] at hi
    split at hi
    · split at hi
      · cases hi; exact hl x List.mem_cons_self
      · cases hi
    · exact h v (Array.mem_iff_getElem?.2 ⟨i, hi⟩)

theorem fill_part {place : Nat → Option (Nat × Nat)} {z : Array Value} {i : Nat} {v0 v : Value} (h : (Instr.fill place z [(i, v0)]).isSome = true) (hs : v.cells.size = v0.cells.size) (hz : z.all (·.oneCell') = true) (hv : v.cells.all (·.oneCell') = true) :
    ∃ r, Instr.fill place z [(i, v)] = some r ∧ r.size = z.size ∧ r.all (·.oneCell') = true := by
  unfold Instr.fill at h ⊢
  cases hp : place i with
  | none => simp [hp] at h
  | some q =>
    obtain ⟨off, size⟩ := q
    simp only [hp] at h ⊢
    rw [hs]
    by_cases hc : (decide (v0.cells.size ≠ size) || decide (off + v0.cells.size > z.size)) = true
    · simp only [hc, if_true] at h
      simp at h
    · simp only [hc] at h ⊢
      simp only [Bool.false_eq_true, if_false, Instr.fill]
      refine ⟨_, rfl, ?_, ?_⟩
      · rw [← Array.foldl_toList]
        exact fold_size off _ _
      · rw [← Array.foldl_toList, Array.all_eq_true_iff_forall_mem]
        rw [Array.all_eq_true_iff_forall_mem] at hz hv
        refine fold_one off _ _ (fun x hx => ?_) hz
        rw [Array.toList_zipIdx] at hx
        exact hv _ (Array.mem_toList_iff.1 (List.fst_mem_of_mem_zipIdx hx))

theorem built_part {t : TypeId} {i : Nat} {z0 : Array Value} {v0 v : Value} (h0 : P.built t [] = some z0) (hv0 : (P.built t [(i, v0)]).isSome = true) (hs : v.cells.size = v0.cells.size) (hz : z0.all (·.oneCell') = true) (hv : v.cells.all (·.oneCell') = true) :
    ∃ r, P.built t [(i, v)] = some r ∧ r.size = z0.size ∧ r.all (·.oneCell') = true := by
  unfold Program.built at h0 hv0 ⊢
  cases hit : P.info? t with
  | none => simp [hit] at h0
  | some it =>
    cases hu : P.underlying t with
    | none => simp [hit, hu] at h0
    | some d =>
      cases hzz : it.zero with
      | none => cases d <;> simp [hit, hu, hzz] at h0
      | some z =>
        cases d <;> try (simp [hit, hu] at h0; done)
        case array n e =>
          cases hie : P.info? e with
          | none => simp [hit, hu, hzz, hie] at h0
          | some ie =>
            simp only [hit, hu, hzz, hie, Instr.fill, Option.some.injEq] at h0
            simp only [hit, hu, hzz, hie] at hv0 ⊢
            subst h0
            exact fill_part hv0 hs hz hv
        case struct fields =>
          cases hp : fields.toList.mapM (fun f => (P.info? f.type).map fun i => (f.offset, i.size)) with
          | none => simp [hit, hu, hzz, hp] at h0
          | some places =>
            simp only [hit, hu, hzz, hp, Instr.fill, Option.some.injEq] at h0
            simp only [hit, hu, hzz, hp] at hv0 ⊢
            subst h0
            exact fill_part hv0 hs hz hv
end

noncomputable def zeroM : Array Value := (Tryz.prog.built 57 []).getD #[]
theorem builtM : Tryz.prog.built 57 [] = some zeroM := by kernel_rfl
theorem zeroM_size : zeroM.size = 387 := by kernel_rfl
theorem zeroM_one : zeroM.all (·.oneCell') = true := by kernel_rfl
theorem sizeM : (Tryz.prog.info? 57).map (·.size) = some 387 := by kernel_rfl
theorem run_alloc_M (w : World) : (Instr.alloc 57 true (.tuple #[])).run Tryz.prog w = .ok (.pointer (some ⟨w.heap.size, 0, none⟩)) (w.alloc (.cells zeroM 57 (0, 0))) := by kernel_rfl
theorem zeroM_row (w : World) : RowN (w.alloc (.cells zeroM 57 (0, 0))) w.heap.size 57 387 := ⟨zeroM, heap_alloc_new w _, zeroM_size, zeroM_one⟩
theorem builtMF0 : (Tryz.prog.built 57 [(2, .agg zeroF)]).isSome = true := by kernel_rfl

set_option maxRecDepth 100000 in
theorem builtMF (cs : Array Value) (hn : cs.size = 384) (h1 : cs.all (·.oneCell') = true) : ∃ r, Tryz.prog.built 57 [(2, .agg cs)] = some r ∧ r.size = 387 ∧ r.all (·.oneCell') = true := by
  obtain ⟨r, h2, h3, h4⟩ := built_part (v := .agg cs) builtM builtMF0 (by show cs.size = zeroF.size; rw [hn, zeroF_size]) zeroM_one h1
  exact ⟨r, h2, h3.trans zeroM_size, h4⟩

section
variable {ops : Array Oper} {rest : List Oper} {o : Oper} {a : Act} {w : World} {Q : Exit → Act → World → Prop}
theorem wpList_build_M (hg : o.guard = none) (ho : o.op = .build 57 #[])
    (h : wpList Tryz.prog ops Q rest (a.put o.dst (.agg zeroM)) w) : wpList Tryz.prog ops Q (o :: rest) a w := by
  have e : ((#[] : Array (Nat × Operand)).map fun (i, x) => (i, a.eval x)).toList = [] := by simp
  refine wpList_build hg 57 #[] ho (by rw [e, builtM]; exact Option.isSome_some) ?_
  rw [e, builtM, Option.getD_some]
  exact h

theorem wpList_build_MF (hg : o.guard = none) (x : Operand) (ho : o.op = .build 57 #[(2, x)]) (cs r : Array Value) (hb : Tryz.prog.built 57 [(2, .agg cs)] = some r) (hx : a.eval x = .agg cs)
    (h : wpList Tryz.prog ops Q rest (a.put o.dst (.agg r)) w) : wpList Tryz.prog ops Q (o :: rest) a w := by
  have e : ((#[(2, x)] : Array (Nat × Operand)).map fun (i, x) => (i, a.eval x)).toList = [(2, .agg cs)] := by simp [hx]
  refine wpList_build hg 57 #[(2, x)] ho (by rw [e, hb]; exact Option.isSome_some) ?_
  rw [e, hb, Option.getD_some]
  exact h
end

theorem results_M {fn : Func} {p u : Tmp} (h : fn.results = #[.cell p 57, .tmp u]) (tmps : Array Value) (w : World) (g : Nat) (cs : Array Value) (hn : cs.size = 387)
    (hp : tmps.getD p undef = .pointer (some ⟨g, 0, none⟩)) (hs : w.heap[g]? = some (.cells cs 57 (0, 0))) :
    (results fn tmps).run Tryz.prog w = .ok (.tuple #[.agg cs, tmps.getD u undef]) w := by
  rw [results_cell_tmp h, hp]
  simp only [asAddr, Sem.run_pure, Result.andThen_ok, run_loadVar_row w g _ _ _ _ _ hs Tryz.underlying57 rfl (by rw [sizeM, hn])]

theorem fillB_mem : ∀ (bs : List Bool) (ds fs : List ByteArray), ∀ x ∈ fillB bs ds fs, x ∈ ds ∨ x ∈ fs
  | [], _, _, x, h => by unfold fillB at h; cases h
  | b :: bs, [], _, x, h => by unfold fillB at h; cases h
  | b :: bs, d :: ds, fs, x, h => by
    unfold fillB at h
    cases b with
    | true =>
      cases fs with
      | nil =>
        simp only [if_true] at h
        rcases List.mem_cons.1 h with rfl | h
        · exact .inl List.mem_cons_self
        · rcases fillB_mem bs ds [] x h with h | h
          · exact .inl (List.mem_cons_of_mem _ h)
          · cases h
      | cons f fs =>
        simp only [if_true] at h
        rcases List.mem_cons.1 h with rfl | h
        · exact .inr List.mem_cons_self
        · rcases fillB_mem bs ds fs x h with h | h
          · exact .inl (List.mem_cons_of_mem _ h)
          · exact .inr (List.mem_cons_of_mem _ h)
    | false =>
      simp only [Bool.false_eq_true, if_false] at h
      rcases List.mem_cons.1 h with rfl | h
      · exact .inl List.mem_cons_self
      · rcases fillB_mem bs ds fs x h with h | h
        · exact .inl (List.mem_cons_of_mem _ h)
        · exact .inr h

theorem fillS_small {fs l : List ByteArray} {o : Nat} (h : fillS fs o = some l) (hf : ∀ x ∈ fs, x.size ≤ 4294967296) : ∀ x ∈ l, x.size ≤ 4294967296 := by
  have key : ∀ bs, ∀ x ∈ fillB bs defaultsL fs, x.size ≤ 4294967296 := fun bs x hx => by
    rcases fillB_mem bs _ _ x hx with h | h
    · simp only [defaultsL, List.mem_cons, List.not_mem_nil, or_false] at h
      rcases h with rfl | rfl | rfl | rfl | rfl | rfl <;> decide
    · exact hf x h
  unfold fillS at h
  split at h
  · cases h; exact key _
  · split at h
    · cases h
    · cases h; exact key _

/-- the words of a plain text -/
def WordsAns (s : ByteArray) (w : World) (e : Ending) (w' : World) : Prop :=
  ∃ A c, e = .returned (.slice A (fieldsZ s).length c) ∧ (fieldsZ s).length ≤ c ∧ SliceOf w' A (fieldsZ s) ∧ Kd.C Kd.string w' A (fieldsZ s).length (fieldsZ s) ∧ Below w.heap.size w w'

theorem words_any (s : ByteArray) (hs : s.size ≤ 4294967296) (ha : Ascii s) (w : World) :
    Calls Tryz.prog 5 #[.string s] w (WordsAns s w) := by
  obtain ⟨k, hk⟩ := words_f s hs ha
  refine (spec_CronWords.calls k s _ w hk).mono ?_
  rintro e w' ⟨v, rfl, hR, hb⟩
  obtain ⟨A, c, rfl, hc, hC⟩ := Kd.R_reads hR
  refine ⟨A, c, rfl, hc, ?_, hC, hb⟩
  by_cases hne : fieldsZ s = []
  · rw [hne]
    intro i x hx
    simp at hx
  · obtain ⟨g, n, cap, he, hg, ht⟩ := texts_of_R hR hne
    injection he with h1 h2 h3
    intro i x hx
    exact ⟨g, h1, ht.lt, ht.at_ i x hx⟩

def MeanAns (w : World) (V : Prop) (e : Ending) (w' : World) : Prop :=
  (∃ (cs : Array Value) (v : Int), e = .returned (.tuple #[.agg cs, .int .i64 v]) ∧ cs.size = 387 ∧ cs.all (·.oneCell') = true ∧ (v = 1 → V)) ∧ Below w.heap.size w w'

theorem six_ok {l : List ByteArray} {v : Int} (h : SixV l 6 v) (h1 : v = 1) : sixS l ≠ none := by
  have hb := h.2 h1
  have b0 := hb 0 (by omega)
  have b1 := hb 1 (by omega)
  have b2 := hb 2 (by omega)
  have b3 := hb 3 (by omega)
  have b4 := hb 4 (by omega)
  have b5 := hb 5 (by omega)
  rw [Option.isSome_iff_exists] at b0 b1 b2 b3 b4 b5
  obtain ⟨x0, e0⟩ := b0
  obtain ⟨x1, e1⟩ := b1
  obtain ⟨x2, e2⟩ := b2
  obtain ⟨x3, e3⟩ := b3
  obtain ⟨x4, e4⟩ := b4
  obtain ⟨x5, e5⟩ := b5
  unfold sixS
  rw [e0, e1, e2, e3, e4, e5]
  exact fun h => by cases h

set_option maxRecDepth 100000 in
set_option maxHeartbeats 4000000 in
theorem cronPlain_any (o : Nat) (ho : o < 512) (h2 : twoB o = false) (s : ByteArray) (hp : Plain s) (hne : fieldsZ s ≠ []) (w : World) :
    Calls Tryz.prog 42 #[.int .i64 o, .string s] w (MeanAns w (parseS s o ≠ none)) := by
  have hs : s.size ≤ 4294967296 := by have := hp.size; omega
  have HB := Lib.hid (fun w' => spec_cronBegins.calls s ⟨#[64]⟩ _ w' ((begins_f s ⟨#[64]⟩).trans (by rw [show (⟨#[64]⟩ : ByteArray).data.toList = [64] from rfl, hp.at_])))
  have HF := Lib.hid (fun w' => spec_cronForeign.calls _ s false w' (foreignA_f s hs hp.ascii))
  have HW := Lib.hid (fun w' => words_any s hs hp.ascii w')
  have HFI := Lib.hid (fun A c w' hS => cronFill_any o ho h2 A (fieldsZ s) c (Nat.le_trans (fieldsZ_len s) hs) w' hS)
  have hN : ¬ (0 < o &&& 128 ∧ 0 < o &&& 2) := fun h => by
    have := (twoB_iff o).2 h
    rw [h2] at this
    cases this
  have HPS : Hid (∀ l, fillS (fieldsZ s) o = some l → sixS l ≠ none → parseS s o ≠ none) := Lib.hid fun l hl h6 => by
    have h0 : ¬ s.size = 0 := fun h => by
      have := fieldsZ_len s
      rw [h] at this
      exact hne (List.length_eq_zero_iff.1 (by omega))
    unfold parseS
    rw [if_neg h0, norm_is _ o ho hN, hl]
    exact h6
  have HSM : Hid (∀ l, fillS (fieldsZ s) o = some l → ∀ x ∈ l, x.size ≤ 4294967296) := Lib.hid fun l hl => fillS_small hl fun x hx => Nat.le_trans (fieldsZ_size s x hx) hs
  have hl0 : 0 < (fieldsZ s).length := List.length_pos_iff.2 hne
  have hl1 := Nat.le_trans (fieldsZ_len s) hs
  have hal := run_alloc_M
  have halF := run_alloc_F
  unfold WordsAns at HW
  generalize fieldsZ s = fs at *
  generalize (parseS s o ≠ none) = V at *
  generalize fillS fs o = r at *
  clear hp hs hne hN h2
  go_enter Tryz.func42, Tryz.ntmps42
  go_wp2_with fail
  have HR0 := Lib.hid (zeroM_row w)
  have HB0 : Hid (Below w.heap.size w (w.alloc (.cells zeroM 57))) := Lib.hid ((Below.refl _ _).alloc (Nat.le_refl _) _)
  refine (HB.out _).mono ?_
  rintro e w1 ⟨rfl, hd1⟩
  have HR1 := Lib.hid (HR0.out.below hd1.below)
  have HB1 := Lib.hid (below_of_le HB0.out hd1.below)
  clear HR0 HB0 hd1
  go_wp2_with fail
  refine (HF.out _).mono ?_
  rintro e w2 ⟨rfl, hd2⟩
  have HR2 := Lib.hid (HR1.out.below hd2.below)
  have HB2 := Lib.hid (below_of_le HB1.out hd2.below)
  clear HR1 HB1 hd2
  go_wp2_with fail
  refine (HW.out _).mono ?_
  rintro e w3 ⟨A, c, rfl, hc, hS, -, hb3⟩
  have HR3 := Lib.hid (HR2.out.below hb3)
  have HB3 := Lib.hid (below_of_le HB2.out hb3)
  clear HR2 HB2 hb3
  go_wp2_with fail
  refine (HFI.out _ _ _ hS).mono ?_
  rintro e w4 ⟨hans, hb4⟩
  have HR4 := Lib.hid (HR3.out.below hb4)
  have HB4 := Lib.hid (below_of_le HB3.out hb4)
  clear HR3 HB3 hb4 hS
  cases r with
  | none =>
    obtain rfl := hans
    obtain ⟨ca, hca, hna, h1a⟩ := HR4.out
    go_wp2_with (first | (refine wpList_build_M rfl rfl ?_) | (refine wpList_store_row rfl 57 _ _ rfl w.heap.size zeroM rfl rfl _ _ hca (by rw [sizeM, zeroM_size]) (by rw [hna, zeroM_size]) zeroM_one ?_))
    refine bodyPost_ret (v := .tuple #[.agg zeroM, .int .i64 0]) ?_ rfl ?_
    · exact results_M (fn := Tryz.f42) (p := 4) (u := 5) rfl _ _ w.heap.size _ zeroM_size rfl (setRow_heap _ _ _ _ _ _ hca)
    exact ⟨⟨zeroM, 0, rfl, zeroM_size, zeroM_one, fun h => by omega⟩, below_setRow HB4.out (by omega) _⟩
  | some l =>
    obtain ⟨g, rfl, hg, ht⟩ := hans
    have hl6 : ((fs.length : Int) == 0) = false := by rw [beq_eq_false_iff_ne]; omega
    have HC6 := Lib.hid (fun w' hT => cronSix_any g 6 l (HSM.out l rfl) w' hT)
    have hV := HPS.out l rfl
    have HVV := Lib.hid hV
    have HT4 := Lib.hid ht
    clear ht hV
    go_wp2_with fail
    refine (HC6.out _ HT4.out).mono ?_
    rintro e w5 ⟨⟨cs, v, rfl, hn, h1, hv⟩, hb5⟩
    have hR5 := HR4.out.below hb5
    have HB5 := Lib.hid (below_of_le HB4.out hb5)
    obtain ⟨ca, hca, hna, h1a⟩ := hR5
    have hgl : w.heap.size < w5.heap.size := (Array.getElem?_eq_some_iff.1 hca).1
    have hcaA : ∀ o : Obj, ((w5.alloc o).setRow w5.heap.size cs).heap[w.heap.size]? = some (.cells ca 57 (0, 0)) := fun o =>
      (setRow_other _ _ _ _ (by omega)).trans ((((Below.refl w5.heap.size w5).alloc (Nat.le_refl _) o).block _ hgl).trans hca)
    have HV5 : Hid (v = 1 → V) := Lib.hid fun h => HVV.out (six_ok hv h)
    have HCA := Lib.hid hcaA
    obtain ⟨r, hbr, hr, hr1⟩ := builtMF cs hn h1
    clear HR4 HB4 hb5 HT4 HC6 HVV HPS HSM HFI HW HF HB hca hcaA hv
    go_wp2_with (first | (refine wpList_store_row rfl 55 _ _ rfl w5.heap.size cs rfl rfl _ _ (heap_alloc_new w5 _) (by rw [sizeF, hn]) (Eq.trans (b := 384) (by kernel_rfl) hn.symm) h1 ?_) | (refine wpList_load_row rfl 55 _ rfl w5.heap.size rfl _ _ _ _ (setRow_heap _ _ _ _ _ _ (heap_alloc_new w5 _)) Tryz.underlying55 rfl (by rw [sizeF, hn]) ?_) | (refine wpList_build_MF rfl _ rfl cs r hbr rfl ?_) | (refine wpList_store_row rfl 57 _ _ rfl w.heap.size r rfl rfl _ _ (HCA.out _) (by rw [sizeM, hr]) (by rw [hna, hr]) hr1 ?_))
    refine bodyPost_ret (v := .tuple #[.agg r, .int .i64 v]) ?_ rfl ?_
    · exact results_M (fn := Tryz.f42) (p := 4) (u := 5) rfl _ _ w.heap.size _ hr rfl (setRow_heap _ _ _ _ _ _ (HCA.out _))
    exact ⟨⟨r, v, rfl, hr, hr1, HV5.out⟩, below_setRow (below_setRow (HB5.out.alloc HB5.out.size _) (by omega) _) (by omega) _⟩

theorem plain_ne {s : ByteArray} (hne : fieldsZ s ≠ []) : (s.toList == []) = false := by
  rw [toList_data, beq_eq_false_iff_ne]
  intro h
  have := fieldsZ_len s
  rw [size_list, h] at this
  exact hne (List.length_eq_zero_iff.1 (by simpa using this))

set_option maxRecDepth 100000 in
set_option maxHeartbeats 4000000 in
theorem cronParse_any (o : Nat) (ho : o < 512) (h2 : twoB o = false) (s : ByteArray) (hp : Plain s) (hne : fieldsZ s ≠ []) (w : World) :
    Calls Tryz.prog 21 #[.int .i64 o, .string s] w (MeanAns w (parseS s o ≠ none)) := by
  have HP := Lib.hid (fun w' => cronPlain_any o ho h2 s hp hne w')
  have HZ := Lib.hid (fun w' => zoneHead_any s w')
  have hz : zoneZ s = 0 := by unfold zoneZ; rw [hp.tz, hp.cron]; rfl
  have hse := plain_ne hne
  have hal := run_alloc_M
  rw [hz] at HZ
  generalize (parseS s o ≠ none) = V at *
  clear hp hne h2 hz
  go_enter Tryz.func21, Tryz.ntmps21
  go_wp2_with fail
  have HR0 := Lib.hid (zeroM_row w)
  have HB0 : Hid (Below w.heap.size w (w.alloc (.cells zeroM 57))) := Lib.hid ((Below.refl _ _).alloc (Nat.le_refl _) _)
  refine (HZ.out _).mono ?_
  rintro e w1 ⟨rfl, hb1⟩
  have HR1 := Lib.hid (HR0.out.below hb1)
  have HB1 := Lib.hid (below_of_le HB0.out hb1)
  clear HR0 HB0 hb1
  go_wp2_with fail
  refine (HP.out _).mono ?_
  rintro e w2 ⟨⟨cs, v, rfl, hn, h1, hv⟩, hb2⟩
  have HB2 := Lib.hid (below_of_le HB1.out hb2)
  have HV := Lib.hid hv
  obtain ⟨ca, hca, hna, h1a⟩ := HR1.out.below hb2
  clear HR1 HB1 hb2 hv
  go_wp2_with (refine wpList_store_row rfl 57 _ _ rfl w.heap.size cs rfl rfl _ _ hca (by rw [sizeM, hn]) (by rw [hna, hn]) h1 ?_)
  refine bodyPost_ret (v := .tuple #[.agg cs, .int .i64 v]) ?_ rfl ?_
  · exact results_M (fn := Tryz.f21) (p := 4) (u := 5) rfl _ _ w.heap.size _ hn rfl (setRow_heap _ _ _ _ _ _ hca)
  exact ⟨⟨cs, v, rfl, hn, h1, HV.out⟩, below_setRow HB2.out (by omega) _⟩

def NothingAns (w : World) (V : Prop) (e : Ending) (w' : World) : Prop := ∃ b, e = .returned (.bool b) ∧ (b = false → V) ∧ Below w.heap.size w w'

set_option maxRecDepth 100000 in
set_option maxHeartbeats 4000000 in
theorem meansNothing_any (o : Nat) (ho : o < 512) (h2 : twoB o = false) (s : ByteArray) (hp : Plain s) (hne : fieldsZ s ≠ []) (w : World) :
    Calls Tryz.prog 10 #[.int .i64 o, .string s] w (NothingAns w (parseS s o ≠ none)) := by
  have HP := Lib.hid (fun w' => cronParse_any o ho h2 s hp hne w')
  have hal := run_alloc_M
  generalize (parseS s o ≠ none) = V at *
  clear hp hne h2
  go_enter Tryz.func10, Tryz.ntmps10
  go_wp2_with fail
  refine (HP.out _).mono ?_
  rintro e w2 ⟨⟨cs, v, rfl, hn, h1, hv⟩, hb2⟩
  have HV := Lib.hid hv
  have HB2 := Lib.hid hb2
  clear hb2 hv
  go_wp2_with (refine wpList_store_row rfl 57 _ _ rfl w2.heap.size cs rfl rfl _ _ (heap_alloc_new w2 _) (by rw [sizeM, hn]) (Eq.trans (b := 387) (by kernel_rfl) hn.symm) h1 ?_)
  go_ret
  refine ⟨v != 1, rfl, fun h => HV.out (by simpa using h), below_setRow (HB2.out.alloc HB2.out.size _) HB2.out.size _⟩
end Go.Proofs.YtikgnpachlgakaaGreatDoor.Cron

namespace Go.Proofs.YtikgnpachlgakaaGreatDoor.Cron
open Go Go.RowKit Go.Proofs.YtikgnpachlgakaaGreatDoor.Text Go.Proofs.YtikgnpachlgakaaGreatDoor.Bits Go.Proofs.YtikgnpachlgakaaGreatDoorW.PrintWords Go.Proofs.YtikgnpachlgakaaGreatDoorW.PrintLast Go.Proofs.YtikgnpachlgakaaGreatDoorW.PrintMore Go.Proofs.YtikgnpachlgakaaGreatDoor.Pr
set_option linter.unusedVariables false
set_option linter.unusedSimpArgs false

theorem eqSched (d : Nat) (w : World) (x0 y0 : Bool) (x1 y1 : Int) (x2 y2 : Int) (x3 y3 : Int) (x4 y4 : Int) (x5 y5 : Int) (x6 y6 : Int) (x7 y7 : Int) :
    (Op.equalIn (d + 2) 29 (.agg #[.bool x0, .int .i64 x1, .int .u64 x2, .int .u64 x3, .int .u64 x4, .int .u64 x5, .int .u64 x6, .int .u64 x7]) (.agg #[.bool y0, .int .i64 y1, .int .u64 y2, .int .u64 y3, .int .u64 y4, .int .u64 y5, .int .u64 y6, .int .u64 y7])).run Tryz.prog w = .ok (x0 == y0 && (x1 == y1 && (x2 == y2 && (x3 == y3 && (x4 == y4 && (x5 == y5 && (x6 == y6 && (x7 == y7)))))))) w := by
  refine eqA_of Tryz.underlying29 (by kernel_rfl) ?_
  refine eqf_cons (by rfl) (by go_simp; rfl) (by go_simp; rfl) (by go_simp) ?_
  refine eqf_cons (by rfl) (by go_simp; rfl) (by go_simp; rfl) (by go_simp) ?_
  refine eqf_cons (by rfl) (by go_simp; rfl) (by go_simp; rfl) (by go_simp) ?_
  refine eqf_cons (by rfl) (by go_simp; rfl) (by go_simp; rfl) (by go_simp) ?_
  refine eqf_cons (by rfl) (by go_simp; rfl) (by go_simp; rfl) (by go_simp) ?_
  refine eqf_cons (by rfl) (by go_simp; rfl) (by go_simp; rfl) (by go_simp) ?_
  refine eqf_cons (by rfl) (by go_simp; rfl) (by go_simp; rfl) (by go_simp) ?_
  exact eqf_last (by rfl) (by go_simp; rfl) (by go_simp; rfl) (by go_simp)
attribute [local go_sem high] eqSched

theorem blank_any (n : Nat) : ∃ b, spec_cronBlank.f (n : Int) = some b := by
  unfold spec_cronBlank.f
  split
  · exact ⟨_, rfl⟩
  · split
    · exact ⟨_, rfl⟩
    · exact ⟨_, rfl⟩

theorem words_ex0 (s : ByteArray) (hs : s.size ≤ 4294967296) : ∀ (d i : Nat) (st : Option Nat) (acc : List ByteArray) (k : Nat), s.size - i = d → i ≤ s.size → 2 * d < k → (∀ a, st = some a → a < i) → acc.length + (if st.isSome = true then 1 else 0) ≤ i → (∀ x ∈ acc, x.size ≤ s.size) →
    ∃ l, spec_CronWords.l0 k s acc (frm st) (s.size : Int) (i : Int) = some l ∧ l.length ≤ s.size ∧ ∀ x ∈ l, x.size ≤ s.size
  | 0, i, st, acc, k, hd, hi, hk, hst, hac, hx => by
    obtain ⟨k, rfl⟩ : ∃ m, k = m + 1 := ⟨k - 1, by omega⟩
    unfold spec_CronWords.l0
    rw [if_neg (by omega)]
    cases st with
    | none =>
      rw [frm_none, if_neg (by omega)]
      exact ⟨acc, rfl, by simp at hac; omega, hx⟩
    | some a =>
      have := hst a rfl
      have hac' : acc.length + 1 ≤ i := by simpa using hac
      rw [frm_some, if_pos (by omega), if_pos (by omega), if_pos (by omega), if_pos (by omega), Int.toNat_natCast]
      refine ⟨_, rfl, by simp; omega, fun x h => ?_⟩
      rcases List.mem_append.1 h with h | h
      · exact hx x h
      · obtain rfl := List.mem_singleton.1 h
        rw [ByteArray.size_extract]; omega
  | d + 1, i, st, acc, k, hd, hi, hk, hst, hac, hx => by
    obtain ⟨k, rfl⟩ : ∃ m, k = m + 2 := ⟨k - 2, by omega⟩
    have hlt : i < s.size := by omega
    have hl : i < s.data.toList.length := by rw [← size_list]; exact hlt
    have hw : wrap64 ((i : Int) + 1) = ((i + 1 : Nat) : Int) := by
      unfold wrap64
      omega
    have hbt := bt_list s i hl
    obtain ⟨b, hb⟩ := blank_any (s.data.toList[i]).toNat
    rw [← hbt] at hb
    unfold spec_CronWords.l0
    rw [if_pos (by omega), if_pos (by omega), if_pos (by omega), hb]
    simp only [Option.bind_some]
    cases b with
    | true =>
      rw [if_pos rfl]
      unfold spec_CronWords.j1
      cases st with
      | none =>
        have hf : decide (frm none ≥ 0) = false := by decide
        rw [hf, if_neg (by decide), if_pos (by omega), if_pos (by omega), hb]
        simp only [Option.bind_some, if_true]
        rw [hw]
        exact words_ex0 s hs d (i + 1) none acc k (by omega) (by omega) (by omega) (fun a h => by cases h) (by simp at hac ⊢; omega) hx
      | some a =>
        have hai := hst a rfl
        have hac' : acc.length + 1 ≤ i := by simpa using hac
        have hf : decide (frm (some a) ≥ 0) = true := decide_eq_true (by rw [frm_some]; omega)
        rw [hf, if_pos rfl]
        rw [frm_some, if_pos (by omega), if_pos (by omega), if_pos (by omega), if_pos (by omega), hw, Int.toNat_natCast, Int.toNat_natCast]
        exact words_ex0 s hs d (i + 1) none (acc ++ [s.extract a i]) k (by omega) (by omega) (by omega) (fun a h => by cases h) (by simp; omega) (fun x h => by
          rcases List.mem_append.1 h with h | h
          · exact hx x h
          · obtain rfl := List.mem_singleton.1 h
            rw [ByteArray.size_extract]; omega)
    | false =>
      rw [if_neg (by decide)]
      unfold spec_CronWords.j1
      rw [if_neg (by decide), if_pos (by omega), if_pos (by omega), hb]
      simp only [Option.bind_some]
      rw [if_neg (by decide)]
      cases st with
      | none =>
        rw [frm_none, if_pos (by omega), hw]
        exact words_ex0 s hs d (i + 1) (some i) acc k (by omega) (by omega) (by omega) (fun a h => by injection h with h; omega) (by simp at hac ⊢; omega) hx
      | some a =>
        have hai := hst a rfl
        rw [frm_some, if_neg (by omega), hw]
        exact words_ex0 s hs d (i + 1) (some a) acc k (by omega) (by omega) (by omega) (fun a' h => by injection h with h; omega) (by simp at hac ⊢; omega) hx

theorem words_ex (s : ByteArray) (hs : s.size ≤ 4294967296) : ∃ k l, spec_CronWords.f k s = some l ∧ l.length ≤ s.size ∧ (∀ x ∈ l, x.size ≤ s.size) ∧ (Ascii s → l = fieldsZ s) := by
  by_cases ha : Ascii s
  · obtain ⟨k, hk⟩ := words_f s hs ha
    exact ⟨k, _, hk, fieldsZ_len s, fieldsZ_size s, fun _ => rfl⟩
  · obtain ⟨l, h1, h2, h3⟩ := words_ex0 s hs s.size 0 none [] (2 * s.size + 1) (by omega) (by omega) (by omega) (fun a h => by cases h) (by simp) (fun x h => by cases h)
    exact ⟨_, l, h1, h2, h3, fun h => absurd h ha⟩

theorem options_f (a0 : Int) : ∃ b, spec_CronOptions.f a0 = some b ∧ (b = true → ∃ o : Nat, a0 = o ∧ o < 512 ∧ twoB o = false) := by
  unfold spec_CronOptions.f
  by_cases h1 : 0 ≤ a0
  · by_cases h2 : a0 < 512
    · obtain ⟨o, rfl⟩ : ∃ o : Nat, a0 = o := ⟨a0.toNat, by omega⟩
      have ho : o < 512 := by omega
      have := two_f ⟨o, ho⟩
      dsimp only at this
      rw [if_pos h1, if_pos h2, this]
      refine ⟨_, rfl, fun h => ⟨o, rfl, ho, by simpa using h⟩⟩
    · rw [if_pos h1, if_neg h2]
      exact ⟨false, rfl, fun h => by cases h⟩
  · rw [if_neg h1]
    exact ⟨false, rfl, fun h => by cases h⟩

theorem parseS_tidy {s t : ByteArray} (o : Nat) (h : fieldsZ t = fieldsZ s) (hne : fieldsZ s ≠ []) : parseS t o = parseS s o := by
  have nz : ∀ u : ByteArray, fieldsZ u ≠ [] → ¬ u.size = 0 := fun u hu h0 => by
    have := fieldsZ_len u
    rw [h0] at this
    exact hu (List.length_eq_zero_iff.1 (by omega))
  unfold parseS
  rw [if_neg (nz s hne), if_neg (nz t (by rw [h]; exact hne)), h]

theorem joinTail_len (N : Nat) : ∀ xs : List ByteArray, (∀ x ∈ xs, x.size ≤ N) → (joinL.joinTail xs).length ≤ xs.length * (N + 1)
  | [], _ => by simp [joinL.joinTail]
  | x :: xs, h => by
    have ih := joinTail_len N xs fun y hy => h y (List.mem_cons_of_mem _ hy)
    have hx := h x List.mem_cons_self
    rw [size_list] at hx
    unfold joinL.joinTail
    rw [List.cons_append, List.length_cons, List.length_append, List.length_cons, Nat.add_mul]
    omega

theorem joinL_len (N : Nat) (xs : List ByteArray) (h : ∀ x ∈ xs, x.size ≤ N) : (joinL xs).length ≤ xs.length * (N + 1) := by
  cases xs with
  | nil => simp [joinL]
  | cons x xs =>
    have ih := joinTail_len N xs fun y hy => h y (List.mem_cons_of_mem _ hy)
    have hx := h x List.mem_cons_self
    rw [size_list] at hx
    unfold joinL
    rw [List.length_append, List.length_cons, Nat.add_mul]
    omega

section
variable {ops : Array Oper} {rest : List Oper} {o : Oper} {a : Act} {w : World} {Q : Exit → Act → World → Prop}
theorem wpList_load_sched (hw : Region.wanted o (yielded ops a.tmps) = true) (x : Operand) (ho : o.op = .load 29 x) (g : Nat) (cs : Array Value) (h8 : cs.size = 8)
    (hx : a.eval x = .pointer (some ⟨g, 0, none⟩)) (hs : w.heap[g]? = some (.cells cs 29 (0, 0)))
    (h : wpList Tryz.prog ops Q rest (a.put o.dst (.agg cs)) w) : wpList Tryz.prog ops Q (o :: rest) a w := by
  refine wpList_step fun K hK => ?_
  rw [if_pos hw]
  exact wp_load_row 29 x ho g hx _ _ _ _ hs Tryz.underlying29 rfl (by rw [schedSize, h8]) (hK _ _ h)
end

theorem ans_of (r : Option (List Nat)) : ∃ (cs : Array Value) (b : Bool), (∀ w0 e w', CronAns w0 r e w' → e = .returned (.tuple #[.agg cs, .bool b]) ∧ Below w0.heap.size w0 w') ∧ cs.size = 8 ∧ cs.all (·.oneCell') = true ∧
    (∀ (d : Nat) (w' : World), (Op.equalIn (d + 2) 29 (.agg cs) (.agg cs)).run Tryz.prog w' = .ok true w') ∧ (b = false → ¬ r ≠ none) := by
  cases r with
  | none => exact ⟨noSched, false, fun w0 e w' h => h, rfl, noSched_one, fun d w' => by unfold noSched; rw [eqSched]; simp, fun _ h => h rfl⟩
  | some l => exact ⟨schedCells l, true, fun w0 e w' h => h, rfl, sched_one l, fun d w' => by unfold schedCells; rw [eqSched]; simp, fun h => by cases h⟩

def SchedRow (w : World) (g : Nat) (cs : Array Value) : Prop := w.heap[g]? = some (.cells cs 29 (0, 0))

theorem run_alloc_S (w : World) : (Instr.alloc 29 true (.tuple #[])).run Tryz.prog w = .ok (.pointer (some ⟨w.heap.size, 0, none⟩)) (w.alloc (.cells noSched 29 (0, 0))) := by kernel_rfl

set_option maxRecDepth 100000 in
set_option maxHeartbeats 4000000 in
theorem lawBlanks_any (a0 : Int) (s : ByteArray) (w : World) (hg : G w) :
    Calls Tryz.prog 3 #[.int .i64 a0, .string s] w fun e w' => e = .returned (.bool true) ∧ Below w.heap.size w w' := by
  by_cases hbig : (s.size : Int) > 2147483647
  · have hb' : decide ((2147483647 : Int) < s.size) = true := decide_eq_true hbig
    go_enter Tryz.func3, Tryz.ntmps3
    go_wp2_with fail
    go_ret
    exact ⟨rfl, Below.refl _ _⟩
  · have hsz : s.size ≤ 2147483647 := by omega
    have hb' : decide ((2147483647 : Int) < s.size) = false := decide_eq_false hbig
    obtain ⟨k, l, hwf, hll, hlx, hla⟩ := words_ex s (by omega)
    obtain ⟨k2, hjf⟩ := join_f l s.size hlx (by omega) hsz
    obtain ⟨ob, hob, hoo⟩ := options_f a0
    have HW := Lib.hid (fun w' => spec_CronWords.calls k s l w' hwf)
    have HJ := Lib.hid (fun A c w' hC hc => spec_CronJoin.calls k2 A c l ⟨#[32]⟩ _ w' hC hc hjf)
    have HO := Lib.hid (fun w' => spec_CronOptions.calls a0 ob w' hob)
    have HP1 := Lib.hid (fun w' => plainText_any s (by omega) w')
    have HG := Lib.hid (fun w' (h : Below w.heap.size w w') => hg.below h)
    have HOO := Lib.hid hoo
    have HLA := Lib.hid hla
    have htl : (ba (joinL l)).size ≤ 4611686018427387904 := by
      rw [ba_size]
      have h1 := joinL_len s.size l hlx
      have h2 : l.length * (s.size + 1) ≤ 2147483647 * 2147483648 := Nat.mul_le_mul (by omega) (by omega)
      omega
    generalize htd : ba (joinL l) = t at *
    have HTD := Lib.hid htd
    have hll' : l.length ≤ 4294967296 := by omega
    clear hwf hlx hjf hob hoo hla hg htd hbig
    go_enter Tryz.func3, Tryz.ntmps3
    go_wp2_with fail
    refine (HW.out _).mono ?_
    rintro e w1 ⟨v, rfl, hR, hb1⟩
    obtain ⟨A, c, rfl, hc, hC⟩ := Kd.R_reads hR
    have HB1 := Lib.hid hb1
    have HC1 := Lib.hid hC
    clear hb1 hC hR
    go_wp2_with fail
    refine (HJ.out _ _ _ HC1.out hc).mono ?_
    rintro e w2 ⟨rfl, hd2⟩
    have HB2 := Lib.hid (below_of_le HB1.out hd2.below)
    clear HB1 HC1 hd2
    go_wp2_with fail
    refine (HO.out _).mono ?_
    rintro e w3 ⟨rfl, hd3⟩
    have HB3 := Lib.hid (below_of_le HB2.out hd3.below)
    clear HB2 hd3
    cases ob with
    | false =>
      go_wp2_with fail
      go_ret
      exact ⟨rfl, HB3.out⟩
    | true =>
      obtain ⟨o, rfl, ho, h2⟩ := HOO.out rfl
      by_cases hl0 : l.length = 0
      · have hl0' : ((l.length : Int) == 0) = true := by rw [hl0]; rfl
        go_wp2_with fail
        go_ret
        exact ⟨rfl, HB3.out⟩
      · have hl0' : ((l.length : Int) == 0) = false := by rw [beq_eq_false_iff_ne]; omega
        go_wp2_with fail
        refine (HP1.out _).mono ?_
        rintro e w4 ⟨b1, rfl, hp1, hb4⟩
        have HB4 := Lib.hid (below_of_le HB3.out hb4)
        clear HB3 hb4
        cases b1 with
        | false =>
          go_wp2_with fail
          go_ret
          exact ⟨rfl, HB4.out⟩
        | true =>
          have hps := hp1 rfl
          have hlf := HLA.out hps.ascii
          have HP2 := Lib.hid (fun w' => plainText_any t htl w')
          go_wp2_with fail
          refine (HP2.out _).mono ?_
          rintro e w5 ⟨b2, rfl, hp2, hb5⟩
          have HB5 := Lib.hid (below_of_le HB4.out hb5)
          clear HB4 hb5
          cases b2 with
          | false =>
            go_wp2_with fail
            go_ret
            exact ⟨rfl, HB5.out⟩
          | true =>
            have hpt := hp2 rfl
            have hts : t.size ≤ 4294967296 := by have := hpt.size; omega
            have htf : fieldsZ t = fieldsZ s := by
              have := hpt.ascii
              rw [← HTD.out, hlf] at this ⊢
              exact tidy_fields s hps.ascii this
            have hne : fieldsZ s ≠ [] := by
              rw [← hlf]
              intro h
              rw [h] at hl0
              exact hl0 rfl
            have hpe := parseS_tidy o htf hne
            have HA := Lib.hid (fun w' hg' => parseCron_any o ho s (by omega) hps.tz hps.cron hps.at_ w' hg')
            have HBB := Lib.hid (fun w' hg' => parseCron_any o ho t hts hpt.tz hpt.cron hpt.at_ w' hg')
            have HN := Lib.hid (fun w' => meansNothing_any o ho h2 s hps hne w')
            rw [h2, hpe] at HBB
            rw [h2] at HA
            rw [if_neg (by decide)] at HA HBB
            clear hpe hne htf hpt hlf hps HP1 HP2 hp1 hp2 HLA HOO HTD HW HJ HO hts
            have hal := run_alloc_S
            generalize parseS s o = r at *
            obtain ⟨cs, b, hans, h8, h1, heq, hbr⟩ := ans_of r
            have HANS := Lib.hid hans
            have HBR := Lib.hid hbr
            generalize (r ≠ none) = V at *
            generalize CronAns = CA at *
            clear hans hbr
            go_wp2_with fail
            refine (HA.out _ (HG.out _ HB5.out)).mono ?_
            rintro e w6 hr6
            obtain ⟨rfl, hb6⟩ := HANS.out _ _ _ hr6
            have HB6 := Lib.hid (below_of_le HB5.out hb6)
            clear HB5 hb6 hr6 HA
            go_wp2_with (refine wpList_store_row rfl 29 _ _ rfl w6.heap.size cs rfl rfl _ _ (heap_alloc_new w6 _) (by rw [schedSize, h8]) (Eq.trans (b := 8) (by kernel_rfl) h8.symm) h1 ?_)
            refine (HBB.out _ (HG.out _ (below_setRow (HB6.out.alloc HB6.out.size _) HB6.out.size _))).mono ?_
            rintro e w8 hr8
            obtain ⟨rfl, hb8⟩ := HANS.out _ _ _ hr8
            have hrow8 := (hb8.block w6.heap.size (by simp [World.setRow])).trans (setRow_heap _ _ _ _ _ _ (heap_alloc_new w6 _))
            have HB8 := Lib.hid (below_of_le (below_setRow (HB6.out.alloc HB6.out.size _) HB6.out.size _) hb8)
            have hlt8 : w6.heap.size < w8.heap.size := (Array.getElem?_eq_some_iff.1 hrow8).1
            have HL6 : Hid (∀ o : Obj, ((w8.alloc o).setRow w8.heap.size cs).heap[w6.heap.size]? = some (.cells cs 29 (0, 0))) := Lib.hid fun o =>
              (setRow_other _ _ _ _ (by omega)).trans ((((Below.refl w8.heap.size w8).alloc (Nat.le_refl _) o).block _ hlt8).trans hrow8)
            have HB9 : Hid (∀ o : Obj, Below w.heap.size w ((w8.alloc o).setRow w8.heap.size cs)) := Lib.hid fun o => below_setRow (HB8.out.alloc HB8.out.size _) HB8.out.size _
            clear hr8 hb8 hrow8 HBB HB6 HB8
            cases b with
            | true =>
              go_wp2_with (first | (refine wpList_store_row rfl 29 _ _ rfl w8.heap.size cs rfl rfl _ _ (heap_alloc_new w8 _) (by rw [schedSize, h8]) (Eq.trans (b := 8) (by kernel_rfl) h8.symm) h1 ?_) | (refine wpList_load_sched (by rfl) _ rfl w6.heap.size cs h8 rfl (HL6.out _) ?_) | (refine wpList_load_sched (by rfl) _ rfl w8.heap.size cs h8 rfl (setRow_heap _ _ _ _ _ _ (heap_alloc_new w8 _)) ?_))
              go_ret
              exact ⟨rfl, HB9.out _⟩
            | false =>
              go_wp2_with (first | (refine wpList_store_row rfl 29 _ _ rfl w8.heap.size cs rfl rfl _ _ (heap_alloc_new w8 _) (by rw [schedSize, h8]) (Eq.trans (b := 8) (by kernel_rfl) h8.symm) h1 ?_) | (refine wpList_load_sched (by rfl) _ rfl w6.heap.size cs h8 rfl (HL6.out _) ?_) | (refine wpList_load_sched (by rfl) _ rfl w8.heap.size cs h8 rfl (setRow_heap _ _ _ _ _ _ (heap_alloc_new w8 _)) ?_))
              refine (HN.out _).mono ?_
              rintro e w9 ⟨bb, rfl, hbb, hb9⟩
              have hbt : bb = true := by
                cases bb with
                | true => rfl
                | false => exact absurd (hbb rfl) (HBR.out (by first | trivial | rfl))
              subst hbt
              have HB10 := Lib.hid (below_of_le (HB9.out _) hb9)
              clear hb9
              go_wp2_with fail
              go_ret
              exact ⟨rfl, HB10.out⟩
end Go.Proofs.YtikgnpachlgakaaGreatDoor.Cron
