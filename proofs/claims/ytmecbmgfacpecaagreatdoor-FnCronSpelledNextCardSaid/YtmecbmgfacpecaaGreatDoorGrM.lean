/- Lemmas and walks on the way to the law, merged by wip/tools/pack.py: ParseCron, Words, StyleB, TextF, SpellP, JoinC. Conditions: none. -/
import Derived.Test.YtmecbmgfacpecaaGreatDoorGrL
import Derived.Laws.Rows
import Derived.Laws.Tables
import Derived.Laws.ResultCell
import Derived.Test.YtmecbmgfacpecaaGreatDoorGrK
import Derived.Test.YtmecbmgfacpecaaGreatDoorGrI
import Derived.Test.YtmecbmgfacpecaaGreatDoorPrA
import Derived.Test.YtmecbmgfacpecaaGreatDoorGrJ
namespace Go.Proofs.YtmecbmgfacpecaaGreatDoor.Cron
open Go Go.RowKit Go.Proofs.YtmecbmgfacpecaaGreatDoor.Text Go.Proofs.YtmecbmgfacpecaaGreatDoor.Bits Go.Proofs.YtmecbmgfacpecaaGreatDoorW.PrintWords Go.Proofs.YtmecbmgfacpecaaGreatDoorW.PrintLast Go.Proofs.YtmecbmgfacpecaaGreatDoorW.PrintMore
set_option linter.unusedVariables false
set_option linter.unusedSimpArgs false
def schedCells (l : List Nat) : Array Value := #[.bool false, .int .i64 0, .int .u64 (l.getD 0 0 : Nat), .int .u64 (l.getD 1 0 : Nat), .int .u64 (l.getD 2 0 : Nat), .int .u64 (l.getD 3 0 : Nat), .int .u64 (l.getD 4 0 : Nat), .int .u64 (l.getD 5 0 : Nat)]
def noSched : Array Value := #[.bool false, .int .i64 0, .int .u64 0, .int .u64 0, .int .u64 0, .int .u64 0, .int .u64 0, .int .u64 0]
def CronAns (w : World) (r : Option (List Nat)) (e : Ending) (w' : World) : Prop :=
 (match r with
  | some l => e = .returned (.tuple #[.agg (schedCells l), .bool true])
  | none => e = .returned (.tuple #[.agg noSched, .bool false])) ∧ Below w.heap.size w w'
theorem schedSize : (Tryz.prog.info? 26).map (·.size) = some 8 := by kernel_rfl
theorem results_sched {fn : Func} {p u : Tmp} (h : fn.results = #[.cell p 26, .tmp u]) (tmps : Array Value) (w : World) (g : Nat) (cs : Array Value) (h8 : cs.size = 8)
  (hp : tmps.getD p undef = .pointer (some ⟨g, 0, none⟩)) (hs : w.heap[g]? = some (.cells cs 26 (0, 0))) :
  (results fn tmps).run Tryz.prog w = .ok (.tuple #[.agg cs, tmps.getD u undef]) w := by
 rw [results_cell_tmp h, hp]
 simp only [asAddr, Sem.run_pure, Result.andThen_ok, run_loadVar_row w g _ _ _ _ _ hs Tryz.underlying26 rfl (by rw [schedSize, h8])]
section
variable {ops : Array Oper} {rest : List Oper} {o : Oper} {a : Act} {w : World} {Q : Exit → Act → World → Prop}
theorem wpList_store_sched (hg : o.guard = none) (x y : Operand) (ho : o.op = .store 26 x y) (g : Nat) (cs old : Array Value)
  (hx : a.eval x = .pointer (some ⟨g, 0, none⟩)) (hy : a.eval y = .agg cs) (h8 : cs.size = 8) (h1 : cs.all (·.oneCell') = true) (h8' : old.size = 8) (hs : w.heap[g]? = some (.cells old 26 (0, 0)))
  (h : wpList Tryz.prog ops Q rest (a.put o.dst undef) (w.setRow g cs)) : wpList Tryz.prog ops Q (o :: rest) a w :=
 wpList_store_row hg 26 x y ho g _ hx hy _ _ hs (by rw [schedSize, h8]) (by rw [h8, h8']) h1 h
end
theorem sched_one (l : List Nat) : (schedCells l).all (·.oneCell') = true := by simp [schedCells, Value.oneCell']
theorem noSched_one : noSched.all (·.oneCell') = true := by simp [noSched, Value.oneCell']
theorem plainSched_bad (s : Value) (t : TypeId) (x : Value) (w : World) :
  Calls Tryz.prog 46 #[s, .iface t x] w fun e w' => e = .returned (.tuple #[.agg noSched, .bool false]) ∧ Below w.heap.size w w' := by
 go_enter Tryz.func46, Tryz.ntmps46
 go_wp2_with fail
 exact bodyPost_ret (v := .tuple #[.agg noSched, .bool false]) (by simp [results, Tryz.results46, go_sem, noSched]) rfl ⟨rfl, (Below.refl _ _).alloc (Nat.le_refl _) _⟩
set_option maxRecDepth 100000 in
theorem plainSched_ok (l : List Nat) (g : Nat) (loc : Option Addr) (w : World) (hc : w.heap[g]? = some (.cells (specCells l loc) 171 (0, 0))) :
  Calls Tryz.prog 46 #[.iface 169 (.pointer (some ⟨g, 0, none⟩)), .nilIface] w fun e w' => e = .returned (.tuple #[.agg (schedCells l), .bool true]) ∧ Below w.heap.size w w' := by
 have hlt : g < w.heap.size := (Array.getElem?_eq_some_iff.1 hc).1
 have c0 : w.cell? ⟨g, 0, none⟩ = some (.int .u64 (l.getD 0 0 : Nat)) := cell_of_row _ _ _ _ _ _ hc
 have c1 : w.cell? ⟨g, 1, none⟩ = some (.int .u64 (l.getD 1 0 : Nat)) := cell_of_row _ _ _ _ _ _ hc
 have c2 : w.cell? ⟨g, 2, none⟩ = some (.int .u64 (l.getD 2 0 : Nat)) := cell_of_row _ _ _ _ _ _ hc
 have c3 : w.cell? ⟨g, 3, none⟩ = some (.int .u64 (l.getD 3 0 : Nat)) := cell_of_row _ _ _ _ _ _ hc
 have c4 : w.cell? ⟨g, 4, none⟩ = some (.int .u64 (l.getD 4 0 : Nat)) := cell_of_row _ _ _ _ _ _ hc
 have c5 : w.cell? ⟨g, 5, none⟩ = some (.int .u64 (l.getD 5 0 : Nat)) := cell_of_row _ _ _ _ _ _ hc
 unfold schedCells
 clear hc
 generalize l.getD 0 0 = a0 at *
 generalize l.getD 1 0 = a1 at *
 generalize l.getD 2 0 = a2 at *
 generalize l.getD 3 0 = a3 at *
 generalize l.getD 4 0 = a4 at *
 generalize l.getD 5 0 = a5 at *
 have hta : ∀ (v : Value) (w : World), (Instr.typeAssert (.iface 169 v) 110 169 true).run Tryz.prog w = .ok (.tuple #[v, .bool true]) w := fun v w => by rfl
 go_enter Tryz.func46, Tryz.ntmps46
 go_wp2_with fail
 generalize hW : World.alloc w _ = w1
 have hB1 : Below w.heap.size w w1 := by rw [← hW]; exact (Below.refl _ _).alloc (Nat.le_refl _) _
 have hrow : w1.heap[w.heap.size]? = some (.cells noSched 26 (0, 0)) := by rw [← hW]; exact heap_alloc_new w _
 clear hW
 have d0 := (hB1.cell (p := ⟨g, 0, none⟩) hlt).trans c0
 have d1 := (hB1.cell (p := ⟨g, 1, none⟩) hlt).trans c1
 have d2 := (hB1.cell (p := ⟨g, 2, none⟩) hlt).trans c2
 have d3 := (hB1.cell (p := ⟨g, 3, none⟩) hlt).trans c3
 have d4 := (hB1.cell (p := ⟨g, 4, none⟩) hlt).trans c4
 have d5 := (hB1.cell (p := ⟨g, 5, none⟩) hlt).trans c5
 clear c0 c1 c2 c3 c4 c5
 refine start_ (n := 27) (S := fun w' => w'.cell? ⟨g, 0, none⟩ = some (.int .u64 a0) ∧ w'.cell? ⟨g, 1, none⟩ = some (.int .u64 a1) ∧ w'.cell? ⟨g, 2, none⟩ = some (.int .u64 a2) ∧ w'.cell? ⟨g, 3, none⟩ = some (.int .u64 a3) ∧ w'.cell? ⟨g, 4, none⟩ = some (.int .u64 a4) ∧ w'.cell? ⟨g, 5, none⟩ = some (.int .u64 a5)) (ds := [25]) #[false, false, false, false, false, false, false, false, false, false, false, false, false, false, false, false, false, false, false, false, false, false, false, false, false, false, false] (by kernel_rfl) rfl rfl ⟨d0, d1, d2, d3, d4, d5⟩ (fun hHeld => ?_)
 refine pure_ (i := 0) (N := some 15) (v := ?_) (a' := ?_) #[true, false, false, false, false, false, false, false, false, false, false, false, false, false, false, false, false, false, false, false, false, false, false, false, false, false, false] rfl rfl (by kernel_rfl) (fun _ _ _ h => h) (Or.inl ⟨by rfl, ?_⟩) ?_ ?_
 rotate_left
 ·intro w'
  go_simp
  with_reducible rfl
 rotate_left
 ·simp only [Act.put, List.setIfInBounds_toArray, List.set_cons_zero, List.set_cons_succ, i64_w, i32_w]
  rfl
 refine pure_ (i := 1) (N := some 16) (v := ?_) (a' := ?_) #[true, true, false, false, false, false, false, false, false, false, false, false, false, false, false, false, false, false, false, false, false, false, false, false, false, false, false] rfl rfl (by kernel_rfl) (fun _ _ _ h => h) (Or.inl ⟨by rfl, ?_⟩) ?_ ?_
 rotate_left
 ·intro w'
  go_simp
  with_reducible rfl
 rotate_left
 ·simp only [Act.put, List.setIfInBounds_toArray, List.set_cons_zero, List.set_cons_succ, i64_w, i32_w]
  rfl
 refine pure_ (i := 2) (N := some 17) (v := ?_) (a' := ?_) #[true, true, true, false, false, false, false, false, false, false, false, false, false, false, false, false, false, false, false, false, false, false, false, false, false, false, false] rfl rfl (by kernel_rfl) (fun _ _ _ h => h) (Or.inl ⟨by rfl, ?_⟩) ?_ ?_
 rotate_left
 ·intro w'
  go_simp
  with_reducible rfl
 rotate_left
 ·simp only [Act.put, List.setIfInBounds_toArray, List.set_cons_zero, List.set_cons_succ, i64_w, i32_w]
  rfl
 refine pure_ (i := 4) (N := some 19) (v := ?_) (a' := ?_) #[true, true, true, false, true, false, false, false, false, false, false, false, false, false, false, false, false, false, false, false, false, false, false, false, false, false, false] rfl rfl (by kernel_rfl) (fun _ _ _ h => h) (Or.inl ⟨by rfl, ?_⟩) ?_ ?_
 rotate_left
 ·intro w'
  go_simp
  with_reducible rfl
 rotate_left
 ·simp only [Act.put, List.setIfInBounds_toArray, List.set_cons_zero, List.set_cons_succ, i64_w, i32_w]
  rfl
 refine pure_ (i := 5) (N := some 20) (v := ?_) (a' := ?_) #[true, true, true, false, true, true, false, false, false, false, false, false, false, false, false, false, false, false, false, false, false, false, false, false, false, false, false] rfl rfl (by kernel_rfl) (fun _ _ _ h => h) (Or.inl ⟨by rfl, ?_⟩) ?_ ?_
 rotate_left
 ·intro w'
  go_simp
  with_reducible rfl
 rotate_left
 ·simp only [Act.put, List.setIfInBounds_toArray, List.set_cons_zero, List.set_cons_succ, i64_w, i32_w]
  rfl
 refine pure_ (i := 6) (N := some 21) (v := ?_) (a' := ?_) #[true, true, true, false, true, true, true, false, false, false, false, false, false, false, false, false, false, false, false, false, false, false, false, false, false, false, false] rfl rfl (by kernel_rfl) (fun _ _ _ h => h) (Or.inl ⟨by rfl, ?_⟩) ?_ ?_
 rotate_left
 ·intro w'
  go_simp
  with_reducible rfl
 rotate_left
 ·simp only [Act.put, List.setIfInBounds_toArray, List.set_cons_zero, List.set_cons_succ, i64_w, i32_w]
  rfl
 refine pure_ (i := 8) (N := some 23) (v := ?_) (a' := ?_) #[true, true, true, false, true, true, true, false, true, false, false, false, false, false, false, false, false, false, false, false, false, false, false, false, false, false, false] rfl rfl (by kernel_rfl) (fun _ _ _ h => h) (Or.inl ⟨by rfl, ?_⟩) ?_ ?_
 rotate_left
 ·intro w'
  go_simp
  with_reducible rfl
 rotate_left
 ·simp only [Act.put, List.setIfInBounds_toArray, List.set_cons_zero, List.set_cons_succ, i64_w, i32_w]
  rfl
 refine pure_ (i := 9) (N := some 24) (v := ?_) (a' := ?_) #[true, true, true, false, true, true, true, false, true, true, false, false, false, false, false, false, false, false, false, false, false, false, false, false, false, false, false] rfl rfl (by kernel_rfl) (fun _ _ _ h => h) (Or.inl ⟨by rfl, ?_⟩) ?_ ?_
 rotate_left
 ·intro w'
  go_simp
  with_reducible rfl
 rotate_left
 ·simp only [Act.put, List.setIfInBounds_toArray, List.set_cons_zero, List.set_cons_succ, i64_w, i32_w]
  rfl
 refine pure_ (i := 10) (N := some 25) (v := ?_) (a' := ?_) #[true, true, true, false, true, true, true, false, true, true, true, false, false, false, false, false, false, false, false, false, false, false, false, false, false, false, false] rfl rfl (by kernel_rfl) (fun _ _ _ h => h) (Or.inl ⟨by rfl, ?_⟩) ?_ ?_
 rotate_left
 ·intro w'
  go_simp
  with_reducible rfl
 rotate_left
 ·simp only [Act.put, List.setIfInBounds_toArray, List.set_cons_zero, List.set_cons_succ, i64_w, i32_w]
  rfl
 refine pure_ (i := 12) (N := some 27) (v := ?_) (a' := ?_) #[true, true, true, false, true, true, true, false, true, true, true, false, true, false, false, false, false, false, false, false, false, false, false, false, false, false, false] rfl rfl (by kernel_rfl) (fun _ _ _ h => h) (Or.inl ⟨by rfl, ?_⟩) ?_ ?_
 rotate_left
 ·intro w'
  go_simp
  with_reducible rfl
 rotate_left
 ·simp only [Act.put, List.setIfInBounds_toArray, List.set_cons_zero, List.set_cons_succ, i64_w, i32_w]
  rfl
 refine pure_ (i := 13) (N := some 28) (v := ?_) (a' := ?_) #[true, true, true, false, true, true, true, false, true, true, true, false, true, true, false, false, false, false, false, false, false, false, false, false, false, false, false] rfl rfl (by kernel_rfl) (fun _ _ _ h => h) (Or.inl ⟨by rfl, ?_⟩) ?_ ?_
 rotate_left
 ·intro w'
  go_simp
  with_reducible rfl
 rotate_left
 ·simp only [Act.put, List.setIfInBounds_toArray, List.set_cons_zero, List.set_cons_succ, i64_w, i32_w]
  rfl
 refine pure_ (i := 14) (N := some 29) (v := ?_) (a' := ?_) #[true, true, true, false, true, true, true, false, true, true, true, false, true, true, true, false, false, false, false, false, false, false, false, false, false, false, false] rfl rfl (by kernel_rfl) (fun _ _ _ h => h) (Or.inl ⟨by rfl, ?_⟩) ?_ ?_
 rotate_left
 ·intro w'
  go_simp
  with_reducible rfl
 rotate_left
 ·simp only [Act.put, List.setIfInBounds_toArray, List.set_cons_zero, List.set_cons_succ, i64_w, i32_w]
  rfl
 refine pure_ (i := 16) (N := some 31) (v := ?_) (a' := ?_) #[true, true, true, false, true, true, true, false, true, true, true, false, true, true, true, false, true, false, false, false, false, false, false, false, false, false, false] rfl rfl (by kernel_rfl) (fun _ _ _ h => h) (Or.inl ⟨by rfl, ?_⟩) ?_ ?_
 rotate_left
 ·intro w'
  go_simp
  with_reducible rfl
 rotate_left
 ·simp only [Act.put, List.setIfInBounds_toArray, List.set_cons_zero, List.set_cons_succ, i64_w, i32_w]
  rfl
 refine pure_ (i := 17) (N := some 32) (v := ?_) (a' := ?_) #[true, true, true, false, true, true, true, false, true, true, true, false, true, true, true, false, true, true, false, false, false, false, false, false, false, false, false] rfl rfl (by kernel_rfl) (fun _ _ _ h => h) (Or.inl ⟨by rfl, ?_⟩) ?_ ?_
 rotate_left
 ·intro w'
  go_simp
  with_reducible rfl
 rotate_left
 ·simp only [Act.put, List.setIfInBounds_toArray, List.set_cons_zero, List.set_cons_succ, i64_w, i32_w]
  rfl
 refine pure_ (i := 18) (N := some 33) (v := ?_) (a' := ?_) #[true, true, true, false, true, true, true, false, true, true, true, false, true, true, true, false, true, true, true, false, false, false, false, false, false, false, false] rfl rfl (by kernel_rfl) (fun _ _ _ h => h) (Or.inl ⟨by rfl, ?_⟩) ?_ ?_
 rotate_left
 ·intro w'
  go_simp
  with_reducible rfl
 rotate_left
 ·simp only [Act.put, List.setIfInBounds_toArray, List.set_cons_zero, List.set_cons_succ, i64_w, i32_w]
  rfl
 refine pure_ (i := 20) (N := some 35) (v := ?_) (a' := ?_) #[true, true, true, false, true, true, true, false, true, true, true, false, true, true, true, false, true, true, true, false, true, false, false, false, false, false, false] rfl rfl (by kernel_rfl) (fun _ _ _ h => h) (Or.inl ⟨by rfl, ?_⟩) ?_ ?_
 rotate_left
 ·intro w'
  go_simp
  with_reducible rfl
 rotate_left
 ·simp only [Act.put, List.setIfInBounds_toArray, List.set_cons_zero, List.set_cons_succ, i64_w, i32_w]
  rfl
 refine pure_ (i := 21) (N := some 36) (v := ?_) (a' := ?_) #[true, true, true, false, true, true, true, false, true, true, true, false, true, true, true, false, true, true, true, false, true, true, false, false, false, false, false] rfl rfl (by kernel_rfl) (fun _ _ _ h => h) (Or.inl ⟨by rfl, ?_⟩) ?_ ?_
 rotate_left
 ·intro w'
  go_simp
  with_reducible rfl
 rotate_left
 ·simp only [Act.put, List.setIfInBounds_toArray, List.set_cons_zero, List.set_cons_succ, i64_w, i32_w]
  rfl
 refine pure_ (i := 22) (N := some 37) (v := ?_) (a' := ?_) #[true, true, true, false, true, true, true, false, true, true, true, false, true, true, true, false, true, true, true, false, true, true, true, false, false, false, false] rfl rfl (by kernel_rfl) (fun _ _ _ h => h) (Or.inl ⟨by rfl, ?_⟩) ?_ ?_
 rotate_left
 ·intro w'
  go_simp
  with_reducible rfl
 rotate_left
 ·simp only [Act.put, List.setIfInBounds_toArray, List.set_cons_zero, List.set_cons_succ, i64_w, i32_w]
  rfl
 refine take_ (i := 3) (N := some 18) (v := ?_) (a' := ?_) #[true, true, true, true, true, true, true, false, true, true, true, false, true, true, true, false, true, true, true, false, true, true, true, false, false, false, false] rfl rfl (by kernel_rfl) (fun _ _ _ h => h) (Or.inl ⟨by rfl, ?_⟩) hHeld ?_ ?_
 rotate_left
 ·rintro w' ⟨s0, s1, s2, s3, s4, s5⟩
  go_simp
  with_reducible rfl
 rotate_left
 ·simp only [Act.put, List.setIfInBounds_toArray, List.set_cons_zero, List.set_cons_succ, i64_w, i32_w]
  rfl
 refine take_ (i := 7) (N := some 22) (v := ?_) (a' := ?_) #[true, true, true, true, true, true, true, true, true, true, true, false, true, true, true, false, true, true, true, false, true, true, true, false, false, false, false] rfl rfl (by kernel_rfl) (fun _ _ _ h => h) (Or.inl ⟨by rfl, ?_⟩) hHeld ?_ ?_
 rotate_left
 ·rintro w' ⟨s0, s1, s2, s3, s4, s5⟩
  go_simp
  with_reducible rfl
 rotate_left
 ·simp only [Act.put, List.setIfInBounds_toArray, List.set_cons_zero, List.set_cons_succ, i64_w, i32_w]
  rfl
 refine take_ (i := 11) (N := some 26) (v := ?_) (a' := ?_) #[true, true, true, true, true, true, true, true, true, true, true, true, true, true, true, false, true, true, true, false, true, true, true, false, false, false, false] rfl rfl (by kernel_rfl) (fun _ _ _ h => h) (Or.inl ⟨by rfl, ?_⟩) hHeld ?_ ?_
 rotate_left
 ·rintro w' ⟨s0, s1, s2, s3, s4, s5⟩
  go_simp
  with_reducible rfl
 rotate_left
 ·simp only [Act.put, List.setIfInBounds_toArray, List.set_cons_zero, List.set_cons_succ, i64_w, i32_w]
  rfl
 refine take_ (i := 15) (N := some 30) (v := ?_) (a' := ?_) #[true, true, true, true, true, true, true, true, true, true, true, true, true, true, true, true, true, true, true, false, true, true, true, false, false, false, false] rfl rfl (by kernel_rfl) (fun _ _ _ h => h) (Or.inl ⟨by rfl, ?_⟩) hHeld ?_ ?_
 rotate_left
 ·rintro w' ⟨s0, s1, s2, s3, s4, s5⟩
  go_simp
  with_reducible rfl
 rotate_left
 ·simp only [Act.put, List.setIfInBounds_toArray, List.set_cons_zero, List.set_cons_succ, i64_w, i32_w]
  rfl
 refine take_ (i := 19) (N := some 34) (v := ?_) (a' := ?_) #[true, true, true, true, true, true, true, true, true, true, true, true, true, true, true, true, true, true, true, true, true, true, true, false, false, false, false] rfl rfl (by kernel_rfl) (fun _ _ _ h => h) (Or.inl ⟨by rfl, ?_⟩) hHeld ?_ ?_
 rotate_left
 ·rintro w' ⟨s0, s1, s2, s3, s4, s5⟩
  go_simp
  with_reducible rfl
 rotate_left
 ·simp only [Act.put, List.setIfInBounds_toArray, List.set_cons_zero, List.set_cons_succ, i64_w, i32_w]
  rfl
 refine take_ (i := 23) (N := some 38) (v := ?_) (a' := ?_) #[true, true, true, true, true, true, true, true, true, true, true, true, true, true, true, true, true, true, true, true, true, true, true, true, false, false, false] rfl rfl (by kernel_rfl) (fun _ _ _ h => h) (Or.inl ⟨by rfl, ?_⟩) hHeld ?_ ?_
 rotate_left
 ·rintro w' ⟨s0, s1, s2, s3, s4, s5⟩
  go_simp
  with_reducible rfl
 rotate_left
 ·simp only [Act.put, List.setIfInBounds_toArray, List.set_cons_zero, List.set_cons_succ, i64_w, i32_w]
  rfl
 refine pure_ (i := 24) (N := some 39) (v := ?_) (a' := ?_) #[true, true, true, true, true, true, true, true, true, true, true, true, true, true, true, true, true, true, true, true, true, true, true, true, true, false, false] rfl rfl (by kernel_rfl) (fun _ _ _ h => h) (Or.inl ⟨by rfl, ?_⟩) ?_ ?_
 rotate_left
 ·intro w'
  go_simp
  with_reducible rfl
 rotate_left
 ·simp only [Act.put, List.setIfInBounds_toArray, List.set_cons_zero, List.set_cons_succ, i64_w, i32_w]
  rfl
 refine last_ (i := 25) (N := none) #[true, true, true, true, true, true, true, true, true, true, true, true, true, true, true, true, true, true, true, true, true, true, true, true, true, true, false] rfl rfl (by kernel_rfl) (by decide) (fun K hK => ?_)
 rw [if_pos (by rfl)]
 refine wp_store_row 26 _ _ rfl w.heap.size #[.bool false, .int .i64 0, .int .u64 a0, .int .u64 a1, .int .u64 a2, .int .u64 a3, .int .u64 a4, .int .u64 a5] rfl rfl 26 noSched hrow schedSize rfl (by simp [Value.oneCell']) ?_
 refine hK.out _ _ ?_
 clear hK K
 refine pure_ (i := 26) (N := some 5) (v := ?_) (a' := ?_) #[true, true, true, true, true, true, true, true, true, true, true, true, true, true, true, true, true, true, true, true, true, true, true, true, true, true, true] rfl rfl (by kernel_rfl) (fun _ _ _ h => h) (Or.inl ⟨by rfl, ?_⟩) ?_ ?_
 rotate_left
 ·intro w'
  go_simp
  with_reducible rfl
 rotate_left
 ·simp only [Act.put, List.setIfInBounds_toArray, List.set_cons_zero, List.set_cons_succ, i64_w, i32_w]
  rfl
 refine done_ (by kernel_rfl) ?_
 go_wp2_with fail
 refine bodyPost_ret (v := .tuple #[.agg #[.bool false, .int .i64 0, .int .u64 a0, .int .u64 a1, .int .u64 a2, .int .u64 a3, .int .u64 a4, .int .u64 a5], .bool true]) ?_ rfl ⟨rfl, ?_⟩
 ·exact results_sched (fn := Tryz.f46) (p := 4) (u := 5) rfl _ _ w.heap.size _ rfl rfl (setRow_heap _ _ _ _ _ _ hrow)
 ·exact below_setRow (hB1.drew) (Nat.le_refl _) _
theorem twoB_iff (o : Nat) : twoB o = true ↔ 0 < o &&& 128 ∧ 0 < o &&& 2 := by
 unfold twoB
 rw [Bool.and_eq_true, decide_eq_true_iff, decide_eq_true_iff]
set_option maxRecDepth 100000 in
theorem parseCron_any (o : Nat) (ho : o < 512) (s : ByteArray) (hs : s.size ≤ 4294967296) (h1 : Lib.hasPrefix s.data.toList [84, 90, 61] = false) (h2 : Lib.hasPrefix s.data.toList [67, 82, 79, 78, 95, 84, 90, 61] = false)
  (h3 : Lib.hasPrefix s.data.toList [64] = false) (w : World) (hg : G w) :
  Calls Tryz.prog 11 #[.int .i64 o, .string s] w (CronAns w (if twoB o = true then none else parseS s o)) := by
 by_cases htw : twoB o = true
 ·rw [if_pos htw]
  have HP := Lib.hid (fun w' => parser_bad o ho ((twoB_iff o).1 htw) w')
  clear h1 h2 h3 htw
  go_enter Tryz.func11, Tryz.ntmps11
  go_wp2_with fail
  refine (HP.out _).mono ?_
  rintro e w1 ⟨rfl, hb1⟩
  have hrow : w1.heap[w.heap.size]? = some (.cells noSched 26 (0, 0)) := (hb1.block _ (by simp)).trans (heap_alloc_new w _)
  have hB1 : Below w.heap.size w w1 := ((Below.refl _ _).alloc (Nat.le_refl _) _).trans (hb1.mono (by simp))
  have hlt1 : w.heap.size < w1.heap.size := (Array.getElem?_eq_some_iff.1 hrow).1
  clear hb1
  have hrow2 : (w1.alloc (.cells #[.int .i64 0] 105)).heap[w.heap.size]? = some (.cells noSched 26 (0, 0)) := ((Below.refl w1.heap.size w1).alloc (Nat.le_refl _) _ |>.block _ hlt1).trans hrow
  go_wp2_with (refine wpList_store_sched rfl _ _ rfl w.heap.size noSched noSched rfl rfl rfl noSched_one rfl hrow2 ?_)
  refine bodyPost_ret (v := .tuple #[.agg noSched, .bool false]) ?_ rfl ⟨rfl, ?_⟩
  ·exact results_sched (fn := Tryz.f11) (p := 4) (u := 5) rfl _ _ w.heap.size _ rfl rfl (setRow_heap _ _ _ _ _ _ hrow2)
  ·exact below_setRow (hB1.alloc hB1.size _) (Nat.le_refl _) _
 ·rw [if_neg htw]
  have HP := Lib.hid (fun w' => parser_ok o ho (fun h => htw ((twoB_iff o).2 h)) w')
  have HC := Lib.hid (fun w' hg' => parsePlain o ho s hs h1 h2 h3 w' hg')
  have HG := Lib.hid (fun w' (h : Below w.heap.size w w') => hg.below h)
  clear h1 h2 h3 htw hg
  generalize parseS s o = r at *
  go_enter Tryz.func11, Tryz.ntmps11
  go_wp2_with fail
  refine (HP.out _).mono ?_
  rintro e w1 ⟨rfl, hb1⟩
  have hrow : w1.heap[w.heap.size]? = some (.cells noSched 26 (0, 0)) := (hb1.block _ (by simp)).trans (heap_alloc_new w _)
  have hB1 : Below w.heap.size w w1 := ((Below.refl _ _).alloc (Nat.le_refl _) _).trans (hb1.mono (by simp))
  have hlt1 : w.heap.size < w1.heap.size := (Array.getElem?_eq_some_iff.1 hrow).1
  clear hb1
  have HB1 := Lib.hid hB1
  have HROW := Lib.hid hrow
  clear hB1 hrow
  go_wp2_with fail
  refine (HC.out _ (HG.out _ (HB1.out.alloc HB1.out.size _))).mono ?_
  intro e w2 hP
  obtain ⟨hres, hb2⟩ := hP
  have HB2 := Lib.hid (below_of_le (HB1.out.alloc HB1.out.size _) hb2)
  have hrow2 : w2.heap[w.heap.size]? = some (.cells noSched 26 (0, 0)) := (hb2.block _ (by simp; omega)).trans (((Below.refl w1.heap.size w1).alloc (Nat.le_refl _) _ |>.block _ hlt1).trans HROW.out)
  have HROW2 := Lib.hid hrow2
  clear hb2 hrow2 HC HG HP HROW HB1
  cases r with
  | none =>
   obtain ⟨t, x, rfl⟩ := hres
   go_wp2_with fail
   refine (plainSched_bad _ _ _ _).mono ?_
   rintro e w3 ⟨rfl, hb3⟩
   have hrow3 := (hb3.block _ (Array.getElem?_eq_some_iff.1 HROW2.out).1).trans HROW2.out
   have HROW3 := Lib.hid hrow3
   have HB3 := Lib.hid (below_of_le HB2.out hb3)
   clear hrow3 hb3
   go_wp2_with (refine wpList_store_sched rfl _ _ rfl w.heap.size noSched noSched rfl rfl rfl noSched_one rfl HROW3.out ?_)
   refine bodyPost_ret (v := .tuple #[.agg noSched, .bool false]) ?_ rfl ⟨rfl, ?_⟩
   ·exact results_sched (fn := Tryz.f11) (p := 4) (u := 5) rfl _ _ w.heap.size _ rfl rfl (setRow_heap _ _ _ _ _ _ HROW3.out)
   ·exact below_setRow HB3.out (Nat.le_refl _) _
  | some l =>
   obtain ⟨g, rfl, hg⟩ := hres
   have HGG := Lib.hid hg
   clear hg
   go_wp2_with fail
   refine (plainSched_ok l g none _ HGG.out).mono ?_
   rintro e w3 ⟨rfl, hb3⟩
   have hrow3 := (hb3.block _ (Array.getElem?_eq_some_iff.1 HROW2.out).1).trans HROW2.out
   have HROW3 := Lib.hid hrow3
   have HB3 := Lib.hid (below_of_le HB2.out hb3)
   clear hrow3 hb3
   go_wp2_with (refine wpList_store_sched rfl _ _ rfl w.heap.size (schedCells l) noSched rfl rfl rfl (sched_one l) rfl HROW3.out ?_)
   refine bodyPost_ret (v := .tuple #[.agg (schedCells l), .bool true]) ?_ rfl ⟨rfl, ?_⟩
   ·exact results_sched (fn := Tryz.f11) (p := 4) (u := 5) rfl _ _ w.heap.size _ rfl rfl (setRow_heap _ _ _ _ _ _ HROW3.out)
   ·exact below_setRow HB3.out (Nat.le_refl _) _
end Go.Proofs.YtmecbmgfacpecaaGreatDoor.Cron
namespace Go.Proofs.YtmecbmgfacpecaaGreatDoor.Cron
open Go Go.RowKit Go.Proofs.YtmecbmgfacpecaaGreatDoor.Text Go.Proofs.YtmecbmgfacpecaaGreatDoorW.PrintWords Go.Proofs.YtmecbmgfacpecaaGreatDoorW.PrintLast Go.Proofs.YtmecbmgfacpecaaGreatDoorW.PrintMore Go.Proofs.YtmecbmgfacpecaaGreatDoor.Pr
set_option linter.unusedVariables false
set_option linter.unusedSimpArgs false
def Ascii (s : ByteArray) : Prop := ∀ c ∈ s.data.toList, c.toNat < 128
def Word (x : ByteArray) : Prop := x.data.toList ≠ [] ∧ ∀ c ∈ x.data.toList, spaceZ c.toNat = false
theorem spans_word (s : ByteArray) (ha : Ascii s) : ∀ (f pos : Nat) (st : Option Nat) (acc : List (Nat × Nat)), s.size ≤ f + pos → pos ≤ s.size →
  (∀ a, st = some a → a < pos ∧ ∀ c ∈ (s.data.toList.take pos).drop a, spaceZ c.toNat = false) → (∀ x ∈ acc, Word (spanBa s x)) → ∀ x ∈ Lib.closeSpans s (Lib.spansFromP spaceZ s f pos st acc), Word (spanBa s x) := by
 have hsz := size_list s
 have mk : ∀ (a pos : Nat), a < pos → pos ≤ s.size → (∀ c ∈ (s.data.toList.take pos).drop a, spaceZ c.toNat = false) → Word (spanBa s (a, pos)) := by
  intro a pos h1 h2 h3
  unfold Word spanBa
  rw [extract_ba, ba_list]
  show (s.data.toList.take pos).drop a ≠ [] ∧ ∀ c ∈ (s.data.toList.take pos).drop a, spaceZ c.toNat = false
  refine ⟨?_, h3⟩
  intro h0
  have := congrArg List.length h0
  rw [List.length_drop, List.length_take] at this
  simp at this
  omega
 intro f
 induction f with
 | zero =>
  intro pos st acc h1 h2 h3 h4 x hx
  have hp : pos = s.size := by omega
  unfold Lib.spansFromP Lib.closeSpans at hx
  cases st with
  | none => exact h4 x hx
  | some a =>
   simp only [List.mem_append, List.mem_singleton] at hx
   rcases hx with hx | rfl
   ·exact h4 x hx
   ·have := h3 a rfl
    rw [hp] at this
    exact mk a s.size this.1 (Nat.le_refl _) this.2
 | succ f ih =>
  intro pos st acc h1 h2 h3 h4 x hx
  by_cases hlt : pos < s.size
  ·have hl : pos < s.data.toList.length := by omega
   have hm := List.getElem_mem hl
   have hget := List.getElem?_eq_getElem hl
   have hdec := (dec_at _ (ha _ hm) s pos hlt).1 hget
   unfold Lib.spansFromP at hx
   rw [if_pos hlt, hdec] at hx
   simp only at hx
   have hstep : ∀ a, a ≤ pos → (s.data.toList.take (pos + 1)).drop a = (s.data.toList.take pos).drop a ++ [s.data.toList[pos]] := by
    intro a h
    rw [List.take_add_one, hget, Option.toList_some, List.drop_append_of_le_length (by rw [List.length_take]; omega)]
   generalize s.data.toList[pos] = c at *
   cases hsp : spaceZ c.toNat with
   | true =>
    rw [hsp, if_pos rfl] at hx
    cases st with
    | none => exact ih (pos + 1) none acc (by omega) (by omega) (fun a h => by cases h) h4 x hx
    | some a =>
     refine ih (pos + 1) none (acc ++ [(a, pos)]) (by omega) (by omega) (fun a h => by cases h) ?_ x hx
     intro y hy
     rcases List.mem_append.1 hy with hy | hy
     ·exact h4 y hy
     ·rw [List.mem_singleton.1 hy]
      exact mk a pos (h3 a rfl).1 (by omega) (h3 a rfl).2
   | false =>
    rw [hsp, if_neg (by decide)] at hx
    cases st with
    | none =>
     refine ih (pos + 1) (some pos) acc (by omega) (by omega) ?_ h4 x hx
     intro a h
     injection h with h
     subst h
     refine ⟨by omega, fun d hd => ?_⟩
     rw [hstep _ (Nat.le_refl _), List.drop_eq_nil_of_le (by rw [List.length_take]; omega)] at hd
     have hdc : d = c := by simpa using hd
     rw [hdc]
     exact hsp
    | some a =>
     refine ih (pos + 1) (some a) acc (by omega) (by omega) ?_ h4 x hx
     intro a' h
     injection h with h
     subst h
     have h3a := h3 a rfl
     refine ⟨by omega, fun d hd => ?_⟩
     rw [hstep _ (by omega)] at hd
     rcases List.mem_append.1 hd with hd | hd
     ·exact h3a.2 d hd
     ·rw [List.mem_singleton.1 hd]; exact hsp
  ·rw [Lib.spansFromP_end _ _ _ _ _ _ hlt] at hx
   have hp : pos = s.size := by omega
   unfold Lib.closeSpans at hx
   cases st with
   | none => exact h4 x hx
   | some a =>
    simp only [List.mem_append, List.mem_singleton] at hx
    rcases hx with hx | rfl
    ·exact h4 x hx
    ·have := h3 a rfl
     rw [hp] at this
     exact mk a s.size this.1 (Nat.le_refl _) this.2
theorem fieldsZ_word (s : ByteArray) (ha : Ascii s) : ∀ x ∈ fieldsZ s, Word x := by
 intro x hx
 unfold fieldsZ Lib.goFieldsP at hx
 rw [List.mem_map] at hx
 obtain ⟨y, hy, rfl⟩ := hx
 exact spans_word s ha s.size 0 none [] (by omega) (by omega) (fun a h => by cases h) (fun x h => by cases h) y hy
end Go.Proofs.YtmecbmgfacpecaaGreatDoor.Cron
namespace Go.Proofs.YtmecbmgfacpecaaGreatDoor.Cron
open Go Go.RowKit Go.Proofs.YtmecbmgfacpecaaGreatDoor.Text Go.Proofs.YtmecbmgfacpecaaGreatDoor.Bits Go.Proofs.YtmecbmgfacpecaaGreatDoorW.PrintWords Go.Proofs.YtmecbmgfacpecaaGreatDoorW.PrintLast Go.Proofs.YtmecbmgfacpecaaGreatDoorW.PrintMore Go.Proofs.YtmecbmgfacpecaaGreatDoor.Pr
set_option linter.unusedVariables false
set_option linter.unusedSimpArgs false
def blC (c : UInt8) : Prop := c.toNat < 128 ∧ spaceZ c.toNat = true
def blanksL : List (List UInt8) := [[32], [9], [32], [32, 32], [10], [13], [11], [12]]
def blankAt (r : Nat) : List UInt8 := blanksL.getD r []
theorem blankAt_ok : ∀ r : Fin 8, (∀ c ∈ blankAt r.val, c.toNat < 128 ∧ spaceZ c.toNat = true) ∧ 1 ≤ (blankAt r.val).length ∧ (blankAt r.val).length ≤ 2 := by decide
structure BlankT (l : List UInt8) : Prop where
 ok : ∀ c ∈ l, blC c
 ne : l ≠ []
 len : l.length ≤ 10
theorem blank_index (r : Nat) (hr : r < 8) (w : World) : (Instr.index 232 (.agg #[.string ⟨#[32]⟩, .string ⟨#[9]⟩, .string ⟨#[32]⟩, .string ⟨#[32, 32]⟩, .string ⟨#[10]⟩, .string ⟨#[13]⟩, .string ⟨#[11]⟩, .string ⟨#[12]⟩]) (.int .i64 (r : Nat))).run Tryz.prog w = .ok (.string (ba (blankAt r))) w := by
 have h : r = 0 ∨ r = 1 ∨ r = 2 ∨ r = 3 ∨ r = 4 ∨ r = 5 ∨ r = 6 ∨ r = 7 := by omega
 rcases h with rfl | rfl | rfl | rfl | rfl | rfl | rfl | rfl <;> (show _ = _; kernel_rfl)
theorem blanks_any {w0 w : World} {g : Nat} (hs : Sty w0 w g) :
  Calls Tryz.prog 82 #[.pointer (some ⟨g, 0, none⟩)] w fun e w' => ∃ l, BlankT l ∧ e = .returned (.string (ba l)) ∧ StyTo w0 w g w' := by
 have HP := Lib.hid (fun n hn w' (h : Sty w0 w' g) => pick_any h n hn)
 have HS := Lib.hid hs
 clear hs
 go_enter Tryz.func82, Tryz.ntmps82
 go_wp2_with fail
 go_loopw [3] (fun v3 wr => ∃ l : List UInt8, v3 = .string (ba l) ∧ (∀ c ∈ l, blC c) ∧ l.length ≤ 8 ∧ StyTo w0 w g wr) (fun v3 _ => 9 - strN v3)
 case atStart => exact ⟨[], rfl, (fun c hc => by cases hc), by simp, HS.out.self⟩
 case round =>
  obtain ⟨l, rfl, hl, hn, hst⟩ := hrel
  have HST := Lib.hid hst
  have HL := Lib.hid hl
  clear hst hl
  go_wp2_with fail
  refine (HP.out 8 (by omega) _ HST.out.1).mono ?_
  rintro e w1 ⟨r, hr, rfl, hst1⟩
  have HST1 := Lib.hid (HST.out.trans hst1)
  have hix := blank_index r hr
  have hb := blankAt_ok ⟨r, hr⟩
  have hr0 : (0 : Int) ≤ r := by omega
  have hr8 : (r : Int) < 8 := by omega
  have hsz : (ba (blankAt r)).size ≤ 2 := by rw [ba_size]; exact hb.2.2
  have hsl : (ba l).size ≤ 8 := by rw [ba_size]; exact hn
  clear hst1 HST
  go_wp2_with fail
  refine (HP.out 4 (by omega) _ HST1.out.1).mono ?_
  rintro e w2 ⟨r2, hr2, rfl, hst2⟩
  have HST2 := Lib.hid (HST1.out.trans hst2)
  have hsum : (ba l ++ ba (blankAt r)).size = l.length + (blankAt r).length := by rw [ba_app, ba_size, List.length_append]
  have hl1 : 1 ≤ (blankAt r).length := hb.2.1
  have hl2 : (blankAt r).length ≤ 2 := hb.2.2
  have hall : ∀ c ∈ l ++ blankAt r, blC c := by
   intro c hc
   rcases List.mem_append.1 hc with hc | hc
   ·exact HL.out c hc
   ·exact hb.1 c hc
  have HT := Lib.hid (show l.length + (blankAt r).length ≤ 10 → BlankT (l ++ blankAt r) from fun h => ⟨hall, by intro e; have := congrArg List.length e; rw [List.length_append] at this; simp only [List.length_nil] at this; omega, by rw [List.length_append]; exact h⟩)
  have HA := Lib.hid hall
  clear hst2 HST1 hall hb HL hix
  by_cases h1 : r2 = 1
  ·subst h1
   by_cases h8 : l.length + (blankAt r).length ≤ 8
   ·have hd : decide ((8 : Int) < ((ba l ++ ba (blankAt r)).size : Nat)) = false := decide_eq_false (by rw [hsum]; omega)
    go_wp2_with fail
    go_roundw
    case rel => exact ⟨l ++ blankAt r, by rw [ba_app], HA.out, by rw [List.length_append]; exact h8, HST2.out⟩
    case measure => simp only [strN]; rw [hsum, ba_size]; omega
   ·have hd : decide ((8 : Int) < ((ba l ++ ba (blankAt r)).size : Nat)) = true := decide_eq_true (by rw [hsum]; omega)
    go_wp2_with fail
    go_ret
    exact ⟨_, HT.out (by omega), by show Ending.returned (Value.string (ba l ++ ba (blankAt r))) = _; rw [ba_app], HST2.out⟩
  ·have hd1 : ((r2 : Int) == 1) = false := by simp; omega
   have hd2 : ((r2 : Int) != 1) = true := by simp; omega
   go_wp2_with fail
   go_ret
   exact ⟨_, HT.out (by omega), by show Ending.returned (Value.string (ba l ++ ba (blankAt r))) = _; rw [ba_app], HST2.out⟩
end Go.Proofs.YtmecbmgfacpecaaGreatDoor.Cron
namespace Go.Proofs.YtmecbmgfacpecaaGreatDoor.Cron
open Go Go.RowKit Go.Proofs.YtmecbmgfacpecaaGreatDoor.Text Go.Proofs.YtmecbmgfacpecaaGreatDoor.Bits Go.Proofs.YtmecbmgfacpecaaGreatDoorW.PrintWords Go.Proofs.YtmecbmgfacpecaaGreatDoorW.PrintLast Go.Proofs.YtmecbmgfacpecaaGreatDoorW.PrintMore
set_option linter.unusedVariables false
set_option linter.unusedSimpArgs false
def spL (l : List UInt8) : List UInt8 := l.map fun c => if spaceZ c.toNat = true then 32 else c
theorem spL_len (l : List UInt8) : (spL l).length = l.length := by simp [spL]
theorem spL_word {l : List UInt8} (h : ∀ c ∈ l, spaceZ c.toNat = false) : spL l = l := by
 unfold spL
 rw [List.map_congr_left (g := id) (fun c hc => by rw [if_neg (by rw [h c hc]; simp)]; rfl), List.map_id]
theorem spL_blanks : ∀ {l : List UInt8}, (∀ c ∈ l, spaceZ c.toNat = true) → spL l = List.replicate l.length 32
 | [], _ => rfl
 | c :: l, h => by
  have ih := spL_blanks (l := l) fun x hx => h x (List.mem_cons_of_mem _ hx)
  unfold spL at ih ⊢
  rw [List.map_cons, ih, if_pos (h c (by simp))]
  rfl
theorem spans_sp (l : List UInt8) (ha : ∀ c ∈ l, c.toNat < 128) : ∀ (f pos : Nat) (st : Option Nat) (acc : List (Nat × Nat)), Lib.spansFromP spaceZ (ba l) f pos st acc = Lib.spansFromP (fun r => r == (32 : UInt8).toNat) (ba (spL l)) f pos st acc
 | 0, _, _, _ => rfl
 | f + 1, pos, st, acc => by
  unfold Lib.spansFromP
  have hs1 : (ba l).size = l.length := ba_size l
  have hs2 : (ba (spL l)).size = l.length := by rw [ba_size, spL_len]
  by_cases hlt : pos < l.length
  ·have hm := List.getElem_mem hlt
   have e1 : (ba l).data.toList[pos]? = some l[pos] := by rw [ba_list]; exact List.getElem?_eq_getElem hlt
   have hlt2 : pos < (spL l).length := by rw [spL_len]; exact hlt
   have e2 : (ba (spL l)).data.toList[pos]? = some (if spaceZ l[pos].toNat = true then 32 else l[pos]) := by
    rw [ba_list, List.getElem?_eq_getElem hlt2]
    simp [spL]
   have h2 : (if spaceZ l[pos].toNat = true then (32 : UInt8) else l[pos]).toNat < 128 := by split; decide; exact ha _ hm
   have hd1 := (dec_at _ (ha _ hm) (ba l) pos (by rw [hs1]; exact hlt)).1 e1
   have hd2 := (dec_at _ h2 (ba (spL l)) pos (by rw [hs2]; exact hlt)).1 e2
   rw [if_pos (show pos < (ba l).size by rw [hs1]; exact hlt), if_pos (show pos < (ba (spL l)).size by rw [hs2]; exact hlt), hd1, hd2]
   have hp : ((if spaceZ l[pos].toNat = true then (32 : UInt8) else l[pos]).toNat == (32 : UInt8).toNat) = spaceZ l[pos].toNat := by
    by_cases hb : spaceZ l[pos].toNat = true
    ·rw [if_pos hb, hb]; rfl
    ·rw [if_neg hb]
     have hb' : spaceZ l[pos].toNat = false := by simpa using hb
     rw [hb', beq_eq_false_iff_ne]
     intro e
     rw [e] at hb'
     exact absurd hb' (by decide)
   simp only [hp]
   by_cases hb : spaceZ l[pos].toNat = true
   ·rw [if_pos hb, if_pos hb]
    cases st <;> exact spans_sp l ha f _ _ _
   ·rw [if_neg hb, if_neg hb]
    cases st <;> exact spans_sp l ha f _ _ _
  ·rw [if_neg (show ¬ pos < (ba l).size by rw [hs1]; exact hlt), if_neg (show ¬ pos < (ba (spL l)).size by rw [hs2]; exact hlt)]
theorem fields_sp (l : List UInt8) (ha : ∀ c ∈ l, c.toNat < 128) : fieldsZ (ba l) = (partsL 32 (spL l)).map ba := by
 have hA : Ascii (ba l) := by unfold Ascii; rw [ba_list]; exact ha
 have hgo := goFields_parts 32 (by decide) (ba (spL l))
 rw [ba_list] at hgo
 rw [← hgo]
 have hw := fieldsZ_word (ba l) hA
 have hsz : (ba (spL l)).size = (ba l).size := by rw [ba_size, ba_size, spL_len]
 unfold fieldsZ Lib.goFieldsP Lib.spansOfP at *
 rw [← spans_sp l ha, hsz]
 have hcl : ∀ x, Lib.closeSpans (ba (spL l)) x = Lib.closeSpans (ba l) x := by
  intro x
  unfold Lib.closeSpans
  rw [hsz]
 rw [hcl]
 apply List.map_congr_left
 intro x hx
 have hwx := hw _ (List.mem_map.2 ⟨x, hx, rfl⟩)
 rw [extract_ba, extract_ba, ba_list, ba_list]
 rw [extract_ba, ba_list] at hwx
 have h2 := hwx.2
 rw [ba_list] at h2
 congr 1
 rw [show spL l = l.map (fun c => if spaceZ c.toNat = true then 32 else c) from rfl, ← List.map_take, ← List.map_drop]
 exact (spL_word h2).symm
theorem parts_blanks (n : Nat) (r : List UInt8) : partsL 32 (List.replicate n 32 ++ r) = partsL 32 r := by
 induction n with
 | zero => rfl
 | succ n ih =>
  rw [List.replicate_succ, List.cons_append]
  unfold partsL at ih ⊢
  rw [splitL_cons_eq, List.filter_cons_of_neg (by simp)]
  exact ih
inductive TextT : List (List UInt8) → List UInt8 → Prop
 | nil : TextT [] []
 | snoc {ws : List (List UInt8)} {l : List UInt8} (b w : List UInt8) : TextT ws l → (∀ c ∈ b, blC c) → (ws ≠ [] → b ≠ []) → w ≠ [] → (∀ c ∈ w, c.toNat < 128 ∧ spaceZ c.toNat = false) → TextT (ws ++ [w]) (l ++ b ++ w)
theorem parts_space (r : List UInt8) : partsL 32 (32 :: r) = partsL 32 r := parts_blanks 1 r
theorem parts_word (w r : List UInt8) (hw : ∀ c ∈ w, spaceZ c.toNat = false) (hn : w ≠ []) (hr : r = [] ∨ ∃ r', r = 32 :: r') : partsL 32 (w ++ r) = w :: partsL 32 r := by
 have h32 : ∀ x ∈ w, x ≠ 32 := by
  intro x hx e
  subst e
  exact absurd (hw _ hx) (by decide)
 rcases hr with rfl | ⟨r', rfl⟩
 ·rw [List.append_nil]
  unfold partsL
  rw [splitL_plain _ h32, List.filter_cons_of_pos (by simpa using hn)]
  rfl
 ·rw [parts_space]
  unfold partsL
  rw [splitL_part _ _ h32, List.filter_cons_of_pos (by simpa using hn)]
theorem spL_app (a b : List UInt8) : spL (a ++ b) = spL a ++ spL b := by simp [spL]
theorem TextT.parts {ws : List (List UInt8)} {l : List UInt8} (h : TextT ws l) : ∀ r, (ws = [] ∨ r = [] ∨ ∃ r', r = 32 :: r') → partsL 32 (spL l ++ r) = ws ++ partsL 32 r := by
 induction h with
 | nil => intro r _; rfl
 | @snoc ws l b w h hb hne hn hw ih =>
  intro r hr
  have hr' : r = [] ∨ ∃ r', r = 32 :: r' := hr.resolve_left (by simp)
  rw [spL_app, spL_app, spL_blanks (fun c hc => (hb c hc).2), spL_word (fun c hc => (hw c hc).2), List.append_assoc, List.append_assoc, ih _ ?_, parts_blanks, parts_word w r (fun c hc => (hw c hc).2) hn hr', List.append_assoc]
  ·rfl
  ·by_cases e : ws = []
   ·exact .inl e
   ·have hb0 := hne e
    match b, hb0 with
    | c :: b, _ => exact .inr (.inr ⟨List.replicate b.length 32 ++ (w ++ r), by rw [List.length_cons, List.replicate_succ, List.cons_append]⟩)
theorem TextT.ascii {ws : List (List UInt8)} {l : List UInt8} (h : TextT ws l) : ∀ c ∈ l, c.toNat < 128 := by
 induction h with
 | nil => intro c hc; cases hc
 | snoc b w h hb hne hn hw ih =>
  intro c hc
  rcases List.mem_append.1 hc with hc | hc
  ·rcases List.mem_append.1 hc with hc | hc
   ·exact ih c hc
   ·exact (hb c hc).1
  ·exact (hw c hc).1
theorem TextT.fields {ws : List (List UInt8)} {l t : List UInt8} (h : TextT ws l) (ht : ∀ c ∈ t, blC c) : fieldsZ (ba (l ++ t)) = ws.map ba := by
 rw [fields_sp _ (by
  intro c hc
  rcases List.mem_append.1 hc with hc | hc
  ·exact h.ascii c hc
  ·exact (ht c hc).1), spL_app, spL_blanks (fun c hc => (ht c hc).2), h.parts _ (by
  match t with
  | [] => exact .inr (.inl rfl)
  | c :: t => exact .inr (.inr ⟨List.replicate t.length 32, rfl⟩))]
 have := parts_blanks t.length []
 rw [List.append_nil] at this
 rw [this]
 have e : partsL 32 [] = [] := rfl
 rw [e, List.append_nil]
end Go.Proofs.YtmecbmgfacpecaaGreatDoor.Cron
namespace Go.Proofs.YtmecbmgfacpecaaGreatDoor.Cron
open Go Go.RowKit Go.Proofs.YtmecbmgfacpecaaGreatDoor.Text Go.Proofs.YtmecbmgfacpecaaGreatDoor.Bits Go.Proofs.YtmecbmgfacpecaaGreatDoorW.PrintWords Go.Proofs.YtmecbmgfacpecaaGreatDoorW.PrintLast Go.Proofs.YtmecbmgfacpecaaGreatDoorW.PrintMore
set_option linter.unusedVariables false
set_option linter.unusedSimpArgs false
theorem norm_six (l : List ByteArray) (h : l.length = 6) : normF l 125 = some l := by
 obtain ⟨a, b, c, d, e, f, rfl⟩ : ∃ a b c d e f, l = [a, b, c, d, e, f] := by
  match l, h with
  | [a, b, c, d, e, f], _ => exact ⟨a, b, c, d, e, f, rfl⟩
 have h1 : nOpt 125 = 0 := by decide
 have h2 : takenN (optAll 125) placesL = 6 := by decide
 have h3 : optAll 125 = 125 := by decide
 unfold normF
 rw [h1, h2, h3, if_neg (by omega), if_neg (by simp), if_neg (by omega)]
 simp [fillL, placesL, defaultsL]
theorem TextT.size {ws : List (List UInt8)} {l : List UInt8} (h : TextT ws l) (hne : ws ≠ []) : l ≠ [] := by
 cases h with
 | nil => exact absurd rfl hne
 | snoc b w h hb hn0 hn hw =>
  intro e
  rw [List.append_eq_nil_iff] at e
  exact hn e.2
theorem parse_text {ws : List (List UInt8)} {l t : List UInt8} (h : TextT ws l) (ht : ∀ c ∈ t, blC c) (h6 : ws.length = 6) : parseS (ba (l ++ t)) 125 = sixS (ws.map ba) := by
 unfold parseS
 have hne := h.size (by intro e; rw [e] at h6; simp at h6)
 rw [h.fields ht, norm_six _ (by rw [List.length_map]; exact h6), if_neg]
 ·rfl
 ·intro e
  have hz : (ba (l ++ t)).size = l.length + t.length := by simp [ba, ByteArray.size]
  rw [hz] at e
  exact hne (List.length_eq_zero_iff.1 (by omega))
end Go.Proofs.YtmecbmgfacpecaaGreatDoor.Cron
namespace Go.Proofs.YtmecbmgfacpecaaGreatDoor.Cron
open Go Go.RowKit Go.Proofs.YtmecbmgfacpecaaGreatDoor.Text Go.Proofs.YtmecbmgfacpecaaGreatDoor.Bits Go.Proofs.YtmecbmgfacpecaaGreatDoorW.PrintWords Go.Proofs.YtmecbmgfacpecaaGreatDoorW.PrintLast Go.Proofs.YtmecbmgfacpecaaGreatDoorW.PrintMore Go.Proofs.YtmecbmgfacpecaaGreatDoor.Pr
set_option linter.unusedVariables false
set_option linter.unusedSimpArgs false
def joinK : List ByteArray → List UInt8
 | [] => []
 | x :: xs => x.data.toList ++ joinTail xs
where joinTail : List ByteArray → List UInt8
 | [] => []
 | x :: xs => 44 :: x.data.toList ++ joinTail xs
theorem joinK_l0 (xs : List ByteArray) (N : Nat) (hN : ∀ x ∈ xs, x.size ≤ N) (hlen : xs.length ≤ 2147483647) (hNN : N ≤ 2147483647) : ∀ (d i : Nat) (acc : List UInt8) (k : Nat), xs.length - i = d → i ≤ xs.length → d < k → 0 < i → acc.length ≤ i * (N + 1) →
  spec_CronJoin.l0 k ⟨#[44]⟩ (ba acc) xs (xs.length : Int) (i : Int) = some (ba (acc ++ joinK.joinTail (xs.drop i)))
 | 0, i, acc, k, hd, hi, hk, h0, hac => by
  obtain ⟨k, rfl⟩ : ∃ m, k = m + 1 := ⟨k - 1, by omega⟩
  unfold spec_CronJoin.l0
  rw [if_neg (by omega), List.drop_eq_nil_of_le (by omega)]
  simp [joinK.joinTail]
 | d + 1, i, acc, k, hd, hi, hk, h0, hac => by
  obtain ⟨k, rfl⟩ : ∃ m, k = m + 1 := ⟨k - 1, by omega⟩
  have hlt : i < xs.length := by omega
  have hw : wrap64 ((i : Int) + 1) = ((i + 1 : Nat) : Int) := by
   unfold wrap64
   omega
  have hrd : rdOf ByteArray.empty xs (i : Int) = xs[i] := by
   unfold rdOf
   rw [Int.toNat_natCast]
   simp [List.getD, hlt]
  have hxs := hN _ (List.getElem_mem hlt)
  have hdr := List.drop_eq_getElem_cons hlt
  generalize xs[i] = x at *
  have hmul : i * (N + 1) ≤ 2147483647 * 2147483648 := Nat.mul_le_mul (by omega) (by omega)
  have ej : ba acc ++ ⟨#[44]⟩ ++ x = ba (acc ++ (44 :: x.data.toList)) := by
   apply ByteArray.ext
   simp [ba]
  have hsz1 : (ba acc).size = acc.length := ba_size acc
  have hsz2 : (ba acc ++ (⟨#[44]⟩ : ByteArray)).size = acc.length + 1 := by
   rw [ByteArray.size_append, hsz1]; rfl
  unfold spec_CronJoin.l0
  rw [if_pos (by omega), if_pos (by omega), if_pos (by omega), if_pos (by omega), hrd, if_pos (by rw [hsz1]; show acc.length + 1 ≤ _; omega), if_pos (by rw [hsz2]; omega), ej, hw,
   joinK_l0 xs N hN hlen hNN d (i + 1) _ k (by omega) (by omega) (by omega) (by omega) (by
    rw [List.length_append, List.length_cons, ← size_list, Nat.add_mul]
    omega), hdr]
  simp [joinK.joinTail]
theorem joinK_f (xs : List ByteArray) (N : Nat) (hN : ∀ x ∈ xs, x.size ≤ N) (hlen : xs.length ≤ 2147483647) (hNN : N ≤ 2147483647) : ∃ k, spec_CronJoin.f k xs ⟨#[44]⟩ = some (ba (joinK xs)) := by
 cases xs with
 | nil =>
  refine ⟨1, ?_⟩
  rfl
 | cons x xs =>
  refine ⟨xs.length + 3, ?_⟩
  have hw : wrap64 ((0 : Int) + 1) = ((1 : Nat) : Int) := by
   unfold wrap64
   omega
  have hx := hN x (List.mem_cons_self ..)
  have hrd : rdOf ByteArray.empty (x :: xs) (0 : Int) = x := rfl
  have h0 : (⟨#[]⟩ : ByteArray) ++ x = ba x.data.toList := by
   apply ByteArray.ext
   simp [ba]
  have := joinK_l0 (x :: xs) N hN hlen hNN xs.length 1 x.data.toList (xs.length + 2) (by simp) (by simp) (by omega) (by omega) (by rw [← size_list]; omega)
  unfold spec_CronJoin.f spec_CronJoin.l0
  rw [if_pos (by simp), if_pos (by omega), if_pos (by simp), if_neg (by omega), hrd, if_pos (by show 0 + x.size ≤ _; omega), h0, hw, this]
  rfl
theorem joinK_tail : ∀ L : List (List UInt8), joinK.joinTail (L.map ba) = L.flatMap fun x => 44 :: x
 | [] => rfl
 | x :: L => by
  rw [List.map_cons, joinK.joinTail, joinK_tail L, List.flatMap_cons, ba_list, List.cons_append]
theorem joinC_flat : ∀ (x : List UInt8) (L : List (List UInt8)), joinC (x :: L) = x ++ L.flatMap fun y => 44 :: y
 | x, [] => by simp [joinC]
 | x, y :: r => by rw [joinC, joinC_flat y r, List.flatMap_cons, List.cons_append]
theorem joinK_map (L : List (List UInt8)) : joinK (L.map ba) = joinC L := by
 cases L with
 | nil => rfl
 | cons x L => rw [joinC_flat, List.map_cons, joinK, joinK_tail, ba_list]
theorem joinC_f (L : List (List UInt8)) (h : ∀ x ∈ L, x.length ≤ 40) (hl : L.length ≤ 2147483647) : ∃ k, spec_CronJoin.f k (L.map ba) ⟨#[44]⟩ = some (ba (joinC L)) := by
 obtain ⟨k, hk⟩ := joinK_f (L.map ba) 40 (by
  intro x hx
  obtain ⟨y, hy, rfl⟩ := List.mem_map.1 hx
  have := h y hy
  simpa [ba, ByteArray.size] using this) (by rw [List.length_map]; exact hl) (by omega)
 exact ⟨k, by rw [hk, joinK_map]⟩
end Go.Proofs.YtmecbmgfacpecaaGreatDoor.Cron
