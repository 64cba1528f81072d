/- Lemmas and walks on the way to the law, merged by wip/tools/pack.py: GetBits, AllB, Zone1. Conditions: none. -/
import Derived.Test.YtbgbeohiafiacaaProg
import Derived.WalkKit
import Derived.OwnWalk
import Derived.Lib.Hide
import Derived.Outline
import Derived.Test.YtbgbeohiafiacaaGrL
import Derived.Test.YtbgbeohiafiacaaGrH
import Derived.MapKept
import Derived.Deep.DeepMust
import Derived.Test.YtbgbeohiafiacaaGrB
namespace Go.Proofs.Ytbgbeohiafiacaa.Cron
open Go Go.RowKit Go.Proofs.Ytbgbeohiafiacaa.Bits
set_option linter.unusedVariables false

theorem int_eq {k : IntKind} {a b : Int} (h : a = b) : Ending.returned (.int k a) = .returned (.int k b) := by rw [h]

theorem getBits_one (lo hi : Nat) (h : lo ≤ hi) (hh : hi ≤ 63) (w : World) :
    Calls Try.prog 87 #[.int .u64 lo, .int .u64 hi, .int .u64 1] w fun e w' => e = .returned (.int .u64 (steps lo hi 1)) ∧ w = w' := by
  have hs := Lib.hid (steps_one lo hi hh)
  go_enter Try.func87, Try.ntmps87
  go_wp2
  go_ret
  refine ⟨int_eq ?_, rfl⟩
  rcases hs.out with e | e
  · exact e
  · omega

theorem getBits_more (lo hi st : Nat) (h : lo ≤ hi) (hh : hi ≤ 63) (h2 : 2 ≤ st) (h3 : st ≤ 9223372036854775807) (w : World) :
    Calls Try.prog 87 #[.int .u64 lo, .int .u64 hi, .int .u64 st] w fun e w' => e = .returned (.int .u64 (steps lo hi st)) ∧ w = w' := by
  have hne : ((st : Int) == 1) = false := by simp; omega
  go_enter Try.func87, Try.ntmps87
  go_wp2
  go_loop [7, 8] (fun b i => ∃ n m : Nat, i = .int .u64 n ∧ b = .int .u64 (below lo n st) ∧ Hid (n = lo + m * st) ∧ lo ≤ n ∧ n ≤ hi + st) (fun _ i => hi + st + 1 - (intOf i).toNat)
  case atStart => exact ⟨lo, 0, rfl, by rw [below_start]; rfl, Lib.hid (by simp), by omega, by omega⟩
  case round =>
    obtain ⟨n, m, rfl, rfl, hn, hl, hu⟩ := hrel
    have hb := below_lt lo n st
    by_cases hle : n ≤ hi
    · have hstep := Lib.hid (below_step m hn.out (by omega) (show n ≤ 63 by omega))
      have hor : bits .or .u64 (below lo n st : Int) (IntKind.u64.wrap (2 ^ n)) = (below lo (n + st) st : Int) := by
        rw [show IntKind.u64.wrap (2 ^ n) = ((2 ^ n : Nat) : Int) from shl_one (i := (n : Int)) (by omega) (by omega), or_u64 hb (Nat.pow_lt_pow_right (by decide) (by omega)), hstep.out]
      go_wp2
      go_round
      case rel =>
        refine ⟨n + st, m + 1, by go_num, ?_, Lib.hid ?_, by omega, by omega⟩
        · rfl
        · have := hn.out; rw [Nat.add_mul]; omega
      case measure => simp [intOf]; omega
    · have hend := Lib.hid (below_end m hn.out (show hi < n by omega) hu h)
      go_wp2
      go_ret
      exact ⟨int_eq (by rw [hend.out]), rfl⟩

theorem getBits_any (lo hi st : Nat) (h : lo ≤ hi) (hh : hi ≤ 63) (h2 : 1 ≤ st) (h3 : st ≤ 9223372036854775807) (w : World) :
    Calls Try.prog 87 #[.int .u64 lo, .int .u64 hi, .int .u64 st] w fun e w' => e = .returned (.int .u64 (steps lo hi st)) ∧ w = w' := by
  by_cases e : st = 1
  · subst e; exact getBits_one lo hi h hh w
  · exact getBits_more lo hi st h hh (by omega) h3 w



end Go.Proofs.Ytbgbeohiafiacaa.Cron

namespace Go.Proofs.Ytbgbeohiafiacaa.AllB
open Go Go.RowKit Go.Proofs.Ytbgbeohiafiacaa.Bits Go.Proofs.YtbgbeohiafiacaaW.PrintWords Go.Proofs.YtbgbeohiafiacaaW.PrintLast
set_option linter.unusedVariables false
set_option linter.unusedSimpArgs false

/-- the least and the greatest value of a field -/
def loK (k : Nat) : Nat := if k = 3 ∨ k = 4 then 1 else 0
def hiK (k : Nat) : Nat := if k = 2 then 23 else if k = 3 then 31 else if k = 4 then 12 else if k = 5 then 6 else 59
theorem sizeBounds : (Try.prog.info? 170).map (·.size) = some 3 := by kernel_rfl

theorem results_bounds {fn : Func} {p : Tmp} (h : fn.results = #[.cell p 170]) (tmps : Array Value) (w : World) (g : Nat) (cs : Array Value)
    (hp : tmps.getD p undef = .pointer (some ⟨g, 0, none⟩)) (hs : w.heap[g]? = some (.cells cs 170 (0, 0))) (hz : cs.size = 3) :
    (results fn tmps).run Try.prog w = .ok (.agg cs) w := by
  have hp' : tmps[p]?.getD undef = .pointer (some ⟨g, 0, none⟩) := by simpa using hp
  have hl : (loadVar 170 ⟨g, 0, none⟩).run Try.prog w = .ok (.agg cs) w := run_loadVar_row w g _ _ _ _ _ hs Try.underlying170 rfl (by rw [sizeBounds, hz])
  simp only [results, h]
  simp [asAddr, hp', hl]

theorem store3_row {w : World} {g : Nat} {a b c x y z : Value} {T : TypeId} (h : w.heap[g]? = some (.cells #[a, b, c] T (0, 0))) :
    (((w.setCell ⟨g, 0, none⟩ x).setCell ⟨g, 1, none⟩ y).setCell ⟨g, 2, none⟩ z).heap[g]? = some (.cells #[x, y, z] T (0, 0)) := by
  have h1 := heap_setCell_same w g 0 _ _ x h
  have h2 := heap_setCell_same _ g 1 _ _ y h1
  have h3 := heap_setCell_same _ g 2 _ _ z h2
  simpa using h3

section
variable {ops : Array Oper} {rest : List Oper} {o : Oper} {a : Act} {w : World} {Q : Exit → Act → World → Prop}
theorem wpList_store_bounds (hg : o.guard = none) (x y : Operand) (ho : o.op = .store 170 x y) (g : Nat) (cs : Array Value)
    (hx : a.eval x = .pointer (some ⟨g, 0, none⟩)) (hy : a.eval y = .agg cs) (cs0 : Array Value) (hs : w.heap[g]? = some (.cells cs0 170 (0, 0))) (hz0 : cs0.size = 3) (hz : cs.size = 3) (h1 : cs.all (·.oneCell') = true)
    (h : wpList Try.prog ops Q rest (a.put o.dst undef) (w.setRow g cs)) : wpList Try.prog ops Q (o :: rest) a w :=
  wpList_store_row hg 170 x y ho g _ hx hy _ _ hs (by rw [sizeBounds, hz]) (by rw [hz, hz0]) h1 h
end

theorem seconds_any (w : World) : Calls Try.prog 88 #[] w fun e w' => e = .returned (.agg #[.int .u64 0, .int .u64 59, .map none]) ∧ Below w.heap.size w w' := by
  go_enter Try.func88, Try.ntmps88
  go_wp2
  refine bodyPost_ret (v := .agg #[.int .u64 0, .int .u64 59, .map none]) ?_ rfl ?_
  · exact results_bounds (fn := Try.f88) (p := 0) rfl _ _ w.heap.size _ rfl (heap_alloc_new w _) rfl
  exact ⟨rfl, (Below.refl _ _).alloc (Nat.le_refl _) _⟩

theorem minutes_any (w : World) : Calls Try.prog 89 #[] w fun e w' => e = .returned (.agg #[.int .u64 0, .int .u64 59, .map none]) ∧ Below w.heap.size w w' := by
  go_enter Try.func89, Try.ntmps89
  go_wp2
  refine bodyPost_ret (v := .agg #[.int .u64 0, .int .u64 59, .map none]) ?_ rfl ?_
  · exact results_bounds (fn := Try.f89) (p := 0) rfl _ _ w.heap.size _ rfl (heap_alloc_new w _) rfl
  exact ⟨rfl, (Below.refl _ _).alloc (Nat.le_refl _) _⟩

theorem hours_any (w : World) : Calls Try.prog 90 #[] w fun e w' => e = .returned (.agg #[.int .u64 0, .int .u64 23, .map none]) ∧ Below w.heap.size w w' := by
  go_enter Try.func90, Try.ntmps90
  go_wp2
  refine bodyPost_ret (v := .agg #[.int .u64 0, .int .u64 23, .map none]) ?_ rfl ?_
  · exact results_bounds (fn := Try.f90) (p := 0) rfl _ _ w.heap.size _ rfl (heap_alloc_new w _) rfl
  exact ⟨rfl, (Below.refl _ _).alloc (Nat.le_refl _) _⟩

theorem dom_any (w : World) : Calls Try.prog 91 #[] w fun e w' => e = .returned (.agg #[.int .u64 1, .int .u64 31, .map none]) ∧ Below w.heap.size w w' := by
  go_enter Try.func91, Try.ntmps91
  go_wp2
  refine bodyPost_ret (v := .agg #[.int .u64 1, .int .u64 31, .map none]) ?_ rfl ?_
  · exact results_bounds (fn := Try.f91) (p := 0) rfl _ _ w.heap.size _ rfl (heap_alloc_new w _) rfl
  exact ⟨rfl, (Below.refl _ _).alloc (Nat.le_refl _) _⟩

theorem zzBounds_plain (k : Nat) (hk : k < 4) (w : World) : Calls Try.prog 75 #[.int .i64 k] w fun e w' => e = .returned (.agg #[.int .u64 (loK k : Nat), .int .u64 (hiK k : Nat), .map none]) ∧ Below w.heap.size w w' := by
  match k, hk with
  | 0, _ =>
    have HC := Lib.hid (fun w' => seconds_any w')
    go_enter Try.func75, Try.ntmps75
    go_wp2_with fail
    refine (HC.out _).mono ?_
    rintro e w1 ⟨rfl, hb1⟩
    have hrow : w1.heap[w.heap.size]? = some (.cells #[.int .u64 0, .int .u64 0, .map none] 170 (0, 0)) := (hb1.block w.heap.size (by simp)).trans (heap_alloc_new w _)
    have hB := ((Below.refl w.heap.size w).alloc (Nat.le_refl _) (.cells #[.int .u64 0, .int .u64 0, .map none] 170)).trans (hb1.mono (by simp))
    have HROW := Lib.hid (store3_row (x := .int .u64 0) (y := .int .u64 59) (z := .map none) hrow)
    have hc0 : w1.cell? ⟨w.heap.size, 0, none⟩ = some (.int .u64 0) := cell_of_row _ _ _ _ _ _ hrow
    have hc1 : w1.cell? ⟨w.heap.size, 1, none⟩ = some (.int .u64 0) := cell_of_row _ _ _ _ _ _ hrow
    have hc2 : w1.cell? ⟨w.heap.size, 2, none⟩ = some (.map none) := cell_of_row _ _ _ _ _ _ hrow
    have hf0 : w1.frozen? ⟨w.heap.size, 0, none⟩ = false := frozen_of_row _ _ _ _ _ hrow
    have hf1 : w1.frozen? ⟨w.heap.size, 1, none⟩ = false := frozen_of_row _ _ _ _ _ hrow
    have hf2 : w1.frozen? ⟨w.heap.size, 2, none⟩ = false := frozen_of_row _ _ _ _ _ hrow
    clear hrow hb1
    go_wp2
    refine bodyPost_ret (v := .agg #[.int .u64 0, .int .u64 59, .map none]) ?_ rfl ?_
    · exact results_bounds (fn := Try.f75) (p := 2) rfl _ _ w.heap.size _ rfl HROW.out rfl
    exact ⟨rfl, ((hB.setCell (Nat.le_refl _) _).setCell (Nat.le_refl _) _).setCell (Nat.le_refl _) _⟩
  | 1, _ =>
    have HC := Lib.hid (fun w' => minutes_any w')
    go_enter Try.func75, Try.ntmps75
    go_wp2_with fail
    refine (HC.out _).mono ?_
    rintro e w1 ⟨rfl, hb1⟩
    have hrow : w1.heap[w.heap.size]? = some (.cells #[.int .u64 0, .int .u64 0, .map none] 170 (0, 0)) := (hb1.block w.heap.size (by simp)).trans (heap_alloc_new w _)
    have hB := ((Below.refl w.heap.size w).alloc (Nat.le_refl _) (.cells #[.int .u64 0, .int .u64 0, .map none] 170)).trans (hb1.mono (by simp))
    have HROW := Lib.hid (store3_row (x := .int .u64 0) (y := .int .u64 59) (z := .map none) hrow)
    have hc0 : w1.cell? ⟨w.heap.size, 0, none⟩ = some (.int .u64 0) := cell_of_row _ _ _ _ _ _ hrow
    have hc1 : w1.cell? ⟨w.heap.size, 1, none⟩ = some (.int .u64 0) := cell_of_row _ _ _ _ _ _ hrow
    have hc2 : w1.cell? ⟨w.heap.size, 2, none⟩ = some (.map none) := cell_of_row _ _ _ _ _ _ hrow
    have hf0 : w1.frozen? ⟨w.heap.size, 0, none⟩ = false := frozen_of_row _ _ _ _ _ hrow
    have hf1 : w1.frozen? ⟨w.heap.size, 1, none⟩ = false := frozen_of_row _ _ _ _ _ hrow
    have hf2 : w1.frozen? ⟨w.heap.size, 2, none⟩ = false := frozen_of_row _ _ _ _ _ hrow
    clear hrow hb1
    go_wp2
    refine bodyPost_ret (v := .agg #[.int .u64 0, .int .u64 59, .map none]) ?_ rfl ?_
    · exact results_bounds (fn := Try.f75) (p := 2) rfl _ _ w.heap.size _ rfl HROW.out rfl
    exact ⟨rfl, ((hB.setCell (Nat.le_refl _) _).setCell (Nat.le_refl _) _).setCell (Nat.le_refl _) _⟩
  | 2, _ =>
    have HC := Lib.hid (fun w' => hours_any w')
    go_enter Try.func75, Try.ntmps75
    go_wp2_with fail
    refine (HC.out _).mono ?_
    rintro e w1 ⟨rfl, hb1⟩
    have hrow : w1.heap[w.heap.size]? = some (.cells #[.int .u64 0, .int .u64 0, .map none] 170 (0, 0)) := (hb1.block w.heap.size (by simp)).trans (heap_alloc_new w _)
    have hB := ((Below.refl w.heap.size w).alloc (Nat.le_refl _) (.cells #[.int .u64 0, .int .u64 0, .map none] 170)).trans (hb1.mono (by simp))
    have HROW := Lib.hid (store3_row (x := .int .u64 0) (y := .int .u64 23) (z := .map none) hrow)
    have hc0 : w1.cell? ⟨w.heap.size, 0, none⟩ = some (.int .u64 0) := cell_of_row _ _ _ _ _ _ hrow
    have hc1 : w1.cell? ⟨w.heap.size, 1, none⟩ = some (.int .u64 0) := cell_of_row _ _ _ _ _ _ hrow
    have hc2 : w1.cell? ⟨w.heap.size, 2, none⟩ = some (.map none) := cell_of_row _ _ _ _ _ _ hrow
    have hf0 : w1.frozen? ⟨w.heap.size, 0, none⟩ = false := frozen_of_row _ _ _ _ _ hrow
    have hf1 : w1.frozen? ⟨w.heap.size, 1, none⟩ = false := frozen_of_row _ _ _ _ _ hrow
    have hf2 : w1.frozen? ⟨w.heap.size, 2, none⟩ = false := frozen_of_row _ _ _ _ _ hrow
    clear hrow hb1
    go_wp2
    refine bodyPost_ret (v := .agg #[.int .u64 0, .int .u64 23, .map none]) ?_ rfl ?_
    · exact results_bounds (fn := Try.f75) (p := 2) rfl _ _ w.heap.size _ rfl HROW.out rfl
    exact ⟨rfl, ((hB.setCell (Nat.le_refl _) _).setCell (Nat.le_refl _) _).setCell (Nat.le_refl _) _⟩
  | 3, _ =>
    have HC := Lib.hid (fun w' => dom_any w')
    go_enter Try.func75, Try.ntmps75
    go_wp2_with fail
    refine (HC.out _).mono ?_
    rintro e w1 ⟨rfl, hb1⟩
    have hrow : w1.heap[w.heap.size]? = some (.cells #[.int .u64 0, .int .u64 0, .map none] 170 (0, 0)) := (hb1.block w.heap.size (by simp)).trans (heap_alloc_new w _)
    have hB := ((Below.refl w.heap.size w).alloc (Nat.le_refl _) (.cells #[.int .u64 0, .int .u64 0, .map none] 170)).trans (hb1.mono (by simp))
    have HROW := Lib.hid (store3_row (x := .int .u64 1) (y := .int .u64 31) (z := .map none) hrow)
    have hc0 : w1.cell? ⟨w.heap.size, 0, none⟩ = some (.int .u64 0) := cell_of_row _ _ _ _ _ _ hrow
    have hc1 : w1.cell? ⟨w.heap.size, 1, none⟩ = some (.int .u64 0) := cell_of_row _ _ _ _ _ _ hrow
    have hc2 : w1.cell? ⟨w.heap.size, 2, none⟩ = some (.map none) := cell_of_row _ _ _ _ _ _ hrow
    have hf0 : w1.frozen? ⟨w.heap.size, 0, none⟩ = false := frozen_of_row _ _ _ _ _ hrow
    have hf1 : w1.frozen? ⟨w.heap.size, 1, none⟩ = false := frozen_of_row _ _ _ _ _ hrow
    have hf2 : w1.frozen? ⟨w.heap.size, 2, none⟩ = false := frozen_of_row _ _ _ _ _ hrow
    clear hrow hb1
    go_wp2
    refine bodyPost_ret (v := .agg #[.int .u64 1, .int .u64 31, .map none]) ?_ rfl ?_
    · exact results_bounds (fn := Try.f75) (p := 2) rfl _ _ w.heap.size _ rfl HROW.out rfl
    exact ⟨rfl, ((hB.setCell (Nat.le_refl _) _).setCell (Nat.le_refl _) _).setCell (Nat.le_refl _) _⟩

/-- the entries of a map that was filled with pairs, one after another -/
def entsGo : List (ByteArray × Int) → Nat → List MapEntry
  | [], _ => []
  | (k, v) :: t, i => ⟨.string k, .int .u64 v, i⟩ :: entsGo t (i + 1)

def MapAt (w : World) (r : Nat) (L : List (ByteArray × Int)) : Prop := w.heap[r]? = some (.map (entsGo L 0).toArray L.length)

def findL (s : ByteArray) : List (ByteArray × Int) → Nat → Option (Nat × Int)
  | [], _ => none
  | (k, v) :: t, i => if s = k then some (i, v) else findL s t (i + 1)

theorem ba_beq (s k : ByteArray) : (s == k) = decide (s = k) := by
  obtain ⟨a⟩ := s
  obtain ⟨b⟩ := k
  have h1 : ((⟨a⟩ : ByteArray) == ⟨b⟩) = (a == b) := by first | rfl | kernel_rfl
  rw [h1, Bool.eq_iff_iff]
  simp

theorem findNow_ents (s : ByteArray) : ∀ (L : List (ByteArray × Int)) (i j : Nat), Instr.findNow .string (.string s) (entsGo L j) i = some ((findL s L i).map fun x => (x.1, Value.int .u64 x.2))
  | [], _, _ => rfl
  | (k, v) :: t, i, j => by
    unfold entsGo Instr.findNow findL
    by_cases h : s = k
    · subst h
      simp [Instr.sameNow, ba_beq]
    · have : (s == k) = false := by rw [ba_beq]; exact decide_eq_false h
      simp only [Instr.sameNow, this, if_neg h]
      exact findNow_ents s t (i + 1) (j + 1)

theorem ents_snoc : ∀ (L : List (ByteArray × Int)) (k : ByteArray) (v : Int) (i : Nat), entsGo (L ++ [(k, v)]) i = entsGo L i ++ [⟨.string k, .int .u64 v, i + L.length⟩]
  | [], k, v, i => rfl
  | (a, b) :: t, k, v, i => by
    simp only [List.cons_append, entsGo, List.length_cons]
    rw [ents_snoc t k v (i + 1)]
    simp only [Nat.add_assoc, Nat.add_comm 1]

theorem run_insert_name (w : World) (r : Nat) (L : List (ByteArray × Int)) (k : ByteArray) (v : Int) (hM : MapAt w r L) (hne : findL k L 0 = none) :
    ∃ w', (Instr.mapUpdate 168 (.map (some r)) (.string k) (.int .u64 v)).run Try.prog w = .ok () w' ∧ MapAt w' r (L ++ [(k, v)]) ∧ Below r w w' := by
  have hM' : w.heap[r]? = some (.map (entsGo L 0).toArray L.length) := hM
  refine ⟨{ w with heap := w.heap.setIfInBounds r (.map ((entsGo L 0).toArray.push ⟨.string k, .int .u64 v, L.length⟩) (L.length + 1)) }, ?_, ?_, ?_⟩
  · have hfk := MapKept.run_findKey (P := Try.prog) (w := w) (kt := 9) (k := .string k) Try.underlying9 (findNow_ents k L 0 0)
    rw [hne] at hfk
    have hck := MapKept.run_checkKey (P := Try.prog) (w := w) (kt := 9) (d := .string) (k := .string k) Try.underlying9 (by first | trivial | rfl | simp [MapKept.IsKey]) false 9999
    simp [Instr.mapUpdate, Sem.run_bind, run_underlying Try.underlying168, MapKept.run_getObj_map hM', hck, hfk, MapKept.run_setObj_map _ hM', Result.andThen]
  · unfold MapAt
    rw [(MapKept.heap_set hM').1, ents_snoc]
    simp
  · exact ⟨rfl, rfl, rfl, by simp, fun b hb => (MapKept.heap_set hM').2 b (by omega)⟩

section
variable {ops : Array Oper} {rest : List Oper} {o : Oper} {a : Act} {w : World} {Q : Exit → Act → World → Prop}
theorem wpList_insert_name (hg : o.guard = none) (m x y : Operand) (ho : o.op = .insert 168 m x y) (r : Nat) (k : ByteArray) (v : Int) (hm : a.eval m = .map (some r)) (hx : a.eval x = .string k) (hy : a.eval y = .int .u64 v)
    (L : List (ByteArray × Int)) (hM : MapAt w r L) (hne : findL k L 0 = none)
    (h : ∀ w', MapAt w' r (L ++ [(k, v)]) → Below r w w' → wpList Try.prog ops Q rest (a.put o.dst undef) w') : wpList Try.prog ops Q (o :: rest) a w := by
  refine wpList_plain hg fun K hK => ?_
  obtain ⟨w', hr, hM', hb⟩ := run_insert_name w r L k v hM hne
  unfold Oper.wp execOp
  simp only [ho, hm, hx, hy, hr, Sem.run_bind, Sem.run_pure, Result.andThen_ok]
  exact hK _ _ (h w' hM' hb)
end


theorem row_kept {w w' : World} {cs : Array Value} {T : TypeId} {o : Obj} (h : Below (w.heap.size + 1) ((w.alloc (.cells cs T)).alloc o) w') : w'.heap[w.heap.size]? = some (.cells cs T (0, 0)) :=
  (h.block w.heap.size (by omega)).trans ((heap_alloc_old _ o (by simp)).trans (heap_alloc_new w _))

theorem run_makeMap_names (w : World) : (Instr.makeMap 168 none).run Try.prog w = .ok (.map (some w.heap.size)) (w.alloc (.map #[] 0)) := by rfl

theorem mapAt_new (w : World) (o : Obj) : MapAt ((w.alloc o).alloc (.map #[] 0)) (w.heap.size + 1) [] := by
  have := heap_alloc_new (w.alloc o) (.map #[] 0)
  rw [show (w.alloc o).heap.size = w.heap.size + 1 by simp] at this
  exact this

theorem MapAt.lt {w : World} {r : Nat} {L : List (ByteArray × Int)} (h : MapAt w r L) : r < w.heap.size := (Array.getElem?_eq_some_iff.1 h).1

theorem MapAt.below {w w' : World} {r : Nat} {L : List (ByteArray × Int)} (h : MapAt w r L) (hb : Below w.heap.size w w') : MapAt w' r L := (hb.block r h.lt).trans h

theorem MapAt.put {w : World} {r g i : Nat} {L : List (ByteArray × Int)} {v : Value} (h : MapAt w r L) (hg : r ≠ g) : MapAt (w.setCell ⟨g, i, none⟩ v) r L := by
  unfold MapAt
  rw [heap_setCell_other w ⟨g, i, none⟩ r v hg]
  exact h

def monthsL : List (ByteArray × Int) := [(⟨#[106, 97, 110]⟩, 1), (⟨#[102, 101, 98]⟩, 2), (⟨#[109, 97, 114]⟩, 3), (⟨#[97, 112, 114]⟩, 4), (⟨#[109, 97, 121]⟩, 5), (⟨#[106, 117, 110]⟩, 6), (⟨#[106, 117, 108]⟩, 7), (⟨#[97, 117, 103]⟩, 8), (⟨#[115, 101, 112]⟩, 9), (⟨#[111, 99, 116]⟩, 10), (⟨#[110, 111, 118]⟩, 11), (⟨#[100, 101, 99]⟩, 12)]

set_option maxRecDepth 100000 in
set_option maxHeartbeats 1000000 in
theorem months_any (w : World) : Calls Try.prog 92 #[] w fun e w' => ∃ r, e = .returned (.agg #[.int .u64 1, .int .u64 12, .map (some r)]) ∧ w.heap.size < r ∧ MapAt w' r monthsL ∧ Below w.heap.size w w' := by
  have hmk := run_makeMap_names
  go_enter Try.func92, Try.ntmps92
  go_wp2_with (first
    | (refine wpList_insert_name rfl _ _ _ rfl (w.heap.size + 1) ⟨#[106, 97, 110]⟩ 1 rfl rfl rfl [] (mapAt_new _ _) rfl ?_; intro w1 hM1 hb1)
    | (refine wpList_insert_name rfl _ _ _ rfl (w.heap.size + 1) ⟨#[102, 101, 98]⟩ 2 rfl rfl rfl [(⟨#[106, 97, 110]⟩, 1)] hM1 rfl ?_; intro w2 hM2 hb2)
    | (refine wpList_insert_name rfl _ _ _ rfl (w.heap.size + 1) ⟨#[109, 97, 114]⟩ 3 rfl rfl rfl [(⟨#[106, 97, 110]⟩, 1), (⟨#[102, 101, 98]⟩, 2)] hM2 rfl ?_; intro w3 hM3 hb3)
    | (refine wpList_insert_name rfl _ _ _ rfl (w.heap.size + 1) ⟨#[97, 112, 114]⟩ 4 rfl rfl rfl [(⟨#[106, 97, 110]⟩, 1), (⟨#[102, 101, 98]⟩, 2), (⟨#[109, 97, 114]⟩, 3)] hM3 rfl ?_; intro w4 hM4 hb4)
    | (refine wpList_insert_name rfl _ _ _ rfl (w.heap.size + 1) ⟨#[109, 97, 121]⟩ 5 rfl rfl rfl [(⟨#[106, 97, 110]⟩, 1), (⟨#[102, 101, 98]⟩, 2), (⟨#[109, 97, 114]⟩, 3), (⟨#[97, 112, 114]⟩, 4)] hM4 rfl ?_; intro w5 hM5 hb5)
    | (refine wpList_insert_name rfl _ _ _ rfl (w.heap.size + 1) ⟨#[106, 117, 110]⟩ 6 rfl rfl rfl [(⟨#[106, 97, 110]⟩, 1), (⟨#[102, 101, 98]⟩, 2), (⟨#[109, 97, 114]⟩, 3), (⟨#[97, 112, 114]⟩, 4), (⟨#[109, 97, 121]⟩, 5)] hM5 rfl ?_; intro w6 hM6 hb6)
    | (refine wpList_insert_name rfl _ _ _ rfl (w.heap.size + 1) ⟨#[106, 117, 108]⟩ 7 rfl rfl rfl [(⟨#[106, 97, 110]⟩, 1), (⟨#[102, 101, 98]⟩, 2), (⟨#[109, 97, 114]⟩, 3), (⟨#[97, 112, 114]⟩, 4), (⟨#[109, 97, 121]⟩, 5), (⟨#[106, 117, 110]⟩, 6)] hM6 rfl ?_; intro w7 hM7 hb7)
    | (refine wpList_insert_name rfl _ _ _ rfl (w.heap.size + 1) ⟨#[97, 117, 103]⟩ 8 rfl rfl rfl [(⟨#[106, 97, 110]⟩, 1), (⟨#[102, 101, 98]⟩, 2), (⟨#[109, 97, 114]⟩, 3), (⟨#[97, 112, 114]⟩, 4), (⟨#[109, 97, 121]⟩, 5), (⟨#[106, 117, 110]⟩, 6), (⟨#[106, 117, 108]⟩, 7)] hM7 rfl ?_; intro w8 hM8 hb8)
    | (refine wpList_insert_name rfl _ _ _ rfl (w.heap.size + 1) ⟨#[115, 101, 112]⟩ 9 rfl rfl rfl [(⟨#[106, 97, 110]⟩, 1), (⟨#[102, 101, 98]⟩, 2), (⟨#[109, 97, 114]⟩, 3), (⟨#[97, 112, 114]⟩, 4), (⟨#[109, 97, 121]⟩, 5), (⟨#[106, 117, 110]⟩, 6), (⟨#[106, 117, 108]⟩, 7), (⟨#[97, 117, 103]⟩, 8)] hM8 rfl ?_; intro w9 hM9 hb9)
    | (refine wpList_insert_name rfl _ _ _ rfl (w.heap.size + 1) ⟨#[111, 99, 116]⟩ 10 rfl rfl rfl [(⟨#[106, 97, 110]⟩, 1), (⟨#[102, 101, 98]⟩, 2), (⟨#[109, 97, 114]⟩, 3), (⟨#[97, 112, 114]⟩, 4), (⟨#[109, 97, 121]⟩, 5), (⟨#[106, 117, 110]⟩, 6), (⟨#[106, 117, 108]⟩, 7), (⟨#[97, 117, 103]⟩, 8), (⟨#[115, 101, 112]⟩, 9)] hM9 rfl ?_; intro w10 hM10 hb10)
    | (refine wpList_insert_name rfl _ _ _ rfl (w.heap.size + 1) ⟨#[110, 111, 118]⟩ 11 rfl rfl rfl [(⟨#[106, 97, 110]⟩, 1), (⟨#[102, 101, 98]⟩, 2), (⟨#[109, 97, 114]⟩, 3), (⟨#[97, 112, 114]⟩, 4), (⟨#[109, 97, 121]⟩, 5), (⟨#[106, 117, 110]⟩, 6), (⟨#[106, 117, 108]⟩, 7), (⟨#[97, 117, 103]⟩, 8), (⟨#[115, 101, 112]⟩, 9), (⟨#[111, 99, 116]⟩, 10)] hM10 rfl ?_; intro w11 hM11 hb11)
    | (refine wpList_insert_name rfl _ _ _ rfl (w.heap.size + 1) ⟨#[100, 101, 99]⟩ 12 rfl rfl rfl [(⟨#[106, 97, 110]⟩, 1), (⟨#[102, 101, 98]⟩, 2), (⟨#[109, 97, 114]⟩, 3), (⟨#[97, 112, 114]⟩, 4), (⟨#[109, 97, 121]⟩, 5), (⟨#[106, 117, 110]⟩, 6), (⟨#[106, 117, 108]⟩, 7), (⟨#[97, 117, 103]⟩, 8), (⟨#[115, 101, 112]⟩, 9), (⟨#[111, 99, 116]⟩, 10), (⟨#[110, 111, 118]⟩, 11)] hM11 rfl ?_; intro w12 hM12 hb12; go_must (have hrow := row_kept ((((((((((((hb1).trans hb2).trans hb3).trans hb4).trans hb5).trans hb6).trans hb7).trans hb8).trans hb9).trans hb10).trans hb11).trans hb12); have hc0 : _ = some _ := cell_of_row _ _ 0 _ _ _ hrow; have hc1 : _ = some _ := cell_of_row _ _ 1 _ _ _ hrow; have hc2 : _ = some _ := cell_of_row _ _ 2 _ _ _ hrow; have hf0 := frozen_of_row _ _ 0 _ _ hrow; have hf1 := frozen_of_row _ _ 1 _ _ hrow; have hf2 := frozen_of_row _ _ 2 _ _ hrow; have HROW := Lib.hid hrow; clear hrow)))
  have HB : Below w.heap.size w w12 := (((Below.refl _ _).alloc (Nat.le_refl _) _).alloc (by simp) _).trans (((((((((((((hb1.trans hb2).trans hb3).trans hb4).trans hb5).trans hb6).trans hb7).trans hb8).trans hb9).trans hb10).trans hb11).trans hb12)).mono (by omega))
  have HM : MapAt w12 (w.heap.size + 1) monthsL := hM12
  refine bodyPost_ret (v := .agg #[.int .u64 1, .int .u64 12, .map (some (w.heap.size + 1))]) ?_ rfl ?_
  · exact results_bounds (fn := Try.f92) (p := 0) rfl _ _ w.heap.size _ rfl (store3_row HROW.out) rfl
  exact ⟨_, rfl, by omega, ((HM.put (by omega)).put (by omega)).put (by omega), ((HB.setCell (Nat.le_refl _) _).setCell (Nat.le_refl _) _).setCell (Nat.le_refl _) _⟩

def dowL : List (ByteArray × Int) := [(⟨#[115, 117, 110]⟩, 0), (⟨#[109, 111, 110]⟩, 1), (⟨#[116, 117, 101]⟩, 2), (⟨#[119, 101, 100]⟩, 3), (⟨#[116, 104, 117]⟩, 4), (⟨#[102, 114, 105]⟩, 5), (⟨#[115, 97, 116]⟩, 6)]

set_option maxRecDepth 100000 in
set_option maxHeartbeats 1000000 in
theorem dow_any (w : World) : Calls Try.prog 93 #[] w fun e w' => ∃ r, e = .returned (.agg #[.int .u64 0, .int .u64 6, .map (some r)]) ∧ w.heap.size < r ∧ MapAt w' r dowL ∧ Below w.heap.size w w' := by
  have hmk := run_makeMap_names
  go_enter Try.func93, Try.ntmps93
  go_wp2_with (first
    | (refine wpList_insert_name rfl _ _ _ rfl (w.heap.size + 1) ⟨#[115, 117, 110]⟩ 0 rfl rfl rfl [] (mapAt_new _ _) rfl ?_; intro w1 hM1 hb1)
    | (refine wpList_insert_name rfl _ _ _ rfl (w.heap.size + 1) ⟨#[109, 111, 110]⟩ 1 rfl rfl rfl [(⟨#[115, 117, 110]⟩, 0)] hM1 rfl ?_; intro w2 hM2 hb2)
    | (refine wpList_insert_name rfl _ _ _ rfl (w.heap.size + 1) ⟨#[116, 117, 101]⟩ 2 rfl rfl rfl [(⟨#[115, 117, 110]⟩, 0), (⟨#[109, 111, 110]⟩, 1)] hM2 rfl ?_; intro w3 hM3 hb3)
    | (refine wpList_insert_name rfl _ _ _ rfl (w.heap.size + 1) ⟨#[119, 101, 100]⟩ 3 rfl rfl rfl [(⟨#[115, 117, 110]⟩, 0), (⟨#[109, 111, 110]⟩, 1), (⟨#[116, 117, 101]⟩, 2)] hM3 rfl ?_; intro w4 hM4 hb4)
    | (refine wpList_insert_name rfl _ _ _ rfl (w.heap.size + 1) ⟨#[116, 104, 117]⟩ 4 rfl rfl rfl [(⟨#[115, 117, 110]⟩, 0), (⟨#[109, 111, 110]⟩, 1), (⟨#[116, 117, 101]⟩, 2), (⟨#[119, 101, 100]⟩, 3)] hM4 rfl ?_; intro w5 hM5 hb5)
    | (refine wpList_insert_name rfl _ _ _ rfl (w.heap.size + 1) ⟨#[102, 114, 105]⟩ 5 rfl rfl rfl [(⟨#[115, 117, 110]⟩, 0), (⟨#[109, 111, 110]⟩, 1), (⟨#[116, 117, 101]⟩, 2), (⟨#[119, 101, 100]⟩, 3), (⟨#[116, 104, 117]⟩, 4)] hM5 rfl ?_; intro w6 hM6 hb6)
    | (refine wpList_insert_name rfl _ _ _ rfl (w.heap.size + 1) ⟨#[115, 97, 116]⟩ 6 rfl rfl rfl [(⟨#[115, 117, 110]⟩, 0), (⟨#[109, 111, 110]⟩, 1), (⟨#[116, 117, 101]⟩, 2), (⟨#[119, 101, 100]⟩, 3), (⟨#[116, 104, 117]⟩, 4), (⟨#[102, 114, 105]⟩, 5)] hM6 rfl ?_; intro w7 hM7 hb7; go_must (have hrow := row_kept (((((((hb1).trans hb2).trans hb3).trans hb4).trans hb5).trans hb6).trans hb7); have hc0 : _ = some _ := cell_of_row _ _ 0 _ _ _ hrow; have hc1 : _ = some _ := cell_of_row _ _ 1 _ _ _ hrow; have hc2 : _ = some _ := cell_of_row _ _ 2 _ _ _ hrow; have hf0 := frozen_of_row _ _ 0 _ _ hrow; have hf1 := frozen_of_row _ _ 1 _ _ hrow; have hf2 := frozen_of_row _ _ 2 _ _ hrow; have HROW := Lib.hid hrow; clear hrow)))
  have HB : Below w.heap.size w w7 := (((Below.refl _ _).alloc (Nat.le_refl _) _).alloc (by simp) _).trans ((((((((hb1.trans hb2).trans hb3).trans hb4).trans hb5).trans hb6).trans hb7)).mono (by omega))
  have HM : MapAt w7 (w.heap.size + 1) dowL := hM7
  refine bodyPost_ret (v := .agg #[.int .u64 0, .int .u64 6, .map (some (w.heap.size + 1))]) ?_ rfl ?_
  · exact results_bounds (fn := Try.f93) (p := 0) rfl _ _ w.heap.size _ rfl (store3_row HROW.out) rfl
  exact ⟨_, rfl, by omega, ((HM.put (by omega)).put (by omega)).put (by omega), ((HB.setCell (Nat.le_refl _) _).setCell (Nat.le_refl _) _).setCell (Nat.le_refl _) _⟩

theorem zzBounds_named (k : Nat) (hk : k = 4 ∨ k = 5) (w : World) : Calls Try.prog 75 #[.int .i64 k] w fun e w' => ∃ r, e = .returned (.agg #[.int .u64 (loK k : Nat), .int .u64 (hiK k : Nat), .map (some r)]) ∧ MapAt w' r (if k = 4 then monthsL else dowL) ∧ Below w.heap.size w w' := by
  rcases hk with rfl | rfl
  · have HC := Lib.hid (fun w' => months_any w')
    go_enter Try.func75, Try.ntmps75
    go_wp2_with fail
    refine (HC.out _).mono ?_
    rintro e w1 ⟨r, rfl, hr, hM, hb1⟩
    have hrow : w1.heap[w.heap.size]? = some (.cells #[.int .u64 0, .int .u64 0, .map none] 170 (0, 0)) := (hb1.block w.heap.size (by simp)).trans (heap_alloc_new w _)
    have hB := ((Below.refl w.heap.size w).alloc (Nat.le_refl _) (.cells #[.int .u64 0, .int .u64 0, .map none] 170)).trans (hb1.mono (by simp))
    have HROW := Lib.hid (store3_row (x := .int .u64 1) (y := .int .u64 12) (z := .map (some r)) hrow)
    have hc0 : w1.cell? ⟨w.heap.size, 0, none⟩ = some (.int .u64 0) := cell_of_row _ _ _ _ _ _ hrow
    have hc1 : w1.cell? ⟨w.heap.size, 1, none⟩ = some (.int .u64 0) := cell_of_row _ _ _ _ _ _ hrow
    have hc2 : w1.cell? ⟨w.heap.size, 2, none⟩ = some (.map none) := cell_of_row _ _ _ _ _ _ hrow
    have hf0 : w1.frozen? ⟨w.heap.size, 0, none⟩ = false := frozen_of_row _ _ _ _ _ hrow
    have hf1 : w1.frozen? ⟨w.heap.size, 1, none⟩ = false := frozen_of_row _ _ _ _ _ hrow
    have hf2 : w1.frozen? ⟨w.heap.size, 2, none⟩ = false := frozen_of_row _ _ _ _ _ hrow
    have hrne : r ≠ w.heap.size := by simp at hr; omega
    clear hrow hb1
    go_wp2
    refine bodyPost_ret (v := .agg #[.int .u64 1, .int .u64 12, .map (some r)]) ?_ rfl ?_
    · exact results_bounds (fn := Try.f75) (p := 2) rfl _ _ w.heap.size _ rfl HROW.out rfl
    exact ⟨r, rfl, ((hM.put hrne).put hrne).put hrne, ((hB.setCell (Nat.le_refl _) _).setCell (Nat.le_refl _) _).setCell (Nat.le_refl _) _⟩
  · have HC := Lib.hid (fun w' => dow_any w')
    go_enter Try.func75, Try.ntmps75
    go_wp2_with fail
    refine (HC.out _).mono ?_
    rintro e w1 ⟨r, rfl, hr, hM, hb1⟩
    have hrow : w1.heap[w.heap.size]? = some (.cells #[.int .u64 0, .int .u64 0, .map none] 170 (0, 0)) := (hb1.block w.heap.size (by simp)).trans (heap_alloc_new w _)
    have hB := ((Below.refl w.heap.size w).alloc (Nat.le_refl _) (.cells #[.int .u64 0, .int .u64 0, .map none] 170)).trans (hb1.mono (by simp))
    have HROW := Lib.hid (store3_row (x := .int .u64 0) (y := .int .u64 6) (z := .map (some r)) hrow)
    have hc0 : w1.cell? ⟨w.heap.size, 0, none⟩ = some (.int .u64 0) := cell_of_row _ _ _ _ _ _ hrow
    have hc1 : w1.cell? ⟨w.heap.size, 1, none⟩ = some (.int .u64 0) := cell_of_row _ _ _ _ _ _ hrow
    have hc2 : w1.cell? ⟨w.heap.size, 2, none⟩ = some (.map none) := cell_of_row _ _ _ _ _ _ hrow
    have hf0 : w1.frozen? ⟨w.heap.size, 0, none⟩ = false := frozen_of_row _ _ _ _ _ hrow
    have hf1 : w1.frozen? ⟨w.heap.size, 1, none⟩ = false := frozen_of_row _ _ _ _ _ hrow
    have hf2 : w1.frozen? ⟨w.heap.size, 2, none⟩ = false := frozen_of_row _ _ _ _ _ hrow
    have hrne : r ≠ w.heap.size := by simp at hr; omega
    clear hrow hb1
    go_wp2
    refine bodyPost_ret (v := .agg #[.int .u64 0, .int .u64 6, .map (some r)]) ?_ rfl ?_
    · exact results_bounds (fn := Try.f75) (p := 2) rfl _ _ w.heap.size _ rfl HROW.out rfl
    exact ⟨r, rfl, ((hM.put hrne).put hrne).put hrne, ((hB.setCell (Nat.le_refl _) _).setCell (Nat.le_refl _) _).setCell (Nat.le_refl _) _⟩


def allK (k : Nat) : Int := if k = 4 then 9223372036854783998 else if k = 3 then 9223372041149743102 else 9223372036854775935
theorem zzBounds_k (k : Nat) (hk : k = 3 ∨ k = 4 ∨ k = 5) (w : World) : Calls Try.prog 75 #[.int .i64 k] w fun e w' => ∃ r, e = .returned (.agg #[.int .u64 (loK k : Nat), .int .u64 (hiK k : Nat), .map r]) ∧ Below w.heap.size w w' := by
  rcases hk with h | h
  · exact (zzBounds_plain k (by omega) w).mono fun _ _ ⟨h1, h2⟩ => ⟨none, h1, h2⟩
  · exact (zzBounds_named k h w).mono fun _ _ ⟨r, h1, h2, h3⟩ => ⟨some r, h1, h3⟩
theorem allK_bits (k : Nat) (hk : k = 3 ∨ k = 4 ∨ k = 5) : Go.bits .or .u64 (steps (loK k) (hiK k) 1 : Nat) 9223372036854775808 = allK k := by
  rcases hk with rfl | rfl | rfl <;> decide +kernel
theorem all_any (k : Nat) (hk : k = 3 ∨ k = 4 ∨ k = 5) (r : Option Nat) (w : World) : Calls Try.prog 74 #[.agg #[.int .u64 (loK k : Nat), .int .u64 (hiK k : Nat), .map r]] w fun e w' => e = .returned (.int .u64 (allK k)) ∧ Below w.heap.size w w' := by
  have HG := Lib.hid (fun w' => Go.Proofs.Ytbgbeohiafiacaa.Cron.getBits_any (loK k) (hiK k) 1 (by rcases hk with rfl | rfl | rfl <;> decide) (by rcases hk with rfl | rfl | rfl <;> decide) (by omega) (by omega) w')
  have HA := Lib.hid (allK_bits k hk)
  go_enter Try.func74, Try.ntmps74
  go_wp2_with fail
  refine (HG.out _).mono ?_
  rintro e w1 ⟨rfl, rfl⟩
  go_wp2_with fail
  go_ret
  exact ⟨by rw [← HA.out]; rfl, by go_grown⟩
theorem cronAll_any (k : Nat) (hk : k = 3 ∨ k = 4 ∨ k = 5) (w : World) : Calls Try.prog 44 #[.int .i64 k] w fun e w' => e = .returned (.int .u64 (allK k)) ∧ Below w.heap.size w w' := by
  have HZ : Hid (∀ w' : World, Calls Try.prog 66 #[.int .i64 k] w' fun e w2 => e = .returned (.int .u64 (allK k)) ∧ Below w'.heap.size w' w2) := Lib.hid (fun w' => by
    have HB := Lib.hid (fun w' => zzBounds_k k hk w')
    have HA := Lib.hid (fun r w' => all_any k hk r w')
    go_enter Try.func66, Try.ntmps66
    go_wp2_with fail
    refine (HB.out _).mono ?_
    rintro e w1 ⟨r, rfl, hb1⟩
    have HB1 := Lib.hid hb1
    clear hb1
    go_wp2_with fail
    refine (HA.out r _).mono ?_
    rintro e w2 ⟨rfl, hb2⟩
    have HB2 := Lib.hid (Cal.below_le HB1.out hb2)
    clear hb2
    go_wp2_with fail
    go_ret
    exact ⟨rfl, HB2.out⟩)
  have hd0 : decide ((k : Int) < 0) = false := decide_eq_false (by omega)
  have hd1 : decide ((k : Int) > 5) = false := decide_eq_false (by omega)
  have hd2 : decide (5 < (k : Int)) = false := decide_eq_false (by omega)
  go_enter Try.func44, Try.ntmps44
  go_wp2_with fail
  refine (HZ.out _).mono ?_
  rintro e w1 ⟨rfl, hb1⟩
  have HB1 := Lib.hid hb1
  clear hb1
  go_wp2_with fail
  go_ret
  exact ⟨rfl, HB1.out⟩

/-- a schedule with all days -/
def eachS (S : Cal.Sets) : Cal.Sets := { S with month := 9223372036854783998, dom := 9223372041149743102, dow := 9223372036854775935 }
def cells8 (ev : Bool) (d : Int) (S : Cal.Sets) : Array Value := #[.bool ev, .int .i64 d, .int .u64 (S.sec : Int), .int .u64 (S.min : Int), .int .u64 (S.hour : Int), .int .u64 (S.dom : Int), .int .u64 (S.month : Int), .int .u64 (S.dow : Int)]
set_option maxRecDepth 100000 in
set_option maxHeartbeats 4000000 in
theorem eachDay_any (ev : Bool) (d : Int) (S : Cal.Sets) (w : World) : Calls Try.prog 23 #[.agg (cells8 ev d S)] w fun e w' => e = .returned (.agg (cells8 ev d (eachS S))) ∧ Below w.heap.size w w' := by
  have H3 := Lib.hid (fun w' => cronAll_any 3 (by omega) w')
  have H4 := Lib.hid (fun w' => cronAll_any 4 (by omega) w')
  have H5 := Lib.hid (fun w' => cronAll_any 5 (by omega) w')
  rw [show allK 3 = 9223372041149743102 from rfl] at H3
  rw [show allK 4 = 9223372036854783998 from rfl] at H4
  rw [show allK 5 = 9223372036854775935 from rfl] at H5
  unfold cells8 eachS
  go_enter Try.func23, Try.ntmps23
  go_wp2_with fail
  refine (H4.out _).mono ?_
  rintro e w1 ⟨rfl, hb1⟩
  have hr1 := (hb1.block w.heap.size (by simp; try omega)).trans ((Below.heap_alloc _ _ _ (by simp; try omega)).trans (heap_alloc_new w (.cells #[.bool ev, .int .i64 d, .int .u64 (S.sec : Int), .int .u64 (S.min : Int), .int .u64 (S.hour : Int), .int .u64 (S.dom : Int), .int .u64 (S.month : Int), .int .u64 (S.dow : Int)] 27)))
  have hs1 := (hb1.block (w.heap.size + 1) (by simp; try omega)).trans (Cal.heap_two w (.cells #[.bool ev, .int .i64 d, .int .u64 (S.sec : Int), .int .u64 (S.min : Int), .int .u64 (S.hour : Int), .int .u64 (S.dom : Int), .int .u64 (S.month : Int), .int .u64 (S.dow : Int)] 27) (.cells #[.bool false, .int .i64 0, .int .u64 0, .int .u64 0, .int .u64 0, .int .u64 0, .int .u64 0, .int .u64 0] 27))
  have hB1 : Below w.heap.size w w1 := (((Below.refl _ _).alloc (Nat.le_refl _) _).alloc (by simp) _).trans (hb1.mono (by simp; try omega))
  have HR1 := Lib.hid hr1
  have HS1 := Lib.hid hs1
  have HB1 := Lib.hid hB1
  clear hb1 hr1 hs1 hB1
  go_wp2_with fail
  refine (H3.out _).mono ?_
  rintro e w2 ⟨rfl, hb2⟩
  have HR2 := Lib.hid ((hb2.block _ (Array.getElem?_eq_some_iff.1 HR1.out).1).trans HR1.out)
  have HS2 := Lib.hid ((hb2.block _ (Array.getElem?_eq_some_iff.1 HS1.out).1).trans HS1.out)
  have HB2 := Lib.hid (Cal.below_le HB1.out hb2)
  clear hb2 HR1 HS1 HB1
  go_wp2_with fail
  refine (H5.out _).mono ?_
  rintro e w3 ⟨rfl, hb3⟩
  have hr3 := (hb3.block _ (Array.getElem?_eq_some_iff.1 HR2.out).1).trans HR2.out
  have HS3 := Lib.hid ((hb3.block _ (Array.getElem?_eq_some_iff.1 HS2.out).1).trans HS2.out)
  have HB3 := Lib.hid (Cal.below_le HB2.out hb3)
  clear hb3 HR2 HS2 HB2
  have c5 : w3.cell? ⟨w.heap.size, 5, none⟩ = some (.int .u64 (S.dom : Int)) := cell_of_row _ _ _ _ _ _ hr3
  have c6 : w3.cell? ⟨w.heap.size, 6, none⟩ = some (.int .u64 (S.month : Int)) := cell_of_row _ _ _ _ _ _ hr3
  have c7 : w3.cell? ⟨w.heap.size, 7, none⟩ = some (.int .u64 (S.dow : Int)) := cell_of_row _ _ _ _ _ _ hr3
  have f5 : w3.frozen? ⟨w.heap.size, 5, none⟩ = false := frozen_of_row _ _ _ _ _ hr3
  have f6 : w3.frozen? ⟨w.heap.size, 6, none⟩ = false := frozen_of_row _ _ _ _ _ hr3
  have f7 : w3.frozen? ⟨w.heap.size, 7, none⟩ = false := frozen_of_row _ _ _ _ _ hr3
  have HROW := Lib.hid (heap_setCell_same _ _ 7 _ _ (.int .u64 9223372036854775935) (heap_setCell_same _ _ 5 _ _ (.int .u64 9223372041149743102) (heap_setCell_same w3 w.heap.size 6 _ _ (.int .u64 9223372036854783998) hr3)))
  clear hr3
  have HLT := Lib.hid (Array.getElem?_eq_some_iff.1 HS3.out).1
  go_upto_region 2 with fail
  have HS4 : Hid ((((w3.setCell ⟨w.heap.size, 6, none⟩ (.int .u64 9223372036854783998)).setCell ⟨w.heap.size, 5, none⟩ (.int .u64 9223372041149743102)).setCell ⟨w.heap.size, 7, none⟩ (.int .u64 9223372036854775935)).heap[w.heap.size + 1]? = some (.cells #[.bool false, .int .i64 0, .int .u64 0, .int .u64 0, .int .u64 0, .int .u64 0, .int .u64 0, .int .u64 0] 27 (0, 0))) := Lib.hid (by
    rw [heap_setCell_other _ ⟨w.heap.size, 7, none⟩ _ _ (by simp), heap_setCell_other _ ⟨w.heap.size, 5, none⟩ _ _ (by simp), heap_setCell_other _ ⟨w.heap.size, 6, none⟩ _ _ (by simp)]
    exact HS3.out)
  have HB4 := Lib.hid (((HB3.out.setCell (p := ⟨w.heap.size, 6, none⟩) (Nat.le_refl _) (.int .u64 9223372036854783998)).setCell (p := ⟨w.heap.size, 5, none⟩) (Nat.le_refl _) (.int .u64 9223372041149743102)).setCell (p := ⟨w.heap.size, 7, none⟩) (Nat.le_refl _) (.int .u64 9223372036854775935))
  have HROW' : Hid ((((w3.setCell ⟨w.heap.size, 6, none⟩ (.int .u64 9223372036854783998)).setCell ⟨w.heap.size, 5, none⟩ (.int .u64 9223372041149743102)).setCell ⟨w.heap.size, 7, none⟩ (.int .u64 9223372036854775935)).heap[w.heap.size]? = some (.cells #[.bool ev, .int .i64 d, .int .u64 (S.sec : Int), .int .u64 (S.min : Int), .int .u64 (S.hour : Int), .int .u64 9223372041149743102, .int .u64 9223372036854783998, .int .u64 9223372036854775935] 27 (0, 0))) := HROW
  clear HROW HS3 HB3 c5 c6 c7 f5 f6 f7 HLT
  generalize ((w3.setCell ⟨w.heap.size, 6, none⟩ (.int .u64 9223372036854783998)).setCell ⟨w.heap.size, 5, none⟩ (.int .u64 9223372041149743102)).setCell ⟨w.heap.size, 7, none⟩ (.int .u64 9223372036854775935) = w4 at *
  go_wp2_with (first
    | (refine wpList_load_row rfl 27 _ rfl w.heap.size rfl _ _ _ _ HROW'.out Try.underlying27 rfl Cal.schedSize ?_)
    | (refine wpList_store_row rfl 27 _ _ rfl (w.heap.size + 1) #[.bool ev, .int .i64 d, .int .u64 (S.sec : Int), .int .u64 (S.min : Int), .int .u64 (S.hour : Int), .int .u64 9223372041149743102, .int .u64 9223372036854783998, .int .u64 9223372036854775935] rfl rfl 27 _ HS4.out Cal.schedSize rfl (by simp [Value.oneCell']) ?_))
  refine bodyPost_ret (v := .agg #[.bool ev, .int .i64 d, .int .u64 (S.sec : Int), .int .u64 (S.min : Int), .int .u64 (S.hour : Int), .int .u64 9223372041149743102, .int .u64 9223372036854783998, .int .u64 9223372036854775935]) ?_ rfl ⟨rfl, ?_⟩
  · exact results_cell_row (fn := Try.f23) (p := 2) rfl _ _ (w.heap.size + 1) 27 _ (0, 0) _ rfl (setRow_heap _ _ _ _ _ _ HS4.out) Try.underlying27 rfl Cal.schedSize
  · exact below_setRow HB4.out (by omega) _
end Go.Proofs.Ytbgbeohiafiacaa.AllB

namespace Go.Proofs.Ytbgbeohiafiacaa.Cal
open Go Go.RowKit Go.Proofs.YtbgbeohiafiacaaW.PrintWords Go.Proofs.YtbgbeohiafiacaaW.PrintLast
set_option linter.unusedVariables false
set_option linter.unusedSimpArgs false

structure FixedRow (w : World) (k : Nat) (off : Int) (Z T c c' : Nat) (nm : ByteArray) : Prop where
  utc : w.cell? ⟨k, 0, none⟩ = some (.bool false)
  zone : w.cell? ⟨k, 2, none⟩ = some (.slice (some ⟨Z, 0, none⟩) 1 c)
  tx : w.cell? ⟨k, 3, none⟩ = some (.slice (some ⟨T, 0, none⟩) 1 c')
  cz : w.cell? ⟨k, 7, none⟩ = some (.pointer none)
  z0 : w.cell? ⟨Z, 0, none⟩ = some (.string nm)
  z1 : w.cell? ⟨Z, 1, none⟩ = some (.int .i64 off)
  z2 : w.cell? ⟨Z, 2, none⟩ = some (.bool false)
  t0 : w.cell? ⟨T, 0, none⟩ = some (.int .i64 (-9223372036854775808))
  t1 : w.cell? ⟨T, 1, none⟩ = some (.int .u8 0)
  hk : k < w.heap.size
  hZ : Z < w.heap.size
  hT : T < w.heap.size
/-- k is a Location whose clocks are off seconds ahead of UTC -/
def FixedAt (off : Int) (w : World) (k : Nat) : Prop := ∃ Z T c c' nm, FixedRow w k off Z T c c' nm
theorem FixedRow.below {w w' : World} {k Z T c c' : Nat} {off : Int} {nm : ByteArray} (h : FixedRow w k off Z T c c' nm) (hb : Below w.heap.size w w') : FixedRow w' k off Z T c c' nm where
  utc := (hb.cell (p := ⟨k, 0, none⟩) h.hk).trans h.utc
  zone := (hb.cell (p := ⟨k, 2, none⟩) h.hk).trans h.zone
  tx := (hb.cell (p := ⟨k, 3, none⟩) h.hk).trans h.tx
  cz := (hb.cell (p := ⟨k, 7, none⟩) h.hk).trans h.cz
  z0 := (hb.cell (p := ⟨Z, 0, none⟩) h.hZ).trans h.z0
  z1 := (hb.cell (p := ⟨Z, 1, none⟩) h.hZ).trans h.z1
  z2 := (hb.cell (p := ⟨Z, 2, none⟩) h.hZ).trans h.z2
  t0 := (hb.cell (p := ⟨T, 0, none⟩) h.hT).trans h.t0
  t1 := (hb.cell (p := ⟨T, 1, none⟩) h.hT).trans h.t1
  hk := Nat.lt_of_lt_of_le h.hk hb.size
  hZ := Nat.lt_of_lt_of_le h.hZ hb.size
  hT := Nat.lt_of_lt_of_le h.hT hb.size
theorem FixedAt.below {w w' : World} {k : Nat} {off : Int} (h : FixedAt off w k) (hb : Below w.heap.size w w') : FixedAt off w' k := by
  obtain ⟨Z, T, c, c', nm, h⟩ := h
  exact ⟨Z, T, c, c', nm, h.below hb⟩

set_option maxRecDepth 100000 in
theorem lookupFixed_any (k : Nat) (off u : Int) (w : World) (hf : FixedAt off w k) (u0 : -9223372036854775808 ≤ u) :
    Calls Try.prog 145 #[.pointer (some ⟨k, 0, none⟩), .int .i64 u] w fun e w' => ∃ nm : ByteArray, e = .returned (.tuple #[.string nm, .int .i64 off, .int .i64 (-9223372036854775808), .int .i64 9223372036854775807, .bool false]) ∧ Below w.heap.size w w' := by
  obtain ⟨Z, T, c, c', nm, hrow0⟩ := hf
  have HR := Lib.hid hrow0
  obtain ⟨utc, zone, tx, cz, z0, z1, z2, t0, t1, -, -, -⟩ := hrow0
  have HG := Lib.hid (fun w' => getUtc_any k w')
  have hd : decide (u < -9223372036854775808) = false := decide_eq_false (by omega)
  go_enter Try.func145, Try.ntmps145
  go_wp2_with fail
  refine (HG.out _).mono ?_
  rintro e w1 ⟨rfl, rfl⟩
  go_wp2_with fail
  go_loopw [7, 12, 13] (fun v7 v12 v13 wr => v7 = .int .i64 9223372036854775807 ∧ v12 = .int .i64 0 ∧ v13 = .int .i64 1 ∧ wr = w) (fun _ _ _ _ => 0)
  case atStart => exact ⟨rfl, rfl, rfl, rfl⟩
  case round =>
    obtain ⟨rfl, rfl, rfl, hwr⟩ := hrel
    have hwr' := hwr.symm
    clear hwr
    subst hwr'
    go_wp2_with fail
    obtain ⟨wo, rfl⟩ : ∃ wo : World, wo = w := ⟨_, rfl⟩
    have hrow := HR.out
    refine start_ (n := 11) (S := fun w' => FixedRow w' k off Z T c c' nm ∧ Below wo.heap.size wo w') (ds := []) #[false, false, false, false, false, false, false, false, false, false, false] (by kernel_rfl) rfl rfl ⟨hrow.below (Below.refl _ _).drew, (Below.refl _ _).drew⟩ (fun hHeld => ?_)
    refine pure_ (i := 0) (N := some 143) (v := ?_) (a' := ?_) #[true, false, false, false, false, false, false, false, false, false, false] rfl rfl (by kernel_rfl) (fun _ _ _ h => h) (Or.inl ⟨by rfl, ?_⟩) ?_ ?_
    rotate_left
    · intro w'
      go_simp
      with_reducible rfl
    rotate_left
    · simp only [Act.put, List.setIfInBounds_toArray, List.set_cons_zero, List.set_cons_succ, i64_w, i32_w]
      rfl
    refine pure_ (i := 1) (N := some 144) (v := ?_) (a' := ?_) #[true, true, false, false, false, false, false, false, false, false, false] rfl rfl (by kernel_rfl) (fun _ _ _ h => h) (Or.inl ⟨by rfl, ?_⟩) ?_ ?_
    rotate_left
    · intro w'
      go_simp
      with_reducible rfl
    rotate_left
    · simp only [Act.put, List.setIfInBounds_toArray, List.set_cons_zero, List.set_cons_succ, i64_w, i32_w]
      rfl
    refine pure_ (i := 2) (N := some 145) (v := ?_) (a' := ?_) #[true, true, true, false, false, false, false, false, false, false, false] rfl rfl (by kernel_rfl) (fun _ _ _ h => h) (Or.inl ⟨by rfl, ?_⟩) ?_ ?_
    rotate_left
    · intro w'
      go_simp
      with_reducible rfl
    rotate_left
    · simp only [Act.put, List.setIfInBounds_toArray, List.set_cons_zero, List.set_cons_succ, i64_w, i32_w]
      rfl
    refine pure_ (i := 4) (N := some 147) (v := ?_) (a' := ?_) #[true, true, true, false, true, false, false, false, false, false, false] rfl rfl (by kernel_rfl) (fun _ _ _ h => h) (Or.inl ⟨by rfl, ?_⟩) ?_ ?_
    rotate_left
    · intro w'
      go_simp
      with_reducible rfl
    rotate_left
    · simp only [Act.put, List.setIfInBounds_toArray, List.set_cons_zero, List.set_cons_succ, i64_w, i32_w]
      rfl
    refine pure_ (i := 5) (N := some 148) (v := ?_) (a' := ?_) #[true, true, true, false, true, true, false, false, false, false, false] rfl rfl (by kernel_rfl) (fun _ _ _ h => h) (Or.inl ⟨by rfl, ?_⟩) ?_ ?_
    rotate_left
    · intro w'
      go_simp
      with_reducible rfl
    rotate_left
    · simp only [Act.put, List.setIfInBounds_toArray, List.set_cons_zero, List.set_cons_succ, i64_w, i32_w]
      rfl
    refine pure_ (i := 6) (N := some 149) (v := ?_) (a' := ?_) #[true, true, true, false, true, true, true, false, false, false, false] rfl rfl (by kernel_rfl) (fun _ _ _ h => h) (Or.inl ⟨by rfl, ?_⟩) ?_ ?_
    rotate_left
    · intro w'
      go_simp
      with_reducible rfl
    rotate_left
    · simp only [Act.put, List.setIfInBounds_toArray, List.set_cons_zero, List.set_cons_succ, i64_w, i32_w]
      rfl
    refine pure_ (i := 7) (N := some 150) (v := ?_) (a' := ?_) #[true, true, true, false, true, true, true, true, false, false, false] rfl rfl (by kernel_rfl) (fun _ _ _ h => h) (Or.inl ⟨by rfl, ?_⟩) ?_ ?_
    rotate_left
    · intro w'
      go_simp
      with_reducible rfl
    rotate_left
    · simp only [Act.put, List.setIfInBounds_toArray, List.set_cons_zero, List.set_cons_succ, i64_w, i32_w]
      rfl
    refine take_ (i := 3) (N := some 146) (v := ?_) (a' := ?_) #[true, true, true, true, true, true, true, true, false, false, false] rfl rfl (by kernel_rfl) (fun _ _ _ h => h) (Or.inl ⟨by rfl, ?_⟩) hHeld ?_ ?_
    rotate_left
    · rintro w' ⟨s0, s1⟩
      have c1 := s0.zone
      go_simp
      with_reducible rfl
    rotate_left
    · simp only [Act.put, List.setIfInBounds_toArray, List.set_cons_zero, List.set_cons_succ, i64_w, i32_w]
      rfl
    refine take_ (i := 8) (N := some 151) (v := ?_) (a' := ?_) #[true, true, true, true, true, true, true, true, true, false, false] rfl rfl (by kernel_rfl) (fun _ _ _ h => h) (Or.inl ⟨by rfl, ?_⟩) hHeld ?_ ?_
    rotate_left
    · rintro w' ⟨s0, s1⟩
      have c1 := s0.t1
      go_simp
      with_reducible rfl
    rotate_left
    · simp only [Act.put, List.setIfInBounds_toArray, List.set_cons_zero, List.set_cons_succ, i64_w, i32_w]
      rfl
    refine pure_ (i := 9) (N := some 152) (v := ?_) (a' := ?_) #[true, true, true, true, true, true, true, true, true, true, false] rfl rfl (by kernel_rfl) (fun _ _ _ h => h) (Or.inl ⟨by rfl, ?_⟩) ?_ ?_
    rotate_left
    · intro w'
      go_simp
      with_reducible rfl
    rotate_left
    · simp only [Act.put, List.setIfInBounds_toArray, List.set_cons_zero, List.set_cons_succ, i64_w, i32_w]
      rfl
    refine pure_ (i := 10) (N := some 16) (v := ?_) (a' := ?_) #[true, true, true, true, true, true, true, true, true, true, true] rfl rfl (by kernel_rfl) (fun _ _ _ h => h) (Or.inl ⟨by rfl, ?_⟩) ?_ ?_
    rotate_left
    · intro w'
      go_simp
      with_reducible rfl
    rotate_left
    · simp only [Act.put, List.setIfInBounds_toArray, List.set_cons_zero, List.set_cons_succ, i64_w, i32_w]
      rfl
    refine done_ (by kernel_rfl) ?_
    obtain ⟨utc, zone, tx, cz, z0, z1, z2, t0, t1, -, -, -⟩ := hHeld.1
    have hbz := hHeld.2
    clear hrow
    go_wp2_with fail
    go_returns
    exact ⟨nm, rfl, hbz⟩

theorem setLocFixed_any (g k : Nat) (n off : Int) (l : Option Addr) (w : World) (h0 : 0 ≤ n) (h1 : n < 1073741824) (hc0 : w.cell? ⟨g, 0, none⟩ = some (.int .u64 n)) (hc2 : w.cell? ⟨g, 2, none⟩ = some (.pointer l)) (hf2 : w.frozen? ⟨g, 2, none⟩ = false) (hu : FixedAt off w k) :
    Calls Try.prog 73 #[.pointer (some ⟨g, 0, none⟩), .pointer (some ⟨k, 0, none⟩)] w fun e' w' => e' = .returned (.tuple #[]) ∧ w' = w.setCell ⟨g, 2, none⟩ (.pointer (some ⟨k, 0, none⟩)) := by
  have H := Lib.hid (strip_any g n w h0 h1 hc0)
  obtain ⟨Z, T, c, c', nm, utc, -⟩ := hu
  go_enter Try.func73, Try.ntmps73
  go_wp2_with fail
  refine H.out.mono ?_
  rintro e' w' ⟨rfl, rfl⟩
  go_wp2_with fail
  refine bodyPost_end (results_none rfl _ _ _) rfl ?_
  exact ⟨rfl, rfl⟩

theorem inFixed_any (n e off : Int) (l : Option Addr) (k : Nat) (w : World) (h0 : 0 ≤ n) (h1 : n < 1073741824) (hu : FixedAt off w k) :
    Calls Try.prog 57 #[tv n e l, .pointer (some ⟨k, 0, none⟩)] w fun e' w' => e' = .returned (tv n e (some ⟨k, 0, none⟩)) ∧ Below w.heap.size w w' := by
  unfold tv
  have HS := Lib.hid (fun (g : Nat) w' hc0 hc2 hf2 hu' => setLocFixed_any g k n off l w' h0 h1 hc0 hc2 hf2 hu')
  have HU := Lib.hid hu
  go_enter Try.func57, Try.ntmps57
  go_wp2_with fail
  refine (HS.out w.heap.size _ (by simp [go_sem]) (by simp [go_sem]) (by simp [go_sem]) (HU.out.below (((Below.refl _ _).alloc (Nat.le_refl _) _).alloc (by simp) _))).mono ?_
  rintro e' w' ⟨rfl, rfl⟩
  go_wp2_with fail
  exact bodyPost_ret (v := .agg #[.int .u64 n, .int .i64 e, .pointer (some ⟨k, 0, none⟩)]) (by simp [results, Try.results57, go_sem]) rfl ⟨rfl, by go_grown⟩

theorem locFixed_any (n e : Int) (k : Nat) (w : World) :
    Calls Try.prog 126 #[tv n e (some ⟨k, 0, none⟩)] w fun e' w' => e' = .returned (.pointer (some ⟨k, 0, none⟩)) ∧ Below w.heap.size w w' := by
  unfold tv
  go_enter Try.func126, Try.ntmps126
  go_wp2_with fail
  go_ret
  exact ⟨rfl, by go_grown⟩

theorem absSecFixed_any (n e off : Int) (k : Nat) (h0 : 0 ≤ n) (h1 : n < 1073741824) (he : EOk e) (o0 : -90000 ≤ off) (o1 : off ≤ 90000) (w : World) (hu : FixedAt off w k) :
    Calls Try.prog 136 #[tv n e (some ⟨k, 0, none⟩)] w fun e' w' => e' = .returned (.int .u64 (e - 62135596800 + off + 9223372028741760000)) ∧ Below w.heap.size w w' := by
  unfold tv
  obtain ⟨he0, he1⟩ := he
  have HU := Lib.hid (fun (g : Nat) w' hc0 hc1 => unixSec_any g n e w' h0 h1 (by omega) (by omega) hc0 hc1)
  have HL := Lib.hid (fun w' hu' => lookupFixed_any k off (e - 62135596800) w' hu' (by omega))
  have HF := Lib.hid (hu.below ((Below.refl w.heap.size w).alloc (Nat.le_refl _) (.cells #[.int .u64 n, .int .i64 e, .pointer (some ⟨k, 0, none⟩)] 74)))
  have hutc : (w.alloc (.cells #[.int .u64 n, .int .i64 e, .pointer (some ⟨k, 0, none⟩)] 74)).cell? ⟨k, 0, none⟩ = some (.bool false) := by
    obtain ⟨Z, T, c, c', nm, h⟩ := HF.out
    exact h.utc
  have hcz : (w.alloc (.cells #[.int .u64 n, .int .i64 e, .pointer (some ⟨k, 0, none⟩)] 74)).cell? ⟨k, 7, none⟩ = some (.pointer none) := by
    obtain ⟨Z, T, c, c', nm, h⟩ := HF.out
    exact h.cz
  clear hu
  go_enter Try.func136, Try.ntmps136
  go_wp2_with fail
  refine (HU.out _ _ (by simp [go_sem]) (by simp [go_sem])).mono ?_
  rintro e' w2 ⟨rfl, rfl⟩
  go_wp2_with fail
  refine (HL.out _ HF.out).mono ?_
  rintro e' w3 ⟨nm, rfl, hb3⟩
  have HB := Lib.hid (((Below.refl w.heap.size w).alloc (Nat.le_refl _) _).trans (hb3.mono (by simp)))
  clear hb3
  go_wp2_with fail
  go_ret
  refine ⟨congrArg (fun x => Ending.returned (.int .u64 x)) (?_ : IntKind.u64.wrap (wrap64 (e - 62135596800 + off + 9223372028741760000)) = e - 62135596800 + off + 9223372028741760000), HB.out⟩
  simp only [IntKind.wrap_u64]
  unfold wrap64
  omega
end Go.Proofs.Ytbgbeohiafiacaa.Cal
