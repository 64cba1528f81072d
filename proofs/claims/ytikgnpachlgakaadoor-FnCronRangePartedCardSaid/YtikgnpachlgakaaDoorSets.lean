/- The reference's sets of values in memory: a star and 63 bools. -/
import Derived.Test.YtikgnpachlgakaaDoorBase
import Derived.Test.YtikgnpachlgakaaDoorBits
import Derived.Laws.Rows
import Derived.Laws.Tables
import Derived.Laws.ResultCell
import Derived.Laws.CopyOwn
import Derived.ChangeKeysEq
namespace Go.Proofs.YtikgnpachlgakaaDoor.Cron
open Go Go.RowKit Go.Proofs.YtikgnpachlgakaaDoor.Bits
set_option linter.unusedVariables false

/-- the cells of a set -/
def setCells (star : Bool) (p : Nat → Bool) : Array Value := #[.bool star] ++ ((Array.range 63).map fun j => .bool (p j))

theorem setCells_size (star : Bool) (p : Nat → Bool) : (setCells star p).size = 64 := by simp [setCells]

theorem setCells_zero (star : Bool) (p : Nat → Bool) : (setCells star p)[0]? = some (.bool star) := by
  unfold setCells
  rw [Array.getElem?_append_left (by simp)]
  simp

theorem setCells_at (star : Bool) (p : Nat → Bool) (j : Nat) (h : j < 63) : (setCells star p)[j + 1]? = some (.bool (p j)) := by
  unfold setCells
  rw [Array.getElem?_append_right (by simp)]
  simp [h]

theorem setCells_out (star : Bool) (p : Nat → Bool) (j : Nat) (h : 64 ≤ j) : (setCells star p)[j]? = none := by
  rw [Array.getElem?_eq_none]
  rw [setCells_size]; exact h

theorem setCells_one (star : Bool) (p : Nat → Bool) : (setCells star p).all (·.oneCell') = true := by
  rw [Array.all_eq_true_iff_forall_mem]
  intro v hv
  unfold setCells at hv
  rw [Array.mem_append] at hv
  rcases hv with hv | hv
  · simp at hv; subst hv; rfl
  · rw [Array.mem_map] at hv
    obtain ⟨j, _, rfl⟩ := hv
    rfl

theorem setCells_star (star b : Bool) (p : Nat → Bool) : (setCells star p).setIfInBounds 0 (.bool b) = setCells b p := by
  apply Array.ext_getElem?
  intro i
  rw [Array.getElem?_setIfInBounds]
  cases i with
  | zero => rw [if_pos rfl, if_pos (by rw [setCells_size]; decide), setCells_zero]
  | succ i =>
    rw [if_neg (by omega)]
    by_cases h : i < 63
    · rw [setCells_at _ _ _ h, setCells_at _ _ _ h]
    · rw [setCells_out _ _ _ (by omega), setCells_out _ _ _ (by omega)]

theorem setCells_put (star b : Bool) (p : Nat → Bool) (j : Nat) (hj : j < 63) : (setCells star p).setIfInBounds (j + 1) (.bool b) = setCells star (fun i => if i = j then b else p i) := by
  apply Array.ext_getElem?
  intro i
  rw [Array.getElem?_setIfInBounds]
  cases i with
  | zero => rw [if_neg (by omega), setCells_zero, setCells_zero]
  | succ i =>
    by_cases h : i < 63
    · rw [setCells_at _ _ _ h, setCells_at _ _ _ h]
      by_cases e : i = j
      · subst e
        rw [if_pos rfl, if_pos (by rw [setCells_size]; omega), if_pos rfl]
      · rw [if_neg (by omega), if_neg e]
    · rw [setCells_out _ _ _ (by omega), setCells_out _ _ _ (by omega), if_neg (by omega)]

theorem setCells_ext {star : Bool} {p q : Nat → Bool} (h : ∀ j, j < 63 → p j = q j) : setCells star p = setCells star q := by
  apply Array.ext_getElem?
  intro i
  cases i with
  | zero => rw [setCells_zero, setCells_zero]
  | succ i =>
    by_cases hi : i < 63
    · rw [setCells_at _ _ _ hi, setCells_at _ _ _ hi, h i hi]
    · rw [setCells_out _ _ _ (by omega), setCells_out _ _ _ (by omega)]

def noSet : Nat → Bool := fun _ => false

/-- the block of a set -/
def IsSet (w : World) (g : Nat) (star : Bool) (p : Nat → Bool) : Prop := w.heap[g]? = some (.cells (setCells star p) 32 (0, 0))

theorem IsSet.lt {w : World} {g : Nat} {star : Bool} {p : Nat → Bool} (h : IsSet w g star p) : g < w.heap.size := (Array.getElem?_eq_some_iff.1 h).1

theorem IsSet.below {w w' : World} {g : Nat} {star : Bool} {p : Nat → Bool} (h : IsSet w g star p) (hb : Below w.heap.size w w') : IsSet w' g star p :=
  (hb.block g h.lt).trans h

theorem IsSet.cell0 {w : World} {g : Nat} {star : Bool} {p : Nat → Bool} (h : IsSet w g star p) : w.cell? ⟨g, 0, none⟩ = some (.bool star) :=
  (cell_of_row w g 0 _ _ _ h).trans (setCells_zero star p)

theorem IsSet.cellAt {w : World} {g : Nat} {star : Bool} {p : Nat → Bool} (h : IsSet w g star p) (j : Nat) (hj : j < 63) : w.cell? ⟨g, j + 1, none⟩ = some (.bool (p j)) :=
  (cell_of_row w g (j + 1) _ _ _ h).trans (setCells_at star p j hj)

theorem IsSet.free {w : World} {g : Nat} {star : Bool} {p : Nat → Bool} (h : IsSet w g star p) (j : Nat) : w.frozen? ⟨g, j, none⟩ = false :=
  frozen_of_row w g j _ _ h

theorem IsSet.put {w : World} {g : Nat} {star : Bool} {p : Nat → Bool} (h : IsSet w g star p) (j : Nat) (hj : j < 63) (b : Bool) : IsSet (w.setCell ⟨g, j + 1, none⟩ (.bool b)) g star (fun i => if i = j then b else p i) := by
  unfold IsSet
  rw [heap_setCell_same w g (j + 1) _ _ _ h, setCells_put star b p j hj]

theorem IsSet.putStar {w : World} {g : Nat} {star : Bool} {p : Nat → Bool} (h : IsSet w g star p) (b : Bool) : IsSet (w.setCell ⟨g, 0, none⟩ (.bool b)) g b p := by
  unfold IsSet
  rw [heap_setCell_same w g 0 _ _ _ h, setCells_star]

theorem IsSet.other {w : World} {g : Nat} {star : Bool} {p : Nat → Bool} (h : IsSet w g star p) {a : Addr} (ha : g ≠ a.block) (v : Value) : IsSet (w.setCell a v) g star p := by
  unfold IsSet
  rw [heap_setCell_other w a g v ha]
  exact h

theorem isSet_new (w : World) (star : Bool) (p : Nat → Bool) : IsSet (w.alloc (.cells (setCells star p) 32 (0, 0))) w.heap.size star p :=
  heap_alloc_new w _

theorem setSize : (Tryd.prog.info? 32).map (·.size) = some 64 := by kernel_rfl

theorem zero_set : setCells false noSet = (setCells false noSet) := rfl

theorem run_alloc_set (w : World) : (Instr.alloc 32 true (.tuple #[])).run Tryd.prog w = .ok (.pointer (some ⟨w.heap.size, 0, none⟩)) (w.alloc (.cells (setCells false noSet) 32 (0, 0))) := by kernel_rfl

theorem built_set : (Tryd.prog.built 32 []) = some (setCells false noSet) := by kernel_rfl

theorem IsSet.store {w : World} {g : Nat} {star : Bool} {p : Nat → Bool} (h : IsSet w g star p) (st : Bool) (q : Nat → Bool) : IsSet (w.setRow g (setCells st q)) g st q :=
  setRow_heap w g _ _ _ _ h

theorem IsSet.row_other {w : World} {g k : Nat} {star : Bool} {p : Nat → Bool} (h : IsSet w g star p) (hk : g ≠ k) (cs : Array Value) : IsSet (w.setRow k cs) g star p :=
  (setRow_other w k g cs hk).trans h

section
variable {ops : Array Oper} {rest : List Oper} {o : Oper} {a : Act} {w : World} {Q : Exit → Act → World → Prop}

theorem wpList_build_set (hg : o.guard = none) (ho : o.op = .build 32 #[])
    (h : wpList Tryd.prog ops Q rest (a.put o.dst (.agg (setCells false noSet))) w) : wpList Tryd.prog ops Q (o :: rest) a w := by
  have e : ((#[] : Array (Nat × Operand)).map fun (i, x) => (i, a.eval x)).toList = [] := by simp
  refine wpList_build hg 32 #[] ho (by rw [e, built_set]; exact Option.isSome_some) ?_
  rw [e, built_set, Option.getD_some]
  exact h

theorem wpList_store_set (hg : o.guard = none) (x y : Operand) (ho : o.op = .store 32 x y) (g : Nat) (st : Bool) (q : Nat → Bool)
    (hx : a.eval x = .pointer (some ⟨g, 0, none⟩)) (hy : a.eval y = .agg (setCells st q)) (st0 : Bool) (q0 : Nat → Bool) (hs : IsSet w g st0 q0)
    (h : wpList Tryd.prog ops Q rest (a.put o.dst undef) (w.setRow g (setCells st q))) : wpList Tryd.prog ops Q (o :: rest) a w :=
  wpList_store_row hg 32 x y ho g _ hx hy _ _ hs (by rw [setSize, setCells_size]) (by rw [setCells_size, setCells_size]) (setCells_one st q) h

theorem wpList_load_set (hg : o.guard = none) (x : Operand) (ho : o.op = .load 32 x) (g : Nat) (st : Bool) (q : Nat → Bool)
    (hx : a.eval x = .pointer (some ⟨g, 0, none⟩)) (hs : IsSet w g st q)
    (h : wpList Tryd.prog ops Q rest (a.put o.dst (.agg (setCells st q))) w) : wpList Tryd.prog ops Q (o :: rest) a w := by
  exact wpList_load_row hg 32 x ho g hx _ _ _ _ hs Tryd.underlying32 rfl (by rw [setSize, setCells_size]) h
end

theorem run_load_set (w : World) (g : Nat) (st : Bool) (q : Nat → Bool) (hs : IsSet w g st q) : (loadVar 32 ⟨g, 0, none⟩).run Tryd.prog w = .ok (.agg (setCells st q)) w := by
  exact run_loadVar_row w g _ _ _ _ _ hs Tryd.underlying32 rfl (by rw [setSize, setCells_size])

theorem results_set {fn : Func} {p u : Tmp} (h : fn.results = #[.cell p 32, .tmp u]) (tmps : Array Value) (w : World) (g : Nat) (st : Bool) (q : Nat → Bool)
    (hp : tmps.getD p undef = .pointer (some ⟨g, 0, none⟩)) (hs : IsSet w g st q) :
    (results fn tmps).run Tryd.prog w = .ok (.tuple #[.agg (setCells st q), tmps.getD u undef]) w := by
  rw [results_cell_tmp h, hp]
  simp only [asAddr, Sem.run_pure, Result.andThen_ok, run_load_set w g st q hs]

/-- the cells of the values alone -/
def inCells (p : Nat → Bool) : Array Value := (Array.range 63).map fun j => .bool (p j)

theorem inCells_size (p : Nat → Bool) : (inCells p).size = 63 := by simp [inCells]
theorem inCells_at (p : Nat → Bool) (j : Nat) (h : j < 63) : (inCells p)[j]? = some (.bool (p j)) := by simp [inCells, h]

theorem sizeIn : (Tryd.prog.info? 30).map (·.size) = some 63 := by kernel_rfl
theorem sizeBool : (Tryd.prog.info? 4).map (·.size) = some 1 := by kernel_rfl

theorem run_load_in (w : World) (g : Nat) (st : Bool) (q : Nat → Bool) (hs : IsSet w g st q) : (loadVar 30 ⟨g, 1, none⟩).run Tryd.prog w = .ok (.agg (inCells q)) w := by
  have hl : (loadCells ⟨g, 1, none⟩ (inCells q).toList.length).run Tryd.prog w = .ok (inCells q).toList.toArray w :=
    run_loadCells_list (P := Tryd.prog) w ⟨g, 1, none⟩ (inCells q).toList (fun j v hv => by
      have hj : j < 63 := by
        have := (List.getElem?_eq_some_iff.1 hv).1
        rw [Array.length_toList, inCells_size] at this
        exact this
      have hadd : (⟨g, 1, none⟩ : Addr).add j = ⟨g, j + 1, none⟩ := by
        unfold Addr.add
        split
        · rename_i h; subst h; rfl
        · simp; omega
      rw [hadd, hs.cellAt j hj]
      have := inCells_at q j hj
      rw [← Array.getElem?_toList] at this
      rw [← this, hv])
  rw [Array.length_toList, inCells_size] at hl
  cases hq : Tryd.prog.info? 30 with
  | none => have := sizeIn; simp [hq] at this
  | some i =>
    have hsz : i.size = 63 := by have := sizeIn; simpa [hq] using this
    have hagg : (isAgg 30).run Tryd.prog w = .ok true w := by
      unfold isAgg
      rw [Sem.run_bind, run_underlying Tryd.underlying30 w]
      rfl
    simp only [Array.toArray_toList] at hl
    simp [loadVar, Sem.run_bind, hagg, sizeOf, typeInfo, hq, hsz, hl]

theorem run_index_in (q : Nat → Bool) (n : Nat) (h : n < 63) (w : World) : (Instr.index 30 (.agg (inCells q)) (.int .i64 n)).run Tryd.prog w = .ok (.bool (q n)) w := by
  cases hq : Tryd.prog.info? 4 with
  | none => have := sizeBool; simp [hq] at this
  | some i =>
    have hsz : i.size = 1 := by have := sizeBool; simpa [hq] using this
    have hp := run_part_plain (P := Tryd.prog) (e := 4) (by kernel_rfl) (w := w) (inCells_at q n h)
    have hlt : (n : Int) < 63 := by omega
    simp [Instr.index, run_underlying Tryd.underlying30, asIntOf, sizeOf, typeInfo, hq, hsz, hp, Sem.run_bind]
    intro h'
    omega

section
variable {ops : Array Oper} {rest : List Oper} {o : Oper} {a : Act} {w : World} {Q : Exit → Act → World → Prop}
theorem wpList_load_in (hgd : o.guard = none) (x : Operand) (ho : o.op = .load 30 x) (g : Nat) (st : Bool) (q : Nat → Bool)
    (hx : a.eval x = .pointer (some ⟨g, 1, none⟩)) (hs : IsSet w g st q)
    (h : wpList Tryd.prog ops Q rest (a.put o.dst (.agg (inCells q))) w) : wpList Tryd.prog ops Q (o :: rest) a w := by
  refine wpList_plain hgd fun K hK => ?_
  unfold Oper.wp execOp
  simp only [ho, hx, Instr.loadAt, Instr.sureAddr, Sem.run_bind, Sem.run_pure, Result.andThen_ok, run_load_in w g st q hs]
  exact hK _ _ h
end

theorem run_box_set (st : Bool) (p : Nat → Bool) (w : World) : (Instr.box 32 (.agg (setCells st p))).run Tryd.prog w = .ok (.pointer (some ⟨w.heap.size, 0, none⟩)) (w.alloc (.cells (setCells st p) 32 (0, 0))) := by
  rfl

section
variable {ops : Array Oper} {rest : List Oper} {o : Oper} {a : Act} {w : World} {Q : Exit → Act → World → Prop}
/-- the same for an operation that is guarded, and carried out -/
theorem wpList_load_set' (hw : Region.wanted o (yielded ops a.tmps) = true) (x : Operand) (ho : o.op = .load 32 x) (g : Nat) (st : Bool) (q : Nat → Bool)
    (hx : a.eval x = .pointer (some ⟨g, 0, none⟩)) (hs : IsSet w g st q)
    (h : wpList Tryd.prog ops Q rest (a.put o.dst (.agg (setCells st q))) w) : wpList Tryd.prog ops Q (o :: rest) a w := by
  refine wpList_step fun K hK => ?_
  rw [if_pos hw]
  exact wp_load_row 32 x ho g hx _ _ _ _ hs Tryd.underlying32 rfl (by rw [setSize, setCells_size]) (hK _ _ h)
end

theorem isSet_lit (w : World) : IsSet (w.alloc (.cells #[.bool false, .bool false, .bool false, .bool false, .bool false, .bool false, .bool false, .bool false, .bool false, .bool false, .bool false, .bool false, .bool false, .bool false, .bool false, .bool false, .bool false, .bool false, .bool false, .bool false, .bool false, .bool false, .bool false, .bool false, .bool false, .bool false, .bool false, .bool false, .bool false, .bool false, .bool false, .bool false, .bool false, .bool false, .bool false, .bool false, .bool false, .bool false, .bool false, .bool false, .bool false, .bool false, .bool false, .bool false, .bool false, .bool false, .bool false, .bool false, .bool false, .bool false, .bool false, .bool false, .bool false, .bool false, .bool false, .bool false, .bool false, .bool false, .bool false, .bool false, .bool false, .bool false, .bool false, .bool false] 32)) w.heap.size false noSet :=
  (heap_alloc_new w _).trans (by kernel_rfl)

end Go.Proofs.YtikgnpachlgakaaDoor.Cron
