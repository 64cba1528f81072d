/- Lemmas and walks on the way to the law, merged by wip/tools/pack.py: Names, Float, Float2, Dur, DurW, DurM. Conditions: none. -/
import Derived.Test.YtmecbmgfacpecaaGreatDoorGrD
set_option linter.unusedVariables false
set_option linter.unusedSimpArgs false
namespace Go.Proofs.YtmecbmgfacpecaaGreatDoor.Cron
open Go Go.RowKit Go.Proofs.YtmecbmgfacpecaaGreatDoor.Text Go.Proofs.YtmecbmgfacpecaaGreatDoor.Bits
def entsGo : List (ByteArray × Int) → Nat → List MapEntry
 | [], _ => []
 | (k, v) :: t, i => ⟨.string k, .int .u64 v, i⟩ :: entsGo t (i + 1)
def MapAt (w : World) (r : Nat) (L : List (ByteArray × Int)) : Prop := w.heap[r]? = some (.map (entsGo L 0).toArray L.length)
def findL (s : ByteArray) : List (ByteArray × Int) → Nat → Option (Nat × Int)
 | [], _ => none
 | (k, v) :: t, i => if s = k then some (i, v) else findL s t (i + 1)
def lookL (s : ByteArray) : List (ByteArray × Int) → Option Int
 | [] => none
 | (k, v) :: t => if s = k then some v else lookL s t
theorem look_find (s : ByteArray) : ∀ (L : List (ByteArray × Int)) (i : Nat), (findL s L i).map (·.2) = lookL s L
 | [], _ => rfl
 | (k, v) :: t, i => by
  unfold findL lookL;by_cases h : s = k
  ·rw [if_pos h, if_pos h]; rfl
  ·rw [if_neg h, if_neg h]; exact look_find s t (i + 1)
theorem ba_beq (s k : ByteArray) : (s == k) = decide (s = k) := by
 obtain ⟨a⟩ := s;obtain ⟨b⟩ := k;have h1 : ((⟨a⟩ : ByteArray) == ⟨b⟩) = (a == b) := by first | rfl | kernel_rfl
 rw [h1, Bool.eq_iff_iff];simp
theorem findNow_ents (s : ByteArray) : ∀ (L : List (ByteArray × Int)) (i j : Nat), Instr.findNow .string (.string s) (entsGo L j) i = some ((findL s L i).map fun x => (x.1, Value.int .u64 x.2))
 | [], _, _ => rfl
 | (k, v) :: t, i, j => by
  unfold entsGo Instr.findNow findL;by_cases h : s = k
  ·subst h;simp [Instr.sameNow, ba_beq]
  ·have : (s == k) = false := by rw [ba_beq]; exact decide_eq_false h
   simp only [Instr.sameNow, this, if_neg h];exact findNow_ents s t (i + 1) (j + 1)
theorem ents_snoc : ∀ (L : List (ByteArray × Int)) (k : ByteArray) (v : Int) (i : Nat), entsGo (L ++ [(k, v)]) i = entsGo L i ++ [⟨.string k, .int .u64 v, i + L.length⟩]
 | [], k, v, i => rfl
 | (a, b) :: t, k, v, i => by
  simp only [List.cons_append, entsGo, List.length_cons];rw [ents_snoc t k v (i + 1)];simp only [Nat.add_assoc, Nat.add_comm 1]
theorem run_insert_name (w : World) (r : Nat) (L : List (ByteArray × Int)) (k : ByteArray) (v : Int) (hM : MapAt w r L) (hne : findL k L 0 = none) :
  ∃ w', (Instr.mapUpdate 183 (.map (some r)) (.string k) (.int .u64 v)).run Tryz.prog w = .ok () w' ∧ MapAt w' r (L ++ [(k, v)]) ∧ Below r w w' := by
 have hM' : w.heap[r]? = some (.map (entsGo L 0).toArray L.length) := hM;refine ⟨{ w with heap := w.heap.setIfInBounds r (.map ((entsGo L 0).toArray.push ⟨.string k, .int .u64 v, L.length⟩) (L.length + 1)) }, ?_, ?_, ?_⟩
 ·have hfk := MapKept.run_findKey (P := Tryz.prog) (w := w) (kt := 9) (k := .string k) Tryz.underlying9 (findNow_ents k L 0 0);rw [hne] at hfk;have hck := MapKept.run_checkKey (P := Tryz.prog) (w := w) (kt := 9) (d := .string) (k := .string k) Tryz.underlying9 (by first | trivial | rfl | simp [MapKept.IsKey]) false 9999;simp [Instr.mapUpdate, Sem.run_bind, run_underlying Tryz.underlying183, MapKept.run_getObj_map hM', hck, hfk, MapKept.run_setObj_map _ hM', Result.andThen]
 ·unfold MapAt;rw [(MapKept.heap_set hM').1, ents_snoc];simp
 ·exact ⟨rfl, rfl, rfl, by simp, fun b hb => (MapKept.heap_set hM').2 b (by omega)⟩
section
variable {ops : Array Oper} {rest : List Oper} {o : Oper} {a : Act} {w : World} {Q : Exit → Act → World → Prop}
theorem wpList_insert_name (hg : o.guard = none) (m x y : Operand) (ho : o.op = .insert 183 m x y) (r : Nat) (k : ByteArray) (v : Int) (hm : a.eval m = .map (some r)) (hx : a.eval x = .string k) (hy : a.eval y = .int .u64 v)
  (L : List (ByteArray × Int)) (hM : MapAt w r L) (hne : findL k L 0 = none)
  (h : ∀ w', MapAt w' r (L ++ [(k, v)]) → Below r w w' → wpList Tryz.prog ops Q rest (a.put o.dst undef) w') : wpList Tryz.prog ops Q (o :: rest) a w := by
 refine wpList_plain hg fun K hK => ?_
 obtain ⟨w', hr, hM', hb⟩ := run_insert_name w r L k v hM hne;unfold Oper.wp execOp;simp only [ho, hm, hx, hy, hr, Sem.run_bind, Sem.run_pure, Result.andThen_ok];exact hK _ _ (h w' hM' hb)
end
theorem run_lookup_name (w : World) (r : Nat) (L : List (ByteArray × Int)) (s : ByteArray) (hM : MapAt w r L) :
  (Instr.lookup 183 (.map (some r)) (.string s) true).run Tryz.prog w = .ok (.tuple #[.int .u64 ((lookL s L).getD 0), .bool (lookL s L).isSome]) w := by
 have hM' : w.heap[r]? = some (.map (entsGo L 0).toArray L.length) := hM;have hfk := MapKept.run_findKey (P := Tryz.prog) (w := w) (kt := 9) (k := .string s) Tryz.underlying9 (findNow_ents s L 0 0);have hck := fun em : Bool => MapKept.run_checkKey (P := Tryz.prog) (w := w) (kt := 9) (d := .string) (k := .string s) Tryz.underlying9 (by first | trivial | rfl | simp [MapKept.IsKey]) em 9999
 have hz : (zeroValue 182).run Tryz.prog w = .ok (.int .u64 0) w := Tryz.zeroValue182 w;rw [← look_find s L 0];cases hf : findL s L 0 with
 | none =>
  rw [hf] at hfk;simp [Instr.lookup, Sem.run_bind, run_underlying Tryz.underlying183, MapKept.run_getObj_map hM', hck, hfk, hz, Result.andThen]
 | some x =>
  rw [hf] at hfk;simp [Instr.lookup, Sem.run_bind, run_underlying Tryz.underlying183, MapKept.run_getObj_map hM', hck, hfk, Result.andThen]
theorem row_kept {w w' : World} {cs : Array Value} {T : TypeId} {o : Obj} (h : Below (w.heap.size + 1) ((w.alloc (.cells cs T)).alloc o) w') : w'.heap[w.heap.size]? = some (.cells cs T (0, 0)) :=
 (h.block w.heap.size (by omega)).trans ((heap_alloc_old _ o (by simp)).trans (heap_alloc_new w _))
theorem run_makeMap_names (w : World) : (Instr.makeMap 183 none).run Tryz.prog w = .ok (.map (some w.heap.size)) (w.alloc (.map #[] 0)) := by rfl
theorem mapAt_new (w : World) (o : Obj) : MapAt ((w.alloc o).alloc (.map #[] 0)) (w.heap.size + 1) [] := by
 have := heap_alloc_new (w.alloc o) (.map #[] 0);rw [show (w.alloc o).heap.size = w.heap.size + 1 by simp] at this;exact this
theorem MapAt.lt {w : World} {r : Nat} {L : List (ByteArray × Int)} (h : MapAt w r L) : r < w.heap.size := (Array.getElem?_eq_some_iff.1 h).1
theorem MapAt.below {w w' : World} {r : Nat} {L : List (ByteArray × Int)} (h : MapAt w r L) (hb : Below w.heap.size w w') : MapAt w' r L := (hb.block r h.lt).trans h
theorem MapAt.put {w : World} {r g i : Nat} {L : List (ByteArray × Int)} {v : Value} (h : MapAt w r L) (hg : r ≠ g) : MapAt (w.setCell ⟨g, i, none⟩ v) r L := by
 unfold MapAt;rw [heap_setCell_other w ⟨g, i, none⟩ r v hg];exact h
def monthsL : List (ByteArray × Int) := [(⟨#[106, 97, 110]⟩, 1), (⟨#[102, 101, 98]⟩, 2), (⟨#[109, 97, 114]⟩, 3), (⟨#[97, 112, 114]⟩, 4), (⟨#[109, 97, 121]⟩, 5), (⟨#[106, 117, 110]⟩, 6), (⟨#[106, 117, 108]⟩, 7), (⟨#[97, 117, 103]⟩, 8), (⟨#[115, 101, 112]⟩, 9), (⟨#[111, 99, 116]⟩, 10), (⟨#[110, 111, 118]⟩, 11), (⟨#[100, 101, 99]⟩, 12)]
set_option maxRecDepth 100000 in
set_option maxHeartbeats 1000000 in
theorem months_any (w : World) : Calls Tryz.prog 110 #[] w fun e w' => ∃ r, e = .returned (.agg #[.int .u64 1, .int .u64 12, .map (some r)]) ∧ w.heap.size < r ∧ MapAt w' r monthsL ∧ Below w.heap.size w w' := by
 have hmk := run_makeMap_names;go_enter Tryz.func110, Tryz.ntmps110
 go_wp2_with (first
  | (refine wpList_insert_name rfl _ _ _ rfl (w.heap.size + 1) ⟨#[106, 97, 110]⟩ 1 rfl rfl rfl [] (mapAt_new _ _) rfl ?_; intro w1 hM1 hb1)
  | (refine wpList_insert_name rfl _ _ _ rfl (w.heap.size + 1) ⟨#[102, 101, 98]⟩ 2 rfl rfl rfl [(⟨#[106, 97, 110]⟩, 1)] hM1 rfl ?_; intro w2 hM2 hb2)
  | (refine wpList_insert_name rfl _ _ _ rfl (w.heap.size + 1) ⟨#[109, 97, 114]⟩ 3 rfl rfl rfl [(⟨#[106, 97, 110]⟩, 1), (⟨#[102, 101, 98]⟩, 2)] hM2 rfl ?_; intro w3 hM3 hb3)
  | (refine wpList_insert_name rfl _ _ _ rfl (w.heap.size + 1) ⟨#[97, 112, 114]⟩ 4 rfl rfl rfl [(⟨#[106, 97, 110]⟩, 1), (⟨#[102, 101, 98]⟩, 2), (⟨#[109, 97, 114]⟩, 3)] hM3 rfl ?_; intro w4 hM4 hb4)
  | (refine wpList_insert_name rfl _ _ _ rfl (w.heap.size + 1) ⟨#[109, 97, 121]⟩ 5 rfl rfl rfl [(⟨#[106, 97, 110]⟩, 1), (⟨#[102, 101, 98]⟩, 2), (⟨#[109, 97, 114]⟩, 3), (⟨#[97, 112, 114]⟩, 4)] hM4 rfl ?_; intro w5 hM5 hb5)
  | (refine wpList_insert_name rfl _ _ _ rfl (w.heap.size + 1) ⟨#[106, 117, 110]⟩ 6 rfl rfl rfl [(⟨#[106, 97, 110]⟩, 1), (⟨#[102, 101, 98]⟩, 2), (⟨#[109, 97, 114]⟩, 3), (⟨#[97, 112, 114]⟩, 4), (⟨#[109, 97, 121]⟩, 5)] hM5 rfl ?_; intro w6 hM6 hb6)
  | (refine wpList_insert_name rfl _ _ _ rfl (w.heap.size + 1) ⟨#[106, 117, 108]⟩ 7 rfl rfl rfl [(⟨#[106, 97, 110]⟩, 1), (⟨#[102, 101, 98]⟩, 2), (⟨#[109, 97, 114]⟩, 3), (⟨#[97, 112, 114]⟩, 4), (⟨#[109, 97, 121]⟩, 5), (⟨#[106, 117, 110]⟩, 6)] hM6 rfl ?_; intro w7 hM7 hb7)
  | (refine wpList_insert_name rfl _ _ _ rfl (w.heap.size + 1) ⟨#[97, 117, 103]⟩ 8 rfl rfl rfl [(⟨#[106, 97, 110]⟩, 1), (⟨#[102, 101, 98]⟩, 2), (⟨#[109, 97, 114]⟩, 3), (⟨#[97, 112, 114]⟩, 4), (⟨#[109, 97, 121]⟩, 5), (⟨#[106, 117, 110]⟩, 6), (⟨#[106, 117, 108]⟩, 7)] hM7 rfl ?_; intro w8 hM8 hb8)
  | (refine wpList_insert_name rfl _ _ _ rfl (w.heap.size + 1) ⟨#[115, 101, 112]⟩ 9 rfl rfl rfl [(⟨#[106, 97, 110]⟩, 1), (⟨#[102, 101, 98]⟩, 2), (⟨#[109, 97, 114]⟩, 3), (⟨#[97, 112, 114]⟩, 4), (⟨#[109, 97, 121]⟩, 5), (⟨#[106, 117, 110]⟩, 6), (⟨#[106, 117, 108]⟩, 7), (⟨#[97, 117, 103]⟩, 8)] hM8 rfl ?_; intro w9 hM9 hb9)
  | (refine wpList_insert_name rfl _ _ _ rfl (w.heap.size + 1) ⟨#[111, 99, 116]⟩ 10 rfl rfl rfl [(⟨#[106, 97, 110]⟩, 1), (⟨#[102, 101, 98]⟩, 2), (⟨#[109, 97, 114]⟩, 3), (⟨#[97, 112, 114]⟩, 4), (⟨#[109, 97, 121]⟩, 5), (⟨#[106, 117, 110]⟩, 6), (⟨#[106, 117, 108]⟩, 7), (⟨#[97, 117, 103]⟩, 8), (⟨#[115, 101, 112]⟩, 9)] hM9 rfl ?_; intro w10 hM10 hb10)
  | (refine wpList_insert_name rfl _ _ _ rfl (w.heap.size + 1) ⟨#[110, 111, 118]⟩ 11 rfl rfl rfl [(⟨#[106, 97, 110]⟩, 1), (⟨#[102, 101, 98]⟩, 2), (⟨#[109, 97, 114]⟩, 3), (⟨#[97, 112, 114]⟩, 4), (⟨#[109, 97, 121]⟩, 5), (⟨#[106, 117, 110]⟩, 6), (⟨#[106, 117, 108]⟩, 7), (⟨#[97, 117, 103]⟩, 8), (⟨#[115, 101, 112]⟩, 9), (⟨#[111, 99, 116]⟩, 10)] hM10 rfl ?_; intro w11 hM11 hb11)
  | (refine wpList_insert_name rfl _ _ _ rfl (w.heap.size + 1) ⟨#[100, 101, 99]⟩ 12 rfl rfl rfl [(⟨#[106, 97, 110]⟩, 1), (⟨#[102, 101, 98]⟩, 2), (⟨#[109, 97, 114]⟩, 3), (⟨#[97, 112, 114]⟩, 4), (⟨#[109, 97, 121]⟩, 5), (⟨#[106, 117, 110]⟩, 6), (⟨#[106, 117, 108]⟩, 7), (⟨#[97, 117, 103]⟩, 8), (⟨#[115, 101, 112]⟩, 9), (⟨#[111, 99, 116]⟩, 10), (⟨#[110, 111, 118]⟩, 11)] hM11 rfl ?_; intro w12 hM12 hb12; go_must (have hrow := row_kept ((((((((((((hb1).trans hb2).trans hb3).trans hb4).trans hb5).trans hb6).trans hb7).trans hb8).trans hb9).trans hb10).trans hb11).trans hb12); have hc0 : _ = some _ := cell_of_row _ _ 0 _ _ _ hrow; have hc1 : _ = some _ := cell_of_row _ _ 1 _ _ _ hrow; have hc2 : _ = some _ := cell_of_row _ _ 2 _ _ _ hrow; have hf0 := frozen_of_row _ _ 0 _ _ hrow; have hf1 := frozen_of_row _ _ 1 _ _ hrow; have hf2 := frozen_of_row _ _ 2 _ _ hrow; have HROW := Lib.hid hrow; clear hrow)))
 have HB : Below w.heap.size w w12 := (((Below.refl _ _).alloc (Nat.le_refl _) _).alloc (by simp) _).trans (((((((((((((hb1.trans hb2).trans hb3).trans hb4).trans hb5).trans hb6).trans hb7).trans hb8).trans hb9).trans hb10).trans hb11).trans hb12)).mono (by omega));have HM : MapAt w12 (w.heap.size + 1) monthsL := hM12;refine bodyPost_ret (v := .agg #[.int .u64 1, .int .u64 12, .map (some (w.heap.size + 1))]) ?_ rfl ?_
 ·exact results_bounds (fn := Tryz.f110) (p := 0) rfl _ _ w.heap.size _ rfl (store3_row HROW.out) rfl
 exact ⟨_, rfl, by omega, ((HM.put (by omega)).put (by omega)).put (by omega), ((HB.setCell (Nat.le_refl _) _).setCell (Nat.le_refl _) _).setCell (Nat.le_refl _) _⟩
def dowL : List (ByteArray × Int) := [(⟨#[115, 117, 110]⟩, 0), (⟨#[109, 111, 110]⟩, 1), (⟨#[116, 117, 101]⟩, 2), (⟨#[119, 101, 100]⟩, 3), (⟨#[116, 104, 117]⟩, 4), (⟨#[102, 114, 105]⟩, 5), (⟨#[115, 97, 116]⟩, 6)]
set_option maxRecDepth 100000 in
set_option maxHeartbeats 1000000 in
theorem dow_any (w : World) : Calls Tryz.prog 111 #[] w fun e w' => ∃ r, e = .returned (.agg #[.int .u64 0, .int .u64 6, .map (some r)]) ∧ w.heap.size < r ∧ MapAt w' r dowL ∧ Below w.heap.size w w' := by
 have hmk := run_makeMap_names;go_enter Tryz.func111, Tryz.ntmps111
 go_wp2_with (first
  | (refine wpList_insert_name rfl _ _ _ rfl (w.heap.size + 1) ⟨#[115, 117, 110]⟩ 0 rfl rfl rfl [] (mapAt_new _ _) rfl ?_; intro w1 hM1 hb1)
  | (refine wpList_insert_name rfl _ _ _ rfl (w.heap.size + 1) ⟨#[109, 111, 110]⟩ 1 rfl rfl rfl [(⟨#[115, 117, 110]⟩, 0)] hM1 rfl ?_; intro w2 hM2 hb2)
  | (refine wpList_insert_name rfl _ _ _ rfl (w.heap.size + 1) ⟨#[116, 117, 101]⟩ 2 rfl rfl rfl [(⟨#[115, 117, 110]⟩, 0), (⟨#[109, 111, 110]⟩, 1)] hM2 rfl ?_; intro w3 hM3 hb3)
  | (refine wpList_insert_name rfl _ _ _ rfl (w.heap.size + 1) ⟨#[119, 101, 100]⟩ 3 rfl rfl rfl [(⟨#[115, 117, 110]⟩, 0), (⟨#[109, 111, 110]⟩, 1), (⟨#[116, 117, 101]⟩, 2)] hM3 rfl ?_; intro w4 hM4 hb4)
  | (refine wpList_insert_name rfl _ _ _ rfl (w.heap.size + 1) ⟨#[116, 104, 117]⟩ 4 rfl rfl rfl [(⟨#[115, 117, 110]⟩, 0), (⟨#[109, 111, 110]⟩, 1), (⟨#[116, 117, 101]⟩, 2), (⟨#[119, 101, 100]⟩, 3)] hM4 rfl ?_; intro w5 hM5 hb5)
  | (refine wpList_insert_name rfl _ _ _ rfl (w.heap.size + 1) ⟨#[102, 114, 105]⟩ 5 rfl rfl rfl [(⟨#[115, 117, 110]⟩, 0), (⟨#[109, 111, 110]⟩, 1), (⟨#[116, 117, 101]⟩, 2), (⟨#[119, 101, 100]⟩, 3), (⟨#[116, 104, 117]⟩, 4)] hM5 rfl ?_; intro w6 hM6 hb6)
  | (refine wpList_insert_name rfl _ _ _ rfl (w.heap.size + 1) ⟨#[115, 97, 116]⟩ 6 rfl rfl rfl [(⟨#[115, 117, 110]⟩, 0), (⟨#[109, 111, 110]⟩, 1), (⟨#[116, 117, 101]⟩, 2), (⟨#[119, 101, 100]⟩, 3), (⟨#[116, 104, 117]⟩, 4), (⟨#[102, 114, 105]⟩, 5)] hM6 rfl ?_; intro w7 hM7 hb7; go_must (have hrow := row_kept (((((((hb1).trans hb2).trans hb3).trans hb4).trans hb5).trans hb6).trans hb7); have hc0 : _ = some _ := cell_of_row _ _ 0 _ _ _ hrow; have hc1 : _ = some _ := cell_of_row _ _ 1 _ _ _ hrow; have hc2 : _ = some _ := cell_of_row _ _ 2 _ _ _ hrow; have hf0 := frozen_of_row _ _ 0 _ _ hrow; have hf1 := frozen_of_row _ _ 1 _ _ hrow; have hf2 := frozen_of_row _ _ 2 _ _ hrow; have HROW := Lib.hid hrow; clear hrow)))
 have HB : Below w.heap.size w w7 := (((Below.refl _ _).alloc (Nat.le_refl _) _).alloc (by simp) _).trans ((((((((hb1.trans hb2).trans hb3).trans hb4).trans hb5).trans hb6).trans hb7)).mono (by omega));have HM : MapAt w7 (w.heap.size + 1) dowL := hM7;refine bodyPost_ret (v := .agg #[.int .u64 0, .int .u64 6, .map (some (w.heap.size + 1))]) ?_ rfl ?_
 ·exact results_bounds (fn := Tryz.f111) (p := 0) rfl _ _ w.heap.size _ rfl (store3_row HROW.out) rfl
 exact ⟨_, rfl, by omega, ((HM.put (by omega)).put (by omega)).put (by omega), ((HB.setCell (Nat.le_refl _) _).setCell (Nat.le_refl _) _).setCell (Nat.le_refl _) _⟩
end Go.Proofs.YtmecbmgfacpecaaGreatDoor.Cron
namespace Go.Proofs.YtmecbmgfacpecaaGreatDoor.Flo
open Go Ieee
theorem log2_bounds {n : Nat} (h : 0 < n) : 2 ^ n.log2 ≤ n ∧ n < 2 ^ (n.log2 + 1) := ⟨Nat.log2_self_le (by omega), Nat.lt_log2_self⟩
theorem log2_is {n k : Nat} (h1 : 2 ^ k ≤ n) (h2 : n < 2 ^ (k + 1)) : n.log2 = k := by
 have h0 : n ≠ 0 := by have := Nat.two_pow_pos k; omega
 have a : k ≤ n.log2 := (Nat.le_log2 h0).2 h1;have b : n.log2 < k + 1 := (Nat.log2_lt h0).2 h2;omega
theorem d_binade : double.binade = 4503599627370496 := by decide +kernel
theorem d_inf : double.infRung = 9218868437227405312 := by decide +kernel
theorem d_least : double.leastPlace = -1074 := by decide +kernel
theorem d_frac : (double.fractionBits : Int) = 52 := by decide +kernel
theorem d_sign : double.signWeight = 9223372036854775808 := by decide +kernel
def fl (n : Nat) : Nat := FloatKind.f64.nearest (n : Int)
def Lt (x : Nat) (e : Int) : Prop := ∃ m p, double.read x = .number false m p ∧ (m = 0 ∨ (m.log2 : Int) + p < e)
def Ge (x : Nat) (e : Int) : Prop := (∃ m p, double.read x = .number false m p ∧ m ≠ 0 ∧ e ≤ (m.log2 : Int) + p) ∨ double.read x = .infinity false
theorem lt_pow {n k : Nat} (h : n < 2 ^ k) : n = 0 ∨ n.log2 < k := by
 rcases Nat.eq_zero_or_pos n with h0 | h0
 ·exact .inl h0
 ·exact .inr ((Nat.log2_lt (by omega)).2 h)
theorem cut_bounds (way : Toward) (hw : way = .even ∨ way = .zero) (n d : Nat) : n / 2 ^ d ≤ way.cut false n d + 0 ∧ way.cut false n d ≤ n / 2 ^ d + 1 := by
 unfold Toward.cut;simp only [Nat.one_shiftLeft];by_cases h : d ≤ n.log2 + 2
 ·rw [Nat.min_eq_left h];rcases hw with rfl | rfl
  ·generalize (decide (2 ^ d < 2 * (n % 2 ^ d)) || 2 ^ d == 2 * (n % 2 ^ d) && n / 2 ^ d % 2 == 1) = b;cases b <;> simp
  ·simp
 ·rw [Nat.min_eq_right (by omega)];have hn : n < 2 ^ (n.log2 + 1) := Nat.lt_log2_self;have h1 : 2 ^ (n.log2 + 2) = 2 * 2 ^ (n.log2 + 1) := by rw [show n.log2 + 2 = n.log2 + 1 + 1 by omega, Nat.pow_succ]; omega
  have h2 : n < 2 ^ d := Nat.lt_of_lt_of_le hn (Nat.pow_le_pow_right (by omega) (by omega));rw [Nat.div_eq_of_lt h2, Nat.div_eq_of_lt (by omega)];rcases hw with rfl | rfl
  ·generalize (decide (2 ^ (n.log2 + 2) < 2 * (n % 2 ^ (n.log2 + 2))) || 2 ^ (n.log2 + 2) == 2 * (n % 2 ^ (n.log2 + 2)) && 0 % 2 == 1) = b;cases b <;> simp
  ·simp
theorem read_small {R : Nat} (h : R < 4503599627370496) : double.read R = .number false R (-1074) := by
 unfold Format.read;rw [d_sign, d_binade, d_inf, d_least];simp only [show R % 9223372036854775808 = R by omega, show R / 9223372036854775808 % 2 = 0 by omega];rw [if_pos h];rfl
theorem read_mid {R : Nat} (h : 4503599627370496 ≤ R) (h2 : R < 9218868437227405312) : double.read R = .number false (4503599627370496 + R % 4503599627370496) (-1074 + ((R / 4503599627370496 - 1 : Nat) : Int)) := by
 unfold Format.read;rw [d_sign, d_binade, d_inf, d_least];simp only [show R % 9223372036854775808 = R by omega, show R / 9223372036854775808 % 2 = 0 by omega];rw [if_neg (by omega), if_pos h2];rfl
theorem read_inf : double.read 9218868437227405312 = .infinity false := by decide +kernel
theorem log2_mid (r : Nat) (h : r < 4503599627370496) : (4503599627370496 + r).log2 = 52 := log2_is (by show 4503599627370496 ≤ _; omega) (by show _ < 9007199254740992; omega)
theorem lt_rung {R : Nat} {e : Int} (h : (R : Int) ≤ (e + 1023) * 4503599627370496) (h1 : e ≤ 1022) (h0 : -1022 ≤ e) : Lt R (e + 1) := by
 by_cases hs : R < 4503599627370496
 ·refine ⟨_, _, read_small hs, ?_⟩;rcases lt_pow (n := R) (k := 52) hs with h2 | h2
  ·exact .inl h2
  ·exact .inr (by omega)
 ·refine ⟨_, _, read_mid (by omega) (by omega), .inr ?_⟩;rw [log2_mid _ (Nat.mod_lt _ (by omega))];omega
theorem ge_rung {R : Nat} {e : Int} (h : (e + 1023) * 4503599627370496 ≤ (R : Int)) (h0 : -1022 ≤ e) (hR : R ≤ 9218868437227405312) : Ge R e := by
 by_cases hs : R = 9218868437227405312
 ·exact .inr (by rw [hs]; exact read_inf)
 ·refine .inl ⟨_, _, read_mid (by omega) (by omega), by omega, ?_⟩;rw [log2_mid _ (Nat.mod_lt _ (by omega))];omega
theorem word_pos {r : Nat} (h : r ≤ 9218868437227405312) : double.word false r = r := by
 unfold Format.word;rw [if_neg (by decide)]
theorem shifted (mag : Nat) (a d : Nat) (L : Nat) (hL : mag.log2 = L) (hm : mag ≠ 0) (h : d ≤ L + a) : 2 ^ (L + a - d) ≤ (mag <<< a) / 2 ^ d ∧ (mag <<< a) / 2 ^ d < 2 ^ (L + a - d + 1) := by
 obtain ⟨h1, h2⟩ := log2_bounds (n := mag) (by omega);rw [hL] at h1 h2
 rw [Nat.shiftLeft_eq];have hp := Nat.two_pow_pos d;have ha := Nat.two_pow_pos a;have e1 : 2 ^ (L + a - d) * 2 ^ d = 2 ^ L * 2 ^ a := by rw [← Nat.pow_add, ← Nat.pow_add]; congr 1; omega
 have e2 : 2 ^ (L + a - d + 1) * 2 ^ d = 2 ^ (L + 1) * 2 ^ a := by rw [← Nat.pow_add, ← Nat.pow_add]; congr 1; omega
 constructor
 ·rw [Nat.le_div_iff_mul_le hp, e1];exact Nat.mul_le_mul_right _ h1
 ·rw [Nat.div_lt_iff_lt_mul hp, e2];exact Nat.mul_lt_mul_of_pos_right h2 ha
set_option maxHeartbeats 1000000 in
theorem nearest_lt {mag : Nat} {place e : Int} (h : mag = 0 ∨ (mag.log2 : Int) + place < e) (h0 : -1000 ≤ e) (h1 : e ≤ 1000) : Lt (double.nearest false mag place) (e + 1) := by
 by_cases hm : mag = 0
 ·unfold Format.nearest;rw [if_pos hm, word_pos (by omega)];exact ⟨0, -1074, read_small (by omega), .inl rfl⟩
 ·have h := h.resolve_left hm;obtain ⟨last, hlast⟩ : ∃ last, max (place + (mag.log2 : Int) - (double.fractionBits : Int)) double.leastPlace = last := ⟨_, rfl⟩
  have hl : last = max (place + (mag.log2 : Int) - 52) (-1074) := by rw [← hlast, d_frac, d_least]
  obtain ⟨kept, hkept⟩ : ∃ kept, Toward.even.cut false (mag <<< (place - last).toNat) (last - place).toNat = kept := ⟨_, rfl⟩
  have hk : kept ≤ 9007199254740992 := by
   have hc := (cut_bounds .even (.inl rfl) (mag <<< (place - last).toNat) (last - place).toNat).2;rw [hkept] at hc
   have hn : (mag <<< (place - last).toNat) / 2 ^ (last - place).toNat < 9007199254740992 := by
    by_cases hd : (last - place).toNat ≤ mag.log2 + (place - last).toNat
    ·have := (shifted mag _ _ _ rfl hm hd).2;refine Nat.lt_of_lt_of_le this ?_;rw [show (9007199254740992 : Nat) = 2 ^ 53 from rfl];exact Nat.pow_le_pow_right (by omega) (by omega)
    ·have : (mag <<< (place - last).toNat) < 2 ^ (last - place).toNat := by
      rw [Nat.shiftLeft_eq];have h2 := (log2_bounds (n := mag) (by omega)).2
      calc mag * 2 ^ (place - last).toNat < 2 ^ (mag.log2 + 1) * 2 ^ (place - last).toNat := Nat.mul_lt_mul_of_pos_right h2 (Nat.two_pow_pos _)
       _ = 2 ^ (mag.log2 + 1 + (place - last).toNat) := by rw [← Nat.pow_add]
       _ ≤ 2 ^ (last - place).toNat := Nat.pow_le_pow_right (by omega) (by omega)
     rw [Nat.div_eq_of_lt this];omega
   omega
  have hw : double.nearest false mag place = (last + 1074).toNat * 4503599627370496 + kept := by
   unfold Format.nearest;rw [if_neg hm];simp only [hlast, hkept];rw [d_binade, d_inf, d_least, show (last - -1074 : Int) = last + 1074 by omega];have : (last + 1074).toNat * 4503599627370496 + kept ≤ 9218868437227405312 := by omega
   rw [Nat.min_eq_left this, word_pos this]
  rw [hw];refine lt_rung (e := e) ?_ (by omega) (by omega);omega
set_option maxHeartbeats 1000000 in
theorem nearest_ge {mag : Nat} {place e : Int} (hm : mag ≠ 0) (h : e ≤ (mag.log2 : Int) + place) (h0 : -1000 ≤ e) : Ge (double.nearest false mag place) e := by
 obtain ⟨last, hlast⟩ : ∃ last, max (place + (mag.log2 : Int) - (double.fractionBits : Int)) double.leastPlace = last := ⟨_, rfl⟩
 have hl : last = place + (mag.log2 : Int) - 52 := by rw [← hlast, d_frac, d_least]; omega
 obtain ⟨kept, hkept⟩ : ∃ kept, Toward.even.cut false (mag <<< (place - last).toNat) (last - place).toNat = kept := ⟨_, rfl⟩
 have hk : 4503599627370496 ≤ kept := by
  have hc := (cut_bounds .even (.inl rfl) (mag <<< (place - last).toNat) (last - place).toNat).1;rw [hkept] at hc;have := (shifted mag (place - last).toNat (last - place).toNat _ rfl hm (by omega)).1;rw [show mag.log2 + (place - last).toNat - (last - place).toNat = 52 by omega] at this;exact Nat.le_trans (show 4503599627370496 ≤ 2 ^ 52 by decide) (Nat.le_trans this hc)
 have hw : double.nearest false mag place = min ((last + 1074).toNat * 4503599627370496 + kept) 9218868437227405312 := by
  unfold Format.nearest;rw [if_neg hm];simp only [hlast, hkept];rw [d_binade, d_inf, d_least, show (last - -1074 : Int) = last + 1074 by omega, word_pos (Nat.min_le_right _ _)]
 rw [hw];by_cases hb : (last + 1074).toNat * 4503599627370496 + kept ≤ 9218868437227405312
 ·rw [Nat.min_eq_left hb];exact ge_rung (by omega) (by omega) hb
 ·rw [Nat.min_eq_right (by omega)];exact .inr read_inf
theorem log2_mul (a b : Nat) (ha : a ≠ 0) (hb : b ≠ 0) : a.log2 + b.log2 ≤ (a * b).log2 ∧ (a * b).log2 ≤ a.log2 + b.log2 + 1 := by
 obtain ⟨a1, a2⟩ := log2_bounds (n := a) (by omega);obtain ⟨b1, b2⟩ := log2_bounds (n := b) (by omega);have h0 : a * b ≠ 0 := Nat.mul_ne_zero ha hb;refine ⟨(Nat.le_log2 h0).2 (by rw [Nat.pow_add]; exact Nat.mul_le_mul a1 b1), ?_⟩;have : (a * b).log2 < a.log2 + b.log2 + 2 := (Nat.log2_lt h0).2 (by rw [show a.log2 + b.log2 + 2 = a.log2 + 1 + (b.log2 + 1) by omega, Nat.pow_add]; exact Nat.mul_lt_mul'' a2 b2);omega
theorem mul_lt {x y : Nat} {a b : Int} (hx : Lt x a) (hy : Lt y b) (h0 : -1000 ≤ a + b) (h1 : a + b ≤ 1000) : ∃ r, floatBits .mul .f64 x y = some r ∧ Lt r (a + b + 1) := by
 obtain ⟨m, p, hm, hm1⟩ := hx;obtain ⟨n, q, hn, hn1⟩ := hy;unfold floatBits;show ∃ r, double.mul x y = some r ∧ _
 unfold Format.mul;rw [hm, hn];refine ⟨_, rfl, ?_⟩;show Lt (double.nearest false (m * n) (p + q)) _
 refine nearest_lt ?_ h0 h1;by_cases h2 : m = 0
 ·exact .inl (by rw [h2, Nat.zero_mul])
 by_cases h3 : n = 0
 ·exact .inl (by rw [h3, Nat.mul_zero])
 have := (log2_mul m n h2 h3).2;have := hm1.resolve_left h2;have := hn1.resolve_left h3;exact .inr (by omega)
theorem mul_ge {x y : Nat} {a b : Int} (hx : Ge x a) (hy : ∃ n q, double.read y = .number false n q ∧ n ≠ 0 ∧ b ≤ (n.log2 : Int) + q) (h0 : -1000 ≤ a + b) : ∃ r, floatBits .mul .f64 x y = some r ∧ Ge r (a + b) := by
 obtain ⟨n, q, hn, hn0, hn1⟩ := hy;unfold floatBits;show ∃ r, double.mul x y = some r ∧ _
 unfold Format.mul;rcases hx with ⟨m, p, hm, hm0, hm1⟩ | hm
 ·rw [hm, hn];refine ⟨_, rfl, ?_⟩;show Ge (double.nearest false (m * n) (p + q)) _
  exact nearest_ge (Nat.mul_ne_zero hm0 hn0) (by have := (log2_mul m n hm0 hn0).1; omega) h0
 ·rw [hm, hn];unfold Datum.product;simp only [hn0, if_false];refine ⟨_, rfl, ?_⟩;show Ge (double.word false double.infRung) _
  rw [d_inf, word_pos (by omega)];exact .inr read_inf
theorem div_lt {x y : Nat} {a b : Int} (hx : Lt x a) (hy : Ge y b) (h0 : -1000 ≤ a - b) (h1 : a - b ≤ 1000) : ∃ r, floatBits .quo .f64 x y = some r ∧ Lt r (a - b + 1) := by
 obtain ⟨m, p, hm, hm1⟩ := hx;unfold floatBits;show ∃ r, double.div x y = some r ∧ _
 unfold Format.div;rcases hy with ⟨n, q, hn, hn0, hn1⟩ | hn
 ·rw [hm, hn];unfold Datum.quotient;dsimp only;rw [if_neg hn0];refine ⟨_, rfl, ?_⟩;obtain ⟨more, hmore⟩ : ∃ more, double.fractionBits + 2 + n.log2 - m.log2 = more := ⟨_, rfl⟩
  simp only [hmore];have hmo : more = 54 + n.log2 - m.log2 := by rw [← hmore, show double.fractionBits = 52 by decide]
  show Lt (double.nearest false (2 * (m <<< more / n) + (m <<< more % n != 0).toNat) (p - q - more - 1)) _
  refine nearest_lt ?_ h0 h1;by_cases h2 : m = 0
  ·refine .inl ?_;rw [h2];simp
  have hlm := hm1.resolve_left h2
  have hq : m <<< more / n < 2 ^ (m.log2 + 1 + more - n.log2) := by
   rw [Nat.div_lt_iff_lt_mul (by omega), Nat.shiftLeft_eq];have h3 := (log2_bounds (n := m) (by omega)).2;have h4 := (log2_bounds (n := n) (by omega)).1
   calc m * 2 ^ more < 2 ^ (m.log2 + 1) * 2 ^ more := Nat.mul_lt_mul_of_pos_right h3 (Nat.two_pow_pos _)
    _ = 2 ^ (m.log2 + 1 + more - n.log2) * 2 ^ n.log2 := by rw [← Nat.pow_add, ← Nat.pow_add]; congr 1; omega
    _ ≤ 2 ^ (m.log2 + 1 + more - n.log2) * n := Nat.mul_le_mul_left _ h4
  have hb : (m <<< more % n != 0).toNat ≤ 1 := by cases (m <<< more % n != 0) <;> simp
  have hmag : 2 * (m <<< more / n) + (m <<< more % n != 0).toNat < 2 ^ (m.log2 + 1 + more - n.log2 + 1) := by
   rw [Nat.pow_succ];omega
  rcases lt_pow hmag with h5 | h5
  ·exact .inl h5
  ·exact .inr (by omega)
 ·rw [hm, hn];refine ⟨_, rfl, ?_⟩;show Lt (double.nearest false 0 0) _
  exact nearest_lt (.inl rfl) h0 h1
theorem toInt_lt {x : Nat} {e : Nat} (hx : Lt x e) (he : e ≤ 63) : ∃ n : Nat, floatToIntVal .f64 x .u64 = some (n : Int) ∧ n < 2 ^ e := by
 obtain ⟨m, p, hm, hm1⟩ := hx
 have e1 : (FloatKind.f64.decode x).toInt .zero = some ((Toward.zero.cut false (m <<< p.toNat) (-p).toNat : Nat) : Int) := by
  show (double.read x).toInt .zero = _
  rw [hm];unfold Datum.toInt Datum.integral;simp [signed]
 have hlt : Toward.zero.cut false (m <<< p.toNat) (-p).toNat < 2 ^ e := by
  have hz : Toward.zero.cut false (m <<< p.toNat) (-p).toNat ≤ (m <<< p.toNat) / 2 ^ (-p).toNat := by
   unfold Toward.cut;simp only [Nat.one_shiftLeft];by_cases h : (-p).toNat ≤ (m <<< p.toNat).log2 + 2
   ·rw [Nat.min_eq_left h]; simp
   ·rw [Nat.min_eq_right (by omega)];have hn : (m <<< p.toNat) < 2 ^ ((m <<< p.toNat).log2 + 1) := Nat.lt_log2_self;have h1 : 2 ^ ((m <<< p.toNat).log2 + 2) = 2 * 2 ^ ((m <<< p.toNat).log2 + 1) := by rw [show (m <<< p.toNat).log2 + 2 = (m <<< p.toNat).log2 + 1 + 1 by omega, Nat.pow_succ]; omega
    rw [Nat.div_eq_of_lt (by omega)];simp
  refine Nat.lt_of_le_of_lt hz ?_;by_cases h2 : m = 0
  ·rw [h2, Nat.zero_shiftLeft, Nat.zero_div];exact Nat.two_pow_pos e
  ·have hl := hm1.resolve_left h2;rw [Nat.shiftLeft_eq, Nat.div_lt_iff_lt_mul (Nat.two_pow_pos _)];have h3 := (log2_bounds (n := m) (by omega)).2
   calc m * 2 ^ p.toNat < 2 ^ (m.log2 + 1) * 2 ^ p.toNat := Nat.mul_lt_mul_of_pos_right h3 (Nat.two_pow_pos _)
    _ = 2 ^ (m.log2 + 1 + p.toNat) := by rw [← Nat.pow_add]
    _ ≤ 2 ^ (e + (-p).toNat) := Nat.pow_le_pow_right (by omega) (by omega)
    _ = 2 ^ e * 2 ^ (-p).toNat := by rw [Nat.pow_add]
 generalize Toward.zero.cut false (m <<< p.toNat) (-p).toNat = n at *;refine ⟨n, ?_, hlt⟩;unfold floatToIntVal;rw [e1];simp only;have : 2 ^ e ≤ 2 ^ 63 := Nat.pow_le_pow_right (by omega) he;rw [if_pos ⟨by show (0 : Int) ≤ n; omega, by show (n : Int) ≤ 18446744073709551615; omega⟩]
theorem fl_lt {n e : Nat} (h : n < 2 ^ e) (he : e ≤ 900) : Lt (fl n) (e + 1) := by
 unfold fl FloatKind.nearest FloatKind.encode;show Lt (double.nearest (decide ((n : Int) < 0)) (n : Int).natAbs 0) _
 rw [decide_eq_false (by omega), show (n : Int).natAbs = n from rfl];refine nearest_lt ?_ (by omega) (by omega);rcases lt_pow h with h1 | h1
 ·exact .inl h1
 ·exact .inr (by omega)
end Go.Proofs.YtmecbmgfacpecaaGreatDoor.Flo
namespace Go.Proofs.YtmecbmgfacpecaaGreatDoor.Dur
open Go Go.Proofs.YtmecbmgfacpecaaGreatDoor.Flo
def isD (c : UInt8) : Bool := decide (48 ≤ c.toNat) && decide (c.toNat ≤ 57)
def dN (c : UInt8) : Nat := c.toNat - 48
theorem isD_iff {c : UInt8} : isD c = true ↔ 48 ≤ c.toNat ∧ c.toNat ≤ 57 := by unfold isD; simp
theorem dN_lt {c : UInt8} (h : isD c = true) : dN c ≤ 9 := by have := isD_iff.1 h; unfold dN; omega
def leadI : Nat → List UInt8 → Option (Nat × List UInt8)
 | x, [] => some (x, [])
 | x, c :: r => if isD c = true then (if 922337203685477580 < x then none else if 9223372036854775808 < x * 10 + dN c then none else leadI (x * 10 + dN c) r) else some (x, c :: r)
theorem leadI_le : ∀ (l : List UInt8) (x v : Nat) (r : List UInt8), x ≤ 9223372036854775808 → leadI x l = some (v, r) → v ≤ 9223372036854775808 ∧ r.length ≤ l.length
 | [], x, v, r, hx, h => by
  simp only [leadI, Option.some.injEq, Prod.mk.injEq] at h;obtain ⟨rfl, rfl⟩ := h;exact ⟨hx, Nat.le_refl _⟩
 | c :: l, x, v, r, hx, h => by
  unfold leadI at h;split at h
  ·split at h
   ·cases h
   ·split at h
    ·cases h
    ·have := leadI_le l _ v r (by omega) h;exact ⟨this.1, by simp; omega⟩
  ·simp only [Option.some.injEq, Prod.mk.injEq] at h;obtain ⟨rfl, rfl⟩ := h;exact ⟨hx, Nat.le_refl _⟩
def one64 : Nat := 4607182418800017408
def ten64 : Nat := 4621819117588971520
def mulTen (s : Nat) : Nat := (floatBits .mul .f64 s ten64).getD 0
def leadF : Nat → Nat → Bool → List UInt8 → Nat × Nat × List UInt8
 | x, s, ov, [] => (x, s, [])
 | x, s, ov, c :: r => if isD c = true then (if ov = true then leadF x s true r else if 922337203685477580 < x then leadF x s true r else if 9223372036854775808 < x * 10 + dN c then leadF x s true r else leadF (x * 10 + dN c) (mulTen s) false r) else (x, s, c :: r)
def Scaled (x s : Nat) : Prop := ∃ j : Nat, x < 10 ^ j ∧ (j = 0 ∨ 10 ^ (j - 1) ≤ x) ∧ Ge s (3 * (j : Int))
theorem ten_is : ∃ n q, Ieee.double.read ten64 = .number false n q ∧ n ≠ 0 ∧ (3 : Int) ≤ (n.log2 : Int) + q := ⟨5629499534213120, -49, by decide +kernel, by decide, by decide +kernel⟩
theorem one_ge : Ge one64 0 := .inl ⟨4503599627370496, -52, by decide +kernel, by decide, by decide +kernel⟩
theorem scaled_one : Scaled 0 one64 := ⟨0, by simp, .inl rfl, by simpa using one_ge⟩
theorem pow10_le {j : Nat} (h : 10 ^ (j - 1) ≤ 9223372036854775808) : j ≤ 19 := by
 rcases Nat.lt_or_ge 19 j with h1 | h1
 ·have : 10 ^ 19 ≤ 10 ^ (j - 1) := Nat.pow_le_pow_right (by omega) (by omega);have e : (10 : Nat) ^ 19 = 10000000000000000000 := by decide
  omega
 ·exact h1
theorem Scaled.j_le {x s j : Nat} (hx : x ≤ 9223372036854775808) (h : j = 0 ∨ 10 ^ (j - 1) ≤ x) : j ≤ 19 := by
 rcases h with h | h
 ·omega
 ·exact pow10_le (Nat.le_trans h hx)
theorem Scaled.ten {x s : Nat} (h : Scaled x s) (hx : x ≤ 9223372036854775808) : ∃ r, floatBits .mul .f64 s ten64 = some r ∧ ∀ d, d ≤ 9 → Scaled (x * 10 + d) r := by
 obtain ⟨j, h1, h2, h3⟩ := h;have hj := Scaled.j_le (s := s) hx h2;obtain ⟨r, hr, hg⟩ := mul_ge h3 ten_is (by omega);refine ⟨r, hr, fun d hd => ?_⟩;by_cases h0 : x * 10 + d = 0
 ·-- still nothing: the scale has not become less
  have hx0 : x = 0 := by omega
  have hj0 : j = 0 := by
   rcases h2 with h2 | h2
   ·exact h2
   ·have := Nat.pow_pos (a := 10) (n := j - 1) (by omega);omega
  subst hj0;refine ⟨0, by omega, .inl rfl, ?_⟩;rcases hg with ⟨m, p, a, b, c⟩ | hg
  ·exact .inl ⟨m, p, a, b, by omega⟩
  ·exact .inr hg
 ·refine ⟨j + 1, by rw [Nat.pow_succ]; omega, .inr ?_, ?_⟩
  ·rw [Nat.add_sub_cancel];rcases h2 with h2 | h2
   ·subst h2;simp only [Nat.pow_zero];omega
   ·have : 10 ^ j = 10 ^ (j - 1) * 10 ∨ j = 0 := by
     rcases Nat.eq_zero_or_pos j with e | e
     ·exact .inr e
     ·refine .inl ?_;rw [← Nat.pow_succ];congr 1
      omega
    rcases this with e | e
    ·rw [e]; omega
    ·subst e;simp only [Nat.pow_zero];omega
  ·rw [show (3 : Int) * ((j + 1 : Nat) : Int) = 3 * (j : Int) + 3 by push_cast; omega];exact hg
theorem leadF_scaled : ∀ (l : List UInt8) (x s : Nat) (ov : Bool), Scaled x s → x ≤ 9223372036854775808 → Scaled (leadF x s ov l).1 (leadF x s ov l).2.1 ∧ (leadF x s ov l).1 ≤ 9223372036854775808 ∧ (leadF x s ov l).2.2.length ≤ l.length
 | [], x, s, ov, h, hx => by simp only [leadF]; exact ⟨h, hx, Nat.le_refl _⟩
 | c :: l, x, s, ov, h, hx => by
  unfold leadF;by_cases hd : isD c = true
  ·rw [if_pos hd];have up : ∀ {a b : Nat}, a ≤ b → a ≤ b + 1 := fun h => by omega
   split
   ·have := leadF_scaled l x s true h hx;exact ⟨this.1, this.2.1, by simp only [List.length_cons]; exact up this.2.2⟩
   ·split
    ·have := leadF_scaled l x s true h hx;exact ⟨this.1, this.2.1, by simp only [List.length_cons]; exact up this.2.2⟩
    ·split
     ·have := leadF_scaled l x s true h hx;exact ⟨this.1, this.2.1, by simp only [List.length_cons]; exact up this.2.2⟩
     ·obtain ⟨r, hr, hs⟩ := h.ten hx;have e : mulTen s = r := by unfold mulTen; rw [hr]; rfl
      have := leadF_scaled l (x * 10 + dN c) (mulTen s) false (by rw [e]; exact hs _ (dN_lt hd)) (by omega);exact ⟨this.1, this.2.1, by simp only [List.length_cons]; exact up this.2.2⟩
  ·rw [if_neg hd];exact ⟨h, hx, Nat.le_refl _⟩
def quoW (unit s : Nat) : Nat := (floatBits .quo .f64 (fl unit) s).getD 0
def mulW (f unit s : Nat) : Nat := (floatBits .mul .f64 (fl f) (quoW unit s)).getD 0
def fracN (f s unit : Nat) : Nat := ((floatToIntVal .f64 (mulW f unit s) .u64).getD 0).toNat
theorem ten_pow : ∀ j : Fin 20, 10 ^ j.val ≤ 2 ^ ((10 * j.val + 2) / 3) := by decide
theorem frac_ok {f s unit : Nat} (h : Scaled f s) (hf : f ≤ 9223372036854775808) (hu : unit ≤ 3600000000000) :
  floatBits .quo .f64 (fl unit) s = some (quoW unit s) ∧ floatBits .mul .f64 (fl f) (quoW unit s) = some (mulW f unit s) ∧ floatToIntVal .f64 (mulW f unit s) .u64 = some ((fracN f s unit : Nat) : Int) ∧ fracN f s unit < 9223372036854775808 := by
 obtain ⟨j, h1, h2, h3⟩ := h;have hj := Scaled.j_le (s := s) hf h2;have hul : Lt (fl unit) 43 := fl_lt (e := 42) (by omega) (by omega);have hfl : Lt (fl f) ((((10 * j + 2) / 3 : Nat) : Int) + 1) := fl_lt (e := (10 * j + 2) / 3) (Nat.lt_of_lt_of_le h1 (ten_pow ⟨j, by omega⟩)) (by omega);obtain ⟨q, hq, hql⟩ := div_lt hul h3 (by omega) (by omega);have eq : quoW unit s = q := by unfold quoW; rw [hq]; rfl
 obtain ⟨r, hr, hrl⟩ := mul_lt hfl hql (by omega) (by omega);have er : mulW f unit s = r := by unfold mulW; rw [eq, hr]; rfl
 have hr63 : Lt r ((63 : Nat) : Int) := by
  obtain ⟨m, p, a, b⟩ := hrl;refine ⟨m, p, a, ?_⟩;rcases b with b | b
  ·exact .inl b
  ·refine .inr ?_;push_cast at b ⊢
   omega
 obtain ⟨n, hn, hnl⟩ := toInt_lt hr63 (by omega);have en : fracN f s unit = n := by unfold fracN; rw [er, hn]; rfl
 exact ⟨by rw [eq]; exact hq, by rw [eq, er]; exact hr, by rw [er, en]; exact hn, by rw [en]; exact hnl⟩
def unitN (u : List UInt8) : Option Nat :=
 if u = [110, 115] then some 1 else if u = [117, 115] then some 1000 else if u = [194, 181, 115] then some 1000 else if u = [206, 188, 115] then some 1000 else if u = [109, 115] then some 1000000
 else if u = [115] then some 1000000000 else if u = [109] then some 60000000000 else if u = [104] then some 3600000000000 else none
theorem unit_le {u : List UInt8} {n : Nat} (h : unitN u = some n) : 1 ≤ n ∧ n ≤ 3600000000000 := by
 unfold unitN at h
 (repeat' split at h) <;> first | (cases h; omega) | cases h
def isU (c : UInt8) : Bool := !(isD c || c == 46)
def fracF (r : List UInt8) : Nat × Nat × List UInt8 × Bool :=
 match r with
 | 46 :: t => ((leadF 0 one64 false t).1, (leadF 0 one64 false t).2.1, (leadF 0 one64 false t).2.2, !decide (t.length = (leadF 0 one64 false t).2.2.length))
 | _ => (0, one64, r, false)
def unitF (v f s : Nat) (r : List UInt8) : Option (Nat × List UInt8) :=
 if r.takeWhile isU = [] then none else
 match unitN (r.takeWhile isU) with
 | none => none
 | some n => if 9223372036854775808 / n < v then none else if 0 < f then (if 9223372036854775808 < v * n + fracN f s n then none else some (v * n + fracN f s n, r.dropWhile isU)) else some (v * n, r.dropWhile isU)
def termF (l : List UInt8) : Option (Nat × List UInt8) :=
 match l with
 | [] => none
 | c :: _ =>
  if isD c || c == 46 then
   match leadI 0 l with
   | none => none
   | some (v, r) =>
    if decide (l.length = r.length) && !(fracF r).2.2.2 then none else unitF v (fracF r).1 (fracF r).2.1 (fracF r).2.2.1
  else none
theorem fracF_ok (r : List UInt8) : Scaled (fracF r).1 (fracF r).2.1 ∧ (fracF r).1 ≤ 9223372036854775808 ∧ (fracF r).2.2.1.length ≤ r.length := by
 unfold fracF;split
 ·rename_i t
  have := leadF_scaled t 0 one64 false scaled_one (by omega);exact ⟨this.1, this.2.1, by simp only [List.length_cons]; omega⟩
 ·exact ⟨scaled_one, by omega, Nat.le_refl _⟩
theorem unitF_ok {v f s n : Nat} {r t : List UInt8} (h : unitF v f s r = some (n, t)) : n ≤ 9223372036854775808 ∧ t.length < r.length := by
 unfold unitF at h;split at h
 ·cases h
 ·rename_i hne
  have hl : (r.dropWhile isU).length < r.length := by
   have := congrArg List.length (List.takeWhile_append_dropWhile (p := isU) (l := r));rw [List.length_append] at this;have : 0 < (r.takeWhile isU).length := List.length_pos_iff.2 hne;omega
  split at h
  ·cases h
  ·rename_i u hu
   have hu2 := unit_le hu;split at h
   ·cases h
   ·rename_i hv
    have hvn : v * u ≤ 9223372036854775808 := by
     have : v ≤ 9223372036854775808 / u := by omega
     calc v * u ≤ 9223372036854775808 / u * u := Nat.mul_le_mul_right _ this
      _ ≤ 9223372036854775808 := Nat.div_mul_le_self _ _
    split at h
    ·split at h
     ·cases h
     ·simp only [Option.some.injEq, Prod.mk.injEq] at h;obtain ⟨rfl, rfl⟩ := h;exact ⟨by omega, hl⟩
    ·simp only [Option.some.injEq, Prod.mk.injEq] at h;obtain ⟨rfl, rfl⟩ := h;exact ⟨hvn, hl⟩
theorem termF_ok {l r : List UInt8} {n : Nat} (h : termF l = some (n, r)) : n ≤ 9223372036854775808 ∧ r.length < l.length := by
 unfold termF at h;split at h
 ·cases h
 ·split at h
  ·split at h
   ·cases h
   ·rename_i v t hv
    split at h
    ·cases h
    ·have h1 := unitF_ok h;have h2 := (leadI_le _ _ _ _ (by omega) hv).2;have h3 := (fracF_ok t).2.2;exact ⟨h1.1, by omega⟩
  ·cases h
def sumF : Nat → Nat → List UInt8 → Option Nat
 | _, d, [] => some d
 | 0, _, _ :: _ => none
 | k + 1, d, c :: l =>
  match termF (c :: l) with
  | none => none
  | some (n, r) => if 9223372036854775808 < (d + n) % 18446744073709551616 then none else sumF k ((d + n) % 18446744073709551616) r
theorem sumF_fuel : ∀ (k m d : Nat) (l : List UInt8), l.length ≤ k → l.length ≤ m → sumF k d l = sumF m d l
 | k, m, d, [], _, _ => by cases k <;> cases m <;> rfl
 | 0, _, _, c :: l, h, _ => by simp at h
 | _ + 1, 0, _, c :: l, _, h => by simp at h
 | k + 1, m + 1, d, c :: l, h1, h2 => by
  unfold sumF;split
  ·rfl
  ·rename_i n r hr
   have := (termF_ok hr).2;simp only [List.length_cons] at this h1 h2
   split
   ·rfl
   ·exact sumF_fuel k m _ r (by omega) (by omega)
def signF (l : List UInt8) : Bool × List UInt8 :=
 match l with
 | 45 :: r => (true, r)
 | 43 :: r => (false, r)
 | _ => (false, l)
def finF (neg : Bool) (r : Option Nat) : Option Int :=
 match r with
 | none => none
 | some d => if neg = true then some (if d = 9223372036854775808 then -9223372036854775808 else -(d : Int)) else if 9223372036854775807 < d then none else some (d : Int)
def durF (l : List UInt8) : Option Int :=
 if (signF l).2 = [48] then some 0 else if (signF l).2 = [] then none else finF (signF l).1 (sumF (signF l).2.length 0 (signF l).2)
end Go.Proofs.YtmecbmgfacpecaaGreatDoor.Dur
namespace Go.Proofs.YtmecbmgfacpecaaGreatDoor.Cron
open Go Go.RowKit Go.Proofs.YtmecbmgfacpecaaGreatDoor.Text Go.Proofs.YtmecbmgfacpecaaGreatDoorW.PrintWords Go.Proofs.YtmecbmgfacpecaaGreatDoorW.PrintLast Go.Proofs.YtmecbmgfacpecaaGreatDoorW.PrintMore Go.Proofs.YtmecbmgfacpecaaGreatDoor.Dur
def GE (w : World) : Prop := ∃ tp p, w.var? Tryz.prog "pub-timebook/pub/gotime.errLeadingInt" = some #[.iface tp p]
theorem gLead : Tryz.prog.globalNamed "pub-timebook/pub/gotime.errLeadingInt" = some 4 := by kernel_rfl
theorem GE.below {w w' : World} (h : GE w) (hb : Below w.heap.size w w') : GE w' := by
 obtain ⟨t, p, h1⟩ := h;exact ⟨t, p, var?_below hb gLead (lt_of_var gLead h1) h1⟩
theorem GE.cell {w : World} (h : GE w) : ∃ tp p, w.cell? ⟨4, 0, none⟩ = some (.iface tp p) := by
 obtain ⟨t, p, h1⟩ := h;exact ⟨t, p, by simpa using World.var?_cell gLead h1 0⟩
theorem str_at (l : List UInt8) (i : Nat) (hi : i < l.length) (w : World) : (Instr.index 9 (.string (ba l)) (.int .i64 (i : Nat))).run Tryz.prog w = .ok (.int .u8 (l[i].toNat : Nat)) w := by
 rw [run_index_string w 9 (ba l) .i64 i Tryz.underlying9];rw [dif_pos ⟨by omega, by rw [ba_size]; omega⟩];rfl
theorem str_from (l : List UInt8) (i : Nat) (hi : i ≤ l.length) (w : World) : (Instr.slice 9 (.string (ba l)) (some (.int .i64 (i : Nat))) none none).run Tryz.prog w = .ok (.string (ba (l.drop i))) w := by
 have e : (ba l).extract i (ba l).size = ba (l.drop i) := by rw [extract_ba, ba_list, ba_size, List.take_length]
 have hs := ba_size l;have h1 : (i : Int) ≤ ((ba l).size : Nat) := by omega
 rw [← e];simp [Instr.slice, Instr.sliceBounds, Instr.sliceBound, asIntOf, run_underlying Tryz.underlying9];intro h;omega
theorem str_to (l : List UInt8) (i : Nat) (hi : i ≤ l.length) (w : World) : (Instr.slice 9 (.string (ba l)) none (some (.int .i64 (i : Nat))) none).run Tryz.prog w = .ok (.string (ba (l.take i))) w := by
 have e : (ba l).extract 0 i = ba (l.take i) := by rw [extract_ba, ba_list, List.drop_zero]
 have hs := ba_size l;rw [← e];simp [Instr.slice, Instr.sliceBounds, Instr.sliceBound, asIntOf, run_underlying Tryz.underlying9];intro h;omega
def LeadAns (r : Option (Nat × List UInt8)) (e : Ending) : Prop := match r with
 | some (v, r) => e = .returned (.tuple #[.int .u64 (v : Nat), .string (ba r), .nilIface])
 | none => ∃ t x, e = .returned (.tuple #[.int .u64 0, .string ⟨#[]⟩, .iface t x])
set_option maxRecDepth 100000 in
set_option maxHeartbeats 8000000 in
theorem leadInt_any (l : List UInt8) (hl : l.length ≤ 4294967296) (w : World) (hg : GE w) :
  Calls Tryz.prog 175 #[.string (ba l)] w fun e w' => LeadAns (leadI 0 l) e ∧ Below w.heap.size w w' := by
 obtain ⟨tp, pp, hcell⟩ := hg.cell;have hsz := ba_size l;go_enter Tryz.func175, Tryz.ntmps175;go_wp2_with fail
 go_loopw [2, 3, 5] (fun v2 v3 v5 wr => ∃ (x i : Nat), v2 = .int .u64 x ∧ v3 = .string ⟨#[]⟩ ∧ v5 = .int .i64 i ∧ i ≤ l.length ∧ x ≤ 9223372036854775808 ∧ Hid (leadI 0 l = leadI x (l.drop i)) ∧ wr = w) (fun _ _ v5 _ => l.length - (intOf v5).toNat)
 case atStart => exact ⟨0, 0, rfl, rfl, rfl, by omega, by omega, Lib.hid rfl, rfl⟩
 case round =>
  obtain ⟨x, i, rfl, rfl, rfl, hi, hx, HL, hwr⟩ := hrel;have hwr' := hwr.symm;clear hwr;subst hwr';have hfrom := str_from l i hi;by_cases hil : i < l.length
  ·have hd : decide ((i : Int) < (ba l).size) = true := decide_eq_true (by rw [hsz]; omega);have hidx := str_at l i hil;have hdrop := List.drop_eq_getElem_cons hil;obtain ⟨c, hc⟩ : ∃ c, c = l[i] := ⟨_, rfl⟩
   rw [← hc] at hidx hdrop
   have HDR := Lib.hid hdrop;have hc256 : c.toNat < 256 := c.toNat_lt;clear hdrop hc;by_cases hlo : c.toNat < 48
   ·have h1 : decide ((c.toNat : Int) < 48) = true := decide_eq_true (by omega);have HND : Hid (isD c = false) := Lib.hid (by unfold isD; rw [decide_eq_false (by omega : ¬ 48 ≤ c.toNat)]; rfl);go_upto_region 11 with fail
    refine start_ (n := 7) (S := fun w' => Below w.heap.size w w') (ds := []) #[nn, nn, nn, nn, nn, nn, nn] (by kernel_rfl) rfl rfl ((Below.refl _ _).drew) (fun hHeld => ?_);refine pure_ (i := 0) (N := some 36) (v := ?_) (a' := ?_) #[yy, nn, nn, nn, nn, nn, nn] rfl rfl (by kernel_rfl) (fun _ _ _ h => h) (Or.inl ⟨by rfl, ?_⟩) ?_ ?_;rotate_left
    ·intro w';go_simp;with_reducible rfl
    rotate_left
    ·simp only [nrm];rfl
    refine pure_ (i := 1) (N := some 37) (v := ?_) (a' := ?_) #[yy, yy, nn, nn, nn, nn, nn] rfl rfl (by kernel_rfl) (fun _ _ _ h => h) (Or.inl ⟨by rfl, ?_⟩) ?_ ?_;rotate_left
    ·intro w';go_simp;with_reducible rfl
    rotate_left
    ·simp only [nrm];rfl
    refine pure_ (i := 2) (N := some 38) (v := ?_) (a' := ?_) #[yy, yy, yy, nn, nn, nn, nn] rfl rfl (by kernel_rfl) (fun _ _ _ h => h) (Or.inl ⟨by rfl, ?_⟩) ?_ ?_;rotate_left
    ·intro w';go_simp;with_reducible rfl
    rotate_left
    ·simp only [nrm];rfl
    refine pure_ (i := 3) (N := some 39) (v := ?_) (a' := ?_) #[yy, yy, yy, yy, nn, nn, nn] rfl rfl (by kernel_rfl) (fun _ _ _ h => h) (Or.inl ⟨by rfl, ?_⟩) ?_ ?_;rotate_left
    ·intro w';go_simp;with_reducible rfl
    rotate_left
    ·simp only [nrm];rfl
    refine pure_ (i := 4) (N := some 2) (v := ?_) (a' := ?_) #[yy, yy, yy, yy, yy, nn, nn] rfl rfl (by kernel_rfl) (fun _ _ _ h => h) (Or.inl ⟨by rfl, ?_⟩) ?_ ?_;rotate_left
    ·intro w';go_simp;with_reducible rfl
    rotate_left
    ·simp only [nrm];rfl
    refine pure_ (i := 5) (N := some 3) (v := ?_) (a' := ?_) #[yy, yy, yy, yy, yy, yy, nn] rfl rfl (by kernel_rfl) (fun _ _ _ h => h) (Or.inl ⟨by rfl, ?_⟩) ?_ ?_;rotate_left
    ·intro w';go_simp;with_reducible rfl
    rotate_left
    ·simp only [nrm];rfl
    refine pure_ (i := 6) (N := some 4) (v := ?_) (a' := ?_) #[yy, yy, yy, yy, yy, yy, yy] rfl rfl (by kernel_rfl) (fun _ _ _ h => h) (Or.inl ⟨by rfl, ?_⟩) ?_ ?_;rotate_left
    ·intro w';go_simp;with_reducible rfl
    rotate_left
    ·simp only [nrm];rfl
    refine done_ (by kernel_rfl) ?_;go_wp2_with fail
    have hb := hHeld;refine bodyPost_ret (v := .tuple #[.int .u64 (x : Nat), .string (ba (l.drop i)), .nilIface]) (by simp [results, Tryz.results175, go_sem]) rfl ⟨?_, hb⟩;rw [HL.out, HDR.out, leadI, if_neg (by rw [HND.out]; simp)];exact rfl
   ·have h1 : decide ((c.toNat : Int) < 48) = false := decide_eq_false (by omega);by_cases hhi : 57 < c.toNat
    ·have h2 : decide ((c.toNat : Int) > 57) = true := decide_eq_true (by omega);have HND : Hid (isD c = false) := Lib.hid (by unfold isD; rw [decide_eq_false (by omega : ¬ c.toNat ≤ 57), Bool.and_false]);go_upto_region 11 with fail
     refine start_ (n := 7) (S := fun w' => Below w.heap.size w w') (ds := []) #[nn, nn, nn, nn, nn, nn, nn] (by kernel_rfl) rfl rfl ((Below.refl _ _).drew) (fun hHeld => ?_);refine pure_ (i := 0) (N := some 36) (v := ?_) (a' := ?_) #[yy, nn, nn, nn, nn, nn, nn] rfl rfl (by kernel_rfl) (fun _ _ _ h => h) (Or.inl ⟨by rfl, ?_⟩) ?_ ?_;rotate_left
     ·intro w';go_simp;with_reducible rfl
     rotate_left
     ·simp only [nrm];rfl
     refine pure_ (i := 1) (N := some 37) (v := ?_) (a' := ?_) #[yy, yy, nn, nn, nn, nn, nn] rfl rfl (by kernel_rfl) (fun _ _ _ h => h) (Or.inl ⟨by rfl, ?_⟩) ?_ ?_;rotate_left
     ·intro w';go_simp;with_reducible rfl
     rotate_left
     ·simp only [nrm];rfl
     refine pure_ (i := 2) (N := some 38) (v := ?_) (a' := ?_) #[yy, yy, yy, nn, nn, nn, nn] rfl rfl (by kernel_rfl) (fun _ _ _ h => h) (Or.inl ⟨by rfl, ?_⟩) ?_ ?_;rotate_left
     ·intro w';go_simp;with_reducible rfl
     rotate_left
     ·simp only [nrm];rfl
     refine pure_ (i := 3) (N := some 39) (v := ?_) (a' := ?_) #[yy, yy, yy, yy, nn, nn, nn] rfl rfl (by kernel_rfl) (fun _ _ _ h => h) (Or.inl ⟨by rfl, ?_⟩) ?_ ?_;rotate_left
     ·intro w';go_simp;with_reducible rfl
     rotate_left
     ·simp only [nrm];rfl
     refine pure_ (i := 4) (N := some 2) (v := ?_) (a' := ?_) #[yy, yy, yy, yy, yy, nn, nn] rfl rfl (by kernel_rfl) (fun _ _ _ h => h) (Or.inl ⟨by rfl, ?_⟩) ?_ ?_;rotate_left
     ·intro w';go_simp;with_reducible rfl
     rotate_left
     ·simp only [nrm];rfl
     refine pure_ (i := 5) (N := some 3) (v := ?_) (a' := ?_) #[yy, yy, yy, yy, yy, yy, nn] rfl rfl (by kernel_rfl) (fun _ _ _ h => h) (Or.inl ⟨by rfl, ?_⟩) ?_ ?_;rotate_left
     ·intro w';go_simp;with_reducible rfl
     rotate_left
     ·simp only [nrm];rfl
     refine pure_ (i := 6) (N := some 4) (v := ?_) (a' := ?_) #[yy, yy, yy, yy, yy, yy, yy] rfl rfl (by kernel_rfl) (fun _ _ _ h => h) (Or.inl ⟨by rfl, ?_⟩) ?_ ?_;rotate_left
     ·intro w';go_simp;with_reducible rfl
     rotate_left
     ·simp only [nrm];rfl
     refine done_ (by kernel_rfl) ?_;go_wp2_with fail
     have hb := hHeld;refine bodyPost_ret (v := .tuple #[.int .u64 (x : Nat), .string (ba (l.drop i)), .nilIface]) (by simp [results, Tryz.results175, go_sem]) rfl ⟨?_, hb⟩;rw [HL.out, HDR.out, leadI, if_neg (by rw [HND.out]; simp)];exact rfl
    ·have h2 : decide ((c.toNat : Int) > 57) = false := decide_eq_false (by omega);have HD : Hid (isD c = true) := Lib.hid (isD_iff.2 ⟨by omega, by omega⟩);by_cases hov : 922337203685477580 < x
     ·have h3 : decide ((x : Int) > 922337203685477580) = true := decide_eq_true (by omega);go_upto_region 7 with fail
      have hcell0 := hcell;refine start_ (n := 5) (S := fun w' => w'.cell? ⟨4, 0, none⟩ = some (.iface tp pp) ∧ Below w.heap.size w w') (ds := []) #[nn, nn, nn, nn, nn] (by kernel_rfl) rfl rfl ⟨hcell0, (Below.refl _ _).drew⟩ (fun hHeld => ?_);refine pure_ (i := 0) (N := some 24) (v := ?_) (a' := ?_) #[yy, nn, nn, nn, nn] rfl rfl (by kernel_rfl) (fun _ _ _ h => h) (Or.inl ⟨by rfl, ?_⟩) ?_ ?_;rotate_left
      ·intro w';go_simp;with_reducible rfl
      rotate_left
      ·simp only [nrm];rfl
      refine pure_ (i := 2) (N := some 2) (v := ?_) (a' := ?_) #[yy, nn, yy, nn, nn] rfl rfl (by kernel_rfl) (fun _ _ _ h => h) (Or.inl ⟨by rfl, ?_⟩) ?_ ?_;rotate_left
      ·intro w';go_simp;with_reducible rfl
      rotate_left
      ·simp only [nrm];rfl
      refine pure_ (i := 3) (N := some 3) (v := ?_) (a' := ?_) #[yy, nn, yy, yy, nn] rfl rfl (by kernel_rfl) (fun _ _ _ h => h) (Or.inl ⟨by rfl, ?_⟩) ?_ ?_;rotate_left
      ·intro w';go_simp;with_reducible rfl
      rotate_left
      ·simp only [nrm];rfl
      refine take_ (i := 1) (N := some 25) (v := ?_) (a' := ?_) #[yy, yy, yy, yy, nn] rfl rfl (by kernel_rfl) (fun _ _ _ h => h) (Or.inl ⟨by rfl, ?_⟩) hHeld ?_ ?_;rotate_left
      ·rintro w' ⟨s0, s1⟩;go_simp;with_reducible rfl
      rotate_left
      ·simp only [nrm];rfl
      refine pure_ (i := 4) (N := some 4) (v := ?_) (a' := ?_) #[yy, yy, yy, yy, yy] rfl rfl (by kernel_rfl) (fun _ _ _ h => h) (Or.inl ⟨by rfl, ?_⟩) ?_ ?_;rotate_left
      ·intro w';go_simp;with_reducible rfl
      rotate_left
      ·simp only [nrm];rfl
      refine done_ (by kernel_rfl) ?_;go_wp2_with fail
      have hb := hHeld.2;refine bodyPost_ret (v := .tuple #[.int .u64 0, .string ⟨#[]⟩, .iface tp pp]) (by simp [results, Tryz.results175, go_sem]) rfl ⟨?_, hb⟩;rw [HL.out, HDR.out, leadI, if_pos HD.out, if_pos hov];exact ⟨_, _, rfl⟩
     ·have h3 : decide ((x : Int) > 922337203685477580) = false := decide_eq_false (by omega);obtain ⟨dd, hdd⟩ : ∃ dd, dN c = dd := ⟨_, rfl⟩
      have hde : c.toNat = dd + 48 := by rw [← hdd]; unfold dN; omega
      have HDN := Lib.hid hdd;clear hdd;rw [hde] at hidx h1 h2
      by_cases hbig : 9223372036854775808 < x * 10 + dd
      ·have h4 : decide ((x : Int) * 10 + ((dd : Int) + 48) - 48 > 9223372036854775808) = true := decide_eq_true (by omega);go_upto_region 10 with fail
       have hcell0 := hcell;refine start_ (n := 5) (S := fun w' => w'.cell? ⟨4, 0, none⟩ = some (.iface tp pp) ∧ Below w.heap.size w w') (ds := []) #[nn, nn, nn, nn, nn] (by kernel_rfl) rfl rfl ⟨hcell0, (Below.refl _ _).drew⟩ (fun hHeld => ?_);refine pure_ (i := 0) (N := some 34) (v := ?_) (a' := ?_) #[yy, nn, nn, nn, nn] rfl rfl (by kernel_rfl) (fun _ _ _ h => h) (Or.inl ⟨by rfl, ?_⟩) ?_ ?_;rotate_left
       ·intro w';go_simp;with_reducible rfl
       rotate_left
       ·simp only [nrm];rfl
       refine pure_ (i := 2) (N := some 2) (v := ?_) (a' := ?_) #[yy, nn, yy, nn, nn] rfl rfl (by kernel_rfl) (fun _ _ _ h => h) (Or.inl ⟨by rfl, ?_⟩) ?_ ?_;rotate_left
       ·intro w';go_simp;with_reducible rfl
       rotate_left
       ·simp only [nrm];rfl
       refine pure_ (i := 3) (N := some 3) (v := ?_) (a' := ?_) #[yy, nn, yy, yy, nn] rfl rfl (by kernel_rfl) (fun _ _ _ h => h) (Or.inl ⟨by rfl, ?_⟩) ?_ ?_;rotate_left
       ·intro w';go_simp;with_reducible rfl
       rotate_left
       ·simp only [nrm];rfl
       refine take_ (i := 1) (N := some 35) (v := ?_) (a' := ?_) #[yy, yy, yy, yy, nn] rfl rfl (by kernel_rfl) (fun _ _ _ h => h) (Or.inl ⟨by rfl, ?_⟩) hHeld ?_ ?_;rotate_left
       ·rintro w' ⟨s0, s1⟩;go_simp;with_reducible rfl
       rotate_left
       ·simp only [nrm];rfl
       refine pure_ (i := 4) (N := some 4) (v := ?_) (a' := ?_) #[yy, yy, yy, yy, yy] rfl rfl (by kernel_rfl) (fun _ _ _ h => h) (Or.inl ⟨by rfl, ?_⟩) ?_ ?_;rotate_left
       ·intro w';go_simp;with_reducible rfl
       rotate_left
       ·simp only [nrm];rfl
       refine done_ (by kernel_rfl) ?_;go_wp2_with fail
       have hb := hHeld.2;refine bodyPost_ret (v := .tuple #[.int .u64 0, .string ⟨#[]⟩, .iface tp pp]) (by simp [results, Tryz.results175, go_sem]) rfl ⟨?_, hb⟩;rw [HL.out, HDR.out, leadI, if_pos HD.out, if_neg hov, HDN.out, if_pos hbig];exact ⟨_, _, rfl⟩
      ·have h4 : decide ((x : Int) * 10 + ((dd : Int) + 48) - 48 > 9223372036854775808) = false := decide_eq_false (by omega);go_wp2_with fail
       refine ⟨⟨x * 10 + dd, i + 1, by go_num, rfl, by go_num, by omega, by omega, Lib.hid (by rw [HL.out, HDR.out, leadI, if_pos HD.out, if_neg hov, HDN.out, if_neg hbig]), trivial⟩, by simp [intOf]; omega⟩
  ·have hd : decide ((i : Int) < (ba l).size) = false := decide_eq_false (by rw [hsz]; omega);go_upto_region 11 with fail
   refine start_ (n := 7) (S := fun w' => Below w.heap.size w w') (ds := []) #[nn, nn, nn, nn, nn, nn, nn] (by kernel_rfl) rfl rfl ((Below.refl _ _).drew) (fun hHeld => ?_);refine pure_ (i := 0) (N := some 36) (v := ?_) (a' := ?_) #[yy, nn, nn, nn, nn, nn, nn] rfl rfl (by kernel_rfl) (fun _ _ _ h => h) (Or.inl ⟨by rfl, ?_⟩) ?_ ?_;rotate_left
   ·intro w';go_simp;with_reducible rfl
   rotate_left
   ·simp only [nrm];rfl
   refine pure_ (i := 1) (N := some 37) (v := ?_) (a' := ?_) #[yy, yy, nn, nn, nn, nn, nn] rfl rfl (by kernel_rfl) (fun _ _ _ h => h) (Or.inl ⟨by rfl, ?_⟩) ?_ ?_;rotate_left
   ·intro w';go_simp;with_reducible rfl
   rotate_left
   ·simp only [nrm];rfl
   refine pure_ (i := 2) (N := some 38) (v := ?_) (a' := ?_) #[yy, yy, yy, nn, nn, nn, nn] rfl rfl (by kernel_rfl) (fun _ _ _ h => h) (Or.inl ⟨by rfl, ?_⟩) ?_ ?_;rotate_left
   ·intro w';go_simp;with_reducible rfl
   rotate_left
   ·simp only [nrm];rfl
   refine pure_ (i := 3) (N := some 39) (v := ?_) (a' := ?_) #[yy, yy, yy, yy, nn, nn, nn] rfl rfl (by kernel_rfl) (fun _ _ _ h => h) (Or.inl ⟨by rfl, ?_⟩) ?_ ?_;rotate_left
   ·intro w';go_simp;with_reducible rfl
   rotate_left
   ·simp only [nrm];rfl
   refine pure_ (i := 4) (N := some 2) (v := ?_) (a' := ?_) #[yy, yy, yy, yy, yy, nn, nn] rfl rfl (by kernel_rfl) (fun _ _ _ h => h) (Or.inl ⟨by rfl, ?_⟩) ?_ ?_;rotate_left
   ·intro w';go_simp;with_reducible rfl
   rotate_left
   ·simp only [nrm];rfl
   refine pure_ (i := 5) (N := some 3) (v := ?_) (a' := ?_) #[yy, yy, yy, yy, yy, yy, nn] rfl rfl (by kernel_rfl) (fun _ _ _ h => h) (Or.inl ⟨by rfl, ?_⟩) ?_ ?_;rotate_left
   ·intro w';go_simp;with_reducible rfl
   rotate_left
   ·simp only [nrm];rfl
   refine pure_ (i := 6) (N := some 4) (v := ?_) (a' := ?_) #[yy, yy, yy, yy, yy, yy, yy] rfl rfl (by kernel_rfl) (fun _ _ _ h => h) (Or.inl ⟨by rfl, ?_⟩) ?_ ?_;rotate_left
   ·intro w';go_simp;with_reducible rfl
   rotate_left
   ·simp only [nrm];rfl
   refine done_ (by kernel_rfl) ?_;go_wp2_with fail
   have hb := hHeld;refine bodyPost_ret (v := .tuple #[.int .u64 (x : Nat), .string (ba (l.drop i)), .nilIface]) (by simp [results, Tryz.results175, go_sem]) rfl ⟨?_, hb⟩;rw [HL.out, List.drop_eq_nil_of_le (show l.length ≤ i by omega), leadI];exact rfl
def FracAns (r : Nat × Nat × List UInt8) (e : Ending) : Prop := e = .returned (.tuple #[.int .u64 (r.1 : Nat), .float .f64 r.2.1, .string (ba r.2.2)])
set_option maxRecDepth 100000 in
set_option maxHeartbeats 8000000 in
theorem leadFrac_any (l : List UInt8) (hl : l.length ≤ 4294967296) (w : World) :
  Calls Tryz.prog 176 #[.string (ba l)] w fun e w' => FracAns (leadF 0 one64 false l) e ∧ Below w.heap.size w w' := by
 have hsz := ba_size l;go_enter Tryz.func176, Tryz.ntmps176;go_wp2_with fail
 go_loopw [2, 3, 5, 6] (fun v2 v3 v5 v6 wr => ∃ (x s i : Nat) (ov : Bool), v2 = .int .u64 x ∧ v3 = .float .f64 s ∧ v5 = .int .i64 i ∧ v6 = .bool ov ∧ i ≤ l.length ∧ x ≤ 9223372036854775808 ∧ Hid (Scaled x s) ∧ Hid (leadF 0 one64 false l = leadF x s ov (l.drop i)) ∧ wr = w) (fun _ _ v5 _ _ => l.length - (intOf v5).toNat)
 case atStart => exact ⟨0, one64, 0, false, rfl, rfl, rfl, rfl, by omega, by omega, Lib.hid scaled_one, Lib.hid rfl, rfl⟩
 case round =>
  obtain ⟨x, s, i, ov, rfl, rfl, rfl, rfl, hi, hx, HSC, HL, hwr⟩ := hrel;have hwr' := hwr.symm;clear hwr;subst hwr';have hfrom := str_from l i hi;by_cases hil : i < l.length
  ·have hd : decide ((i : Int) < (ba l).size) = true := decide_eq_true (by rw [hsz]; omega);have hidx := str_at l i hil;have hdrop := List.drop_eq_getElem_cons hil;obtain ⟨c, hc⟩ : ∃ c, c = l[i] := ⟨_, rfl⟩
   rw [← hc] at hidx hdrop
   have HDR := Lib.hid hdrop;have hc256 : c.toNat < 256 := c.toNat_lt;clear hdrop hc;by_cases hlo : c.toNat < 48
   ·have h1 : decide ((c.toNat : Int) < 48) = true := decide_eq_true (by omega);have HND : Hid (isD c = false) := Lib.hid (by unfold isD; rw [decide_eq_false (by omega : ¬ 48 ≤ c.toNat)]; rfl);go_upto_region 16 with fail
    refine start_ (n := 8) (S := fun w' => Below w.heap.size w w') (ds := []) #[nn, nn, nn, nn, nn, nn, nn, nn] (by kernel_rfl) rfl rfl ((Below.refl _ _).drew) (fun hHeld => ?_);refine pure_ (i := 0) (N := some 38) (v := ?_) (a' := ?_) #[yy, nn, nn, nn, nn, nn, nn, nn] rfl rfl (by kernel_rfl) (fun _ _ _ h => h) (Or.inl ⟨by rfl, ?_⟩) ?_ ?_;rotate_left
    ·intro w';go_simp;with_reducible rfl
    rotate_left
    ·simp only [nrm];rfl
    refine pure_ (i := 1) (N := some 39) (v := ?_) (a' := ?_) #[yy, yy, nn, nn, nn, nn, nn, nn] rfl rfl (by kernel_rfl) (fun _ _ _ h => h) (Or.inl ⟨by rfl, ?_⟩) ?_ ?_;rotate_left
    ·intro w';go_simp;with_reducible rfl
    rotate_left
    ·simp only [nrm];rfl
    refine pure_ (i := 2) (N := some 40) (v := ?_) (a' := ?_) #[yy, yy, yy, nn, nn, nn, nn, nn] rfl rfl (by kernel_rfl) (fun _ _ _ h => h) (Or.inl ⟨by rfl, ?_⟩) ?_ ?_;rotate_left
    ·intro w';go_simp;with_reducible rfl
    rotate_left
    ·simp only [nrm];rfl
    refine pure_ (i := 3) (N := some 41) (v := ?_) (a' := ?_) #[yy, yy, yy, yy, nn, nn, nn, nn] rfl rfl (by kernel_rfl) (fun _ _ _ h => h) (Or.inl ⟨by rfl, ?_⟩) ?_ ?_;rotate_left
    ·intro w';go_simp;with_reducible rfl
    rotate_left
    ·simp only [nrm];rfl
    refine pure_ (i := 4) (N := some 42) (v := ?_) (a' := ?_) #[yy, yy, yy, yy, yy, nn, nn, nn] rfl rfl (by kernel_rfl) (fun _ _ _ h => h) (Or.inl ⟨by rfl, ?_⟩) ?_ ?_;rotate_left
    ·intro w';go_simp;with_reducible rfl
    rotate_left
    ·simp only [nrm];rfl
    refine pure_ (i := 5) (N := some 2) (v := ?_) (a' := ?_) #[yy, yy, yy, yy, yy, yy, nn, nn] rfl rfl (by kernel_rfl) (fun _ _ _ h => h) (Or.inl ⟨by rfl, ?_⟩) ?_ ?_;rotate_left
    ·intro w';go_simp;with_reducible rfl
    rotate_left
    ·simp only [nrm];rfl
    refine pure_ (i := 6) (N := some 3) (v := ?_) (a' := ?_) #[yy, yy, yy, yy, yy, yy, yy, nn] rfl rfl (by kernel_rfl) (fun _ _ _ h => h) (Or.inl ⟨by rfl, ?_⟩) ?_ ?_;rotate_left
    ·intro w';go_simp;with_reducible rfl
    rotate_left
    ·simp only [nrm];rfl
    refine pure_ (i := 7) (N := some 4) (v := ?_) (a' := ?_) #[yy, yy, yy, yy, yy, yy, yy, yy] rfl rfl (by kernel_rfl) (fun _ _ _ h => h) (Or.inl ⟨by rfl, ?_⟩) ?_ ?_;rotate_left
    ·intro w';go_simp;with_reducible rfl
    rotate_left
    ·simp only [nrm];rfl
    refine done_ (by kernel_rfl) ?_;go_wp2_with fail
    have hb := hHeld;refine bodyPost_ret (v := .tuple #[.int .u64 (x : Nat), .float .f64 s, .string (ba (l.drop i))]) (by simp [results, Tryz.results176, go_sem]) rfl ⟨?_, hb⟩;unfold FracAns;rw [HL.out, HDR.out, leadF, if_neg (by rw [HND.out]; simp)]
   ·have h1 : decide ((c.toNat : Int) < 48) = false := decide_eq_false (by omega);by_cases hhi : 57 < c.toNat
    ·have h2 : decide ((c.toNat : Int) > 57) = true := decide_eq_true (by omega);have HND : Hid (isD c = false) := Lib.hid (by unfold isD; rw [decide_eq_false (by omega : ¬ c.toNat ≤ 57), Bool.and_false]);go_upto_region 16 with fail
     refine start_ (n := 8) (S := fun w' => Below w.heap.size w w') (ds := []) #[nn, nn, nn, nn, nn, nn, nn, nn] (by kernel_rfl) rfl rfl ((Below.refl _ _).drew) (fun hHeld => ?_);refine pure_ (i := 0) (N := some 38) (v := ?_) (a' := ?_) #[yy, nn, nn, nn, nn, nn, nn, nn] rfl rfl (by kernel_rfl) (fun _ _ _ h => h) (Or.inl ⟨by rfl, ?_⟩) ?_ ?_;rotate_left
     ·intro w';go_simp;with_reducible rfl
     rotate_left
     ·simp only [nrm];rfl
     refine pure_ (i := 1) (N := some 39) (v := ?_) (a' := ?_) #[yy, yy, nn, nn, nn, nn, nn, nn] rfl rfl (by kernel_rfl) (fun _ _ _ h => h) (Or.inl ⟨by rfl, ?_⟩) ?_ ?_;rotate_left
     ·intro w';go_simp;with_reducible rfl
     rotate_left
     ·simp only [nrm];rfl
     refine pure_ (i := 2) (N := some 40) (v := ?_) (a' := ?_) #[yy, yy, yy, nn, nn, nn, nn, nn] rfl rfl (by kernel_rfl) (fun _ _ _ h => h) (Or.inl ⟨by rfl, ?_⟩) ?_ ?_;rotate_left
     ·intro w';go_simp;with_reducible rfl
     rotate_left
     ·simp only [nrm];rfl
     refine pure_ (i := 3) (N := some 41) (v := ?_) (a' := ?_) #[yy, yy, yy, yy, nn, nn, nn, nn] rfl rfl (by kernel_rfl) (fun _ _ _ h => h) (Or.inl ⟨by rfl, ?_⟩) ?_ ?_;rotate_left
     ·intro w';go_simp;with_reducible rfl
     rotate_left
     ·simp only [nrm];rfl
     refine pure_ (i := 4) (N := some 42) (v := ?_) (a' := ?_) #[yy, yy, yy, yy, yy, nn, nn, nn] rfl rfl (by kernel_rfl) (fun _ _ _ h => h) (Or.inl ⟨by rfl, ?_⟩) ?_ ?_;rotate_left
     ·intro w';go_simp;with_reducible rfl
     rotate_left
     ·simp only [nrm];rfl
     refine pure_ (i := 5) (N := some 2) (v := ?_) (a' := ?_) #[yy, yy, yy, yy, yy, yy, nn, nn] rfl rfl (by kernel_rfl) (fun _ _ _ h => h) (Or.inl ⟨by rfl, ?_⟩) ?_ ?_;rotate_left
     ·intro w';go_simp;with_reducible rfl
     rotate_left
     ·simp only [nrm];rfl
     refine pure_ (i := 6) (N := some 3) (v := ?_) (a' := ?_) #[yy, yy, yy, yy, yy, yy, yy, nn] rfl rfl (by kernel_rfl) (fun _ _ _ h => h) (Or.inl ⟨by rfl, ?_⟩) ?_ ?_;rotate_left
     ·intro w';go_simp;with_reducible rfl
     rotate_left
     ·simp only [nrm];rfl
     refine pure_ (i := 7) (N := some 4) (v := ?_) (a' := ?_) #[yy, yy, yy, yy, yy, yy, yy, yy] rfl rfl (by kernel_rfl) (fun _ _ _ h => h) (Or.inl ⟨by rfl, ?_⟩) ?_ ?_;rotate_left
     ·intro w';go_simp;with_reducible rfl
     rotate_left
     ·simp only [nrm];rfl
     refine done_ (by kernel_rfl) ?_;go_wp2_with fail
     have hb := hHeld;refine bodyPost_ret (v := .tuple #[.int .u64 (x : Nat), .float .f64 s, .string (ba (l.drop i))]) (by simp [results, Tryz.results176, go_sem]) rfl ⟨?_, hb⟩;unfold FracAns;rw [HL.out, HDR.out, leadF, if_neg (by rw [HND.out]; simp)]
    ·have h2 : decide ((c.toNat : Int) > 57) = false := decide_eq_false (by omega);have HD : Hid (isD c = true) := Lib.hid (isD_iff.2 ⟨by omega, by omega⟩);cases ov with
     | true =>
      go_wp2_with fail
      refine ⟨⟨x, s, i + 1, true, rfl, rfl, by go_num, rfl, by omega, hx, HSC, Lib.hid (by rw [HL.out, HDR.out, leadF, if_pos HD.out, if_pos rfl]), trivial⟩, by simp [intOf]; omega⟩
     | false =>
      by_cases hov : 922337203685477580 < x
      ·have h3 : decide ((x : Int) > 922337203685477580) = true := decide_eq_true (by omega);go_wp2_with fail
       refine ⟨⟨x, s, i + 1, true, rfl, rfl, by go_num, rfl, by omega, hx, HSC, Lib.hid (by rw [HL.out, HDR.out, leadF, if_pos HD.out, if_neg (by simp), if_pos hov]), trivial⟩, by simp [intOf]; omega⟩
      ·have h3 : decide ((x : Int) > 922337203685477580) = false := decide_eq_false (by omega);obtain ⟨dd, hdd⟩ : ∃ dd, dN c = dd := ⟨_, rfl⟩
       have hde : c.toNat = dd + 48 := by rw [← hdd]; unfold dN; omega
       have HDN := Lib.hid hdd;have hdd9 : dd ≤ 9 := by omega
       clear hdd;rw [hde] at hidx h1 h2
       by_cases hbig : 9223372036854775808 < x * 10 + dd
       ·have h4 : decide ((x : Int) * 10 + ((dd : Int) + 48) - 48 > 9223372036854775808) = true := decide_eq_true (by omega);go_wp2_with fail
        refine ⟨⟨x, s, i + 1, true, rfl, rfl, by go_num, rfl, by omega, hx, HSC, Lib.hid (by rw [HL.out, HDR.out, leadF, if_pos HD.out, if_neg (by simp), if_neg hov, HDN.out, if_pos hbig]), trivial⟩, by simp [intOf]; omega⟩
       ·have h4 : decide ((x : Int) * 10 + ((dd : Int) + 48) - 48 > 9223372036854775808) = false := decide_eq_false (by omega);obtain ⟨r, hr, hsc⟩ := HSC.out.ten hx;have hmt : mulTen s = r := by unfold mulTen; rw [hr]; rfl
        have hmul : ∀ w' : World, (binOp .mul 290 (.float .f64 s) (.float .f64 4621819117588971520)).run Tryz.prog w' = .ok (.float .f64 r) w' := fun w' => run_floatArith w' hr
        have HSN := Lib.hid (hsc dd hdd9);have HMT := Lib.hid hmt;clear hr hsc hmt;go_wp2_with fail
        refine ⟨⟨x * 10 + dd, r, i + 1, false, by go_num, rfl, by go_num, rfl, by omega, by omega, HSN, Lib.hid (by rw [HL.out, HDR.out, leadF, if_pos HD.out, if_neg (by simp), if_neg hov, HDN.out, if_neg hbig, HMT.out]), trivial⟩, by simp [intOf]; omega⟩
  ·have hd : decide ((i : Int) < (ba l).size) = false := decide_eq_false (by rw [hsz]; omega);go_upto_region 16 with fail
   refine start_ (n := 8) (S := fun w' => Below w.heap.size w w') (ds := []) #[nn, nn, nn, nn, nn, nn, nn, nn] (by kernel_rfl) rfl rfl ((Below.refl _ _).drew) (fun hHeld => ?_);refine pure_ (i := 0) (N := some 38) (v := ?_) (a' := ?_) #[yy, nn, nn, nn, nn, nn, nn, nn] rfl rfl (by kernel_rfl) (fun _ _ _ h => h) (Or.inl ⟨by rfl, ?_⟩) ?_ ?_;rotate_left
   ·intro w';go_simp;with_reducible rfl
   rotate_left
   ·simp only [nrm];rfl
   refine pure_ (i := 1) (N := some 39) (v := ?_) (a' := ?_) #[yy, yy, nn, nn, nn, nn, nn, nn] rfl rfl (by kernel_rfl) (fun _ _ _ h => h) (Or.inl ⟨by rfl, ?_⟩) ?_ ?_;rotate_left
   ·intro w';go_simp;with_reducible rfl
   rotate_left
   ·simp only [nrm];rfl
   refine pure_ (i := 2) (N := some 40) (v := ?_) (a' := ?_) #[yy, yy, yy, nn, nn, nn, nn, nn] rfl rfl (by kernel_rfl) (fun _ _ _ h => h) (Or.inl ⟨by rfl, ?_⟩) ?_ ?_;rotate_left
   ·intro w';go_simp;with_reducible rfl
   rotate_left
   ·simp only [nrm];rfl
   refine pure_ (i := 3) (N := some 41) (v := ?_) (a' := ?_) #[yy, yy, yy, yy, nn, nn, nn, nn] rfl rfl (by kernel_rfl) (fun _ _ _ h => h) (Or.inl ⟨by rfl, ?_⟩) ?_ ?_;rotate_left
   ·intro w';go_simp;with_reducible rfl
   rotate_left
   ·simp only [nrm];rfl
   refine pure_ (i := 4) (N := some 42) (v := ?_) (a' := ?_) #[yy, yy, yy, yy, yy, nn, nn, nn] rfl rfl (by kernel_rfl) (fun _ _ _ h => h) (Or.inl ⟨by rfl, ?_⟩) ?_ ?_;rotate_left
   ·intro w';go_simp;with_reducible rfl
   rotate_left
   ·simp only [nrm];rfl
   refine pure_ (i := 5) (N := some 2) (v := ?_) (a' := ?_) #[yy, yy, yy, yy, yy, yy, nn, nn] rfl rfl (by kernel_rfl) (fun _ _ _ h => h) (Or.inl ⟨by rfl, ?_⟩) ?_ ?_;rotate_left
   ·intro w';go_simp;with_reducible rfl
   rotate_left
   ·simp only [nrm];rfl
   refine pure_ (i := 6) (N := some 3) (v := ?_) (a' := ?_) #[yy, yy, yy, yy, yy, yy, yy, nn] rfl rfl (by kernel_rfl) (fun _ _ _ h => h) (Or.inl ⟨by rfl, ?_⟩) ?_ ?_;rotate_left
   ·intro w';go_simp;with_reducible rfl
   rotate_left
   ·simp only [nrm];rfl
   refine pure_ (i := 7) (N := some 4) (v := ?_) (a' := ?_) #[yy, yy, yy, yy, yy, yy, yy, yy] rfl rfl (by kernel_rfl) (fun _ _ _ h => h) (Or.inl ⟨by rfl, ?_⟩) ?_ ?_;rotate_left
   ·intro w';go_simp;with_reducible rfl
   rotate_left
   ·simp only [nrm];rfl
   refine done_ (by kernel_rfl) ?_;go_wp2_with fail
   have hb := hHeld;refine bodyPost_ret (v := .tuple #[.int .u64 (x : Nat), .float .f64 s, .string (ba (l.drop i))]) (by simp [results, Tryz.results176, go_sem]) rfl ⟨?_, hb⟩;unfold FracAns;rw [HL.out, List.drop_eq_nil_of_le (show l.length ≤ i by omega), leadF]
end Go.Proofs.YtmecbmgfacpecaaGreatDoor.Cron
namespace Go.Proofs.YtmecbmgfacpecaaGreatDoor.Cron
open Go Go.RowKit Go.Proofs.YtmecbmgfacpecaaGreatDoor.Text Go.Proofs.YtmecbmgfacpecaaGreatDoor.Bits Go.Proofs.YtmecbmgfacpecaaGreatDoor.Dur
theorem run_insert_unit (w : World) (r : Nat) (L : List (ByteArray × Int)) (k : ByteArray) (v : Int) (hM : MapAt w r L) (hne : findL k L 0 = none) :
  ∃ w', (Instr.mapUpdate 296 (.map (some r)) (.string k) (.int .u64 v)).run Tryz.prog w = .ok () w' ∧ MapAt w' r (L ++ [(k, v)]) ∧ Below r w w' := by
 have hM' : w.heap[r]? = some (.map (entsGo L 0).toArray L.length) := hM;refine ⟨{ w with heap := w.heap.setIfInBounds r (.map ((entsGo L 0).toArray.push ⟨.string k, .int .u64 v, L.length⟩) (L.length + 1)) }, ?_, ?_, ?_⟩
 ·have hfk := MapKept.run_findKey (P := Tryz.prog) (w := w) (kt := 9) (k := .string k) Tryz.underlying9 (findNow_ents k L 0 0);rw [hne] at hfk;have hck := MapKept.run_checkKey (P := Tryz.prog) (w := w) (kt := 9) (d := .string) (k := .string k) Tryz.underlying9 (by first | trivial | rfl | simp [MapKept.IsKey]) false 9999;simp [Instr.mapUpdate, Sem.run_bind, run_underlying Tryz.underlying296, MapKept.run_getObj_map hM', hck, hfk, MapKept.run_setObj_map _ hM', Result.andThen]
 ·unfold MapAt;rw [(MapKept.heap_set hM').1, ents_snoc];simp
 ·exact ⟨rfl, rfl, rfl, by simp, fun b hb => (MapKept.heap_set hM').2 b (by omega)⟩
section
variable {ops : Array Oper} {rest : List Oper} {o : Oper} {a : Act} {w : World} {Q : Exit → Act → World → Prop}
theorem wpList_insert_unit (hg : o.guard = none) (m x y : Operand) (ho : o.op = .insert 296 m x y) (r : Nat) (k : ByteArray) (v : Int) (hm : a.eval m = .map (some r)) (hx : a.eval x = .string k) (hy : a.eval y = .int .u64 v)
  (L : List (ByteArray × Int)) (hM : MapAt w r L) (hne : findL k L 0 = none)
  (h : ∀ w', MapAt w' r (L ++ [(k, v)]) → Below r w w' → wpList Tryz.prog ops Q rest (a.put o.dst undef) w') : wpList Tryz.prog ops Q (o :: rest) a w := by
 refine wpList_plain hg fun K hK => ?_
 obtain ⟨w', hr, hM', hb⟩ := run_insert_unit w r L k v hM hne;unfold Oper.wp execOp;simp only [ho, hm, hx, hy, hr, Sem.run_bind, Sem.run_pure, Result.andThen_ok];exact hK _ _ (h w' hM' hb)
end
theorem run_lookup_unit (w : World) (r : Nat) (L : List (ByteArray × Int)) (s : ByteArray) (hM : MapAt w r L) :
  (Instr.lookup 296 (.map (some r)) (.string s) true).run Tryz.prog w = .ok (.tuple #[.int .u64 ((lookL s L).getD 0), .bool (lookL s L).isSome]) w := by
 have hM' : w.heap[r]? = some (.map (entsGo L 0).toArray L.length) := hM;have hfk := MapKept.run_findKey (P := Tryz.prog) (w := w) (kt := 9) (k := .string s) Tryz.underlying9 (findNow_ents s L 0 0);have hck := fun em : Bool => MapKept.run_checkKey (P := Tryz.prog) (w := w) (kt := 9) (d := .string) (k := .string s) Tryz.underlying9 (by first | trivial | rfl | simp [MapKept.IsKey]) em 9999
 have hz : (zeroValue 24).run Tryz.prog w = .ok (.int .u64 0) w := Tryz.zeroValue24 w;rw [← look_find s L 0];cases hf : findL s L 0 with
 | none =>
  rw [hf] at hfk;simp [Instr.lookup, Sem.run_bind, run_underlying Tryz.underlying296, MapKept.run_getObj_map hM', hck, hfk, hz, Result.andThen]
 | some x =>
  rw [hf] at hfk;simp [Instr.lookup, Sem.run_bind, run_underlying Tryz.underlying296, MapKept.run_getObj_map hM', hck, hfk, Result.andThen]
theorem mapAt_first (w : World) : MapAt (w.alloc (.map #[] 0)) w.heap.size [] := heap_alloc_new w _
theorem run_makeMap_units (w : World) : (Instr.makeMap 296 none).run Tryz.prog w = .ok (.map (some w.heap.size)) (w.alloc (.map #[] 0)) := by rfl
def unitsL : List (ByteArray × Int) := [(⟨#[110, 115]⟩, 1), (⟨#[117, 115]⟩, 1000), (⟨#[194, 181, 115]⟩, 1000), (⟨#[206, 188, 115]⟩, 1000), (⟨#[109, 115]⟩, 1000000), (⟨#[115]⟩, 1000000000), (⟨#[109]⟩, 60000000000), (⟨#[104]⟩, 3600000000000)]
theorem unit_look (u : List UInt8) : lookL (ba u) unitsL = (unitN u).map fun n : Nat => (n : Int) := by
 by_cases h0 : u = [110, 115]
 ·subst h0; decide +kernel
 by_cases h1 : u = [117, 115]
 ·subst h1; decide +kernel
 by_cases h2 : u = [194, 181, 115]
 ·subst h2; decide +kernel
 by_cases h3 : u = [206, 188, 115]
 ·subst h3; decide +kernel
 by_cases h4 : u = [109, 115]
 ·subst h4; decide +kernel
 by_cases h5 : u = [115]
 ·subst h5; decide +kernel
 by_cases h6 : u = [109]
 ·subst h6; decide +kernel
 by_cases h7 : u = [104]
 ·subst h7; decide +kernel
 unfold unitN unitsL;rw [if_neg h0, if_neg h1, if_neg h2, if_neg h3, if_neg h4, if_neg h5, if_neg h6, if_neg h7];simp only [lookL];rw [if_neg (show ¬ ba u = (⟨#[110, 115]⟩ : ByteArray) from fun e => h0 (ba_inj (b := [110, 115]) e)), if_neg (show ¬ ba u = (⟨#[117, 115]⟩ : ByteArray) from fun e => h1 (ba_inj (b := [117, 115]) e)), if_neg (show ¬ ba u = (⟨#[194, 181, 115]⟩ : ByteArray) from fun e => h2 (ba_inj (b := [194, 181, 115]) e)), if_neg (show ¬ ba u = (⟨#[206, 188, 115]⟩ : ByteArray) from fun e => h3 (ba_inj (b := [206, 188, 115]) e)), if_neg (show ¬ ba u = (⟨#[109, 115]⟩ : ByteArray) from fun e => h4 (ba_inj (b := [109, 115]) e)), if_neg (show ¬ ba u = (⟨#[115]⟩ : ByteArray) from fun e => h5 (ba_inj (b := [115]) e)), if_neg (show ¬ ba u = (⟨#[109]⟩ : ByteArray) from fun e => h6 (ba_inj (b := [109]) e)), if_neg (show ¬ ba u = (⟨#[104]⟩ : ByteArray) from fun e => h7 (ba_inj (b := [104]) e))];rfl
set_option maxRecDepth 100000 in
set_option maxHeartbeats 1000000 in
theorem unitMap_any (w : World) : Calls Tryz.prog 177 #[] w fun e w' => ∃ r, e = .returned (.map (some r)) ∧ MapAt w' r unitsL ∧ Below w.heap.size w w' := by
 have hmk := run_makeMap_units;go_enter Tryz.func177, Tryz.ntmps177
 go_wp2_with (first
  | (refine wpList_insert_unit rfl _ _ _ rfl w.heap.size ⟨#[110, 115]⟩ 1 rfl rfl rfl [] (mapAt_first _) rfl ?_; intro w1 hM1 hb1)
  | (refine wpList_insert_unit rfl _ _ _ rfl w.heap.size ⟨#[117, 115]⟩ 1000 rfl rfl rfl [(⟨#[110, 115]⟩, 1)] hM1 rfl ?_; intro w2 hM2 hb2)
  | (refine wpList_insert_unit rfl _ _ _ rfl w.heap.size ⟨#[194, 181, 115]⟩ 1000 rfl rfl rfl [(⟨#[110, 115]⟩, 1), (⟨#[117, 115]⟩, 1000)] hM2 rfl ?_; intro w3 hM3 hb3)
  | (refine wpList_insert_unit rfl _ _ _ rfl w.heap.size ⟨#[206, 188, 115]⟩ 1000 rfl rfl rfl [(⟨#[110, 115]⟩, 1), (⟨#[117, 115]⟩, 1000), (⟨#[194, 181, 115]⟩, 1000)] hM3 rfl ?_; intro w4 hM4 hb4)
  | (refine wpList_insert_unit rfl _ _ _ rfl w.heap.size ⟨#[109, 115]⟩ 1000000 rfl rfl rfl [(⟨#[110, 115]⟩, 1), (⟨#[117, 115]⟩, 1000), (⟨#[194, 181, 115]⟩, 1000), (⟨#[206, 188, 115]⟩, 1000)] hM4 rfl ?_; intro w5 hM5 hb5)
  | (refine wpList_insert_unit rfl _ _ _ rfl w.heap.size ⟨#[115]⟩ 1000000000 rfl rfl rfl [(⟨#[110, 115]⟩, 1), (⟨#[117, 115]⟩, 1000), (⟨#[194, 181, 115]⟩, 1000), (⟨#[206, 188, 115]⟩, 1000), (⟨#[109, 115]⟩, 1000000)] hM5 rfl ?_; intro w6 hM6 hb6)
  | (refine wpList_insert_unit rfl _ _ _ rfl w.heap.size ⟨#[109]⟩ 60000000000 rfl rfl rfl [(⟨#[110, 115]⟩, 1), (⟨#[117, 115]⟩, 1000), (⟨#[194, 181, 115]⟩, 1000), (⟨#[206, 188, 115]⟩, 1000), (⟨#[109, 115]⟩, 1000000), (⟨#[115]⟩, 1000000000)] hM6 rfl ?_; intro w7 hM7 hb7)
  | (refine wpList_insert_unit rfl _ _ _ rfl w.heap.size ⟨#[104]⟩ 3600000000000 rfl rfl rfl [(⟨#[110, 115]⟩, 1), (⟨#[117, 115]⟩, 1000), (⟨#[194, 181, 115]⟩, 1000), (⟨#[206, 188, 115]⟩, 1000), (⟨#[109, 115]⟩, 1000000), (⟨#[115]⟩, 1000000000), (⟨#[109]⟩, 60000000000)] hM7 rfl ?_; intro w8 hM8 hb8))
 go_ret;exact ⟨w.heap.size, rfl, hM8, ((Below.refl _ _).alloc (Nat.le_refl _) _).trans (((((((hb1.trans hb2).trans hb3).trans hb4).trans hb5).trans hb6).trans hb7).trans hb8)⟩
end Go.Proofs.YtmecbmgfacpecaaGreatDoor.Cron
