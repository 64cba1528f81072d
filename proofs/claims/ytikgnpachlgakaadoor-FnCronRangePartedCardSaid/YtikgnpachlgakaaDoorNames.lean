/- The maps of names of months and of days of the week: what months and dow make, and what a lookup gives. -/
import Derived.Test.YtikgnpachlgakaaDoorFields
import Derived.MapKept
import Derived.Deep.DeepMust
namespace Go.Proofs.YtikgnpachlgakaaDoor.Cron
open Go Go.RowKit Go.Proofs.YtikgnpachlgakaaDoor.Text Go.Proofs.YtikgnpachlgakaaDoor.Bits
set_option linter.unusedVariables false

/-- the entries of a map that was filled with pairs, one after another -/
def entsGo : List (ByteArray × Int) → Nat → List MapEntry
  | [], _ => []
  | (k, v) :: t, i => ⟨.string k, .int .u64 v, i⟩ :: entsGo t (i + 1)

def MapAt (w : World) (r : Nat) (L : List (ByteArray × Int)) : Prop := w.heap[r]? = some (.map (entsGo L 0).toArray L.length)

def findL (s : ByteArray) : List (ByteArray × Int) → Nat → Option (Nat × Int)
  | [], _ => none
  | (k, v) :: t, i => if s = k then some (i, v) else findL s t (i + 1)

/-- the value that a name has in a list of names -/
def lookL (s : ByteArray) : List (ByteArray × Int) → Option Int
  | [] => none
  | (k, v) :: t => if s = k then some v else lookL s t

theorem look_find (s : ByteArray) : ∀ (L : List (ByteArray × Int)) (i : Nat), (findL s L i).map (·.2) = lookL s L
  | [], _ => rfl
  | (k, v) :: t, i => by
    unfold findL lookL
    by_cases h : s = k
    · rw [if_pos h, if_pos h]; rfl
    · rw [if_neg h, if_neg h]; exact look_find s t (i + 1)

theorem ba_beq (s k : ByteArray) : (s == k) = decide (s = k) := by
  obtain ⟨a⟩ := s
  obtain ⟨b⟩ := k
  have h1 : ((⟨a⟩ : ByteArray) == ⟨b⟩) = (a == b) := by first | rfl | kernel_rfl
  rw [h1, Bool.eq_iff_iff]
  simp

theorem findNow_ents (s : ByteArray) : ∀ (L : List (ByteArray × Int)) (i j : Nat), Instr.findNow .string (.string s) (entsGo L j) i = some ((findL s L i).map fun x => (x.1, Value.int .u64 x.2))
  | [], _, _ => rfl
  | (k, v) :: t, i, j => by
    unfold entsGo Instr.findNow findL
    by_cases h : s = k
    · subst h
      simp [Instr.sameNow, ba_beq]
    · have : (s == k) = false := by rw [ba_beq]; exact decide_eq_false h
      simp only [Instr.sameNow, this, if_neg h]
      exact findNow_ents s t (i + 1) (j + 1)

theorem ents_snoc : ∀ (L : List (ByteArray × Int)) (k : ByteArray) (v : Int) (i : Nat), entsGo (L ++ [(k, v)]) i = entsGo L i ++ [⟨.string k, .int .u64 v, i + L.length⟩]
  | [], k, v, i => rfl
  | (a, b) :: t, k, v, i => by
    simp only [List.cons_append, entsGo, List.length_cons]
    rw [ents_snoc t k v (i + 1)]
    simp only [Nat.add_assoc, Nat.add_comm 1]

theorem run_insert_name (w : World) (r : Nat) (L : List (ByteArray × Int)) (k : ByteArray) (v : Int) (hM : MapAt w r L) (hne : findL k L 0 = none) :
    ∃ w', (Instr.mapUpdate 85 (.map (some r)) (.string k) (.int .u64 v)).run Tryd.prog w = .ok () w' ∧ MapAt w' r (L ++ [(k, v)]) ∧ Below r w w' := by
  have hM' : w.heap[r]? = some (.map (entsGo L 0).toArray L.length) := hM
  refine ⟨{ w with heap := w.heap.setIfInBounds r (.map ((entsGo L 0).toArray.push ⟨.string k, .int .u64 v, L.length⟩) (L.length + 1)) }, ?_, ?_, ?_⟩
  · have hfk := MapKept.run_findKey (P := Tryd.prog) (w := w) (kt := 9) (k := .string k) Tryd.underlying9 (findNow_ents k L 0 0)
    rw [hne] at hfk
    have hck := MapKept.run_checkKey (P := Tryd.prog) (w := w) (kt := 9) (d := .string) (k := .string k) Tryd.underlying9 (by first | trivial | rfl | simp [MapKept.IsKey]) false 9999
    simp [Instr.mapUpdate, Sem.run_bind, run_underlying Tryd.underlying85, MapKept.run_getObj_map hM', hck, hfk, MapKept.run_setObj_map _ hM', Result.andThen]
  · unfold MapAt
    rw [(MapKept.heap_set hM').1, ents_snoc]
    simp
  · exact ⟨rfl, rfl, rfl, by simp, fun b hb => (MapKept.heap_set hM').2 b (by omega)⟩

section
variable {ops : Array Oper} {rest : List Oper} {o : Oper} {a : Act} {w : World} {Q : Exit → Act → World → Prop}
theorem wpList_insert_name (hg : o.guard = none) (m x y : Operand) (ho : o.op = .insert 85 m x y) (r : Nat) (k : ByteArray) (v : Int) (hm : a.eval m = .map (some r)) (hx : a.eval x = .string k) (hy : a.eval y = .int .u64 v)
    (L : List (ByteArray × Int)) (hM : MapAt w r L) (hne : findL k L 0 = none)
    (h : ∀ w', MapAt w' r (L ++ [(k, v)]) → Below r w w' → wpList Tryd.prog ops Q rest (a.put o.dst undef) w') : wpList Tryd.prog ops Q (o :: rest) a w := by
  refine wpList_plain hg fun K hK => ?_
  obtain ⟨w', hr, hM', hb⟩ := run_insert_name w r L k v hM hne
  unfold Oper.wp execOp
  simp only [ho, hm, hx, hy, hr, Sem.run_bind, Sem.run_pure, Result.andThen_ok]
  exact hK _ _ (h w' hM' hb)
end


theorem run_lookup_name (w : World) (r : Nat) (L : List (ByteArray × Int)) (s : ByteArray) (hM : MapAt w r L) :
    (Instr.lookup 85 (.map (some r)) (.string s) true).run Tryd.prog w = .ok (.tuple #[.int .u64 ((lookL s L).getD 0), .bool (lookL s L).isSome]) w := by
  have hM' : w.heap[r]? = some (.map (entsGo L 0).toArray L.length) := hM
  have hfk := MapKept.run_findKey (P := Tryd.prog) (w := w) (kt := 9) (k := .string s) Tryd.underlying9 (findNow_ents s L 0 0)
  have hck := fun em : Bool => MapKept.run_checkKey (P := Tryd.prog) (w := w) (kt := 9) (d := .string) (k := .string s) Tryd.underlying9 (by first | trivial | rfl | simp [MapKept.IsKey]) em 9999
  have hz : (zeroValue 25).run Tryd.prog w = .ok (.int .u64 0) w := Tryd.zeroValue25 w
  rw [← look_find s L 0]
  cases hf : findL s L 0 with
  | none =>
    rw [hf] at hfk
    simp [Instr.lookup, Sem.run_bind, run_underlying Tryd.underlying85, MapKept.run_getObj_map hM', hck, hfk, hz, Result.andThen]
  | some x =>
    rw [hf] at hfk
    simp [Instr.lookup, Sem.run_bind, run_underlying Tryd.underlying85, MapKept.run_getObj_map hM', hck, hfk, Result.andThen]

theorem row_kept {w w' : World} {cs : Array Value} {T : TypeId} {o : Obj} (h : Below (w.heap.size + 1) ((w.alloc (.cells cs T)).alloc o) w') : w'.heap[w.heap.size]? = some (.cells cs T (0, 0)) :=
  (h.block w.heap.size (by omega)).trans ((heap_alloc_old _ o (by simp)).trans (heap_alloc_new w _))

theorem run_makeMap_names (w : World) : (Instr.makeMap 85 none).run Tryd.prog w = .ok (.map (some w.heap.size)) (w.alloc (.map #[] 0)) := by rfl

theorem mapAt_new (w : World) (o : Obj) : MapAt ((w.alloc o).alloc (.map #[] 0)) (w.heap.size + 1) [] := by
  have := heap_alloc_new (w.alloc o) (.map #[] 0)
  rw [show (w.alloc o).heap.size = w.heap.size + 1 by simp] at this
  exact this

theorem MapAt.lt {w : World} {r : Nat} {L : List (ByteArray × Int)} (h : MapAt w r L) : r < w.heap.size := (Array.getElem?_eq_some_iff.1 h).1

theorem MapAt.below {w w' : World} {r : Nat} {L : List (ByteArray × Int)} (h : MapAt w r L) (hb : Below w.heap.size w w') : MapAt w' r L := (hb.block r h.lt).trans h

theorem MapAt.put {w : World} {r g i : Nat} {L : List (ByteArray × Int)} {v : Value} (h : MapAt w r L) (hg : r ≠ g) : MapAt (w.setCell ⟨g, i, none⟩ v) r L := by
  unfold MapAt
  rw [heap_setCell_other w ⟨g, i, none⟩ r v hg]
  exact h

def monthsL : List (ByteArray × Int) := [(⟨#[106, 97, 110]⟩, 1), (⟨#[102, 101, 98]⟩, 2), (⟨#[109, 97, 114]⟩, 3), (⟨#[97, 112, 114]⟩, 4), (⟨#[109, 97, 121]⟩, 5), (⟨#[106, 117, 110]⟩, 6), (⟨#[106, 117, 108]⟩, 7), (⟨#[97, 117, 103]⟩, 8), (⟨#[115, 101, 112]⟩, 9), (⟨#[111, 99, 116]⟩, 10), (⟨#[110, 111, 118]⟩, 11), (⟨#[100, 101, 99]⟩, 12)]

set_option maxRecDepth 100000 in
set_option maxHeartbeats 1000000 in
theorem months_any (w : World) : Calls Tryd.prog 71 #[] w fun e w' => ∃ r, e = .returned (.agg #[.int .u64 1, .int .u64 12, .map (some r)]) ∧ w.heap.size < r ∧ MapAt w' r monthsL ∧ Below w.heap.size w w' := by
  have hmk := run_makeMap_names
  go_enter Tryd.func71, Tryd.ntmps71
  go_wp2_with (first
    | (refine wpList_insert_name rfl _ _ _ rfl (w.heap.size + 1) ⟨#[106, 97, 110]⟩ 1 rfl rfl rfl [] (mapAt_new _ _) rfl ?_; intro w1 hM1 hb1)
    | (refine wpList_insert_name rfl _ _ _ rfl (w.heap.size + 1) ⟨#[102, 101, 98]⟩ 2 rfl rfl rfl [(⟨#[106, 97, 110]⟩, 1)] hM1 rfl ?_; intro w2 hM2 hb2)
    | (refine wpList_insert_name rfl _ _ _ rfl (w.heap.size + 1) ⟨#[109, 97, 114]⟩ 3 rfl rfl rfl [(⟨#[106, 97, 110]⟩, 1), (⟨#[102, 101, 98]⟩, 2)] hM2 rfl ?_; intro w3 hM3 hb3)
    | (refine wpList_insert_name rfl _ _ _ rfl (w.heap.size + 1) ⟨#[97, 112, 114]⟩ 4 rfl rfl rfl [(⟨#[106, 97, 110]⟩, 1), (⟨#[102, 101, 98]⟩, 2), (⟨#[109, 97, 114]⟩, 3)] hM3 rfl ?_; intro w4 hM4 hb4)
    | (refine wpList_insert_name rfl _ _ _ rfl (w.heap.size + 1) ⟨#[109, 97, 121]⟩ 5 rfl rfl rfl [(⟨#[106, 97, 110]⟩, 1), (⟨#[102, 101, 98]⟩, 2), (⟨#[109, 97, 114]⟩, 3), (⟨#[97, 112, 114]⟩, 4)] hM4 rfl ?_; intro w5 hM5 hb5)
    | (refine wpList_insert_name rfl _ _ _ rfl (w.heap.size + 1) ⟨#[106, 117, 110]⟩ 6 rfl rfl rfl [(⟨#[106, 97, 110]⟩, 1), (⟨#[102, 101, 98]⟩, 2), (⟨#[109, 97, 114]⟩, 3), (⟨#[97, 112, 114]⟩, 4), (⟨#[109, 97, 121]⟩, 5)] hM5 rfl ?_; intro w6 hM6 hb6)
    | (refine wpList_insert_name rfl _ _ _ rfl (w.heap.size + 1) ⟨#[106, 117, 108]⟩ 7 rfl rfl rfl [(⟨#[106, 97, 110]⟩, 1), (⟨#[102, 101, 98]⟩, 2), (⟨#[109, 97, 114]⟩, 3), (⟨#[97, 112, 114]⟩, 4), (⟨#[109, 97, 121]⟩, 5), (⟨#[106, 117, 110]⟩, 6)] hM6 rfl ?_; intro w7 hM7 hb7)
    | (refine wpList_insert_name rfl _ _ _ rfl (w.heap.size + 1) ⟨#[97, 117, 103]⟩ 8 rfl rfl rfl [(⟨#[106, 97, 110]⟩, 1), (⟨#[102, 101, 98]⟩, 2), (⟨#[109, 97, 114]⟩, 3), (⟨#[97, 112, 114]⟩, 4), (⟨#[109, 97, 121]⟩, 5), (⟨#[106, 117, 110]⟩, 6), (⟨#[106, 117, 108]⟩, 7)] hM7 rfl ?_; intro w8 hM8 hb8)
    | (refine wpList_insert_name rfl _ _ _ rfl (w.heap.size + 1) ⟨#[115, 101, 112]⟩ 9 rfl rfl rfl [(⟨#[106, 97, 110]⟩, 1), (⟨#[102, 101, 98]⟩, 2), (⟨#[109, 97, 114]⟩, 3), (⟨#[97, 112, 114]⟩, 4), (⟨#[109, 97, 121]⟩, 5), (⟨#[106, 117, 110]⟩, 6), (⟨#[106, 117, 108]⟩, 7), (⟨#[97, 117, 103]⟩, 8)] hM8 rfl ?_; intro w9 hM9 hb9)
    | (refine wpList_insert_name rfl _ _ _ rfl (w.heap.size + 1) ⟨#[111, 99, 116]⟩ 10 rfl rfl rfl [(⟨#[106, 97, 110]⟩, 1), (⟨#[102, 101, 98]⟩, 2), (⟨#[109, 97, 114]⟩, 3), (⟨#[97, 112, 114]⟩, 4), (⟨#[109, 97, 121]⟩, 5), (⟨#[106, 117, 110]⟩, 6), (⟨#[106, 117, 108]⟩, 7), (⟨#[97, 117, 103]⟩, 8), (⟨#[115, 101, 112]⟩, 9)] hM9 rfl ?_; intro w10 hM10 hb10)
    | (refine wpList_insert_name rfl _ _ _ rfl (w.heap.size + 1) ⟨#[110, 111, 118]⟩ 11 rfl rfl rfl [(⟨#[106, 97, 110]⟩, 1), (⟨#[102, 101, 98]⟩, 2), (⟨#[109, 97, 114]⟩, 3), (⟨#[97, 112, 114]⟩, 4), (⟨#[109, 97, 121]⟩, 5), (⟨#[106, 117, 110]⟩, 6), (⟨#[106, 117, 108]⟩, 7), (⟨#[97, 117, 103]⟩, 8), (⟨#[115, 101, 112]⟩, 9), (⟨#[111, 99, 116]⟩, 10)] hM10 rfl ?_; intro w11 hM11 hb11)
    | (refine wpList_insert_name rfl _ _ _ rfl (w.heap.size + 1) ⟨#[100, 101, 99]⟩ 12 rfl rfl rfl [(⟨#[106, 97, 110]⟩, 1), (⟨#[102, 101, 98]⟩, 2), (⟨#[109, 97, 114]⟩, 3), (⟨#[97, 112, 114]⟩, 4), (⟨#[109, 97, 121]⟩, 5), (⟨#[106, 117, 110]⟩, 6), (⟨#[106, 117, 108]⟩, 7), (⟨#[97, 117, 103]⟩, 8), (⟨#[115, 101, 112]⟩, 9), (⟨#[111, 99, 116]⟩, 10), (⟨#[110, 111, 118]⟩, 11)] hM11 rfl ?_; intro w12 hM12 hb12; go_must (have hrow := row_kept ((((((((((((hb1).trans hb2).trans hb3).trans hb4).trans hb5).trans hb6).trans hb7).trans hb8).trans hb9).trans hb10).trans hb11).trans hb12); have hc0 : _ = some _ := cell_of_row _ _ 0 _ _ _ hrow; have hc1 : _ = some _ := cell_of_row _ _ 1 _ _ _ hrow; have hc2 : _ = some _ := cell_of_row _ _ 2 _ _ _ hrow; have hf0 := frozen_of_row _ _ 0 _ _ hrow; have hf1 := frozen_of_row _ _ 1 _ _ hrow; have hf2 := frozen_of_row _ _ 2 _ _ hrow; have HROW := Lib.hid hrow; clear hrow)))
  have HB : Below w.heap.size w w12 := (((Below.refl _ _).alloc (Nat.le_refl _) _).alloc (by simp) _).trans (((((((((((((hb1.trans hb2).trans hb3).trans hb4).trans hb5).trans hb6).trans hb7).trans hb8).trans hb9).trans hb10).trans hb11).trans hb12)).mono (by omega))
  have HM : MapAt w12 (w.heap.size + 1) monthsL := hM12
  refine bodyPost_ret (v := .agg #[.int .u64 1, .int .u64 12, .map (some (w.heap.size + 1))]) ?_ rfl ?_
  · exact results_bounds (fn := Tryd.f71) (p := 0) rfl _ _ w.heap.size _ rfl (store3_row HROW.out) rfl
  exact ⟨_, rfl, by omega, ((HM.put (by omega)).put (by omega)).put (by omega), ((HB.setCell (Nat.le_refl _) _).setCell (Nat.le_refl _) _).setCell (Nat.le_refl _) _⟩

def dowL : List (ByteArray × Int) := [(⟨#[115, 117, 110]⟩, 0), (⟨#[109, 111, 110]⟩, 1), (⟨#[116, 117, 101]⟩, 2), (⟨#[119, 101, 100]⟩, 3), (⟨#[116, 104, 117]⟩, 4), (⟨#[102, 114, 105]⟩, 5), (⟨#[115, 97, 116]⟩, 6)]

set_option maxRecDepth 100000 in
set_option maxHeartbeats 1000000 in
theorem dow_any (w : World) : Calls Tryd.prog 72 #[] w fun e w' => ∃ r, e = .returned (.agg #[.int .u64 0, .int .u64 6, .map (some r)]) ∧ w.heap.size < r ∧ MapAt w' r dowL ∧ Below w.heap.size w w' := by
  have hmk := run_makeMap_names
  go_enter Tryd.func72, Tryd.ntmps72
  go_wp2_with (first
    | (refine wpList_insert_name rfl _ _ _ rfl (w.heap.size + 1) ⟨#[115, 117, 110]⟩ 0 rfl rfl rfl [] (mapAt_new _ _) rfl ?_; intro w1 hM1 hb1)
    | (refine wpList_insert_name rfl _ _ _ rfl (w.heap.size + 1) ⟨#[109, 111, 110]⟩ 1 rfl rfl rfl [(⟨#[115, 117, 110]⟩, 0)] hM1 rfl ?_; intro w2 hM2 hb2)
    | (refine wpList_insert_name rfl _ _ _ rfl (w.heap.size + 1) ⟨#[116, 117, 101]⟩ 2 rfl rfl rfl [(⟨#[115, 117, 110]⟩, 0), (⟨#[109, 111, 110]⟩, 1)] hM2 rfl ?_; intro w3 hM3 hb3)
    | (refine wpList_insert_name rfl _ _ _ rfl (w.heap.size + 1) ⟨#[119, 101, 100]⟩ 3 rfl rfl rfl [(⟨#[115, 117, 110]⟩, 0), (⟨#[109, 111, 110]⟩, 1), (⟨#[116, 117, 101]⟩, 2)] hM3 rfl ?_; intro w4 hM4 hb4)
    | (refine wpList_insert_name rfl _ _ _ rfl (w.heap.size + 1) ⟨#[116, 104, 117]⟩ 4 rfl rfl rfl [(⟨#[115, 117, 110]⟩, 0), (⟨#[109, 111, 110]⟩, 1), (⟨#[116, 117, 101]⟩, 2), (⟨#[119, 101, 100]⟩, 3)] hM4 rfl ?_; intro w5 hM5 hb5)
    | (refine wpList_insert_name rfl _ _ _ rfl (w.heap.size + 1) ⟨#[102, 114, 105]⟩ 5 rfl rfl rfl [(⟨#[115, 117, 110]⟩, 0), (⟨#[109, 111, 110]⟩, 1), (⟨#[116, 117, 101]⟩, 2), (⟨#[119, 101, 100]⟩, 3), (⟨#[116, 104, 117]⟩, 4)] hM5 rfl ?_; intro w6 hM6 hb6)
    | (refine wpList_insert_name rfl _ _ _ rfl (w.heap.size + 1) ⟨#[115, 97, 116]⟩ 6 rfl rfl rfl [(⟨#[115, 117, 110]⟩, 0), (⟨#[109, 111, 110]⟩, 1), (⟨#[116, 117, 101]⟩, 2), (⟨#[119, 101, 100]⟩, 3), (⟨#[116, 104, 117]⟩, 4), (⟨#[102, 114, 105]⟩, 5)] hM6 rfl ?_; intro w7 hM7 hb7; go_must (have hrow := row_kept (((((((hb1).trans hb2).trans hb3).trans hb4).trans hb5).trans hb6).trans hb7); have hc0 : _ = some _ := cell_of_row _ _ 0 _ _ _ hrow; have hc1 : _ = some _ := cell_of_row _ _ 1 _ _ _ hrow; have hc2 : _ = some _ := cell_of_row _ _ 2 _ _ _ hrow; have hf0 := frozen_of_row _ _ 0 _ _ hrow; have hf1 := frozen_of_row _ _ 1 _ _ hrow; have hf2 := frozen_of_row _ _ 2 _ _ hrow; have HROW := Lib.hid hrow; clear hrow)))
  have HB : Below w.heap.size w w7 := (((Below.refl _ _).alloc (Nat.le_refl _) _).alloc (by simp) _).trans ((((((((hb1.trans hb2).trans hb3).trans hb4).trans hb5).trans hb6).trans hb7)).mono (by omega))
  have HM : MapAt w7 (w.heap.size + 1) dowL := hM7
  refine bodyPost_ret (v := .agg #[.int .u64 0, .int .u64 6, .map (some (w.heap.size + 1))]) ?_ rfl ?_
  · exact results_bounds (fn := Tryd.f72) (p := 0) rfl _ _ w.heap.size _ rfl (store3_row HROW.out) rfl
  exact ⟨_, rfl, by omega, ((HM.put (by omega)).put (by omega)).put (by omega), ((HB.setCell (Nat.le_refl _) _).setCell (Nat.le_refl _) _).setCell (Nat.le_refl _) _⟩

theorem zzBounds_named (k : Nat) (hk : k = 4 ∨ k = 5) (w : World) : Calls Tryd.prog 52 #[.int .i64 k] w fun e w' => ∃ r, e = .returned (.agg #[.int .u64 (loK k : Nat), .int .u64 (hiK k : Nat), .map (some r)]) ∧ MapAt w' r (if k = 4 then monthsL else dowL) ∧ Below w.heap.size w w' := by
  rcases hk with rfl | rfl
  · have HC := Lib.hid (fun w' => months_any w')
    go_enter Tryd.func52, Tryd.ntmps52
    go_wp2_with fail
    refine (HC.out _).mono ?_
    rintro e w1 ⟨r, rfl, hr, hM, hb1⟩
    have hrow : w1.heap[w.heap.size]? = some (.cells #[.int .u64 0, .int .u64 0, .map none] 87 (0, 0)) := (hb1.block w.heap.size (by simp)).trans (heap_alloc_new w _)
    have hB := ((Below.refl w.heap.size w).alloc (Nat.le_refl _) (.cells #[.int .u64 0, .int .u64 0, .map none] 87)).trans (hb1.mono (by simp))
    have HROW := Lib.hid (store3_row (x := .int .u64 1) (y := .int .u64 12) (z := .map (some r)) hrow)
    have hc0 : w1.cell? ⟨w.heap.size, 0, none⟩ = some (.int .u64 0) := cell_of_row _ _ _ _ _ _ hrow
    have hc1 : w1.cell? ⟨w.heap.size, 1, none⟩ = some (.int .u64 0) := cell_of_row _ _ _ _ _ _ hrow
    have hc2 : w1.cell? ⟨w.heap.size, 2, none⟩ = some (.map none) := cell_of_row _ _ _ _ _ _ hrow
    have hf0 : w1.frozen? ⟨w.heap.size, 0, none⟩ = false := frozen_of_row _ _ _ _ _ hrow
    have hf1 : w1.frozen? ⟨w.heap.size, 1, none⟩ = false := frozen_of_row _ _ _ _ _ hrow
    have hf2 : w1.frozen? ⟨w.heap.size, 2, none⟩ = false := frozen_of_row _ _ _ _ _ hrow
    have hrne : r ≠ w.heap.size := by simp at hr; omega
    clear hrow hb1
    go_wp2
    refine bodyPost_ret (v := .agg #[.int .u64 1, .int .u64 12, .map (some r)]) ?_ rfl ?_
    · exact results_bounds (fn := Tryd.f52) (p := 2) rfl _ _ w.heap.size _ rfl HROW.out rfl
    exact ⟨r, rfl, ((hM.put hrne).put hrne).put hrne, ((hB.setCell (Nat.le_refl _) _).setCell (Nat.le_refl _) _).setCell (Nat.le_refl _) _⟩
  · have HC := Lib.hid (fun w' => dow_any w')
    go_enter Tryd.func52, Tryd.ntmps52
    go_wp2_with fail
    refine (HC.out _).mono ?_
    rintro e w1 ⟨r, rfl, hr, hM, hb1⟩
    have hrow : w1.heap[w.heap.size]? = some (.cells #[.int .u64 0, .int .u64 0, .map none] 87 (0, 0)) := (hb1.block w.heap.size (by simp)).trans (heap_alloc_new w _)
    have hB := ((Below.refl w.heap.size w).alloc (Nat.le_refl _) (.cells #[.int .u64 0, .int .u64 0, .map none] 87)).trans (hb1.mono (by simp))
    have HROW := Lib.hid (store3_row (x := .int .u64 0) (y := .int .u64 6) (z := .map (some r)) hrow)
    have hc0 : w1.cell? ⟨w.heap.size, 0, none⟩ = some (.int .u64 0) := cell_of_row _ _ _ _ _ _ hrow
    have hc1 : w1.cell? ⟨w.heap.size, 1, none⟩ = some (.int .u64 0) := cell_of_row _ _ _ _ _ _ hrow
    have hc2 : w1.cell? ⟨w.heap.size, 2, none⟩ = some (.map none) := cell_of_row _ _ _ _ _ _ hrow
    have hf0 : w1.frozen? ⟨w.heap.size, 0, none⟩ = false := frozen_of_row _ _ _ _ _ hrow
    have hf1 : w1.frozen? ⟨w.heap.size, 1, none⟩ = false := frozen_of_row _ _ _ _ _ hrow
    have hf2 : w1.frozen? ⟨w.heap.size, 2, none⟩ = false := frozen_of_row _ _ _ _ _ hrow
    have hrne : r ≠ w.heap.size := by simp at hr; omega
    clear hrow hb1
    go_wp2
    refine bodyPost_ret (v := .agg #[.int .u64 0, .int .u64 6, .map (some r)]) ?_ rfl ?_
    · exact results_bounds (fn := Tryd.f52) (p := 2) rfl _ _ w.heap.size _ rfl HROW.out rfl
    exact ⟨r, rfl, ((hM.put hrne).put hrne).put hrne, ((hB.setCell (Nat.le_refl _) _).setCell (Nat.le_refl _) _).setCell (Nat.le_refl _) _⟩

end Go.Proofs.YtikgnpachlgakaaDoor.Cron
