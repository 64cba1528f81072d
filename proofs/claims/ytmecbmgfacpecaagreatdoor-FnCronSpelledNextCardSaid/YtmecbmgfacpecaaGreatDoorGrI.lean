/- Lemmas and walks on the way to the law, merged by wip/tools/pack.py: Fields, Names, Lower, Values, SpecValue, RangeText. Conditions: none. -/
import Derived.Test.YtmecbmgfacpecaaGreatDoorGrH
import Derived.Test.YtmecbmgfacpecaaGreatDoorPrA
import Derived.MapKept
import Derived.Deep.DeepMust
import Derived.Test.YtmecbmgfacpecaaGreatDoorGrF
import Derived.Lib.OthersKept
import Derived.Lib.AppendStr
import Derived.Lib.TrimU
import Derived.Deep.LoopGhost
import Derived.Laws.IdiomStrings
import Derived.Laws.Cover4
import Derived.Laws.BytesString
import Derived.Shelf.Strings.FieldsFuncAny
import Derived.Test.YtmecbmgfacpecaaGreatDoorGrG
import Derived.Stop.FmtQuoteTie
namespace Go.Proofs.YtmecbmgfacpecaaGreatDoor.Cron
open Go Go.RowKit Go.Proofs.YtmecbmgfacpecaaGreatDoor.Text Go.Proofs.YtmecbmgfacpecaaGreatDoor.Bits Go.Proofs.YtmecbmgfacpecaaGreatDoorW.PrintWords Go.Proofs.YtmecbmgfacpecaaGreatDoorW.PrintLast Go.Proofs.YtmecbmgfacpecaaGreatDoorW.PrintMore Go.Proofs.YtmecbmgfacpecaaGreatDoor.Pr
set_option linter.unusedVariables false
def loK (k : Nat) : Nat := if k = 3 ∨ k = 4 then 1 else 0
def hiK (k : Nat) : Nat := if k = 2 then 23 else if k = 3 then 31 else if k = 4 then 12 else if k = 5 then 6 else 59
theorem loK_le (k : Nat) : loK k ≤ hiK k := by unfold loK hiK; split <;> (repeat' split) <;> omega
theorem hiK_le (k : Nat) : hiK k ≤ 62 := by unfold hiK; (repeat' split) <;> omega
theorem drawn_below {w w' : World} (h : Drawn0 w w') : Below w.heap.size w w' := by
 first
  | exact h
  | (obtain ⟨n, rfl⟩ := h; exact pw_below_drewN (Below.refl _ _) n)
theorem high_f (k : Nat) : spec_CronHigh.f k = some (hiK k : Nat) := by
 unfold spec_CronHigh.f hiK
 by_cases h2 : k = 2
 ·subst h2; rfl
 ·rw [if_neg (by omega), if_neg h2]
  by_cases h3 : k = 3
  ·subst h3; rfl
  ·rw [if_neg (by omega), if_neg h3]
   by_cases h4 : k = 4
   ·subst h4; rfl
   ·rw [if_neg (by omega), if_neg h4]
    by_cases h5 : k = 5
    ·subst h5; rfl
    ·rw [if_neg (by omega), if_neg h5]; rfl
theorem low_f (k : Nat) : spec_CronLow.f k = some (loK k : Nat) := by
 unfold spec_CronLow.f loK
 by_cases h3 : k = 3
 ·subst h3; rfl
 ·rw [if_neg (by omega)]
  by_cases h4 : k = 4
  ·subst h4; rfl
  ·rw [if_neg (by omega), if_neg (by omega)]; rfl
theorem sizeBounds : (Tryz.prog.info? 185).map (·.size) = some 3 := by kernel_rfl
theorem results_bounds {fn : Func} {p : Tmp} (h : fn.results = #[.cell p 185]) (tmps : Array Value) (w : World) (g : Nat) (cs : Array Value)
  (hp : tmps.getD p undef = .pointer (some ⟨g, 0, none⟩)) (hs : w.heap[g]? = some (.cells cs 185 (0, 0))) (hz : cs.size = 3) :
  (results fn tmps).run Tryz.prog w = .ok (.agg cs) w := by
 have hp' : tmps[p]?.getD undef = .pointer (some ⟨g, 0, none⟩) := by simpa using hp
 have hl : (loadVar 185 ⟨g, 0, none⟩).run Tryz.prog w = .ok (.agg cs) w := run_loadVar_row w g _ _ _ _ _ hs Tryz.underlying185 rfl (by rw [sizeBounds, hz])
 simp only [results, h]
 simp [asAddr, hp', hl]
theorem store3_row {w : World} {g : Nat} {a b c x y z : Value} {T : TypeId} (h : w.heap[g]? = some (.cells #[a, b, c] T (0, 0))) :
  (((w.setCell ⟨g, 0, none⟩ x).setCell ⟨g, 1, none⟩ y).setCell ⟨g, 2, none⟩ z).heap[g]? = some (.cells #[x, y, z] T (0, 0)) := by
 have h1 := heap_setCell_same w g 0 _ _ x h
 have h2 := heap_setCell_same _ g 1 _ _ y h1
 have h3 := heap_setCell_same _ g 2 _ _ z h2
 simpa using h3
theorem seconds_any (w : World) : Calls Tryz.prog 106 #[] w fun e w' => e = .returned (.agg #[.int .u64 0, .int .u64 59, .map none]) ∧ Below w.heap.size w w' := by
 go_enter Tryz.func106, Tryz.ntmps106
 go_wp2
 refine bodyPost_ret (v := .agg #[.int .u64 0, .int .u64 59, .map none]) ?_ rfl ?_
 ·exact results_bounds (fn := Tryz.f106) (p := 0) rfl _ _ w.heap.size _ rfl (heap_alloc_new w _) rfl
 exact ⟨rfl, (Below.refl _ _).alloc (Nat.le_refl _) _⟩
theorem minutes_any (w : World) : Calls Tryz.prog 107 #[] w fun e w' => e = .returned (.agg #[.int .u64 0, .int .u64 59, .map none]) ∧ Below w.heap.size w w' := by
 go_enter Tryz.func107, Tryz.ntmps107
 go_wp2
 refine bodyPost_ret (v := .agg #[.int .u64 0, .int .u64 59, .map none]) ?_ rfl ?_
 ·exact results_bounds (fn := Tryz.f107) (p := 0) rfl _ _ w.heap.size _ rfl (heap_alloc_new w _) rfl
 exact ⟨rfl, (Below.refl _ _).alloc (Nat.le_refl _) _⟩
theorem hours_any (w : World) : Calls Tryz.prog 108 #[] w fun e w' => e = .returned (.agg #[.int .u64 0, .int .u64 23, .map none]) ∧ Below w.heap.size w w' := by
 go_enter Tryz.func108, Tryz.ntmps108
 go_wp2
 refine bodyPost_ret (v := .agg #[.int .u64 0, .int .u64 23, .map none]) ?_ rfl ?_
 ·exact results_bounds (fn := Tryz.f108) (p := 0) rfl _ _ w.heap.size _ rfl (heap_alloc_new w _) rfl
 exact ⟨rfl, (Below.refl _ _).alloc (Nat.le_refl _) _⟩
theorem dom_any (w : World) : Calls Tryz.prog 109 #[] w fun e w' => e = .returned (.agg #[.int .u64 1, .int .u64 31, .map none]) ∧ Below w.heap.size w w' := by
 go_enter Tryz.func109, Tryz.ntmps109
 go_wp2
 refine bodyPost_ret (v := .agg #[.int .u64 1, .int .u64 31, .map none]) ?_ rfl ?_
 ·exact results_bounds (fn := Tryz.f109) (p := 0) rfl _ _ w.heap.size _ rfl (heap_alloc_new w _) rfl
 exact ⟨rfl, (Below.refl _ _).alloc (Nat.le_refl _) _⟩
end Go.Proofs.YtmecbmgfacpecaaGreatDoor.Cron
namespace Go.Proofs.YtmecbmgfacpecaaGreatDoor.Cron
open Go Go.RowKit Go.Proofs.YtmecbmgfacpecaaGreatDoor.Text Go.Proofs.YtmecbmgfacpecaaGreatDoor.Bits
set_option linter.unusedVariables false
def entsGo : List (ByteArray × Int) → Nat → List MapEntry
 | [], _ => []
 | (k, v) :: t, i => ⟨.string k, .int .u64 v, i⟩ :: entsGo t (i + 1)
def MapAt (w : World) (r : Nat) (L : List (ByteArray × Int)) : Prop := w.heap[r]? = some (.map (entsGo L 0).toArray L.length)
def findL (s : ByteArray) : List (ByteArray × Int) → Nat → Option (Nat × Int)
 | [], _ => none
 | (k, v) :: t, i => if s = k then some (i, v) else findL s t (i + 1)
def lookL (s : ByteArray) : List (ByteArray × Int) → Option Int
 | [] => none
 | (k, v) :: t => if s = k then some v else lookL s t
theorem look_find (s : ByteArray) : ∀ (L : List (ByteArray × Int)) (i : Nat), (findL s L i).map (·.2) = lookL s L
 | [], _ => rfl
 | (k, v) :: t, i => by
  unfold findL lookL
  by_cases h : s = k
  ·rw [if_pos h, if_pos h]; rfl
  ·rw [if_neg h, if_neg h]; exact look_find s t (i + 1)
theorem ba_beq (s k : ByteArray) : (s == k) = decide (s = k) := by
 obtain ⟨a⟩ := s
 obtain ⟨b⟩ := k
 have h1 : ((⟨a⟩ : ByteArray) == ⟨b⟩) = (a == b) := by first | rfl | kernel_rfl
 rw [h1, Bool.eq_iff_iff]
 simp
theorem findNow_ents (s : ByteArray) : ∀ (L : List (ByteArray × Int)) (i j : Nat), Instr.findNow .string (.string s) (entsGo L j) i = some ((findL s L i).map fun x => (x.1, Value.int .u64 x.2))
 | [], _, _ => rfl
 | (k, v) :: t, i, j => by
  unfold entsGo Instr.findNow findL
  by_cases h : s = k
  ·subst h
   simp [Instr.sameNow, ba_beq]
  ·have : (s == k) = false := by rw [ba_beq]; exact decide_eq_false h
   simp only [Instr.sameNow, this, if_neg h]
   exact findNow_ents s t (i + 1) (j + 1)
theorem ents_snoc : ∀ (L : List (ByteArray × Int)) (k : ByteArray) (v : Int) (i : Nat), entsGo (L ++ [(k, v)]) i = entsGo L i ++ [⟨.string k, .int .u64 v, i + L.length⟩]
 | [], k, v, i => rfl
 | (a, b) :: t, k, v, i => by
  simp only [List.cons_append, entsGo, List.length_cons]
  rw [ents_snoc t k v (i + 1)]
  simp only [Nat.add_assoc, Nat.add_comm 1]
theorem run_insert_name (w : World) (r : Nat) (L : List (ByteArray × Int)) (k : ByteArray) (v : Int) (hM : MapAt w r L) (hne : findL k L 0 = none) :
  ∃ w', (Instr.mapUpdate 183 (.map (some r)) (.string k) (.int .u64 v)).run Tryz.prog w = .ok () w' ∧ MapAt w' r (L ++ [(k, v)]) ∧ Below r w w' := by
 have hM' : w.heap[r]? = some (.map (entsGo L 0).toArray L.length) := hM
 refine ⟨{ w with heap := w.heap.setIfInBounds r (.map ((entsGo L 0).toArray.push ⟨.string k, .int .u64 v, L.length⟩) (L.length + 1)) }, ?_, ?_, ?_⟩
 ·have hfk := MapKept.run_findKey (P := Tryz.prog) (w := w) (kt := 9) (k := .string k) Tryz.underlying9 (findNow_ents k L 0 0)
  rw [hne] at hfk
  have hck := MapKept.run_checkKey (P := Tryz.prog) (w := w) (kt := 9) (d := .string) (k := .string k) Tryz.underlying9 (by first | trivial | rfl | simp [MapKept.IsKey]) false 9999
  simp [Instr.mapUpdate, Sem.run_bind, run_underlying Tryz.underlying183, MapKept.run_getObj_map hM', hck, hfk, MapKept.run_setObj_map _ hM', Result.andThen]
 ·unfold MapAt
  rw [(MapKept.heap_set hM').1, ents_snoc]
  simp
 ·exact ⟨rfl, rfl, rfl, by simp, fun b hb => (MapKept.heap_set hM').2 b (by omega)⟩
section
variable {ops : Array Oper} {rest : List Oper} {o : Oper} {a : Act} {w : World} {Q : Exit → Act → World → Prop}
theorem wpList_insert_name (hg : o.guard = none) (m x y : Operand) (ho : o.op = .insert 183 m x y) (r : Nat) (k : ByteArray) (v : Int) (hm : a.eval m = .map (some r)) (hx : a.eval x = .string k) (hy : a.eval y = .int .u64 v)
  (L : List (ByteArray × Int)) (hM : MapAt w r L) (hne : findL k L 0 = none)
  (h : ∀ w', MapAt w' r (L ++ [(k, v)]) → Below r w w' → wpList Tryz.prog ops Q rest (a.put o.dst undef) w') : wpList Tryz.prog ops Q (o :: rest) a w := by
 refine wpList_plain hg fun K hK => ?_
 obtain ⟨w', hr, hM', hb⟩ := run_insert_name w r L k v hM hne
 unfold Oper.wp execOp
 simp only [ho, hm, hx, hy, hr, Sem.run_bind, Sem.run_pure, Result.andThen_ok]
 exact hK _ _ (h w' hM' hb)
end
theorem run_lookup_name (w : World) (r : Nat) (L : List (ByteArray × Int)) (s : ByteArray) (hM : MapAt w r L) :
  (Instr.lookup 183 (.map (some r)) (.string s) true).run Tryz.prog w = .ok (.tuple #[.int .u64 ((lookL s L).getD 0), .bool (lookL s L).isSome]) w := by
 have hM' : w.heap[r]? = some (.map (entsGo L 0).toArray L.length) := hM
 have hfk := MapKept.run_findKey (P := Tryz.prog) (w := w) (kt := 9) (k := .string s) Tryz.underlying9 (findNow_ents s L 0 0)
 have hck := fun em : Bool => MapKept.run_checkKey (P := Tryz.prog) (w := w) (kt := 9) (d := .string) (k := .string s) Tryz.underlying9 (by first | trivial | rfl | simp [MapKept.IsKey]) em 9999
 have hz : (zeroValue 182).run Tryz.prog w = .ok (.int .u64 0) w := Tryz.zeroValue182 w
 rw [← look_find s L 0]
 cases hf : findL s L 0 with
 | none =>
  rw [hf] at hfk
  simp [Instr.lookup, Sem.run_bind, run_underlying Tryz.underlying183, MapKept.run_getObj_map hM', hck, hfk, hz, Result.andThen]
 | some x =>
  rw [hf] at hfk
  simp [Instr.lookup, Sem.run_bind, run_underlying Tryz.underlying183, MapKept.run_getObj_map hM', hck, hfk, Result.andThen]
theorem row_kept {w w' : World} {cs : Array Value} {T : TypeId} {o : Obj} (h : Below (w.heap.size + 1) ((w.alloc (.cells cs T)).alloc o) w') : w'.heap[w.heap.size]? = some (.cells cs T (0, 0)) :=
 (h.block w.heap.size (by omega)).trans ((heap_alloc_old _ o (by simp)).trans (heap_alloc_new w _))
theorem run_makeMap_names (w : World) : (Instr.makeMap 183 none).run Tryz.prog w = .ok (.map (some w.heap.size)) (w.alloc (.map #[] 0)) := by rfl
theorem mapAt_new (w : World) (o : Obj) : MapAt ((w.alloc o).alloc (.map #[] 0)) (w.heap.size + 1) [] := by
 have := heap_alloc_new (w.alloc o) (.map #[] 0)
 rw [show (w.alloc o).heap.size = w.heap.size + 1 by simp] at this
 exact this
theorem MapAt.lt {w : World} {r : Nat} {L : List (ByteArray × Int)} (h : MapAt w r L) : r < w.heap.size := (Array.getElem?_eq_some_iff.1 h).1
theorem MapAt.below {w w' : World} {r : Nat} {L : List (ByteArray × Int)} (h : MapAt w r L) (hb : Below w.heap.size w w') : MapAt w' r L := (hb.block r h.lt).trans h
theorem MapAt.put {w : World} {r g i : Nat} {L : List (ByteArray × Int)} {v : Value} (h : MapAt w r L) (hg : r ≠ g) : MapAt (w.setCell ⟨g, i, none⟩ v) r L := by
 unfold MapAt
 rw [heap_setCell_other w ⟨g, i, none⟩ r v hg]
 exact h
def monthsL : List (ByteArray × Int) := [(⟨#[106, 97, 110]⟩, 1), (⟨#[102, 101, 98]⟩, 2), (⟨#[109, 97, 114]⟩, 3), (⟨#[97, 112, 114]⟩, 4), (⟨#[109, 97, 121]⟩, 5), (⟨#[106, 117, 110]⟩, 6), (⟨#[106, 117, 108]⟩, 7), (⟨#[97, 117, 103]⟩, 8), (⟨#[115, 101, 112]⟩, 9), (⟨#[111, 99, 116]⟩, 10), (⟨#[110, 111, 118]⟩, 11), (⟨#[100, 101, 99]⟩, 12)]
set_option maxRecDepth 100000 in
set_option maxHeartbeats 1000000 in
theorem months_any (w : World) : Calls Tryz.prog 110 #[] w fun e w' => ∃ r, e = .returned (.agg #[.int .u64 1, .int .u64 12, .map (some r)]) ∧ w.heap.size < r ∧ MapAt w' r monthsL ∧ Below w.heap.size w w' := by
 have hmk := run_makeMap_names
 go_enter Tryz.func110, Tryz.ntmps110
 go_wp2_with (first
  | (refine wpList_insert_name rfl _ _ _ rfl (w.heap.size + 1) ⟨#[106, 97, 110]⟩ 1 rfl rfl rfl [] (mapAt_new _ _) rfl ?_; intro w1 hM1 hb1)
  | (refine wpList_insert_name rfl _ _ _ rfl (w.heap.size + 1) ⟨#[102, 101, 98]⟩ 2 rfl rfl rfl [(⟨#[106, 97, 110]⟩, 1)] hM1 rfl ?_; intro w2 hM2 hb2)
  | (refine wpList_insert_name rfl _ _ _ rfl (w.heap.size + 1) ⟨#[109, 97, 114]⟩ 3 rfl rfl rfl [(⟨#[106, 97, 110]⟩, 1), (⟨#[102, 101, 98]⟩, 2)] hM2 rfl ?_; intro w3 hM3 hb3)
  | (refine wpList_insert_name rfl _ _ _ rfl (w.heap.size + 1) ⟨#[97, 112, 114]⟩ 4 rfl rfl rfl [(⟨#[106, 97, 110]⟩, 1), (⟨#[102, 101, 98]⟩, 2), (⟨#[109, 97, 114]⟩, 3)] hM3 rfl ?_; intro w4 hM4 hb4)
  | (refine wpList_insert_name rfl _ _ _ rfl (w.heap.size + 1) ⟨#[109, 97, 121]⟩ 5 rfl rfl rfl [(⟨#[106, 97, 110]⟩, 1), (⟨#[102, 101, 98]⟩, 2), (⟨#[109, 97, 114]⟩, 3), (⟨#[97, 112, 114]⟩, 4)] hM4 rfl ?_; intro w5 hM5 hb5)
  | (refine wpList_insert_name rfl _ _ _ rfl (w.heap.size + 1) ⟨#[106, 117, 110]⟩ 6 rfl rfl rfl [(⟨#[106, 97, 110]⟩, 1), (⟨#[102, 101, 98]⟩, 2), (⟨#[109, 97, 114]⟩, 3), (⟨#[97, 112, 114]⟩, 4), (⟨#[109, 97, 121]⟩, 5)] hM5 rfl ?_; intro w6 hM6 hb6)
  | (refine wpList_insert_name rfl _ _ _ rfl (w.heap.size + 1) ⟨#[106, 117, 108]⟩ 7 rfl rfl rfl [(⟨#[106, 97, 110]⟩, 1), (⟨#[102, 101, 98]⟩, 2), (⟨#[109, 97, 114]⟩, 3), (⟨#[97, 112, 114]⟩, 4), (⟨#[109, 97, 121]⟩, 5), (⟨#[106, 117, 110]⟩, 6)] hM6 rfl ?_; intro w7 hM7 hb7)
  | (refine wpList_insert_name rfl _ _ _ rfl (w.heap.size + 1) ⟨#[97, 117, 103]⟩ 8 rfl rfl rfl [(⟨#[106, 97, 110]⟩, 1), (⟨#[102, 101, 98]⟩, 2), (⟨#[109, 97, 114]⟩, 3), (⟨#[97, 112, 114]⟩, 4), (⟨#[109, 97, 121]⟩, 5), (⟨#[106, 117, 110]⟩, 6), (⟨#[106, 117, 108]⟩, 7)] hM7 rfl ?_; intro w8 hM8 hb8)
  | (refine wpList_insert_name rfl _ _ _ rfl (w.heap.size + 1) ⟨#[115, 101, 112]⟩ 9 rfl rfl rfl [(⟨#[106, 97, 110]⟩, 1), (⟨#[102, 101, 98]⟩, 2), (⟨#[109, 97, 114]⟩, 3), (⟨#[97, 112, 114]⟩, 4), (⟨#[109, 97, 121]⟩, 5), (⟨#[106, 117, 110]⟩, 6), (⟨#[106, 117, 108]⟩, 7), (⟨#[97, 117, 103]⟩, 8)] hM8 rfl ?_; intro w9 hM9 hb9)
  | (refine wpList_insert_name rfl _ _ _ rfl (w.heap.size + 1) ⟨#[111, 99, 116]⟩ 10 rfl rfl rfl [(⟨#[106, 97, 110]⟩, 1), (⟨#[102, 101, 98]⟩, 2), (⟨#[109, 97, 114]⟩, 3), (⟨#[97, 112, 114]⟩, 4), (⟨#[109, 97, 121]⟩, 5), (⟨#[106, 117, 110]⟩, 6), (⟨#[106, 117, 108]⟩, 7), (⟨#[97, 117, 103]⟩, 8), (⟨#[115, 101, 112]⟩, 9)] hM9 rfl ?_; intro w10 hM10 hb10)
  | (refine wpList_insert_name rfl _ _ _ rfl (w.heap.size + 1) ⟨#[110, 111, 118]⟩ 11 rfl rfl rfl [(⟨#[106, 97, 110]⟩, 1), (⟨#[102, 101, 98]⟩, 2), (⟨#[109, 97, 114]⟩, 3), (⟨#[97, 112, 114]⟩, 4), (⟨#[109, 97, 121]⟩, 5), (⟨#[106, 117, 110]⟩, 6), (⟨#[106, 117, 108]⟩, 7), (⟨#[97, 117, 103]⟩, 8), (⟨#[115, 101, 112]⟩, 9), (⟨#[111, 99, 116]⟩, 10)] hM10 rfl ?_; intro w11 hM11 hb11)
  | (refine wpList_insert_name rfl _ _ _ rfl (w.heap.size + 1) ⟨#[100, 101, 99]⟩ 12 rfl rfl rfl [(⟨#[106, 97, 110]⟩, 1), (⟨#[102, 101, 98]⟩, 2), (⟨#[109, 97, 114]⟩, 3), (⟨#[97, 112, 114]⟩, 4), (⟨#[109, 97, 121]⟩, 5), (⟨#[106, 117, 110]⟩, 6), (⟨#[106, 117, 108]⟩, 7), (⟨#[97, 117, 103]⟩, 8), (⟨#[115, 101, 112]⟩, 9), (⟨#[111, 99, 116]⟩, 10), (⟨#[110, 111, 118]⟩, 11)] hM11 rfl ?_; intro w12 hM12 hb12; go_must (have hrow := row_kept ((((((((((((hb1).trans hb2).trans hb3).trans hb4).trans hb5).trans hb6).trans hb7).trans hb8).trans hb9).trans hb10).trans hb11).trans hb12); have hc0 : _ = some _ := cell_of_row _ _ 0 _ _ _ hrow; have hc1 : _ = some _ := cell_of_row _ _ 1 _ _ _ hrow; have hc2 : _ = some _ := cell_of_row _ _ 2 _ _ _ hrow; have hf0 := frozen_of_row _ _ 0 _ _ hrow; have hf1 := frozen_of_row _ _ 1 _ _ hrow; have hf2 := frozen_of_row _ _ 2 _ _ hrow; have HROW := Lib.hid hrow; clear hrow)))
 have HB : Below w.heap.size w w12 := (((Below.refl _ _).alloc (Nat.le_refl _) _).alloc (by simp) _).trans (((((((((((((hb1.trans hb2).trans hb3).trans hb4).trans hb5).trans hb6).trans hb7).trans hb8).trans hb9).trans hb10).trans hb11).trans hb12)).mono (by omega))
 have HM : MapAt w12 (w.heap.size + 1) monthsL := hM12
 refine bodyPost_ret (v := .agg #[.int .u64 1, .int .u64 12, .map (some (w.heap.size + 1))]) ?_ rfl ?_
 ·exact results_bounds (fn := Tryz.f110) (p := 0) rfl _ _ w.heap.size _ rfl (store3_row HROW.out) rfl
 exact ⟨_, rfl, by omega, ((HM.put (by omega)).put (by omega)).put (by omega), ((HB.setCell (Nat.le_refl _) _).setCell (Nat.le_refl _) _).setCell (Nat.le_refl _) _⟩
def dowL : List (ByteArray × Int) := [(⟨#[115, 117, 110]⟩, 0), (⟨#[109, 111, 110]⟩, 1), (⟨#[116, 117, 101]⟩, 2), (⟨#[119, 101, 100]⟩, 3), (⟨#[116, 104, 117]⟩, 4), (⟨#[102, 114, 105]⟩, 5), (⟨#[115, 97, 116]⟩, 6)]
set_option maxRecDepth 100000 in
set_option maxHeartbeats 1000000 in
theorem dow_any (w : World) : Calls Tryz.prog 111 #[] w fun e w' => ∃ r, e = .returned (.agg #[.int .u64 0, .int .u64 6, .map (some r)]) ∧ w.heap.size < r ∧ MapAt w' r dowL ∧ Below w.heap.size w w' := by
 have hmk := run_makeMap_names
 go_enter Tryz.func111, Tryz.ntmps111
 go_wp2_with (first
  | (refine wpList_insert_name rfl _ _ _ rfl (w.heap.size + 1) ⟨#[115, 117, 110]⟩ 0 rfl rfl rfl [] (mapAt_new _ _) rfl ?_; intro w1 hM1 hb1)
  | (refine wpList_insert_name rfl _ _ _ rfl (w.heap.size + 1) ⟨#[109, 111, 110]⟩ 1 rfl rfl rfl [(⟨#[115, 117, 110]⟩, 0)] hM1 rfl ?_; intro w2 hM2 hb2)
  | (refine wpList_insert_name rfl _ _ _ rfl (w.heap.size + 1) ⟨#[116, 117, 101]⟩ 2 rfl rfl rfl [(⟨#[115, 117, 110]⟩, 0), (⟨#[109, 111, 110]⟩, 1)] hM2 rfl ?_; intro w3 hM3 hb3)
  | (refine wpList_insert_name rfl _ _ _ rfl (w.heap.size + 1) ⟨#[119, 101, 100]⟩ 3 rfl rfl rfl [(⟨#[115, 117, 110]⟩, 0), (⟨#[109, 111, 110]⟩, 1), (⟨#[116, 117, 101]⟩, 2)] hM3 rfl ?_; intro w4 hM4 hb4)
  | (refine wpList_insert_name rfl _ _ _ rfl (w.heap.size + 1) ⟨#[116, 104, 117]⟩ 4 rfl rfl rfl [(⟨#[115, 117, 110]⟩, 0), (⟨#[109, 111, 110]⟩, 1), (⟨#[116, 117, 101]⟩, 2), (⟨#[119, 101, 100]⟩, 3)] hM4 rfl ?_; intro w5 hM5 hb5)
  | (refine wpList_insert_name rfl _ _ _ rfl (w.heap.size + 1) ⟨#[102, 114, 105]⟩ 5 rfl rfl rfl [(⟨#[115, 117, 110]⟩, 0), (⟨#[109, 111, 110]⟩, 1), (⟨#[116, 117, 101]⟩, 2), (⟨#[119, 101, 100]⟩, 3), (⟨#[116, 104, 117]⟩, 4)] hM5 rfl ?_; intro w6 hM6 hb6)
  | (refine wpList_insert_name rfl _ _ _ rfl (w.heap.size + 1) ⟨#[115, 97, 116]⟩ 6 rfl rfl rfl [(⟨#[115, 117, 110]⟩, 0), (⟨#[109, 111, 110]⟩, 1), (⟨#[116, 117, 101]⟩, 2), (⟨#[119, 101, 100]⟩, 3), (⟨#[116, 104, 117]⟩, 4), (⟨#[102, 114, 105]⟩, 5)] hM6 rfl ?_; intro w7 hM7 hb7; go_must (have hrow := row_kept (((((((hb1).trans hb2).trans hb3).trans hb4).trans hb5).trans hb6).trans hb7); have hc0 : _ = some _ := cell_of_row _ _ 0 _ _ _ hrow; have hc1 : _ = some _ := cell_of_row _ _ 1 _ _ _ hrow; have hc2 : _ = some _ := cell_of_row _ _ 2 _ _ _ hrow; have hf0 := frozen_of_row _ _ 0 _ _ hrow; have hf1 := frozen_of_row _ _ 1 _ _ hrow; have hf2 := frozen_of_row _ _ 2 _ _ hrow; have HROW := Lib.hid hrow; clear hrow)))
 have HB : Below w.heap.size w w7 := (((Below.refl _ _).alloc (Nat.le_refl _) _).alloc (by simp) _).trans ((((((((hb1.trans hb2).trans hb3).trans hb4).trans hb5).trans hb6).trans hb7)).mono (by omega))
 have HM : MapAt w7 (w.heap.size + 1) dowL := hM7
 refine bodyPost_ret (v := .agg #[.int .u64 0, .int .u64 6, .map (some (w.heap.size + 1))]) ?_ rfl ?_
 ·exact results_bounds (fn := Tryz.f111) (p := 0) rfl _ _ w.heap.size _ rfl (store3_row HROW.out) rfl
 exact ⟨_, rfl, by omega, ((HM.put (by omega)).put (by omega)).put (by omega), ((HB.setCell (Nat.le_refl _) _).setCell (Nat.le_refl _) _).setCell (Nat.le_refl _) _⟩
end Go.Proofs.YtmecbmgfacpecaaGreatDoor.Cron
namespace Go.Proofs.YtmecbmgfacpecaaGreatDoor.Cron
open Go Go.RowKit Go.Lib
set_option linter.unusedVariables false
def lowRune (r : Nat) : List UInt8 :=
 if 65 ≤ r ∧ r ≤ 90 then [UInt8.ofNat (r + 32)] else if r = 304 then [105] else if r = 8490 then [107] else (Utf8.encode (r : Int)).data.toList
def lowGo (s : ByteArray) : Nat → Nat → List UInt8
 | 0, _ => []
 | f + 1, pos => if pos < s.size then lowRune (Utf8.decode s pos).1 ++ lowGo s f (pos + (Utf8.decode s pos).2) else []
def lowS (s : ByteArray) : List UInt8 := lowGo s s.size 0
theorem lowGo_end (s : ByteArray) (f pos : Nat) (h : ¬ pos < s.size) : lowGo s f pos = [] := by
 cases f with
 | zero => rfl
 | succ f => rw [lowGo, if_neg h]
theorem info_byte : (Tryz.prog.info? 5).map (fun i => (i.zero, i.size, i.bytes)) = some (some (.int .u8 0), 1, 1) := by kernel_rfl
def cells8 (l : List UInt8) : List Value := l.map fun b => Value.int .u8 b.toNat
theorem cells8_str (s : ByteArray) : strCells s = cells8 s.data.toList := rfl
theorem cells8_append (a b : List UInt8) : cells8 (a ++ b) = cells8 a ++ cells8 b := by simp [cells8]
theorem one_new (w : World) (x : Value) (t : TypeId) : ∀ j u, [x][j]? = some u → (w.alloc (.cells #[x] t)).cell? ((⟨w.heap.size, 0, none⟩ : Addr).add j) = some u := by
 intro j u hj
 match j, hj with
 | 0, hj => simp at hj; subst hj; simp [Addr.add]
 | (j + 1), hj => simp at hj
theorem run_rune_string (w : World) (r : Nat) : (convert 21 9 (.int .i32 (r : Int))).run Tryz.prog w = .ok (.string (Utf8.encode (r : Int))) w := by
 simp [convert, run_underlying Tryz.underlying21, run_underlying Tryz.underlying9, Conv.intToString]
theorem conv_own {w : World} {B : Nat} {v : Value} {l : List UInt8} (h : w.ownsRow B 5 1 v l.length (cells8 l)) : (convert 86 9 v).run Tryz.prog w = .ok (.string ⟨l.toArray⟩) w := by
 rcases h.2 with ⟨rfl, h0⟩ | ⟨g, cap, cur, rfl, hb, hg, hle, hcap, hsz, ht⟩
 ·have : l = [] := List.length_eq_zero_iff.1 h0
  subst this
  rw [run_convert_bytes_string w _ _ _ none 0 0 Tryz.underlying86 Tryz.underlying5 Tryz.underlying9]
  rfl
 ·exact run_convert_bytes_back w _ _ _ ⟨g, 0, none⟩ cap l Tryz.underlying86 Tryz.underlying5 Tryz.underlying9 (fun j hj => h.cells (g := g) rfl j _ (by simp [cells8, hj]))
theorem low_step {w W w1 : World} {v : Value} {n : Nat} {xs : List Value} {s : ByteArray} {p : Nat} {e : TypeId} (o : Obj) (hb : Below w.heap.size w W) (hit : W.heap[w.heap.size]? = some (.stringIter s p)) (hown : W.ownsRow w.heap.size e 1 v n xs)
  (hgrow : (W.alloc o).grownBy w1 v.ownBlock) : w1.heap[w.heap.size]? = some (.stringIter s p) ∧ Below w.heap.size w w1 := by
 have hlt : w.heap.size < W.heap.size := (Array.getElem?_eq_some_iff.1 hit).1
 refine ⟨?_, ?_⟩
 ·rw [hgrow.block w.heap.size (by simp; omega) (own_ne_iter hown hit), heap_alloc_old W o hlt]
  exact hit
 ·exact (hb.alloc hb.size o).grown hgrow (by simp; omega) (fun k hk => (hown.lt k hk).1)
theorem low_step0 {w W w1 : World} {v : Value} {n : Nat} {xs : List Value} {s : ByteArray} {p : Nat} {e : TypeId} (hb : Below w.heap.size w W) (hit : W.heap[w.heap.size]? = some (.stringIter s p)) (hown : W.ownsRow w.heap.size e 1 v n xs)
  (hgrow : W.grownBy w1 v.ownBlock) : w1.heap[w.heap.size]? = some (.stringIter s p) ∧ Below w.heap.size w w1 := by
 have hlt : w.heap.size < W.heap.size := (Array.getElem?_eq_some_iff.1 hit).1
 refine ⟨?_, ?_⟩
 ·rw [hgrow.block w.heap.size hlt (own_ne_iter hown hit)]
  exact hit
 ·exact hb.grown hgrow (by omega) (fun k hk => (hown.lt k hk).1)
set_option maxRecDepth 100000 in
set_option maxHeartbeats 4000000 in
theorem zzLower_any (s : ByteArray) (hs : s.size ≤ 4294967296) (w : World) :
  Calls Tryz.prog 206 #[.string s] w fun e w' => e = .returned (.string ⟨(lowS s).toArray⟩) ∧ Below w.heap.size w w' := by
 obtain ⟨i0, hi, hz0, hz1, hz2⟩ := info_parts info_byte
 go_enter Tryz.func206, Tryz.ntmps206
 go_wp2
 go_loopg [3] s.size (fun gf s3 wx => ∃ (pos : Nat) (acc : List UInt8), wx.ownsRow w.heap.size 5 1 s3 acc.length (cells8 acc) ∧ wx.heap[w.heap.size]? = some (.stringIter s pos) ∧ Below w.heap.size w wx ∧
   Hid (acc ++ lowGo s gf pos = lowS s) ∧ s.size ≤ pos + gf ∧ pos ≤ s.size ∧ acc.length ≤ 4 * pos)
 case atStart =>
  exact ⟨0, [], World.ownsRow_nil _ _ _ _, World.iter_heap w s 0, (Below.refl _ _).alloc (Nat.le_refl _) _, Lib.hid rfl, by omega, Nat.zero_le _, by simp⟩
 case round =>
  obtain ⟨pos, acc, hown, hit, hbw, HG, hfu, hps, hal⟩ := hrel
  by_cases hlt : pos < s.size
  ·obtain ⟨g', rfl⟩ : ∃ g', gk = g' + 1 := ⟨gk - 1, by omega⟩
   have hnx : ∀ ty, (Instr.next (.pointer (some ⟨w.heap.size, 0, none⟩)) true ty).run Tryz.prog wr = _ := fun ty => Lib.run_next_any_at wr w.heap.size s pos ty hit hlt
   have hwd := Lib.width_pos s pos
   have hwn : pos + (Utf8.decode s pos).2 ≤ s.size := by
    have := Lib.decodeN_le_n' (s.size - pos) (s.get! pos).toNat (s.get! (pos + 1)).toNat (s.get! (pos + 2)).toNat (s.get! (pos + 3)).toNat (by omega)
    rw [← Lib.decode_at] at this
    omega
   have hrl := Lib.rune_le s pos
   have hG := HG.out
   rw [lowGo, if_pos hlt] at hG
   generalize (Utf8.decode s pos).1 = R at *
   generalize (Utf8.decode s pos).2 = K at *
   have hit2 := Lib.iterAt_heap wr w.heap.size s pos (pos + K) hit
   have hbw2 := Lib.below_iterAt hbw (k := w.heap.size) (Nat.le_refl _) s (pos + K)
   have hown2 := own_iterAt hown hit (pos + K)
   obtain ⟨W, hWd⟩ : ∃ W, wr.iterAt w.heap.size s (pos + K) = W := ⟨_, rfl⟩
   rw [hWd] at hnx hit2 hbw2 hown2
   have HG2 := Lib.hid hG
   clear hown hit hbw HG hG
   have hne := own_ne_iter hown2 hit2
   have hz : w.heap.size < W.heap.size := (Array.getElem?_eq_some_iff.1 hit2).1
   by_cases c1 : 65 ≤ R ∧ R ≤ 90
   ·obtain ⟨c1a, c1b⟩ := c1
    have hc : lowRune R = [UInt8.ofNat (R + 32)] := by unfold lowRune; rw [if_pos ⟨c1a, c1b⟩]
    rw [hc] at HG2
    go_wp2_with (at_builtin; refine wpList_append_own _ rfl _ _ 86 rfl w.heap.size 5 i0 (.int .u8 0) 1 1 Tryz.underlying86 hi hz0 hz1 hz2 rfl (by decide) _ _ _ rfl (hown2.alloc _) ⟨W.heap.size, 0, none⟩ 1 1 [_] rfl rfl (one_new W _ _) (by intro u hu; simp at hu; subst hu; rfl) (by unfold maxLen; omega) (by omega) (by simp; omega) ?_; intro v' w1 hown' hgrow _)
    obtain ⟨hit3, hbw3⟩ := low_step _ hbw2 hit2 hown2 hgrow
    have hown3 : w1.ownsRow w.heap.size 5 1 v' (acc ++ [UInt8.ofNat (R + 32)]).length (cells8 (acc ++ [UInt8.ofNat (R + 32)])) := by
     rw [List.length_append, cells8_append]
     have hv : (R : Int) - 65 + 97 = ((UInt8.ofNat (R + 32)).toNat : Int) := by
      rw [UInt8.toNat_ofNat']
      omega
     rw [hv] at hown'
     exact hown'
    clear hown' hgrow hown2 hit2 hbw2 hne
    go_roundg g'
    case measure => omega
    case rel => exact ⟨pos + K, acc ++ [UInt8.ofNat (R + 32)], hown3, hit3, hbw3, Lib.hid (by rw [List.append_assoc]; exact HG2.out), by omega, hwn, by simp; omega⟩
   ·have hn1 : ¬ ((65 : Int) ≤ R ∧ (R : Int) ≤ 90) := by omega
    have hR1 : (65 : Int) ≤ R → 90 < (R : Int) := by omega
    by_cases c2 : R = 304
    ·subst c2
     have hc : lowRune 304 = [105] := by unfold lowRune; rw [if_neg (by omega), if_pos rfl]
     rw [hc] at HG2
     go_wp2_with (at_builtin; refine wpList_append_own _ rfl _ _ 86 rfl w.heap.size 5 i0 (.int .u8 0) 1 1 Tryz.underlying86 hi hz0 hz1 hz2 rfl (by decide) _ _ _ rfl (hown2.alloc _) ⟨W.heap.size, 0, none⟩ 1 1 [_] rfl rfl (one_new W _ _) (by intro u hu; simp at hu; subst hu; rfl) (by unfold maxLen; omega) (by omega) (by simp; omega) ?_; intro v' w1 hown' hgrow _)
     obtain ⟨hit3, hbw3⟩ := low_step _ hbw2 hit2 hown2 hgrow
     have hown3 : w1.ownsRow w.heap.size 5 1 v' (acc ++ [105]).length (cells8 (acc ++ [105])) := by
      rw [List.length_append, cells8_append]
      exact hown'
     clear hown' hgrow hown2 hit2 hbw2 hne
     go_roundg g'
     case measure => omega
     case rel => exact ⟨pos + K, acc ++ [105], hown3, hit3, hbw3, Lib.hid (by rw [List.append_assoc]; exact HG2.out), by omega, hwn, by simp; omega⟩
    ·by_cases c3 : R = 8490
     ·subst c3
      have hc : lowRune 8490 = [107] := by unfold lowRune; rw [if_neg (by omega), if_neg (by omega), if_pos rfl]
      rw [hc] at HG2
      go_wp2_with (at_builtin; refine wpList_append_own _ rfl _ _ 86 rfl w.heap.size 5 i0 (.int .u8 0) 1 1 Tryz.underlying86 hi hz0 hz1 hz2 rfl (by decide) _ _ _ rfl (hown2.alloc _) ⟨W.heap.size, 0, none⟩ 1 1 [_] rfl rfl (one_new W _ _) (by intro u hu; simp at hu; subst hu; rfl) (by unfold maxLen; omega) (by omega) (by simp; omega) ?_; intro v' w1 hown' hgrow _)
      obtain ⟨hit3, hbw3⟩ := low_step _ hbw2 hit2 hown2 hgrow
      have hown3 : w1.ownsRow w.heap.size 5 1 v' (acc ++ [107]).length (cells8 (acc ++ [107])) := by
       rw [List.length_append, cells8_append]
       exact hown'
      clear hown' hgrow hown2 hit2 hbw2 hne
      go_roundg g'
      case measure => omega
      case rel => exact ⟨pos + K, acc ++ [107], hown3, hit3, hbw3, Lib.hid (by rw [List.append_assoc]; exact HG2.out), by omega, hwn, by simp; omega⟩
     ·have hc : lowRune R = (Utf8.encode (R : Int)).data.toList := by unfold lowRune; rw [if_neg c1, if_neg c2, if_neg c3]
      rw [hc] at HG2
      have hel := encode_size_le (R : Int)
      have hcv := fun w' : World => run_rune_string w' R
      generalize Utf8.encode (R : Int) = E at *
      have hem : E.data.toList.length = E.size := Array.length_toList
      have hc2 : ((R : Int) == 304) = false := by simpa using (by omega : ¬ (R : Int) = 304)
      have hc3 : ((R : Int) == 8490) = false := by simpa using (by omega : ¬ (R : Int) = 8490)
      by_cases c4 : 65 ≤ R
      ·have c5 : ¬ R ≤ 90 := by omega
       go_wp2_with (at_builtin; refine wpList_append_own_string _ rfl _ _ 86 9 rfl w.heap.size 5 i0 Tryz.underlying86 Tryz.underlying9 hi hz0 hz1 hz2 _ _ _ rfl hown2 _ rfl (by unfold maxLen; omega) (by omega) (by omega) ?_; intro v' w1 hown' hgrow _)
       obtain ⟨hit3, hbw3⟩ := low_step0 hbw2 hit2 hown2 hgrow
       have hown3 : w1.ownsRow w.heap.size 5 1 v' (acc ++ E.data.toList).length (cells8 (acc ++ E.data.toList)) := by
        rw [List.length_append, cells8_append, ← cells8_str, hem]
        exact hown'
       clear hown' hgrow hown2 hit2 hbw2 hne
       go_roundg g'
       case measure => omega
       case rel => exact ⟨pos + K, acc ++ E.data.toList, hown3, hit3, hbw3, Lib.hid (by rw [List.append_assoc]; exact HG2.out), by omega, hwn, by rw [List.length_append]; omega⟩
      ·go_wp2_with (at_builtin; refine wpList_append_own_string _ rfl _ _ 86 9 rfl w.heap.size 5 i0 Tryz.underlying86 Tryz.underlying9 hi hz0 hz1 hz2 _ _ _ rfl hown2 _ rfl (by unfold maxLen; omega) (by omega) (by omega) ?_; intro v' w1 hown' hgrow _)
       obtain ⟨hit3, hbw3⟩ := low_step0 hbw2 hit2 hown2 hgrow
       have hown3 : w1.ownsRow w.heap.size 5 1 v' (acc ++ E.data.toList).length (cells8 (acc ++ E.data.toList)) := by
        rw [List.length_append, cells8_append, ← cells8_str, hem]
        exact hown'
       clear hown' hgrow hown2 hit2 hbw2 hne
       go_roundg g'
       case measure => omega
       case rel => exact ⟨pos + K, acc ++ E.data.toList, hown3, hit3, hbw3, Lib.hid (by rw [List.append_assoc]; exact HG2.out), by omega, hwn, by rw [List.length_append]; omega⟩
  ·have hpe : pos = s.size := by omega
   have hnx := fun ty => run_next_end_at (P := Tryz.prog) wr w.heap.size s pos ty hit hlt
   have hacc : acc = lowS s := by
    have := HG.out
    rw [lowGo_end _ _ _ hlt, List.append_nil] at this
    exact this
   have hcv := conv_own hown
   rw [hacc] at hcv
   clear HG hown
   go_wp2_with fail
   go_ret
   exact ⟨rfl, hbw⟩
end Go.Proofs.YtmecbmgfacpecaaGreatDoor.Cron
namespace Go.Proofs.YtmecbmgfacpecaaGreatDoor.Cron
open Go Go.RowKit Go.Proofs.YtmecbmgfacpecaaGreatDoor.Text Go.Proofs.YtmecbmgfacpecaaGreatDoor.Bits
set_option linter.unusedVariables false
def lowB (s : ByteArray) : ByteArray := ⟨(lowS s).toArray⟩
def valN (L : List (ByteArray × Int)) (l : List UInt8) : Option Nat :=
 match lookL (lowB (ba l)) L with
 | some v => some v.toNat
 | none => mp l
theorem look_mem (s : ByteArray) : ∀ (L : List (ByteArray × Int)) (v : Int), lookL s L = some v → (s, v) ∈ L
 | [], v, h => by cases h
 | (k, x) :: t, v, h => by
  unfold lookL at h
  by_cases e : s = k
  ·rw [if_pos e] at h
   injection h with h
   subst e; subst h
   exact List.mem_cons_self ..
  ·rw [if_neg e] at h
   exact List.mem_cons_of_mem _ (look_mem s t v h)
def Small (L : List (ByteArray × Int)) : Prop := ∀ p ∈ L, 0 ≤ p.2 ∧ p.2 ≤ 12
theorem months_small : Small monthsL := by
 intro p hp
 simp only [monthsL, List.mem_cons, List.not_mem_nil, or_false] at hp
 rcases hp with rfl | rfl | rfl | rfl | rfl | rfl | rfl | rfl | rfl | rfl | rfl | rfl <;> exact ⟨by omega, by omega⟩
theorem dow_small : Small dowL := by
 intro p hp
 simp only [dowL, List.mem_cons, List.not_mem_nil, or_false] at hp
 rcases hp with rfl | rfl | rfl | rfl | rfl | rfl | rfl <;> exact ⟨by omega, by omega⟩
theorem lower_any (s : ByteArray) (hs : s.size ≤ 4294967296) (w : World) :
  Calls Tryz.prog 206 #[.string s] w fun e w' => e = .returned (.string (lowB s)) ∧ Below w.heap.size w w' := zzLower_any s hs w
set_option maxRecDepth 100000 in
theorem reads_named (r : Nat) (L : List (ByteArray × Int)) (hL : Small L) : Reads (some r) (valN L) (fun w => G w ∧ MapAt w r L) := by
 refine ⟨fun ⟨h, hM⟩ hb => ⟨h.below hb, hM.below hb⟩, fun h => h.1, fun {l n} h => ?_, fun s w hs hI => ?_⟩
 ·unfold valN at h
  split at h
  ·rename_i v hv
   have := hL _ (look_mem _ _ _ hv)
   injection h with h
   omega
  ·exact mp_le h
 ·obtain ⟨hg, hM⟩ := hI
  have hm := fun w : World => run_neq_map_nil (P := Tryz.prog) w 183 _ _ (some r) Tryz.underlying183
  have HLW := Lib.hid (fun w' => lower_any s hs w')
  unfold valN
  rw [ba_of]
  have hbd : ∀ v, lookL (lowB s) L = some v → 0 ≤ v ∧ v ≤ 12 := fun v hv => hL _ (look_mem _ _ _ hv)
  have hlk := fun (w' : World) (h : MapAt w' r L) => run_lookup_name w' r L (lowB s) h
  generalize lookL (lowB s) L = q at *
  generalize lowB s = low at *
  go_enter Tryz.func180, Tryz.ntmps180
  go_wp2_with fail
  refine (HLW.out _).mono ?_
  rintro e w1 ⟨rfl, hb1⟩
  have hl := hlk w1 (hM.below hb1)
  have hg1 := hg.below hb1
  clear hlk HLW hM hL
  cases q with
  | some v =>
   obtain ⟨n, rfl⟩ : ∃ n : Nat, v = n := ⟨v.toNat, by have := hbd v rfl; omega⟩
   simp only [Option.getD_some, Option.isSome_some] at hl
   go_wp2_with fail
   go_ret2
   exact ⟨rfl, hb1⟩
  | none =>
   simp only [Option.getD_none, Option.isSome_none] at hl
   cases h : mp s.data.toList with
   | some n =>
    go_wp2_with (go_at_call 181; refine (mustParse_ok s (by omega) n h _).mono ?_; rintro e w' ⟨rfl, hb⟩)
    go_ret2
    exact ⟨rfl, below_of_le hb1 hb⟩
   | none =>
    go_wp2_with (go_at_call 181; refine (mustParse_bad s (by omega) h _ hg1).mono ?_; rintro e w' ⟨t, x, rfl, hb⟩)
    go_ret2
    exact ⟨⟨t, x, rfl⟩, below_of_le hb1 hb⟩
def valK (k : Nat) : List UInt8 → Option Nat := if k = 4 then valN monthsL else if k = 5 then valN dowL else mp
end Go.Proofs.YtmecbmgfacpecaaGreatDoor.Cron
namespace Go.Proofs.YtmecbmgfacpecaaGreatDoor.Cron
open Go Go.RowKit Go.Proofs.YtmecbmgfacpecaaGreatDoor.Text Go.Proofs.YtmecbmgfacpecaaGreatDoorW.PrintWords Go.Proofs.YtmecbmgfacpecaaGreatDoorW.PrintLast Go.Proofs.YtmecbmgfacpecaaGreatDoorW.PrintMore Go.Proofs.YtmecbmgfacpecaaGreatDoor.Pr
set_option linter.unusedVariables false
def Ev {α : Type} (f : Nat → Option α) (r : α) : Prop := ∃ K, ∀ k, K ≤ k → f k = some r
def low8 (c : UInt8) : UInt8 := if 65 ≤ c.toNat ∧ c.toNat ≤ 90 then UInt8.ofNat (c.toNat + 32) else c
theorem lowRune_ascii (c : UInt8) (h : c.toNat < 128) : lowRune c.toNat = [low8 c] := by
 unfold lowRune low8
 by_cases h1 : 65 ≤ c.toNat ∧ c.toNat ≤ 90
 ·rw [if_pos h1, if_pos h1]
 ·rw [if_neg h1, if_neg h1, if_neg (by omega), if_neg (by omega), Extern.FmtText.enc1 _ h]
  simp
theorem lowGo_ascii (s : ByteArray) (ha : ∀ c ∈ s.data.toList, c.toNat < 128) : ∀ (f pos : Nat), s.size ≤ f + pos → lowGo s f pos = (s.data.toList.drop pos).map low8
 | 0, pos, h => by
  have := size_list s
  rw [List.drop_eq_nil_of_le (by omega)]
  rfl
 | f + 1, pos, h => by
  have hz := size_list s
  unfold lowGo
  by_cases hlt : pos < s.size
  ·have hl : pos < s.data.toList.length := by omega
   have hc := ha _ (List.getElem_mem hl)
   rw [if_pos hlt, (dec_at _ hc s pos hlt).1 (List.getElem?_eq_getElem hl), List.drop_eq_getElem_cons hl, List.map_cons]
   simp only
   rw [lowRune_ascii _ hc, lowGo_ascii s ha f (pos + 1) (by omega)]
   rfl
  ·rw [if_neg hlt, List.drop_eq_nil_of_le (by omega)]
   rfl
theorem low_ascii (s : ByteArray) (ha : ∀ c ∈ s.data.toList, c.toNat < 128) : lowB s = ba (s.data.toList.map low8) := by
 unfold lowB lowS
 rw [lowGo_ascii s ha s.size 0 (by omega)]
 rfl
end Go.Proofs.YtmecbmgfacpecaaGreatDoor.Cron
namespace Go.Proofs.YtmecbmgfacpecaaGreatDoor.Cron
open Go Go.RowKit Go.Proofs.YtmecbmgfacpecaaGreatDoor.Text Go.Proofs.YtmecbmgfacpecaaGreatDoor.Bits
set_option linter.unusedVariables false
def dig (i : Nat) : List UInt8 := if i < 10 then [UInt8.ofNat (48 + i)] else [UInt8.ofNat (48 + i / 10), UInt8.ofNat (48 + i % 10)]
theorem decDigits_dig (i : Nat) (h : i < 100) : Lib.decDigits i = dig i := by
 unfold Lib.decDigits dig
 by_cases h1 : i < 10
 ·rw [dif_pos h1, if_pos h1]
 ·rw [dif_neg h1, if_neg h1, Lib.decDigits, dif_pos (by omega)]
  rfl
theorem dig_range : ∀ i : Fin 100, ∀ c ∈ dig i.val, 48 ≤ c.toNat ∧ c.toNat ≤ 57 := by decide
end Go.Proofs.YtmecbmgfacpecaaGreatDoor.Cron
