/- Lemmas and walks on the way to the law, merged by wip/tools/pack.py: CronNone, NextU, RowArgs, RowBytes, Base, Number. Conditions: none. -/
import Derived.Test.YtmecbmgfacpecaaGreatDoorGrE
import Derived.Test.YtmecbmgfacpecaaGreatDoorPrA
import Derived.Test.YtmecbmgfacpecaaGreatDoorRows
import Derived.WalkKit
import Derived.ProofKit
import Derived.OpenShut
import Derived.Below
import Derived.Carry
import Derived.Deep.Slices
import Derived.Deep.Fields
import Derived.ChangeSame
import Derived.Test.YtmecbmgfacpecaaGreatDoorWWordsT
import Derived.ChangeSlices
import Derived.Test.YtmecbmgfacpecaaGreatDoorProg
import Derived.OwnWalk
import Derived.Lib.Hide
import Derived.WalkSmall
import Derived.WalkLawsBesides
import Derived.WalkSpells
import Derived.Test.YtmecbmgfacpecaaGreatDoorShelfT
namespace Go.Proofs.YtmecbmgfacpecaaGreatDoor.CronN
open Go Go.RowKit Go.Proofs.YtmecbmgfacpecaaGreatDoorW.PrintWords Go.Proofs.YtmecbmgfacpecaaGreatDoorW.PrintLast Go.Proofs.YtmecbmgfacpecaaGreatDoor.Cal Go.Proofs.YtmecbmgfacpecaaGreatDoor.Pr
set_option linter.unusedVariables false
set_option linter.unusedSimpArgs false
theorem row_keep {w w' : World} {g : Nat} {o : Obj} (h : w.heap[g]? = some o) (hb : Below w.heap.size w w') : w'.heap[g]? = some o := (hb.block g (Array.getElem?_eq_some_iff.1 h).1).trans h
theorem row_new {w : World} {g : Nat} {o x : Obj} (h : w.heap[g]? = some o) : (w.alloc x).heap[g]? = some o := row_keep h ((Below.refl _ _).alloc (Nat.le_refl _) _)
theorem row_lt {w : World} {g : Nat} {o : Obj} (h : w.heap[g]? = some o) : g < w.heap.size := (Array.getElem?_eq_some_iff.1 h).1
def utcC : Array Value := #[.slice none 0 0, .slice none 0 0, .slice none 0 0, .slice none 0 0]
theorem run_alloc_zone (w : World) : (Instr.alloc 71 true (.tuple #[])).run Tryz.prog w = .ok (.pointer (some ⟨w.heap.size, 0, none⟩)) (w.alloc (.cells utcC 71 (0, 0))) := by kernel_rfl
theorem cronUtc_any (w : World) : Calls Tryz.prog 28 #[] w fun e w' => e = .returned utcZone ∧ Below w.heap.size w w' := by
 have hal := run_alloc_zone
 go_enter Tryz.func28, Tryz.ntmps28
 go_wp2_with (refine wpList_store_row rfl 71 _ _ rfl w.heap.size utcC rfl rfl 71 _ (heap_alloc_new w _) zoneSize rfl (by simp [utcC, Value.oneCell']) ?_)
 refine bodyPost_ret (v := utcZone) ?_ rfl ⟨rfl, ?_⟩
 ·exact results_cell_row (fn := Tryz.f28) (p := 0) rfl _ _ w.heap.size 71 utcC (0, 0) _ rfl (setRow_heap _ _ _ _ _ _ (heap_alloc_new w _)) Tryz.underlying71 rfl zoneSize
 ·exact below_setRow ((Below.refl _ _).alloc (Nat.le_refl _) _) (Nat.le_refl _) _
def instZ : Array Value := #[.int .i64 0, .int .i64 0]
def InstRow (w : World) (g : Nat) : Prop := w.heap[g]? = some (.cells instZ 50 (0, 0))
theorem InstRow.below {w w' : World} {g : Nat} (h : InstRow w g) (hb : Below w.heap.size w w') : InstRow w' g := (hb.block g (Array.getElem?_eq_some_iff.1 h).1).trans h
theorem instRow_of {B : Nat} {wo W : World} (h : Below B wo W) : InstRow (W.alloc (.cells instZ 50 (0, 0))) W.heap.size := heap_alloc_new W _
theorem run_alloc_inst (w : World) : (Instr.alloc 50 true (.tuple #[])).run Tryz.prog w = .ok (.pointer (some ⟨w.heap.size, 0, none⟩)) (w.alloc (.cells instZ 50 (0, 0))) := by kernel_rfl
theorem exec_alloc_inst (ev : Operand → Value) (oi : Oper) (w : World) (ho : oi.op = .alloc 50) :
  (execOp ev oi).run Tryz.prog w = .ok (.value (.pointer (some ⟨w.heap.size, 0, none⟩))) (w.alloc (.cells instZ 50 (0, 0))) := by
 have := run_alloc_inst w
 unfold execOp
 rw [ho]
 simp only [Sem.run_bind, Sem.run_pure, Result.andThen_ok, this]
def cellsOf (v : Value) : Array Value := v.cells
end Go.Proofs.YtmecbmgfacpecaaGreatDoor.CronN
namespace Go.Proofs.YtmecbmgfacpecaaGreatDoor.CronN
open Go Go.RowKit Go.Proofs.YtmecbmgfacpecaaGreatDoorW.PrintWords Go.Proofs.YtmecbmgfacpecaaGreatDoorW.PrintLast Go.Proofs.YtmecbmgfacpecaaGreatDoor.Cal Go.Proofs.YtmecbmgfacpecaaGreatDoor.Pr
set_option linter.unusedVariables false
set_option linter.unusedSimpArgs false
theorem exists_first (P : Nat → Prop) : ∀ n, P n → ∃ n, P n ∧ ∀ m, m < n → ¬ P m := by
 intro n
 induction n using Nat.strongRecOn with
 | _ n ih =>
  intro hn
  by_cases h : ∃ m, m < n ∧ P m
  ·obtain ⟨m, hm, hp⟩ := h
   exact ih m hm hp
  ·exact ⟨n, hn, fun m hm hp => h ⟨m, hm, hp⟩⟩
theorem least_exists (S : Sets) (f lim : Int) : ∃ r, Least S f lim r := by
 by_cases h : ∃ x, f ≤ x ∧ yearL x ≤ lim ∧ Fits S x
 ·obtain ⟨x, h1, h2, h3⟩ := h
  obtain ⟨n, ⟨hn, hy⟩, hm⟩ := exists_first (fun n : Nat => Fits S (f + n) ∧ yearL (f + n) ≤ lim) (x - f).toNat (by rw [show f + ((x - f).toNat : Int) = x by omega]; exact ⟨h3, h2⟩)
  refine ⟨some (f + n), by omega, hn, fun z z1 z2 hz => hm (z - f).toNat (by omega) ?_, hy⟩
  rw [show f + ((z - f).toNat : Int) = z by omega]
  exact ⟨hz, by have := year_mono (a := z) (b := f + n) (by omega); omega⟩
 ·exact ⟨none, fun x h1 h2 h3 => h ⟨x, h1, h2, h3⟩⟩
def goodB (sec nano : Int) : Bool := decide (-62135596800 ≤ sec ∧ sec ≤ 253402300799 ∧ 0 ≤ nano ∧ nano < 1000000000)
theorem goodB_iff {sec nano : Int} : goodB sec nano = true ↔ (-62135596800 ≤ sec ∧ sec ≤ 253402300799 ∧ 0 ≤ nano ∧ nano < 1000000000) := by unfold goodB; exact decide_eq_true_iff
theorem good_f (sec nano : Int) : spec_CronGood.f sec nano = some (goodB sec nano) := by
 unfold spec_CronGood.f goodB
 by_cases h1 : -62135596800 ≤ sec <;> by_cases h2 : sec ≤ 253402300799 <;> by_cases h3 : 0 ≤ nano <;> simp [h1, h2, h3]
theorem good_any (sec nano : Int) (w : World) : Calls Tryz.prog 20 #[.agg #[.int .i64 sec, .int .i64 nano]] w fun e w' => e = .returned (.bool (goodB sec nano)) ∧ Below w.heap.size w w' :=
 spec_CronGood.calls sec nano _ w (good_f sec nano)
def schedC (ev : Bool) (d : Int) (S : Sets) : Array Value := #[.bool ev, .int .i64 d, .int .u64 (S.sec : Int), .int .u64 (S.min : Int), .int .u64 (S.hour : Int), .int .u64 (S.dom : Int), .int .u64 (S.month : Int), .int .u64 (S.dow : Int)]
section
variable {P : Program} {ops : Array Oper} {rest : List Oper} {o : Oper} {a : Act} {w : World} {Q : Exit → Act → World → Prop}
theorem wpList_load_rowG (hw : Region.wanted o (yielded ops a.tmps) = true) (ty : TypeId) (x : Operand) (ho : o.op = .load ty x) (g : Nat) (hx : a.eval x = .pointer (some ⟨g, 0, none⟩)) (t : TypeId) (cs : Array Value) (fr : Nat × Nat) (d : TypeDesc) (hg : w.heap[g]? = some (.cells cs t fr))
  (hu : P.underlying ty = some d) (hd : (match d with | .struct _ | .array _ _ => true | _ => false) = true) (hi : (P.info? ty).map (·.size) = some cs.size)
  (h : wpList P ops Q rest (a.put o.dst (.agg cs)) w) : wpList P ops Q (o :: rest) a w := by
 refine wpList_step fun K hK => ?_
 rw [if_pos hw]
 exact wp_load_row ty x ho g hx t cs fr d hg hu hd hi (hK _ _ h)
end
end Go.Proofs.YtmecbmgfacpecaaGreatDoor.CronN
namespace Go.Proofs.YtmecbmgfacpecaaGreatDoor.RowArgs
open Go Go.Proofs.YtmecbmgfacpecaaGreatDoor Go.ChangeShapes Go.WideShapes Go.ChangeAt Go.RowKit Go.Deep Go.Proofs.YtmecbmgfacpecaaGreatDoor.Cal Go.Proofs.YtmecbmgfacpecaaGreatDoor.CronN
set_option linter.unusedVariables false
theorem own : ownKnob Tryz.prog.godebug = none := by kernel_rfl
theorem laidOut : laidOutB Tryz.prog = true := by kernel_rfl
theorem cells_sched : Tryz.prog.cellsOf 26 = 8 := by kernel_rfl
theorem cells_inst : Tryz.prog.cellsOf 50 = 2 := by kernel_rfl
theorem okWide_size {P : Program} {w : World} {r : Reach} {base : Nat} {t : TypeId} {v : Value} {fs : Array Field} {n : Nat} (ht : P.underlying t = some (.struct fs)) (hC : P.cellsOf t = n) (h : Value.okWide P w r base t v) : ∃ cs : Array Value, v = .agg cs ∧ cs.size = n := by
 obtain ⟨cs, h1, h2⟩ := okWide_struct ht h
 exact ⟨cs, h1, h2.trans hC⟩
theorem u64_of {n : Int} (h : (Lit.int .u64 n).wf = true) : 0 ≤ n ∧ n < 18446744073709551616 := by
 simp [Lit.wf] at h
 have h1 : IntKind.u64.min = 0 := by decide
 have h2 : IntKind.u64.max = 18446744073709551615 := by decide
 omega
theorem one_field {P : Program} {fs : Array Field} (hone : oneCellFields P fs = true) (cs : List Value) (j : Nat) (f : Field) (hj : fs[j]? = some f) (v : Value) (hv : cs[j]? = some v) : (cs.drop f.offset).take (P.cellsOf f.type) = [v] := by
 obtain ⟨ho, hk⟩ := hone_of hone j f hj
 rw [ho, hk]
 have hl : j < cs.length := (List.getElem?_eq_some_iff.1 hv).1
 rw [List.drop_eq_getElem_cons hl]
 simp [(List.getElem?_eq_some_iff.1 hv).2]
theorem at_field {H : Type} {enc : TypeId × Value → H} {P : Program} {w : World} {base n : Nat} {spare : Nat → Bool} {held : Bool} {t : TypeId} {fs : Array Field} {cs : List Value} {xs : List (DataW H × List MemPlace)} (hs : P.underlying t = some (.struct fs)) (hone : oneCellFields P fs = true)
  (hg : ∀ (j : Nat) (f : Field), fs[j]? = some f → DataW.trod enc P w base spare held n f.type ((cs.drop f.offset).take (P.cellsOf f.type)) = xs[j]?) (j : Nat) (f : Field) (v : Value) (hj : fs[j]? = some f) (hv : cs[j]? = some v) :
  DataW.trod enc P w base spare held n f.type [v] = xs[j]? := by
 have := hg j f hj
 rw [one_field hone cs j f hj v hv] at this
 exact this
set_option maxRecDepth 100000 in
theorem open_inst {H : Type} {enc : TypeId × Value → H} {w W : World} {spare : Nat → Bool} {held : Bool} {base b2 : Nat} {r : Reach} {v : Value} {d : DataW H} {p : List MemPlace} (hv : Value.okWide Tryz.prog W r b2 50 v)
  (h : DataW.Trod enc Tryz.prog w base spare held 50 v d p) : ∃ sec nano : Int, v = .agg #[.int .i64 sec, .int .i64 nano] := by
 obtain ⟨cs, rfl, hsz⟩ := okWide_size Tryz.underlying50 cells_inst hv
 obtain ⟨l⟩ := cs
 match l, hsz with
 | [c0, c1], _ =>
  obtain ⟨fuel, hf⟩ := h
  obtain ⟨xs, n, _, hx, _, hlen, hg⟩ := DataW.trod_struct Tryz.underlying50 hf
  have g0 := at_field Tryz.underlying50 (by kernel_rfl) hg 0 _ c0 rfl rfl
  have g1 := at_field Tryz.underlying50 (by kernel_rfl) hg 1 _ c1 rfl rfl
  match xs, hlen with
  | [y0, y1], _ =>
   obtain ⟨a0, e0, -⟩ := DataW.trod_int Tryz.underlying2 (g0.trans rfl)
   obtain ⟨a1, e1, -⟩ := DataW.trod_int Tryz.underlying3 (g1.trans rfl)
   simp only [List.cons.injEq, and_true] at e0 e1
   subst e0 e1
   exact ⟨a0, a1, rfl⟩
set_option maxRecDepth 100000 in
theorem open_sched {H : Type} {enc : TypeId × Value → H} {w W : World} {spare : Nat → Bool} {held : Bool} {base b2 : Nat} {r : Reach} {v : Value} {d : DataW H} {p : List MemPlace} (hv : Value.okWide Tryz.prog W r b2 26 v)
  (h : DataW.Trod enc Tryz.prog w base spare held 26 v d p) : ∃ (ev : Bool) (dl : Int) (S : Sets), S.ok ∧ v = .agg (schedC ev dl S) := by
 obtain ⟨cs, rfl, hsz⟩ := okWide_size Tryz.underlying26 cells_sched hv
 obtain ⟨l⟩ := cs
 match l, hsz with
 | [c0, c1, c2, c3, c4, c5, c6, c7], _ =>
  obtain ⟨fuel, hf⟩ := h
  obtain ⟨xs, n, _, hx, _, hlen, hg⟩ := DataW.trod_struct Tryz.underlying26 hf
  have g0 := at_field Tryz.underlying26 (by kernel_rfl) hg 0 _ c0 rfl rfl
  have g1 := at_field Tryz.underlying26 (by kernel_rfl) hg 1 _ c1 rfl rfl
  have g2 := at_field Tryz.underlying26 (by kernel_rfl) hg 2 _ c2 rfl rfl
  have g3 := at_field Tryz.underlying26 (by kernel_rfl) hg 3 _ c3 rfl rfl
  have g4 := at_field Tryz.underlying26 (by kernel_rfl) hg 4 _ c4 rfl rfl
  have g5 := at_field Tryz.underlying26 (by kernel_rfl) hg 5 _ c5 rfl rfl
  have g6 := at_field Tryz.underlying26 (by kernel_rfl) hg 6 _ c6 rfl rfl
  have g7 := at_field Tryz.underlying26 (by kernel_rfl) hg 7 _ c7 rfl rfl
  match xs, hlen with
  | [y0, y1, y2, y3, y4, y5, y6, y7], _ =>
   obtain ⟨a0, e0, -⟩ := DataW.trod_bool Tryz.underlying4 (g0.trans rfl)
   obtain ⟨a1, e1, -⟩ := DataW.trod_int Tryz.underlying2 (g1.trans rfl)
   obtain ⟨a2, e2, -, k2⟩ := DataW.trod_int Tryz.underlying24 (g2.trans rfl)
   obtain ⟨a3, e3, -, k3⟩ := DataW.trod_int Tryz.underlying24 (g3.trans rfl)
   obtain ⟨a4, e4, -, k4⟩ := DataW.trod_int Tryz.underlying24 (g4.trans rfl)
   obtain ⟨a5, e5, -, k5⟩ := DataW.trod_int Tryz.underlying24 (g5.trans rfl)
   obtain ⟨a6, e6, -, k6⟩ := DataW.trod_int Tryz.underlying24 (g6.trans rfl)
   obtain ⟨a7, e7, -, k7⟩ := DataW.trod_int Tryz.underlying24 (g7.trans rfl)
   simp only [List.cons.injEq, and_true] at e0 e1 e2 e3 e4 e5 e6 e7
   subst e0 e1 e2 e3 e4 e5 e6 e7
   have k2 := u64_of k2
   have k3 := u64_of k3
   have k4 := u64_of k4
   have k5 := u64_of k5
   have k6 := u64_of k6
   have k7 := u64_of k7
   refine ⟨a0, a1, ⟨a2.toNat, a3.toNat, a4.toNat, a5.toNat, a6.toNat, a7.toNat⟩, ⟨by show a2.toNat < _; omega, by show a3.toNat < _; omega, by show a4.toNat < _; omega, by show a5.toNat < _; omega, by show a6.toNat < _; omega, by show a7.toNat < _; omega⟩, ?_⟩
   unfold schedC
   rw [Int.toNat_of_nonneg k2.1, Int.toNat_of_nonneg k3.1, Int.toNat_of_nonneg k4.1, Int.toNat_of_nonneg k5.1, Int.toNat_of_nonneg k6.1, Int.toNat_of_nonneg k7.1]
end Go.Proofs.YtmecbmgfacpecaaGreatDoor.RowArgs
namespace Go.Proofs.YtmecbmgfacpecaaGreatDoor.RowArgs
open Go Go.Proofs.YtmecbmgfacpecaaGreatDoor Go.ChangeShapes Go.WideShapes Go.ChangeAt Go.RowKit Go.Deep Go.Proofs.YtmecbmgfacpecaaGreatDoor.Cal Go.Proofs.YtmecbmgfacpecaaGreatDoorW.PrintWords
set_option linter.unusedVariables false
theorem cells_u8 : Tryz.prog.cellsOf 5 = 1 := by kernel_rfl
theorem c_bytes {w : World} {a : Addr} {len : Nat} {zs : List Int} (hl : len ≤ zs.length) (hm : len ≤ 9223372036854775807) (hc : ∀ i, i < zs.length → w.cell? (a.add i) = some (.int .u8 (zs.getD i 0))) : Kd.C (Kd.int .u8) w (some a) (zs.take len).length (zs.take len) :=
 ⟨rfl, by rw [List.length_take]; omega, fun _ => ⟨a, rfl, fun j p hp => ⟨[.int .u8 p], rfl, rfl, fun i u hu => by
  cases i with
  | succ i => cases hu
  | zero =>
   obtain rfl : u = .int .u8 p := by simpa using hu.symm
   have hj := (List.getElem?_eq_some_iff.1 hp).1
   rw [List.length_take] at hj
   rw [show j * (Kd.int .u8).sz + 0 = j from by show j * 1 + 0 = j; omega, hc j (by omega)]
   rw [List.getElem?_take_of_lt (by omega)] at hp
   rw [List.getD_eq_getElem?_getD, hp]
   rfl⟩⟩⟩
set_option maxRecDepth 100000 in
theorem open_bytes {H : Type} {enc : TypeId × Value → H} {w W : World} {spare : Nat → Bool} {held : Bool} {base b2 : Nat} {r : Reach} {v : Value} {d : DataW H} {p : List MemPlace} (hv : Value.okWide Tryz.prog W r b2 86 v)
  (h : DataW.Trod enc Tryz.prog w base spare held 86 v d p) : ∃ (A : Option Addr) (l : List Int) (cap : Nat), (l.length ≤ cap ∧ (∀ x ∈ l, (0 : Int) ≤ x ∧ x < 256) ∧ Kd.C (Kd.int .u8) w A l.length l) ∧ v = .slice A l.length cap := by
 obtain ⟨a0, n0, c0, rfl⟩ := okWide_slice Tryz.underlying86 hv
 obtain ⟨fuel, hf⟩ := h
 rcases open_ints Tryz.underlying86 Tryz.underlying5 cells_u8 hf with ⟨hcs, -⟩ | ⟨a, len, cap, zs, hcs, hb, hl, hm, hz, -, hcell, hwf⟩
 ·have e : Value.slice a0 n0 c0 = .slice none 0 0 := (List.cons.inj (show [Value.slice a0 n0 c0] = [.slice none 0 0] from hcs)).1
  rw [e]
  exact ⟨none, [], 0, ⟨by simp, fun x hx => by simp at hx, rfl, by simp, fun h => by simp at h⟩, rfl⟩
 ·have e : Value.slice a0 n0 c0 = .slice (some a) len cap := (List.cons.inj (show [Value.slice a0 n0 c0] = [.slice (some a) len cap] from hcs)).1
  rw [e]
  have hlz : len ≤ zs.length := by rw [hz]; split <;> omega
  have hlt : (zs.take len).length = len := by rw [List.length_take]; omega
  refine ⟨some a, zs.take len, cap, ⟨by omega, fun x hx => ?_, c_bytes hlz (by simp only [maxLen] at hm; omega) hcell⟩, by rw [hlt]⟩
  have := hwf x (List.mem_of_mem_take hx)
  simp [Lit.wf] at this
  have h1 : IntKind.u8.min = 0 := by decide
  have h2 : IntKind.u8.max = 255 := by decide
  omega
end Go.Proofs.YtmecbmgfacpecaaGreatDoor.RowArgs
namespace Go.Proofs.YtmecbmgfacpecaaGreatDoor.Cron
open Go Go.RowKit
theorem bcell {W w1 : World} (hb : Below W.heap.size W w1) : (∀ b o, b < W.heap.size → w1.cell? ⟨b, o, none⟩ = W.cell? ⟨b, o, none⟩) ∧ (∀ b o, b < W.heap.size → w1.frozen? ⟨b, o, none⟩ = W.frozen? ⟨b, o, none⟩) :=
 ⟨fun b o h => hb.cell (p := ⟨b, o, none⟩) h, fun b o h => hb.frozen (p := ⟨b, o, none⟩) h⟩
theorem below_of_le {W w1 w2 : World} (h1 : Below W.heap.size W w1) (h2 : Below w1.heap.size w1 w2) : Below W.heap.size W w2 :=
 h1.trans (h2.mono h1.size)
theorem errorsNew_any (s : ByteArray) (w : World) :
  Calls Tryz.prog 96 #[.string s] w fun e w' => ∃ t x, e = .returned (.iface t x) ∧ Below w.heap.size w w' := by
 go_enter Tryz.func96, Tryz.ntmps96
 go_wp2
 go_ret
 exact ⟨_, _, rfl, (Below.refl _ _).alloc (Nat.le_refl _) _⟩
end Go.Proofs.YtmecbmgfacpecaaGreatDoor.Cron
namespace Go.Proofs.YtmecbmgfacpecaaGreatDoor.Cron
open Go Go.RowKit
set_option linter.unusedVariables false
def G (w : World) : Prop :=
 (∃ tp p, w.var? Tryz.prog "strconv.ErrSyntax" = some #[.iface tp p]) ∧ (∃ tp p, w.var? Tryz.prog "strconv.ErrRange" = some #[.iface tp p])
theorem gSyntax : Tryz.prog.globalNamed "strconv.ErrSyntax" = some 7 := by kernel_rfl
theorem gRange : Tryz.prog.globalNamed "strconv.ErrRange" = some 8 := by kernel_rfl
theorem lt_of_var {w : World} {n : String} {g : Nat} {v : Value} (hg : Tryz.prog.globalNamed n = some g) (h : w.var? Tryz.prog n = some #[v]) : g < w.heap.size := by
 have := World.var?_cell hg h 0
 exact Lib.lt_of_cell (show w.cell? ⟨g, 0, none⟩ = some v by simpa using this)
theorem G.below {w w' : World} (h : G w) (hb : Below w.heap.size w w') : G w' := by
 obtain ⟨⟨t, p, h1⟩, t', p', h2⟩ := h
 exact ⟨⟨t, p, var?_below hb gSyntax (lt_of_var gSyntax h1) h1⟩, t', p', var?_below hb gRange (lt_of_var gRange h2) h2⟩
def mp (l : List UInt8) : Option Nat :=
 match Lib.atoiAll l with
 | .ok v => if 0 ≤ v then some v.toNat else none
 | _ => none
theorem mp_le {l : List UInt8} {n : Nat} (h : mp l = some n) : n ≤ 9223372036854775807 := by
 unfold mp at h
 split at h
 ·rename_i v hv
  have := Lib.atoiAll_bounds hv
  split at h
  ·injection h with h
   omega
  ·cases h
 ·cases h
theorem atoi_ok (s : ByteArray) (hs : s.size ≤ 281474976710656) (v : Int) (h : Lib.atoiAll s.data.toList = .ok v) (w : World) :
  Calls Tryz.prog 207 #[.string s] w fun e w' => e = .returned (.tuple #[.int .i64 v, .nilIface]) ∧ Below w.heap.size w w' :=
 (Tryz.strconv_Atoi_ok s (by omega) v h w).mono fun e w' ⟨he, hw⟩ => ⟨he, by
  rcases hw with rfl | ⟨t, rfl⟩
  ·exact Below.refl _ _
  ·exact Lib.bytesWorld_below _ _ _⟩
theorem atoi_bad (s : ByteArray) (hs : s.size ≤ 281474976710656) (h : ∀ v, Lib.atoiAll s.data.toList ≠ .ok v) (w : World) (hg : G w) :
  Calls Tryz.prog 207 #[.string s] w fun e w' => ∃ v t x, e = .returned (.tuple #[.int .i64 v, .iface t x]) ∧ Below w.heap.size w w' := by
 obtain ⟨⟨t, p, h1⟩, t', p', h2⟩ := hg
 rcases e : Lib.atoiAll s.data.toList with v | _ | _
 ·exact absurd e (h v)
 ·exact (Tryz.strconv_Atoi_syntax_var s hs h (by simp [e]) t p w h1).mono fun e w' ⟨N, he, _, _, hb⟩ => ⟨_, _, _, he, hb⟩
 ·exact (Tryz.strconv_Atoi_range_var s hs e t' p' w h2).mono fun e w' ⟨N, he, _, _, hb⟩ => ⟨_, _, _, he, hb⟩
theorem mustParse_ok (s : ByteArray) (hs : s.size ≤ 281474976710656) (n : Nat) (h : mp s.data.toList = some n) (w : World) :
  Calls Tryz.prog 181 #[.string s] w fun e w' => e = .returned (.tuple #[.int .u64 n, .nilIface]) ∧ Below w.heap.size w w' := by
 have hn := mp_le h
 have hv : Lib.atoiAll s.data.toList = .ok n := by
  unfold mp at h
  split at h
  ·rename_i v hv
   split at h
   ·injection h with h
    rw [hv, show (v : Int) = (n : Nat) by omega]
   ·cases h
  ·cases h
 have H := atoi_ok s hs n hv w
 clear h hv
 go_enter Tryz.func181, Tryz.ntmps181
 go_wp2_with (go_at_call 207; refine H.mono ?_; rintro e w' ⟨rfl, hb⟩)
 go_ret2
 exact ⟨rfl, hb⟩
theorem mustParse_bad (s : ByteArray) (hs : s.size ≤ 281474976710656) (h : mp s.data.toList = none) (w : World) (hg : G w) :
  Calls Tryz.prog 181 #[.string s] w fun e w' => ∃ t x, e = .returned (.tuple #[.int .u64 0, .iface t x]) ∧ Below w.heap.size w w' := by
 by_cases hk : ∃ v, Lib.atoiAll s.data.toList = .ok v
 ·obtain ⟨v, hv⟩ := hk
  have hneg : v < 0 := by
   unfold mp at h
   rw [hv] at h
   simp at h
   omega
  have H := atoi_ok s hs v hv w
  clear h hv
  go_enter Tryz.func181, Tryz.ntmps181
  go_wp2_with (first | (go_at_call 207; refine H.mono ?_; rintro e w' ⟨rfl, hb⟩) | (go_at_call 96; refine (errorsNew_any _ _).mono ?_; rintro e w'' ⟨t, x, rfl, hb2⟩))
  go_ret2
  exact ⟨t, x, rfl, below_of_le hb hb2⟩
 ·have H := atoi_bad s hs (fun v hv => hk ⟨v, hv⟩) w hg
  clear h hk
  go_enter Tryz.func181, Tryz.ntmps181
  go_wp2_with (first | (go_at_call 207; refine H.mono ?_; rintro e w' ⟨v, t, x, rfl, hb⟩) | (go_at_call 96; refine (errorsNew_any _ _).mono ?_; rintro e w'' ⟨t2, x2, rfl, hb2⟩))
  go_ret2
  exact ⟨t2, x2, rfl, below_of_le hb hb2⟩
theorem valueNil_ok (s : ByteArray) (hs : s.size ≤ 281474976710656) (n : Nat) (h : mp s.data.toList = some n) (w : World) :
  Calls Tryz.prog 180 #[.string s, .map none] w fun e w' => e = .returned (.tuple #[.int .u64 n, .nilIface]) ∧ Below w.heap.size w w' := by
 have hm := fun w : World => run_neq_map_nil (P := Tryz.prog) w 183 _ _ none Tryz.underlying183
 go_enter Tryz.func180, Tryz.ntmps180
 go_wp2_with (go_at_call 181; refine (mustParse_ok s hs n h _).mono ?_; rintro e w' ⟨rfl, hb⟩)
 go_ret2
 exact ⟨rfl, hb⟩
theorem valueNil_bad (s : ByteArray) (hs : s.size ≤ 281474976710656) (h : mp s.data.toList = none) (w : World) (hg : G w) :
  Calls Tryz.prog 180 #[.string s, .map none] w fun e w' => ∃ t x, e = .returned (.tuple #[.int .u64 0, .iface t x]) ∧ Below w.heap.size w w' := by
 have hm := fun w : World => run_neq_map_nil (P := Tryz.prog) w 183 _ _ none Tryz.underlying183
 go_enter Tryz.func180, Tryz.ntmps180
 go_wp2_with (go_at_call 181; refine (mustParse_bad s hs h _ hg).mono ?_; rintro e w' ⟨t, x, rfl, hb⟩)
 go_ret2
 exact ⟨t, x, rfl, hb⟩
end Go.Proofs.YtmecbmgfacpecaaGreatDoor.Cron
