/- Lemmas and walks on the way to the law, merged by wip/tools/pack.py: Laid, NextMany, Split, Bits, Range, SplitCalls. Conditions: none. -/
import Derived.Test.YtmecbmgfacpecaaGreatDoorGrF
import Derived.Lib.LaidU8
import Derived.MakeChecks
import Derived.Stop.Joined
import Derived.Deep.AppendLies
import Derived.Test.YtmecbmgfacpecaaGreatDoorPrSplitT
import Derived.Test.YtmecbmgfacpecaaGreatDoorPrA
import Derived.Laws.BitsLemmas
import Derived.WalkKit
namespace Go.Proofs.YtmecbmgfacpecaaGreatDoor.Cron
open Go Go.RowKit
set_option linter.unusedVariables false
theorem iface_of_trod {H : Type} {enc : TypeId × Value → H} {P : Program} {w : World} {base : Nat} {sp : Nat → Bool} {held : Bool} {fuel : Nat} {t : TypeId} {ms : Array (String × TypeId)} {cs : List Value} {nm : String} {d : DataW H} {p : List MemPlace}
  (hu : P.underlying t = some (.interface ms)) (h : DataW.trod enc P w base sp held fuel t cs = some (.iface nm d, p)) : ∃ u v, cs = [.iface u v] := by
 cases fuel with
 | zero => cases h
 | succ n =>
  unfold DataW.trod at h
  rw [hu] at h
  match cs, h with
  | [], h => simp at h
  | [c], h => cases c <;> first | exact ⟨_, _, rfl⟩ | (simp at h)
  | _ :: _ :: _, h => simp at h
theorem sentinel_reads {P : Program} {w : World} {n nm : String} {d : DataW Unit} {g : Nat} {t : TypeId} {ms : Array (String × TypeId)} (hg : P.globalNamed n = some g) (ht : (P.globals[g]?).map (·.type) = some t) (hu : P.underlying t = some (.interface ms))
  (h : Lib.VarReads P w n (.iface nm d)) : ∃ u v, w.var? P n = some #[.iface u v] := by
 obtain ⟨g', t', cs, fuel, p, hg', ht', hv, hd⟩ := h
 obtain rfl := Option.some.inj (hg.symm.trans hg')
 obtain rfl := Option.some.inj (ht.symm.trans ht')
 obtain ⟨u, v, e⟩ := iface_of_trod hu hd
 refine ⟨u, v, ?_⟩
 rw [hv]
 obtain ⟨l⟩ := cs
 simp only at e
 rw [e]
theorem tSyntax : (Tryz.prog.globals[7]?).map (·.type) = some 112 := by kernel_rfl
theorem tRange : (Tryz.prog.globals[8]?).map (·.type) = some 112 := by kernel_rfl
theorem g_of_met {laid : List (String × DataW Unit)} {w : World} {nm1 nm2 : String} {d1 d2 : DataW Unit} (h : laidMet Tryz.prog laid w) (h1 : ("strconv.ErrSyntax", DataW.iface nm1 d1) ∈ laid) (h2 : ("strconv.ErrRange", DataW.iface nm2 d2) ∈ laid) : G w :=
 ⟨sentinel_reads gSyntax tSyntax Tryz.underlying112 (Lib.laidMet.reads h h1), sentinel_reads gRange tRange Tryz.underlying112 (Lib.laidMet.reads h h2)⟩
end Go.Proofs.YtmecbmgfacpecaaGreatDoor.Cron
namespace Go.Proofs.YtmecbmgfacpecaaGreatDoor.CronN
open Go Go.RowKit Go.Proofs.YtmecbmgfacpecaaGreatDoorW.PrintWords Go.Proofs.YtmecbmgfacpecaaGreatDoorW.PrintLast Go.Proofs.YtmecbmgfacpecaaGreatDoor.Cal Go.Proofs.YtmecbmgfacpecaaGreatDoor.Sched
set_option linter.unusedVariables false
set_option linter.unusedSimpArgs false
def at_ (sec : Int) (L : List Int) (i : Nat) : Int := (sec :: L).getD i 0
def Many (S : Sets) (sec : Int) (L : List Int) : Prop := ∀ i, i < L.length → Least S (at_ sec L i + 1) (yearL (at_ sec L i + 1) + 5) (some (at_ sec L (i + 1)))
theorem at_app {sec : Int} {L M : List Int} {i : Nat} (h : i ≤ L.length) : at_ sec (L ++ M) i = at_ sec L i := by
 unfold at_
 rw [List.getD_eq_getElem?_getD, List.getD_eq_getElem?_getD, ← List.cons_append, List.getElem?_append_left (by simp; omega)]
theorem at_new (sec : Int) (L : List Int) (x : Int) : at_ sec (L ++ [x]) (L.length + 1) = x := by
 unfold at_
 rw [List.getD_eq_getElem?_getD, ← List.cons_append, List.getElem?_append_right (by simp)]
 simp
theorem Many.snoc {S : Sets} {sec x : Int} {L : List Int} (h : Many S sec L) (hx : Least S (at_ sec L L.length + 1) (yearL (at_ sec L L.length + 1) + 5) (some x)) : Many S sec (L ++ [x]) := by
 intro i hi
 rw [List.length_append, List.length_singleton] at hi
 by_cases e : i < L.length
 ·rw [at_app (by omega), at_app (by omega)]
  exact h i e
 ·obtain rfl : i = L.length := by omega
  rw [at_app (Nat.le_refl _), at_new]
  exact hx
theorem year_succ (x : Int) : yearL (x + 1) ≤ yearL x + 1 := by
 have h1 := (year_range x).2
 have h2 := (year_range (x + 1)).1
 by_cases h : yearL x + 2 ≤ yearL (x + 1)
 ·have h3 := ystart_le h
  have h4 := ystart_le (a := yearL x + 1) (b := yearL x + 2) (by omega)
  have h5 : ystart (yearL x + 1) < ystart (yearL x + 2) := by unfold ystart; omega
  omega
 ·omega
def timeCells : Option Int → Array Value
 | none => zcells
 | some L => tcells none 0 L
theorem timeCells_size (r : Option Int) : (timeCells r).size = 3 := by cases r <;> rfl
theorem timeCells_one (r : Option Int) : (timeCells r).all (·.oneCell') = true := by cases r <;> simp [timeCells, zcells, tcells, Value.oneCell']
theorem ansT_cells (r : Option Int) : ansT none 0 r = .agg (timeCells r) := by cases r <;> rfl
def TimeRow (w : World) (g : Nat) : Prop := w.heap[g]? = some (.cells zcells 127 (0, 0))
theorem TimeRow.below {w w' : World} {g : Nat} (h : TimeRow w g) (hb : Below w.heap.size w w') : TimeRow w' g := (hb.block g (Array.getElem?_eq_some_iff.1 h).1).trans h
theorem timeRow_of {B : Nat} {wo W : World} (h : Below B wo W) : TimeRow (W.alloc (.cells zcells 127 (0, 0))) W.heap.size := heap_alloc_new W _
theorem run_alloc_time (w : World) : (Instr.alloc 127 true (.tuple #[])).run Tryz.prog w = .ok (.pointer (some ⟨w.heap.size, 0, none⟩)) (w.alloc (.cells zcells 127 (0, 0))) := by kernel_rfl
theorem exec_alloc_time (ev : Operand → Value) (oi : Oper) (w : World) (ho : oi.op = .alloc 127) :
  (execOp ev oi).run Tryz.prog w = .ok (.value (.pointer (some ⟨w.heap.size, 0, none⟩))) (w.alloc (.cells zcells 127 (0, 0))) := by
 have := run_alloc_time w
 unfold execOp
 rw [ho]
 simp only [Sem.run_bind, Sem.run_pure, Result.andThen_ok, this]
theorem nextRaw_any (S : Sets) (hS : S.ok) (g : Nat) (cur nn : Int) (h0 : -62135596800 ≤ cur) (hy : yearL (cur + 1) ≤ 10093) (n0 : 0 ≤ nn) (n1 : nn < 1000000000) (w : World) (hg : SpecRow w g S none) :
  Calls Tryz.prog 249 #[.pointer (some ⟨g, 0, none⟩), .agg #[.int .u64 nn, .int .i64 (cur + 62135596800), .pointer none]] w fun e w' => ∃ r, Least S (cur + 1) (yearL (cur + 1) + 5) r ∧ e = .returned (.agg (timeCells r)) ∧ Below w.heap.size w w' := by
 have hlt := lim_lt (L := cur + 1) (y := 10093) hy
 rw [show ystart (10093 + 1) = 2967231 from by decide] at hlt
 have hP : Par 0 (fun _ => True) w g S (cur + 1) (yearL (cur + 1) + 5) := ⟨trivial, hg, hS, by omega, by omega, by omega, by omega, by omega, .inl (year_one (by omega))⟩
 refine (next_any clock_utc locS_utc hP (by decide) nn (cur + 62135596800) n0 n1 (by omega) (by omega) (by omega) rfl).mono ?_
 rintro e w' ⟨r, hr, rfl, hb⟩
 exact ⟨r, hr, by rw [ansT_cells], hb⟩
def instC : Option Int → Array Value
 | none => #[.int .i64 0, .int .i64 0]
 | some L => #[.int .i64 L, .int .i64 0]
theorem instC_size (r : Option Int) : (instC r).size = 2 := by cases r <;> rfl
theorem instC_one (r : Option Int) : (instC r).all (·.oneCell') = true := by cases r <;> simp [instC, Value.oneCell']
theorem answerU_any (r : Option Int) (hr : ∀ L, r = some L → 0 < L + 62135596800 ∧ L + 62135596800 ≤ 900000000000) (w : World) :
  Calls Tryz.prog 64 #[.agg (timeCells r)] w fun e' w' => e' = .returned (.tuple #[.agg (instC r), .bool r.isSome]) ∧ Below w.heap.size w w' := by
 have := answer_any none 0 r (fun L h => by have := hr L h; omega) w
 rw [ansT_cells] at this
 refine this.mono ?_
 rintro e' w' ⟨rfl, hb⟩
 refine ⟨?_, hb⟩
 cases r with
 | none => rfl
 | some L =>
  show Ending.returned (.tuple #[.agg #[.int .i64 (L - 0), .int .i64 0], .bool true]) = .returned (.tuple #[.agg #[.int .i64 L, .int .i64 0], .bool true])
  rw [Int.sub_zero]
def instL (L : List Int) : List Value := L.flatMap fun x => [.int .i64 x, .int .i64 0]
theorem instL_snoc (L : List Int) (x : Int) : instL (L ++ [x]) = instL L ++ [.int .i64 x, .int .i64 0] := by simp [instL]
theorem info_inst : ∃ i, Tryz.prog.info? 50 = some i ∧ i.zero = some (.agg #[.int .i64 0, .int .i64 0]) ∧ i.size = 2 ∧ i.bytes = 16 := by
 have h1 : (Tryz.prog.info? 50).map (fun i => (i.zero, i.size, i.bytes)) = some (some (.agg #[.int .i64 0, .int .i64 0]), 2, 16) := by kernel_rfl
 cases h : Tryz.prog.info? 50 with
 | none => rw [h] at h1; cases h1
 | some i =>
  rw [h] at h1
  simp only [Option.map_some, Option.some.injEq, Prod.mk.injEq] at h1
  exact ⟨i, rfl, h1⟩
def lenOf : Value → Nat
 | .slice _ n _ => n
 | _ => 0
def ManyAns (S : Sets) (sec : Int) (n : Nat) (w : World) (e : Ending) (w' : World) : Prop := ∃ (A : Option Addr) (cap : Nat) (L : List Int), e = .returned (.slice A L.length cap) ∧ L.length ≤ n ∧ Many S sec L ∧ (L.length < n → Least S (at_ sec L L.length + 1) (yearL (at_ sec L L.length + 1) + 5) none) ∧
 w'.ownsRow w.heap.size 50 2 (.slice A L.length cap) L.length (instL L) ∧ Below w.heap.size w w'
theorem spec_ne {w : World} {g T : Nat} {S : Sets} {cs : Array Value} {fr : Nat × Nat} (h : SpecRow w g S none) (hT : w.heap[T]? = some (.cells cs 127 fr)) : g ≠ T := by
 rintro rfl
 unfold SpecRow at h
 rw [h] at hT
 simp at hT
theorem own_bel {w w' : World} {base : Nat} {e : TypeId} {size n : Nat} {v : Value} {xs : List Value} (h : w.ownsRow base e size v n xs) (hb : Below w.heap.size w w') : w'.ownsRow base e size v n xs := own_move h (fun b hk => hb.block b (h.lt b hk).2)
theorem own_no {w : World} {base : Nat} {e : TypeId} {size n : Nat} {v : Value} {xs : List Value} (h : w.ownsRow base e size v n xs) {c : Nat} {cs : Array Value} {t : TypeId} {fr : Nat × Nat} (hc : w.heap[c]? = some (.cells cs t fr)) (ht : e ≠ t) : v.ownBlock ≠ some c := by
 intro hk
 obtain ⟨cells, h1⟩ := own_typed h c hk
 rw [h1] at hc
 simp only [Option.some.injEq, Obj.cells.injEq] at hc
 exact ht hc.2.1
theorem own_row {w : World} {base : Nat} {e : TypeId} {size n : Nat} {v : Value} {xs : List Value} (h : w.ownsRow base e size v n xs) {c : Nat} {cs : Array Value} {t : TypeId} {fr : Nat × Nat} (hc : w.heap[c]? = some (.cells cs t fr)) (ht : e ≠ t) (cs' : Array Value) : (w.setRow c cs').ownsRow base e size v n xs :=
 own_move h (fun b hb => setRow_other _ _ _ _ (fun e' => by
  obtain ⟨cells, h1⟩ := own_typed h b hb
  rw [e', hc] at h1
  simp only [Option.some.injEq, Obj.cells.injEq] at h1
  exact ht h1.2.1.symm))
structure Stand (sec : Int) (L : List Int) (cur nn : Int) : Prop where
 is : at_ sec L L.length = cur
 low : -62135596800 ≤ cur
 year : yearL (cur + 1) ≤ 10000 + 6 * (L.length : Int)
 n0 : 0 ≤ nn
 n1 : nn < 1000000000
theorem Stand.next {S : Sets} {sec : Int} {L : List Int} {cur nn x : Int} (h : Stand sec L cur nn) (hx : Least S (cur + 1) (yearL (cur + 1) + 5) (some x)) : Stand sec (L ++ [x]) x 0 := by
 have h1 := hx.1
 have h2 := hx.2.2.2
 have h3 := h.low
 have h4 := h.year
 have h5 := year_succ x
 refine ⟨by rw [List.length_append, List.length_singleton, at_new], by omega, ?_, by omega, by omega⟩
 rw [List.length_append, List.length_singleton]
 push_cast
 omega
set_option maxRecDepth 100000 in
set_option maxHeartbeats 16000000 in
theorem nextMany_any (d : Int) (S : Sets) (hS : S.ok) (sec nano : Int) (hgd : goodB sec nano = true) (n : Nat) (hn : n ≤ 16) (w : World) :
  Calls Tryz.prog 39 #[.agg (setsCells d S), .agg #[.int .i64 sec, .int .i64 nano], utcZone, .int .i64 n] w (ManyAns S sec n w) := by
 obtain ⟨s0, s1, n0, n1⟩ := goodB_iff.1 hgd
 have HSC := Lib.hid (fun w' => schedSets_any d S w')
 have HLU := Lib.hid (fun w' => locationUtc_any w')
 have HMO := Lib.hid (fun k w' hk => moment_any clock_utc k sec nano n0 n1 (by omega) (by omega) w' hk)
 have HNX := Lib.hid (fun g cur nn h0 hy a b w' hg => nextRaw_any S hS g cur nn h0 hy a b w' hg)
 have HAN := Lib.hid (fun r hr w' => answerU_any r hr w')
 have hmf : ∀ (fn : Fn) (first cap : Array Value) (w : World), (Instr.makeFunc fn first cap).run Tryz.prog w = .ok (.func fn first cap) w := fun _ _ _ _ => rfl
 have HY0 := Lib.hid (show yearL (sec + 1) ≤ 10000 from year_top (by omega))
 have HBD := Lib.hid (And.intro s0 (And.intro n0 n1))
 clear hgd s1
 unfold utcZone at *
 go_enter Tryz.func39, Tryz.ntmps39
 go_upto_region 2 with fail
 generalize hW : World.alloc (World.alloc (World.alloc w _) _) _ = wo
 have hr0 : wo.heap[w.heap.size]? = some (.cells (setsCells d S) 26 (0, 0)) := by
  rw [← hW, Below.heap_alloc _ _ _ (by simp; try omega), Below.heap_alloc _ _ _ (by simp; try omega)]
  exact heap_alloc_new w _
 have hr1 : wo.heap[w.heap.size + 1]? = some (.cells #[.int .i64 sec, .int .i64 nano] 50 (0, 0)) := by
  rw [← hW, Below.heap_alloc _ _ _ (by simp; try omega)]
  exact heap_two w _ _
 have hr2 : wo.heap[w.heap.size + 1 + 1]? = some (.cells #[.slice none 0 0, .slice none 0 0, .slice none 0 0, .slice none 0 0] 71 (0, 0)) := by
  rw [← hW]
  have := heap_two (w.alloc (.cells (setsCells d S) 26)) (.cells #[.int .i64 sec, .int .i64 nano] 50) (.cells #[.slice none 0 0, .slice none 0 0, .slice none 0 0, .slice none 0 0] 71)
  rw [show (w.alloc (.cells (setsCells d S) 26)).heap.size = w.heap.size + 1 by simp] at this
  exact this
 have hB : Below w.heap.size w wo := by
  rw [← hW]
  exact (((Below.refl _ _).alloc (Nat.le_refl _) _).alloc (by simp) _).alloc (by simp only [World.alloc]; simp; try omega) _
 clear hW
 refine start_ (n := 9) (S := fun w' => w'.heap[w.heap.size]? = some (.cells (setsCells d S) 26 (0, 0)) ∧ w'.heap[w.heap.size + 1]? = some (.cells #[.int .i64 sec, .int .i64 nano] 50 (0, 0)) ∧ w'.heap[w.heap.size + 1 + 1]? = some (.cells #[.slice none 0 0, .slice none 0 0, .slice none 0 0, .slice none 0 0] 71 (0, 0)) ∧ Below wo.heap.size wo w') (ds := [8]) #[false, false, false, false, false, false, false, false, false] (by kernel_rfl) rfl rfl ⟨hr0, hr1, hr2, (Below.refl _ _).drew⟩ (fun hHeld => ?_)
 refine take_ (i := 0) (N := some 14) (v := ?_) (a' := ?_) #[true, false, false, false, false, false, false, false, false] rfl rfl (by kernel_rfl) (fun _ _ _ h => h) (Or.inl ⟨by rfl, ?_⟩) hHeld ?_ ?_
 rotate_left
 ·rintro w' ⟨s0, s1, s2, s3⟩
  refine exec_load_row _ _ w' 26 (.tmp 4) ?_ (w.heap.size) ?_ _ _ _ _ s0 Tryz.underlying26 rfl schedSize
  ·rfl
  ·rfl
 rotate_left
 ·simp only [Act.put, List.setIfInBounds_toArray, List.set_cons_zero, List.set_cons_succ, i64_w, i32_w]
  rfl
 refine take_ (i := 2) (N := some 16) (v := ?_) (a' := ?_) #[true, false, true, false, false, false, false, false, false] rfl rfl (by kernel_rfl) (fun _ _ _ h => h) (Or.inl ⟨by rfl, ?_⟩) hHeld ?_ ?_
 rotate_left
 ·rintro w' ⟨s0, s1, s2, s3⟩
  refine exec_load_row _ _ w' 50 (.tmp 5) ?_ (w.heap.size + 1) ?_ _ _ _ _ s1 Tryz.underlying50 rfl instSize
  ·rfl
  ·rfl
 rotate_left
 ·simp only [Act.put, List.setIfInBounds_toArray, List.set_cons_zero, List.set_cons_succ, i64_w, i32_w]
  rfl
 refine take_ (i := 3) (N := some 17) (v := ?_) (a' := ?_) #[true, false, true, true, false, false, false, false, false] rfl rfl (by kernel_rfl) (fun _ _ _ h => h) (Or.inl ⟨by rfl, ?_⟩) hHeld ?_ ?_
 rotate_left
 ·rintro w' ⟨s0, s1, s2, s3⟩
  refine exec_load_row _ _ w' 71 (.tmp 6) ?_ (w.heap.size + 1 + 1) ?_ _ _ _ _ s2 Tryz.underlying71 rfl zoneSize
  ·rfl
  ·rfl
 rotate_left
 ·simp only [Act.put, List.setIfInBounds_toArray, List.set_cons_zero, List.set_cons_succ, i64_w, i32_w]
  rfl
 refine join_ (σ := Nat × Nat × Nat) 2 #[true, true, true, true, true, true, true, false, false] (fun s => [(15, .iface 169 (.pointer (some ⟨s.1, 0, none⟩))), (18, .pointer (some ⟨s.2.1, 0, none⟩)), (19, tv nano (sec + 62135596800) none), (11, .pointer (some ⟨s.2.2, 0, none⟩))]) (fun s w' => SpecRow w' s.1 S none ∧ TimeRow w' s.2.2 ∧ wo.heap.size ≤ s.2.2 ∧ (w'.heap[w.heap.size]? = some (.cells (setsCells d S) 26 (0, 0)) ∧ w'.heap[w.heap.size + 1]? = some (.cells #[.int .i64 sec, .int .i64 nano] 50 (0, 0)) ∧ w'.heap[w.heap.size + 1 + 1]? = some (.cells #[.slice none 0 0, .slice none 0 0, .slice none 0 0, .slice none 0 0] 71 (0, 0)) ∧ Below wo.heap.size wo w')) ?_ ?_
 rotate_left
 ·intro hCont
  refine two_ (i := 1) (j := 6) (Ni := some 15) (Nj := some 11) #[true, true, true, true, false, false, false, false, false] #[true, false, true, true, false, false, true, false, false] rfl rfl rfl rfl (by kernel_rfl) (by decide) (by decide) (fun K hK => ?_) (fun K hK => ?_)
  ·skip
   refine goes_ Tryz.func65 (by kernel_rfl) rfl #[.agg (setsCells d S), .pointer none] (by rfl) rfl rfl (by simp only [List.map_toArray, List.map_cons, List.map_nil]; rfl) ?_
   with_reducible refine (HSC.out _).mono ?_
   rintro e w4 ⟨gs, rfl, hgs, hb4⟩
   refine ⟨_, rfl, ?_⟩
   refine hK.out _ _ ⟨row_keep hHeld.1 hb4, row_keep hHeld.2.1 hb4, row_keep hHeld.2.2.1 hb4, below_le hHeld.2.2.2 hb4⟩ (fun hHeld => ?_)
   clear hK K
   refine norm_ (a' := ?_) ?_ ?_
   rotate_left
   ·show Act.put _ (some 15) _ = _
    simp only [Act.put, List.setIfInBounds_toArray, List.set_cons_zero, List.set_cons_succ, i64_w, i32_w]
    rfl
   refine two_ (i := 4) (j := 6) (Ni := some 18) (Nj := some 11) #[true, true, true, true, true, false, false, false, false] #[true, true, true, true, false, false, true, false, false] rfl rfl rfl rfl (by kernel_rfl) (by decide) (by decide) (fun K hK => ?_) (fun K hK => ?_)
   ·skip
    refine goes_ Tryz.func67 (by kernel_rfl) rfl #[.agg #[.slice none 0 0, .slice none 0 0, .slice none 0 0, .slice none 0 0]] (by rfl) rfl rfl (by simp only [List.map_toArray, List.map_cons, List.map_nil]; rfl) ?_
    with_reducible refine (HLU.out _).mono ?_
    rintro e w5 ⟨kl, rfl, hkl, hb5⟩
    refine ⟨_, rfl, ?_⟩
    refine hK.out _ _ ⟨row_keep hHeld.1 hb5, row_keep hHeld.2.1 hb5, row_keep hHeld.2.2.1 hb5, below_le hHeld.2.2.2 hb5⟩ (fun hHeld => ?_)
    clear hK K
    refine norm_ (a' := ?_) ?_ ?_
    rotate_left
    ·show Act.put _ (some 18) _ = _
     simp only [Act.put, List.setIfInBounds_toArray, List.set_cons_zero, List.set_cons_succ, i64_w, i32_w]
     rfl
    refine two_ (i := 5) (j := 6) (Ni := some 19) (Nj := some 11) #[true, true, true, true, true, true, false, false, false] #[true, true, true, true, true, false, true, false, false] rfl rfl rfl rfl (by kernel_rfl) (by decide) (by decide) (fun K hK => ?_) (fun K hK => ?_)
    ·skip
     refine goes_ Tryz.func66 (by kernel_rfl) rfl #[.agg #[.int .i64 sec, .int .i64 nano], .pointer (some ⟨kl, 0, none⟩)] (by rfl) rfl rfl (by simp only [List.map_toArray, List.map_cons, List.map_nil]; rfl) ?_
     with_reducible refine (HMO.out kl _ hkl).mono ?_
     rintro e w6 ⟨rfl, hb6⟩
     refine ⟨_, rfl, ?_⟩
     refine hK.out _ _ ⟨row_keep hHeld.1 hb6, row_keep hHeld.2.1 hb6, row_keep hHeld.2.2.1 hb6, below_le hHeld.2.2.2 hb6⟩ (fun hHeld => ?_)
     clear hK K
     refine norm_ (a' := ?_) ?_ ?_
     rotate_left
     ·show Act.put _ (some 19) _ = _
      simp only [Act.put, List.setIfInBounds_toArray, List.set_cons_zero, List.set_cons_succ, i64_w, i32_w]
      rfl
     refine one_ (i := 6) (N := some 11) #[true, true, true, true, true, true, true, false, false] rfl rfl (by kernel_rfl) (by decide) (fun K hK => ?_)
     have hge7 := hHeld.2.2.2.size
     have hs7 := timeRow_of hHeld.2.2.2
     refine value_ (by rfl) rfl (exec_alloc_time _ _ _ rfl) ?_
     refine hK.out _ _ ⟨row_keep hHeld.1 ((Below.refl _ _).alloc (Nat.le_refl _) _), row_keep hHeld.2.1 ((Below.refl _ _).alloc (Nat.le_refl _) _), row_keep hHeld.2.2.1 ((Below.refl _ _).alloc (Nat.le_refl _) _), hHeld.2.2.2.alloc hHeld.2.2.2.size _⟩ (fun hHeld => ?_)
     clear hK K
     refine norm_ (a' := ?_) ?_ ?_
     rotate_left
     ·show Act.put _ (some 11) _ = _
      simp only [Act.put, List.setIfInBounds_toArray, List.set_cons_zero, List.set_cons_succ, i64_w, i32_w]
      rfl
     exact norm_ (by simp only [putAll, Act.put, List.setIfInBounds_toArray, List.set_cons_zero, List.set_cons_succ]) (hCont (gs, kl, w6.heap.size) _ ⟨((hgs.below hb5).below hb6).below ((Below.refl _ _).alloc (Nat.le_refl _) _), hs7, hge7, hHeld⟩)
    ·skip
     have hge7 := hHeld.2.2.2.size
     have hs7 := timeRow_of hHeld.2.2.2
     refine value_ (by rfl) rfl (exec_alloc_time _ _ _ rfl) ?_
     refine hK.out _ _ ⟨row_keep hHeld.1 ((Below.refl _ _).alloc (Nat.le_refl _) _), row_keep hHeld.2.1 ((Below.refl _ _).alloc (Nat.le_refl _) _), row_keep hHeld.2.2.1 ((Below.refl _ _).alloc (Nat.le_refl _) _), hHeld.2.2.2.alloc hHeld.2.2.2.size _⟩ (fun hHeld => ?_)
     clear hK K
     refine norm_ (a' := ?_) ?_ ?_
     rotate_left
     ·show Act.put _ (some 11) _ = _
      simp only [Act.put, List.setIfInBounds_toArray, List.set_cons_zero, List.set_cons_succ, i64_w, i32_w]
      rfl
     refine one_ (i := 5) (N := some 19) #[true, true, true, true, true, true, true, false, false] rfl rfl (by kernel_rfl) (by decide) (fun K hK => ?_)
     refine goes_ Tryz.func66 (by kernel_rfl) rfl #[.agg #[.int .i64 sec, .int .i64 nano], .pointer (some ⟨kl, 0, none⟩)] (by rfl) rfl rfl (by simp only [List.map_toArray, List.map_cons, List.map_nil]; rfl) ?_
     with_reducible refine (HMO.out kl _ (clock_utc.locK hkl ((Below.refl _ _).alloc (Nat.le_refl _) _))).mono ?_
     rintro e w6 ⟨rfl, hb6⟩
     refine ⟨_, rfl, ?_⟩
     refine hK.out _ _ ⟨row_keep hHeld.1 hb6, row_keep hHeld.2.1 hb6, row_keep hHeld.2.2.1 hb6, below_le hHeld.2.2.2 hb6⟩ (fun hHeld => ?_)
     clear hK K
     refine norm_ (a' := ?_) ?_ ?_
     rotate_left
     ·show Act.put _ (some 19) _ = _
      simp only [Act.put, List.setIfInBounds_toArray, List.set_cons_zero, List.set_cons_succ, i64_w, i32_w]
      rfl
     exact norm_ (by simp only [putAll, Act.put, List.setIfInBounds_toArray, List.set_cons_zero, List.set_cons_succ]) (hCont (gs, kl, w5.heap.size) _ ⟨((hgs.below hb5).below ((Below.refl _ _).alloc (Nat.le_refl _) _)).below hb6, hs7.below hb6, hge7, hHeld⟩)
   ·skip
    have hge7 := hHeld.2.2.2.size
    have hs7 := timeRow_of hHeld.2.2.2
    refine value_ (by rfl) rfl (exec_alloc_time _ _ _ rfl) ?_
    refine hK.out _ _ ⟨row_keep hHeld.1 ((Below.refl _ _).alloc (Nat.le_refl _) _), row_keep hHeld.2.1 ((Below.refl _ _).alloc (Nat.le_refl _) _), row_keep hHeld.2.2.1 ((Below.refl _ _).alloc (Nat.le_refl _) _), hHeld.2.2.2.alloc hHeld.2.2.2.size _⟩ (fun hHeld => ?_)
    clear hK K
    refine norm_ (a' := ?_) ?_ ?_
    rotate_left
    ·show Act.put _ (some 11) _ = _
     simp only [Act.put, List.setIfInBounds_toArray, List.set_cons_zero, List.set_cons_succ, i64_w, i32_w]
     rfl
    refine one_ (i := 4) (N := some 18) #[true, true, true, true, true, false, true, false, false] rfl rfl (by kernel_rfl) (by decide) (fun K hK => ?_)
    refine goes_ Tryz.func67 (by kernel_rfl) rfl #[.agg #[.slice none 0 0, .slice none 0 0, .slice none 0 0, .slice none 0 0]] (by rfl) rfl rfl (by simp only [List.map_toArray, List.map_cons, List.map_nil]; rfl) ?_
    with_reducible refine (HLU.out _).mono ?_
    rintro e w5 ⟨kl, rfl, hkl, hb5⟩
    refine ⟨_, rfl, ?_⟩
    refine hK.out _ _ ⟨row_keep hHeld.1 hb5, row_keep hHeld.2.1 hb5, row_keep hHeld.2.2.1 hb5, below_le hHeld.2.2.2 hb5⟩ (fun hHeld => ?_)
    clear hK K
    refine norm_ (a' := ?_) ?_ ?_
    rotate_left
    ·show Act.put _ (some 18) _ = _
     simp only [Act.put, List.setIfInBounds_toArray, List.set_cons_zero, List.set_cons_succ, i64_w, i32_w]
     rfl
    refine one_ (i := 5) (N := some 19) #[true, true, true, true, true, true, true, false, false] rfl rfl (by kernel_rfl) (by decide) (fun K hK => ?_)
    refine goes_ Tryz.func66 (by kernel_rfl) rfl #[.agg #[.int .i64 sec, .int .i64 nano], .pointer (some ⟨kl, 0, none⟩)] (by rfl) rfl rfl (by simp only [List.map_toArray, List.map_cons, List.map_nil]; rfl) ?_
    with_reducible refine (HMO.out kl _ hkl).mono ?_
    rintro e w6 ⟨rfl, hb6⟩
    refine ⟨_, rfl, ?_⟩
    refine hK.out _ _ ⟨row_keep hHeld.1 hb6, row_keep hHeld.2.1 hb6, row_keep hHeld.2.2.1 hb6, below_le hHeld.2.2.2 hb6⟩ (fun hHeld => ?_)
    clear hK K
    refine norm_ (a' := ?_) ?_ ?_
    rotate_left
    ·show Act.put _ (some 19) _ = _
     simp only [Act.put, List.setIfInBounds_toArray, List.set_cons_zero, List.set_cons_succ, i64_w, i32_w]
     rfl
    exact norm_ (by simp only [putAll, Act.put, List.setIfInBounds_toArray, List.set_cons_zero, List.set_cons_succ]) (hCont (gs, kl, w4.heap.size) _ ⟨((hgs.below ((Below.refl _ _).alloc (Nat.le_refl _) _)).below hb5).below hb6, (hs7.below hb5).below hb6, hge7, hHeld⟩)
  ·skip
   have hge7 := hHeld.2.2.2.size
   have hs7 := timeRow_of hHeld.2.2.2
   refine value_ (by rfl) rfl (exec_alloc_time _ _ _ rfl) ?_
   refine hK.out _ _ ⟨row_keep hHeld.1 ((Below.refl _ _).alloc (Nat.le_refl _) _), row_keep hHeld.2.1 ((Below.refl _ _).alloc (Nat.le_refl _) _), row_keep hHeld.2.2.1 ((Below.refl _ _).alloc (Nat.le_refl _) _), hHeld.2.2.2.alloc hHeld.2.2.2.size _⟩ (fun hHeld => ?_)
   clear hK K
   refine norm_ (a' := ?_) ?_ ?_
   rotate_left
   ·show Act.put _ (some 11) _ = _
    simp only [Act.put, List.setIfInBounds_toArray, List.set_cons_zero, List.set_cons_succ, i64_w, i32_w]
    rfl
   refine one_ (i := 1) (N := some 15) #[true, true, true, true, false, false, true, false, false] rfl rfl (by kernel_rfl) (by decide) (fun K hK => ?_)
   refine goes_ Tryz.func65 (by kernel_rfl) rfl #[.agg (setsCells d S), .pointer none] (by rfl) rfl rfl (by simp only [List.map_toArray, List.map_cons, List.map_nil]; rfl) ?_
   with_reducible refine (HSC.out _).mono ?_
   rintro e w4 ⟨gs, rfl, hgs, hb4⟩
   refine ⟨_, rfl, ?_⟩
   refine hK.out _ _ ⟨row_keep hHeld.1 hb4, row_keep hHeld.2.1 hb4, row_keep hHeld.2.2.1 hb4, below_le hHeld.2.2.2 hb4⟩ (fun hHeld => ?_)
   clear hK K
   refine norm_ (a' := ?_) ?_ ?_
   rotate_left
   ·show Act.put _ (some 15) _ = _
    simp only [Act.put, List.setIfInBounds_toArray, List.set_cons_zero, List.set_cons_succ, i64_w, i32_w]
    rfl
   refine one_ (i := 4) (N := some 18) #[true, true, true, true, true, false, true, false, false] rfl rfl (by kernel_rfl) (by decide) (fun K hK => ?_)
   refine goes_ Tryz.func67 (by kernel_rfl) rfl #[.agg #[.slice none 0 0, .slice none 0 0, .slice none 0 0, .slice none 0 0]] (by rfl) rfl rfl (by simp only [List.map_toArray, List.map_cons, List.map_nil]; rfl) ?_
   with_reducible refine (HLU.out _).mono ?_
   rintro e w5 ⟨kl, rfl, hkl, hb5⟩
   refine ⟨_, rfl, ?_⟩
   refine hK.out _ _ ⟨row_keep hHeld.1 hb5, row_keep hHeld.2.1 hb5, row_keep hHeld.2.2.1 hb5, below_le hHeld.2.2.2 hb5⟩ (fun hHeld => ?_)
   clear hK K
   refine norm_ (a' := ?_) ?_ ?_
   rotate_left
   ·show Act.put _ (some 18) _ = _
    simp only [Act.put, List.setIfInBounds_toArray, List.set_cons_zero, List.set_cons_succ, i64_w, i32_w]
    rfl
   refine one_ (i := 5) (N := some 19) #[true, true, true, true, true, true, true, false, false] rfl rfl (by kernel_rfl) (by decide) (fun K hK => ?_)
   refine goes_ Tryz.func66 (by kernel_rfl) rfl #[.agg #[.int .i64 sec, .int .i64 nano], .pointer (some ⟨kl, 0, none⟩)] (by rfl) rfl rfl (by simp only [List.map_toArray, List.map_cons, List.map_nil]; rfl) ?_
   with_reducible refine (HMO.out kl _ hkl).mono ?_
   rintro e w6 ⟨rfl, hb6⟩
   refine ⟨_, rfl, ?_⟩
   refine hK.out _ _ ⟨row_keep hHeld.1 hb6, row_keep hHeld.2.1 hb6, row_keep hHeld.2.2.1 hb6, below_le hHeld.2.2.2 hb6⟩ (fun hHeld => ?_)
   clear hK K
   refine norm_ (a' := ?_) ?_ ?_
   rotate_left
   ·show Act.put _ (some 19) _ = _
    simp only [Act.put, List.setIfInBounds_toArray, List.set_cons_zero, List.set_cons_succ, i64_w, i32_w]
    rfl
   exact norm_ (by simp only [putAll, Act.put, List.setIfInBounds_toArray, List.set_cons_zero, List.set_cons_succ]) (hCont (gs, kl, wo.drew.heap.size) _ ⟨(hgs.below hb5).below hb6, ((hs7.below hb4).below hb5).below hb6, hge7, hHeld⟩)
 rintro ⟨gs, kl, g7⟩ w5 ⟨hgs, hs7, hge7, hHeld⟩
 refine norm_ (a' := ?_) ?_ ?_
 rotate_left
 ·simp only [putAll, Act.put, List.setIfInBounds_toArray, List.set_cons_zero, List.set_cons_succ]
  rfl
 refine pure_ (i := 7) (N := some 10) (v := ?_) (a' := ?_) #[true, true, true, true, true, true, true, true, false] rfl rfl (by kernel_rfl) (fun _ _ _ h => h) (Or.inl ⟨by rfl, ?_⟩) ?_ ?_
 rotate_left
 ·intro w'
  go_simp
  with_reducible rfl
 rotate_left
 ·simp only [Act.put, List.setIfInBounds_toArray, List.set_cons_zero, List.set_cons_succ, i64_w, i32_w]
  rfl
 refine last_ (i := 8) (N := none) #[true, true, true, true, true, true, true, true, true] rfl rfl (by kernel_rfl) (by decide) (fun K hK => ?_)
 rw [if_pos (by rfl)]
 refine wp_store_row 127 _ _ rfl g7 #[.int .u64 nano, .int .i64 (sec + 62135596800), .pointer none] rfl rfl 127 zcells hs7 timeSize rfl (by simp [Value.oneCell']) ?_
 refine hK.out _ _ ?_
 clear hK K
 refine done_ (by kernel_rfl) ?_
 have HB5 := Lib.hid (below_le hB hHeld.2.2.2)
 have hg7w : w.heap.size ≤ g7 := Nat.le_trans hB.size hge7
 have HSR := Lib.hid hgs
 have HT7 := Lib.hid hs7
 have hne7 : gs ≠ g7 := spec_ne hgs hs7
 clear hHeld hgs hs7 hge7 hr0 hr1 hr2 hB HSC HLU HMO
 generalize hX : World.setRow w5 g7 _ = wx
 have HRW := Lib.hid (show wx.heap[g7]? = some (.cells #[.int .u64 nano, .int .i64 (sec + 62135596800), .pointer none] 127 (0, 0)) by rw [← hX]; exact setRow_heap _ _ _ _ _ _ HT7.out)
 have HSX := Lib.hid (show SpecRow wx gs S none by rw [← hX]; exact (setRow_other _ _ _ _ hne7).trans HSR.out)
 have HBX := Lib.hid (show Below w.heap.size w wx by rw [← hX]; exact below_setRow HB5.out hg7w _)
 clear hX HB5 HSR HT7
 have hna : ∀ w' : World, (nilAhead 498 169 (.pointer (some ⟨gs, 0, none⟩)) "Next").run Tryz.prog w' = .ok (some false) w' := fun w' => by rfl
 obtain ⟨i1, hi1, hz1, hs1, hy1⟩ := info_inst
 have HI1 := Lib.hid hi1
 have HZ1 := Lib.hid hz1
 have HS1 := Lib.hid hs1
 have HY1 := Lib.hid hy1
 have hST0 : Hid (Stand sec [] sec nano) := Lib.hid ⟨rfl, HBD.out.1, by have := HY0.out; simp; omega, HBD.out.2.1, HBD.out.2.2⟩
 have hO0 : Hid (wx.ownsRow w.heap.size 50 2 (.slice none 0 0) ([] : List Int).length (instL [])) := Lib.hid (World.ownsRow_nil _ _ _ _)
 clear hi1 hz1 hs1 hy1 HBD HY0
 go_wp2_with fail
 simp only [List.getElem_toArray, List.getElem_cons_succ, List.getElem_cons_zero, Act.put]
 go_loopw [9] (fun v9 wr => ∃ (L : List Int) (cur nn : Int) (A : Option Addr) (cap : Nat), v9 = .slice A L.length cap ∧ L.length ≤ n ∧ Hid (Many S sec L) ∧ Hid (Stand sec L cur nn) ∧ Hid (wr.ownsRow w.heap.size 50 2 v9 L.length (instL L)) ∧ Hid (wr.heap[g7]? = some (.cells #[.int .u64 nn, .int .i64 (cur + 62135596800), .pointer none] 127 (0, 0))) ∧ Hid (SpecRow wr gs S none) ∧ Hid (Below w.heap.size w wr)) (fun v9 _ => n - lenOf v9)
 case atStart => exact ⟨[], sec, nano, none, 0, rfl, by simp, Lib.hid (fun i hi => by simp at hi), hST0, hO0, HRW, HSX, HBX⟩
 case round =>
  obtain ⟨L, cur, nn, A, cap, rfl, hLn, HM, HST, HO, HR, HSP, HBR⟩ := hrel
  clear hST0 hO0 HRW HSX HBX
  by_cases hlt : L.length < n
  ·have hd : decide ((L.length : Int) < n) = true := decide_eq_true (by omega)
   have hrt : Calls Tryz.prog 249 #[.pointer (some ⟨gs, 0, none⟩), .agg #[.int .u64 nn, .int .i64 (cur + 62135596800), .pointer none]] wr fun e w' => ∃ r, Least S (cur + 1) (yearL (cur + 1) + 5) r ∧ e = .returned (.agg (timeCells r)) ∧ Below wr.heap.size wr w' := HNX.out gs cur nn HST.out.low (by have := HST.out.year; omega) HST.out.n0 HST.out.n1 wr HSP.out
   have HNR := Lib.hid hrt
   clear hrt
   go_wp2_with (refine wpList_load_row rfl 127 _ rfl g7 rfl _ _ _ _ HR.out Tryz.underlying127 rfl timeSize ?_)
   refine HNR.out.mono ?_
   rintro e w2 ⟨r, hr, rfl, hb2⟩
   have HLS := Lib.hid hr
   have HR2 := Lib.hid ((hb2.block _ (Array.getElem?_eq_some_iff.1 HR.out).1).trans HR.out)
   have HSP2 := Lib.hid (HSP.out.below hb2)
   have HO2 := Lib.hid (own_bel HO.out hb2)
   have HB2 := Lib.hid (below_le HBR.out hb2)
   have hlr : ∀ x, r = some x → 0 < x + 62135596800 ∧ x + 62135596800 ≤ 900000000000 := by
    rintro x rfl
    have h1 := hr.1
    have h2 := hr.2.2.2
    have h3 := HST.out.low
    have h4 := HST.out.year
    have h5 := lim_lt (L := x) (y := 10098) (by omega)
    rw [show ystart (10098 + 1) = 2969057 from by decide] at h5
    exact ⟨by omega, by omega⟩
   have HLR := Lib.hid hlr
   clear hb2 hr hlr HR HSP HO HBR HNR
   go_wp2_with (first | (refine wpList_store_row rfl 127 _ _ rfl g7 (timeCells r) rfl rfl 127 _ HR2.out (by rw [timeSize, timeCells_size]) (by rw [timeCells_size]; rfl) (timeCells_one r) ?_; generalize hY : World.setRow _ _ _ = wy; have HR3 := Lib.hid (show wy.heap[g7]? = some (.cells (timeCells r) 127 (0, 0)) by rw [← hY]; exact setRow_heap _ _ _ _ _ _ HR2.out); have HSP3 := Lib.hid (show SpecRow wy gs S none by rw [← hY]; exact (setRow_other _ _ _ _ hne7).trans HSP2.out); have HO3 := Lib.hid (show wy.ownsRow w.heap.size 50 2 (.slice A L.length cap) L.length (instL L) by rw [← hY]; exact own_row HO2.out HR2.out (by decide) _); have HB3 := Lib.hid (show Below w.heap.size w wy by rw [← hY]; exact below_setRow HB2.out hg7w _); clear hY) | (refine wpList_load_row rfl 127 _ rfl g7 rfl _ _ _ _ HR3.out Tryz.underlying127 rfl (by rw [timeSize, timeCells_size]) ?_))
   refine (HAN.out r HLR.out _).mono ?_
   rintro e w4 ⟨rfl, hb4⟩
   have HR4 := Lib.hid ((hb4.block _ (Array.getElem?_eq_some_iff.1 HR3.out).1).trans HR3.out)
   have HSP4 := Lib.hid (HSP3.out.below hb4)
   have HO4 := Lib.hid (own_bel HO3.out hb4)
   have HB4 := Lib.hid (below_le HB3.out hb4)
   clear hb4 HR2 HSP2 HO2 HB2 HR3 HSP3 HO3 HB3
   cases r with
   | none =>
    go_wp2_with (refine wpList_store_row rfl 50 _ _ rfl w4.heap.size (instC none) rfl rfl 50 _ (heap_alloc_new w4 _) instSize rfl (instC_one _) ?_; generalize hZ : World.setRow _ _ _ = wz; have HB5 := Lib.hid (show Below w4.heap.size w4 wz by rw [← hZ]; exact below_setRow ((Below.refl _ _).alloc (Nat.le_refl _) _) (Nat.le_refl _) _); clear hZ)
    go_ret
    refine ⟨A, cap, L, rfl, hLn, HM.out, fun _ => ?_, own_bel HO4.out HB5.out, below_le HB4.out HB5.out⟩
    rw [HST.out.is]
    exact HLS.out
   | some x =>
    dsimp only [instC]
    go_wp2_with (first | (refine wpList_store_row rfl 50 _ _ rfl w4.heap.size #[.int .i64 x, .int .i64 0] rfl rfl 50 _ (heap_alloc_new w4 _) instSize rfl (by simp [Value.oneCell']) ?_; generalize hZ : World.setRow _ _ _ = wz; have HB5 := Lib.hid (show Below w4.heap.size w4 wz by rw [← hZ]; exact below_setRow ((Below.refl _ _).alloc (Nat.le_refl _) _) (Nat.le_refl _) _); have HI5 := Lib.hid (show wz.heap[w4.heap.size]? = some (.cells #[.int .i64 x, .int .i64 0] 50 (0, 0)) by rw [← hZ]; exact setRow_heap _ _ _ _ _ _ (heap_alloc_new w4 _)); have HO5 := Lib.hid (own_bel HO4.out HB5.out); have HBW := Lib.hid (below_le HB4.out HB5.out); clear hZ) | (refine wpList_load_row rfl 50 _ rfl w4.heap.size rfl _ _ _ _ HI5.out Tryz.underlying50 rfl instSize ?_) | (at_builtin; refine wpList_append_lies _ rfl _ _ _ rfl w.heap.size 50 i1 (.agg #[.int .i64 0, .int .i64 0]) 2 16 Tryz.underlying93 HI1.out HZ1.out HS1.out HY1.out rfl (by omega) _ L.length (instL L) rfl (HO5.out.alloc _) ⟨wz.heap.size, 0, none⟩ 1 1 [.int .i64 x, .int .i64 0] rfl rfl (World.news_of_block (heap_alloc_new wz _)) (by simp [Value.oneCell']) (by omega) (by simp only [maxLen]; omega) (by omega) (by have := HBW.out.size; simp; omega) (wz.heap.size + 1) (by simp) ?_; intro h cap' w8 hown8 hgrow8 hat8 hlt8; have HO8 := Lib.hid hown8; have HW8 := Lib.hid hgrow8; clear hown8 hgrow8 hat8))
    have HAL := Lib.hid ((Below.refl wz.heap.size wz).alloc (Nat.le_refl _) (.cells #[.int .i64 x, .int .i64 0] 50 (0, 0)))
    have HR6 := Lib.hid (HB5.out.block _ (Array.getElem?_eq_some_iff.1 HR4.out).1 |>.trans HR4.out)
    have HR7 := Lib.hid (HAL.out.block _ (Array.getElem?_eq_some_iff.1 HR6.out).1 |>.trans HR6.out)
    have HSP7 := Lib.hid ((HSP4.out.below HB5.out).below HAL.out)
    have HR8 := Lib.hid (show w8.heap[g7]? = some (.cells (timeCells (some x)) 127 (0, 0)) from (HW8.out.block g7 (Array.getElem?_eq_some_iff.1 HR7.out).1 (fun e' => own_no (HO5.out.alloc _) HR7.out (by decide) e'.symm)).trans HR7.out)
    have HSP8 := Lib.hid (show SpecRow w8 gs S none from (HW8.out.block gs (Array.getElem?_eq_some_iff.1 HSP7.out).1 (fun e' => own_no (HO5.out.alloc _) HSP7.out (by decide) e'.symm)).trans HSP7.out)
    have HB8 := Lib.hid (Below.grown (below_le HBW.out HAL.out) HW8.out (below_le HBW.out HAL.out).size (fun c hc => (HO5.out.lt c hc).1))
    have HST8 := Lib.hid (HST.out.next HLS.out)
    have HM8 := Lib.hid (HM.out.snoc (by rw [HST.out.is]; exact HLS.out))
    have hln : (L ++ [x]).length = L.length + 1 := by simp
    clear HAL HR6 HR7 HSP7 HR4 HSP4 HO4 HB4 HB5 HI5 HBW HO5
    go_roundw
    case rel => exact ⟨L ++ [x], x, 0, some ⟨h, 0, none⟩, cap', by rw [hln], by omega, HM8, HST8, Lib.hid (by rw [hln, instL_snoc]; exact HO8.out), Lib.hid (by have := HR8.out; unfold timeCells tcells at this; simpa using this), HSP8, HB8⟩
    case measure => simp [lenOf]; omega
  ·have hd : decide ((L.length : Int) < n) = false := decide_eq_false (by omega)
   go_wp2_with fail
   go_ret
   exact ⟨A, cap, L, rfl, hLn, HM.out, fun h => by omega, HO.out, HBR.out⟩
end Go.Proofs.YtmecbmgfacpecaaGreatDoor.CronN
namespace Go.Proofs.YtmecbmgfacpecaaGreatDoor.Text
open Go Go.RowKit Go.Proofs.YtmecbmgfacpecaaGreatDoorW.PrintWords Go.Proofs.YtmecbmgfacpecaaGreatDoor.Pr
set_option linter.unusedVariables false
def ba (l : List UInt8) : ByteArray := ⟨l.toArray⟩
theorem ba_size (l : List UInt8) : (ba l).size = l.length := by unfold ba ByteArray.size; exact List.size_toArray
theorem ba_list (l : List UInt8) : (ba l).data.toList = l := by simp [ba]
theorem ba_of (s : ByteArray) : ba s.data.toList = s := by simp [ba]
theorem size_list (s : ByteArray) : s.size = s.data.toList.length := (Array.length_toList (xs := s.data)).symm
theorem toList_data (s : ByteArray) : s.toList = s.data.toList := by
 have key : ∀ (n i : Nat) (r : List UInt8), s.size - i = n → ByteArray.toList.loop s i r = r.reverse ++ s.data.toList.drop i := by
  intro n
  induction n with
  | zero =>
   intro i r h
   unfold ByteArray.toList.loop
   rw [if_neg (by omega), List.drop_eq_nil_of_le (by rw [← size_list]; omega), List.append_nil]
  | succ n ih =>
   intro i r h
   have hi : i < s.size := by omega
   unfold ByteArray.toList.loop
   rw [if_pos hi, ih (i + 1) _ (by omega)]
   have hi' : i < s.data.toList.length := by rw [← size_list]; exact hi
   rw [List.drop_eq_getElem_cons hi', List.reverse_cons, List.append_assoc, List.singleton_append]
   have : s.get! i = s.data.toList[i] := by
    show s.data[i]! = _
    rw [getElem!_pos s.data i (by simpa using hi')]
    simp
   rw [this]
 have := key s.size 0 [] (by omega)
 simpa [ByteArray.toList] using this
theorem extract_list (s : ByteArray) (a b : Nat) : (s.extract a b).data.toList = (s.data.toList.take b).drop a := by
 rw [ByteArray.data_extract, Array.toList_extract, List.extract_eq_take_drop, List.drop_take]
theorem extract_ba (s : ByteArray) (a b : Nat) : s.extract a b = ba ((s.data.toList.take b).drop a) := by
 rw [← extract_list, ba_of]
def splitL (c : UInt8) : List UInt8 → List (List UInt8)
 | [] => [[]]
 | x :: r => if x = c then [] :: splitL c r else match splitL c r with
  | h :: t => (x :: h) :: t
  | [] => [[x]]
def consHead (p : List UInt8) : List (List UInt8) → List (List UInt8)
 | h :: t => (p ++ h) :: t
 | [] => [p]
theorem splitL_ne (c : UInt8) (l : List UInt8) : splitL c l ≠ [] := by
 cases l with
 | nil => simp [splitL]
 | cons x r =>
  unfold splitL
  split
  ·simp
  ·split <;> simp
theorem splitL_cons_ne {c x : UInt8} (r : List UInt8) (h : x ≠ c) : splitL c (x :: r) = consHead [x] (splitL c r) := by
 rw [splitL, if_neg h]
 cases e : splitL c r <;> rfl
theorem splitL_cons_eq (c : UInt8) (r : List UInt8) : splitL c (c :: r) = [] :: splitL c r := by rw [splitL, if_pos rfl]
theorem consHead_nil {ls : List (List UInt8)} (h : ls ≠ []) : consHead [] ls = ls := by
 cases ls with
 | nil => exact absurd rfl h
 | cons a t => rfl
theorem splitL_none {c : UInt8} : ∀ {l : List UInt8}, c ∉ l → splitL c l = [l]
 | [], _ => rfl
 | x :: r, h => by
  have h1 : x ≠ c := fun e => h (by simp [e])
  have h2 : c ∉ r := fun e => h (by simp [e])
  rw [splitL_cons_ne r h1, splitL_none h2]
  rfl
theorem splitL_at {c : UInt8} : ∀ {p : List UInt8} (q : List UInt8), c ∉ p → splitL c (p ++ c :: q) = p :: splitL c q
 | [], q, _ => splitL_cons_eq c q
 | x :: r, q, h => by
  have h1 : x ≠ c := fun e => h (by simp [e])
  have h2 : c ∉ r := fun e => h (by simp [e])
  rw [List.cons_append, splitL_cons_ne _ h1, splitL_at q h2]
  rfl
theorem splitL_len (c : UInt8) : ∀ l : List UInt8, (splitL c l).length ≤ l.length + 1
 | [] => by simp [splitL]
 | x :: r => by
  have := splitL_len c r
  by_cases h : x = c
  ·subst h; rw [splitL_cons_eq]; simp; omega
  ·rw [splitL_cons_ne r h]
   cases e : splitL c r with
   | nil => simp [consHead]
   | cons a t => simp [consHead]; rw [e] at this; simp at this; omega
theorem splitL_size (c : UInt8) : ∀ (l : List UInt8), ∀ p ∈ splitL c l, p.length ≤ l.length
 | [] => by simp [splitL]
 | x :: r => by
  have ih := splitL_size c r
  by_cases h : x = c
  ·subst h
   rw [splitL_cons_eq]
   intro p hp
   rcases List.mem_cons.1 hp with rfl | hp
   ·simp
   ·have := ih p hp; simp; omega
  ·rw [splitL_cons_ne r h]
   intro p hp
   cases e : splitL c r with
   | nil => exact absurd e (splitL_ne c r)
   | cons a t =>
    rw [e] at hp ih
    rcases List.mem_cons.1 hp with rfl | hp
    ·have := ih a (by simp); simp; omega
    ·have := ih p (by simp [hp]); simp; omega
def splitB (c : UInt8) (s : ByteArray) : List ByteArray := (splitL c s.data.toList).map ba
theorem splitB_ne (c : UInt8) (s : ByteArray) : splitB c s ≠ [] := by
 unfold splitB
 intro h
 exact splitL_ne c _ (List.map_eq_nil_iff.1 h)
theorem wrap_in {n : Int} (h : 0 ≤ n) (h2 : n ≤ 281474976710657) : wrap64 n = n := by unfold wrap64; omega
theorem index_l0 (c : UInt8) (s : ByteArray) (hs : s.size ≤ 281474976710655) : ∀ (d k i : Nat), i ≤ s.size → s.size - i = d → d < k →
  (cron_zzIndex.l0 k s (ba [c]) i = some (-1) ∧ c ∉ s.data.toList.drop i) ∨
  ∃ j : Nat, cron_zzIndex.l0 k s (ba [c]) i = some (j : Int) ∧ i ≤ j ∧ j < s.size ∧ ∃ p q, s.data.toList.drop i = p ++ c :: q ∧ c ∉ p ∧ p.length = j - i := by
 intro d
 induction d with
 | zero =>
  intro k i hi hd hk
  obtain ⟨k, rfl⟩ : ∃ m, k = m + 1 := ⟨k - 1, by omega⟩
  left
  simp only [cron_zzIndex.l0, ba_size, List.length_singleton]
  rw [wrap_in (by omega) (by omega), if_neg (by omega)]
  refine ⟨rfl, ?_⟩
  rw [List.drop_eq_nil_of_le (by rw [← size_list]; omega)]
  simp
 | succ d ih =>
  intro k i hi hd hk
  obtain ⟨k, rfl⟩ : ∃ m, k = m + 1 := ⟨k - 1, by omega⟩
  have hlt : i < s.data.toList.length := by rw [← size_list]; omega
  simp only [cron_zzIndex.l0, ba_size, List.length_singleton]
  have hw : wrap64 ((i : Int) + ((1 : Nat) : Int)) = ((i + 1 : Nat) : Int) := by rw [wrap_in (by omega) (by omega)]; omega
  have hw' : wrap64 ((i : Int) + 1) = ((i + 1 : Nat) : Int) := by rw [wrap_in (by omega) (by omega)]; omega
  rw [hw, if_pos (by omega), if_pos (by omega), if_pos (by omega), hw', Int.toNat_natCast, Int.toNat_natCast, toList_data, toList_data, extract_list, ba_list]
  have hx : (s.data.toList.take (i + 1)).drop i = [s.data.toList[i]] := by
   rw [List.take_succ_eq_append_getElem hlt, List.drop_append_of_le_length (by simp; omega), List.drop_eq_nil_of_le (by simp; omega)]
   rfl
  rw [hx, List.drop_eq_getElem_cons hlt]
  by_cases h : s.data.toList[i] = c
  ·right
   rw [if_pos (by rw [h])]
   exact ⟨i, rfl, by omega, by omega, [], _, by rw [h]; rfl, by simp, by simp⟩
  ·rw [if_neg (by intro e; exact h (by simpa using e))]
   rcases ih k (i + 1) (by omega) (by omega) (by omega) with ⟨h1, h2⟩ | ⟨j, h1, h2, h3, p, q, h4, h5, h6⟩
   ·left
    refine ⟨h1, ?_⟩
    intro hm
    rcases List.mem_cons.1 hm with e | hm
    ·exact h e.symm
    ·exact h2 hm
   ·right
    refine ⟨j, h1, by omega, h3, s.data.toList[i] :: p, q, by rw [h4]; rfl, ?_, by simp; omega⟩
    intro hm
    rcases List.mem_cons.1 hm with e | hm
    ·exact h e.symm
    ·exact h5 hm
theorem split_l0 (c : UInt8) : ∀ (n : Nat) (s : ByteArray) (k : Nat) (acc : List ByteArray), s.size ≤ n → s.size ≤ 281474976710655 → n + 2 < k → acc.length + s.size + 1 < 8796093022208 →
  cron_zzSplit.l0 k s (ba [c]) acc = some (acc ++ splitB c s) := by
 intro n
 induction n with
 | zero =>
  intro s k acc hn hs hk hl
  obtain ⟨k, rfl⟩ : ∃ m, k = m + 1 := ⟨k - 1, by omega⟩
  simp only [cron_zzSplit.l0]
  rcases index_l0 c s hs s.size k 0 (by omega) (by omega) (by omega) with ⟨h1, h2⟩ | ⟨j, h1, h2, h3, _⟩
  ·unfold cron_zzIndex.f
   rw [show ((0 : Nat) : Int) = 0 from rfl] at h1
   rw [h1]
   simp only [Option.bind_some]
   rw [if_pos (by omega), if_pos (by omega)]
   rw [List.drop_zero] at h2
   rw [splitB, splitL_none h2]
   simp [ba_of]
  ·omega
 | succ n ih =>
  intro s k acc hn hs hk hl
  obtain ⟨k, rfl⟩ : ∃ m, k = m + 1 := ⟨k - 1, by omega⟩
  simp only [cron_zzSplit.l0]
  rcases index_l0 c s hs s.size k 0 (by omega) (by omega) (by omega) with ⟨h1, h2⟩ | ⟨j, h1, h2, h3, p, q, h4, h5, h6⟩
  ·unfold cron_zzIndex.f
   rw [show ((0 : Nat) : Int) = 0 from rfl] at h1
   rw [h1]
   simp only [Option.bind_some]
   rw [if_pos (by omega), if_pos (by omega)]
   rw [List.drop_zero] at h2
   rw [splitB, splitL_none h2]
   simp [ba_of]
  ·unfold cron_zzIndex.f
   rw [show ((0 : Nat) : Int) = 0 from rfl] at h1
   rw [h1]
   simp only [Option.bind_some, ba_size, List.length_singleton]
   have hw : wrap64 ((j : Int) + ((1 : Nat) : Int)) = ((j + 1 : Nat) : Int) := by rw [wrap_in (by omega) (by omega)]; omega
   rw [if_neg (by omega), if_pos (by omega), if_pos (by omega), if_pos (by omega), hw, if_pos (by omega), if_pos (by omega), Int.toNat_natCast, Int.toNat_natCast]
   rw [List.drop_zero] at h4
   have hsz : (s.extract (j + 1) s.size).size = s.size - (j + 1) := by simp
   rw [ih _ k _ (by omega) (by omega) (by omega) (by simp; omega)]
   have e1 : s.extract 0 j = ba p := by
    rw [extract_ba, h4]
    congr 1
    simp
    rw [List.take_append_of_le_length (by omega), List.take_of_length_le (by omega)]
   have e2 : s.extract (j + 1) s.size = ba q := by
    rw [extract_ba, size_list, List.take_length, h4]
    congr 1
    rw [show j + 1 = p.length + 1 by omega, List.drop_append]
    simp
   rw [e1, e2]
   have e3 : splitB c s = ba p :: splitB c (ba q) := by
    rw [splitB, h4, splitL_at q h5, splitB, ba_list]
    rfl
   rw [e3]
   simp
theorem split_f (c : UInt8) (s : ByteArray) (hs : s.size ≤ 8796093022206) : Ev (fun k => cron_zzSplit.f k s (ba [c])) (splitB c s) := by
 refine ⟨s.size + 3, fun k hk => ?_⟩
 unfold cron_zzSplit.f
 show cron_zzSplit.l0 k s (ba [c]) [] = _
 rw [split_l0 c s.size s k [] (by omega) (by omega) (by omega) (by simp; omega)]
 simp
end Go.Proofs.YtmecbmgfacpecaaGreatDoor.Text
namespace Go.Proofs.YtmecbmgfacpecaaGreatDoor.Bits
open Go
def mkBits (p : Nat → Bool) : Nat → Nat
 | 0 => 0
 | n + 1 => mkBits p n + if p n then 2 ^ n else 0
theorem mkBits_lt (p : Nat → Bool) (n : Nat) : mkBits p n < 2 ^ n := by
 induction n with
 | zero => simp [mkBits]
 | succ n ih =>
  unfold mkBits
  rw [Nat.pow_succ]
  split <;> omega
theorem mkBits_test (p : Nat → Bool) (n j : Nat) : (mkBits p n).testBit j = (decide (j < n) && p j) := by
 induction n with
 | zero => simp [mkBits]
 | succ n ih =>
  unfold mkBits
  have hl := mkBits_lt p n
  by_cases hp : p n = true
  ·rw [if_pos hp]
   by_cases h : j = n
   ·subst h
    rw [show mkBits p j + 2 ^ j = 2 ^ j + mkBits p j by omega, Nat.testBit_two_pow_add_eq, ih]
    simp [hp]
   ·by_cases h2 : j < n
    ·rw [show mkBits p n + 2 ^ n = 2 ^ n + mkBits p n by omega, Nat.testBit_two_pow_add_gt h2, ih]
     simp [h2, Nat.lt_succ_of_lt h2]
    ·have h3 : n + 1 ≤ j := by omega
     have h4 : ¬ j < n + 1 := by omega
     rw [Nat.testBit_lt_two_pow]
     ·simp [h4]
     ·calc _ < 2 ^ (n + 1) := by rw [Nat.pow_succ]; omega
       _ ≤ 2 ^ j := Nat.pow_le_pow_right (by decide) h3
  ·rw [if_neg hp, Nat.add_zero, ih]
   by_cases h : j = n
   ·subst h; simp [hp]
   ·have : (j < n) = (j < n + 1) := by apply propext; omega
    simp [this]
theorem mkBits_ext {p q : Nat → Bool} (n : Nat) (h : ∀ j, j < n → p j = q j) : mkBits p n = mkBits q n := by
 apply Nat.eq_of_testBit_eq
 intro j
 rw [mkBits_test, mkBits_test]
 by_cases hj : j < n
 ·simp [hj, h j hj]
 ·simp [hj]
theorem eq_mkBits {x n : Nat} {p : Nat → Bool} (hx : x < 2 ^ n) (h : ∀ j, j < n → x.testBit j = p j) : x = mkBits p n := by
 apply Nat.eq_of_testBit_eq
 intro j
 rw [mkBits_test]
 by_cases hj : j < n
 ·simp [hj, h j hj]
 ·have : x < 2 ^ j := Nat.lt_of_lt_of_le hx (Nat.pow_le_pow_right (by decide) (by omega))
  rw [Nat.testBit_lt_two_pow this]
  simp [hj]
theorem mkBits_or (p q : Nat → Bool) (n : Nat) : mkBits p n ||| mkBits q n = mkBits (fun j => p j || q j) n := by
 apply eq_mkBits (Nat.or_lt_two_pow (mkBits_lt _ _) (mkBits_lt _ _))
 intro j hj
 simp [mkBits_test, hj]
theorem mkBits_and (p q : Nat → Bool) (n : Nat) : mkBits p n &&& mkBits q n = mkBits (fun j => p j && q j) n := by
 apply eq_mkBits (Nat.and_lt_two_pow _ (mkBits_lt _ _))
 intro j hj
 simp [mkBits_test, hj]
theorem mkBits_xor (p q : Nat → Bool) (n : Nat) : mkBits p n ^^^ mkBits q n = mkBits (fun j => p j ^^ q j) n := by
 apply eq_mkBits (Nat.xor_lt_two_pow (mkBits_lt _ _) (mkBits_lt _ _))
 intro j hj
 simp [mkBits_test, hj]
theorem pow_mkBits (i n : Nat) (h : i < n) : 2 ^ i = mkBits (fun j => j == i) n := by
 apply eq_mkBits (Nat.pow_lt_pow_right (by decide) h)
 intro j _
 rw [Nat.testBit_two_pow]
 by_cases h : j = i
 ·subst h; simp
 ·have : ¬ i = j := fun e => h e.symm
  simp [h, this]
theorem wrap_u64 (n : Int) : IntKind.u64.wrap n = n % 18446744073709551616 := by simp [IntKind.wrap, IntKind.bits, IntKind.signed]
theorem wraps_u64 (n : Int) (h₀ : 0 ≤ n) (h₁ : n < 2 ^ 64) : IntKind.u64.wrap n = n := by rw [wrap_u64]; omega
theorem and_u64 {a b : Nat} (ha : a < 2 ^ 64) (hb : b < 2 ^ 64) : bits .and .u64 (a : Int) (b : Int) = ((a &&& b : Nat) : Int) :=
 (bits_nat .u64 64 (by decide) wraps_u64 a b ha hb).1
theorem or_u64 {a b : Nat} (ha : a < 2 ^ 64) (hb : b < 2 ^ 64) : bits .or .u64 (a : Int) (b : Int) = ((a ||| b : Nat) : Int) :=
 (bits_nat .u64 64 (by decide) wraps_u64 a b ha hb).2
theorem xor_u64 {a b : Nat} (ha : a < 2 ^ 64) (hb : b < 2 ^ 64) : bits .xor .u64 (a : Int) (b : Int) = ((a ^^^ b : Nat) : Int) := by
 have ha' : a % 2 ^ 64 = a := Nat.mod_eq_of_lt ha
 have hb' : b % 2 ^ 64 = b := Nat.mod_eq_of_lt hb
 have e : IntKind.u64.bits = 64 := rfl
 unfold bits
 rw [e]
 show IntKind.u64.wrap ((BitVec.ofInt 64 (a : Int) ^^^ BitVec.ofInt 64 (b : Int)).toNat : Int) = _
 rw [BitVec.ofInt_natCast, BitVec.ofInt_natCast, BitVec.toNat_xor, BitVec.toNat_ofNat, BitVec.toNat_ofNat, ha', hb']
 exact wraps_u64 _ (Int.natCast_nonneg _) (by exact_mod_cast Nat.xor_lt_two_pow ha hb)
theorem shl_one {i : Int} (h0 : 0 ≤ i) (h : i ≤ 63) : IntKind.u64.wrap (2 ^ i.toNat) = ((2 ^ i.toNat : Nat) : Int) := by
 rw [wraps_u64]
 ·rw [Int.natCast_pow]; rfl
 ·exact Int.pow_nonneg (by decide)
 ·have : (2 : Nat) ^ i.toNat < 2 ^ 64 := Nat.pow_lt_pow_right (by decide) (by omega)
  exact_mod_cast this
theorem max_table : ∀ n, n < 65 → (18446744073709551615 * 2 ^ n) % 18446744073709551616 = mkBits (fun j => decide (n ≤ j)) 64 := by decide +kernel
theorem shl_max {i : Int} (h0 : 0 ≤ i) (h : i ≤ 64) : IntKind.u64.wrap (18446744073709551615 * 2 ^ i.toNat) = ((mkBits (fun j => decide (i.toNat ≤ j)) 64 : Nat) : Int) := by
 rw [wrap_u64, ← max_table i.toNat (by omega), Int.natCast_emod, Int.natCast_mul, Int.natCast_pow]
 rfl
theorem max_u64 : IntKind.u64.max = ((mkBits (fun _ => true) 64 : Nat) : Int) := by decide +kernel
def steps (lo hi st : Nat) : Nat := mkBits (fun j => decide (lo ≤ j) && decide (j ≤ hi) && ((j - lo) % st == 0)) 64
theorem steps_lt (lo hi st : Nat) : steps lo hi st < 2 ^ 64 := mkBits_lt _ _
def below (lo i st : Nat) : Nat := mkBits (fun j => decide (lo ≤ j) && decide (j < i) && ((j - lo) % st == 0)) 64
theorem below_lt (lo i st : Nat) : below lo i st < 2 ^ 64 := mkBits_lt _ _
theorem below_start (lo st : Nat) : below lo lo st = 0 := by
 unfold below
 rw [mkBits_ext (q := fun _ => false)]
 ·decide
 ·intro j _
  by_cases h : lo ≤ j
  ·have : ¬ j < lo := by omega
   simp [this]
  ·simp [h]
theorem below_step {lo i st : Nat} (m : Nat) (hi : i = lo + m * st) (hs : 1 ≤ st) (h63 : i ≤ 63) : below lo i st ||| 2 ^ i = below lo (i + st) st := by
 unfold below
 rw [pow_mkBits i 64 (by omega), mkBits_or]
 apply mkBits_ext
 intro j _
 by_cases h1 : j < i
 ·have h2 : j < i + st := by omega
  have h3 : (j == i) = false := by simp; omega
  simp [h1, h2, h3]
 ·by_cases h2 : j = i
  ·subst h2
   have : (j - lo) % st = 0 := by rw [hi]; simp
   simp [this]
   omega
  ·have h3 : (j == i) = false := by simpa using h2
   rw [h3, Bool.or_false]
   by_cases h4 : j < i + st
   ·have h5 : (j - lo) % st = j - i := by
     have : j - lo = st * m + (j - i) := by rw [Nat.mul_comm]; omega
     rw [this, Nat.mul_add_mod]
     exact Nat.mod_eq_of_lt (by omega)
    have h6 : ((j - lo) % st == 0) = false := by rw [h5]; simp; omega
    simp [h6]
   ·simp [h1, h4]
theorem below_end {lo i hi st : Nat} (m : Nat) (hm : i = lo + m * st) (h : hi < i) (hp : i ≤ hi + st) (hlo : lo ≤ hi) : below lo i st = steps lo hi st := by
 unfold below steps
 apply mkBits_ext
 intro j _
 by_cases h1 : j ≤ hi
 ·have : j < i := by omega
  simp [h1, this]
 ·by_cases h2 : j < i
  ·have h6 : ((j - lo) % st == 0) = false := by
    simp
    intro e
    obtain ⟨q, hq⟩ := Nat.dvd_of_mod_eq_zero e
    -- lo + q st = j, hi < j < lo + m st, so q < m, so j ≤ i - st ≤ hi
    have hj : j = lo + st * q := by omega
    have : q < m := by
     apply Nat.lt_of_not_le
     intro hmq
     have := Nat.mul_le_mul_left st hmq
     rw [Nat.mul_comm m st] at hm
     omega
    have h7 := Nat.mul_le_mul_left st (show q + 1 ≤ m from this)
    rw [Nat.mul_add, Nat.mul_one] at h7
    rw [Nat.mul_comm m st] at hm
    omega
   simp [h6]
  ·simp [h1, h2]
theorem steps_one (lo hi : Nat) (h : hi ≤ 63) : bits .and .u64 (bits .xor .u64 IntKind.u64.max (IntKind.u64.wrap (18446744073709551615 * 2 ^ ((hi : Int) + 1).toNat))) (IntKind.u64.wrap (18446744073709551615 * 2 ^ (lo : Int).toNat)) = (steps lo hi 1 : Int) ∨ 64 < lo := by
 by_cases hl : lo ≤ 64
 ·left
  rw [shl_max (by omega) (by omega), shl_max (by omega) (by omega), max_u64, xor_u64 (mkBits_lt _ _) (mkBits_lt _ _), mkBits_xor, and_u64 (mkBits_lt _ _) (mkBits_lt _ _), mkBits_and]
  congr 1
  apply mkBits_ext
  intro j _
  by_cases a : lo ≤ j <;> by_cases b : j ≤ hi
  ·have h1 : j < hi + 1 := by omega
   simp [a, b, h1, Nat.mod_one]
  ·have h1 : hi + 1 ≤ j := by omega
   simp [a, b]; omega
  ·simp [a]
  ·simp [a]
 ·right; omega
end Go.Proofs.YtmecbmgfacpecaaGreatDoor.Bits
namespace Go.Proofs.YtmecbmgfacpecaaGreatDoor.Cron
open Go Go.Proofs.YtmecbmgfacpecaaGreatDoor.Text Go.Proofs.YtmecbmgfacpecaaGreatDoor.Bits
def endsRest (val : List UInt8 → Option Nat) : Option Nat → List (List UInt8) → Option (Nat × Nat × Bool)
 | none, _ => none
 | some a, [] => some (a, a, false)
 | some a, [e2] => match val e2 with
  | none => none
  | some b => some (a, b, false)
 | some _, _ => none
def ends (val : List UInt8 → Option Nat) (lo hi : Nat) : List (List UInt8) → Option (Nat × Nat × Bool)
 | [] => none
 | e :: r => if e = [42] ∨ e = [63] then some (lo, hi, true) else endsRest val (val e) r
def starBits (b : Bool) : Int := if b then 9223372036854775808 else 0
def StarIs (st : Bool) (q : List UInt8) : Prop := st = true ↔ q = [42] ∨ q = [63]
def stepOf (hi : Nat) (single : Bool) (b : Nat) (star : Bool) : List (List UInt8) → Option (Nat × Nat × Bool)
 | [] => some (1, b, star)
 | [t] => match mp t with
  | none => none
  | some k => some (k, if single then hi else b, if 1 < k then false else star)
 | _ => none
def bitsOf (lo hi a b k : Nat) (star : Bool) : Option Nat :=
 if a < lo then none else if hi < b then none else if b < a then none else if k = 0 then none
 else some (steps a b k ||| (if star then 9223372036854775808 else 0))
def rangeFin (lo hi : Nat) (single : Bool) (a b : Nat) (star : Bool) (ps : List (List UInt8)) : Option Nat :=
 match stepOf hi single b star ps with
 | none => none
 | some (k, b', star') => bitsOf lo hi a b' k star'
def rangeS (val : List UInt8 → Option Nat) (lo hi : Nat) (s : List UInt8) : Option Nat :=
 match splitL 47 s with
 | [] => none
 | p :: ps =>
  match ends val lo hi (splitL 45 p) with
  | none => none
  | some (a, b, star) => rangeFin lo hi ((splitL 45 p).length == 1) a b star ps
theorem rangeS_none {val : List UInt8 → Option Nat} {lo hi : Nat} {s p q : List UInt8} {ps qs : List (List UInt8)} (h1 : splitL 47 s = p :: ps) (h2 : splitL 45 p = q :: qs) (h3 : ends val lo hi (q :: qs) = none) : rangeS val lo hi s = none := by
 unfold rangeS
 rw [h1]
 simp only
 rw [h2, h3]
theorem rangeS_some {val : List UInt8 → Option Nat} {lo hi a b : Nat} {st : Bool} {s p q : List UInt8} {ps qs : List (List UInt8)} (h1 : splitL 47 s = p :: ps) (h2 : splitL 45 p = q :: qs) (h3 : ends val lo hi (q :: qs) = some (a, b, st)) : rangeS val lo hi s = rangeFin lo hi ((q :: qs).length == 1) a b st ps := by
 unfold rangeS
 rw [h1]
 simp only
 rw [h2, h3]
theorem fin_none {lo hi a b : Nat} {sg st : Bool} {ps : List (List UInt8)} (h : stepOf hi sg b st ps = none) : rangeFin lo hi sg a b st ps = none := by unfold rangeFin; rw [h]
theorem fin_some {lo hi a b k b' : Nat} {sg st st' : Bool} {ps : List (List UInt8)} (h : stepOf hi sg b st ps = some (k, b', st')) : rangeFin lo hi sg a b st ps = bitsOf lo hi a b' k st' := by unfold rangeFin; rw [h]
theorem starBits_nat (b : Bool) : starBits b = ((if b then 9223372036854775808 else 0 : Nat) : Int) := by cases b <;> rfl
theorem or_star {n : Nat} (h : n < 2 ^ 64) (b : Bool) : bits .or .u64 (n : Int) (starBits b) = ((n ||| (if b then 9223372036854775808 else 0) : Nat) : Int) := by
 rw [starBits_nat]
 exact or_u64 h (by cases b <;> decide)
theorem ends_star {val : List UInt8 → Option Nat} {lo hi : Nat} {q : List UInt8} (qs : List (List UInt8)) (h : q = [42] ∨ q = [63]) : ends val lo hi (q :: qs) = some (lo, hi, true) := by
 simp only [ends]; rw [if_pos h]
theorem ends_else {val : List UInt8 → Option Nat} {lo hi : Nat} {q : List UInt8} (qs : List (List UInt8)) (h : ¬ (q = [42] ∨ q = [63])) : ends val lo hi (q :: qs) = endsRest val (val q) qs := by
 simp only [ends]; rw [if_neg h]
theorem ends_true {val : List UInt8 → Option Nat} {lo hi : Nat} {q : List UInt8} (qs : List (List UInt8)) (h : StarIs true q) : ends val lo hi (q :: qs) = some (lo, hi, true) :=
 ends_star qs (h.1 rfl)
theorem ends_false {val : List UInt8 → Option Nat} {lo hi : Nat} {q : List UInt8} (qs : List (List UInt8)) (h : StarIs false q) : ends val lo hi (q :: qs) = endsRest val (val q) qs :=
 ends_else qs (fun e => by have := h.2 e; cases this)
theorem eq42 {q : List UInt8} : ((ba q).toList == [42]) = decide (q = [42]) := by rw [toList_data, ba_list]; exact Bool.eq_iff_iff.2 ⟨fun h => decide_eq_true (eq_of_beq h), fun h => beq_iff_eq.2 (of_decide_eq_true h)⟩
theorem eq63 {q : List UInt8} : ((ba q).toList == [63]) = decide (q = [63]) := by rw [toList_data, ba_list]; exact Bool.eq_iff_iff.2 ⟨fun h => decide_eq_true (eq_of_beq h), fun h => beq_iff_eq.2 (of_decide_eq_true h)⟩
theorem eq42_true {q : List UInt8} (h : q = [42]) : ((ba q).toList == [42]) = true := by rw [eq42]; exact decide_eq_true h
theorem eq42_false {q : List UInt8} (h : ¬ q = [42]) : ((ba q).toList == [42]) = false := by rw [eq42]; exact decide_eq_false h
theorem eq63_true {q : List UInt8} (h : q = [63]) : ((ba q).toList == [63]) = true := by rw [eq63]; exact decide_eq_true h
theorem eq63_false {q : List UInt8} (h : ¬ q = [63]) : ((ba q).toList == [63]) = false := by rw [eq63]; exact decide_eq_false h
end Go.Proofs.YtmecbmgfacpecaaGreatDoor.Cron
namespace Go.Proofs.YtmecbmgfacpecaaGreatDoor.Text
open Go Go.RowKit Go.Proofs.YtmecbmgfacpecaaGreatDoorW.PrintWords Go.Proofs.YtmecbmgfacpecaaGreatDoor.Pr
set_option linter.unusedVariables false
structure Texts (w : World) (g n cap : Nat) (l : List ByteArray) : Prop where
 len : n = l.length
 le : n ≤ cap
 lt : g < w.heap.size
 at_ : ∀ (i : Nat) x, l[i]? = some x → w.cell? ⟨g, i, none⟩ = some (.string x)
theorem Texts.below {w w' : World} {g n cap : Nat} {l : List ByteArray} (h : Texts w g n cap l) (hb : Below w.heap.size w w') : Texts w' g n cap l :=
 ⟨h.len, h.le, Nat.lt_of_lt_of_le h.lt hb.size, fun i x hx => (hb.cell (p := ⟨g, i, none⟩) h.lt).trans (h.at_ i x hx)⟩
theorem texts_of_R {e : Nat} {w : World} {base : Nat} {ok : Nat → Prop} {v : Value} {l : List ByteArray} (h : Kd.R Kd.string e w base ok v l) (hne : l ≠ []) :
  ∃ g n cap, v = .slice (some ⟨g, 0, none⟩) n cap ∧ base ≤ g ∧ Texts w g n cap l := by
 have ho := Kd.own_of_R h
 obtain ⟨_, h1 | ⟨g, cap, cur, rfl, hg, hb, hn, hc, hs, ht⟩⟩ := ho
 ·exact absurd (List.length_eq_zero_iff.1 h1.2) hne
 ·refine ⟨g, _, cap, rfl, hg, rfl, hn, ?_, fun i x hx => ?_⟩
  ·exact (Array.getElem?_eq_some_iff.1 hb).1
  ·have hi : i < l.length := (List.getElem?_eq_some_iff.1 hx).1
   have := (Kd.R_cell ByteArray.empty h (i : Int) (by omega) (by omega)).1
   rw [Int.toNat_natCast] at this
   rw [this]
   simp only [rdOf, Int.toNat_natCast, List.getD_eq_getElem?_getD, hx, Option.getD_some]
theorem zzSplit_any (c : UInt8) (s : ByteArray) (hs : s.size ≤ 8796093022206) (w : World) :
  Calls Tryz.prog 179 #[.string s, .string (ba [c])] w fun e w' => ∃ g n cap, e = .returned (.slice (some ⟨g, 0, none⟩) n cap) ∧ w.heap.size ≤ g ∧ Texts w' g n cap (splitB c s) ∧ Below w.heap.size w w' := by
 obtain ⟨k, hk⟩ := (split_f c s hs).rounds
 refine (cron_zzSplit.calls k s (ba [c]) _ w hk).mono ?_
 rintro e w' ⟨v, rfl, hR, hb⟩
 obtain ⟨g, n, cap, rfl, hg, ht⟩ := texts_of_R hR (splitB_ne c s)
 exact ⟨g, n, cap, rfl, hg, ht, hb⟩
end Go.Proofs.YtmecbmgfacpecaaGreatDoor.Text
