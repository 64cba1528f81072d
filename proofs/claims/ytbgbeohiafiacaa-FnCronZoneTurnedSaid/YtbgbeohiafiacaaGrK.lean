/- Lemmas and walks on the way to the law, merged by wip/tools/pack.py: SpecN, CronNone, Law400. Conditions: none. -/
import Derived.Test.YtbgbeohiafiacaaGrJ
import Derived.Test.YtbgbeohiafiacaaGrH
import Derived.Test.YtbgbeohiafiacaaPrA
namespace Go.Proofs.Ytbgbeohiafiacaa.Cron
open Go Go.RowKit Go.Proofs.YtbgbeohiafiacaaW.PrintWords Go.Proofs.YtbgbeohiafiacaaW.PrintLast Go.Proofs.Ytbgbeohiafiacaa.Cal Go.Proofs.Ytbgbeohiafiacaa.Pr
set_option linter.unusedVariables false
set_option linter.unusedSimpArgs false

theorem run_field_date (y m d : Value) (w : World) : (Instr.field 85 (.agg #[y, m, d]) 0).run Try.prog w = .ok y w := by kernel_rfl

def NextAns (S : Sets) (fr lim : Int) (e : Ending) : Prop := ∃ (x y : Int) (b : Bool), e = .returned (.tuple #[.agg #[.int .i64 x, .int .i64 y], .bool b]) ∧ (b = true → ∃ y, fr ≤ y ∧ yearL y ≤ lim ∧ Fits S y)

set_option maxRecDepth 100000 in
set_option maxHeartbeats 8000000 in
theorem cronNext_utc (S : Sets) (sec nano : Int) (h0 : -62135596800 ≤ sec) (h1 : sec ≤ 253402300799) (w : World) :
    Calls Try.prog 17 #[.agg (fieldsC S), .agg #[.int .i64 sec, .int .i64 nano], utcZone] w fun e w' =>
      NextAns S (sec + 1) (yearL (sec + 1) + 5) e ∧ Below w.heap.size w w' := by
  have hlim : yearL (sec + 1) + 5 ≤ 10010 := by have := year_top (L := sec + 1) (by omega); omega
  have HOF := Lib.hid (fun w' => offsetUtc_any (sec + 1) w')
  have HCH := Lib.hid (fun w' => changeUtc_any (sec + 1) w')
  have HFD : Hid (∀ w' : World, Calls Try.prog 37 #[.int .i64 (sec + 1), .int .i64 86400] w' fun e w2 => e = .returned (.int .i64 ((sec + 1) / 86400)) ∧ Below w'.heap.size w' w2) := Lib.hid (fun w' => (spec_floorDiv.calls (sec + 1) 86400 ((sec + 1) / 86400) w' (floorDiv_f (sec + 1) 86400 (by omega) (by omega))).mono fun _ _ h => ⟨h.1, drawn_below h.2⟩)
  have HDO : Hid (∀ w' : World, Calls Try.prog 38 #[.int .i64 ((sec + 1) / 86400)] w' fun e w2 => e = .returned (.agg (dateC (sec + 1))) ∧ Below w'.heap.size w' w2) := Lib.hid (fun w' => spec_CronDateOf.calls 200 ((sec + 1) / 86400) _ _ _ w' (dateOf_f (sec + 1) (by omega) (by omega)))
  have HLO := Lib.hid (fun w' => cronLocal_any S (sec + 1) (yearL (sec + 1) + 5) (by omega) (by omega) hlim (by omega) w')
  have hw1 : wrap64 (sec + 1) = sec + 1 := by unfold wrap64; omega
  have hw2 : wrap64 (yearL (sec + 1) + 5) = yearL (sec + 1) + 5 := by have := year_one (L := sec + 1) (by omega); unfold wrap64; omega
  unfold utcZone at HOF HCH ⊢
  go_enter Try.func17, Try.ntmps17
  go_upto_region 1 with fail
  generalize hW : World.alloc (World.alloc (World.alloc (World.alloc w _) _) _) _ = wo
  have hr0 : wo.heap[w.heap.size]? = some (.cells (fieldsC S) 50 (0, 0)) := by
    rw [← hW, Below.heap_alloc _ _ _ (by simp; try omega), Below.heap_alloc _ _ _ (by simp; try omega), Below.heap_alloc _ _ _ (by simp)]
    exact heap_alloc_new w _
  have hr1 : wo.heap[w.heap.size + 1]? = some (.cells #[.int .i64 sec, .int .i64 nano] 33 (0, 0)) := by
    rw [← hW, Below.heap_alloc _ _ _ (by simp; try omega), Below.heap_alloc _ _ _ (by simp)]
    exact heap_two w _ _
  have hr2 : wo.heap[w.heap.size + 1 + 1]? = some (.cells #[.slice none 0 0, .slice none 0 0, .slice none 0 0, .slice none 0 0] 41 (0, 0)) := by
    rw [← hW, Below.heap_alloc _ _ _ (by simp)]
    have := heap_two (w.alloc (.cells (fieldsC S) 50)) (.cells #[.int .i64 sec, .int .i64 nano] 33) (.cells #[.slice none 0 0, .slice none 0 0, .slice none 0 0, .slice none 0 0] 41)
    rw [show (w.alloc (.cells (fieldsC S) 50)).heap.size = w.heap.size + 1 by simp] at this
    exact this
  have hres : wo.heap[w.heap.size + 1 + 1 + 1]? = some (.cells #[.int .i64 0, .int .i64 0] 33 (0, 0)) := by
    rw [← hW]
    have := heap_two ((w.alloc (.cells (fieldsC S) 50)).alloc (.cells #[.int .i64 sec, .int .i64 nano] 33)) (.cells #[.slice none 0 0, .slice none 0 0, .slice none 0 0, .slice none 0 0] 41) (.cells #[.int .i64 0, .int .i64 0] 33)
    rw [show ((w.alloc (.cells (fieldsC S) 50)).alloc (.cells #[.int .i64 sec, .int .i64 nano] 33)).heap.size = w.heap.size + 1 + 1 by simp] at this
    exact this
  have hB : Below w.heap.size w wo := by
    rw [← hW]
    exact ((((Below.refl _ _).alloc (Nat.le_refl _) _).alloc (by simp) _).alloc (by simp only [World.alloc]; simp; try omega) _).alloc (by simp; try omega) _
  clear hW
  have hcs : wo.cell? ⟨w.heap.size + 1, 0, none⟩ = some (.int .i64 sec) := cell_of_row _ _ _ _ _ _ hr1
  have HR0 := Lib.hid hr0
  have HR2 := Lib.hid hr2
  have HRS := Lib.hid hres
  clear hr0 hr1 hr2 hres hlim
  have HK0 : Hid (∀ w' : World, Below wo.heap.size wo w' → w'.heap[w.heap.size]? = some (.cells (fieldsC S) 50 (0, 0))) := Lib.hid (fun w' hb => (hb.block _ (Array.getElem?_eq_some_iff.1 HR0.out).1).trans HR0.out)
  have HK2 : Hid (∀ w' : World, Below wo.heap.size wo w' → w'.heap[w.heap.size + 1 + 1]? = some (.cells #[.slice none 0 0, .slice none 0 0, .slice none 0 0, .slice none 0 0] 41 (0, 0))) := Lib.hid (fun w' hb => (hb.block _ (Array.getElem?_eq_some_iff.1 HR2.out).1).trans HR2.out)
  have HKS : Hid (∀ w' : World, Below wo.heap.size wo w' → w'.heap[w.heap.size + 1 + 1 + 1]? = some (.cells #[.int .i64 0, .int .i64 0] 33 (0, 0))) := Lib.hid (fun w' hb => (hb.block _ (Array.getElem?_eq_some_iff.1 HRS.out).1).trans HRS.out)
  have HSZ := Lib.hid (show w.heap.size + 3 < wo.heap.size from (Array.getElem?_eq_some_iff.1 HRS.out).1)
  clear HR0 HRS
  go_wp2_with (refine wpList_load_row rfl 41 _ rfl (w.heap.size + 1 + 1) rfl _ _ _ _ HR2.out Try.underlying41 rfl zoneSize ?_)
  refine (HOF.out _).mono ?_
  rintro e w1 ⟨rfl, hb1⟩
  have HB1 := Lib.hid hb1
  clear hb1 HR2
  dsimp only
  go_wp2_with fail
  refine (HFD.out _).mono ?_
  rintro e w2 ⟨rfl, hb2⟩
  have HB2 := Lib.hid (below_le HB1.out hb2)
  clear hb2 HB1
  dsimp only
  go_wp2_with fail
  refine (HDO.out _).mono ?_
  rintro e w3 ⟨rfl, hb3⟩
  have HB3 := Lib.hid (below_le HB2.out hb3)
  clear hb3 HB2
  have hfd := fun w' => run_field_date (.int .i64 (yearL (sec + 1))) (.int .i64 (monthL (sec + 1))) (.int .i64 (mdayL (sec + 1))) w'
  unfold dateC
  dsimp only
  go_wp2_with fail
  go_loopw [8] (fun v8 wr => v8 = .int .i64 (sec + 1) ∧ Hid (Below wo.heap.size wo wr)) (fun _ _ => 0)
  case atStart => exact ⟨rfl, HB3⟩
  case round =>
    obtain ⟨rfl, HBr⟩ := hrel
    clear HB3
    have HZ2 := Lib.hid (HK2.out _ HBr.out)
    go_upto_region 4 with (go_big_may; refine wpList_load_row rfl 41 _ rfl (w.heap.size + 1 + 1) rfl _ _ _ _ HZ2.out Try.underlying41 rfl zoneSize ?_)
    refine (HOF.out _).mono ?_
    rintro e w4 ⟨rfl, hb4⟩
    have HB4 := Lib.hid (below_le HBr.out hb4)
    clear hb4 HBr HZ2
    have HZ3 := Lib.hid (HK2.out _ HB4.out)
    dsimp only
    go_upto_region 6 with (go_big_may; refine wpList_load_row rfl 41 _ rfl (w.heap.size + 1 + 1) rfl _ _ _ _ HZ3.out Try.underlying41 rfl zoneSize ?_)
    refine (HCH.out _).mono ?_
    rintro e w5 ⟨rfl, hb5⟩
    have HB5 := Lib.hid (below_le HB4.out hb5)
    clear hb5 HB4 HZ3
    have HZ4 := Lib.hid (HK0.out _ HB5.out)
    dsimp only
    go_upto_region 9 with (go_big_may; refine wpList_load_row rfl 50 _ rfl w.heap.size rfl _ _ _ _ HZ4.out Try.underlying50 rfl (by rw [fieldsSize, fieldsC_size]) ?_)
    refine (HLO.out _).mono ?_
    rintro e w6 ⟨⟨x, b, rfl, hb⟩, hb6⟩
    have HB6 := Lib.hid (below_le HB5.out hb6)
    have HX := Lib.hid hb
    clear hb6 HB5 HZ4 hb
    dsimp only
    have HRW := Lib.hid (HKS.out _ HB6.out)
    have hsz : w.heap.size ≤ w.heap.size + 1 + 1 + 1 := by omega
    have HW := Lib.hid (below_le hB HB6.out)
    cases b with
    | true =>
      go_wp2_with (refine wpList_store_row rfl 33 _ _ rfl (w.heap.size + 1 + 1 + 1) (#[.int .i64 (wrap64 x), .int .i64 0]) rfl rfl 33 _ HRW.out instSize rfl (by simp [Value.oneCell']) ?_)
      refine bodyPost_ret (v := .tuple #[.agg #[.int .i64 (wrap64 x), .int .i64 0], .bool true]) ?_ rfl ⟨⟨_, _, _, rfl, fun _ => HX.out (by simp)⟩, ?_⟩
      · exact results_inst (fn := Try.f17) (p := 6) (u := 7) rfl _ _ (w.heap.size + 1 + 1 + 1) _ rfl rfl (setRow_heap _ _ _ _ _ _ HRW.out)
      · exact below_setRow HW.out hsz _
    | false =>
      go_wp2_with (refine wpList_store_row rfl 33 _ _ rfl (w.heap.size + 1 + 1 + 1) (#[.int .i64 0, .int .i64 0]) rfl rfl 33 _ HRW.out instSize rfl (by simp [Value.oneCell']) ?_)
      refine bodyPost_ret (v := .tuple #[.agg #[.int .i64 0, .int .i64 0], .bool false]) ?_ rfl ⟨⟨_, _, _, rfl, (fun h => by cases h)⟩, ?_⟩
      · exact results_inst (fn := Try.f17) (p := 6) (u := 7) rfl _ _ (w.heap.size + 1 + 1 + 1) _ rfl rfl (setRow_heap _ _ _ _ _ _ HRW.out)
      · exact below_setRow HW.out hsz _
end Go.Proofs.Ytbgbeohiafiacaa.Cron

namespace Go.Proofs.Ytbgbeohiafiacaa.Cron
open Go Go.RowKit Go.Proofs.YtbgbeohiafiacaaW.PrintWords Go.Proofs.YtbgbeohiafiacaaW.PrintLast Go.Proofs.Ytbgbeohiafiacaa.Cal Go.Proofs.Ytbgbeohiafiacaa.Pr
set_option linter.unusedVariables false
set_option linter.unusedSimpArgs false

def utcC : Array Value := #[.slice none 0 0, .slice none 0 0, .slice none 0 0, .slice none 0 0]
theorem run_alloc_zone (w : World) : (Instr.alloc 41 true (.tuple #[])).run Try.prog w = .ok (.pointer (some ⟨w.heap.size, 0, none⟩)) (w.alloc (.cells utcC 41 (0, 0))) := by kernel_rfl
theorem cronUtc_any (w : World) : Calls Try.prog 12 #[] w fun e w' => e = .returned utcZone ∧ Below w.heap.size w w' := by
  have hal := run_alloc_zone
  go_enter Try.func12, Try.ntmps12
  go_wp2_with (refine wpList_store_row rfl 41 _ _ rfl w.heap.size utcC rfl rfl 41 _ (heap_alloc_new w _) zoneSize rfl (by simp [utcC, Value.oneCell']) ?_)
  refine bodyPost_ret (v := utcZone) ?_ rfl ⟨rfl, ?_⟩
  · exact results_cell_row (fn := Try.f12) (p := 0) rfl _ _ w.heap.size 41 utcC (0, 0) _ rfl (setRow_heap _ _ _ _ _ _ (heap_alloc_new w _)) Try.underlying41 rfl zoneSize
  · exact below_setRow ((Below.refl _ _).alloc (Nat.le_refl _) _) (Nat.le_refl _) _

def instZ : Array Value := #[.int .i64 0, .int .i64 0]
def InstRow (w : World) (g : Nat) : Prop := w.heap[g]? = some (.cells instZ 33 (0, 0))
theorem InstRow.below {w w' : World} {g : Nat} (h : InstRow w g) (hb : Below w.heap.size w w') : InstRow w' g := (hb.block g (Array.getElem?_eq_some_iff.1 h).1).trans h
theorem instRow_of {B : Nat} {wo W : World} (h : Below B wo W) : InstRow (W.alloc (.cells instZ 33 (0, 0))) W.heap.size := heap_alloc_new W _
theorem run_alloc_inst (w : World) : (Instr.alloc 33 true (.tuple #[])).run Try.prog w = .ok (.pointer (some ⟨w.heap.size, 0, none⟩)) (w.alloc (.cells instZ 33 (0, 0))) := by kernel_rfl
theorem exec_alloc_inst (ev : Operand → Value) (oi : Oper) (w : World) (ho : oi.op = .alloc 33) :
    (execOp ev oi).run Try.prog w = .ok (.value (.pointer (some ⟨w.heap.size, 0, none⟩))) (w.alloc (.cells instZ 33 (0, 0))) := by
  have := run_alloc_inst w
  unfold execOp
  rw [ho]
  simp only [Sem.run_bind, Sem.run_pure, Result.andThen_ok, this]

def NoneAns (S : Sets) (fr lim : Int) (e : Ending) : Prop := ∃ b : Bool, e = .returned (.bool b) ∧ (b = false → ∃ y, fr ≤ y ∧ yearL y ≤ lim ∧ Fits S y)

/-- the value of an answer's first part, as a row -/
def cellsOf (v : Value) : Array Value := v.cells
set_option maxRecDepth 100000 in
set_option maxHeartbeats 8000000 in
theorem cronNone_any (d : Int) (S : Sets) (hS : S.ok) (sec nano : Int) (h0 : -62135596800 ≤ sec) (h1 : sec ≤ 253402300799) (w : World) :
    Calls Try.prog 13 #[.agg (setsCells d S), .agg #[.int .i64 sec, .int .i64 nano], utcZone] w fun e w' =>
      NoneAns S (sec + 1) (yearL (sec + 1) + 5) e ∧ Below w.heap.size w w' := by
  have HFO := Lib.hid (fun w' => fieldsOf_any d S hS w')
  have HCN := Lib.hid (fun w' => cronNext_utc S sec nano h0 h1 w')
  have hal := run_alloc_inst
  unfold utcZone at HCN ⊢
  go_enter Try.func13, Try.ntmps13
  go_upto_region 1 with fail
  generalize hW : World.alloc (World.alloc (World.alloc w _) _) _ = wo
  have hr0 : wo.heap[w.heap.size]? = some (.cells (setsCells d S) 27 (0, 0)) := by
    rw [← hW, Below.heap_alloc _ _ _ (by simp; try omega), Below.heap_alloc _ _ _ (by simp; try omega)]
    exact heap_alloc_new w _
  have hr1 : wo.heap[w.heap.size + 1]? = some (.cells #[.int .i64 sec, .int .i64 nano] 33 (0, 0)) := by
    rw [← hW, Below.heap_alloc _ _ _ (by simp; try omega)]
    exact heap_two w _ _
  have hr2 : wo.heap[w.heap.size + 1 + 1]? = some (.cells #[.slice none 0 0, .slice none 0 0, .slice none 0 0, .slice none 0 0] 41 (0, 0)) := by
    rw [← hW]
    have := heap_two (w.alloc (.cells (setsCells d S) 27)) (.cells #[.int .i64 sec, .int .i64 nano] 33) (.cells #[.slice none 0 0, .slice none 0 0, .slice none 0 0, .slice none 0 0] 41)
    rw [show (w.alloc (.cells (setsCells d S) 27)).heap.size = w.heap.size + 1 by simp] at this
    exact this
  have hB : Below w.heap.size w wo := by
    rw [← hW]
    exact (((Below.refl _ _).alloc (Nat.le_refl _) _).alloc (by simp) _).alloc (by simp only [World.alloc]; simp; try omega) _
  clear hW
  refine start_ (n := 11) (S := fun w' => w'.heap[w.heap.size]? = some (.cells (setsCells d S) 27 (0, 0)) ∧ w'.heap[w.heap.size + 1]? = some (.cells #[.int .i64 sec, .int .i64 nano] 33 (0, 0)) ∧ w'.heap[w.heap.size + 1 + 1]? = some (.cells #[.slice none 0 0, .slice none 0 0, .slice none 0 0, .slice none 0 0] 41 (0, 0)) ∧ Below wo.heap.size wo w') (ds := [9]) #[false, false, false, false, false, false, false, false, false, false, false] (by kernel_rfl) rfl rfl ⟨hr0, hr1, hr2, (Below.refl _ _).drew⟩ (fun hHeld => ?_)
  refine take_ (i := 0) (N := some 10) (v := ?_) (a' := ?_) #[true, false, false, false, false, false, false, false, false, false, false] rfl rfl (by kernel_rfl) (fun _ _ _ h => h) (Or.inl ⟨by rfl, ?_⟩) hHeld ?_ ?_
  rotate_left
  · rintro w' ⟨s0, s1, s2, s3⟩
    refine exec_load_row _ _ w' 27 (.tmp 3) ?_ (w.heap.size) ?_ _ _ _ _ s0 Try.underlying27 rfl schedSize
    · rfl
    · rfl
  rotate_left
  · simp only [Act.put, List.setIfInBounds_toArray, List.set_cons_zero, List.set_cons_succ, i64_w, i32_w]
    rfl
  refine take_ (i := 2) (N := some 12) (v := ?_) (a' := ?_) #[true, false, true, false, false, false, false, false, false, false, false] rfl rfl (by kernel_rfl) (fun _ _ _ h => h) (Or.inl ⟨by rfl, ?_⟩) hHeld ?_ ?_
  rotate_left
  · rintro w' ⟨s0, s1, s2, s3⟩
    refine exec_load_row _ _ w' 33 (.tmp 4) ?_ (w.heap.size + 1) ?_ _ _ _ _ s1 Try.underlying33 rfl instSize
    · rfl
    · rfl
  rotate_left
  · simp only [Act.put, List.setIfInBounds_toArray, List.set_cons_zero, List.set_cons_succ, i64_w, i32_w]
    rfl
  refine take_ (i := 3) (N := some 13) (v := ?_) (a' := ?_) #[true, false, true, true, false, false, false, false, false, false, false] rfl rfl (by kernel_rfl) (fun _ _ _ h => h) (Or.inl ⟨by rfl, ?_⟩) hHeld ?_ ?_
  rotate_left
  · rintro w' ⟨s0, s1, s2, s3⟩
    refine exec_load_row _ _ w' 41 (.tmp 5) ?_ (w.heap.size + 1 + 1) ?_ _ _ _ _ s2 Try.underlying41 rfl zoneSize
    · rfl
    · rfl
  rotate_left
  · simp only [Act.put, List.setIfInBounds_toArray, List.set_cons_zero, List.set_cons_succ, i64_w, i32_w]
    rfl
  refine join_ (σ := Nat × (Int × Int) × Bool) 2 #[true, true, true, true, true, true, true, true, true, false, false] (fun s => [(11, .agg (fieldsC S)), (14, .tuple #[.agg #[.int .i64 s.2.1.1, .int .i64 s.2.1.2], .bool s.2.2]), (9, .tuple #[.agg #[.int .i64 s.2.1.1, .int .i64 s.2.1.2], .bool s.2.2]), (15, .agg #[.int .i64 s.2.1.1, .int .i64 s.2.1.2]), (16, .bool s.2.2), (7, .pointer (some ⟨s.1, 0, none⟩))]) (fun s w' => Hid (s.2.2 = true → ∃ y, sec + 1 ≤ y ∧ yearL y ≤ yearL (sec + 1) + 5 ∧ Fits S y) ∧ InstRow w' s.1 ∧ wo.heap.size ≤ s.1 ∧ (w'.heap[w.heap.size]? = some (.cells (setsCells d S) 27 (0, 0)) ∧ w'.heap[w.heap.size + 1]? = some (.cells #[.int .i64 sec, .int .i64 nano] 33 (0, 0)) ∧ w'.heap[w.heap.size + 1 + 1]? = some (.cells #[.slice none 0 0, .slice none 0 0, .slice none 0 0, .slice none 0 0] 41 (0, 0)) ∧ Below wo.heap.size wo w')) ?_ ?_
  rotate_left
  · intro hCont
    refine two_ (i := 1) (j := 8) (Ni := some 11) (Nj := some 7) #[true, true, true, true, false, false, false, false, false, false, false] #[true, false, true, true, false, false, false, false, true, false, false] rfl rfl rfl rfl (by kernel_rfl) (by decide) (by decide) (fun K hK => ?_) (fun K hK => ?_)
    · skip
      refine goes_ Try.func18 (by kernel_rfl) rfl #[.agg (setsCells d S)] (by rfl) rfl rfl (by simp only [List.map_toArray, List.map_cons, List.map_nil]; rfl) ?_
      with_reducible refine (HFO.out _).mono ?_
      rintro e w4 ⟨rfl, hb4⟩
      refine ⟨_, rfl, ?_⟩
      refine hK.out _ _ ⟨(hb4.block _ (Array.getElem?_eq_some_iff.1 hHeld.1).1).trans hHeld.1, (hb4.block _ (Array.getElem?_eq_some_iff.1 hHeld.2.1).1).trans hHeld.2.1, (hb4.block _ (Array.getElem?_eq_some_iff.1 hHeld.2.2.1).1).trans hHeld.2.2.1, below_le hHeld.2.2.2 hb4⟩ (fun hHeld => ?_)
      clear hK K
      refine norm_ (a' := ?_) ?_ ?_
      rotate_left
      · show Act.put _ (some 11) _ = _
        simp only [Act.put, List.setIfInBounds_toArray, List.set_cons_zero, List.set_cons_succ, i64_w, i32_w]
        rfl
      refine two_ (i := 4) (j := 8) (Ni := some 14) (Nj := some 7) #[true, true, true, true, true, false, false, false, false, false, false] #[true, true, true, true, false, false, false, false, true, false, false] rfl rfl rfl rfl (by kernel_rfl) (by decide) (by decide) (fun K hK => ?_) (fun K hK => ?_)
      · skip
        refine goes_ Try.func17 (by kernel_rfl) rfl #[.agg (fieldsC S), .agg #[.int .i64 sec, .int .i64 nano], .agg #[.slice none 0 0, .slice none 0 0, .slice none 0 0, .slice none 0 0]] (by rfl) rfl rfl (by simp only [List.map_toArray, List.map_cons, List.map_nil]; rfl) ?_
        with_reducible refine (HCN.out _).mono ?_
        rintro e w5 ⟨⟨x, y, b, rfl, HX⟩, hb5⟩
        refine ⟨_, rfl, ?_⟩
        refine hK.out _ _ ⟨(hb5.block _ (Array.getElem?_eq_some_iff.1 hHeld.1).1).trans hHeld.1, (hb5.block _ (Array.getElem?_eq_some_iff.1 hHeld.2.1).1).trans hHeld.2.1, (hb5.block _ (Array.getElem?_eq_some_iff.1 hHeld.2.2.1).1).trans hHeld.2.2.1, below_le hHeld.2.2.2 hb5⟩ (fun hHeld => ?_)
        clear hK K
        refine norm_ (a' := ?_) ?_ ?_
        rotate_left
        · show Act.put _ (some 14) _ = _
          simp only [Act.put, List.setIfInBounds_toArray, List.set_cons_zero, List.set_cons_succ, i64_w, i32_w]
          rfl
        refine pure_ (i := 5) (N := some 9) (v := ?_) (a' := ?_) #[true, true, true, true, true, true, false, false, false, false, false] rfl rfl (by kernel_rfl) (fun _ _ _ h => h) (Or.inl ⟨by rfl, ?_⟩) ?_ ?_
        rotate_left
        · intro w'
          go_simp
          with_reducible rfl
        rotate_left
        · simp only [Act.put, List.setIfInBounds_toArray, List.set_cons_zero, List.set_cons_succ, i64_w, i32_w]
          rfl
        refine pure_ (i := 6) (N := some 15) (v := ?_) (a' := ?_) #[true, true, true, true, true, true, true, false, false, false, false] rfl rfl (by kernel_rfl) (fun _ _ _ h => h) (Or.inl ⟨by rfl, ?_⟩) ?_ ?_
        rotate_left
        · intro w'
          go_simp
          with_reducible rfl
        rotate_left
        · simp only [Act.put, List.setIfInBounds_toArray, List.set_cons_zero, List.set_cons_succ, i64_w, i32_w]
          rfl
        refine pure_ (i := 7) (N := some 16) (v := ?_) (a' := ?_) #[true, true, true, true, true, true, true, true, false, false, false] rfl rfl (by kernel_rfl) (fun _ _ _ h => h) (Or.inl ⟨by rfl, ?_⟩) ?_ ?_
        rotate_left
        · intro w'
          go_simp
          with_reducible rfl
        rotate_left
        · simp only [Act.put, List.setIfInBounds_toArray, List.set_cons_zero, List.set_cons_succ, i64_w, i32_w]
          rfl
        refine one_ (i := 8) (N := some 7) #[true, true, true, true, true, true, true, true, true, false, false] rfl rfl (by kernel_rfl) (by decide) (fun K hK => ?_)
        have hge7 := hHeld.2.2.2.size
        have hs7 := instRow_of hHeld.2.2.2
        refine value_ (by rfl) rfl (exec_alloc_inst _ _ _ rfl) ?_
        refine hK.out _ _ ⟨(((Below.refl _ _).alloc (Nat.le_refl _) _).block _ (Array.getElem?_eq_some_iff.1 hHeld.1).1).trans hHeld.1, (((Below.refl _ _).alloc (Nat.le_refl _) _).block _ (Array.getElem?_eq_some_iff.1 hHeld.2.1).1).trans hHeld.2.1, (((Below.refl _ _).alloc (Nat.le_refl _) _).block _ (Array.getElem?_eq_some_iff.1 hHeld.2.2.1).1).trans hHeld.2.2.1, hHeld.2.2.2.alloc hHeld.2.2.2.size _⟩ (fun hHeld => ?_)
        clear hK K
        refine norm_ (a' := ?_) ?_ ?_
        rotate_left
        · show Act.put _ (some 7) _ = _
          simp only [Act.put, List.setIfInBounds_toArray, List.set_cons_zero, List.set_cons_succ, i64_w, i32_w]
          rfl
        exact norm_ (by simp only [putAll, Act.put, List.setIfInBounds_toArray, List.set_cons_zero, List.set_cons_succ]) (hCont (w5.heap.size, (x, y), b) _ ⟨HX, hs7, hge7, hHeld⟩)
      · skip
        have hge7 := hHeld.2.2.2.size
        have hs7 := instRow_of hHeld.2.2.2
        refine value_ (by rfl) rfl (exec_alloc_inst _ _ _ rfl) ?_
        refine hK.out _ _ ⟨(((Below.refl _ _).alloc (Nat.le_refl _) _).block _ (Array.getElem?_eq_some_iff.1 hHeld.1).1).trans hHeld.1, (((Below.refl _ _).alloc (Nat.le_refl _) _).block _ (Array.getElem?_eq_some_iff.1 hHeld.2.1).1).trans hHeld.2.1, (((Below.refl _ _).alloc (Nat.le_refl _) _).block _ (Array.getElem?_eq_some_iff.1 hHeld.2.2.1).1).trans hHeld.2.2.1, hHeld.2.2.2.alloc hHeld.2.2.2.size _⟩ (fun hHeld => ?_)
        clear hK K
        refine norm_ (a' := ?_) ?_ ?_
        rotate_left
        · show Act.put _ (some 7) _ = _
          simp only [Act.put, List.setIfInBounds_toArray, List.set_cons_zero, List.set_cons_succ, i64_w, i32_w]
          rfl
        refine one_ (i := 4) (N := some 14) #[true, true, true, true, true, false, false, false, true, false, false] rfl rfl (by kernel_rfl) (by decide) (fun K hK => ?_)
        refine goes_ Try.func17 (by kernel_rfl) rfl #[.agg (fieldsC S), .agg #[.int .i64 sec, .int .i64 nano], .agg #[.slice none 0 0, .slice none 0 0, .slice none 0 0, .slice none 0 0]] (by rfl) rfl rfl (by simp only [List.map_toArray, List.map_cons, List.map_nil]; rfl) ?_
        with_reducible refine (HCN.out _).mono ?_
        rintro e w5 ⟨⟨x, y, b, rfl, HX⟩, hb5⟩
        refine ⟨_, rfl, ?_⟩
        refine hK.out _ _ ⟨(hb5.block _ (Array.getElem?_eq_some_iff.1 hHeld.1).1).trans hHeld.1, (hb5.block _ (Array.getElem?_eq_some_iff.1 hHeld.2.1).1).trans hHeld.2.1, (hb5.block _ (Array.getElem?_eq_some_iff.1 hHeld.2.2.1).1).trans hHeld.2.2.1, below_le hHeld.2.2.2 hb5⟩ (fun hHeld => ?_)
        clear hK K
        refine norm_ (a' := ?_) ?_ ?_
        rotate_left
        · show Act.put _ (some 14) _ = _
          simp only [Act.put, List.setIfInBounds_toArray, List.set_cons_zero, List.set_cons_succ, i64_w, i32_w]
          rfl
        refine pure_ (i := 5) (N := some 9) (v := ?_) (a' := ?_) #[true, true, true, true, true, true, false, false, true, false, false] rfl rfl (by kernel_rfl) (fun _ _ _ h => h) (Or.inl ⟨by rfl, ?_⟩) ?_ ?_
        rotate_left
        · intro w'
          go_simp
          with_reducible rfl
        rotate_left
        · simp only [Act.put, List.setIfInBounds_toArray, List.set_cons_zero, List.set_cons_succ, i64_w, i32_w]
          rfl
        refine pure_ (i := 6) (N := some 15) (v := ?_) (a' := ?_) #[true, true, true, true, true, true, true, false, true, false, false] rfl rfl (by kernel_rfl) (fun _ _ _ h => h) (Or.inl ⟨by rfl, ?_⟩) ?_ ?_
        rotate_left
        · intro w'
          go_simp
          with_reducible rfl
        rotate_left
        · simp only [Act.put, List.setIfInBounds_toArray, List.set_cons_zero, List.set_cons_succ, i64_w, i32_w]
          rfl
        refine pure_ (i := 7) (N := some 16) (v := ?_) (a' := ?_) #[true, true, true, true, true, true, true, true, true, false, false] rfl rfl (by kernel_rfl) (fun _ _ _ h => h) (Or.inl ⟨by rfl, ?_⟩) ?_ ?_
        rotate_left
        · intro w'
          go_simp
          with_reducible rfl
        rotate_left
        · simp only [Act.put, List.setIfInBounds_toArray, List.set_cons_zero, List.set_cons_succ, i64_w, i32_w]
          rfl
        exact norm_ (by simp only [putAll, Act.put, List.setIfInBounds_toArray, List.set_cons_zero, List.set_cons_succ]) (hCont (w4.heap.size, (x, y), b) _ ⟨HX, hs7.below hb5, hge7, hHeld⟩)
    · skip
      have hge7 := hHeld.2.2.2.size
      have hs7 := instRow_of hHeld.2.2.2
      refine value_ (by rfl) rfl (exec_alloc_inst _ _ _ rfl) ?_
      refine hK.out _ _ ⟨(((Below.refl _ _).alloc (Nat.le_refl _) _).block _ (Array.getElem?_eq_some_iff.1 hHeld.1).1).trans hHeld.1, (((Below.refl _ _).alloc (Nat.le_refl _) _).block _ (Array.getElem?_eq_some_iff.1 hHeld.2.1).1).trans hHeld.2.1, (((Below.refl _ _).alloc (Nat.le_refl _) _).block _ (Array.getElem?_eq_some_iff.1 hHeld.2.2.1).1).trans hHeld.2.2.1, hHeld.2.2.2.alloc hHeld.2.2.2.size _⟩ (fun hHeld => ?_)
      clear hK K
      refine norm_ (a' := ?_) ?_ ?_
      rotate_left
      · show Act.put _ (some 7) _ = _
        simp only [Act.put, List.setIfInBounds_toArray, List.set_cons_zero, List.set_cons_succ, i64_w, i32_w]
        rfl
      refine one_ (i := 1) (N := some 11) #[true, true, true, true, false, false, false, false, true, false, false] rfl rfl (by kernel_rfl) (by decide) (fun K hK => ?_)
      refine goes_ Try.func18 (by kernel_rfl) rfl #[.agg (setsCells d S)] (by rfl) rfl rfl (by simp only [List.map_toArray, List.map_cons, List.map_nil]; rfl) ?_
      with_reducible refine (HFO.out _).mono ?_
      rintro e w4 ⟨rfl, hb4⟩
      refine ⟨_, rfl, ?_⟩
      refine hK.out _ _ ⟨(hb4.block _ (Array.getElem?_eq_some_iff.1 hHeld.1).1).trans hHeld.1, (hb4.block _ (Array.getElem?_eq_some_iff.1 hHeld.2.1).1).trans hHeld.2.1, (hb4.block _ (Array.getElem?_eq_some_iff.1 hHeld.2.2.1).1).trans hHeld.2.2.1, below_le hHeld.2.2.2 hb4⟩ (fun hHeld => ?_)
      clear hK K
      refine norm_ (a' := ?_) ?_ ?_
      rotate_left
      · show Act.put _ (some 11) _ = _
        simp only [Act.put, List.setIfInBounds_toArray, List.set_cons_zero, List.set_cons_succ, i64_w, i32_w]
        rfl
      refine one_ (i := 4) (N := some 14) #[true, true, true, true, true, false, false, false, true, false, false] rfl rfl (by kernel_rfl) (by decide) (fun K hK => ?_)
      refine goes_ Try.func17 (by kernel_rfl) rfl #[.agg (fieldsC S), .agg #[.int .i64 sec, .int .i64 nano], .agg #[.slice none 0 0, .slice none 0 0, .slice none 0 0, .slice none 0 0]] (by rfl) rfl rfl (by simp only [List.map_toArray, List.map_cons, List.map_nil]; rfl) ?_
      with_reducible refine (HCN.out _).mono ?_
      rintro e w5 ⟨⟨x, y, b, rfl, HX⟩, hb5⟩
      refine ⟨_, rfl, ?_⟩
      refine hK.out _ _ ⟨(hb5.block _ (Array.getElem?_eq_some_iff.1 hHeld.1).1).trans hHeld.1, (hb5.block _ (Array.getElem?_eq_some_iff.1 hHeld.2.1).1).trans hHeld.2.1, (hb5.block _ (Array.getElem?_eq_some_iff.1 hHeld.2.2.1).1).trans hHeld.2.2.1, below_le hHeld.2.2.2 hb5⟩ (fun hHeld => ?_)
      clear hK K
      refine norm_ (a' := ?_) ?_ ?_
      rotate_left
      · show Act.put _ (some 14) _ = _
        simp only [Act.put, List.setIfInBounds_toArray, List.set_cons_zero, List.set_cons_succ, i64_w, i32_w]
        rfl
      refine pure_ (i := 5) (N := some 9) (v := ?_) (a' := ?_) #[true, true, true, true, true, true, false, false, true, false, false] rfl rfl (by kernel_rfl) (fun _ _ _ h => h) (Or.inl ⟨by rfl, ?_⟩) ?_ ?_
      rotate_left
      · intro w'
        go_simp
        with_reducible rfl
      rotate_left
      · simp only [Act.put, List.setIfInBounds_toArray, List.set_cons_zero, List.set_cons_succ, i64_w, i32_w]
        rfl
      refine pure_ (i := 6) (N := some 15) (v := ?_) (a' := ?_) #[true, true, true, true, true, true, true, false, true, false, false] rfl rfl (by kernel_rfl) (fun _ _ _ h => h) (Or.inl ⟨by rfl, ?_⟩) ?_ ?_
      rotate_left
      · intro w'
        go_simp
        with_reducible rfl
      rotate_left
      · simp only [Act.put, List.setIfInBounds_toArray, List.set_cons_zero, List.set_cons_succ, i64_w, i32_w]
        rfl
      refine pure_ (i := 7) (N := some 16) (v := ?_) (a' := ?_) #[true, true, true, true, true, true, true, true, true, false, false] rfl rfl (by kernel_rfl) (fun _ _ _ h => h) (Or.inl ⟨by rfl, ?_⟩) ?_ ?_
      rotate_left
      · intro w'
        go_simp
        with_reducible rfl
      rotate_left
      · simp only [Act.put, List.setIfInBounds_toArray, List.set_cons_zero, List.set_cons_succ, i64_w, i32_w]
        rfl
      exact norm_ (by simp only [putAll, Act.put, List.setIfInBounds_toArray, List.set_cons_zero, List.set_cons_succ]) (hCont (wo.drew.heap.size, (x, y), b) _ ⟨HX, (hs7.below hb4).below hb5, hge7, hHeld⟩)
  rintro ⟨g7, ⟨x7, y7⟩, b7⟩ w5 ⟨HX, hs7, hge7, hHeld⟩
  refine norm_ (a' := ?_) ?_ ?_
  rotate_left
  · simp only [putAll, Act.put, List.setIfInBounds_toArray, List.set_cons_zero, List.set_cons_succ]
    rfl
  refine last_ (i := 9) (N := none) #[true, true, true, true, true, true, true, true, true, true, false] rfl rfl (by kernel_rfl) (by decide) (fun K hK => ?_)
  rw [if_pos (by rfl)]
  refine wp_store_row 33 _ _ rfl g7 #[.int .i64 x7, .int .i64 y7] rfl rfl 33 instZ hs7 instSize rfl (by simp [Value.oneCell']) ?_
  refine hK.out _ _ ?_
  clear hK K
  refine pure_ (i := 10) (N := some 8) (v := ?_) (a' := ?_) #[true, true, true, true, true, true, true, true, true, true, true] rfl rfl (by kernel_rfl) (fun _ _ _ h => h) (Or.inl ⟨by rfl, ?_⟩) ?_ ?_
  rotate_left
  · intro w'
    go_simp
    with_reducible rfl
  rotate_left
  · simp only [Act.put, List.setIfInBounds_toArray, List.set_cons_zero, List.set_cons_succ, i64_w, i32_w]
    rfl
  refine done_ (by kernel_rfl) ?_
  have hB6 := below_setRow (below_le hB hHeld.2.2.2) (Nat.le_trans (by have := hB.size; omega) hge7) #[.int .i64 x7, .int .i64 y7]
  have HX' := Lib.hid HX
  clear hHeld hs7 hge7 HX
  cases b7 with
  | true =>
    go_wp2_with fail
    go_ret
    exact ⟨⟨_, rfl, fun _ => HX'.out.out (by first | trivial | rfl)⟩, hB6⟩
  | false =>
    go_wp2_with fail
    go_ret
    exact ⟨⟨_, rfl, (fun h => by cases h)⟩, hB6⟩
end Go.Proofs.Ytbgbeohiafiacaa.Cron

namespace Go.Proofs.Ytbgbeohiafiacaa.Cron
open Go Go.RowKit Go.Proofs.YtbgbeohiafiacaaW.PrintWords Go.Proofs.YtbgbeohiafiacaaW.PrintLast Go.Proofs.Ytbgbeohiafiacaa.Cal Go.Proofs.Ytbgbeohiafiacaa.Pr
set_option linter.unusedVariables false
set_option linter.unusedSimpArgs false

theorem exists_first (P : Nat → Prop) : ∀ n, P n → ∃ n, P n ∧ ∀ m, m < n → ¬ P m := by
  intro n
  induction n using Nat.strongRecOn with
  | _ n ih =>
    intro hn
    by_cases h : ∃ m, m < n ∧ P m
    · obtain ⟨m, hm, hp⟩ := h
      exact ih m hm hp
    · exact ⟨n, hn, fun m hm hp => h ⟨m, hm, hp⟩⟩
theorem least_exists (S : Sets) (f lim : Int) : ∃ r, Least S f lim r := by
  by_cases h : ∃ x, f ≤ x ∧ yearL x ≤ lim ∧ Fits S x
  · obtain ⟨x, h1, h2, h3⟩ := h
    obtain ⟨n, ⟨hn, hy⟩, hm⟩ := exists_first (fun n : Nat => Fits S (f + n) ∧ yearL (f + n) ≤ lim) (x - f).toNat (by rw [show f + ((x - f).toNat : Int) = x by omega]; exact ⟨h3, h2⟩)
    refine ⟨some (f + n), by omega, hn, fun z z1 z2 hz => hm (z - f).toNat (by omega) ?_, hy⟩
    rw [show f + ((z - f).toNat : Int) = z by omega]
    exact ⟨hz, by have := year_mono (a := z) (b := f + n) (by omega); omega⟩
  · exact ⟨none, fun x h1 h2 h3 => h ⟨x, h1, h2, h3⟩⟩

def goodB (sec nano : Int) : Bool := decide (-62135596800 ≤ sec ∧ sec ≤ 253402300799 ∧ 0 ≤ nano ∧ nano < 1000000000)
theorem goodB_iff {sec nano : Int} : goodB sec nano = true ↔ (-62135596800 ≤ sec ∧ sec ≤ 253402300799 ∧ 0 ≤ nano ∧ nano < 1000000000) := by unfold goodB; exact decide_eq_true_iff
theorem good_f (sec nano : Int) : spec_CronGood.f sec nano = some (goodB sec nano) := by
  unfold spec_CronGood.f goodB
  by_cases h1 : -62135596800 ≤ sec <;> by_cases h2 : sec ≤ 253402300799 <;> by_cases h3 : 0 ≤ nano <;> simp [h1, h2, h3]
theorem good_any (sec nano : Int) (w : World) : Calls Try.prog 10 #[.agg #[.int .i64 sec, .int .i64 nano]] w fun e w' => e = .returned (.bool (goodB sec nano)) ∧ Below w.heap.size w w' :=
  spec_CronGood.calls sec nano _ w (good_f sec nano)
def schedC (ev : Bool) (d : Int) (S : Sets) : Array Value := #[.bool ev, .int .i64 d, .int .u64 (S.sec : Int), .int .u64 (S.min : Int), .int .u64 (S.hour : Int), .int .u64 (S.dom : Int), .int .u64 (S.month : Int), .int .u64 (S.dow : Int)]
theorem case_any (ev : Bool) (d : Int) (S : Sets) (sec nano : Int) (w : World) : Calls Try.prog 9 #[.agg (schedC ev d S), .agg #[.int .i64 sec, .int .i64 nano]] w fun e w' => e = .returned (.bool (!ev && goodB sec nano)) ∧ Below w.heap.size w w' := by
  refine laws_cronCase.calls ev d S.sec S.min S.hour S.dom S.month S.dow sec nano _ w ?_
  unfold laws_cronCase.f
  cases ev
  · simp [good_f]
  · simp

/-- Next on UTC's clocks, told by the least second that fits -/
theorem nextUtc_any (d : Int) (S : Sets) (hS : S.ok) (sec nano : Int) (hg : goodB sec nano = true) (r : Option Int) (hr : Least S (sec + 1) (yearL (sec + 1) + 5) r) (w : World) :
    Calls Try.prog 11 #[.agg (setsCells d S), .agg #[.int .i64 sec, .int .i64 nano], utcZone] w fun e w' => e = .returned (.tuple #[.agg (ansI 0 r), .bool r.isSome]) ∧ Below w.heap.size w w' := by
  obtain ⟨g1, g2, g3, g4⟩ := goodB_iff.1 hg
  have := implNext_any (.slice none 0 0) (.slice none 0 0) (.slice none 0 0) (.slice none 0 0) 0 zone_utc d S hS sec nano g1 g2 g3 g4 (by omega) (by omega) (by decide) (.inl (by omega)) w
  refine this.mono ?_
  rintro e w' ⟨r', hr', rfl, hb⟩
  rw [Int.add_zero] at hr'
  rw [least_unique hr' hr]
  exact ⟨rfl, hb⟩

section
variable {P : Program} {ops : Array Oper} {rest : List Oper} {o : Oper} {a : Act} {w : World} {Q : Exit → Act → World → Prop}
/-- a row is read, by an operation that is guarded and carried out -/
theorem wpList_load_rowG (hw : Region.wanted o (yielded ops a.tmps) = true) (ty : TypeId) (x : Operand) (ho : o.op = .load ty x) (g : Nat) (hx : a.eval x = .pointer (some ⟨g, 0, none⟩)) (t : TypeId) (cs : Array Value) (fr : Nat × Nat) (d : TypeDesc) (hg : w.heap[g]? = some (.cells cs t fr))
    (hu : P.underlying ty = some d) (hd : (match d with | .struct _ | .array _ _ => true | _ => false) = true) (hi : (P.info? ty).map (·.size) = some cs.size)
    (h : wpList P ops Q rest (a.put o.dst (.agg cs)) w) : wpList P ops Q (o :: rest) a w := by
  refine wpList_step fun K hK => ?_
  rw [if_pos hw]
  exact wp_load_row ty x ho g hx t cs fr d hg hu hd hi (hK _ _ h)
end
theorem row_keep {w w' : World} {g : Nat} {o : Obj} (h : w.heap[g]? = some o) (hb : Below w.heap.size w w') : w'.heap[g]? = some o := (hb.block g (Array.getElem?_eq_some_iff.1 h).1).trans h
theorem row_lt {w : World} {g : Nat} {o : Obj} (h : w.heap[g]? = some o) : g < w.heap.size := (Array.getElem?_eq_some_iff.1 h).1

set_option maxRecDepth 100000 in
set_option maxHeartbeats 8000000 in
theorem law400_any (ev : Bool) (d : Int) (S : Sets) (hS : S.ok) (sec nano : Int) (w : World) :
    Calls Try.prog 4 #[.agg (schedC ev d S), .agg #[.int .i64 sec, .int .i64 nano]] w fun e w' => e = .returned (.bool true) ∧ Below w.heap.size w w' := by
  have HC := Lib.hid (fun w' => case_any ev d S sec nano w')
  have hal := run_alloc_inst
  go_enter Try.func4, Try.ntmps4
  go_upto_region 1 with fail
  generalize hW : World.alloc (World.alloc w _) _ = wa
  have hr0 : wa.heap[w.heap.size]? = some (.cells (schedC ev d S) 27 (0, 0)) := by
    rw [← hW, Below.heap_alloc _ _ _ (by simp; try omega)]
    exact heap_alloc_new w _
  have hr1 : wa.heap[w.heap.size + 1]? = some (.cells #[.int .i64 sec, .int .i64 nano] 33 (0, 0)) := by
    rw [← hW]
    exact heap_two w _ _
  have hB : Below w.heap.size w wa := by
    rw [← hW]
    exact (((Below.refl _ _).alloc (Nat.le_refl _) _).alloc (by simp) _)
  clear hW
  have hc0 : wa.cell? ⟨w.heap.size + 1, 0, none⟩ = some (.int .i64 sec) := cell_of_row _ _ _ _ _ _ hr1
  have hc1 : wa.cell? ⟨w.heap.size + 1, 1, none⟩ = some (.int .i64 nano) := cell_of_row _ _ _ _ _ _ hr1
  have hsz : w.heap.size + 1 < wa.heap.size := (Array.getElem?_eq_some_iff.1 hr1).1
  have HR0 := Lib.hid hr0
  have HR1 := Lib.hid hr1
  clear hr0 hr1
  go_upto_region 2 with (go_big_may; refine wpList_store_row rfl 33 _ _ rfl wa.heap.size (#[.int .i64 (wrap64 (sec + 12622780800)), .int .i64 nano]) rfl rfl 33 _ (heap_alloc_new wa _) instSize rfl (by simp [Value.oneCell']) ?_)
  dsimp only [Act.put]
  generalize hY : World.setRow _ _ _ = wb
  have HU0 := Lib.hid (show wb.heap[wa.heap.size]? = some (.cells #[.int .i64 (wrap64 (sec + 12622780800)), .int .i64 nano] 33 (0, 0)) by rw [← hY]; exact setRow_heap _ _ _ _ _ _ (heap_alloc_new wa _))
  have HBb := Lib.hid (show Below wa.heap.size wa wb by rw [← hY]; exact below_setRow ((Below.refl _ _).alloc (Nat.le_refl _) _) (Nat.le_refl _) _)
  clear hY hc0 hc1
  have hB2 := below_le hB HBb.out
  have HR0' := Lib.hid ((HBb.out.block _ (Array.getElem?_eq_some_iff.1 HR0.out).1).trans HR0.out)
  have HR1' := Lib.hid ((HBb.out.block _ (Array.getElem?_eq_some_iff.1 HR1.out).1).trans HR1.out)
  clear HR0 HR1
  generalize hgu : wa.heap.size = gu at *
  clear HBb hB hgu
  go_wp2_with (first
    | (refine wpList_load_row rfl 27 _ rfl w.heap.size rfl _ _ _ _ HR0'.out Try.underlying27 rfl schedSize ?_)
    | (refine wpList_load_row rfl 33 _ rfl (w.heap.size + 1) rfl _ _ _ _ HR1'.out Try.underlying33 rfl instSize ?_))
  refine (HC.out _).mono ?_
  rintro e w2 ⟨rfl, hb2⟩
  have HS := Lib.hid ((hb2.block _ (Array.getElem?_eq_some_iff.1 HR0'.out).1).trans HR0'.out)
  have HT := Lib.hid ((hb2.block _ (Array.getElem?_eq_some_iff.1 HR1'.out).1).trans HR1'.out)
  have HU1 := Lib.hid ((hb2.block _ (Array.getElem?_eq_some_iff.1 HU0.out).1).trans HU0.out)
  have hB3 := below_le hB2 hb2
  clear hb2 HR0' HR1' HU0 hB2
  dsimp only
  cases hcc : (!ev && goodB sec nano) with
  | false =>
    go_wp2_with fail
    go_ret
    exact ⟨rfl, hB3⟩
  | true =>
    have hev : ev = false := by cases ev <;> simp_all
    subst hev
    have hg : goodB sec nano = true := by simpa using hcc
    obtain ⟨g1, g2, g3, g4⟩ := goodB_iff.1 hg
    have hw : wrap64 (sec + 12622780800) = sec + 12622780800 := by unfold wrap64; omega
    rw [hw] at HU1
    have HGU := Lib.hid (fun w' => good_any (sec + 12622780800) nano w')
    go_wp2_with (refine wpList_load_rowG (by rfl) 33 _ rfl gu rfl _ _ _ _ HU1.out Try.underlying33 rfl instSize ?_)
    refine (HGU.out _).mono ?_
    rintro e w3 ⟨rfl, hb3⟩
    have HS3 : Hid (w3.heap[w.heap.size]? = some (.cells (setsCells d S) 27 (0, 0))) := Lib.hid (row_keep HS.out hb3)
    have HT3 := Lib.hid (row_keep HT.out hb3)
    have HU3 := Lib.hid (row_keep HU1.out hb3)
    have hB4 := below_le hB3 hb3
    clear hb3 HS HT HU1 hB3
    dsimp only
    cases hg2 : goodB (sec + 12622780800) nano with
    | false =>
      go_wp2_with fail
      all_goals
        go_ret
        exact ⟨rfl, hB4⟩
    | true =>
      obtain ⟨-, k2, -, -⟩ := goodB_iff.1 hg2
      obtain ⟨r, hr⟩ := least_exists S (sec + 1) (yearL (sec + 1) + 5)
      obtain ⟨r2, hr2d⟩ : ∃ r2, r2 = r.map (· + era) := ⟨_, rfl⟩
      have hr2 : Least S (sec + 12622780800 + 1) (yearL (sec + 12622780800 + 1) + 5) r2 := by
        rw [hr2d, show sec + 12622780800 + 1 = sec + 1 + era by unfold era; omega, (era_date (sec + 1)).1, show yearL (sec + 1) + 400 + 5 = yearL (sec + 1) + 5 + 400 by omega]
        exact era_least hr
      have HU := Lib.hid (fun w' => cronUtc_any w')
      have HN1 := Lib.hid (fun w' => nextUtc_any d S hS sec nano hg r hr w')
      have HN2 := Lib.hid (fun w' => nextUtc_any d S hS (sec + 12622780800) nano hg2 r2 hr2 w')
      have HNN := Lib.hid (fun w' => cronNone_any d S hS sec nano g1 g2 w')
      have HR2 := Lib.hid hr2d
      have HRL := Lib.hid hr
      unfold utcZone at HU HN1 HN2 HNN
      clear hr2 hr2d hr HGU HC hw
      go_upto_region 4 with fail
      obtain ⟨wo, rfl⟩ : ∃ wo : World, wo = w3 := ⟨_, rfl⟩
      have hr0 := HS3.out
      have hr1 := HT3.out
      have hru := HU3.out
      refine start_ (n := 10) (S := fun w' => w'.heap[w.heap.size]? = some (.cells (setsCells d S) 27 (0, 0)) ∧ w'.heap[w.heap.size + 1]? = some (.cells #[.int .i64 sec, .int .i64 nano] 33 (0, 0)) ∧ w'.heap[gu]? = some (.cells #[.int .i64 (sec + 12622780800), .int .i64 nano] 33 (0, 0)) ∧ Below wo.heap.size wo w') (ds := [8]) #[false, false, false, false, false, false, false, false, false, false] (by kernel_rfl) rfl rfl ⟨hr0, hr1, hru, (Below.refl _ _).drew⟩ (fun hHeld => ?_)
      refine take_ (i := 0) (N := some 26) (v := ?_) (a' := ?_) #[true, false, false, false, false, false, false, false, false, false] rfl rfl (by kernel_rfl) (fun _ _ _ h => h) (Or.inl ⟨by rfl, ?_⟩) hHeld ?_ ?_
      rotate_left
      · rintro w' ⟨s0, s1, s2, s3⟩
        refine exec_load_row _ _ w' 27 (.tmp 2) ?_ (w.heap.size) ?_ _ _ _ _ s0 Try.underlying27 rfl schedSize
        · rfl
        · rfl
      rotate_left
      · simp only [Act.put, List.setIfInBounds_toArray, List.set_cons_zero, List.set_cons_succ, i64_w, i32_w]
        rfl
      refine take_ (i := 1) (N := some 27) (v := ?_) (a' := ?_) #[true, true, false, false, false, false, false, false, false, false] rfl rfl (by kernel_rfl) (fun _ _ _ h => h) (Or.inl ⟨by rfl, ?_⟩) hHeld ?_ ?_
      rotate_left
      · rintro w' ⟨s0, s1, s2, s3⟩
        refine exec_load_row _ _ w' 33 (.tmp 3) ?_ (w.heap.size + 1) ?_ _ _ _ _ s1 Try.underlying33 rfl instSize
        · rfl
        · rfl
      rotate_left
      · simp only [Act.put, List.setIfInBounds_toArray, List.set_cons_zero, List.set_cons_succ, i64_w, i32_w]
        rfl
      refine join_ (σ := Nat) 2 #[true, true, true, true, true, true, true, true, false, false] (fun s => [(28, .agg #[.slice none 0 0, .slice none 0 0, .slice none 0 0, .slice none 0 0]), (29, .tuple #[.agg (ansI 0 r), .bool r.isSome]), (25, .tuple #[.agg (ansI 0 r), .bool r.isSome]), (30, .agg (ansI 0 r)), (31, .bool r.isSome), (6, .pointer (some ⟨s, 0, none⟩))]) (fun s w' => InstRow w' s ∧ wo.heap.size ≤ s ∧ (w'.heap[w.heap.size]? = some (.cells (setsCells d S) 27 (0, 0)) ∧ w'.heap[w.heap.size + 1]? = some (.cells #[.int .i64 sec, .int .i64 nano] 33 (0, 0)) ∧ w'.heap[gu]? = some (.cells #[.int .i64 (sec + 12622780800), .int .i64 nano] 33 (0, 0)) ∧ Below wo.heap.size wo w')) ?_ ?_
      rotate_left
      · intro hCont
        refine two_ (i := 2) (j := 7) (Ni := some 28) (Nj := some 6) #[true, true, true, false, false, false, false, false, false, false] #[true, true, false, false, false, false, false, true, false, false] rfl rfl rfl rfl (by kernel_rfl) (by decide) (by decide) (fun K hK => ?_) (fun K hK => ?_)
        · skip
          refine goes_ Try.func12 (by kernel_rfl) rfl #[] (by rfl) rfl rfl (by simp only [List.map_toArray, List.map_nil]) ?_
          with_reducible refine (HU.out _).mono ?_
          rintro e w4 ⟨rfl, hb4⟩
          refine ⟨_, rfl, ?_⟩
          refine hK.out _ _ ⟨(hb4.block _ (Array.getElem?_eq_some_iff.1 hHeld.1).1).trans hHeld.1, (hb4.block _ (Array.getElem?_eq_some_iff.1 hHeld.2.1).1).trans hHeld.2.1, (hb4.block _ (Array.getElem?_eq_some_iff.1 hHeld.2.2.1).1).trans hHeld.2.2.1, below_le hHeld.2.2.2 hb4⟩ (fun hHeld => ?_)
          clear hK K
          refine norm_ (a' := ?_) ?_ ?_
          rotate_left
          · show Act.put _ (some 28) _ = _
            simp only [Act.put, List.setIfInBounds_toArray, List.set_cons_zero, List.set_cons_succ, i64_w, i32_w]
            rfl
          refine two_ (i := 3) (j := 7) (Ni := some 29) (Nj := some 6) #[true, true, true, true, false, false, false, false, false, false] #[true, true, true, false, false, false, false, true, false, false] rfl rfl rfl rfl (by kernel_rfl) (by decide) (by decide) (fun K hK => ?_) (fun K hK => ?_)
          · skip
            refine goes_ Try.func11 (by kernel_rfl) rfl #[.agg (setsCells d S), .agg #[.int .i64 sec, .int .i64 nano], .agg #[.slice none 0 0, .slice none 0 0, .slice none 0 0, .slice none 0 0]] (by rfl) rfl rfl (by simp only [List.map_toArray, List.map_cons, List.map_nil]; rfl) ?_
            with_reducible refine (HN1.out _).mono ?_
            rintro e w5 ⟨rfl, hb5⟩
            refine ⟨_, rfl, ?_⟩
            refine hK.out _ _ ⟨(hb5.block _ (Array.getElem?_eq_some_iff.1 hHeld.1).1).trans hHeld.1, (hb5.block _ (Array.getElem?_eq_some_iff.1 hHeld.2.1).1).trans hHeld.2.1, (hb5.block _ (Array.getElem?_eq_some_iff.1 hHeld.2.2.1).1).trans hHeld.2.2.1, below_le hHeld.2.2.2 hb5⟩ (fun hHeld => ?_)
            clear hK K
            refine norm_ (a' := ?_) ?_ ?_
            rotate_left
            · show Act.put _ (some 29) _ = _
              simp only [Act.put, List.setIfInBounds_toArray, List.set_cons_zero, List.set_cons_succ, i64_w, i32_w]
              rfl
            refine pure_ (i := 4) (N := some 25) (v := ?_) (a' := ?_) #[true, true, true, true, true, false, false, false, false, false] rfl rfl (by kernel_rfl) (fun _ _ _ h => h) (Or.inl ⟨by rfl, ?_⟩) ?_ ?_
            rotate_left
            · intro w'
              go_simp
              with_reducible rfl
            rotate_left
            · simp only [Act.put, List.setIfInBounds_toArray, List.set_cons_zero, List.set_cons_succ, i64_w, i32_w]
              rfl
            refine pure_ (i := 5) (N := some 30) (v := ?_) (a' := ?_) #[true, true, true, true, true, true, false, false, false, false] rfl rfl (by kernel_rfl) (fun _ _ _ h => h) (Or.inl ⟨by rfl, ?_⟩) ?_ ?_
            rotate_left
            · intro w'
              go_simp
              with_reducible rfl
            rotate_left
            · simp only [Act.put, List.setIfInBounds_toArray, List.set_cons_zero, List.set_cons_succ, i64_w, i32_w]
              rfl
            refine pure_ (i := 6) (N := some 31) (v := ?_) (a' := ?_) #[true, true, true, true, true, true, true, false, false, false] rfl rfl (by kernel_rfl) (fun _ _ _ h => h) (Or.inl ⟨by rfl, ?_⟩) ?_ ?_
            rotate_left
            · intro w'
              go_simp
              with_reducible rfl
            rotate_left
            · simp only [Act.put, List.setIfInBounds_toArray, List.set_cons_zero, List.set_cons_succ, i64_w, i32_w]
              rfl
            refine one_ (i := 7) (N := some 6) #[true, true, true, true, true, true, true, true, false, false] rfl rfl (by kernel_rfl) (by decide) (fun K hK => ?_)
            have hge7 := hHeld.2.2.2.size
            have hs7 := instRow_of hHeld.2.2.2
            refine value_ (by rfl) rfl (exec_alloc_inst _ _ _ rfl) ?_
            refine hK.out _ _ ⟨(((Below.refl _ _).alloc (Nat.le_refl _) _).block _ (Array.getElem?_eq_some_iff.1 hHeld.1).1).trans hHeld.1, (((Below.refl _ _).alloc (Nat.le_refl _) _).block _ (Array.getElem?_eq_some_iff.1 hHeld.2.1).1).trans hHeld.2.1, (((Below.refl _ _).alloc (Nat.le_refl _) _).block _ (Array.getElem?_eq_some_iff.1 hHeld.2.2.1).1).trans hHeld.2.2.1, hHeld.2.2.2.alloc hHeld.2.2.2.size _⟩ (fun hHeld => ?_)
            clear hK K
            refine norm_ (a' := ?_) ?_ ?_
            rotate_left
            · show Act.put _ (some 6) _ = _
              simp only [Act.put, List.setIfInBounds_toArray, List.set_cons_zero, List.set_cons_succ, i64_w, i32_w]
              rfl
            exact norm_ (by simp only [putAll, Act.put, List.setIfInBounds_toArray, List.set_cons_zero, List.set_cons_succ]) (hCont w5.heap.size _ ⟨hs7, hge7, hHeld⟩)
          · skip
            have hge7 := hHeld.2.2.2.size
            have hs7 := instRow_of hHeld.2.2.2
            refine value_ (by rfl) rfl (exec_alloc_inst _ _ _ rfl) ?_
            refine hK.out _ _ ⟨(((Below.refl _ _).alloc (Nat.le_refl _) _).block _ (Array.getElem?_eq_some_iff.1 hHeld.1).1).trans hHeld.1, (((Below.refl _ _).alloc (Nat.le_refl _) _).block _ (Array.getElem?_eq_some_iff.1 hHeld.2.1).1).trans hHeld.2.1, (((Below.refl _ _).alloc (Nat.le_refl _) _).block _ (Array.getElem?_eq_some_iff.1 hHeld.2.2.1).1).trans hHeld.2.2.1, hHeld.2.2.2.alloc hHeld.2.2.2.size _⟩ (fun hHeld => ?_)
            clear hK K
            refine norm_ (a' := ?_) ?_ ?_
            rotate_left
            · show Act.put _ (some 6) _ = _
              simp only [Act.put, List.setIfInBounds_toArray, List.set_cons_zero, List.set_cons_succ, i64_w, i32_w]
              rfl
            refine one_ (i := 3) (N := some 29) #[true, true, true, true, false, false, false, true, false, false] rfl rfl (by kernel_rfl) (by decide) (fun K hK => ?_)
            refine goes_ Try.func11 (by kernel_rfl) rfl #[.agg (setsCells d S), .agg #[.int .i64 sec, .int .i64 nano], .agg #[.slice none 0 0, .slice none 0 0, .slice none 0 0, .slice none 0 0]] (by rfl) rfl rfl (by simp only [List.map_toArray, List.map_cons, List.map_nil]; rfl) ?_
            with_reducible refine (HN1.out _).mono ?_
            rintro e w5 ⟨rfl, hb5⟩
            refine ⟨_, rfl, ?_⟩
            refine hK.out _ _ ⟨(hb5.block _ (Array.getElem?_eq_some_iff.1 hHeld.1).1).trans hHeld.1, (hb5.block _ (Array.getElem?_eq_some_iff.1 hHeld.2.1).1).trans hHeld.2.1, (hb5.block _ (Array.getElem?_eq_some_iff.1 hHeld.2.2.1).1).trans hHeld.2.2.1, below_le hHeld.2.2.2 hb5⟩ (fun hHeld => ?_)
            clear hK K
            refine norm_ (a' := ?_) ?_ ?_
            rotate_left
            · show Act.put _ (some 29) _ = _
              simp only [Act.put, List.setIfInBounds_toArray, List.set_cons_zero, List.set_cons_succ, i64_w, i32_w]
              rfl
            refine pure_ (i := 4) (N := some 25) (v := ?_) (a' := ?_) #[true, true, true, true, true, false, false, true, false, false] rfl rfl (by kernel_rfl) (fun _ _ _ h => h) (Or.inl ⟨by rfl, ?_⟩) ?_ ?_
            rotate_left
            · intro w'
              go_simp
              with_reducible rfl
            rotate_left
            · simp only [Act.put, List.setIfInBounds_toArray, List.set_cons_zero, List.set_cons_succ, i64_w, i32_w]
              rfl
            refine pure_ (i := 5) (N := some 30) (v := ?_) (a' := ?_) #[true, true, true, true, true, true, false, true, false, false] rfl rfl (by kernel_rfl) (fun _ _ _ h => h) (Or.inl ⟨by rfl, ?_⟩) ?_ ?_
            rotate_left
            · intro w'
              go_simp
              with_reducible rfl
            rotate_left
            · simp only [Act.put, List.setIfInBounds_toArray, List.set_cons_zero, List.set_cons_succ, i64_w, i32_w]
              rfl
            refine pure_ (i := 6) (N := some 31) (v := ?_) (a' := ?_) #[true, true, true, true, true, true, true, true, false, false] rfl rfl (by kernel_rfl) (fun _ _ _ h => h) (Or.inl ⟨by rfl, ?_⟩) ?_ ?_
            rotate_left
            · intro w'
              go_simp
              with_reducible rfl
            rotate_left
            · simp only [Act.put, List.setIfInBounds_toArray, List.set_cons_zero, List.set_cons_succ, i64_w, i32_w]
              rfl
            exact norm_ (by simp only [putAll, Act.put, List.setIfInBounds_toArray, List.set_cons_zero, List.set_cons_succ]) (hCont w4.heap.size _ ⟨hs7.below hb5, hge7, hHeld⟩)
        · skip
          have hge7 := hHeld.2.2.2.size
          have hs7 := instRow_of hHeld.2.2.2
          refine value_ (by rfl) rfl (exec_alloc_inst _ _ _ rfl) ?_
          refine hK.out _ _ ⟨(((Below.refl _ _).alloc (Nat.le_refl _) _).block _ (Array.getElem?_eq_some_iff.1 hHeld.1).1).trans hHeld.1, (((Below.refl _ _).alloc (Nat.le_refl _) _).block _ (Array.getElem?_eq_some_iff.1 hHeld.2.1).1).trans hHeld.2.1, (((Below.refl _ _).alloc (Nat.le_refl _) _).block _ (Array.getElem?_eq_some_iff.1 hHeld.2.2.1).1).trans hHeld.2.2.1, hHeld.2.2.2.alloc hHeld.2.2.2.size _⟩ (fun hHeld => ?_)
          clear hK K
          refine norm_ (a' := ?_) ?_ ?_
          rotate_left
          · show Act.put _ (some 6) _ = _
            simp only [Act.put, List.setIfInBounds_toArray, List.set_cons_zero, List.set_cons_succ, i64_w, i32_w]
            rfl
          refine one_ (i := 2) (N := some 28) #[true, true, true, false, false, false, false, true, false, false] rfl rfl (by kernel_rfl) (by decide) (fun K hK => ?_)
          refine goes_ Try.func12 (by kernel_rfl) rfl #[] (by rfl) rfl rfl (by simp only [List.map_toArray, List.map_nil]) ?_
          with_reducible refine (HU.out _).mono ?_
          rintro e w4 ⟨rfl, hb4⟩
          refine ⟨_, rfl, ?_⟩
          refine hK.out _ _ ⟨(hb4.block _ (Array.getElem?_eq_some_iff.1 hHeld.1).1).trans hHeld.1, (hb4.block _ (Array.getElem?_eq_some_iff.1 hHeld.2.1).1).trans hHeld.2.1, (hb4.block _ (Array.getElem?_eq_some_iff.1 hHeld.2.2.1).1).trans hHeld.2.2.1, below_le hHeld.2.2.2 hb4⟩ (fun hHeld => ?_)
          clear hK K
          refine norm_ (a' := ?_) ?_ ?_
          rotate_left
          · show Act.put _ (some 28) _ = _
            simp only [Act.put, List.setIfInBounds_toArray, List.set_cons_zero, List.set_cons_succ, i64_w, i32_w]
            rfl
          refine one_ (i := 3) (N := some 29) #[true, true, true, true, false, false, false, true, false, false] rfl rfl (by kernel_rfl) (by decide) (fun K hK => ?_)
          refine goes_ Try.func11 (by kernel_rfl) rfl #[.agg (setsCells d S), .agg #[.int .i64 sec, .int .i64 nano], .agg #[.slice none 0 0, .slice none 0 0, .slice none 0 0, .slice none 0 0]] (by rfl) rfl rfl (by simp only [List.map_toArray, List.map_cons, List.map_nil]; rfl) ?_
          with_reducible refine (HN1.out _).mono ?_
          rintro e w5 ⟨rfl, hb5⟩
          refine ⟨_, rfl, ?_⟩
          refine hK.out _ _ ⟨(hb5.block _ (Array.getElem?_eq_some_iff.1 hHeld.1).1).trans hHeld.1, (hb5.block _ (Array.getElem?_eq_some_iff.1 hHeld.2.1).1).trans hHeld.2.1, (hb5.block _ (Array.getElem?_eq_some_iff.1 hHeld.2.2.1).1).trans hHeld.2.2.1, below_le hHeld.2.2.2 hb5⟩ (fun hHeld => ?_)
          clear hK K
          refine norm_ (a' := ?_) ?_ ?_
          rotate_left
          · show Act.put _ (some 29) _ = _
            simp only [Act.put, List.setIfInBounds_toArray, List.set_cons_zero, List.set_cons_succ, i64_w, i32_w]
            rfl
          refine pure_ (i := 4) (N := some 25) (v := ?_) (a' := ?_) #[true, true, true, true, true, false, false, true, false, false] rfl rfl (by kernel_rfl) (fun _ _ _ h => h) (Or.inl ⟨by rfl, ?_⟩) ?_ ?_
          rotate_left
          · intro w'
            go_simp
            with_reducible rfl
          rotate_left
          · simp only [Act.put, List.setIfInBounds_toArray, List.set_cons_zero, List.set_cons_succ, i64_w, i32_w]
            rfl
          refine pure_ (i := 5) (N := some 30) (v := ?_) (a' := ?_) #[true, true, true, true, true, true, false, true, false, false] rfl rfl (by kernel_rfl) (fun _ _ _ h => h) (Or.inl ⟨by rfl, ?_⟩) ?_ ?_
          rotate_left
          · intro w'
            go_simp
            with_reducible rfl
          rotate_left
          · simp only [Act.put, List.setIfInBounds_toArray, List.set_cons_zero, List.set_cons_succ, i64_w, i32_w]
            rfl
          refine pure_ (i := 6) (N := some 31) (v := ?_) (a' := ?_) #[true, true, true, true, true, true, true, true, false, false] rfl rfl (by kernel_rfl) (fun _ _ _ h => h) (Or.inl ⟨by rfl, ?_⟩) ?_ ?_
          rotate_left
          · intro w'
            go_simp
            with_reducible rfl
          rotate_left
          · simp only [Act.put, List.setIfInBounds_toArray, List.set_cons_zero, List.set_cons_succ, i64_w, i32_w]
            rfl
          exact norm_ (by simp only [putAll, Act.put, List.setIfInBounds_toArray, List.set_cons_zero, List.set_cons_succ]) (hCont wo.drew.heap.size _ ⟨(hs7.below hb4).below hb5, hge7, hHeld⟩)
      rintro g7 w5 ⟨hs7, hge7, hHeld⟩
      refine norm_ (a' := ?_) ?_ ?_
      rotate_left
      · simp only [putAll, Act.put, List.setIfInBounds_toArray, List.set_cons_zero, List.set_cons_succ]
        rfl
      refine last_ (i := 8) (N := none) #[true, true, true, true, true, true, true, true, true, false] rfl rfl (by kernel_rfl) (by decide) (fun K hK => ?_)
      rw [if_pos (by rfl)]
      refine wp_store_row 33 _ _ rfl g7 (ansI 0 r) rfl rfl 33 instZ hs7 (by rw [ansI_size]; exact instSize) (by rw [ansI_size]; rfl) (ansI_one 0 r) ?_
      go_simp
      refine hK.out _ _ ?_
      clear hK K
      refine pure_ (i := 9) (N := some 7) (v := ?_) (a' := ?_) #[true, true, true, true, true, true, true, true, true, true] rfl rfl (by kernel_rfl) (fun _ _ _ h => h) (Or.inl ⟨by rfl, ?_⟩) ?_ ?_
      rotate_left
      · intro w'
        go_simp
        with_reducible rfl
      rotate_left
      · simp only [Act.put, List.setIfInBounds_toArray, List.set_cons_zero, List.set_cons_succ, i64_w, i32_w]
        rfl
      refine done_ (by kernel_rfl) ?_
      have hlo := row_lt hr0
      have hl1 := row_lt hr1
      have hlu := row_lt hru
      generalize hY : World.setRow _ _ _ = w6
      have HA6 := Lib.hid (show w6.heap[g7]? = some (.cells (ansI 0 r) 33 (0, 0)) by rw [← hY]; exact setRow_heap _ _ _ _ _ _ hs7)
      have HS6 := Lib.hid (show w6.heap[w.heap.size]? = some (.cells (setsCells d S) 27 (0, 0)) by rw [← hY]; exact (setRow_other _ _ _ _ (by omega)).trans hHeld.1)
      have HT6 := Lib.hid (show w6.heap[w.heap.size + 1]? = some (.cells #[.int .i64 sec, .int .i64 nano] 33 (0, 0)) by rw [← hY]; exact (setRow_other _ _ _ _ (by omega)).trans hHeld.2.1)
      have HU6 := Lib.hid (show w6.heap[gu]? = some (.cells #[.int .i64 (sec + 12622780800), .int .i64 nano] 33 (0, 0)) by rw [← hY]; exact (setRow_other _ _ _ _ (by omega)).trans hHeld.2.2.1)
      have hB6 : Below w.heap.size w w6 := by rw [← hY]; exact below_setRow (below_le hB4 hHeld.2.2.2) (by omega) _
      clear hY hHeld hs7 hge7 hr0 hr1 hru HS3 HT3 HU3 hB4 hlo hl1 hlu
      obtain ⟨ga, rfl⟩ : ∃ ga : Nat, ga = g7 := ⟨_, rfl⟩
      go_upto_region 5 with fail
      obtain ⟨wo, rfl⟩ : ∃ wo : World, wo = w6 := ⟨_, rfl⟩
      have hr0 := HS6.out
      have hr1 := HT6.out
      have hra := HA6.out
      have hru := HU6.out
      refine start_ (n := 10) (S := fun w' => w'.heap[w.heap.size]? = some (.cells (setsCells d S) 27 (0, 0)) ∧ w'.heap[w.heap.size + 1]? = some (.cells #[.int .i64 sec, .int .i64 nano] 33 (0, 0)) ∧ w'.heap[ga]? = some (.cells (ansI 0 r) 33 (0, 0)) ∧ w'.heap[gu]? = some (.cells #[.int .i64 (sec + 12622780800), .int .i64 nano] 33 (0, 0)) ∧ Below wo.heap.size wo w') (ds := [8]) #[false, false, false, false, false, false, false, false, false, false] (by kernel_rfl) rfl rfl ⟨hr0, hr1, hra, hru, (Below.refl _ _).drew⟩ (fun hHeld => ?_)
      refine take_ (i := 0) (N := some 33) (v := ?_) (a' := ?_) #[true, false, false, false, false, false, false, false, false, false] rfl rfl (by kernel_rfl) (fun _ _ _ h => h) (Or.inl ⟨by rfl, ?_⟩) hHeld ?_ ?_
      rotate_left
      · rintro w' ⟨s0, s1, s2, s3, s4⟩
        refine exec_load_row _ _ w' 27 (.tmp 2) ?_ (w.heap.size) ?_ _ _ _ _ s0 Try.underlying27 rfl schedSize
        · rfl
        · rfl
      rotate_left
      · simp only [Act.put, List.setIfInBounds_toArray, List.set_cons_zero, List.set_cons_succ, i64_w, i32_w]
        rfl
      refine take_ (i := 1) (N := some 34) (v := ?_) (a' := ?_) #[true, true, false, false, false, false, false, false, false, false] rfl rfl (by kernel_rfl) (fun _ _ _ h => h) (Or.inl ⟨by rfl, ?_⟩) hHeld ?_ ?_
      rotate_left
      · rintro w' ⟨s0, s1, s2, s3, s4⟩
        refine exec_load_row _ _ w' 33 (.tmp 5) ?_ gu ?_ _ _ _ _ s3 Try.underlying33 rfl instSize
        · rfl
        · rfl
      rotate_left
      · simp only [Act.put, List.setIfInBounds_toArray, List.set_cons_zero, List.set_cons_succ, i64_w, i32_w]
        rfl
      refine join_ (σ := Nat) 2 #[true, true, true, true, true, true, true, true, false, false] (fun s => [(35, .agg #[.slice none 0 0, .slice none 0 0, .slice none 0 0, .slice none 0 0]), (36, .tuple #[.agg (ansI 0 r2), .bool r2.isSome]), (32, .tuple #[.agg (ansI 0 r2), .bool r2.isSome]), (37, .agg (ansI 0 r2)), (38, .bool r2.isSome), (8, .pointer (some ⟨s, 0, none⟩))]) (fun s w' => InstRow w' s ∧ wo.heap.size ≤ s ∧ (w'.heap[w.heap.size]? = some (.cells (setsCells d S) 27 (0, 0)) ∧ w'.heap[w.heap.size + 1]? = some (.cells #[.int .i64 sec, .int .i64 nano] 33 (0, 0)) ∧ w'.heap[ga]? = some (.cells (ansI 0 r) 33 (0, 0)) ∧ w'.heap[gu]? = some (.cells #[.int .i64 (sec + 12622780800), .int .i64 nano] 33 (0, 0)) ∧ Below wo.heap.size wo w')) ?_ ?_
      rotate_left
      · intro hCont
        refine two_ (i := 2) (j := 7) (Ni := some 35) (Nj := some 8) #[true, true, true, false, false, false, false, false, false, false] #[true, true, false, false, false, false, false, true, false, false] rfl rfl rfl rfl (by kernel_rfl) (by decide) (by decide) (fun K hK => ?_) (fun K hK => ?_)
        · skip
          refine goes_ Try.func12 (by kernel_rfl) rfl #[] (by rfl) rfl rfl (by simp only [List.map_toArray, List.map_nil]) ?_
          with_reducible refine (HU.out _).mono ?_
          rintro e w4 ⟨rfl, hb4⟩
          refine ⟨_, rfl, ?_⟩
          refine hK.out _ _ ⟨(hb4.block _ (Array.getElem?_eq_some_iff.1 hHeld.1).1).trans hHeld.1, (hb4.block _ (Array.getElem?_eq_some_iff.1 hHeld.2.1).1).trans hHeld.2.1, (hb4.block _ (Array.getElem?_eq_some_iff.1 hHeld.2.2.1).1).trans hHeld.2.2.1, (hb4.block _ (Array.getElem?_eq_some_iff.1 hHeld.2.2.2.1).1).trans hHeld.2.2.2.1, below_le hHeld.2.2.2.2 hb4⟩ (fun hHeld => ?_)
          clear hK K
          refine norm_ (a' := ?_) ?_ ?_
          rotate_left
          · show Act.put _ (some 35) _ = _
            simp only [Act.put, List.setIfInBounds_toArray, List.set_cons_zero, List.set_cons_succ, i64_w, i32_w]
            rfl
          refine two_ (i := 3) (j := 7) (Ni := some 36) (Nj := some 8) #[true, true, true, true, false, false, false, false, false, false] #[true, true, true, false, false, false, false, true, false, false] rfl rfl rfl rfl (by kernel_rfl) (by decide) (by decide) (fun K hK => ?_) (fun K hK => ?_)
          · skip
            refine goes_ Try.func11 (by kernel_rfl) rfl #[.agg (setsCells d S), .agg #[.int .i64 (sec + 12622780800), .int .i64 nano], .agg #[.slice none 0 0, .slice none 0 0, .slice none 0 0, .slice none 0 0]] (by rfl) rfl rfl (by simp only [List.map_toArray, List.map_cons, List.map_nil]; rfl) ?_
            with_reducible refine (HN2.out _).mono ?_
            rintro e w5 ⟨rfl, hb5⟩
            refine ⟨_, rfl, ?_⟩
            refine hK.out _ _ ⟨(hb5.block _ (Array.getElem?_eq_some_iff.1 hHeld.1).1).trans hHeld.1, (hb5.block _ (Array.getElem?_eq_some_iff.1 hHeld.2.1).1).trans hHeld.2.1, (hb5.block _ (Array.getElem?_eq_some_iff.1 hHeld.2.2.1).1).trans hHeld.2.2.1, (hb5.block _ (Array.getElem?_eq_some_iff.1 hHeld.2.2.2.1).1).trans hHeld.2.2.2.1, below_le hHeld.2.2.2.2 hb5⟩ (fun hHeld => ?_)
            clear hK K
            refine norm_ (a' := ?_) ?_ ?_
            rotate_left
            · show Act.put _ (some 36) _ = _
              simp only [Act.put, List.setIfInBounds_toArray, List.set_cons_zero, List.set_cons_succ, i64_w, i32_w]
              rfl
            refine pure_ (i := 4) (N := some 32) (v := ?_) (a' := ?_) #[true, true, true, true, true, false, false, false, false, false] rfl rfl (by kernel_rfl) (fun _ _ _ h => h) (Or.inl ⟨by rfl, ?_⟩) ?_ ?_
            rotate_left
            · intro w'
              go_simp
              with_reducible rfl
            rotate_left
            · simp only [Act.put, List.setIfInBounds_toArray, List.set_cons_zero, List.set_cons_succ, i64_w, i32_w]
              rfl
            refine pure_ (i := 5) (N := some 37) (v := ?_) (a' := ?_) #[true, true, true, true, true, true, false, false, false, false] rfl rfl (by kernel_rfl) (fun _ _ _ h => h) (Or.inl ⟨by rfl, ?_⟩) ?_ ?_
            rotate_left
            · intro w'
              go_simp
              with_reducible rfl
            rotate_left
            · simp only [Act.put, List.setIfInBounds_toArray, List.set_cons_zero, List.set_cons_succ, i64_w, i32_w]
              rfl
            refine pure_ (i := 6) (N := some 38) (v := ?_) (a' := ?_) #[true, true, true, true, true, true, true, false, false, false] rfl rfl (by kernel_rfl) (fun _ _ _ h => h) (Or.inl ⟨by rfl, ?_⟩) ?_ ?_
            rotate_left
            · intro w'
              go_simp
              with_reducible rfl
            rotate_left
            · simp only [Act.put, List.setIfInBounds_toArray, List.set_cons_zero, List.set_cons_succ, i64_w, i32_w]
              rfl
            refine one_ (i := 7) (N := some 8) #[true, true, true, true, true, true, true, true, false, false] rfl rfl (by kernel_rfl) (by decide) (fun K hK => ?_)
            have hge7 := hHeld.2.2.2.2.size
            have hs7 := instRow_of hHeld.2.2.2.2
            refine value_ (by rfl) rfl (exec_alloc_inst _ _ _ rfl) ?_
            refine hK.out _ _ ⟨(((Below.refl _ _).alloc (Nat.le_refl _) _).block _ (Array.getElem?_eq_some_iff.1 hHeld.1).1).trans hHeld.1, (((Below.refl _ _).alloc (Nat.le_refl _) _).block _ (Array.getElem?_eq_some_iff.1 hHeld.2.1).1).trans hHeld.2.1, (((Below.refl _ _).alloc (Nat.le_refl _) _).block _ (Array.getElem?_eq_some_iff.1 hHeld.2.2.1).1).trans hHeld.2.2.1, (((Below.refl _ _).alloc (Nat.le_refl _) _).block _ (Array.getElem?_eq_some_iff.1 hHeld.2.2.2.1).1).trans hHeld.2.2.2.1, hHeld.2.2.2.2.alloc hHeld.2.2.2.2.size _⟩ (fun hHeld => ?_)
            clear hK K
            refine norm_ (a' := ?_) ?_ ?_
            rotate_left
            · show Act.put _ (some 8) _ = _
              simp only [Act.put, List.setIfInBounds_toArray, List.set_cons_zero, List.set_cons_succ, i64_w, i32_w]
              rfl
            exact norm_ (by simp only [putAll, Act.put, List.setIfInBounds_toArray, List.set_cons_zero, List.set_cons_succ]) (hCont w5.heap.size _ ⟨hs7, hge7, hHeld⟩)
          · skip
            have hge7 := hHeld.2.2.2.2.size
            have hs7 := instRow_of hHeld.2.2.2.2
            refine value_ (by rfl) rfl (exec_alloc_inst _ _ _ rfl) ?_
            refine hK.out _ _ ⟨(((Below.refl _ _).alloc (Nat.le_refl _) _).block _ (Array.getElem?_eq_some_iff.1 hHeld.1).1).trans hHeld.1, (((Below.refl _ _).alloc (Nat.le_refl _) _).block _ (Array.getElem?_eq_some_iff.1 hHeld.2.1).1).trans hHeld.2.1, (((Below.refl _ _).alloc (Nat.le_refl _) _).block _ (Array.getElem?_eq_some_iff.1 hHeld.2.2.1).1).trans hHeld.2.2.1, (((Below.refl _ _).alloc (Nat.le_refl _) _).block _ (Array.getElem?_eq_some_iff.1 hHeld.2.2.2.1).1).trans hHeld.2.2.2.1, hHeld.2.2.2.2.alloc hHeld.2.2.2.2.size _⟩ (fun hHeld => ?_)
            clear hK K
            refine norm_ (a' := ?_) ?_ ?_
            rotate_left
            · show Act.put _ (some 8) _ = _
              simp only [Act.put, List.setIfInBounds_toArray, List.set_cons_zero, List.set_cons_succ, i64_w, i32_w]
              rfl
            refine one_ (i := 3) (N := some 36) #[true, true, true, true, false, false, false, true, false, false] rfl rfl (by kernel_rfl) (by decide) (fun K hK => ?_)
            refine goes_ Try.func11 (by kernel_rfl) rfl #[.agg (setsCells d S), .agg #[.int .i64 (sec + 12622780800), .int .i64 nano], .agg #[.slice none 0 0, .slice none 0 0, .slice none 0 0, .slice none 0 0]] (by rfl) rfl rfl (by simp only [List.map_toArray, List.map_cons, List.map_nil]; rfl) ?_
            with_reducible refine (HN2.out _).mono ?_
            rintro e w5 ⟨rfl, hb5⟩
            refine ⟨_, rfl, ?_⟩
            refine hK.out _ _ ⟨(hb5.block _ (Array.getElem?_eq_some_iff.1 hHeld.1).1).trans hHeld.1, (hb5.block _ (Array.getElem?_eq_some_iff.1 hHeld.2.1).1).trans hHeld.2.1, (hb5.block _ (Array.getElem?_eq_some_iff.1 hHeld.2.2.1).1).trans hHeld.2.2.1, (hb5.block _ (Array.getElem?_eq_some_iff.1 hHeld.2.2.2.1).1).trans hHeld.2.2.2.1, below_le hHeld.2.2.2.2 hb5⟩ (fun hHeld => ?_)
            clear hK K
            refine norm_ (a' := ?_) ?_ ?_
            rotate_left
            · show Act.put _ (some 36) _ = _
              simp only [Act.put, List.setIfInBounds_toArray, List.set_cons_zero, List.set_cons_succ, i64_w, i32_w]
              rfl
            refine pure_ (i := 4) (N := some 32) (v := ?_) (a' := ?_) #[true, true, true, true, true, false, false, true, false, false] rfl rfl (by kernel_rfl) (fun _ _ _ h => h) (Or.inl ⟨by rfl, ?_⟩) ?_ ?_
            rotate_left
            · intro w'
              go_simp
              with_reducible rfl
            rotate_left
            · simp only [Act.put, List.setIfInBounds_toArray, List.set_cons_zero, List.set_cons_succ, i64_w, i32_w]
              rfl
            refine pure_ (i := 5) (N := some 37) (v := ?_) (a' := ?_) #[true, true, true, true, true, true, false, true, false, false] rfl rfl (by kernel_rfl) (fun _ _ _ h => h) (Or.inl ⟨by rfl, ?_⟩) ?_ ?_
            rotate_left
            · intro w'
              go_simp
              with_reducible rfl
            rotate_left
            · simp only [Act.put, List.setIfInBounds_toArray, List.set_cons_zero, List.set_cons_succ, i64_w, i32_w]
              rfl
            refine pure_ (i := 6) (N := some 38) (v := ?_) (a' := ?_) #[true, true, true, true, true, true, true, true, false, false] rfl rfl (by kernel_rfl) (fun _ _ _ h => h) (Or.inl ⟨by rfl, ?_⟩) ?_ ?_
            rotate_left
            · intro w'
              go_simp
              with_reducible rfl
            rotate_left
            · simp only [Act.put, List.setIfInBounds_toArray, List.set_cons_zero, List.set_cons_succ, i64_w, i32_w]
              rfl
            exact norm_ (by simp only [putAll, Act.put, List.setIfInBounds_toArray, List.set_cons_zero, List.set_cons_succ]) (hCont w4.heap.size _ ⟨hs7.below hb5, hge7, hHeld⟩)
        · skip
          have hge7 := hHeld.2.2.2.2.size
          have hs7 := instRow_of hHeld.2.2.2.2
          refine value_ (by rfl) rfl (exec_alloc_inst _ _ _ rfl) ?_
          refine hK.out _ _ ⟨(((Below.refl _ _).alloc (Nat.le_refl _) _).block _ (Array.getElem?_eq_some_iff.1 hHeld.1).1).trans hHeld.1, (((Below.refl _ _).alloc (Nat.le_refl _) _).block _ (Array.getElem?_eq_some_iff.1 hHeld.2.1).1).trans hHeld.2.1, (((Below.refl _ _).alloc (Nat.le_refl _) _).block _ (Array.getElem?_eq_some_iff.1 hHeld.2.2.1).1).trans hHeld.2.2.1, (((Below.refl _ _).alloc (Nat.le_refl _) _).block _ (Array.getElem?_eq_some_iff.1 hHeld.2.2.2.1).1).trans hHeld.2.2.2.1, hHeld.2.2.2.2.alloc hHeld.2.2.2.2.size _⟩ (fun hHeld => ?_)
          clear hK K
          refine norm_ (a' := ?_) ?_ ?_
          rotate_left
          · show Act.put _ (some 8) _ = _
            simp only [Act.put, List.setIfInBounds_toArray, List.set_cons_zero, List.set_cons_succ, i64_w, i32_w]
            rfl
          refine one_ (i := 2) (N := some 35) #[true, true, true, false, false, false, false, true, false, false] rfl rfl (by kernel_rfl) (by decide) (fun K hK => ?_)
          refine goes_ Try.func12 (by kernel_rfl) rfl #[] (by rfl) rfl rfl (by simp only [List.map_toArray, List.map_nil]) ?_
          with_reducible refine (HU.out _).mono ?_
          rintro e w4 ⟨rfl, hb4⟩
          refine ⟨_, rfl, ?_⟩
          refine hK.out _ _ ⟨(hb4.block _ (Array.getElem?_eq_some_iff.1 hHeld.1).1).trans hHeld.1, (hb4.block _ (Array.getElem?_eq_some_iff.1 hHeld.2.1).1).trans hHeld.2.1, (hb4.block _ (Array.getElem?_eq_some_iff.1 hHeld.2.2.1).1).trans hHeld.2.2.1, (hb4.block _ (Array.getElem?_eq_some_iff.1 hHeld.2.2.2.1).1).trans hHeld.2.2.2.1, below_le hHeld.2.2.2.2 hb4⟩ (fun hHeld => ?_)
          clear hK K
          refine norm_ (a' := ?_) ?_ ?_
          rotate_left
          · show Act.put _ (some 35) _ = _
            simp only [Act.put, List.setIfInBounds_toArray, List.set_cons_zero, List.set_cons_succ, i64_w, i32_w]
            rfl
          refine one_ (i := 3) (N := some 36) #[true, true, true, true, false, false, false, true, false, false] rfl rfl (by kernel_rfl) (by decide) (fun K hK => ?_)
          refine goes_ Try.func11 (by kernel_rfl) rfl #[.agg (setsCells d S), .agg #[.int .i64 (sec + 12622780800), .int .i64 nano], .agg #[.slice none 0 0, .slice none 0 0, .slice none 0 0, .slice none 0 0]] (by rfl) rfl rfl (by simp only [List.map_toArray, List.map_cons, List.map_nil]; rfl) ?_
          with_reducible refine (HN2.out _).mono ?_
          rintro e w5 ⟨rfl, hb5⟩
          refine ⟨_, rfl, ?_⟩
          refine hK.out _ _ ⟨(hb5.block _ (Array.getElem?_eq_some_iff.1 hHeld.1).1).trans hHeld.1, (hb5.block _ (Array.getElem?_eq_some_iff.1 hHeld.2.1).1).trans hHeld.2.1, (hb5.block _ (Array.getElem?_eq_some_iff.1 hHeld.2.2.1).1).trans hHeld.2.2.1, (hb5.block _ (Array.getElem?_eq_some_iff.1 hHeld.2.2.2.1).1).trans hHeld.2.2.2.1, below_le hHeld.2.2.2.2 hb5⟩ (fun hHeld => ?_)
          clear hK K
          refine norm_ (a' := ?_) ?_ ?_
          rotate_left
          · show Act.put _ (some 36) _ = _
            simp only [Act.put, List.setIfInBounds_toArray, List.set_cons_zero, List.set_cons_succ, i64_w, i32_w]
            rfl
          refine pure_ (i := 4) (N := some 32) (v := ?_) (a' := ?_) #[true, true, true, true, true, false, false, true, false, false] rfl rfl (by kernel_rfl) (fun _ _ _ h => h) (Or.inl ⟨by rfl, ?_⟩) ?_ ?_
          rotate_left
          · intro w'
            go_simp
            with_reducible rfl
          rotate_left
          · simp only [Act.put, List.setIfInBounds_toArray, List.set_cons_zero, List.set_cons_succ, i64_w, i32_w]
            rfl
          refine pure_ (i := 5) (N := some 37) (v := ?_) (a' := ?_) #[true, true, true, true, true, true, false, true, false, false] rfl rfl (by kernel_rfl) (fun _ _ _ h => h) (Or.inl ⟨by rfl, ?_⟩) ?_ ?_
          rotate_left
          · intro w'
            go_simp
            with_reducible rfl
          rotate_left
          · simp only [Act.put, List.setIfInBounds_toArray, List.set_cons_zero, List.set_cons_succ, i64_w, i32_w]
            rfl
          refine pure_ (i := 6) (N := some 38) (v := ?_) (a' := ?_) #[true, true, true, true, true, true, true, true, false, false] rfl rfl (by kernel_rfl) (fun _ _ _ h => h) (Or.inl ⟨by rfl, ?_⟩) ?_ ?_
          rotate_left
          · intro w'
            go_simp
            with_reducible rfl
          rotate_left
          · simp only [Act.put, List.setIfInBounds_toArray, List.set_cons_zero, List.set_cons_succ, i64_w, i32_w]
            rfl
          exact norm_ (by simp only [putAll, Act.put, List.setIfInBounds_toArray, List.set_cons_zero, List.set_cons_succ]) (hCont wo.drew.heap.size _ ⟨(hs7.below hb4).below hb5, hge7, hHeld⟩)
      rintro g7 w5 ⟨hs7, hge7, hHeld⟩
      refine norm_ (a' := ?_) ?_ ?_
      rotate_left
      · simp only [putAll, Act.put, List.setIfInBounds_toArray, List.set_cons_zero, List.set_cons_succ]
        rfl
      refine last_ (i := 8) (N := none) #[true, true, true, true, true, true, true, true, true, false] rfl rfl (by kernel_rfl) (by decide) (fun K hK => ?_)
      rw [if_pos (by rfl)]
      refine wp_store_row 33 _ _ rfl g7 (ansI 0 r2) rfl rfl 33 instZ hs7 (by rw [ansI_size]; exact instSize) (by rw [ansI_size]; rfl) (ansI_one 0 r2) ?_
      go_simp
      refine hK.out _ _ ?_
      clear hK K
      refine pure_ (i := 9) (N := some 9) (v := ?_) (a' := ?_) #[true, true, true, true, true, true, true, true, true, true] rfl rfl (by kernel_rfl) (fun _ _ _ h => h) (Or.inl ⟨by rfl, ?_⟩) ?_ ?_
      rotate_left
      · intro w'
        go_simp
        with_reducible rfl
      rotate_left
      · simp only [Act.put, List.setIfInBounds_toArray, List.set_cons_zero, List.set_cons_succ, i64_w, i32_w]
        rfl
      refine done_ (by kernel_rfl) ?_
      have hlo := row_lt hr0
      have hl1 := row_lt hr1
      have hla := row_lt hra
      generalize hY : World.setRow _ _ _ = w6
      have HB7 := Lib.hid (show w6.heap[g7]? = some (.cells (ansI 0 r2) 33 (0, 0)) by rw [← hY]; exact setRow_heap _ _ _ _ _ _ hs7)
      have HS7 := Lib.hid (show w6.heap[w.heap.size]? = some (.cells (setsCells d S) 27 (0, 0)) by rw [← hY]; exact (setRow_other _ _ _ _ (by omega)).trans hHeld.1)
      have HT7 := Lib.hid (show w6.heap[w.heap.size + 1]? = some (.cells #[.int .i64 sec, .int .i64 nano] 33 (0, 0)) by rw [← hY]; exact (setRow_other _ _ _ _ (by omega)).trans hHeld.2.1)
      have HA7 := Lib.hid (show w6.heap[ga]? = some (.cells (ansI 0 r) 33 (0, 0)) by rw [← hY]; exact (setRow_other _ _ _ _ (by omega)).trans hHeld.2.2.1)
      have hB7 : Below w.heap.size w w6 := by rw [← hY]; exact below_setRow (below_le hB6 hHeld.2.2.2.2) (by omega) _
      clear hY hHeld hs7 hge7 hr0 hr1 hra hru HS6 HT6 HA6 HU6 hB6 hlo hl1 hla
      obtain ⟨gb, rfl⟩ : ∃ gb : Nat, gb = g7 := ⟨_, rfl⟩
      have hr2d := HR2.out
      cases r with
      | none =>
        obtain rfl : r2 = none := hr2d
        dsimp only [Option.isSome]
        go_upto_region 7 with fail
        obtain ⟨wo, rfl⟩ : ∃ wo : World, wo = w6 := ⟨_, rfl⟩
        have hr0 := HS7.out
        have hr1 := HT7.out
        refine start_ (n := 13) (S := fun w' => w'.heap[w.heap.size]? = some (.cells (setsCells d S) 27 (0, 0)) ∧ w'.heap[w.heap.size + 1]? = some (.cells #[.int .i64 sec, .int .i64 nano] 33 (0, 0)) ∧ Below wo.heap.size wo w') (ds := []) #[false, false, false, false, false, false, false, false, false, false, false, false, false] (by kernel_rfl) rfl rfl ⟨hr0, hr1, (Below.refl _ _).drew⟩ (fun hHeld => ?_)
        refine pure_ (i := 0) (N := some 45) (v := ?_) (a' := ?_) #[true, false, false, false, false, false, false, false, false, false, false, false, false] rfl rfl (by kernel_rfl) (fun _ _ _ h => h) (Or.inl ⟨by rfl, ?_⟩) ?_ ?_
        rotate_left
        · intro w'
          go_simp
          with_reducible rfl
        rotate_left
        · simp only [Act.put, List.setIfInBounds_toArray, List.set_cons_zero, List.set_cons_succ, i64_w, i32_w]
          rfl
        refine pure_ (i := 1) (N := some 46) (v := ?_) (a' := ?_) #[true, true, false, false, false, false, false, false, false, false, false, false, false] rfl rfl (by kernel_rfl) (fun _ _ _ h => h) (Or.inl ⟨by rfl, ?_⟩) ?_ ?_
        rotate_left
        · intro w'
          go_simp
          with_reducible rfl
        rotate_left
        · simp only [Act.put, List.setIfInBounds_toArray, List.set_cons_zero, List.set_cons_succ, i64_w, i32_w]
          rfl
        refine pure_ (i := 2) (N := some 47) (v := ?_) (a' := ?_) #[true, true, true, false, false, false, false, false, false, false, false, false, false] rfl rfl (by kernel_rfl) (fun _ _ _ h => h) (Or.inl ⟨by rfl, ?_⟩) ?_ ?_
        rotate_left
        · intro w'
          go_simp
          with_reducible rfl
        rotate_left
        · simp only [Act.put, List.setIfInBounds_toArray, List.set_cons_zero, List.set_cons_succ, i64_w, i32_w]
          rfl
        refine pure_ (i := 3) (N := some 48) (v := ?_) (a' := ?_) #[true, true, true, true, false, false, false, false, false, false, false, false, false] rfl rfl (by kernel_rfl) (fun _ _ _ h => h) (Or.inl ⟨by rfl, ?_⟩) ?_ ?_
        rotate_left
        · intro w'
          go_simp
          with_reducible rfl
        rotate_left
        · simp only [Act.put, List.setIfInBounds_toArray, List.set_cons_zero, List.set_cons_succ, i64_w, i32_w]
          rfl
        refine pure_ (i := 4) (N := some 49) (v := ?_) (a' := ?_) #[true, true, true, true, true, false, false, false, false, false, false, false, false] rfl rfl (by kernel_rfl) (fun _ _ _ h => h) (Or.inl ⟨by rfl, ?_⟩) ?_ ?_
        rotate_left
        · intro w'
          go_simp
          with_reducible rfl
        rotate_left
        · simp only [Act.put, List.setIfInBounds_toArray, List.set_cons_zero, List.set_cons_succ, i64_w, i32_w]
          rfl
        refine pure_ (i := 5) (N := some 50) (v := ?_) (a' := ?_) #[true, true, true, true, true, true, false, false, false, false, false, false, false] rfl rfl (by kernel_rfl) (fun _ _ _ h => h) (Or.inl ⟨by rfl, ?_⟩) ?_ ?_
        rotate_left
        · intro w'
          go_simp
          with_reducible rfl
        rotate_left
        · simp only [Act.put, List.setIfInBounds_toArray, List.set_cons_zero, List.set_cons_succ, i64_w, i32_w]
          rfl
        refine pure_ (i := 6) (N := some 51) (v := ?_) (a' := ?_) #[true, true, true, true, true, true, true, false, false, false, false, false, false] rfl rfl (by kernel_rfl) (fun _ _ _ h => h) (Or.inl ⟨by rfl, ?_⟩) ?_ ?_
        rotate_left
        · intro w'
          go_simp
          with_reducible rfl
        rotate_left
        · simp only [Act.put, List.setIfInBounds_toArray, List.set_cons_zero, List.set_cons_succ, i64_w, i32_w]
          rfl
        refine take_ (i := 7) (N := some 52) (v := ?_) (a' := ?_) #[true, true, true, true, true, true, true, true, false, false, false, false, false] rfl rfl (by kernel_rfl) (fun _ _ _ h => h) (Or.inl ⟨by rfl, ?_⟩) hHeld ?_ ?_
        rotate_left
        · rintro w' ⟨s0, s1, s2⟩
          refine exec_load_row _ _ w' 27 (.tmp 2) ?_ (w.heap.size) ?_ _ _ _ _ s0 Try.underlying27 rfl schedSize
          · rfl
          · rfl
        rotate_left
        · simp only [Act.put, List.setIfInBounds_toArray, List.set_cons_zero, List.set_cons_succ, i64_w, i32_w]
          rfl
        refine take_ (i := 8) (N := some 53) (v := ?_) (a' := ?_) #[true, true, true, true, true, true, true, true, true, false, false, false, false] rfl rfl (by kernel_rfl) (fun _ _ _ h => h) (Or.inl ⟨by rfl, ?_⟩) hHeld ?_ ?_
        rotate_left
        · rintro w' ⟨s0, s1, s2⟩
          refine exec_load_row _ _ w' 33 (.tmp 3) ?_ (w.heap.size + 1) ?_ _ _ _ _ s1 Try.underlying33 rfl instSize
          · rfl
          · rfl
        rotate_left
        · simp only [Act.put, List.setIfInBounds_toArray, List.set_cons_zero, List.set_cons_succ, i64_w, i32_w]
          rfl
        refine one_ (i := 9) (N := some 54) #[true, true, true, true, true, true, true, true, true, true, false, false, false] rfl rfl (by kernel_rfl) (by decide) (fun K hK => ?_)
        refine goes_ Try.func12 (by kernel_rfl) rfl #[] (by rfl) rfl rfl (by simp only [List.map_toArray, List.map_nil]) ?_
        with_reducible refine (HU.out _).mono ?_
        rintro e9 x9 ⟨rfl, hb9⟩
        refine ⟨_, rfl, ?_⟩
        refine hK.out _ _ ⟨row_keep hHeld.1 hb9, row_keep hHeld.2.1 hb9, below_le hHeld.2.2 hb9⟩ (fun hHeld => ?_)
        clear hK K
        refine norm_ (a' := ?_) ?_ ?_
        rotate_left
        · show Act.put _ (some 54) _ = _
          simp only [Act.put, List.setIfInBounds_toArray, List.set_cons_zero, List.set_cons_succ, i64_w, i32_w]
          rfl
        refine one_ (i := 10) (N := some 55) #[true, true, true, true, true, true, true, true, true, true, true, false, false] rfl rfl (by kernel_rfl) (by decide) (fun K hK => ?_)
        refine goes_ Try.func13 (by kernel_rfl) rfl #[.agg (setsCells d S), .agg #[.int .i64 sec, .int .i64 nano], .agg #[.slice none 0 0, .slice none 0 0, .slice none 0 0, .slice none 0 0]] (by rfl) rfl rfl (by simp only [List.map_toArray, List.map_cons, List.map_nil]; rfl) ?_
        with_reducible refine (HNN.out _).mono ?_
        rintro e10 x10 ⟨⟨b, rfl, hbn⟩, hb10⟩
        refine ⟨_, rfl, ?_⟩
        refine hK.out _ _ ⟨row_keep hHeld.1 hb10, row_keep hHeld.2.1 hb10, below_le hHeld.2.2 hb10⟩ (fun hHeld => ?_)
        clear hK K
        refine norm_ (a' := ?_) ?_ ?_
        rotate_left
        · show Act.put _ (some 55) _ = _
          simp only [Act.put, List.setIfInBounds_toArray, List.set_cons_zero, List.set_cons_succ, i64_w, i32_w]
          rfl
        refine pure_ (i := 11) (N := some 56) (v := ?_) (a' := ?_) #[true, true, true, true, true, true, true, true, true, true, true, true, false] rfl rfl (by kernel_rfl) (fun _ _ _ h => h) (Or.inl ⟨by rfl, ?_⟩) ?_ ?_
        rotate_left
        · intro w'
          go_simp
          with_reducible rfl
        rotate_left
        · simp only [Act.put, List.setIfInBounds_toArray, List.set_cons_zero, List.set_cons_succ, i64_w, i32_w]
          rfl
        refine pure_ (i := 12) (N := some 4) (v := ?_) (a' := ?_) #[true, true, true, true, true, true, true, true, true, true, true, true, true] rfl rfl (by kernel_rfl) (fun _ _ _ h => h) (Or.inl ⟨by rfl, ?_⟩) ?_ ?_
        rotate_left
        · intro w'
          go_simp
          with_reducible rfl
        rotate_left
        · simp only [Act.put, List.setIfInBounds_toArray, List.set_cons_zero, List.set_cons_succ, i64_w, i32_w]
          rfl
        refine done_ (by kernel_rfl) ?_
        obtain rfl : b = true := by
          cases b with
          | true => rfl
          | false =>
            obtain ⟨y, y1, y2, y3⟩ := hbn rfl
            exact absurd y3 (HRL.out y y1 y2)
        go_wp2_with fail
        go_ret
        exact ⟨rfl, below_le hB7 hHeld.2.2⟩
      | some L =>
        obtain rfl : r2 = some (L + era) := hr2d
        dsimp only [Option.isSome]
        have ca0 : w6.cell? ⟨ga, 0, none⟩ = some (.int .i64 (L - 0)) := cell_of_row _ _ _ _ _ _ HA7.out
        have ca1 : w6.cell? ⟨ga, 1, none⟩ = some (.int .i64 0) := cell_of_row _ _ _ _ _ _ HA7.out
        have cb0 : w6.cell? ⟨gb, 0, none⟩ = some (.int .i64 (L + era - 0)) := cell_of_row _ _ _ _ _ _ HB7.out
        have cb1 : w6.cell? ⟨gb, 1, none⟩ = some (.int .i64 0) := cell_of_row _ _ _ _ _ _ HB7.out
        obtain ⟨l1, l2, l3, l4⟩ := HRL.out
        have hlt := lim_lt (L := L) (y := 10011) (by have := year_top (L := sec + 1) (by omega); omega)
        rw [show ystart (10011 + 1) = 2937280 from by decide] at hlt
        rw [Int.sub_zero] at ca0 cb0
        rw [show L + era = L + 12622780800 from rfl] at cb0
        have hwL : wrap64 (L + 12622780800) = L + 12622780800 := by unfold wrap64; omega
        have hdE : decide (L + 12622780800 = L + 12622780800) = true := decide_eq_true rfl
        go_wp2_with fail
        go_ret
        exact ⟨rfl, hB7⟩
end Go.Proofs.Ytbgbeohiafiacaa.Cron
