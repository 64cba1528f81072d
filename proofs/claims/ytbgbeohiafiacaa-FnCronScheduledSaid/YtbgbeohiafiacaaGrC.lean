/- Lemmas and walks on the way to the law, merged by wip/tools/pack.py: Sched3, Cron1, Cron2. Conditions: none. -/
import Derived.Test.YtbgbeohiafiacaaGrB
import Derived.Conc.MuLone
import Derived.Deep.AppendLies
import Derived.Deep.MidRow
namespace Go.Proofs.Ytbgbeohiafiacaa.Sched
open Go Go.RowKit Go.Proofs.Ytbgbeohiafiacaa.Cal Go.Proofs.YtbgbeohiafiacaaW.PrintWords Go.Proofs.YtbgbeohiafiacaaW.PrintLast
set_option linter.unusedVariables false
set_option linter.unusedSimpArgs false

theorem ansSize0 : (Try.prog.info? 30).map (·.size) = some 12 := by kernel_rfl
theorem below_of_le {W w1 w2 : World} (h1 : Below W.heap.size W w1) (h2 : Below w1.heap.size w1 w2) : Below W.heap.size W w2 :=
  h1.trans (h2.mono h1.size)

section
variable {P : Program}
theorem run_storeVar_at (w : World) (g o : Nat) (t ty : TypeId) (cur cells : Array Value) (hg : w.heap[g]? = some (.cells cur t (0, 0))) (hfit : o + cells.size ≤ cur.size) (hi : (P.info? ty).map (·.size) = some cells.size)
    (h1 : cells.all (·.oneCell') = true) :
    (storeVar ty ⟨g, o, none⟩ (.agg cells)).run P w = .ok () (w.setRow g (cur.toList.take o ++ cells.toList ++ cur.toList.drop (o + cells.size)).toArray) := by
  have := run_storeCells_at P g o t cells.toList 0 cur w hg (by simpa using hfit) (fun v hv => (Array.all_eq_true_iff_forall_mem.1 h1) v (by simpa using hv))
  cases hq : P.info? ty with
  | none => simp [hq] at hi
  | some i =>
    have hs : cells.size = i.size := by simp [hq] at hi; omega
    simp only [Nat.add_zero, Array.length_toList] at this
    simp [storeVar, sizeOf, typeInfo, hq, Value.cells, hs]
    rw [← hs]
    simpa [List.append_assoc] using this

theorem wp_store_at {o : Oper} {a : Act} {w : World} {K : Act → World → Prop} {Q : Exit → Act → World → Prop} (ty : TypeId) (x y : Operand) (ho : o.op = .store ty x y)
    (g of : Nat) (cells : Array Value) (hx : a.eval x = .pointer (some ⟨g, of, none⟩)) (hy : a.eval y = .agg cells)
    (t : TypeId) (cur : Array Value) (hg : w.heap[g]? = some (.cells cur t (0, 0))) (hi : (P.info? ty).map (·.size) = some cells.size)
    (hfit : of + cells.size ≤ cur.size) (h1 : cells.all (·.oneCell') = true)
    (h : K (a.put o.dst undef) (w.setRow g (cur.toList.take of ++ cells.toList ++ cur.toList.drop (of + cells.size)).toArray)) : o.wp P a w K Q := by
  unfold Oper.wp execOp
  simp only [ho, hx, hy, Instr.storeAt, Instr.sureAddr, Sem.run_bind, Sem.run_pure, Result.andThen_ok, run_storeVar_at w g of t ty cur cells hg hfit hi h1]
  exact h

theorem wpList_store_at {ops : Array Oper} {rest : List Oper} {o : Oper} {a : Act} {w : World} {Q : Exit → Act → World → Prop} (hgd : o.guard = none) (ty : TypeId) (x y : Operand) (ho : o.op = .store ty x y)
    (g of : Nat) (cells : Array Value) (hx : a.eval x = .pointer (some ⟨g, of, none⟩)) (hy : a.eval y = .agg cells)
    (t : TypeId) (cur : Array Value) (hg : w.heap[g]? = some (.cells cur t (0, 0))) (hi : (P.info? ty).map (·.size) = some cells.size)
    (hfit : of + cells.size ≤ cur.size) (h1 : cells.all (·.oneCell') = true)
    (h : wpList P ops Q rest (a.put o.dst undef) (w.setRow g (cur.toList.take of ++ cells.toList ++ cur.toList.drop (of + cells.size)).toArray)) : wpList P ops Q (o :: rest) a w :=
  wpList_plain hgd fun _ hK => wp_store_at ty x y ho g of cells hx hy t cur hg hi hfit h1 (hK _ _ h)
end

theorem results_ans {fn : Func} {p : Tmp} (h : fn.results = #[.cell p 30]) (tmps : Array Value) (w : World) (g : Nat) (cs : Array Value) (hn : cs.size = 12)
    (hp : tmps.getD p undef = .pointer (some ⟨g, 0, none⟩)) (hs : w.heap[g]? = some (.cells cs 30 (0, 0))) :
    (results fn tmps).run Try.prog w = .ok (.agg cs) w := by
  have hl := run_loadVar_row (P := Try.prog) w g _ _ _ _ _ hs Try.underlying30 rfl (by rw [ansSize0, hn])
  have hp' : tmps[p]?.getD undef = .pointer (some ⟨g, 0, none⟩) := by simpa using hp
  simp only [results, h]
  simp [asAddr, hp', hl]

def noAns : Array Value := #[.bool false, .int .i64 0, .slice none 0 0, .bool false, .int .i64 0, .int .u64 0, .int .u64 0, .int .u64 0, .int .u64 0, .int .u64 0, .int .u64 0, .bool false]
/-- an answer's variable, nothing in it yet -/
def AnsRow (w : World) (g : Nat) : Prop := w.heap[g]? = some (.cells noAns 30 (0, 0))
theorem AnsRow.below {w w' : World} {g : Nat} (h : AnsRow w g) (hb : Below w.heap.size w w') : AnsRow w' g := (hb.block g (Array.getElem?_eq_some_iff.1 h).1).trans h
theorem ansRow_new (w : World) : AnsRow (w.alloc (.cells noAns 30 (0, 0))) w.heap.size := heap_alloc_new w _
theorem ansRow_of {B : Nat} {wo W : World} (h : Below B wo W) : AnsRow (W.alloc (.cells noAns 30 (0, 0))) W.heap.size := ansRow_new W
theorem run_alloc_ans (w : World) : (Instr.alloc 30 true (.tuple #[])).run Try.prog w = .ok (.pointer (some ⟨w.heap.size, 0, none⟩)) (w.alloc (.cells noAns 30 (0, 0))) := by kernel_rfl
theorem exec_alloc_ans (ev : Operand → Value) (oi : Oper) (w : World) (ho : oi.op = .alloc 30) :
    (execOp ev oi).run Try.prog w = .ok (.value (.pointer (some ⟨w.heap.size, 0, none⟩))) (w.alloc (.cells noAns 30 (0, 0))) := by
  have := run_alloc_ans w
  unfold execOp
  rw [ho]
  simp only [Sem.run_bind, Sem.run_pure, Result.andThen_ok, this]
theorem ansSize : (Try.prog.info? 30).map (·.size) = some 12 := by kernel_rfl

theorem wpList_store_ans {ops : Array Oper} {rest : List Oper} {o : Oper} {a : Act} {w : World} {Q : Exit → Act → World → Prop} (hgd : o.guard = none) (x y : Operand) (ho : o.op = .store 27 x y)
    (g : Nat) (id : Int) (pl : Array Value) (h8 : pl.size = 8) (h1 : pl.all (·.oneCell') = true) (hx : a.eval x = .pointer (some ⟨g, 3, none⟩)) (hy : a.eval y = .agg pl)
    (hg : w.heap[g]? = some (.cells #[.bool true, .int .i64 id, .slice none 0 0, .bool false, .int .i64 0, .int .u64 0, .int .u64 0, .int .u64 0, .int .u64 0, .int .u64 0, .int .u64 0, .bool true] 30 (0, 0)))
    (h : wpList Try.prog ops Q rest (a.put o.dst undef) (w.setRow g (Value.bool true :: Value.int IntKind.i64 id :: Value.slice none 0 0 :: (pl.toList ++ [Value.bool true])).toArray)) : wpList Try.prog ops Q (o :: rest) a w := by
  refine wpList_store_at hgd 27 x y ho g 3 pl hx hy 30 _ hg (by rw [schSize, h8]) (by rw [h8]; show 3 + 8 ≤ 12; omega) h1 ?_
  have e : (List.take 3 (#[Value.bool true, .int .i64 id, .slice none 0 0, .bool false, .int .i64 0, .int .u64 0, .int .u64 0, .int .u64 0, .int .u64 0, .int .u64 0, .int .u64 0, .bool true] : Array Value).toList ++ pl.toList ++ List.drop (3 + pl.size) (#[Value.bool true, .int .i64 id, .slice none 0 0, .bool false, .int .i64 0, .int .u64 0, .int .u64 0, .int .u64 0, .int .u64 0, .int .u64 0, .int .u64 0, .bool true] : Array Value).toList).toArray = (Value.bool true :: Value.int IntKind.i64 id :: Value.slice none 0 0 :: (pl.toList ++ [Value.bool true])).toArray := by
    rw [h8]; simp
  rw [e]
  exact h

set_option maxRecDepth 100000 in
set_option maxHeartbeats 4000000 in
theorem entry_any (id : Int) (hid : id ≠ 0) (s : Sch) (sch wj job : Value) (w : World) (hs : SchIs w sch s) :
    Calls Try.prog 31 #[.agg (entryCells id sch wj job)] w fun e w' => e = .returned (.agg (#[.bool true, .int .i64 id, .slice none 0 0] ++ s.plain ++ #[.bool true])) ∧ Below w.heap.size w w' := by
  have HV := Lib.hid (fun w' => valid_any id sch wj job w')
  have HZ := Lib.hid (fun w' => isZero_any w')
  have HS := Lib.hid hs
  have hid' : (id != 0) = true := by simpa using hid
  have hal := run_alloc_ans
  clear hs hid
  unfold entryCells at HV ⊢
  go_enter Try.func31, Try.ntmps31
  go_wp2_with fail
  refine (HV.out _).mono ?_
  rintro e w1 ⟨rfl, hb1⟩
  have hB1 : Below w.heap.size w w1 := below_of_le (((Below.refl _ _).alloc (Nat.le_refl _) _).alloc (by simp) _) hb1
  have hrow : w1.heap[w.heap.size]? = some (.cells (entryCells id sch wj job) 78 (0, 0)) :=
    (hb1.block w.heap.size (by simp; omega)).trans ((((Below.refl _ _).alloc (Nat.le_refl _) _).block w.heap.size (by simp)).trans (heap_alloc_new w _))
  have hres : AnsRow w1 (w.heap.size + 1) := (hb1.block (w.heap.size + 1) (by simp)).trans (heap_alloc2 w _ _)
  have HS1 := Lib.hid (HS.out.below hB1)
  clear hb1 HV HS
  rw [hid']
  go_upto_region 3 with fail
  obtain ⟨wo, rfl⟩ : ∃ wo : World, wo = w1 := ⟨_, rfl⟩
  refine start_ (n := 13) (S := fun w' => w'.heap[w.heap.size]? = some (.cells (entryCells id sch wj job) 78 (0, 0)) ∧ Below wo.heap.size wo w') (ds := [12]) #[false, false, false, false, false, false, false, false, false, false, false, false, false] (by kernel_rfl) rfl rfl ⟨hrow, (Below.refl _ _).drew⟩ (fun hHeld => ?_)
  refine pure_ (i := 0) (N := some 8) (v := ?_) (a' := ?_) #[true, false, false, false, false, false, false, false, false, false, false, false, false] rfl rfl (by kernel_rfl) (fun _ _ _ h => h) (Or.inl ⟨by rfl, ?_⟩) ?_ ?_
  rotate_left
  · intro w'
    go_simp
    with_reducible rfl
  rotate_left
  · simp only [Act.put, List.setIfInBounds_toArray, List.set_cons_zero, List.set_cons_succ, i64_w, i32_w]
    rfl
  refine pure_ (i := 2) (N := some 10) (v := ?_) (a' := ?_) #[true, false, true, false, false, false, false, false, false, false, false, false, false] rfl rfl (by kernel_rfl) (fun _ _ _ h => h) (Or.inl ⟨by rfl, ?_⟩) ?_ ?_
  rotate_left
  · intro w'
    go_simp
    with_reducible rfl
  rotate_left
  · simp only [Act.put, List.setIfInBounds_toArray, List.set_cons_zero, List.set_cons_succ, i64_w, i32_w]
    rfl
  refine take_ (i := 1) (N := some 9) (v := ?_) (a' := ?_) #[true, true, true, false, false, false, false, false, false, false, false, false, false] rfl rfl (by kernel_rfl) (fun _ _ _ h => h) (Or.inl ⟨by rfl, ?_⟩) hHeld ?_ ?_
  rotate_left
  · rintro w' ⟨s0, s1⟩
    have c0 : w'.cell? ⟨w.heap.size, 0, none⟩ = some (.int .i64 id) := cell_of_row _ _ _ _ _ _ s0
    go_simp
    with_reducible rfl
  rotate_left
  · simp only [Act.put, List.setIfInBounds_toArray, List.set_cons_zero, List.set_cons_succ, i64_w, i32_w]
    rfl
  refine take_ (i := 3) (N := some 11) (v := ?_) (a' := ?_) #[true, true, true, true, false, false, false, false, false, false, false, false, false] rfl rfl (by kernel_rfl) (fun _ _ _ h => h) (Or.inl ⟨by rfl, ?_⟩) hHeld ?_ ?_
  rotate_left
  · rintro w' ⟨s0, s1⟩
    have c0 : w'.cell? ⟨w.heap.size, 2, none⟩ = some (.int .u64 0) := cell_of_row _ _ _ _ _ _ s0
    have c1 : w'.cell? ⟨w.heap.size, 3, none⟩ = some (.int .i64 0) := cell_of_row _ _ _ _ _ _ s0
    have c2 : w'.cell? ⟨w.heap.size, 4, none⟩ = some (.pointer none) := cell_of_row _ _ _ _ _ _ s0
    go_simp
    with_reducible rfl
  rotate_left
  · simp only [Act.put, List.setIfInBounds_toArray, List.set_cons_zero, List.set_cons_succ, i64_w, i32_w]
    rfl
  refine join_ (σ := Nat) 1 #[true, true, true, true, true, true, true, true, true, true, true, true, false] (fun s => [(12, .bool true), (13, .bool true), (14, .pointer (some ⟨w.heap.size, 5, none⟩)), (15, .agg #[.int .u64 0, .int .i64 0, .pointer none]), (16, .bool true), (17, .bool true), (18, .agg #[.bool true, .int .i64 id, .slice none 0 0, .bool false, .int .i64 0, .int .u64 0, .int .u64 0, .int .u64 0, .int .u64 0, .int .u64 0, .int .u64 0, .bool true]), (3, .pointer (some ⟨s, 0, none⟩))]) (fun s w' => AnsRow w' s ∧ wo.heap.size ≤ s ∧ (w'.heap[w.heap.size]? = some (.cells (entryCells id sch wj job) 78 (0, 0)) ∧ Below wo.heap.size wo w')) ?_ ?_
  rotate_left
  · intro hCont
    refine two_ (i := 4) (j := 11) (Ni := some 12) (Nj := some 3) #[true, true, true, true, true, false, false, false, false, false, false, false, false] #[true, true, true, true, false, false, false, false, false, false, false, true, false] rfl rfl rfl rfl (by kernel_rfl) (by decide) (by decide) (fun K hK => ?_) (fun K hK => ?_)
    · skip
      refine goes_ Try.func52 (by kernel_rfl) rfl #[.agg #[.int .u64 0, .int .i64 0, .pointer none]] (by rfl) rfl rfl (by simp only [List.map_toArray, List.map_cons, List.map_nil]; rfl) ?_
      with_reducible refine (HZ.out _).mono ?_
      rintro e w4 ⟨rfl, hb4⟩
      refine ⟨_, rfl, ?_⟩
      refine hK.out _ _ ⟨(hb4.block _ (Array.getElem?_eq_some_iff.1 hHeld.1).1).trans hHeld.1, below_of_le hHeld.2 hb4⟩ (fun hHeld => ?_)
      clear hK K
      refine norm_ (a' := ?_) ?_ ?_
      rotate_left
      · show Act.put _ (some 12) _ = _
        simp only [Act.put, List.setIfInBounds_toArray, List.set_cons_zero, List.set_cons_succ, i64_w, i32_w]
        rfl
      refine pure_ (i := 5) (N := some 13) (v := ?_) (a' := ?_) #[true, true, true, true, true, true, false, false, false, false, false, false, false] rfl rfl (by kernel_rfl) (fun _ _ _ h => h) (Or.inl ⟨by rfl, ?_⟩) ?_ ?_
      rotate_left
      · intro w'
        go_simp
        with_reducible rfl
      rotate_left
      · simp only [Act.put, List.setIfInBounds_toArray, List.set_cons_zero, List.set_cons_succ, i64_w, i32_w]
        rfl
      refine pure_ (i := 6) (N := some 14) (v := ?_) (a' := ?_) #[true, true, true, true, true, true, true, false, false, false, false, false, false] rfl rfl (by kernel_rfl) (fun _ _ _ h => h) (Or.inl ⟨by rfl, ?_⟩) ?_ ?_
      rotate_left
      · intro w'
        go_simp
        with_reducible rfl
      rotate_left
      · simp only [Act.put, List.setIfInBounds_toArray, List.set_cons_zero, List.set_cons_succ, i64_w, i32_w]
        rfl
      refine take_ (i := 7) (N := some 15) (v := ?_) (a' := ?_) #[true, true, true, true, true, true, true, true, false, false, false, false, false] rfl rfl (by kernel_rfl) (fun _ _ _ h => h) (Or.inl ⟨by rfl, ?_⟩) hHeld ?_ ?_
      rotate_left
      · rintro w' ⟨s0, s1⟩
        have c0 : w'.cell? ⟨w.heap.size, 5, none⟩ = some (.int .u64 0) := cell_of_row _ _ _ _ _ _ s0
        have c1 : w'.cell? ⟨w.heap.size, 6, none⟩ = some (.int .i64 0) := cell_of_row _ _ _ _ _ _ s0
        have c2 : w'.cell? ⟨w.heap.size, 7, none⟩ = some (.pointer none) := cell_of_row _ _ _ _ _ _ s0
        go_simp
        with_reducible rfl
      rotate_left
      · simp only [Act.put, List.setIfInBounds_toArray, List.set_cons_zero, List.set_cons_succ, i64_w, i32_w]
        rfl
      refine two_ (i := 8) (j := 11) (Ni := some 16) (Nj := some 3) #[true, true, true, true, true, true, true, true, true, false, false, false, false] #[true, true, true, true, true, true, true, true, false, false, false, true, false] rfl rfl rfl rfl (by kernel_rfl) (by decide) (by decide) (fun K hK => ?_) (fun K hK => ?_)
      · skip
        refine goes_ Try.func52 (by kernel_rfl) rfl #[.agg #[.int .u64 0, .int .i64 0, .pointer none]] (by rfl) rfl rfl (by simp only [List.map_toArray, List.map_cons, List.map_nil]; rfl) ?_
        with_reducible refine (HZ.out _).mono ?_
        rintro e w8 ⟨rfl, hb8⟩
        refine ⟨_, rfl, ?_⟩
        refine hK.out _ _ ⟨(hb8.block _ (Array.getElem?_eq_some_iff.1 hHeld.1).1).trans hHeld.1, below_of_le hHeld.2 hb8⟩ (fun hHeld => ?_)
        clear hK K
        refine norm_ (a' := ?_) ?_ ?_
        rotate_left
        · show Act.put _ (some 16) _ = _
          simp only [Act.put, List.setIfInBounds_toArray, List.set_cons_zero, List.set_cons_succ, i64_w, i32_w]
          rfl
        refine pure_ (i := 9) (N := some 17) (v := ?_) (a' := ?_) #[true, true, true, true, true, true, true, true, true, true, false, false, false] rfl rfl (by kernel_rfl) (fun _ _ _ h => h) (Or.inl ⟨by rfl, ?_⟩) ?_ ?_
        rotate_left
        · intro w'
          go_simp
          with_reducible rfl
        rotate_left
        · simp only [Act.put, List.setIfInBounds_toArray, List.set_cons_zero, List.set_cons_succ, i64_w, i32_w]
          rfl
        refine pure_ (i := 10) (N := some 18) (v := ?_) (a' := ?_) #[true, true, true, true, true, true, true, true, true, true, true, false, false] rfl rfl (by kernel_rfl) (fun _ _ _ h => h) (Or.inl ⟨by rfl, ?_⟩) ?_ ?_
        rotate_left
        · intro w'
          go_simp
          with_reducible rfl
        rotate_left
        · simp only [Act.put, List.setIfInBounds_toArray, List.set_cons_zero, List.set_cons_succ, i64_w, i32_w]
          rfl
        refine one_ (i := 11) (N := some 3) #[true, true, true, true, true, true, true, true, true, true, true, true, false] rfl rfl (by kernel_rfl) (by decide) (fun K hK => ?_)
        have hge := hHeld.2.size
        have hra := ansRow_of hHeld.2
        refine value_ (by rfl) rfl (exec_alloc_ans _ _ _ rfl) ?_
        refine hK.out _ _ ⟨(((Below.refl _ _).alloc (Nat.le_refl _) _).block _ (Array.getElem?_eq_some_iff.1 hHeld.1).1).trans hHeld.1, hHeld.2.alloc hHeld.2.size _⟩ (fun hHeld => ?_)
        clear hK K
        refine norm_ (a' := ?_) ?_ ?_
        rotate_left
        · show Act.put _ (some 3) _ = _
          simp only [Act.put, List.setIfInBounds_toArray, List.set_cons_zero, List.set_cons_succ, i64_w, i32_w]
          rfl
        exact norm_ (by simp only [putAll, Act.put, List.setIfInBounds_toArray, List.set_cons_zero, List.set_cons_succ]) (hCont w8.heap.size _ ⟨hra, hge, hHeld⟩)
      · skip
        have hge := hHeld.2.size
        have hra := ansRow_of hHeld.2
        refine value_ (by rfl) rfl (exec_alloc_ans _ _ _ rfl) ?_
        refine hK.out _ _ ⟨(((Below.refl _ _).alloc (Nat.le_refl _) _).block _ (Array.getElem?_eq_some_iff.1 hHeld.1).1).trans hHeld.1, hHeld.2.alloc hHeld.2.size _⟩ (fun hHeld => ?_)
        clear hK K
        refine norm_ (a' := ?_) ?_ ?_
        rotate_left
        · show Act.put _ (some 3) _ = _
          simp only [Act.put, List.setIfInBounds_toArray, List.set_cons_zero, List.set_cons_succ, i64_w, i32_w]
          rfl
        refine one_ (i := 8) (N := some 16) #[true, true, true, true, true, true, true, true, true, false, false, true, false] rfl rfl (by kernel_rfl) (by decide) (fun K hK => ?_)
        refine goes_ Try.func52 (by kernel_rfl) rfl #[.agg #[.int .u64 0, .int .i64 0, .pointer none]] (by rfl) rfl rfl (by simp only [List.map_toArray, List.map_cons, List.map_nil]; rfl) ?_
        with_reducible refine (HZ.out _).mono ?_
        rintro e w8 ⟨rfl, hb8⟩
        refine ⟨_, rfl, ?_⟩
        refine hK.out _ _ ⟨(hb8.block _ (Array.getElem?_eq_some_iff.1 hHeld.1).1).trans hHeld.1, below_of_le hHeld.2 hb8⟩ (fun hHeld => ?_)
        clear hK K
        refine norm_ (a' := ?_) ?_ ?_
        rotate_left
        · show Act.put _ (some 16) _ = _
          simp only [Act.put, List.setIfInBounds_toArray, List.set_cons_zero, List.set_cons_succ, i64_w, i32_w]
          rfl
        refine pure_ (i := 9) (N := some 17) (v := ?_) (a' := ?_) #[true, true, true, true, true, true, true, true, true, true, false, true, false] rfl rfl (by kernel_rfl) (fun _ _ _ h => h) (Or.inl ⟨by rfl, ?_⟩) ?_ ?_
        rotate_left
        · intro w'
          go_simp
          with_reducible rfl
        rotate_left
        · simp only [Act.put, List.setIfInBounds_toArray, List.set_cons_zero, List.set_cons_succ, i64_w, i32_w]
          rfl
        refine pure_ (i := 10) (N := some 18) (v := ?_) (a' := ?_) #[true, true, true, true, true, true, true, true, true, true, true, true, false] rfl rfl (by kernel_rfl) (fun _ _ _ h => h) (Or.inl ⟨by rfl, ?_⟩) ?_ ?_
        rotate_left
        · intro w'
          go_simp
          with_reducible rfl
        rotate_left
        · simp only [Act.put, List.setIfInBounds_toArray, List.set_cons_zero, List.set_cons_succ, i64_w, i32_w]
          rfl
        exact norm_ (by simp only [putAll, Act.put, List.setIfInBounds_toArray, List.set_cons_zero, List.set_cons_succ]) (hCont w4.heap.size _ ⟨hra.below hb8, hge, hHeld⟩)
    · skip
      have hge := hHeld.2.size
      have hra := ansRow_of hHeld.2
      refine value_ (by rfl) rfl (exec_alloc_ans _ _ _ rfl) ?_
      refine hK.out _ _ ⟨(((Below.refl _ _).alloc (Nat.le_refl _) _).block _ (Array.getElem?_eq_some_iff.1 hHeld.1).1).trans hHeld.1, hHeld.2.alloc hHeld.2.size _⟩ (fun hHeld => ?_)
      clear hK K
      refine norm_ (a' := ?_) ?_ ?_
      rotate_left
      · show Act.put _ (some 3) _ = _
        simp only [Act.put, List.setIfInBounds_toArray, List.set_cons_zero, List.set_cons_succ, i64_w, i32_w]
        rfl
      refine one_ (i := 4) (N := some 12) #[true, true, true, true, true, false, false, false, false, false, false, true, false] rfl rfl (by kernel_rfl) (by decide) (fun K hK => ?_)
      refine goes_ Try.func52 (by kernel_rfl) rfl #[.agg #[.int .u64 0, .int .i64 0, .pointer none]] (by rfl) rfl rfl (by simp only [List.map_toArray, List.map_cons, List.map_nil]; rfl) ?_
      with_reducible refine (HZ.out _).mono ?_
      rintro e w4 ⟨rfl, hb4⟩
      refine ⟨_, rfl, ?_⟩
      refine hK.out _ _ ⟨(hb4.block _ (Array.getElem?_eq_some_iff.1 hHeld.1).1).trans hHeld.1, below_of_le hHeld.2 hb4⟩ (fun hHeld => ?_)
      clear hK K
      refine norm_ (a' := ?_) ?_ ?_
      rotate_left
      · show Act.put _ (some 12) _ = _
        simp only [Act.put, List.setIfInBounds_toArray, List.set_cons_zero, List.set_cons_succ, i64_w, i32_w]
        rfl
      refine pure_ (i := 5) (N := some 13) (v := ?_) (a' := ?_) #[true, true, true, true, true, true, false, false, false, false, false, true, false] rfl rfl (by kernel_rfl) (fun _ _ _ h => h) (Or.inl ⟨by rfl, ?_⟩) ?_ ?_
      rotate_left
      · intro w'
        go_simp
        with_reducible rfl
      rotate_left
      · simp only [Act.put, List.setIfInBounds_toArray, List.set_cons_zero, List.set_cons_succ, i64_w, i32_w]
        rfl
      refine pure_ (i := 6) (N := some 14) (v := ?_) (a' := ?_) #[true, true, true, true, true, true, true, false, false, false, false, true, false] rfl rfl (by kernel_rfl) (fun _ _ _ h => h) (Or.inl ⟨by rfl, ?_⟩) ?_ ?_
      rotate_left
      · intro w'
        go_simp
        with_reducible rfl
      rotate_left
      · simp only [Act.put, List.setIfInBounds_toArray, List.set_cons_zero, List.set_cons_succ, i64_w, i32_w]
        rfl
      refine take_ (i := 7) (N := some 15) (v := ?_) (a' := ?_) #[true, true, true, true, true, true, true, true, false, false, false, true, false] rfl rfl (by kernel_rfl) (fun _ _ _ h => h) (Or.inl ⟨by rfl, ?_⟩) hHeld ?_ ?_
      rotate_left
      · rintro w' ⟨s0, s1⟩
        have c0 : w'.cell? ⟨w.heap.size, 5, none⟩ = some (.int .u64 0) := cell_of_row _ _ _ _ _ _ s0
        have c1 : w'.cell? ⟨w.heap.size, 6, none⟩ = some (.int .i64 0) := cell_of_row _ _ _ _ _ _ s0
        have c2 : w'.cell? ⟨w.heap.size, 7, none⟩ = some (.pointer none) := cell_of_row _ _ _ _ _ _ s0
        go_simp
        with_reducible rfl
      rotate_left
      · simp only [Act.put, List.setIfInBounds_toArray, List.set_cons_zero, List.set_cons_succ, i64_w, i32_w]
        rfl
      refine one_ (i := 8) (N := some 16) #[true, true, true, true, true, true, true, true, true, false, false, true, false] rfl rfl (by kernel_rfl) (by decide) (fun K hK => ?_)
      refine goes_ Try.func52 (by kernel_rfl) rfl #[.agg #[.int .u64 0, .int .i64 0, .pointer none]] (by rfl) rfl rfl (by simp only [List.map_toArray, List.map_cons, List.map_nil]; rfl) ?_
      with_reducible refine (HZ.out _).mono ?_
      rintro e w8 ⟨rfl, hb8⟩
      refine ⟨_, rfl, ?_⟩
      refine hK.out _ _ ⟨(hb8.block _ (Array.getElem?_eq_some_iff.1 hHeld.1).1).trans hHeld.1, below_of_le hHeld.2 hb8⟩ (fun hHeld => ?_)
      clear hK K
      refine norm_ (a' := ?_) ?_ ?_
      rotate_left
      · show Act.put _ (some 16) _ = _
        simp only [Act.put, List.setIfInBounds_toArray, List.set_cons_zero, List.set_cons_succ, i64_w, i32_w]
        rfl
      refine pure_ (i := 9) (N := some 17) (v := ?_) (a' := ?_) #[true, true, true, true, true, true, true, true, true, true, false, true, false] rfl rfl (by kernel_rfl) (fun _ _ _ h => h) (Or.inl ⟨by rfl, ?_⟩) ?_ ?_
      rotate_left
      · intro w'
        go_simp
        with_reducible rfl
      rotate_left
      · simp only [Act.put, List.setIfInBounds_toArray, List.set_cons_zero, List.set_cons_succ, i64_w, i32_w]
        rfl
      refine pure_ (i := 10) (N := some 18) (v := ?_) (a' := ?_) #[true, true, true, true, true, true, true, true, true, true, true, true, false] rfl rfl (by kernel_rfl) (fun _ _ _ h => h) (Or.inl ⟨by rfl, ?_⟩) ?_ ?_
      rotate_left
      · intro w'
        go_simp
        with_reducible rfl
      rotate_left
      · simp only [Act.put, List.setIfInBounds_toArray, List.set_cons_zero, List.set_cons_succ, i64_w, i32_w]
        rfl
      exact norm_ (by simp only [putAll, Act.put, List.setIfInBounds_toArray, List.set_cons_zero, List.set_cons_succ]) (hCont wo.drew.heap.size _ ⟨(hra.below hb4).below hb8, hge, hHeld⟩)
  rintro ga w5 ⟨hra, hge, hHeld⟩
  refine norm_ (a' := ?_) ?_ ?_
  rotate_left
  · simp only [putAll, Act.put, List.setIfInBounds_toArray, List.set_cons_zero, List.set_cons_succ]
    rfl
  refine last_ (i := 12) (N := none) #[true, true, true, true, true, true, true, true, true, true, true, true, true] rfl rfl (by kernel_rfl) (by decide) (fun K hK => ?_)
  rw [if_pos (by rfl)]
  refine wp_store_row 30 _ _ rfl ga #[.bool true, .int .i64 id, .slice none 0 0, .bool false, .int .i64 0, .int .u64 0, .int .u64 0, .int .u64 0, .int .u64 0, .int .u64 0, .int .u64 0, .bool true] rfl rfl 30 noAns hra ansSize rfl (by simp [Value.oneCell']) ?_
  refine hK.out _ _ ?_
  clear hK K
  refine done_ (by kernel_rfl) ?_
  have hlo : w.heap.size < wo.heap.size := (Array.getElem?_eq_some_iff.1 hrow).1
  have hlo1 : w.heap.size + 1 < wo.heap.size := (Array.getElem?_eq_some_iff.1 hres).1
  have HRA := Lib.hid (setRow_heap w5 ga _ #[.bool true, .int .i64 id, .slice none 0 0, .bool false, .int .i64 0, .int .u64 0, .int .u64 0, .int .u64 0, .int .u64 0, .int .u64 0, .int .u64 0, .bool true] _ _ hra)
  have hrow6 := (setRow_other w5 ga w.heap.size #[.bool true, .int .i64 id, .slice none 0 0, .bool false, .int .i64 0, .int .u64 0, .int .u64 0, .int .u64 0, .int .u64 0, .int .u64 0, .int .u64 0, .bool true] (by omega)).trans hHeld.1
  have HB6 := Lib.hid (below_setRow hHeld.2 hge #[.bool true, .int .i64 id, .slice none 0 0, .bool false, .int .i64 0, .int .u64 0, .int .u64 0, .int .u64 0, .int .u64 0, .int .u64 0, .int .u64 0, .bool true])
  generalize hW6 : w5.setRow ga #[.bool true, .int .i64 id, .slice none 0 0, .bool false, .int .i64 0, .int .u64 0, .int .u64 0, .int .u64 0, .int .u64 0, .int .u64 0, .int .u64 0, .bool true] = w6 at *
  have cS : w6.cell? ⟨w.heap.size, 1, none⟩ = some sch := cell_of_row _ _ _ _ _ _ hrow6
  have HP := Lib.hid (plainSchedule_any s sch w6 (HS1.out.below HB6.out))
  have h8 : s.plain.size = 8 := by unfold Sch.plain; split <;> rfl
  have h1p : s.plain.all (·.oneCell') = true := by unfold Sch.plain; split <;> simp [Value.oneCell']
  have HB1 := Lib.hid (below_of_le hB1 HB6.out)
  have hres6 := (HB6.out.block _ hlo1).trans hres
  have hga : w.heap.size + 1 ≠ ga := by omega
  have hgl : w.heap.size ≤ ga := by omega
  have hga6 : ga < w6.heap.size := (Array.getElem?_eq_some_iff.1 HRA.out).1
  clear hrow6 hHeld hW6 hra hrow hres HZ hB1 HS1 HB6 hge
  obtain ⟨pl, hpl⟩ : ∃ pl, pl = s.plain := ⟨_, rfl⟩
  rw [← hpl] at h8 h1p HP
  have HPL := Lib.hid hpl
  clear hpl
  go_wp2_with fail
  refine HP.out.mono ?_
  rintro e w7 ⟨rfl, hb7⟩
  have hra7 := (hb7.block ga hga6).trans HRA.out
  have hres7 := (hb7.block (w.heap.size + 1) (Array.getElem?_eq_some_iff.1 hres6).1).trans hres6
  have HB7 := Lib.hid (below_of_le HB1.out hb7)
  clear hb7 HP HRA HB1 hres6
  have hone : (Value.bool true :: Value.int IntKind.i64 id :: Value.slice none 0 0 :: (pl.toList ++ [Value.bool true])).toArray.all (·.oneCell') = true := by
    rw [Array.all_eq_true_iff_forall_mem] at h1p ⊢
    intro v hv
    simp only [List.mem_toArray, List.mem_cons, List.mem_append, List.not_mem_nil, or_false] at hv
    rcases hv with rfl | rfl | rfl | hv | rfl
    · rfl
    · rfl
    · rfl
    · exact h1p v (by simpa using hv)
    · rfl
  have hsz : (Value.bool true :: Value.int IntKind.i64 id :: Value.slice none 0 0 :: (pl.toList ++ [Value.bool true])).toArray.size = 12 := by simp [h8]
  have heq : (#[Value.bool true, .int .i64 id, .slice none 0 0] ++ s.plain ++ #[Value.bool true]) = (Value.bool true :: Value.int IntKind.i64 id :: Value.slice none 0 0 :: (pl.toList ++ [Value.bool true])).toArray := by
    rw [← HPL.out]
    apply Array.ext'
    simp
  have HEQ := Lib.hid heq
  have HSZ := Lib.hid hsz
  have HONE := Lib.hid hone
  clear heq hsz hone
  go_wp2_with (first | (refine wpList_store_ans rfl _ _ rfl ga id pl h8 h1p rfl rfl hra7 ?_) | (refine wpList_load_row rfl 30 _ rfl ga rfl _ _ _ _ (setRow_heap _ _ _ _ _ _ hra7) Try.underlying30 rfl (by rw [ansSize, HSZ.out]) ?_) | (refine wpList_store_row rfl 30 _ _ rfl (w.heap.size + 1) (Value.bool true :: Value.int IntKind.i64 id :: Value.slice none 0 0 :: (pl.toList ++ [Value.bool true])).toArray rfl rfl _ _ ((setRow_other _ _ _ _ hga).trans hres7) (by rw [ansSize, HSZ.out]) (by rw [HSZ.out]; rfl) HONE.out ?_))
  refine bodyPost_ret (v := .agg (Value.bool true :: Value.int IntKind.i64 id :: Value.slice none 0 0 :: (pl.toList ++ [Value.bool true])).toArray) ?_ rfl ⟨by rw [HEQ.out], ?_⟩
  · exact results_ans (fn := Try.f31) (p := 2) rfl _ _ (w.heap.size + 1) _ HSZ.out rfl (setRow_heap _ _ _ _ _ _ ((setRow_other _ _ _ _ hga).trans hres7))
  · exact below_setRow (below_setRow HB7.out (by omega) _) (by omega) _
end Go.Proofs.Ytbgbeohiafiacaa.Sched

namespace Go.Proofs.Ytbgbeohiafiacaa.Sched
open Go Go.RowKit Go.Proofs.Ytbgbeohiafiacaa.Cal Go.Proofs.YtbgbeohiafiacaaW.PrintWords Go.Proofs.YtbgbeohiafiacaaW.PrintLast Go.MuLone
set_option linter.unusedVariables false
set_option linter.unusedSimpArgs false

/-- a Cron's cells: the entries, the last number, the lock's state -/
def cronCells (v : Value) (n m : Int) : Array Value := #[v, .slice none 0 0, .chan none, .chan none, .chan none, .chan none, .bool false, .int .i32 m, .int .u32 0, .pointer none, .iface 99 (.agg #[.int .i64 380]), .int .i64 n, .int .u64 0, .int .u32 0]

theorem newParser380 (w : World) :
    Calls Try.prog 46 #[.int .i64 380] w fun e w' => e = .returned (.agg #[.int .i64 380]) ∧ Below w.heap.size w w' := by
  have hand1 : bits .and .i64 380 2 = 0 := by decide
  have hand2 : bits .and .i64 380 128 = 0 := by decide
  go_enter Try.func46, Try.ntmps46
  go_wp2
  exact bodyPost_ret (v := .agg #[.int .i64 380]) (by simp [results, Try.results46, go_sem]) rfl ⟨rfl, (Below.refl _ _).alloc (Nat.le_refl _) _⟩

theorem standardParser_any (w : World) :
    Calls Try.prog 47 #[] w fun e w' => e = .returned (.agg #[.int .i64 380]) ∧ Below w.heap.size w w' := by
  go_enter Try.func47, Try.ntmps47
  go_wp2_with fail
  refine (newParser380 _).mono ?_
  rintro e w1 ⟨rfl, hb⟩
  have hc : w1.cell? ⟨w.heap.size, 0, none⟩ = some (.int .i64 0) := (hb.cell (p := ⟨w.heap.size, 0, none⟩) (by simp)).trans (by simp [go_sem])
  have hf : w1.frozen? ⟨w.heap.size, 0, none⟩ = false := (hb.frozen (p := ⟨w.heap.size, 0, none⟩) (by simp)).trans (by simp [go_sem])
  have hB := below_of_le ((Below.refl _ _).alloc (Nat.le_refl _) _) hb
  go_wp2_with fail
  exact bodyPost_ret (v := .agg #[.int .i64 380]) (by simp [results, Try.results47, go_sem, hc]) rfl ⟨rfl, hB.setCell (Nat.le_refl _) _⟩

theorem zzCron_any (w : World) :
    Calls Try.prog 27 #[.bool false] w fun e w' => ∃ g, e = .returned (.pointer (some ⟨g, 0, none⟩)) ∧ w.heap.size ≤ g ∧ w'.heap[g]? = some (.cells (cronCells (.slice none 0 0) 0 0) 125 (0, 0)) ∧ Below w.heap.size w w' := by
  unfold cronCells
  go_enter Try.func27, Try.ntmps27
  go_wp2_with fail
  refine (standardParser_any _).mono ?_
  rintro e w1 ⟨rfl, hb⟩
  go_wp2_with fail
  go_ret
  exact ⟨w1.heap.size, rfl, hb.size, heap_alloc_new _ _, hb.alloc hb.size _⟩
end Go.Proofs.Ytbgbeohiafiacaa.Sched

namespace Go.Proofs.Ytbgbeohiafiacaa.Sched
open Go Go.RowKit Go.Proofs.Ytbgbeohiafiacaa.Cal Go.Proofs.YtbgbeohiafiacaaW.PrintWords Go.Proofs.YtbgbeohiafiacaaW.PrintLast Go.MuLone
set_option linter.unusedVariables false
set_option linter.unusedSimpArgs false

theorem ownsRow_same {w w' : World} {base : Nat} {e : TypeId} {size : Nat} {v : Value} {n : Nat} {xs : List Value} (h : w.ownsRow base e size v n xs) (hb : ∀ b, v.ownBlock = some b → w'.heap[b]? = w.heap[b]?) : w'.ownsRow base e size v n xs := by
  refine ⟨h.1, ?_⟩
  rcases h.2 with hn | ⟨g, cap, cur, rfl, hbg, hgg, rest⟩
  · exact .inl hn
  · refine .inr ⟨g, cap, cur, rfl, hbg, ?_, rest⟩
    rw [hb g rfl]
    exact hgg
theorem own_ne {w : World} {base : Nat} {e : TypeId} {size : Nat} {v : Value} {n : Nat} {xs : List Value} (h : w.ownsRow base e size v n xs) {g : Nat} {cs : Array Value} {t : TypeId} {fr : Nat × Nat} (hg : w.heap[g]? = some (.cells cs t fr)) (hne : t ≠ e) : v.ownBlock ≠ some g := by
  rcases h.2 with ⟨rfl, _⟩ | ⟨b, cap, cur, rfl, hbg, hgg, rest⟩
  · intro h; cases h
  · intro h
    simp only [Value.ownBlock, Option.some.injEq] at h
    subst h
    rw [hg] at hgg
    simp only [Option.some.injEq, Obj.cells.injEq] at hgg
    exact hne hgg.2.1
theorem info_entryPtr : ∃ i, Try.prog.info? 127 = some i ∧ i.zero = some (.pointer none) ∧ i.size = 1 ∧ i.bytes = 8 := by
  have h1 : (Try.prog.info? 127).map (fun i => (i.zero, i.size, i.bytes)) = some (some (.pointer none), 1, 8) := by kernel_rfl
  cases h : Try.prog.info? 127 with
  | none => rw [h] at h1; cases h1
  | some i =>
    rw [h] at h1
    simp only [Option.map_some, Option.some.injEq, Prod.mk.injEq] at h1
    exact ⟨i, rfl, h1⟩

/-- a part that ends as it should, and in no other way -/
def only (K : Act → World → Prop) : Exit → Act → World → Prop
  | .normal, a, w => K a w
  | _, _, _ => False
theorem wp_only {P : Program} {c : Code} {K : Act → World → Prop} {Q : Exit → Act → World → Prop} {a : Act} {w : World} (h : c.wp P (only K) a w) : c.wp P (Exit.then K Q) a w :=
  Code.wp_mono (fun e a w h => by cases e <;> first | exact h | exact h.elim) h

/-- what an addition leaves -/
def Added (w w' : World) (g B : Nat) (v : Value) (k : Nat) (ps : List Value) (sch job : Value) : Prop :=
  ∃ v' b, w'.heap[g]? = some (.cells (cronCells v' (k + 1) 0) 125 (0, 0)) ∧ w'.ownsRow B 127 1 v' (k + 1) (ps ++ [.pointer (some ⟨b, 0, none⟩)]) ∧
    w.heap.size ≤ b ∧ w'.heap[b]? = some (.cells (entryCells (k + 1) sch job job) 78 (0, 0)) ∧ Below B w w' ∧ ∀ c, c < w.heap.size → c ≠ g → v.ownBlock ≠ some c → w'.heap[c]? = w.heap[c]?

set_option maxRecDepth 100000 in
set_option maxHeartbeats 4000000 in
theorem add_any (g B : Nat) (v : Value) (k : Nat) (hk : k < 1000) (ps : List Value) (ts tj : TypeId) (xs xj : Value) (w : World) (hg : w.heap[g]? = some (.cells (cronCells v k 0) 125 (0, 0)))
    (hown : w.ownsRow B 127 1 v k ps) (hB : B ≤ w.heap.size) (hgB : B ≤ g) :
    Calls Try.prog 28 #[.pointer (some ⟨g, 0, none⟩), .iface ts xs, .iface tj xj] w fun e w' => e = .returned (.int .i64 (k + 1)) ∧ Added w w' g B v k ps (.iface ts xs) (.iface tj xj) := by
  have hg0 := hg
  unfold cronCells at hg0
  have c7 : w.cell? ⟨g, 7, none⟩ = some (.int .i32 0) := cell_of_row _ _ _ _ _ _ hg0
  have c11 : w.cell? ⟨g, 11, none⟩ = some (.int .i64 k) := cell_of_row _ _ _ _ _ _ hg0
  have f7 : w.frozen? ⟨g, 7, none⟩ = false := by simp [World.frozen?, hg0]
  have f11 : w.frozen? ⟨g, 11, none⟩ = false := by simp [World.frozen?, hg0]
  have hw1 : wrap64 ((k : Int) + 1) = (k : Int) + 1 := by simp [RowKit.wrap64]; omega
  have HG := Lib.hid hg
  have HO := Lib.hid hown
  clear hg0 hg hown
  go_enter_defers Try.func28, Try.ntmps28
  go_wp2_with (go_at_call 48; refine (lock_free Try.muLib ⟨g, 7, none⟩ _ c7 f7).mono ?_; rintro e w' ⟨rfl, rfl⟩)
  generalize hW3 : (w.setCell ⟨g, 7, none⟩ (.int .i32 1)).setCell ⟨g, 11, none⟩ (.int .i64 ((k : Int) + 1)) = w3
  have hg3 : w3.heap[g]? = some (.cells (cronCells v (k + 1) 1) 125 (0, 0)) := by
    rw [← hW3]; exact heap_setCell_same _ _ _ _ _ _ (heap_setCell_same _ _ _ _ _ _ HG.out)
  have hk3 : ∀ c, c ≠ g → w3.heap[c]? = w.heap[c]? := fun c hc => by rw [← hW3, heap_setCell_other _ _ _ _ hc, heap_setCell_other _ _ _ _ hc]
  have hs3 : w3.heap.size = w.heap.size := by rw [← hW3]; simp
  have hBel3 : Below B w w3 := by rw [← hW3]; exact ((Below.refl _ _).setCell hgB _).setCell hgB _
  have hgl : g < w3.heap.size := (Array.getElem?_eq_some_iff.1 hg3).1
  have hogne := own_ne HO.out HG.out (by decide)
  have hO3 : w3.ownsRow B 127 1 v k ps := ownsRow_same HO.out (fun b hb => hk3 b (fun h => hogne (by rw [← h]; exact hb)))
  have HO3 := Lib.hid hO3
  have HK3 := Lib.hid hk3
  clear hW3 c7 c11 f7 f11 hO3 hk3
  refine wp_only ?_
  refine start_ (n := 15) (S := fun w' => w'.heap[g]? = some (.cells (cronCells v (k + 1) 1) 125 (0, 0)) ∧ Below w3.heap.size w3 w') (ds := [13]) #[false, false, false, false, false, false, false, false, false, false, false, false, false, false, false] (by kernel_rfl) rfl rfl ⟨hg3, (Below.refl _ _).drew⟩ (fun hHeld => ?_)
  refine pure_ (i := 0) (N := some 22) (v := ?_) (a' := ?_) #[true, false, false, false, false, false, false, false, false, false, false, false, false, false, false] rfl rfl (by kernel_rfl) (fun _ _ _ h => h) (Or.inl ⟨by rfl, ?_⟩) ?_ ?_
  rotate_left
  · intro w'
    go_simp
    with_reducible rfl
  rotate_left
  · simp only [Act.put, List.setIfInBounds_toArray, List.set_cons_zero, List.set_cons_succ, i64_w, i32_w]
    rfl
  refine pure_ (i := 1) (N := some 23) (v := ?_) (a' := ?_) #[true, true, false, false, false, false, false, false, false, false, false, false, false, false, false] rfl rfl (by kernel_rfl) (fun _ _ _ h => h) (Or.inl ⟨by rfl, ?_⟩) ?_ ?_
  rotate_left
  · intro w'
    go_simp
    with_reducible rfl
  rotate_left
  · simp only [Act.put, List.setIfInBounds_toArray, List.set_cons_zero, List.set_cons_succ, i64_w, i32_w]
    rfl
  refine pure_ (i := 2) (N := some 24) (v := ?_) (a' := ?_) #[true, true, true, false, false, false, false, false, false, false, false, false, false, false, false] rfl rfl (by kernel_rfl) (fun _ _ _ h => h) (Or.inl ⟨by rfl, ?_⟩) ?_ ?_
  rotate_left
  · intro w'
    go_simp
    with_reducible rfl
  rotate_left
  · simp only [Act.put, List.setIfInBounds_toArray, List.set_cons_zero, List.set_cons_succ, i64_w, i32_w]
    rfl
  refine pure_ (i := 4) (N := some 26) (v := ?_) (a' := ?_) #[true, true, true, false, true, false, false, false, false, false, false, false, false, false, false] rfl rfl (by kernel_rfl) (fun _ _ _ h => h) (Or.inl ⟨by rfl, ?_⟩) ?_ ?_
  rotate_left
  · intro w'
    go_simp
    with_reducible rfl
  rotate_left
  · simp only [Act.put, List.setIfInBounds_toArray, List.set_cons_zero, List.set_cons_succ, i64_w, i32_w]
    rfl
  refine pure_ (i := 5) (N := some 27) (v := ?_) (a' := ?_) #[true, true, true, false, true, true, false, false, false, false, false, false, false, false, false] rfl rfl (by kernel_rfl) (fun _ _ _ h => h) (Or.inl ⟨by rfl, ?_⟩) ?_ ?_
  rotate_left
  · intro w'
    go_simp
    with_reducible rfl
  rotate_left
  · simp only [Act.put, List.setIfInBounds_toArray, List.set_cons_zero, List.set_cons_succ, i64_w, i32_w]
    rfl
  refine pure_ (i := 6) (N := some 28) (v := ?_) (a' := ?_) #[true, true, true, false, true, true, true, false, false, false, false, false, false, false, false] rfl rfl (by kernel_rfl) (fun _ _ _ h => h) (Or.inl ⟨by rfl, ?_⟩) ?_ ?_
  rotate_left
  · intro w'
    go_simp
    with_reducible rfl
  rotate_left
  · simp only [Act.put, List.setIfInBounds_toArray, List.set_cons_zero, List.set_cons_succ, i64_w, i32_w]
    rfl
  refine pure_ (i := 7) (N := some 29) (v := ?_) (a' := ?_) #[true, true, true, false, true, true, true, true, false, false, false, false, false, false, false] rfl rfl (by kernel_rfl) (fun _ _ _ h => h) (Or.inl ⟨by rfl, ?_⟩) ?_ ?_
  rotate_left
  · intro w'
    go_simp
    with_reducible rfl
  rotate_left
  · simp only [Act.put, List.setIfInBounds_toArray, List.set_cons_zero, List.set_cons_succ, i64_w, i32_w]
    rfl
  refine pure_ (i := 9) (N := some 31) (v := ?_) (a' := ?_) #[true, true, true, false, true, true, true, true, false, true, false, false, false, false, false] rfl rfl (by kernel_rfl) (fun _ _ _ h => h) (Or.inl ⟨by rfl, ?_⟩) ?_ ?_
  rotate_left
  · intro w'
    go_simp
    with_reducible rfl
  rotate_left
  · simp only [Act.put, List.setIfInBounds_toArray, List.set_cons_zero, List.set_cons_succ, i64_w, i32_w]
    rfl
  refine pure_ (i := 11) (N := some 33) (v := ?_) (a' := ?_) #[true, true, true, false, true, true, true, true, false, true, false, true, false, false, false] rfl rfl (by kernel_rfl) (fun _ _ _ h => h) (Or.inl ⟨by rfl, ?_⟩) ?_ ?_
  rotate_left
  · intro w'
    go_simp
    with_reducible rfl
  rotate_left
  · simp only [Act.put, List.setIfInBounds_toArray, List.set_cons_zero, List.set_cons_succ, i64_w, i32_w]
    rfl
  refine take_ (i := 3) (N := some 25) (v := ?_) (a' := ?_) #[true, true, true, true, true, true, true, true, false, true, false, true, false, false, false] rfl rfl (by kernel_rfl) (fun _ _ _ h => h) (Or.inl ⟨by rfl, ?_⟩) hHeld ?_ ?_
  rotate_left
  · rintro w' ⟨s0, s1⟩
    have c0 : w'.cell? ⟨g, 11, none⟩ = some (.int .i64 (k + 1)) := cell_of_row _ _ _ _ _ _ s0
    go_simp
    with_reducible rfl
  rotate_left
  · simp only [Act.put, List.setIfInBounds_toArray, List.set_cons_zero, List.set_cons_succ, i64_w, i32_w]
    rfl
  refine take_ (i := 8) (N := some 30) (v := ?_) (a' := ?_) #[true, true, true, true, true, true, true, true, true, true, false, true, false, false, false] rfl rfl (by kernel_rfl) (fun _ _ _ h => h) (Or.inl ⟨by rfl, ?_⟩) hHeld ?_ ?_
  rotate_left
  · rintro w' ⟨s0, s1⟩
    have c0 : w'.cell? ⟨g, 1, none⟩ = some (.slice none 0 0) := cell_of_row _ _ _ _ _ _ s0
    go_simp
    with_reducible rfl
  rotate_left
  · simp only [Act.put, List.setIfInBounds_toArray, List.set_cons_zero, List.set_cons_succ, i64_w, i32_w]
    rfl
  refine one_ (i := 10) (N := some 32) #[true, true, true, true, true, true, true, true, true, true, true, true, false, false, false] rfl rfl (by kernel_rfl) (by decide) (fun K hK => ?_)
  refine goes_ Try.func50 (by kernel_rfl) rfl #[.agg #[.slice none 0 0], .iface tj xj] (by rfl) rfl rfl (by simp only [List.map_toArray, List.map_cons, List.map_nil]; rfl) ?_
  with_reducible refine (chainThen_any (.iface tj xj) _).mono ?_
  rintro e w4 ⟨rfl, hb4⟩
  refine ⟨_, rfl, ?_⟩
  refine hK.out _ _ ⟨(hb4.block _ (Array.getElem?_eq_some_iff.1 hHeld.1).1).trans hHeld.1, below_of_le hHeld.2 hb4⟩ (fun hHeld => ?_)
  clear hK K
  refine norm_ (a' := ?_) ?_ ?_
  rotate_left
  · show Act.put _ (some 32) _ = _
    simp only [Act.put, List.setIfInBounds_toArray, List.set_cons_zero, List.set_cons_succ, i64_w, i32_w]
    rfl
  refine pure_ (i := 12) (N := some 34) (v := ?_) (a' := ?_) #[true, true, true, true, true, true, true, true, true, true, true, true, true, false, false] rfl rfl (by kernel_rfl) (fun _ _ _ h => h) (Or.inl ⟨by rfl, ?_⟩) ?_ ?_
  rotate_left
  · intro w'
    go_simp
    with_reducible rfl
  rotate_left
  · simp only [Act.put, List.setIfInBounds_toArray, List.set_cons_zero, List.set_cons_succ, i64_w, i32_w]
    rfl
  refine last_ (i := 13) (N := some 35) #[true, true, true, true, true, true, true, true, true, true, true, true, true, true, false] rfl rfl (by kernel_rfl) (by decide) (fun K hK => ?_)
  refine value_ (w1 := ?_) (v := ?_) (by rfl) rfl ?_ ?_
  rotate_left 2
  · go_simp
    constructor
    · rfl
    · rfl
  refine hK.out _ _ ?_
  clear hK K
  refine norm_ (a' := ?_) ?_ ?_
  rotate_left
  · show Act.put _ (some 35) _ = _
    simp only [Act.put, List.setIfInBounds_toArray, List.set_cons_zero, List.set_cons_succ, i64_w, i32_w]
    rfl
  refine pure_ (i := 14) (N := some 7) (v := ?_) (a' := ?_) #[true, true, true, true, true, true, true, true, true, true, true, true, true, true, true] rfl rfl (by kernel_rfl) (fun _ _ _ h => h) (Or.inl ⟨by rfl, ?_⟩) ?_ ?_
  rotate_left
  · intro w'
    go_simp
    with_reducible rfl
  rotate_left
  · simp only [Act.put, List.setIfInBounds_toArray, List.set_cons_zero, List.set_cons_succ, i64_w, i32_w]
    rfl
  refine done_ (by kernel_rfl) ?_
  dsimp only [only]
  obtain ⟨hg4, hB4⟩ := hHeld
  obtain ⟨b, hb⟩ : ∃ b, b = w4.heap.size := ⟨_, rfl⟩
  have hB5 : Below w3.heap.size w3 (w4.alloc (.cells (entryCells (k + 1) (.iface ts xs) (.iface tj xj) (.iface tj xj)) 78)) := hB4.alloc hB4.size _
  have he5 : (w4.alloc (.cells (entryCells (k + 1) (.iface ts xs) (.iface tj xj) (.iface tj xj)) 78)).heap[b]? = some (.cells (entryCells (k + 1) (.iface ts xs) (.iface tj xj) (.iface tj xj)) 78 (0, 0)) := by rw [hb]; exact heap_alloc_new w4 _
  have hg5 : (w4.alloc (.cells (entryCells (k + 1) (.iface ts xs) (.iface tj xj) (.iface tj xj)) 78)).heap[g]? = some (.cells (cronCells v (k + 1) 1) 125 (0, 0)) := (hB5.block g hgl).trans hg3
  have hb3 : w3.heap.size ≤ b := by rw [hb]; exact hB4.size
  have hb5 : b < (w4.alloc (.cells (entryCells (k + 1) (.iface ts xs) (.iface tj xj) (.iface tj xj)) 78)).heap.size := (Array.getElem?_eq_some_iff.1 he5).1
  rw [← hb]
  unfold entryCells at hB5 he5 hg5 hb5
  generalize hW5 : w4.alloc _ = w5 at *
  clear hW5 hb hg4 hB4 hb4
  have HO5 := Lib.hid (ownsRow_same HO3.out (fun c hc => hB5.block c (HO3.out.lt c hc).2))
  have c0 : w5.cell? ⟨g, 0, none⟩ = some v := cell_of_row _ _ _ _ _ _ hg5
  have c6 : w5.cell? ⟨g, 6, none⟩ = some (.bool false) := cell_of_row _ _ _ _ _ _ hg5
  have hne : b ≠ g := by omega
  have hne' : g ≠ b := by omega
  obtain ⟨i, hi, hz, hs, hy⟩ := info_entryPtr
  have HI := Lib.hid hi
  have HZ := Lib.hid hz
  have HS := Lib.hid hs
  have HY := Lib.hid hy
  have HG5 := Lib.hid hg5
  have HE5 := Lib.hid he5
  have HB5 := Lib.hid hB5
  have HON := Lib.hid hogne
  clear hi hz hs hy hg3 hg5 he5 hB5 hogne
  have HGL := Lib.hid (show g < w5.heap.size by have := HB5.out.size; omega)
  have HBN := Lib.hid (show v.ownBlock ≠ some b from fun h => by have := (HO3.out.lt b h).2; omega)
  go_wp2_with (at_builtin; refine wpList_append_lies _ rfl _ _ _ rfl B 127 i (.pointer none) 1 8 Try.underlying101 HI.out HZ.out HS.out HY.out rfl (by omega) v k ps rfl (HO5.out.alloc _) ⟨w5.heap.size, 0, none⟩ 1 1 [.pointer (some ⟨b, 0, none⟩)] rfl rfl (cell_one_new _ _ _) (by simp [Value.oneCell']) (by omega) (by simp only [maxLen]; omega) (by omega) (by simp; omega) (w5.heap.size + 1) (by simp) ?_; intro h cap w7 hown7 hgrow7 hat7 hlt7; have HG7 := Lib.hid ((hgrow7.block g (by simp; have := HGL.out; omega) (fun h => HON.out h.symm)).trans ((Below.heap_alloc w5 _ g HGL.out).trans HG5.out)); have HE7 := Lib.hid ((hgrow7.block b (by simp; omega) (fun h => HBN.out h.symm)).trans ((Below.heap_alloc w5 _ b hb5).trans HE5.out)); have c7 : w7.cell? ⟨g, 0, none⟩ = some v := cell_of_row _ _ _ _ _ _ HG7.out; have f7 : w7.frozen? ⟨g, 0, none⟩ = false := (by simp [World.frozen?, HG7.out]); have e7 : w7.cell? ⟨b, 0, none⟩ = some (.int .i64 ((k : Int) + 1)) := cell_of_row _ _ _ _ _ _ HE7.out; have HO7 := Lib.hid hown7; have HW7 := Lib.hid hgrow7; have HA7 := Lib.hid hat7; clear hown7 hgrow7 hat7)
  obtain ⟨V, hV⟩ : ∃ V, V = Value.slice (some ⟨h, 0, none⟩) (k + 1) cap := ⟨_, rfl⟩
  rw [← hV] at HO7 ⊢
  have hg8 : (w7.setCell ⟨g, 0, none⟩ V).heap[g]? = some (.cells (cronCells V (k + 1) 1) 125 (0, 0)) := heap_setCell_same _ _ _ _ _ _ HG7.out
  have hVg := own_ne HO7.out HG7.out (by decide)
  have hs5 := HB5.out.size
  have hs7 := HW7.out.size
  refine leaves_cons (f := 49) (args := #[.pointer (some ⟨g, 7, none⟩)]) (by simp) (by simp [go_sem]) ?_
  refine (unlock_deferred Try.muLib ⟨g, 7, none⟩ .returning _ (cell_of_row _ _ _ _ _ _ hg8) (by simp [World.frozen?, hg8])).mono ?_
  rintro e u' w'' ⟨rfl, rfl, rfl⟩
  have hbel : Below B w (((w7.setCell ⟨g, 0, none⟩ V)).setCell ⟨g, 7, none⟩ (.int .i32 0)) := by
    refine Below.setCell (Below.setCell (Below.grown (Below.alloc (hBel3.trans (HB5.out.mono (by omega))) (by omega) _) HW7.out (by simp; omega) ?_) hgB _) hgB _
    intro c hc
    exact (HO3.out.lt c hc).1
  refine ⟨_, results_tmp rfl _ _ _, rfl, V, b, heap_setCell_same _ _ _ _ _ _ hg8, ownsRow_same HO7.out ?_, by omega, ?_, hbel, ?_⟩
  · intro c hc
    have hcg : c ≠ g := fun e => hVg (by rw [← e]; exact hc)
    rw [heap_setCell_other _ _ _ _ hcg, heap_setCell_other _ _ _ _ hcg]
  · rw [heap_setCell_other _ _ _ _ hne, heap_setCell_other _ _ _ _ hne]
    exact HE7.out
  · intro c hc hcg hcv
    rw [heap_setCell_other _ _ _ _ hcg, heap_setCell_other _ _ _ _ hcg, HW7.out.block c (by simp; omega) (fun e => hcv e.symm), Below.heap_alloc _ _ _ (by omega), HB5.out.block c (by omega), HK3.out c hcg]
end Go.Proofs.Ytbgbeohiafiacaa.Sched
