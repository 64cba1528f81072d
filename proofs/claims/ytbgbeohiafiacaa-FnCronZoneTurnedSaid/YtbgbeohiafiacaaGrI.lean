/- Lemmas and walks on the way to the law, merged by wip/tools/pack.py: Sched3, SpecF, SpecT. Conditions: none. -/
import Derived.Test.YtbgbeohiafiacaaGrH
import Derived.Test.YtbgbeohiafiacaaPrA
import Derived.Test.YtbgbeohiafiacaaWEqStruct
import Derived.BigQuiet
namespace Go.Proofs.Ytbgbeohiafiacaa.Sched
open Go Go.RowKit Go.Proofs.Ytbgbeohiafiacaa.Cal Go.Proofs.YtbgbeohiafiacaaW.PrintWords Go.Proofs.YtbgbeohiafiacaaW.PrintLast
set_option linter.unusedVariables false
set_option linter.unusedSimpArgs false

theorem ansSize0 : (Try.prog.info? 30).map (·.size) = some 12 := by kernel_rfl
theorem below_of_le {W w1 w2 : World} (h1 : Below W.heap.size W w1) (h2 : Below w1.heap.size w1 w2) : Below W.heap.size W w2 :=
  h1.trans (h2.mono h1.size)

section
variable {P : Program}
theorem run_storeVar_at (w : World) (g o : Nat) (t ty : TypeId) (cur cells : Array Value) (hg : w.heap[g]? = some (.cells cur t (0, 0))) (hfit : o + cells.size ≤ cur.size) (hi : (P.info? ty).map (·.size) = some cells.size)
    (h1 : cells.all (·.oneCell') = true) :
    (storeVar ty ⟨g, o, none⟩ (.agg cells)).run P w = .ok () (w.setRow g (cur.toList.take o ++ cells.toList ++ cur.toList.drop (o + cells.size)).toArray) := by
  have := run_storeCells_at P g o t cells.toList 0 cur w hg (by simpa using hfit) (fun v hv => (Array.all_eq_true_iff_forall_mem.1 h1) v (by simpa using hv))
  cases hq : P.info? ty with
  | none => simp [hq] at hi
  | some i =>
    have hs : cells.size = i.size := by simp [hq] at hi; omega
    simp only [Nat.add_zero, Array.length_toList] at this
    simp [storeVar, sizeOf, typeInfo, hq, Value.cells, hs]
    rw [← hs]
    simpa [List.append_assoc] using this

theorem wp_store_at {o : Oper} {a : Act} {w : World} {K : Act → World → Prop} {Q : Exit → Act → World → Prop} (ty : TypeId) (x y : Operand) (ho : o.op = .store ty x y)
    (g of : Nat) (cells : Array Value) (hx : a.eval x = .pointer (some ⟨g, of, none⟩)) (hy : a.eval y = .agg cells)
    (t : TypeId) (cur : Array Value) (hg : w.heap[g]? = some (.cells cur t (0, 0))) (hi : (P.info? ty).map (·.size) = some cells.size)
    (hfit : of + cells.size ≤ cur.size) (h1 : cells.all (·.oneCell') = true)
    (h : K (a.put o.dst undef) (w.setRow g (cur.toList.take of ++ cells.toList ++ cur.toList.drop (of + cells.size)).toArray)) : o.wp P a w K Q := by
  unfold Oper.wp execOp
  simp only [ho, hx, hy, Instr.storeAt, Instr.sureAddr, Sem.run_bind, Sem.run_pure, Result.andThen_ok, run_storeVar_at w g of t ty cur cells hg hfit hi h1]
  exact h

theorem wpList_store_at {ops : Array Oper} {rest : List Oper} {o : Oper} {a : Act} {w : World} {Q : Exit → Act → World → Prop} (hgd : o.guard = none) (ty : TypeId) (x y : Operand) (ho : o.op = .store ty x y)
    (g of : Nat) (cells : Array Value) (hx : a.eval x = .pointer (some ⟨g, of, none⟩)) (hy : a.eval y = .agg cells)
    (t : TypeId) (cur : Array Value) (hg : w.heap[g]? = some (.cells cur t (0, 0))) (hi : (P.info? ty).map (·.size) = some cells.size)
    (hfit : of + cells.size ≤ cur.size) (h1 : cells.all (·.oneCell') = true)
    (h : wpList P ops Q rest (a.put o.dst undef) (w.setRow g (cur.toList.take of ++ cells.toList ++ cur.toList.drop (of + cells.size)).toArray)) : wpList P ops Q (o :: rest) a w :=
  wpList_plain hgd fun _ hK => wp_store_at ty x y ho g of cells hx hy t cur hg hi hfit h1 (hK _ _ h)
end

theorem results_ans {fn : Func} {p : Tmp} (h : fn.results = #[.cell p 30]) (tmps : Array Value) (w : World) (g : Nat) (cs : Array Value) (hn : cs.size = 12)
    (hp : tmps.getD p undef = .pointer (some ⟨g, 0, none⟩)) (hs : w.heap[g]? = some (.cells cs 30 (0, 0))) :
    (results fn tmps).run Try.prog w = .ok (.agg cs) w := by
  have hl := run_loadVar_row (P := Try.prog) w g _ _ _ _ _ hs Try.underlying30 rfl (by rw [ansSize0, hn])
  have hp' : tmps[p]?.getD undef = .pointer (some ⟨g, 0, none⟩) := by simpa using hp
  simp only [results, h]
  simp [asAddr, hp', hl]

def noAns : Array Value := #[.bool false, .int .i64 0, .slice none 0 0, .bool false, .int .i64 0, .int .u64 0, .int .u64 0, .int .u64 0, .int .u64 0, .int .u64 0, .int .u64 0, .bool false]
/-- an answer's variable, nothing in it yet -/
def AnsRow (w : World) (g : Nat) : Prop := w.heap[g]? = some (.cells noAns 30 (0, 0))
theorem AnsRow.below {w w' : World} {g : Nat} (h : AnsRow w g) (hb : Below w.heap.size w w') : AnsRow w' g := (hb.block g (Array.getElem?_eq_some_iff.1 h).1).trans h
theorem ansRow_new (w : World) : AnsRow (w.alloc (.cells noAns 30 (0, 0))) w.heap.size := heap_alloc_new w _
theorem ansRow_of {B : Nat} {wo W : World} (h : Below B wo W) : AnsRow (W.alloc (.cells noAns 30 (0, 0))) W.heap.size := ansRow_new W
theorem run_alloc_ans (w : World) : (Instr.alloc 30 true (.tuple #[])).run Try.prog w = .ok (.pointer (some ⟨w.heap.size, 0, none⟩)) (w.alloc (.cells noAns 30 (0, 0))) := by kernel_rfl
theorem exec_alloc_ans (ev : Operand → Value) (oi : Oper) (w : World) (ho : oi.op = .alloc 30) :
    (execOp ev oi).run Try.prog w = .ok (.value (.pointer (some ⟨w.heap.size, 0, none⟩))) (w.alloc (.cells noAns 30 (0, 0))) := by
  have := run_alloc_ans w
  unfold execOp
  rw [ho]
  simp only [Sem.run_bind, Sem.run_pure, Result.andThen_ok, this]
theorem ansSize : (Try.prog.info? 30).map (·.size) = some 12 := by kernel_rfl

theorem wpList_store_ans {ops : Array Oper} {rest : List Oper} {o : Oper} {a : Act} {w : World} {Q : Exit → Act → World → Prop} (hgd : o.guard = none) (x y : Operand) (ho : o.op = .store 27 x y)
    (g : Nat) (id : Int) (pl : Array Value) (h8 : pl.size = 8) (h1 : pl.all (·.oneCell') = true) (hx : a.eval x = .pointer (some ⟨g, 3, none⟩)) (hy : a.eval y = .agg pl)
    (hg : w.heap[g]? = some (.cells #[.bool true, .int .i64 id, .slice none 0 0, .bool false, .int .i64 0, .int .u64 0, .int .u64 0, .int .u64 0, .int .u64 0, .int .u64 0, .int .u64 0, .bool true] 30 (0, 0)))
    (h : wpList Try.prog ops Q rest (a.put o.dst undef) (w.setRow g (Value.bool true :: Value.int IntKind.i64 id :: Value.slice none 0 0 :: (pl.toList ++ [Value.bool true])).toArray)) : wpList Try.prog ops Q (o :: rest) a w := by
  refine wpList_store_at hgd 27 x y ho g 3 pl hx hy 30 _ hg (by rw [schSize, h8]) (by rw [h8]; show 3 + 8 ≤ 12; omega) h1 ?_
  have e : (List.take 3 (#[Value.bool true, .int .i64 id, .slice none 0 0, .bool false, .int .i64 0, .int .u64 0, .int .u64 0, .int .u64 0, .int .u64 0, .int .u64 0, .int .u64 0, .bool true] : Array Value).toList ++ pl.toList ++ List.drop (3 + pl.size) (#[Value.bool true, .int .i64 id, .slice none 0 0, .bool false, .int .i64 0, .int .u64 0, .int .u64 0, .int .u64 0, .int .u64 0, .int .u64 0, .int .u64 0, .bool true] : Array Value).toList).toArray = (Value.bool true :: Value.int IntKind.i64 id :: Value.slice none 0 0 :: (pl.toList ++ [Value.bool true])).toArray := by
    rw [h8]; simp
  rw [e]
  exact h

set_option maxRecDepth 100000 in
set_option maxHeartbeats 4000000 in
theorem entry_any (id : Int) (hid : id ≠ 0) (s : Sch) (sch wj job : Value) (w : World) (hs : SchIs w sch s) :
    Calls Try.prog 31 #[.agg (entryCells id sch wj job)] w fun e w' => e = .returned (.agg (#[.bool true, .int .i64 id, .slice none 0 0] ++ s.plain ++ #[.bool true])) ∧ Below w.heap.size w w' := by
  have HV := Lib.hid (fun w' => valid_any id sch wj job w')
  have HZ := Lib.hid (fun w' => isZero_any w')
  have HS := Lib.hid hs
  have hid' : (id != 0) = true := by simpa using hid
  have hal := run_alloc_ans
  clear hs hid
  unfold entryCells at HV ⊢
  go_enter Try.func31, Try.ntmps31
  go_wp2_with fail
  refine (HV.out _).mono ?_
  rintro e w1 ⟨rfl, hb1⟩
  have hB1 : Below w.heap.size w w1 := below_of_le (((Below.refl _ _).alloc (Nat.le_refl _) _).alloc (by simp) _) hb1
  have hrow : w1.heap[w.heap.size]? = some (.cells (entryCells id sch wj job) 78 (0, 0)) :=
    (hb1.block w.heap.size (by simp; omega)).trans ((((Below.refl _ _).alloc (Nat.le_refl _) _).block w.heap.size (by simp)).trans (heap_alloc_new w _))
  have hres : AnsRow w1 (w.heap.size + 1) := (hb1.block (w.heap.size + 1) (by simp)).trans (heap_alloc2 w _ _)
  have HS1 := Lib.hid (HS.out.below hB1)
  clear hb1 HV HS
  rw [hid']
  go_upto_region 3 with fail
  obtain ⟨wo, rfl⟩ : ∃ wo : World, wo = w1 := ⟨_, rfl⟩
  refine start_ (n := 13) (S := fun w' => w'.heap[w.heap.size]? = some (.cells (entryCells id sch wj job) 78 (0, 0)) ∧ Below wo.heap.size wo w') (ds := [12]) #[false, false, false, false, false, false, false, false, false, false, false, false, false] (by kernel_rfl) rfl rfl ⟨hrow, (Below.refl _ _).drew⟩ (fun hHeld => ?_)
  refine pure_ (i := 0) (N := some 8) (v := ?_) (a' := ?_) #[true, false, false, false, false, false, false, false, false, false, false, false, false] rfl rfl (by kernel_rfl) (fun _ _ _ h => h) (Or.inl ⟨by rfl, ?_⟩) ?_ ?_
  rotate_left
  · intro w'
    go_simp
    with_reducible rfl
  rotate_left
  · simp only [Act.put, List.setIfInBounds_toArray, List.set_cons_zero, List.set_cons_succ, i64_w, i32_w]
    rfl
  refine pure_ (i := 2) (N := some 10) (v := ?_) (a' := ?_) #[true, false, true, false, false, false, false, false, false, false, false, false, false] rfl rfl (by kernel_rfl) (fun _ _ _ h => h) (Or.inl ⟨by rfl, ?_⟩) ?_ ?_
  rotate_left
  · intro w'
    go_simp
    with_reducible rfl
  rotate_left
  · simp only [Act.put, List.setIfInBounds_toArray, List.set_cons_zero, List.set_cons_succ, i64_w, i32_w]
    rfl
  refine take_ (i := 1) (N := some 9) (v := ?_) (a' := ?_) #[true, true, true, false, false, false, false, false, false, false, false, false, false] rfl rfl (by kernel_rfl) (fun _ _ _ h => h) (Or.inl ⟨by rfl, ?_⟩) hHeld ?_ ?_
  rotate_left
  · rintro w' ⟨s0, s1⟩
    have c0 : w'.cell? ⟨w.heap.size, 0, none⟩ = some (.int .i64 id) := cell_of_row _ _ _ _ _ _ s0
    go_simp
    with_reducible rfl
  rotate_left
  · simp only [Act.put, List.setIfInBounds_toArray, List.set_cons_zero, List.set_cons_succ, i64_w, i32_w]
    rfl
  refine take_ (i := 3) (N := some 11) (v := ?_) (a' := ?_) #[true, true, true, true, false, false, false, false, false, false, false, false, false] rfl rfl (by kernel_rfl) (fun _ _ _ h => h) (Or.inl ⟨by rfl, ?_⟩) hHeld ?_ ?_
  rotate_left
  · rintro w' ⟨s0, s1⟩
    have c0 : w'.cell? ⟨w.heap.size, 2, none⟩ = some (.int .u64 0) := cell_of_row _ _ _ _ _ _ s0
    have c1 : w'.cell? ⟨w.heap.size, 3, none⟩ = some (.int .i64 0) := cell_of_row _ _ _ _ _ _ s0
    have c2 : w'.cell? ⟨w.heap.size, 4, none⟩ = some (.pointer none) := cell_of_row _ _ _ _ _ _ s0
    go_simp
    with_reducible rfl
  rotate_left
  · simp only [Act.put, List.setIfInBounds_toArray, List.set_cons_zero, List.set_cons_succ, i64_w, i32_w]
    rfl
  refine join_ (σ := Nat) 1 #[true, true, true, true, true, true, true, true, true, true, true, true, false] (fun s => [(12, .bool true), (13, .bool true), (14, .pointer (some ⟨w.heap.size, 5, none⟩)), (15, .agg #[.int .u64 0, .int .i64 0, .pointer none]), (16, .bool true), (17, .bool true), (18, .agg #[.bool true, .int .i64 id, .slice none 0 0, .bool false, .int .i64 0, .int .u64 0, .int .u64 0, .int .u64 0, .int .u64 0, .int .u64 0, .int .u64 0, .bool true]), (3, .pointer (some ⟨s, 0, none⟩))]) (fun s w' => AnsRow w' s ∧ wo.heap.size ≤ s ∧ (w'.heap[w.heap.size]? = some (.cells (entryCells id sch wj job) 78 (0, 0)) ∧ Below wo.heap.size wo w')) ?_ ?_
  rotate_left
  · intro hCont
    refine two_ (i := 4) (j := 11) (Ni := some 12) (Nj := some 3) #[true, true, true, true, true, false, false, false, false, false, false, false, false] #[true, true, true, true, false, false, false, false, false, false, false, true, false] rfl rfl rfl rfl (by kernel_rfl) (by decide) (by decide) (fun K hK => ?_) (fun K hK => ?_)
    · skip
      refine goes_ Try.func52 (by kernel_rfl) rfl #[.agg #[.int .u64 0, .int .i64 0, .pointer none]] (by rfl) rfl rfl (by simp only [List.map_toArray, List.map_cons, List.map_nil]; rfl) ?_
      with_reducible refine (HZ.out _).mono ?_
      rintro e w4 ⟨rfl, hb4⟩
      refine ⟨_, rfl, ?_⟩
      refine hK.out _ _ ⟨(hb4.block _ (Array.getElem?_eq_some_iff.1 hHeld.1).1).trans hHeld.1, below_of_le hHeld.2 hb4⟩ (fun hHeld => ?_)
      clear hK K
      refine norm_ (a' := ?_) ?_ ?_
      rotate_left
      · show Act.put _ (some 12) _ = _
        simp only [Act.put, List.setIfInBounds_toArray, List.set_cons_zero, List.set_cons_succ, i64_w, i32_w]
        rfl
      refine pure_ (i := 5) (N := some 13) (v := ?_) (a' := ?_) #[true, true, true, true, true, true, false, false, false, false, false, false, false] rfl rfl (by kernel_rfl) (fun _ _ _ h => h) (Or.inl ⟨by rfl, ?_⟩) ?_ ?_
      rotate_left
      · intro w'
        go_simp
        with_reducible rfl
      rotate_left
      · simp only [Act.put, List.setIfInBounds_toArray, List.set_cons_zero, List.set_cons_succ, i64_w, i32_w]
        rfl
      refine pure_ (i := 6) (N := some 14) (v := ?_) (a' := ?_) #[true, true, true, true, true, true, true, false, false, false, false, false, false] rfl rfl (by kernel_rfl) (fun _ _ _ h => h) (Or.inl ⟨by rfl, ?_⟩) ?_ ?_
      rotate_left
      · intro w'
        go_simp
        with_reducible rfl
      rotate_left
      · simp only [Act.put, List.setIfInBounds_toArray, List.set_cons_zero, List.set_cons_succ, i64_w, i32_w]
        rfl
      refine take_ (i := 7) (N := some 15) (v := ?_) (a' := ?_) #[true, true, true, true, true, true, true, true, false, false, false, false, false] rfl rfl (by kernel_rfl) (fun _ _ _ h => h) (Or.inl ⟨by rfl, ?_⟩) hHeld ?_ ?_
      rotate_left
      · rintro w' ⟨s0, s1⟩
        have c0 : w'.cell? ⟨w.heap.size, 5, none⟩ = some (.int .u64 0) := cell_of_row _ _ _ _ _ _ s0
        have c1 : w'.cell? ⟨w.heap.size, 6, none⟩ = some (.int .i64 0) := cell_of_row _ _ _ _ _ _ s0
        have c2 : w'.cell? ⟨w.heap.size, 7, none⟩ = some (.pointer none) := cell_of_row _ _ _ _ _ _ s0
        go_simp
        with_reducible rfl
      rotate_left
      · simp only [Act.put, List.setIfInBounds_toArray, List.set_cons_zero, List.set_cons_succ, i64_w, i32_w]
        rfl
      refine two_ (i := 8) (j := 11) (Ni := some 16) (Nj := some 3) #[true, true, true, true, true, true, true, true, true, false, false, false, false] #[true, true, true, true, true, true, true, true, false, false, false, true, false] rfl rfl rfl rfl (by kernel_rfl) (by decide) (by decide) (fun K hK => ?_) (fun K hK => ?_)
      · skip
        refine goes_ Try.func52 (by kernel_rfl) rfl #[.agg #[.int .u64 0, .int .i64 0, .pointer none]] (by rfl) rfl rfl (by simp only [List.map_toArray, List.map_cons, List.map_nil]; rfl) ?_
        with_reducible refine (HZ.out _).mono ?_
        rintro e w8 ⟨rfl, hb8⟩
        refine ⟨_, rfl, ?_⟩
        refine hK.out _ _ ⟨(hb8.block _ (Array.getElem?_eq_some_iff.1 hHeld.1).1).trans hHeld.1, below_of_le hHeld.2 hb8⟩ (fun hHeld => ?_)
        clear hK K
        refine norm_ (a' := ?_) ?_ ?_
        rotate_left
        · show Act.put _ (some 16) _ = _
          simp only [Act.put, List.setIfInBounds_toArray, List.set_cons_zero, List.set_cons_succ, i64_w, i32_w]
          rfl
        refine pure_ (i := 9) (N := some 17) (v := ?_) (a' := ?_) #[true, true, true, true, true, true, true, true, true, true, false, false, false] rfl rfl (by kernel_rfl) (fun _ _ _ h => h) (Or.inl ⟨by rfl, ?_⟩) ?_ ?_
        rotate_left
        · intro w'
          go_simp
          with_reducible rfl
        rotate_left
        · simp only [Act.put, List.setIfInBounds_toArray, List.set_cons_zero, List.set_cons_succ, i64_w, i32_w]
          rfl
        refine pure_ (i := 10) (N := some 18) (v := ?_) (a' := ?_) #[true, true, true, true, true, true, true, true, true, true, true, false, false] rfl rfl (by kernel_rfl) (fun _ _ _ h => h) (Or.inl ⟨by rfl, ?_⟩) ?_ ?_
        rotate_left
        · intro w'
          go_simp
          with_reducible rfl
        rotate_left
        · simp only [Act.put, List.setIfInBounds_toArray, List.set_cons_zero, List.set_cons_succ, i64_w, i32_w]
          rfl
        refine one_ (i := 11) (N := some 3) #[true, true, true, true, true, true, true, true, true, true, true, true, false] rfl rfl (by kernel_rfl) (by decide) (fun K hK => ?_)
        have hge := hHeld.2.size
        have hra := ansRow_of hHeld.2
        refine value_ (by rfl) rfl (exec_alloc_ans _ _ _ rfl) ?_
        refine hK.out _ _ ⟨(((Below.refl _ _).alloc (Nat.le_refl _) _).block _ (Array.getElem?_eq_some_iff.1 hHeld.1).1).trans hHeld.1, hHeld.2.alloc hHeld.2.size _⟩ (fun hHeld => ?_)
        clear hK K
        refine norm_ (a' := ?_) ?_ ?_
        rotate_left
        · show Act.put _ (some 3) _ = _
          simp only [Act.put, List.setIfInBounds_toArray, List.set_cons_zero, List.set_cons_succ, i64_w, i32_w]
          rfl
        exact norm_ (by simp only [putAll, Act.put, List.setIfInBounds_toArray, List.set_cons_zero, List.set_cons_succ]) (hCont w8.heap.size _ ⟨hra, hge, hHeld⟩)
      · skip
        have hge := hHeld.2.size
        have hra := ansRow_of hHeld.2
        refine value_ (by rfl) rfl (exec_alloc_ans _ _ _ rfl) ?_
        refine hK.out _ _ ⟨(((Below.refl _ _).alloc (Nat.le_refl _) _).block _ (Array.getElem?_eq_some_iff.1 hHeld.1).1).trans hHeld.1, hHeld.2.alloc hHeld.2.size _⟩ (fun hHeld => ?_)
        clear hK K
        refine norm_ (a' := ?_) ?_ ?_
        rotate_left
        · show Act.put _ (some 3) _ = _
          simp only [Act.put, List.setIfInBounds_toArray, List.set_cons_zero, List.set_cons_succ, i64_w, i32_w]
          rfl
        refine one_ (i := 8) (N := some 16) #[true, true, true, true, true, true, true, true, true, false, false, true, false] rfl rfl (by kernel_rfl) (by decide) (fun K hK => ?_)
        refine goes_ Try.func52 (by kernel_rfl) rfl #[.agg #[.int .u64 0, .int .i64 0, .pointer none]] (by rfl) rfl rfl (by simp only [List.map_toArray, List.map_cons, List.map_nil]; rfl) ?_
        with_reducible refine (HZ.out _).mono ?_
        rintro e w8 ⟨rfl, hb8⟩
        refine ⟨_, rfl, ?_⟩
        refine hK.out _ _ ⟨(hb8.block _ (Array.getElem?_eq_some_iff.1 hHeld.1).1).trans hHeld.1, below_of_le hHeld.2 hb8⟩ (fun hHeld => ?_)
        clear hK K
        refine norm_ (a' := ?_) ?_ ?_
        rotate_left
        · show Act.put _ (some 16) _ = _
          simp only [Act.put, List.setIfInBounds_toArray, List.set_cons_zero, List.set_cons_succ, i64_w, i32_w]
          rfl
        refine pure_ (i := 9) (N := some 17) (v := ?_) (a' := ?_) #[true, true, true, true, true, true, true, true, true, true, false, true, false] rfl rfl (by kernel_rfl) (fun _ _ _ h => h) (Or.inl ⟨by rfl, ?_⟩) ?_ ?_
        rotate_left
        · intro w'
          go_simp
          with_reducible rfl
        rotate_left
        · simp only [Act.put, List.setIfInBounds_toArray, List.set_cons_zero, List.set_cons_succ, i64_w, i32_w]
          rfl
        refine pure_ (i := 10) (N := some 18) (v := ?_) (a' := ?_) #[true, true, true, true, true, true, true, true, true, true, true, true, false] rfl rfl (by kernel_rfl) (fun _ _ _ h => h) (Or.inl ⟨by rfl, ?_⟩) ?_ ?_
        rotate_left
        · intro w'
          go_simp
          with_reducible rfl
        rotate_left
        · simp only [Act.put, List.setIfInBounds_toArray, List.set_cons_zero, List.set_cons_succ, i64_w, i32_w]
          rfl
        exact norm_ (by simp only [putAll, Act.put, List.setIfInBounds_toArray, List.set_cons_zero, List.set_cons_succ]) (hCont w4.heap.size _ ⟨hra.below hb8, hge, hHeld⟩)
    · skip
      have hge := hHeld.2.size
      have hra := ansRow_of hHeld.2
      refine value_ (by rfl) rfl (exec_alloc_ans _ _ _ rfl) ?_
      refine hK.out _ _ ⟨(((Below.refl _ _).alloc (Nat.le_refl _) _).block _ (Array.getElem?_eq_some_iff.1 hHeld.1).1).trans hHeld.1, hHeld.2.alloc hHeld.2.size _⟩ (fun hHeld => ?_)
      clear hK K
      refine norm_ (a' := ?_) ?_ ?_
      rotate_left
      · show Act.put _ (some 3) _ = _
        simp only [Act.put, List.setIfInBounds_toArray, List.set_cons_zero, List.set_cons_succ, i64_w, i32_w]
        rfl
      refine one_ (i := 4) (N := some 12) #[true, true, true, true, true, false, false, false, false, false, false, true, false] rfl rfl (by kernel_rfl) (by decide) (fun K hK => ?_)
      refine goes_ Try.func52 (by kernel_rfl) rfl #[.agg #[.int .u64 0, .int .i64 0, .pointer none]] (by rfl) rfl rfl (by simp only [List.map_toArray, List.map_cons, List.map_nil]; rfl) ?_
      with_reducible refine (HZ.out _).mono ?_
      rintro e w4 ⟨rfl, hb4⟩
      refine ⟨_, rfl, ?_⟩
      refine hK.out _ _ ⟨(hb4.block _ (Array.getElem?_eq_some_iff.1 hHeld.1).1).trans hHeld.1, below_of_le hHeld.2 hb4⟩ (fun hHeld => ?_)
      clear hK K
      refine norm_ (a' := ?_) ?_ ?_
      rotate_left
      · show Act.put _ (some 12) _ = _
        simp only [Act.put, List.setIfInBounds_toArray, List.set_cons_zero, List.set_cons_succ, i64_w, i32_w]
        rfl
      refine pure_ (i := 5) (N := some 13) (v := ?_) (a' := ?_) #[true, true, true, true, true, true, false, false, false, false, false, true, false] rfl rfl (by kernel_rfl) (fun _ _ _ h => h) (Or.inl ⟨by rfl, ?_⟩) ?_ ?_
      rotate_left
      · intro w'
        go_simp
        with_reducible rfl
      rotate_left
      · simp only [Act.put, List.setIfInBounds_toArray, List.set_cons_zero, List.set_cons_succ, i64_w, i32_w]
        rfl
      refine pure_ (i := 6) (N := some 14) (v := ?_) (a' := ?_) #[true, true, true, true, true, true, true, false, false, false, false, true, false] rfl rfl (by kernel_rfl) (fun _ _ _ h => h) (Or.inl ⟨by rfl, ?_⟩) ?_ ?_
      rotate_left
      · intro w'
        go_simp
        with_reducible rfl
      rotate_left
      · simp only [Act.put, List.setIfInBounds_toArray, List.set_cons_zero, List.set_cons_succ, i64_w, i32_w]
        rfl
      refine take_ (i := 7) (N := some 15) (v := ?_) (a' := ?_) #[true, true, true, true, true, true, true, true, false, false, false, true, false] rfl rfl (by kernel_rfl) (fun _ _ _ h => h) (Or.inl ⟨by rfl, ?_⟩) hHeld ?_ ?_
      rotate_left
      · rintro w' ⟨s0, s1⟩
        have c0 : w'.cell? ⟨w.heap.size, 5, none⟩ = some (.int .u64 0) := cell_of_row _ _ _ _ _ _ s0
        have c1 : w'.cell? ⟨w.heap.size, 6, none⟩ = some (.int .i64 0) := cell_of_row _ _ _ _ _ _ s0
        have c2 : w'.cell? ⟨w.heap.size, 7, none⟩ = some (.pointer none) := cell_of_row _ _ _ _ _ _ s0
        go_simp
        with_reducible rfl
      rotate_left
      · simp only [Act.put, List.setIfInBounds_toArray, List.set_cons_zero, List.set_cons_succ, i64_w, i32_w]
        rfl
      refine one_ (i := 8) (N := some 16) #[true, true, true, true, true, true, true, true, true, false, false, true, false] rfl rfl (by kernel_rfl) (by decide) (fun K hK => ?_)
      refine goes_ Try.func52 (by kernel_rfl) rfl #[.agg #[.int .u64 0, .int .i64 0, .pointer none]] (by rfl) rfl rfl (by simp only [List.map_toArray, List.map_cons, List.map_nil]; rfl) ?_
      with_reducible refine (HZ.out _).mono ?_
      rintro e w8 ⟨rfl, hb8⟩
      refine ⟨_, rfl, ?_⟩
      refine hK.out _ _ ⟨(hb8.block _ (Array.getElem?_eq_some_iff.1 hHeld.1).1).trans hHeld.1, below_of_le hHeld.2 hb8⟩ (fun hHeld => ?_)
      clear hK K
      refine norm_ (a' := ?_) ?_ ?_
      rotate_left
      · show Act.put _ (some 16) _ = _
        simp only [Act.put, List.setIfInBounds_toArray, List.set_cons_zero, List.set_cons_succ, i64_w, i32_w]
        rfl
      refine pure_ (i := 9) (N := some 17) (v := ?_) (a' := ?_) #[true, true, true, true, true, true, true, true, true, true, false, true, false] rfl rfl (by kernel_rfl) (fun _ _ _ h => h) (Or.inl ⟨by rfl, ?_⟩) ?_ ?_
      rotate_left
      · intro w'
        go_simp
        with_reducible rfl
      rotate_left
      · simp only [Act.put, List.setIfInBounds_toArray, List.set_cons_zero, List.set_cons_succ, i64_w, i32_w]
        rfl
      refine pure_ (i := 10) (N := some 18) (v := ?_) (a' := ?_) #[true, true, true, true, true, true, true, true, true, true, true, true, false] rfl rfl (by kernel_rfl) (fun _ _ _ h => h) (Or.inl ⟨by rfl, ?_⟩) ?_ ?_
      rotate_left
      · intro w'
        go_simp
        with_reducible rfl
      rotate_left
      · simp only [Act.put, List.setIfInBounds_toArray, List.set_cons_zero, List.set_cons_succ, i64_w, i32_w]
        rfl
      exact norm_ (by simp only [putAll, Act.put, List.setIfInBounds_toArray, List.set_cons_zero, List.set_cons_succ]) (hCont wo.drew.heap.size _ ⟨(hra.below hb4).below hb8, hge, hHeld⟩)
  rintro ga w5 ⟨hra, hge, hHeld⟩
  refine norm_ (a' := ?_) ?_ ?_
  rotate_left
  · simp only [putAll, Act.put, List.setIfInBounds_toArray, List.set_cons_zero, List.set_cons_succ]
    rfl
  refine last_ (i := 12) (N := none) #[true, true, true, true, true, true, true, true, true, true, true, true, true] rfl rfl (by kernel_rfl) (by decide) (fun K hK => ?_)
  rw [if_pos (by rfl)]
  refine wp_store_row 30 _ _ rfl ga #[.bool true, .int .i64 id, .slice none 0 0, .bool false, .int .i64 0, .int .u64 0, .int .u64 0, .int .u64 0, .int .u64 0, .int .u64 0, .int .u64 0, .bool true] rfl rfl 30 noAns hra ansSize rfl (by simp [Value.oneCell']) ?_
  refine hK.out _ _ ?_
  clear hK K
  refine done_ (by kernel_rfl) ?_
  have hlo : w.heap.size < wo.heap.size := (Array.getElem?_eq_some_iff.1 hrow).1
  have hlo1 : w.heap.size + 1 < wo.heap.size := (Array.getElem?_eq_some_iff.1 hres).1
  have HRA := Lib.hid (setRow_heap w5 ga _ #[.bool true, .int .i64 id, .slice none 0 0, .bool false, .int .i64 0, .int .u64 0, .int .u64 0, .int .u64 0, .int .u64 0, .int .u64 0, .int .u64 0, .bool true] _ _ hra)
  have hrow6 := (setRow_other w5 ga w.heap.size #[.bool true, .int .i64 id, .slice none 0 0, .bool false, .int .i64 0, .int .u64 0, .int .u64 0, .int .u64 0, .int .u64 0, .int .u64 0, .int .u64 0, .bool true] (by omega)).trans hHeld.1
  have HB6 := Lib.hid (below_setRow hHeld.2 hge #[.bool true, .int .i64 id, .slice none 0 0, .bool false, .int .i64 0, .int .u64 0, .int .u64 0, .int .u64 0, .int .u64 0, .int .u64 0, .int .u64 0, .bool true])
  generalize hW6 : w5.setRow ga #[.bool true, .int .i64 id, .slice none 0 0, .bool false, .int .i64 0, .int .u64 0, .int .u64 0, .int .u64 0, .int .u64 0, .int .u64 0, .int .u64 0, .bool true] = w6 at *
  have cS : w6.cell? ⟨w.heap.size, 1, none⟩ = some sch := cell_of_row _ _ _ _ _ _ hrow6
  have HP := Lib.hid (plainSchedule_any s sch w6 (HS1.out.below HB6.out))
  have h8 : s.plain.size = 8 := by unfold Sch.plain; split <;> rfl
  have h1p : s.plain.all (·.oneCell') = true := by unfold Sch.plain; split <;> simp [Value.oneCell']
  have HB1 := Lib.hid (below_of_le hB1 HB6.out)
  have hres6 := (HB6.out.block _ hlo1).trans hres
  have hga : w.heap.size + 1 ≠ ga := by omega
  have hgl : w.heap.size ≤ ga := by omega
  have hga6 : ga < w6.heap.size := (Array.getElem?_eq_some_iff.1 HRA.out).1
  clear hrow6 hHeld hW6 hra hrow hres HZ hB1 HS1 HB6 hge
  obtain ⟨pl, hpl⟩ : ∃ pl, pl = s.plain := ⟨_, rfl⟩
  rw [← hpl] at h8 h1p HP
  have HPL := Lib.hid hpl
  clear hpl
  go_wp2_with fail
  refine HP.out.mono ?_
  rintro e w7 ⟨rfl, hb7⟩
  have hra7 := (hb7.block ga hga6).trans HRA.out
  have hres7 := (hb7.block (w.heap.size + 1) (Array.getElem?_eq_some_iff.1 hres6).1).trans hres6
  have HB7 := Lib.hid (below_of_le HB1.out hb7)
  clear hb7 HP HRA HB1 hres6
  have hone : (Value.bool true :: Value.int IntKind.i64 id :: Value.slice none 0 0 :: (pl.toList ++ [Value.bool true])).toArray.all (·.oneCell') = true := by
    rw [Array.all_eq_true_iff_forall_mem] at h1p ⊢
    intro v hv
    simp only [List.mem_toArray, List.mem_cons, List.mem_append, List.not_mem_nil, or_false] at hv
    rcases hv with rfl | rfl | rfl | hv | rfl
    · rfl
    · rfl
    · rfl
    · exact h1p v (by simpa using hv)
    · rfl
  have hsz : (Value.bool true :: Value.int IntKind.i64 id :: Value.slice none 0 0 :: (pl.toList ++ [Value.bool true])).toArray.size = 12 := by simp [h8]
  have heq : (#[Value.bool true, .int .i64 id, .slice none 0 0] ++ s.plain ++ #[Value.bool true]) = (Value.bool true :: Value.int IntKind.i64 id :: Value.slice none 0 0 :: (pl.toList ++ [Value.bool true])).toArray := by
    rw [← HPL.out]
    apply Array.ext'
    simp
  have HEQ := Lib.hid heq
  have HSZ := Lib.hid hsz
  have HONE := Lib.hid hone
  clear heq hsz hone
  go_wp2_with (first | (refine wpList_store_ans rfl _ _ rfl ga id pl h8 h1p rfl rfl hra7 ?_) | (refine wpList_load_row rfl 30 _ rfl ga rfl _ _ _ _ (setRow_heap _ _ _ _ _ _ hra7) Try.underlying30 rfl (by rw [ansSize, HSZ.out]) ?_) | (refine wpList_store_row rfl 30 _ _ rfl (w.heap.size + 1) (Value.bool true :: Value.int IntKind.i64 id :: Value.slice none 0 0 :: (pl.toList ++ [Value.bool true])).toArray rfl rfl _ _ ((setRow_other _ _ _ _ hga).trans hres7) (by rw [ansSize, HSZ.out]) (by rw [HSZ.out]; rfl) HONE.out ?_))
  refine bodyPost_ret (v := .agg (Value.bool true :: Value.int IntKind.i64 id :: Value.slice none 0 0 :: (pl.toList ++ [Value.bool true])).toArray) ?_ rfl ⟨by rw [HEQ.out], ?_⟩
  · exact results_ans (fn := Try.f31) (p := 2) rfl _ _ (w.heap.size + 1) _ HSZ.out rfl (setRow_heap _ _ _ _ _ _ ((setRow_other _ _ _ _ hga).trans hres7))
  · exact below_setRow (below_setRow HB7.out (by omega) _) (by omega) _
end Go.Proofs.Ytbgbeohiafiacaa.Sched

namespace Go.Proofs.Ytbgbeohiafiacaa.Cron
open Go Go.RowKit Go.Proofs.YtbgbeohiafiacaaW.PrintWords Go.Proofs.YtbgbeohiafiacaaW.PrintLast Go.Proofs.Ytbgbeohiafiacaa.Cal Go.Proofs.Ytbgbeohiafiacaa.Pr
open Go.Proofs.Ytbgbeohiafiacaa.Sched (wpList_store_at)
set_option linter.unusedVariables false
set_option linter.unusedSimpArgs false

def bitsK (S : Sets) : Nat → Nat | 0 => S.sec | 1 => S.min | 2 => S.hour | 3 => S.dom | 4 => S.month | _ => S.dow
def loF : Nat → Nat | 3 => 1 | 4 => 1 | _ => 0
def hiF : Nat → Nat | 0 => 59 | 1 => 59 | 2 => 23 | 3 => 31 | 4 => 12 | _ => 6
def memB (lo hi b : Nat) : Nat → Bool := fun v => decide (lo ≤ v) && (decide (v ≤ hi) && b.testBit v)
theorem low_f (k : Nat) (hk : k < 6) : spec_CronLow.f (k : Int) = some (loF k : Int) := by
  match k, hk with
  | 0, _ | 1, _ | 2, _ | 3, _ | 4, _ | 5, _ => decide
theorem high_f (k : Nat) (hk : k < 6) : spec_CronHigh.f (k : Int) = some (hiF k : Int) := by
  match k, hk with
  | 0, _ | 1, _ | 2, _ | 3, _ | 4, _ | 5, _ => decide

theorem drawn_below {w w' : World} (h : Drawn0 w w') : Below w.heap.size w w' := by
  first
    | exact h
    | (obtain ⟨n, rfl⟩ := h; exact pw_below_drewN (Below.refl _ _) n)
theorem shr_bit {b : Nat} (hb : b < 2 ^ 64) (v : Nat) : (bits .and .u64 ((b : Int) / 2 ^ v) 1 == 1) = b.testBit v := by
  have e : ((b : Int) / 2 ^ v) = ((b / 2 ^ v : Nat) : Int) := by push_cast; rfl
  have hl : b / 2 ^ v < 2 ^ 64 := Nat.lt_of_le_of_lt (Nat.div_le_self _ _) hb
  rw [e, show (1 : Int) = ((1 : Nat) : Int) from rfl, and_u64 hl (by omega), Nat.and_one_is_mod, Nat.testBit_eq_decide_div_mod_eq]
  generalize b / 2 ^ v % 2 = x
  by_cases h : x = 1
  · simp [h]
  · simp only [h, decide_false, beq_eq_false_iff_ne]
    omega
theorem star_ne {b : Nat} (hb : b < 2 ^ 64) : (bits .and .u64 (b : Int) 9223372036854775808 != 0) = inB b 63 := by
  have := and_u64 hb (show 2 ^ 63 < 2 ^ 64 by omega)
  rw [show ((2 ^ 63 : Nat) : Int) = 9223372036854775808 from rfl, Nat.and_comm, pow_and] at this
  rw [this]
  unfold inB
  rw [show (63 : Int).toNat = 63 from rfl]
  cases h : b.testBit 63 <;> simp
theorem lit64 : (#[.bool false, .bool false, .bool false, .bool false, .bool false, .bool false, .bool false, .bool false, .bool false, .bool false, .bool false, .bool false, .bool false, .bool false, .bool false, .bool false, .bool false, .bool false, .bool false, .bool false, .bool false, .bool false, .bool false, .bool false, .bool false, .bool false, .bool false, .bool false, .bool false, .bool false, .bool false, .bool false, .bool false, .bool false, .bool false, .bool false, .bool false, .bool false, .bool false, .bool false, .bool false, .bool false, .bool false, .bool false, .bool false, .bool false, .bool false, .bool false, .bool false, .bool false, .bool false, .bool false, .bool false, .bool false, .bool false, .bool false, .bool false, .bool false, .bool false, .bool false, .bool false, .bool false, .bool false, .bool false] : Array Value) = setCells false noSet := by kernel_rfl
theorem setCells2 (w : World) : IsSet ((w.alloc (.cells (setCells false noSet) 48)).alloc (.cells (setCells false noSet) 48)) (w.heap.size + 1) false noSet := heap_two w _ _

set_option maxRecDepth 100000 in
set_option maxHeartbeats 4000000 in
theorem setOf_any (k b : Nat) (hk : k < 6) (hb : b < 2 ^ 64) (w : World) :
    Calls Try.prog 42 #[.int .i64 k, .int .u64 b] w fun e w' => e = .returned (.agg (setCells (inB b 63) (memB (loF k) (hiF k) b))) ∧ Below w.heap.size w w' := by
  have HL : Hid (∀ w' : World, Calls Try.prog 65 #[.int .i64 k] w' fun e w2 => e = .returned (.int .i64 (loF k : Nat)) ∧ Below w'.heap.size w' w2) := Lib.hid (fun w' => (spec_CronLow.calls k (loF k) w' (low_f k hk)).mono (fun _ _ h => ⟨h.1, drawn_below h.2⟩))
  have HH : Hid (∀ w' : World, Calls Try.prog 45 #[.int .i64 k] w' fun e w2 => e = .returned (.int .i64 (hiF k : Nat)) ∧ Below w'.heap.size w' w2) := Lib.hid (fun w' => (spec_CronHigh.calls k (hiF k) w' (high_f k hk)).mono (fun _ _ h => ⟨h.1, drawn_below h.2⟩))
  have hlo : loF k ≤ 1 := by match k, hk with | 0, _ | 1, _ | 2, _ | 3, _ | 4, _ | 5, _ => decide
  have hhi : hiF k ≤ 59 ∧ 6 ≤ hiF k := by match k, hk with | 0, _ | 1, _ | 2, _ | 3, _ | 4, _ | 5, _ => decide
  generalize loF k = lo at *
  generalize hiF k = hi at *
  have hal := run_alloc_set
  go_enter Try.func42, Try.ntmps42
  go_wp2_with fail
  refine (HL.out _).mono ?_
  rintro e w1 ⟨rfl, hb1⟩
  rw [lit64] at hb1
  have HS5 := Lib.hid ((setCells2 w).below hb1)
  have HS4 := Lib.hid (((isSet_new w false noSet).below ((Below.refl _ _).alloc (Nat.le_refl _) (.cells (setCells false noSet) 48))).below hb1)
  have HB1 := Lib.hid (below_le (((Below.refl w.heap.size w).alloc (Nat.le_refl _) _).alloc (by simp) _) hb1)
  clear hb1
  go_wp2_with fail
  go_loopw [6] (fun v6 wr => ∃ v : Nat, v6 = .int .i64 v ∧ lo ≤ v ∧ v ≤ hi + 1 ∧ Hid (IsSet wr (w.heap.size + 1) false (fun i => decide (i < v) && memB lo hi b i)) ∧ Hid (IsSet wr w.heap.size false noSet) ∧ Below w.heap.size w wr) (fun v6 _ => hi + 1 - (intOf v6).toNat)
  case atStart => exact ⟨lo, rfl, by omega, by omega, Lib.hid (by
    have e : setCells false noSet = setCells false (fun i => decide (i < lo) && memB lo hi b i) := setCells_ext (fun j _ => by unfold noSet memB; by_cases h : j < lo <;> simp [h] <;> omega)
    have := HS5.out
    unfold IsSet at *
    rw [← e]
    exact this), HS4, HB1.out⟩
  case round =>
    obtain ⟨v, rfl, hv0, hv1, HS, HS0, hbr⟩ := hrel
    clear HS5 HS4 HB1
    go_wp2_with fail
    refine (HH.out _).mono ?_
    rintro e w2 ⟨rfl, hb2⟩
    have HSb := Lib.hid (HS.out.below hb2)
    have HS0b := Lib.hid (HS0.out.below hb2)
    have hbr2 := below_le hbr hb2
    by_cases hvh : v ≤ hi
    · have hd : decide ((v : Int) ≤ hi) = true := decide_eq_true (by omega)
      have hv63 : (v : Int) < 63 := by omega
      have hvp : (0 : Int) ≤ v := by omega
      have hc := HSb.out.cellAt v (by omega)
      have hfz := HSb.out.free (v + 1)
      have hc' : w2.cell? ⟨w.heap.size + 1, 1 + v, none⟩ = some (.bool (decide (v < v) && memB lo hi b v)) := by rw [Nat.add_comm 1 v]; exact hc
      have hfz' : w2.frozen? ⟨w.heap.size + 1, 1 + v, none⟩ = false := by rw [Nat.add_comm 1 v]; exact hfz
      go_wp2_with fail
      rw [shr_bit hb, Nat.add_comm 1 v]
      refine ⟨⟨v + 1, by push_cast; rfl, by omega, by omega, Lib.hid ?_, Lib.hid (HS0b.out.other (by show w.heap.size ≠ w.heap.size + 1; omega) _), hbr2.setCell (by show w.heap.size ≤ w.heap.size + 1; omega) _⟩, by simp [intOf]; omega⟩
      have := HSb.out.put v (by omega) (b.testBit v)
      have e := setCells_ext (star := false) (p := fun i => if i = v then b.testBit v else decide (i < v) && memB lo hi b i) (q := fun i => decide (i < v + 1) && memB lo hi b i) (fun j _ => by
        show (if j = v then b.testBit v else decide (j < v) && memB lo hi b j) = (decide (j < v + 1) && memB lo hi b j)
        by_cases hj : j = v
        · subst hj
          rw [if_pos rfl]
          unfold memB
          simp [hv0, hvh]
        · rw [if_neg hj]
          by_cases h2 : j < v
          · simp [h2, show j < v + 1 by omega]
          · simp [h2, show ¬ j < v + 1 by omega])
      unfold IsSet at *
      rw [← e]
      exact this
    · have hd : decide ((v : Int) ≤ hi) = false := decide_eq_false (by omega)
      obtain rfl : v = hi + 1 := by omega
      have hc := HSb.out.cell0
      have hfz := HSb.out.free 0
      have hsn := star_ne hb
      have HP := Lib.hid (HSb.out.putStar (inB b 63))
      have HP0 := Lib.hid (HS0b.out.other (a := ⟨w.heap.size + 1, 0, none⟩) (by show w.heap.size ≠ w.heap.size + 1; omega) (.bool (inB b 63)))
      go_wp2_with (first | (refine wpList_load_set rfl _ rfl (w.heap.size + 1) (inB b 63) _ rfl HP.out ?_) | (refine wpList_store_set rfl _ _ rfl w.heap.size (inB b 63) _ rfl rfl false noSet HP0.out ?_))
      have e := setCells_ext (star := inB b 63) (p := fun i => decide (i < hi + 1) && memB lo hi b i) (q := memB lo hi b) (fun j _ => by
        show (decide (j < hi + 1) && memB lo hi b j) = memB lo hi b j
        by_cases h : j < hi + 1
        · simp [h]
        · unfold memB
          simp [h, show ¬ j ≤ hi by omega])
      rw [e]
      refine bodyPost_ret (v := .agg (setCells (inB b 63) (memB lo hi b))) ?_ rfl ⟨rfl, ?_⟩
      · exact results_cell_row (fn := Try.f42) (p := 4) rfl _ _ w.heap.size _ _ _ _ rfl (setRow_heap _ _ _ _ _ _ HP0.out) Try.underlying48 rfl (by rw [setSize, setCells_size])
      · exact below_setRow (hbr2.setCell (by show w.heap.size ≤ w.heap.size + 1; omega) _) (Nat.le_refl _) _

/-! ### The six fields -/
def setK (S : Sets) (k : Nat) : Array Value := setCells (inB (bitsK S k) 63) (memB (loF k) (hiF k) (bitsK S k))
def rowsK (S : Sets) (j : Nat) : List Value := (List.range j).flatMap fun k => (setK S k).toList
/-- the reference's fields: three hundred and eighty-four cells -/
def fieldsC (S : Sets) : Array Value := (rowsK S 6).toArray
theorem rowsK_len (S : Sets) : ∀ j, (rowsK S j).length = j * 64
  | 0 => rfl
  | j + 1 => by
    have := rowsK_len S j
    unfold rowsK at this ⊢
    rw [List.range_succ, List.flatMap_append, List.length_append, this]
    simp [setK, setCells_size]
    omega
theorem rowsK_succ (S : Sets) (j : Nat) : rowsK S (j + 1) = rowsK S j ++ (setK S j).toList := by
  unfold rowsK
  rw [List.range_succ, List.flatMap_append]
  simp
theorem fieldsC_size (S : Sets) : (fieldsC S).size = 384 := by unfold fieldsC; simp [rowsK_len]
theorem rowsK_at (S : Sets) : ∀ (n k t : Nat), k < n → t < 64 → (rowsK S n)[k * 64 + t]? = (setK S k)[t]?
  | 0, k, t, h, _ => absurd h (by omega)
  | n + 1, k, t, h, ht => by
    have hl := rowsK_len S n
    rw [rowsK_succ]
    by_cases hm : k < n
    · rw [List.getElem?_append_left (by rw [hl]; omega)]
      exact rowsK_at S n k t hm ht
    · obtain rfl : k = n := by omega
      rw [List.getElem?_append_right (by rw [hl]; omega), hl, show k * 64 + t - k * 64 = t by omega]
      simp
theorem fieldsC_star (S : Sets) (k : Nat) (hk : k < 6) : (fieldsC S)[k * 64]? = some (.bool (inB (bitsK S k) 63)) := by
  have := rowsK_at S 6 k 0 hk (by omega)
  rw [Nat.add_zero] at this
  unfold fieldsC
  rw [List.getElem?_toArray, this]
  exact setCells_zero _ _
theorem fieldsC_at (S : Sets) (k v : Nat) (hk : k < 6) (hv : v < 63) : (fieldsC S)[k * 64 + (v + 1)]? = some (.bool (memB (loF k) (hiF k) (bitsK S k) v)) := by
  have := rowsK_at S 6 k (v + 1) hk (by omega)
  unfold fieldsC
  rw [List.getElem?_toArray, this]
  exact setCells_at _ _ v hv
theorem fieldsC_one (S : Sets) : (fieldsC S).all (·.oneCell') = true := by
  rw [Array.all_eq_true_iff_forall_mem]
  intro v hv
  unfold fieldsC rowsK at hv
  simp only [List.mem_toArray, List.mem_flatMap] at hv
  obtain ⟨k, _, hv⟩ := hv
  exact (Array.all_eq_true_iff_forall_mem.1 (setCells_one (inB (bitsK S k) 63) (memB (loF k) (hiF k) (bitsK S k)))) v (by simpa [setK] using hv)

theorem zeroC_size : Try.zeroCells50.size = 384 := by kernel_rfl
theorem fieldsSize : (Try.prog.info? 50).map (·.size) = some 384 := by kernel_rfl
/-- the fields that are filled, j of them -/
def fillC (Z : Array Value) (S : Sets) (j : Nat) : Array Value := (rowsK S j ++ Z.toList.drop (j * 64)).toArray
theorem fillC_size (Z : Array Value) (hZ : Z.size = 384) (S : Sets) (j : Nat) (hj : j ≤ 6) : (fillC Z S j).size = 384 := by
  unfold fillC
  simp only [List.size_toArray, List.length_append, rowsK_len, List.length_drop, Array.length_toList, hZ]
  omega
theorem fillC_step (Z : Array Value) (S : Sets) (j : Nat) (hj : j < 6) : ((fillC Z S j).toList.take (j * 64) ++ (setK S j).toList ++ (fillC Z S j).toList.drop (j * 64 + (setK S j).size)).toArray = fillC Z S (j + 1) := by
  have hl := rowsK_len S j
  unfold fillC
  congr 1
  rw [rowsK_succ, show (setK S j).size = 64 from setCells_size _ _]
  show List.take (j * 64) (rowsK S j ++ List.drop (j * 64) Z.toList) ++ (setK S j).toList ++ List.drop (j * 64 + 64) (rowsK S j ++ List.drop (j * 64) Z.toList) = _
  rw [← hl, List.take_left, List.drop_append, List.drop_drop, hl]
  have e1 : List.drop (j * 64 + 64) (rowsK S j) = [] := List.drop_eq_nil_of_le (by rw [hl]; omega)
  rw [e1]
  congr 2
  show List.drop _ _ = _
  congr 1
  omega

set_option maxRecDepth 100000 in
set_option maxHeartbeats 4000000 in
theorem fieldsOf_any (d : Int) (S : Sets) (hS : S.ok) (w : World) :
    Calls Try.prog 18 #[.agg (setsCells d S)] w fun e w' => e = .returned (.agg (fieldsC S)) ∧ Below w.heap.size w w' := by
  have HSO : Hid (∀ (k : Nat) (w' : World), k < 6 → Calls Try.prog 42 #[.int .i64 k, .int .u64 (bitsK S k : Nat)] w' fun e w2 => e = .returned (.agg (setK S k)) ∧ Below w'.heap.size w' w2) := Lib.hid (fun k w' hk => setOf_any k (bitsK S k) hk (by
    obtain ⟨h1, h2, h3, h4, h5, h6⟩ := hS
    match k, hk with
    | 0, _ => exact h1
    | 1, _ => exact h2
    | 2, _ => exact h3
    | 3, _ => exact h4
    | 4, _ => exact h5
    | 5, _ => exact h6) w')
  unfold setsCells
  go_enter Try.func18, Try.ntmps18
  go_wp2_with fail
  have hr3 : Hid ((((w.alloc (.cells #[.bool false, .int .i64 d, .int .u64 (S.sec : Int), .int .u64 (S.min : Int), .int .u64 (S.hour : Int), .int .u64 (S.dom : Int), .int .u64 (S.month : Int), .int .u64 (S.dow : Int)] 27)).alloc (.cells Try.zeroCells50 50)).alloc (.cells Try.zeroCells50 50)).heap[w.heap.size + 1 + 1]? = some (.cells (fillC Try.zeroCells50 S 0) 50 (0, 0))) := Lib.hid (by
    have e : fillC Try.zeroCells50 S 0 = Try.zeroCells50 := by simp [fillC, rowsK]
    rw [e]
    have := heap_two (w.alloc (.cells #[.bool false, .int .i64 d, .int .u64 (S.sec : Int), .int .u64 (S.min : Int), .int .u64 (S.hour : Int), .int .u64 (S.dom : Int), .int .u64 (S.month : Int), .int .u64 (S.dow : Int)] 27)) (.cells Try.zeroCells50 50) (.cells Try.zeroCells50 50)
    simpa using this)
  have hr2 : Hid ((((w.alloc (.cells #[.bool false, .int .i64 d, .int .u64 (S.sec : Int), .int .u64 (S.min : Int), .int .u64 (S.hour : Int), .int .u64 (S.dom : Int), .int .u64 (S.month : Int), .int .u64 (S.dow : Int)] 27)).alloc (.cells Try.zeroCells50 50)).alloc (.cells Try.zeroCells50 50)).heap[w.heap.size + 1]? = some (.cells Try.zeroCells50 50 (0, 0))) := Lib.hid (by
    rw [Below.heap_alloc _ _ _ (by simp)]
    exact heap_two w _ _)
  have hb0 : Below w.heap.size w (((w.alloc (.cells #[.bool false, .int .i64 d, .int .u64 (S.sec : Int), .int .u64 (S.min : Int), .int .u64 (S.hour : Int), .int .u64 (S.dom : Int), .int .u64 (S.month : Int), .int .u64 (S.dow : Int)] 27)).alloc (.cells Try.zeroCells50 50)).alloc (.cells Try.zeroCells50 50)) := ((((Below.refl _ _).alloc (Nat.le_refl _) _).alloc (by simp) _).alloc (by simp; try omega) _)
  go_loopw [19] (fun v19 wr => ∃ j : Nat, v19 = .int .i64 j ∧ j ≤ 6 ∧ Hid (wr.heap[w.heap.size + 1 + 1]? = some (.cells (fillC Try.zeroCells50 S j) 50 (0, 0))) ∧ Hid (wr.heap[w.heap.size + 1]? = some (.cells Try.zeroCells50 50 (0, 0))) ∧ Below w.heap.size w wr) (fun v19 _ => 6 - (intOf v19).toNat)
  case atStart => exact ⟨0, rfl, by omega, hr3, hr2, hb0⟩
  case round =>
    obtain ⟨j, rfl, hj, HR, HR2, hbr⟩ := hrel
    clear hr3 hr2 hb0
    by_cases h6 : j < 6
    · have hix : ∀ w' : World, (Instr.index 92 (.agg #[.int .u64 (S.sec : Int), .int .u64 (S.min : Int), .int .u64 (S.hour : Int), .int .u64 (S.dom : Int), .int .u64 (S.month : Int), .int .u64 (S.dow : Int)]) (.int .i64 (j : Int))).run Try.prog w' = .ok (.int .u64 (bitsK S j : Nat)) w' := by
        intro w'
        match j, h6 with
        | 0, _ | 1, _ | 2, _ | 3, _ | 4, _ | 5, _ => rfl
      have hjl : (j : Int) < 6 := by omega
      have hj0 : (0 : Int) ≤ j := by omega
      have hd : decide ((j : Int) < 6) = true := decide_eq_true hjl
      go_wp2_with fail
      refine (HSO.out j _ h6).mono ?_
      rintro e w2 ⟨rfl, hb2⟩
      have hr := (hb2.block _ (Array.getElem?_eq_some_iff.1 HR.out).1).trans HR.out
      have hr2 := Lib.hid ((hb2.block _ (Array.getElem?_eq_some_iff.1 HR2.out).1).trans HR2.out)
      have hbr2 := below_le hbr hb2
      have HST := Lib.hid (fillC_step Try.zeroCells50 S j h6)
      have HRR := Lib.hid hr
      clear hb2 hr
      go_wp2_with (refine wpList_store_at rfl 48 _ _ rfl (w.heap.size + 1 + 1) (j * 64) (setK S j) rfl rfl 50 _ HRR.out (by rw [setSize]; exact congrArg some (setCells_size _ _).symm) (by rw [fillC_size _ zeroC_size S j (by omega), show (setK S j).size = 64 from setCells_size _ _]; omega) (setCells_one _ _) ?_)
      refine ⟨⟨j + 1, by push_cast; rfl, by omega, Lib.hid ?_, Lib.hid ((setRow_other _ _ _ _ (by omega)).trans hr2.out), below_setRow hbr2 (by omega) _⟩, by simp [intOf]; omega⟩
      rw [← List.append_assoc, HST.out]
      exact setRow_heap _ _ _ _ _ _ HRR.out
    · obtain rfl : j = 6 := by omega
      have e : fillC Try.zeroCells50 S 6 = fieldsC S := by
        unfold fillC fieldsC
        rw [List.drop_eq_nil_of_le (by rw [Array.length_toList, zeroC_size]; decide), List.append_nil]
      have HRE := Lib.hid (HR.out)
      rw [e] at HRE
      go_wp2_with (first | (refine wpList_load_row rfl 50 _ rfl (w.heap.size + 1 + 1) rfl _ _ _ _ HRE.out Try.underlying50 rfl (by rw [fieldsSize, fieldsC_size]) ?_) | (refine wpList_store_row rfl 50 _ _ rfl (w.heap.size + 1) (fieldsC S) rfl rfl 50 _ HR2.out (by rw [fieldsSize, fieldsC_size]) (by rw [fieldsC_size, zeroC_size]) (fieldsC_one S) ?_))
      refine bodyPost_ret (v := .agg (fieldsC S)) ?_ rfl ⟨rfl, ?_⟩
      · exact results_cell_row (fn := Try.f18) (p := 2) rfl _ _ (w.heap.size + 1) _ _ _ _ rfl (setRow_heap _ _ _ _ _ _ HR2.out) Try.underlying50 rfl (by rw [fieldsSize, fieldsC_size])
      · exact below_setRow hbr (by omega) _
end Go.Proofs.Ytbgbeohiafiacaa.Cron

namespace Go.Proofs.Ytbgbeohiafiacaa.Cron
open Go Go.RowKit Go.Proofs.YtbgbeohiafiacaaW.PrintWords Go.Proofs.YtbgbeohiafiacaaW.PrintLast Go.Proofs.Ytbgbeohiafiacaa.Cal Go.Proofs.Ytbgbeohiafiacaa.Pr
set_option linter.unusedVariables false
set_option linter.unusedSimpArgs false

/-- a variable that holds the fields -/
def FieldsAt (w : World) (g : Nat) (S : Sets) : Prop := w.heap[g]? = some (.cells (fieldsC S) 50 (0, 0))
theorem FieldsAt.below {w w' : World} {g : Nat} {S : Sets} (h : FieldsAt w g S) (hb : Below w.heap.size w w') : FieldsAt w' g S := (hb.block g (Array.getElem?_eq_some_iff.1 h).1).trans h
theorem FieldsAt.star {w : World} {g : Nat} {S : Sets} (h : FieldsAt w g S) (k : Nat) (hk : k < 6) : w.cell? ⟨g, k * 64, none⟩ = some (.bool (inB (bitsK S k) 63)) := (cell_of_row _ _ _ _ _ _ h).trans (fieldsC_star S k hk)
theorem FieldsAt.at_ {w : World} {g : Nat} {S : Sets} (h : FieldsAt w g S) (k v : Nat) (hk : k < 6) (hv : v < 63) : w.cell? ⟨g, k * 64 + (v + 1), none⟩ = some (.bool (memB (loF k) (hiF k) (bitsK S k) v)) := (cell_of_row _ _ _ _ _ _ h).trans (fieldsC_at S k v hk hv)
theorem fieldsAt_new (w : World) (S : Sets) : FieldsAt (w.alloc (.cells (fieldsC S) 50)) w.heap.size S := heap_alloc_new w _

theorem eqItems_bool (d : Nat) (w : World) (p q : Nat → Bool) (xs ys : Array Value) : ∀ is : List Nat, (∀ i ∈ is, xs[i]? = some (.bool (p i)) ∧ ys[i]? = some (.bool (q i))) →
    (Op.eqItems (d + 1) 4 1 xs ys is).run Try.prog w = .ok (is.all fun i => p i == q i) w
  | [], _ => by simp [Op.eqItems]
  | i :: is, h => by
    obtain ⟨hx, hy⟩ := h i (by simp)
    have ih := eqItems_bool d w p q xs ys is (fun j hj => h j (by simp [hj]))
    have hp : Try.prog.plainKey 4 = true := by kernel_rfl
    have h1 : (part 4 xs (i * 1)).run Try.prog w = .ok (.bool (p i)) w := run_part_plain w hp (by rw [Nat.mul_one]; exact hx)
    have h2 : (part 4 ys (i * 1)).run Try.prog w = .ok (.bool (q i)) w := run_part_plain w hp (by rw [Nat.mul_one]; exact hy)
    have h3 : (Op.equalIn (d + 1) 4 (.bool (p i)) (.bool (q i))).run Try.prog w = .ok (p i == q i) w := by simp [Op.equalIn, run_underlying Try.underlying4]
    simp only [Op.eqItems, Sem.run_bind, h1, h2, h3, Result.andThen_ok, List.all_cons]
    cases hq : (p i == q i)
    · simp
    · simpa using ih
/-- two arrays of bools are the same -/
def eqB (p q : Nat → Bool) : Bool := (List.range 63).all fun i => p i == q i
theorem eqIn (d : Nat) (w : World) (p q : Nat → Bool) : (Op.equalIn (d + 2) 46 (.agg (inCells p)) (.agg (inCells q))).run Try.prog w = .ok (eqB p q) w := by
  obtain ⟨i, hi⟩ : ∃ i, Try.prog.info? 4 = some i := Option.isSome_iff_exists.1 (by kernel_rfl)
  rw [run_equalIn_array w (d + 1) _ _ Try.underlying46 hi, show Try.prog.cellsOf 4 = 1 by kernel_rfl]
  exact eqItems_bool d w p q _ _ _ (fun j hj => ⟨inCells_at p j (List.mem_range.1 hj), inCells_at q j (List.mem_range.1 hj)⟩)
attribute [local go_sem high] eqIn
theorem run_field_in (w : World) : (Instr.field 48 (.agg (setCells false noSet)) 1).run Try.prog w = .ok (.agg (inCells noSet)) w := by kernel_rfl

/-- of an array of values: it is empty -/
def emptyB (p : Nat → Bool) : Bool := eqB p noSet
set_option maxRecDepth 100000 in
theorem cronEmpty_any (st : Bool) (p : Nat → Bool) (w : World) :
    Calls Try.prog 21 #[.agg (setCells st p)] w fun e w' => e = .returned (.bool (emptyB p)) ∧ Below w.heap.size w w' := by
  have hbx := run_box_set st p
  have HS := Lib.hid (isSet_new w st p)
  go_enter Try.func21, Try.ntmps21
  have hfi := run_field_in
  go_wp2_with (first | (refine wpList_load_in rfl _ rfl w.heap.size st p rfl HS.out ?_) | (refine wpList_build_set rfl rfl ?_))
  go_ret
  exact ⟨rfl, (Below.refl _ _).alloc (Nat.le_refl _) _⟩

set_option maxRecDepth 100000 in
set_option maxHeartbeats 4000000 in
theorem dayFits_any (S : Sets) (y m d wd : Int) (hd0 : 1 ≤ d) (hd1 : d ≤ 31) (hw0 : 0 ≤ wd) (hw1 : wd < 7) (w : World) :
    Calls Try.prog 62 #[.agg (fieldsC S), .agg #[.int .i64 y, .int .i64 m, .int .i64 d], .int .i64 wd] w fun e w' =>
      e = .returned (.bool (if inB S.dom 63 || inB S.dow 63 then inB S.dom d && inB S.dow wd else inB S.dom d || inB S.dow wd)) ∧ Below w.heap.size w w' := by
  obtain ⟨dn, rfl⟩ : ∃ n : Nat, d = n := ⟨d.toNat, by omega⟩
  obtain ⟨wn, rfl⟩ : ∃ n : Nat, wd = n := ⟨wd.toNat, by omega⟩
  go_enter Try.func62, Try.ntmps62
  go_upto_region 1 with fail
  generalize hW : World.alloc (World.alloc w _) _ = wo
  have hf : FieldsAt wo w.heap.size S := by rw [← hW]; exact (((Below.refl _ _).alloc (Nat.le_refl _) _).block w.heap.size (by simp)).trans (fieldsAt_new w S)
  have hdr : wo.heap[w.heap.size + 1]? = some (.cells #[.int .i64 y, .int .i64 m, .int .i64 (dn : Int)] 85 (0, 0)) := by rw [← hW]; exact heap_two w _ _
  have hB : Below w.heap.size w wo := by rw [← hW]; exact ((Below.refl _ _).alloc (Nat.le_refl _) _).alloc (by simp) _
  clear hW
  have k1 : wo.cell? ⟨w.heap.size + 1, 2, none⟩ = some (.int .i64 (dn : Int)) := cell_of_row _ _ _ _ _ _ hdr
  have k2 : wo.cell? ⟨w.heap.size, 193 + dn, none⟩ = some (.bool (inB S.dom (dn : Int))) := by
    have := hf.at_ 3 dn (by omega) (by omega)
    rw [show 3 * 64 + (dn + 1) = 193 + dn by omega] at this
    rw [this]
    unfold memB inB bitsK loF hiF
    simp [show 1 ≤ dn by omega, show dn ≤ 31 by omega]
  have k3 : wo.cell? ⟨w.heap.size, 321 + wn, none⟩ = some (.bool (inB S.dow (wn : Int))) := by
    have := hf.at_ 5 wn (by omega) (by omega)
    rw [show 5 * 64 + (wn + 1) = 321 + wn by omega] at this
    rw [this]
    unfold memB inB bitsK loF hiF
    simp [show wn ≤ 6 by omega]
  have k4 : wo.cell? ⟨w.heap.size, 192, none⟩ = some (.bool (inB S.dom 63)) := hf.star 3 (by omega)
  have k5 : wo.cell? ⟨w.heap.size, 320, none⟩ = some (.bool (inB S.dow 63)) := hf.star 5 (by omega)
  have b1 : (dn : Int) < 63 := by omega
  have b2 : (0 : Int) ≤ dn := by omega
  have b3 : (wn : Int) < 63 := by omega
  have b4 : (0 : Int) ≤ wn := by omega
  clear hf hdr
  refine start_ (n := 13) (S := fun w' => w'.cell? ⟨w.heap.size + 1, 2, none⟩ = some (.int .i64 (dn : Int)) ∧ w'.cell? ⟨w.heap.size, 193 + dn, none⟩ = some (.bool (inB S.dom (dn : Int))) ∧ w'.cell? ⟨w.heap.size, 321 + wn, none⟩ = some (.bool (inB S.dow (wn : Int))) ∧ w'.cell? ⟨w.heap.size, 192, none⟩ = some (.bool (inB S.dom 63)) ∧ w'.cell? ⟨w.heap.size, 320, none⟩ = some (.bool (inB S.dow 63)) ∧ Below w.heap.size w w') (ds := []) #[false, false, false, false, false, false, false, false, false, false, false, false, false] (by kernel_rfl) rfl rfl ⟨k1, k2, k3, k4, k5, hB.drew⟩ (fun hHeld => ?_)
  refine pure_ (i := 0) (N := some 9) (v := ?_) (a' := ?_) #[true, false, false, false, false, false, false, false, false, false, false, false, false] rfl rfl (by kernel_rfl) (fun _ _ _ h => h) (Or.inl ⟨by rfl, ?_⟩) ?_ ?_
  rotate_left
  · intro w'
    go_simp
    with_reducible rfl
  rotate_left
  · simp only [Act.put, List.setIfInBounds_toArray, List.set_cons_zero, List.set_cons_succ, i64_w, i32_w]
    rfl
  refine pure_ (i := 2) (N := some 11) (v := ?_) (a' := ?_) #[true, false, true, false, false, false, false, false, false, false, false, false, false] rfl rfl (by kernel_rfl) (fun _ _ _ h => h) (Or.inl ⟨by rfl, ?_⟩) ?_ ?_
  rotate_left
  · intro w'
    go_simp
    with_reducible rfl
  rotate_left
  · simp only [Act.put, List.setIfInBounds_toArray, List.set_cons_zero, List.set_cons_succ, i64_w, i32_w]
    rfl
  refine pure_ (i := 3) (N := some 12) (v := ?_) (a' := ?_) #[true, false, true, true, false, false, false, false, false, false, false, false, false] rfl rfl (by kernel_rfl) (fun _ _ _ h => h) (Or.inl ⟨by rfl, ?_⟩) ?_ ?_
  rotate_left
  · intro w'
    go_simp
    with_reducible rfl
  rotate_left
  · simp only [Act.put, List.setIfInBounds_toArray, List.set_cons_zero, List.set_cons_succ, i64_w, i32_w]
    rfl
  refine pure_ (i := 6) (N := some 15) (v := ?_) (a' := ?_) #[true, false, true, true, false, false, true, false, false, false, false, false, false] rfl rfl (by kernel_rfl) (fun _ _ _ h => h) (Or.inl ⟨by rfl, ?_⟩) ?_ ?_
  rotate_left
  · intro w'
    go_simp
    with_reducible rfl
  rotate_left
  · simp only [Act.put, List.setIfInBounds_toArray, List.set_cons_zero, List.set_cons_succ, i64_w, i32_w]
    rfl
  refine pure_ (i := 7) (N := some 16) (v := ?_) (a' := ?_) #[true, false, true, true, false, false, true, true, false, false, false, false, false] rfl rfl (by kernel_rfl) (fun _ _ _ h => h) (Or.inl ⟨by rfl, ?_⟩) ?_ ?_
  rotate_left
  · intro w'
    go_simp
    with_reducible rfl
  rotate_left
  · simp only [Act.put, List.setIfInBounds_toArray, List.set_cons_zero, List.set_cons_succ, i64_w, i32_w]
    rfl
  refine pure_ (i := 8) (N := some 17) (v := ?_) (a' := ?_) #[true, false, true, true, false, false, true, true, true, false, false, false, false] rfl rfl (by kernel_rfl) (fun _ _ _ h => h) (Or.inl ⟨by rfl, ?_⟩) ?_ ?_
  rotate_left
  · intro w'
    go_simp
    with_reducible rfl
  rotate_left
  · simp only [Act.put, List.setIfInBounds_toArray, List.set_cons_zero, List.set_cons_succ, i64_w, i32_w]
    rfl
  refine pure_ (i := 9) (N := some 18) (v := ?_) (a' := ?_) #[true, false, true, true, false, false, true, true, true, true, false, false, false] rfl rfl (by kernel_rfl) (fun _ _ _ h => h) (Or.inl ⟨by rfl, ?_⟩) ?_ ?_
  rotate_left
  · intro w'
    go_simp
    with_reducible rfl
  rotate_left
  · simp only [Act.put, List.setIfInBounds_toArray, List.set_cons_zero, List.set_cons_succ, i64_w, i32_w]
    rfl
  refine take_ (i := 1) (N := some 10) (v := ?_) (a' := ?_) #[true, true, true, true, false, false, true, true, true, true, false, false, false] rfl rfl (by kernel_rfl) (fun _ _ _ h => h) (Or.inl ⟨by rfl, ?_⟩) hHeld ?_ ?_
  rotate_left
  · rintro w' ⟨s0, s1, s2, s3, s4, s5⟩
    go_simp
    with_reducible rfl
  rotate_left
  · simp only [Act.put, List.setIfInBounds_toArray, List.set_cons_zero, List.set_cons_succ, i64_w, i32_w]
    rfl
  refine pure_ (i := 4) (N := some 13) (v := ?_) (a' := ?_) #[true, true, true, true, true, false, true, true, true, true, false, false, false] rfl rfl (by kernel_rfl) (fun _ _ _ h => h) (Or.inl ⟨by rfl, ?_⟩) ?_ ?_
  rotate_left
  · intro w'
    go_simp
    with_reducible rfl
  rotate_left
  · simp only [Act.put, List.setIfInBounds_toArray, List.set_cons_zero, List.set_cons_succ, i64_w, i32_w]
    rfl
  refine take_ (i := 5) (N := some 14) (v := ?_) (a' := ?_) #[true, true, true, true, true, true, true, true, true, true, false, false, false] rfl rfl (by kernel_rfl) (fun _ _ _ h => h) (Or.inl ⟨by rfl, ?_⟩) hHeld ?_ ?_
  rotate_left
  · rintro w' ⟨s0, s1, s2, s3, s4, s5⟩
    go_simp
    with_reducible rfl
  rotate_left
  · simp only [Act.put, List.setIfInBounds_toArray, List.set_cons_zero, List.set_cons_succ, i64_w, i32_w]
    rfl
  refine pure_ (i := 11) (N := some 7) (v := ?_) (a' := ?_) #[true, true, true, true, true, true, true, true, true, true, false, true, false] rfl rfl (by kernel_rfl) (fun _ _ _ h => h) (Or.inl ⟨by rfl, ?_⟩) ?_ ?_
  rotate_left
  · intro w'
    go_simp
    with_reducible rfl
  rotate_left
  · simp only [Act.put, List.setIfInBounds_toArray, List.set_cons_zero, List.set_cons_succ, i64_w, i32_w]
    rfl
  refine take_ (i := 10) (N := some 19) (v := ?_) (a' := ?_) #[true, true, true, true, true, true, true, true, true, true, true, true, false] rfl rfl (by kernel_rfl) (fun _ _ _ h => h) (Or.inl ⟨by rfl, ?_⟩) hHeld ?_ ?_
  rotate_left
  · rintro w' ⟨s0, s1, s2, s3, s4, s5⟩
    go_simp
    with_reducible rfl
  rotate_left
  · simp only [Act.put, List.setIfInBounds_toArray, List.set_cons_zero, List.set_cons_succ, i64_w, i32_w]
    rfl
  refine pure_ (i := 12) (N := some 8) (v := ?_) (a' := ?_) #[true, true, true, true, true, true, true, true, true, true, true, true, true] rfl rfl (by kernel_rfl) (fun _ _ _ h => h) (Or.inl ⟨by rfl, ?_⟩) ?_ ?_
  rotate_left
  · intro w'
    go_simp
    with_reducible rfl
  rotate_left
  · simp only [Act.put, List.setIfInBounds_toArray, List.set_cons_zero, List.set_cons_succ, i64_w, i32_w]
    rfl
  refine done_ (by kernel_rfl) ?_
  obtain ⟨-, -, -, k4, k5, hB2⟩ := hHeld
  clear k1 k2 k3
  cases h3 : inB S.dom 63 <;> cases h4 : inB S.dow 63 <;> rw [h3] at k4 <;> rw [h4] at k5 <;> cases h1 : inB S.dom (dn : Int) <;> cases h2 : inB S.dow (wn : Int)
  all_goals
    go_wp2_with fail
    all_goals
      go_ret
      exact ⟨by simp [h1, h2, h3, h4], hB2⟩
end Go.Proofs.Ytbgbeohiafiacaa.Cron
