/- Lemmas and walks on the way to the law, merged by wip/tools/pack.py: CronSix, Meaning, MeanC, CronSixV, PlainSays, DurE. Conditions: none. -/
import Derived.Test.YtmecbmgfacpecaaGreatDoorGrK
import Derived.Test.YtmecbmgfacpecaaGreatDoorGrI
set_option linter.unusedVariables false
set_option linter.unusedSimpArgs false
namespace Go.Proofs.YtmecbmgfacpecaaGreatDoor.Cron
open Go Go.RowKit Go.Proofs.YtmecbmgfacpecaaGreatDoor.Text Go.Proofs.YtmecbmgfacpecaaGreatDoor.Bits Go.Proofs.YtmecbmgfacpecaaGreatDoorW.PrintWords Go.Proofs.YtmecbmgfacpecaaGreatDoorW.PrintLast Go.Proofs.YtmecbmgfacpecaaGreatDoorW.PrintMore Go.Proofs.YtmecbmgfacpecaaGreatDoor.Pr
def RowN (w : World) (g : Nat) (T : TypeId) (n : Nat) : Prop := ∃ cs : Array Value, w.heap[g]? = some (.cells cs T (0, 0)) ∧ cs.size = n ∧ cs.all (·.oneCell') = true
theorem RowN.lt {w : World} {g : Nat} {T : TypeId} {n : Nat} (h : RowN w g T n) : g < w.heap.size := by
 obtain ⟨cs, h1, _⟩ := h;exact (Array.getElem?_eq_some_iff.1 h1).1
theorem RowN.below {w w' : World} {g : Nat} {T : TypeId} {n : Nat} (h : RowN w g T n) (hb : Below w.heap.size w w') : RowN w' g T n := by
 have hl := h.lt;obtain ⟨cs, h1, h2⟩ := h;exact ⟨cs, (hb.block g hl).trans h1, h2⟩
noncomputable def zeroF : Array Value := (Tryz.prog.built 88 []).getD #[]
theorem builtF : Tryz.prog.built 88 [] = some zeroF := by kernel_rfl
theorem zeroF_size : zeroF.size = 384 := by kernel_rfl
theorem zeroF_one : zeroF.all (·.oneCell') = true := by kernel_rfl
theorem sizeF : (Tryz.prog.info? 88).map (·.size) = some 384 := by kernel_rfl
theorem run_alloc_F (w : World) : (Instr.alloc 88 true (.tuple #[])).run Tryz.prog w = .ok (.pointer (some ⟨w.heap.size, 0, none⟩)) (w.alloc (.cells zeroF 88 (0, 0))) := by kernel_rfl
theorem zeroF_row (w : World) : RowN (w.alloc (.cells zeroF 88 (0, 0))) w.heap.size 88 384 := ⟨zeroF, heap_alloc_new w _, zeroF_size, zeroF_one⟩
section
variable {P : Program}
theorem run_storeVar_at (w : World) (g o : Nat) (t ty : TypeId) (cur cells : Array Value) (hg : w.heap[g]? = some (.cells cur t (0, 0))) (hfit : o + cells.size ≤ cur.size) (hi : (P.info? ty).map (·.size) = some cells.size)
  (h1 : cells.all (·.oneCell') = true) :
  (storeVar ty ⟨g, o, none⟩ (.agg cells)).run P w = .ok () (w.setRow g (cur.toList.take o ++ cells.toList ++ cur.toList.drop (o + cells.size)).toArray) := by
 have := run_storeCells_at P g o t cells.toList 0 cur w hg (by simpa using hfit) (fun v hv => (Array.all_eq_true_iff_forall_mem.1 h1) v (by simpa using hv));cases hq : P.info? ty with
 | none => simp [hq] at hi
 | some i =>
  have hs : cells.size = i.size := by simp [hq] at hi; omega
  simp only [Nat.add_zero, Array.length_toList] at this;simp [storeVar, sizeOf, typeInfo, hq, Value.cells, hs];rw [← hs];simpa [List.append_assoc] using this
theorem wp_store_at {o : Oper} {a : Act} {w : World} {K : Act → World → Prop} {Q : Exit → Act → World → Prop} (ty : TypeId) (x y : Operand) (ho : o.op = .store ty x y)
  (g of : Nat) (cells : Array Value) (hx : a.eval x = .pointer (some ⟨g, of, none⟩)) (hy : a.eval y = .agg cells)
  (t : TypeId) (cur : Array Value) (hg : w.heap[g]? = some (.cells cur t (0, 0))) (hi : (P.info? ty).map (·.size) = some cells.size)
  (hfit : of + cells.size ≤ cur.size) (h1 : cells.all (·.oneCell') = true)
  (h : K (a.put o.dst undef) (w.setRow g (cur.toList.take of ++ cells.toList ++ cur.toList.drop (of + cells.size)).toArray)) : o.wp P a w K Q := by
 unfold Oper.wp execOp;simp only [ho, hx, hy, Instr.storeAt, Instr.sureAddr, Sem.run_bind, Sem.run_pure, Result.andThen_ok, run_storeVar_at w g of t ty cur cells hg hfit hi h1];exact h
end
theorem row_at {w : World} {g o n : Nat} {T : TypeId} {cur cells : Array Value} (hg : w.heap[g]? = some (.cells cur T (0, 0))) (hn : cur.size = n) (h1 : cur.all (·.oneCell') = true) (hfit : o + cells.size ≤ cur.size) (h2 : cells.all (·.oneCell') = true) :
  RowN (w.setRow g (cur.toList.take o ++ cells.toList ++ cur.toList.drop (o + cells.size)).toArray) g T n := by
 refine ⟨_, setRow_heap w g _ _ _ _ hg, ?_, ?_⟩
 ·simp;omega
 ·rw [Array.all_eq_true_iff_forall_mem] at h1 h2 ⊢
  intro v hv;simp only [List.mem_toArray, List.mem_append] at hv;rcases hv with (hv | hv) | hv
  ·exact h1 v (by simpa using List.mem_of_mem_take hv)
  ·exact h2 v (by simpa using hv)
  ·exact h1 v (by simpa using List.mem_of_mem_drop hv)
theorem RowN.other {w : World} {g k n : Nat} {T : TypeId} (h : RowN w g T n) (hk : g ≠ k) (cs : Array Value) : RowN (w.setRow k cs) g T n := by
 obtain ⟨c, h1, h2⟩ := h;exact ⟨c, (setRow_other w k g cs hk).trans h1, h2⟩
theorem results_F {fn : Func} {p u : Tmp} (h : fn.results = #[.cell p 88, .tmp u]) (tmps : Array Value) (w : World) (g : Nat) (cs : Array Value) (hn : cs.size = 384)
  (hp : tmps.getD p undef = .pointer (some ⟨g, 0, none⟩)) (hs : w.heap[g]? = some (.cells cs 88 (0, 0))) :
  (results fn tmps).run Tryz.prog w = .ok (.tuple #[.agg cs, tmps.getD u undef]) w := by
 rw [results_cell_tmp h, hp];simp only [asAddr, Sem.run_pure, Result.andThen_ok, run_loadVar_row w g _ _ _ _ _ hs Tryz.underlying88 rfl (by rw [sizeF, hn])]
section
variable {ops : Array Oper} {rest : List Oper} {o : Oper} {a : Act} {w : World} {Q : Exit → Act → World → Prop}
theorem wpList_build_F (hg : o.guard = none) (ho : o.op = .build 88 #[])
  (h : wpList Tryz.prog ops Q rest (a.put o.dst (.agg zeroF)) w) : wpList Tryz.prog ops Q (o :: rest) a w := by
 have e : ((#[] : Array (Nat × Operand)).map fun (i, x) => (i, a.eval x)).toList = [] := by simp
 refine wpList_build hg 88 #[] ho (by rw [e, builtF]; exact Option.isSome_some) ?_;rw [e, builtF, Option.getD_some];exact h
end
theorem new_of {B : Nat} {wo W : World} (h : Below B wo W) : IsSet (W.alloc (.cells (setCells false noSet) 56 (0, 0))) W.heap.size false noSet := isSet_new W false noSet
theorem exec_alloc_set (ev : Operand → Value) (oi : Oper) (w : World) (ho : oi.op = .alloc 56) :
  (execOp ev oi).run Tryz.prog w = .ok (.value (.pointer (some ⟨w.heap.size, 0, none⟩))) (w.alloc (.cells (setCells false noSet) 56 (0, 0))) := by
 have := run_alloc_set w;unfold execOp;rw [ho];simp only [Sem.run_bind, Sem.run_pure, Result.andThen_ok, this]
theorem exec_load_set (ev : Operand → Value) (oi : Oper) (w : World) (x : Operand) (g : Nat) (st : Bool) (q : Nat → Bool) (ho : oi.op = .load 56 x) (hx : ev x = .pointer (some ⟨g, 0, none⟩)) (hs : IsSet w g st q) :
  (execOp ev oi).run Tryz.prog w = .ok (.value (.agg (setCells st q))) w := by
 have := run_load_set w g st q hs;unfold execOp;simp only [ho, hx, Instr.loadAt, Instr.sureAddr, Sem.run_bind, Sem.run_pure, Result.andThen_ok, this]
section
variable {P : Program}
theorem fold_size (off : Nat) : ∀ (l : List (Value × Nat)) (cells : Array Value), (l.foldl (fun cs (x : Value × Nat) => cs.setIfInBounds (off + x.2) x.1) cells).size = cells.size
 | [], cells => rfl
 | x :: l, cells => by rw [List.foldl_cons, fold_size off l]; simp
theorem fold_one (off : Nat) : ∀ (l : List (Value × Nat)) (cells : Array Value), (∀ x ∈ l, x.1.oneCell' = true) → (∀ v ∈ cells, v.oneCell' = true) → ∀ v ∈ l.foldl (fun cs (x : Value × Nat) => cs.setIfInBounds (off + x.2) x.1) cells, v.oneCell' = true
 | [], cells, _, h => h
 | x :: l, cells, hl, h => by
  rw [List.foldl_cons];refine fold_one off l _ (fun y hy => hl y (List.mem_cons_of_mem _ hy)) fun v hv => ?_
  rw [Array.mem_iff_getElem?] at hv;obtain ⟨i, hi⟩ := hv;rw [Array.getElem?_setIfInBounds] at hi;split at hi
  ·split at hi
   ·cases hi; exact hl x List.mem_cons_self
   ·cases hi
  ·exact h v (Array.mem_iff_getElem?.2 ⟨i, hi⟩)
theorem fill_part {place : Nat → Option (Nat × Nat)} {z : Array Value} {i : Nat} {v0 v : Value} (h : (Instr.fill place z [(i, v0)]).isSome = true) (hs : v.cells.size = v0.cells.size) (hz : z.all (·.oneCell') = true) (hv : v.cells.all (·.oneCell') = true) :
  ∃ r, Instr.fill place z [(i, v)] = some r ∧ r.size = z.size ∧ r.all (·.oneCell') = true := by
 unfold Instr.fill at h ⊢
 cases hp : place i with
 | none => simp [hp] at h
 | some q =>
  obtain ⟨off, size⟩ := q;simp only [hp] at h ⊢
  rw [hs];by_cases hc : (decide (v0.cells.size ≠ size) || decide (off + v0.cells.size > z.size)) = true
  ·simp only [hc, if_true] at h;simp at h
  ·simp only [hc] at h ⊢
   simp only [Bool.false_eq_true, if_false, Instr.fill];refine ⟨_, rfl, ?_, ?_⟩
   ·rw [← Array.foldl_toList];exact fold_size off _ _
   ·rw [← Array.foldl_toList, Array.all_eq_true_iff_forall_mem];rw [Array.all_eq_true_iff_forall_mem] at hz hv
    refine fold_one off _ _ (fun x hx => ?_) hz;rw [Array.toList_zipIdx] at hx;exact hv _ (Array.mem_toList_iff.1 (List.fst_mem_of_mem_zipIdx hx))
theorem built_part {t : TypeId} {i : Nat} {z0 : Array Value} {v0 v : Value} (h0 : P.built t [] = some z0) (hv0 : (P.built t [(i, v0)]).isSome = true) (hs : v.cells.size = v0.cells.size) (hz : z0.all (·.oneCell') = true) (hv : v.cells.all (·.oneCell') = true) :
  ∃ r, P.built t [(i, v)] = some r ∧ r.size = z0.size ∧ r.all (·.oneCell') = true := by
 unfold Program.built at h0 hv0 ⊢
 cases hit : P.info? t with
 | none => simp [hit] at h0
 | some it =>
  cases hu : P.underlying t with
  | none => simp [hit, hu] at h0
  | some d =>
   cases hzz : it.zero with
   | none => cases d <;> simp [hit, hu, hzz] at h0
   | some z =>
    cases d <;> try (simp [hit, hu] at h0; done)
    case array n e =>
     cases hie : P.info? e with
     | none => simp [hit, hu, hzz, hie] at h0
     | some ie =>
      simp only [hit, hu, hzz, hie, Instr.fill, Option.some.injEq] at h0;simp only [hit, hu, hzz, hie] at hv0 ⊢
      subst h0;exact fill_part hv0 hs hz hv
    case struct fields =>
     cases hp : fields.toList.mapM (fun f => (P.info? f.type).map fun i => (f.offset, i.size)) with
     | none => simp [hit, hu, hzz, hp] at h0
     | some places =>
      simp only [hit, hu, hzz, hp, Instr.fill, Option.some.injEq] at h0;simp only [hit, hu, hzz, hp] at hv0 ⊢
      subst h0;exact fill_part hv0 hs hz hv
end
noncomputable def zeroM : Array Value := (Tryz.prog.built 99 []).getD #[]
theorem builtM : Tryz.prog.built 99 [] = some zeroM := by kernel_rfl
theorem zeroM_size : zeroM.size = 387 := by kernel_rfl
theorem zeroM_one : zeroM.all (·.oneCell') = true := by kernel_rfl
theorem sizeM : (Tryz.prog.info? 99).map (·.size) = some 387 := by kernel_rfl
theorem run_alloc_M (w : World) : (Instr.alloc 99 true (.tuple #[])).run Tryz.prog w = .ok (.pointer (some ⟨w.heap.size, 0, none⟩)) (w.alloc (.cells zeroM 99 (0, 0))) := by kernel_rfl
theorem zeroM_row (w : World) : RowN (w.alloc (.cells zeroM 99 (0, 0))) w.heap.size 99 387 := ⟨zeroM, heap_alloc_new w _, zeroM_size, zeroM_one⟩
theorem builtMF0 : (Tryz.prog.built 99 [(2, .agg zeroF)]).isSome = true := by kernel_rfl
set_option maxRecDepth 100000 in
theorem builtMF (cs : Array Value) (hn : cs.size = 384) (h1 : cs.all (·.oneCell') = true) : ∃ r, Tryz.prog.built 99 [(2, .agg cs)] = some r ∧ r.size = 387 ∧ r.all (·.oneCell') = true := by
 obtain ⟨r, h2, h3, h4⟩ := built_part (v := .agg cs) builtM builtMF0 (by show cs.size = zeroF.size; rw [hn, zeroF_size]) zeroM_one h1;exact ⟨r, h2, h3.trans zeroM_size, h4⟩
section
variable {ops : Array Oper} {rest : List Oper} {o : Oper} {a : Act} {w : World} {Q : Exit → Act → World → Prop}
theorem wpList_build_M (hg : o.guard = none) (ho : o.op = .build 99 #[])
  (h : wpList Tryz.prog ops Q rest (a.put o.dst (.agg zeroM)) w) : wpList Tryz.prog ops Q (o :: rest) a w := by
 have e : ((#[] : Array (Nat × Operand)).map fun (i, x) => (i, a.eval x)).toList = [] := by simp
 refine wpList_build hg 99 #[] ho (by rw [e, builtM]; exact Option.isSome_some) ?_;rw [e, builtM, Option.getD_some];exact h
theorem wpList_build_MF (hg : o.guard = none) (x : Operand) (ho : o.op = .build 99 #[(2, x)]) (cs r : Array Value) (hb : Tryz.prog.built 99 [(2, .agg cs)] = some r) (hx : a.eval x = .agg cs)
  (h : wpList Tryz.prog ops Q rest (a.put o.dst (.agg r)) w) : wpList Tryz.prog ops Q (o :: rest) a w := by
 have e : ((#[(2, x)] : Array (Nat × Operand)).map fun (i, x) => (i, a.eval x)).toList = [(2, .agg cs)] := by simp [hx]
 refine wpList_build hg 99 #[(2, x)] ho (by rw [e, hb]; exact Option.isSome_some) ?_;rw [e, hb, Option.getD_some];exact h
end
theorem results_M {fn : Func} {p u : Tmp} (h : fn.results = #[.cell p 99, .tmp u]) (tmps : Array Value) (w : World) (g : Nat) (cs : Array Value) (hn : cs.size = 387)
  (hp : tmps.getD p undef = .pointer (some ⟨g, 0, none⟩)) (hs : w.heap[g]? = some (.cells cs 99 (0, 0))) :
  (results fn tmps).run Tryz.prog w = .ok (.tuple #[.agg cs, tmps.getD u undef]) w := by
 rw [results_cell_tmp h, hp];simp only [asAddr, Sem.run_pure, Result.andThen_ok, run_loadVar_row w g _ _ _ _ _ hs Tryz.underlying99 rfl (by rw [sizeM, hn])]
theorem fillB_mem : ∀ (bs : List Bool) (ds fs : List ByteArray), ∀ x ∈ fillB bs ds fs, x ∈ ds ∨ x ∈ fs
 | [], _, _, x, h => by unfold fillB at h; cases h
 | b :: bs, [], _, x, h => by unfold fillB at h; cases h
 | b :: bs, d :: ds, fs, x, h => by
  unfold fillB at h;cases b with
  | true =>
   cases fs with
   | nil =>
    simp only [if_true] at h;rcases List.mem_cons.1 h with rfl | h
    ·exact .inl List.mem_cons_self
    ·rcases fillB_mem bs ds [] x h with h | h
     ·exact .inl (List.mem_cons_of_mem _ h)
     ·cases h
   | cons f fs =>
    simp only [if_true] at h;rcases List.mem_cons.1 h with rfl | h
    ·exact .inr List.mem_cons_self
    ·rcases fillB_mem bs ds fs x h with h | h
     ·exact .inl (List.mem_cons_of_mem _ h)
     ·exact .inr (List.mem_cons_of_mem _ h)
  | false =>
   simp only [Bool.false_eq_true, if_false] at h;rcases List.mem_cons.1 h with rfl | h
   ·exact .inl List.mem_cons_self
   ·rcases fillB_mem bs ds fs x h with h | h
    ·exact .inl (List.mem_cons_of_mem _ h)
    ·exact .inr h
theorem fillS_small {fs l : List ByteArray} {o : Nat} (h : fillS fs o = some l) (hf : ∀ x ∈ fs, x.size ≤ 4294967296) : ∀ x ∈ l, x.size ≤ 4294967296 := by
 have key : ∀ bs, ∀ x ∈ fillB bs defaultsL fs, x.size ≤ 4294967296 := fun bs x hx => by
  rcases fillB_mem bs _ _ x hx with h | h
  ·simp only [defaultsL, List.mem_cons, List.not_mem_nil, or_false] at h;rcases h with rfl | rfl | rfl | rfl | rfl | rfl <;> decide
  ·exact hf x h
 unfold fillS at h;split at h
 ·cases h; exact key _
 ·split at h
  ·cases h
  ·cases h; exact key _
def WordsAns (s : ByteArray) (w : World) (e : Ending) (w' : World) : Prop :=
 ∃ A c, e = .returned (.slice A (fieldsZ s).length c) ∧ (fieldsZ s).length ≤ c ∧ SliceOf w' A (fieldsZ s) ∧ Kd.C Kd.string w' A (fieldsZ s).length (fieldsZ s) ∧ Below w.heap.size w w'
theorem words_any (s : ByteArray) (hs : s.size ≤ 4294967296) (ha : Ascii s) (w : World) :
  Calls Tryz.prog 23 #[.string s] w (WordsAns s w) := by
 obtain ⟨k, hk⟩ := words_f s hs ha;refine (spec_CronWords.calls k s _ w hk).mono ?_;rintro e w' ⟨v, rfl, hR, hb⟩;obtain ⟨A, c, rfl, hc, hC⟩ := Kd.R_reads hR;refine ⟨A, c, rfl, hc, ?_, hC, hb⟩;by_cases hne : fieldsZ s = []
 ·rw [hne];intro i x hx;simp at hx
 ·obtain ⟨g, n, cap, he, hg, ht⟩ := texts_of_R hR hne;injection he with h1 h2 h3
  intro i x hx;exact ⟨g, h1, ht.lt, ht.at_ i x hx⟩
section
variable {P : Program}
theorem fold_get (off : Nat) : ∀ (l : List Value) (n : Nat) (cells : Array Value) (i : Nat), off + n + l.length ≤ cells.size →
  ((l.zipIdx n).foldl (fun cs (x : Value × Nat) => cs.setIfInBounds (off + x.2) x.1) cells)[i]? = if off + n ≤ i ∧ i < off + n + l.length then l[i - (off + n)]? else cells[i]?
 | [], n, cells, i, h => by
  rw [List.zipIdx_nil, List.foldl_nil, if_neg (by first | (simp; done) | (simp; omega))]
 | v :: l, n, cells, i, h => by
  rw [List.length_cons] at h;rw [List.zipIdx_cons, List.foldl_cons, fold_get off l (n + 1) _ i (by rw [Array.size_setIfInBounds]; omega), List.length_cons];by_cases h1 : i = off + n
  ·subst h1;rw [if_neg (by omega), if_pos (by omega), Array.getElem?_setIfInBounds, if_pos rfl, if_pos (by omega), Nat.sub_self];rfl
  ·by_cases h2 : off + n ≤ i ∧ i < off + n + (l.length + 1)
   ·rw [if_pos (by omega), if_pos h2, show i - (off + n) = i - (off + (n + 1)) + 1 by omega, List.getElem?_cons_succ]
   ·rw [if_neg (by omega), if_neg h2];rw [Array.getElem?_setIfInBounds];dsimp only;rw [if_neg (by omega)]
def Put (z : Array Value) (off : Nat) (v r : Array Value) : Prop := ∀ j, r[j]? = if off ≤ j ∧ j < off + v.size then v[j - off]? else z[j]?
theorem fill_off {place : Nat → Option (Nat × Nat)} {z : Array Value} {i : Nat} {v0 : Value} {r0 : Array Value} (h : Instr.fill place z [(i, v0)] = some r0) :
  ∃ off, off + v0.cells.size ≤ z.size ∧ Put z off v0.cells r0 ∧ ∀ v : Value, v.cells.size = v0.cells.size → ∃ r, Instr.fill place z [(i, v)] = some r ∧ Put z off v.cells r := by
 unfold Instr.fill at h;cases hp : place i with
 | none => simp [hp] at h
 | some q =>
  obtain ⟨off, size⟩ := q;simp only [hp] at h;by_cases hc : (decide (v0.cells.size ≠ size) || decide (off + v0.cells.size > z.size)) = true
  ·simp only [hc, if_true] at h;simp at h
  ·have hle : off + v0.cells.size ≤ z.size := by
    simp only [Bool.or_eq_true, decide_eq_true_eq, not_or] at hc;omega
   have put : ∀ cs : Array Value, off + cs.size ≤ z.size → Put z off cs (cs.zipIdx.foldl (fun cs (x : Value × Nat) => cs.setIfInBounds (off + x.2) x.1) z) := fun cs hcs j => by
    have := fold_get off cs.toList 0 z j (by simpa using hcs);rw [← Array.foldl_toList, Array.toList_zipIdx];simpa using this
   simp only [hc] at h;simp only [Bool.false_eq_true, if_false, Instr.fill, Option.some.injEq] at h;refine ⟨off, hle, ?_, fun v hv => ?_⟩
   ·rw [← h];exact put _ hle
   ·unfold Instr.fill;rw [← hv] at hc;simp only [hp, hc];simp only [Bool.false_eq_true, if_false, Instr.fill];exact ⟨_, rfl, put _ (by omega)⟩
theorem built_off {t : TypeId} {i : Nat} {z0 r0 : Array Value} {v0 : Value} (h0 : P.built t [] = some z0) (hv0 : P.built t [(i, v0)] = some r0) :
  ∃ off, off + v0.cells.size ≤ z0.size ∧ Put z0 off v0.cells r0 ∧ ∀ v : Value, v.cells.size = v0.cells.size → ∃ r, P.built t [(i, v)] = some r ∧ Put z0 off v.cells r := by
 unfold Program.built at h0 hv0 ⊢
 cases hit : P.info? t with
 | none => simp [hit] at h0
 | some it =>
  cases hu : P.underlying t with
  | none => simp [hit, hu] at h0
  | some d =>
   cases hzz : it.zero with
   | none => cases d <;> simp [hit, hu, hzz] at h0
   | some z =>
    cases d <;> try (simp [hit, hu] at h0; done)
    case array n e =>
     cases hie : P.info? e with
     | none => simp [hit, hu, hzz, hie] at h0
     | some ie =>
      simp only [hit, hu, hzz, hie, Instr.fill, Option.some.injEq] at h0;simp only [hit, hu, hzz, hie] at hv0 ⊢
      subst h0;exact fill_off hv0
    case struct fields =>
     cases hp : fields.toList.mapM (fun f => (P.info? f.type).map fun i => (f.offset, i.size)) with
     | none => simp [hit, hu, hzz, hp] at h0
     | some places =>
      simp only [hit, hu, hzz, hp, Instr.fill, Option.some.injEq] at h0;simp only [hit, hu, hzz, hp] at hv0 ⊢
      subst h0;exact fill_off hv0
end
noncomputable def markF : Array Value := zeroF.setIfInBounds 0 (.int .i64 77)
theorem markF_size : markF.size = 384 := by unfold markF; rw [Array.size_setIfInBounds, zeroF_size]
set_option maxRecDepth 100000 in
theorem markF_other : ∀ j : Nat, j ≠ 0 → markF[j]? ≠ some (.int .i64 77) := by
 intro j hj;unfold markF;rw [Array.getElem?_setIfInBounds, if_neg (by omega)];intro h;have := zeroF_one;have hall : zeroF.all (fun v => v matches .bool _) = true := by kernel_rfl
 rw [Array.all_eq_true_iff_forall_mem] at hall;have := hall _ (Array.mem_iff_getElem?.2 ⟨j, h⟩);cases this
noncomputable def markM : Array Value := (Tryz.prog.built 99 [(2, .agg markF)]).getD #[]
set_option maxRecDepth 100000 in
theorem markM_is : Tryz.prog.built 99 [(2, .agg markF)] = some markM := by kernel_rfl
set_option maxRecDepth 100000 in
theorem markM_2 : markM[2]? = some (.int .i64 77) := by kernel_rfl
theorem zeroM_2 : zeroM[2]? = some (.bool false) := by kernel_rfl
theorem zeroM_0 : zeroM[0]? = some (.bool false) := by kernel_rfl
set_option maxRecDepth 100000 in
theorem builtMF2 (cs : Array Value) (hn : cs.size = 384) (h1 : cs.all (·.oneCell') = true) :
  ∃ r, Tryz.prog.built 99 [(2, .agg cs)] = some r ∧ r.size = 387 ∧ r.all (·.oneCell') = true ∧ r[0]? = some (.bool false) ∧ ∀ j, j < 384 → r[2 + j]? = cs[j]? := by
 obtain ⟨r, hr, hsz, hone⟩ := builtMF cs hn h1;obtain ⟨off, hle, hp0, hp⟩ := built_off builtM markM_is;have hm : (Value.agg markF).cells.size = 384 := by show markF.size = 384; exact markF_size
 have h2 := hp0 2;rw [markM_2, zeroM_2, hm] at h2
 have hoff : off = 2 := by
  by_cases hc : off ≤ 2 ∧ 2 < off + 384
  ·rw [if_pos hc] at h2;by_cases h0 : 2 - off = 0
   ·omega
   ·exact absurd h2.symm (markF_other _ h0)
  ·rw [if_neg hc] at h2;cases h2
 subst hoff;obtain ⟨r', hr', hput⟩ := hp (.agg cs) (by rw [hm]; exact hn);rw [hr] at hr';injection hr' with hr'
 subst hr';refine ⟨r, hr, hsz, hone, ?_, fun j hj => ?_⟩
 ·rw [hput 0, if_neg (by omega), zeroM_0]
 ·have hcs : (Value.agg cs).cells = cs := rfl;rw [hput (2 + j), hcs, if_pos (by omega), show 2 + j - 2 = j by omega]
structure IsFields (cs : Array Value) (l : List Nat) : Prop where
 size : cs.size = 384
 one : cs.all (·.oneCell') = true
 at_ : ∀ k, k < 6 → ∃ st p, l.getD k 0 = setBits st p ∧ ∀ t, t < 64 → cs[k * 64 + t]? = (setCells st p)[t]?
def MeanOf (cs : Array Value) (g : Got) : Prop := match g with
 | .bits l => cs[0]? = some (.bool false) ∧ ∃ fs, IsFields fs l ∧ ∀ j, j < 384 → cs[2 + j]? = fs[j]?
 | .delay d => cs[0]? = some (.bool true) ∧ cs[1]? = some (.int .i64 d)
def SaysM (w : World) (r : Option Got) (e : Ending) (w' : World) : Prop :=
 (∃ (cs : Array Value) (v : Int), e = .returned (.tuple #[.agg cs, .int .i64 v]) ∧ cs.size = 387 ∧ cs.all (·.oneCell') = true ∧ (v = 0 ∨ v = 1 ∨ v = 2) ∧ (v = 0 → r = none) ∧ (v = 1 → ∃ g, r = some g ∧ MeanOf cs g)) ∧ Below w.heap.size w w'
def SixT (l : List ByteArray) (k : Nat) (v : Int) : Prop := (v = 0 ∨ v = 1 ∨ v = 2) ∧ (v = 1 → ∀ j, j < k → (bitsAt l j).isSome = true) ∧ (v = 0 → ∃ j, j < k ∧ bitsAt l j = none)
def FieldAt (cs : Array Value) (l : List ByteArray) (j : Nat) : Prop := ∃ st p, bitsAt l j = some (setBits st p) ∧ ∀ t, t < 64 → cs[j * 64 + t]? = (setCells st p)[t]?
def RowF (w : World) (g : Nat) (l : List ByteArray) (k : Nat) (v : Int) : Prop := ∃ cs : Array Value, w.heap[g]? = some (.cells cs 88 (0, 0)) ∧ cs.size = 384 ∧ cs.all (·.oneCell') = true ∧ (v = 1 → ∀ j, j < k → FieldAt cs l j)
theorem RowF.lt {w : World} {g k : Nat} {l : List ByteArray} {v : Int} (h : RowF w g l k v) : g < w.heap.size := by
 obtain ⟨cs, h1, _⟩ := h;exact (Array.getElem?_eq_some_iff.1 h1).1
theorem RowF.below {w w' : World} {g k : Nat} {l : List ByteArray} {v : Int} (h : RowF w g l k v) (hb : Below w.heap.size w w') : RowF w' g l k v := by
 have hl := h.lt;obtain ⟨cs, h1, h2⟩ := h;exact ⟨cs, (hb.block g hl).trans h1, h2⟩
theorem rowF_put {w : World} {g k : Nat} {l : List ByteArray} {v v3 : Int} {cur : Array Value} {st : Bool} {p : Nat → Bool} (hg : w.heap[g]? = some (.cells cur 88 (0, 0))) (hn : cur.size = 384) (h1 : cur.all (·.oneCell') = true) (hk : k < 6)
  (hF : v = 1 → ∀ j, j < k → FieldAt cur l j) (h3 : v3 = 1 → v = 1 ∧ bitsAt l k = some (setBits st p)) :
  RowF (w.setRow g (cur.toList.take (k * 64) ++ (setCells st p).toList ++ cur.toList.drop (k * 64 + (setCells st p).size)).toArray) g l (k + 1) v3 := by
 have hz := setCells_size st p;obtain ⟨cs, e1, e2, e3⟩ := row_at (o := k * 64) (cells := setCells st p) hg hn h1 (by rw [hz, hn]; omega) (setCells_one _ _);have e0 : (w.setRow g (cur.toList.take (k * 64) ++ (setCells st p).toList ++ cur.toList.drop (k * 64 + (setCells st p).size)).toArray).heap[g]? = some (.cells (cur.toList.take (k * 64) ++ (setCells st p).toList ++ cur.toList.drop (k * 64 + (setCells st p).size)).toArray 88 (0, 0)) := setRow_heap _ _ _ _ _ _ hg;rw [e0] at e1;injection e1 with e1
 injection e1 with e1
 refine ⟨_, e0, by rw [e1]; exact e2, by rw [e1]; exact e3, fun hv j hj => ?_⟩;obtain ⟨hv1, hbk⟩ := h3 hv;have hl : cur.toList.length = 384 := by rw [Array.length_toList, hn]
 have hcl : (setCells st p).toList.length = 64 := by rw [Array.length_toList, hz]
 by_cases hjk : j < k
 ·obtain ⟨s2, p2, g1, g2⟩ := hF hv1 j hjk;refine ⟨s2, p2, g1, fun t ht => ?_⟩;rw [← g2 t ht, List.getElem?_toArray, List.append_assoc, List.getElem?_append_left (by rw [List.length_take, hl]; omega), List.getElem?_take_of_lt (by omega), Array.getElem?_toList]
 ·obtain rfl : j = k := by omega
  refine ⟨st, p, hbk, fun t ht => ?_⟩;rw [List.getElem?_toArray, List.append_assoc, List.getElem?_append_right (by rw [List.length_take, hl]; omega), List.length_take, hl, List.getElem?_append_left (by rw [hcl]; omega), show j * 64 + t - min (j * 64) 384 = t by omega, Array.getElem?_toList]
theorem six_none_of {l : List ByteArray} {k : Nat} (hk : k < 6) (h : bitsAt l k = none) : sixS l = none := by
 unfold sixS;match k, hk with
 | 0, _ => rw [h]
 | 1, _ => rw [h]; split <;> first | rfl | (rename_i hh _ _ _ _ _; cases hh) | simp_all
 | 2, _ => rw [h]; split <;> first | rfl | simp_all
 | 3, _ => rw [h]; split <;> first | rfl | simp_all
 | 4, _ => rw [h]; split <;> first | rfl | simp_all
 | 5, _ => rw [h]; split <;> first | rfl | simp_all
theorem six_fields {l : List ByteArray} {cs : Array Value} (hn : cs.size = 384) (h1 : cs.all (·.oneCell') = true) (h : ∀ j, j < 6 → FieldAt cs l j) : ∃ b, sixS l = some b ∧ IsFields cs b := by
 obtain ⟨s0, p0, a0, c0⟩ := h 0 (by omega);obtain ⟨s1, p1, a1, c1⟩ := h 1 (by omega);obtain ⟨s2, p2, a2, c2⟩ := h 2 (by omega);obtain ⟨s3, p3, a3, c3⟩ := h 3 (by omega);obtain ⟨s4, p4, a4, c4⟩ := h 4 (by omega);obtain ⟨s5, p5, a5, c5⟩ := h 5 (by omega);refine ⟨_, six_some a0 a1 a2 a3 a4 a5, hn, h1, fun k hk => ?_⟩;match k, hk with
 | 0, _ => exact ⟨s0, p0, rfl, c0⟩
 | 1, _ => exact ⟨s1, p1, rfl, c1⟩
 | 2, _ => exact ⟨s2, p2, rfl, c2⟩
 | 3, _ => exact ⟨s3, p3, rfl, c3⟩
 | 4, _ => exact ⟨s4, p4, rfl, c4⟩
 | 5, _ => exact ⟨s5, p5, rfl, c5⟩
def SixSays (w : World) (r : Option (List Nat)) (e : Ending) (w' : World) : Prop :=
 (∃ (cs : Array Value) (v : Int), e = .returned (.tuple #[.agg cs, .int .i64 v]) ∧ cs.size = 384 ∧ cs.all (·.oneCell') = true ∧ (v = 0 ∨ v = 1 ∨ v = 2) ∧ (v = 0 → r = none) ∧ (v = 1 → ∃ b, r = some b ∧ IsFields cs b)) ∧ Below w.heap.size w w'
set_option maxRecDepth 100000 in
set_option maxHeartbeats 4000000 in
theorem cronSixV_any (g c : Nat) (l : List ByteArray) (hl : ∀ x ∈ l, x.size ≤ 4294967296) (w : World) (hT : Texts w g 6 c l) :
  Calls Tryz.prog 139 #[.slice (some ⟨g, 0, none⟩) 6 c] w (SixSays w (sixS l)) := by
 have hal := run_alloc_F;have HT := Lib.hid hT;have hlen : l.length = 6 := hT.len.symm;have hgw := hT.lt;have HNO : Hid (∀ j, j < 6 → bitsAt l j = none → sixS l = none) := Lib.hid fun j hj h => six_none_of hj h
 have HSO : Hid (∀ cs : Array Value, cs.size = 384 → cs.all (·.oneCell') = true → (∀ j, j < 6 → FieldAt cs l j) → ∃ b, sixS l = some b ∧ IsFields cs b) := Lib.hid fun cs a b c => six_fields a b c
 generalize sixS l = r6 at *;clear hT;go_enter Tryz.func139, Tryz.ntmps139;go_wp2_with fail
 have HR2 := Lib.hid ((zeroF_row w).below (w' := (w.alloc (.cells zeroF 88)).alloc (.cells zeroF 88)) ((Below.refl _ _).alloc (Nat.le_refl _) _))
 have HR4 : Hid (RowF ((w.alloc (.cells zeroF 88)).alloc (.cells zeroF 88)) (w.heap.size + 1) l 0 1) := Lib.hid ⟨zeroF, by
  have := heap_alloc_new (w.alloc (.cells zeroF 88)) (.cells zeroF 88);rw [show (w.alloc (.cells zeroF 88)).heap.size = w.heap.size + 1 by simp] at this;exact this, zeroF_size, zeroF_one, fun _ j hj => (by omega)⟩
 have HB0 : Hid (Below w.heap.size w ((w.alloc (.cells zeroF 88)).alloc (.cells zeroF 88))) := Lib.hid (((Below.refl _ _).alloc (Nat.le_refl _) _).alloc (by simp) _);go_loopw [5, 9] (fun v5 v9 wr => ∃ (k : Nat) (v : Int), v9 = .int .i64 k ∧ k ≤ 6 ∧ v5 = .int .i64 v ∧ Hid (SixT l k v) ∧ Hid (RowN wr w.heap.size 88 384) ∧ Hid (RowF wr (w.heap.size + 1) l k v) ∧ Below w.heap.size w wr) (fun _ v9 _ => 6 - (intOf v9).toNat)
 case atStart => exact ⟨0, 1, rfl, by omega, rfl, Lib.hid ⟨.inr (.inl rfl), fun _ j hj => (by omega), fun h => (by omega)⟩, HR2, HR4, HB0.out⟩
 case round =>
  obtain ⟨k, v, rfl, hk, rfl, HV, HRA, HRB, hbr⟩ := hrel;clear HR2 HR4 HB0;by_cases h6 : k < 6
  ·have hgx := List.getElem?_eq_getElem (show k < l.length by omega);have hlx := hl _ (List.getElem_mem (show k < l.length by omega));have hgd : l.getD k ⟨#[]⟩ = l[k] := by simp [List.getD, show k < l.length by omega]
   have HBA : Hid (bitsAt l k = fieldS (valK k) (loK k) (hiK k) (l[k]).data.toList) := Lib.hid (by unfold bitsAt; rw [hgd]);generalize l[k] = x at *;have HCF := Lib.hid (fun w' => cronField_any (valK k) k (value_reads k h6) (loK k) (hiK k) x hlx (loK_le k) (hiK_le k) w');have HBO := Lib.hid (fun w' => boundsOf_any k w');have hcx : wr.cell? ⟨g, k, none⟩ = some (.string x) := (HT.out.below hbr).at_ k _ hgx;have hgr : g < wr.heap.size := Nat.lt_of_lt_of_le hgw hbr.size;have HBR := Lib.hid hbr;have hdk : decide ((k : Int) < 6) = true := decide_eq_true (by omega);have hk6i : (k : Int) < 6 := by omega
   clear hgx hgd hbr;go_upto_region 6 with fail
   obtain ⟨wo, rfl⟩ : ∃ wo : World, wo = wr := ⟨_, rfl⟩
   go_cut [7, 8] (fun v7 v8 wc => ∃ (g7 : Nat) (star : Bool) (p : Nat → Bool) (vx : Int), v7 = .pointer (some ⟨g7, 0, none⟩) ∧ v8 = .int .i64 vx ∧ Hid (ItemIs (bitsAt l k) star p vx) ∧ Hid (IsSet wc g7 star p) ∧ wo.heap.size ≤ g7 ∧ Below wo.heap.size wo wc)
   case first =>
    have halS := run_alloc_set;refine start_ (n := 13) (S := fun w' => w'.cell? ⟨g, k, none⟩ = some (.string x) ∧ g < w'.heap.size ∧ Below wo.heap.size wo w') (ds := [11]) #[nn, nn, nn, nn, nn, nn, nn, nn, nn, nn, nn, nn, nn] (by kernel_rfl) rfl rfl ⟨hcx, hgr, (Below.refl _ _).drew⟩ (fun hHeld => ?_);refine pure_ (i := 0) (N := some 13) (v := ?_) (a' := ?_) #[yy, nn, nn, nn, nn, nn, nn, nn, nn, nn, nn, nn, nn] rfl rfl (by kernel_rfl) (fun _ _ _ h => h) (Or.inl ⟨by rfl, ?_⟩) ?_ ?_;rotate_left
    ·intro w';go_simp;with_reducible rfl
    rotate_left
    ·simp only [nrm];rfl
    refine pure_ (i := 2) (N := some 15) (v := ?_) (a' := ?_) #[yy, nn, yy, nn, nn, nn, nn, nn, nn, nn, nn, nn, nn] rfl rfl (by kernel_rfl) (fun _ _ _ h => h) (Or.inl ⟨by rfl, ?_⟩) ?_ ?_;rotate_left
    ·intro w';go_simp;with_reducible rfl
    rotate_left
    ·simp only [nrm];rfl
    refine pure_ (i := 3) (N := some 16) (v := ?_) (a' := ?_) #[yy, nn, yy, yy, nn, nn, nn, nn, nn, nn, nn, nn, nn] rfl rfl (by kernel_rfl) (fun _ _ _ h => h) (Or.inl ⟨by rfl, ?_⟩) ?_ ?_;rotate_left
    ·intro w';go_simp;with_reducible rfl
    rotate_left
    ·simp only [nrm];rfl
    refine pure_ (i := 4) (N := some 17) (v := ?_) (a' := ?_) #[yy, nn, yy, yy, yy, nn, nn, nn, nn, nn, nn, nn, nn] rfl rfl (by kernel_rfl) (fun _ _ _ h => h) (Or.inl ⟨by rfl, ?_⟩) ?_ ?_;rotate_left
    ·intro w';go_simp;with_reducible rfl
    rotate_left
    ·simp only [nrm];rfl
    refine take_ (i := 5) (N := some 18) (v := ?_) (a' := ?_) #[yy, nn, yy, yy, yy, yy, nn, nn, nn, nn, nn, nn, nn] rfl rfl (by kernel_rfl) (fun _ _ _ h => h) (Or.inl ⟨by rfl, ?_⟩) hHeld ?_ ?_;rotate_left
    ·rintro w' ⟨s0, s1, s2⟩;go_simp;with_reducible rfl
    rotate_left
    ·simp only [nrm];rfl
    refine join_ (σ := (Nat × Bool) × (Nat → Bool) × Int) 2 #[yy, yy, yy, yy, yy, yy, yy, yy, yy, yy, yy, nn, nn] (fun s => [(14, .agg #[.int .i64 (loK k : Nat), .int .i64 (hiK k : Nat), .int .i64 k]), (19, .tuple #[.agg (setCells s.1.2 s.2.1), .int .i64 s.2.2]), (12, .tuple #[.agg (setCells s.1.2 s.2.1), .int .i64 s.2.2]), (20, .agg (setCells s.1.2 s.2.1)), (21, .int .i64 s.2.2), (7, .pointer (some ⟨s.1.1, 0, none⟩))]) (fun s w' => Hid (ItemIs (bitsAt l k) s.1.2 s.2.1 s.2.2) ∧ IsSet w' s.1.1 false noSet ∧ wo.heap.size ≤ s.1.1 ∧ (w'.cell? ⟨g, k, none⟩ = some (.string x) ∧ g < w'.heap.size ∧ Below wo.heap.size wo w')) ?_ ?_;rotate_left
    ·intro hCont;refine two_ (i := 1) (j := 10) (Ni := some 14) (Nj := some 7) #[yy, yy, yy, yy, yy, yy, nn, nn, nn, nn, nn, nn, nn] #[yy, nn, yy, yy, yy, yy, nn, nn, nn, nn, yy, nn, nn] rfl rfl rfl rfl (by kernel_rfl) (by decide) (by decide) (fun K hK => ?_) (fun K hK => ?_)
     ·skip;refine goes_ Tryz.func22 (by kernel_rfl) rfl #[.int .i64 k] (by rfl) rfl rfl (by simp only [List.map_toArray, List.map_cons, List.map_nil]; rfl) ?_;with_reducible refine (HBO.out _).mono ?_
      rintro e w4 ⟨rfl, hb4⟩;refine ⟨_, rfl, ?_⟩;refine hK.out _ _ ⟨(hb4.cell (p := ⟨g, k, none⟩) hHeld.2.1).trans hHeld.1, Nat.lt_of_lt_of_le hHeld.2.1 hb4.size, below_of_le hHeld.2.2 hb4⟩ (fun hHeld => ?_);clear hK K;refine norm_ (a' := ?_) ?_ ?_;rotate_left
      ·show Act.put _ (some 14) _ = _
       simp only [nrm];rfl
      refine two_ (i := 6) (j := 10) (Ni := some 19) (Nj := some 7) #[yy, yy, yy, yy, yy, yy, yy, nn, nn, nn, nn, nn, nn] #[yy, yy, yy, yy, yy, yy, nn, nn, nn, nn, yy, nn, nn] rfl rfl rfl rfl (by kernel_rfl) (by decide) (by decide) (fun K hK => ?_) (fun K hK => ?_)
      ·skip;refine goes_ Tryz.func21 (by kernel_rfl) rfl #[.agg #[.int .i64 (loK k : Nat), .int .i64 (hiK k : Nat), .int .i64 k], .string x] (by rfl) rfl rfl (by simp only [List.map_toArray, List.map_cons, List.map_nil]; rfl) ?_;with_reducible refine (HCF.out _).mono ?_
       rintro e w5 ⟨star, p, vx, rfl, hi5, hb5⟩;refine ⟨_, rfl, ?_⟩;have HI5 := Lib.hid (show ItemIs (bitsAt l k) star p vx by rw [HBA.out]; exact hi5);clear hi5;refine hK.out _ _ ⟨(hb5.cell (p := ⟨g, k, none⟩) hHeld.2.1).trans hHeld.1, Nat.lt_of_lt_of_le hHeld.2.1 hb5.size, below_of_le hHeld.2.2 hb5⟩ (fun hHeld => ?_);clear hK K;refine norm_ (a' := ?_) ?_ ?_;rotate_left
       ·show Act.put _ (some 19) _ = _
        simp only [nrm];rfl
       refine pure_ (i := 7) (N := some 12) (v := ?_) (a' := ?_) #[yy, yy, yy, yy, yy, yy, yy, yy, nn, nn, nn, nn, nn] rfl rfl (by kernel_rfl) (fun _ _ _ h => h) (Or.inl ⟨by rfl, ?_⟩) ?_ ?_;rotate_left
       ·intro w';go_simp;with_reducible rfl
       rotate_left
       ·simp only [nrm];rfl
       refine pure_ (i := 8) (N := some 20) (v := ?_) (a' := ?_) #[yy, yy, yy, yy, yy, yy, yy, yy, yy, nn, nn, nn, nn] rfl rfl (by kernel_rfl) (fun _ _ _ h => h) (Or.inl ⟨by rfl, ?_⟩) ?_ ?_;rotate_left
       ·intro w';go_simp;with_reducible rfl
       rotate_left
       ·simp only [nrm];rfl
       refine pure_ (i := 9) (N := some 21) (v := ?_) (a' := ?_) #[yy, yy, yy, yy, yy, yy, yy, yy, yy, yy, nn, nn, nn] rfl rfl (by kernel_rfl) (fun _ _ _ h => h) (Or.inl ⟨by rfl, ?_⟩) ?_ ?_;rotate_left
       ·intro w';go_simp;with_reducible rfl
       rotate_left
       ·simp only [nrm];rfl
       refine one_ (i := 10) (N := some 7) #[yy, yy, yy, yy, yy, yy, yy, yy, yy, yy, yy, nn, nn] rfl rfl (by kernel_rfl) (by decide) (fun K hK => ?_);have hge7 := hHeld.2.2.size;have hs7 := new_of hHeld.2.2;refine value_ (by rfl) rfl (exec_alloc_set _ _ _ rfl) ?_;refine hK.out _ _ ⟨((Below.refl _ _).alloc (Nat.le_refl _) _ |>.cell (p := ⟨g, k, none⟩) hHeld.2.1).trans hHeld.1, Nat.lt_of_lt_of_le hHeld.2.1 (by simp), hHeld.2.2.alloc hHeld.2.2.size _⟩ (fun hHeld => ?_);clear hK K;refine norm_ (a' := ?_) ?_ ?_;rotate_left
       ·show Act.put _ (some 7) _ = _
        simp only [nrm];rfl
       exact norm_ (by simp only [putAll, Act.put, List.setIfInBounds_toArray, List.set_cons_zero, List.set_cons_succ]) (hCont ((w5.heap.size, star), p, vx) _ ⟨HI5, hs7, hge7, hHeld⟩)
      ·skip;have hge7 := hHeld.2.2.size;have hs7 := new_of hHeld.2.2;refine value_ (by rfl) rfl (exec_alloc_set _ _ _ rfl) ?_;refine hK.out _ _ ⟨((Below.refl _ _).alloc (Nat.le_refl _) _ |>.cell (p := ⟨g, k, none⟩) hHeld.2.1).trans hHeld.1, Nat.lt_of_lt_of_le hHeld.2.1 (by simp), hHeld.2.2.alloc hHeld.2.2.size _⟩ (fun hHeld => ?_);clear hK K;refine norm_ (a' := ?_) ?_ ?_;rotate_left
       ·show Act.put _ (some 7) _ = _
        simp only [nrm];rfl
       refine one_ (i := 6) (N := some 19) #[yy, yy, yy, yy, yy, yy, yy, nn, nn, nn, yy, nn, nn] rfl rfl (by kernel_rfl) (by decide) (fun K hK => ?_);refine goes_ Tryz.func21 (by kernel_rfl) rfl #[.agg #[.int .i64 (loK k : Nat), .int .i64 (hiK k : Nat), .int .i64 k], .string x] (by rfl) rfl rfl (by simp only [List.map_toArray, List.map_cons, List.map_nil]; rfl) ?_;with_reducible refine (HCF.out _).mono ?_
       rintro e w5 ⟨star, p, vx, rfl, hi5, hb5⟩;refine ⟨_, rfl, ?_⟩;have HI5 := Lib.hid (show ItemIs (bitsAt l k) star p vx by rw [HBA.out]; exact hi5);clear hi5;refine hK.out _ _ ⟨(hb5.cell (p := ⟨g, k, none⟩) hHeld.2.1).trans hHeld.1, Nat.lt_of_lt_of_le hHeld.2.1 hb5.size, below_of_le hHeld.2.2 hb5⟩ (fun hHeld => ?_);clear hK K;refine norm_ (a' := ?_) ?_ ?_;rotate_left
       ·show Act.put _ (some 19) _ = _
        simp only [nrm];rfl
       refine pure_ (i := 7) (N := some 12) (v := ?_) (a' := ?_) #[yy, yy, yy, yy, yy, yy, yy, yy, nn, nn, yy, nn, nn] rfl rfl (by kernel_rfl) (fun _ _ _ h => h) (Or.inl ⟨by rfl, ?_⟩) ?_ ?_;rotate_left
       ·intro w';go_simp;with_reducible rfl
       rotate_left
       ·simp only [nrm];rfl
       refine pure_ (i := 8) (N := some 20) (v := ?_) (a' := ?_) #[yy, yy, yy, yy, yy, yy, yy, yy, yy, nn, yy, nn, nn] rfl rfl (by kernel_rfl) (fun _ _ _ h => h) (Or.inl ⟨by rfl, ?_⟩) ?_ ?_;rotate_left
       ·intro w';go_simp;with_reducible rfl
       rotate_left
       ·simp only [nrm];rfl
       refine pure_ (i := 9) (N := some 21) (v := ?_) (a' := ?_) #[yy, yy, yy, yy, yy, yy, yy, yy, yy, yy, yy, nn, nn] rfl rfl (by kernel_rfl) (fun _ _ _ h => h) (Or.inl ⟨by rfl, ?_⟩) ?_ ?_;rotate_left
       ·intro w';go_simp;with_reducible rfl
       rotate_left
       ·simp only [nrm];rfl
       exact norm_ (by simp only [putAll, Act.put, List.setIfInBounds_toArray, List.set_cons_zero, List.set_cons_succ]) (hCont ((w4.heap.size, star), p, vx) _ ⟨HI5, hs7.below hb5, hge7, hHeld⟩)
     ·skip;have hge7 := hHeld.2.2.size;have hs7 := new_of hHeld.2.2;refine value_ (by rfl) rfl (exec_alloc_set _ _ _ rfl) ?_;refine hK.out _ _ ⟨((Below.refl _ _).alloc (Nat.le_refl _) _ |>.cell (p := ⟨g, k, none⟩) hHeld.2.1).trans hHeld.1, Nat.lt_of_lt_of_le hHeld.2.1 (by simp), hHeld.2.2.alloc hHeld.2.2.size _⟩ (fun hHeld => ?_);clear hK K;refine norm_ (a' := ?_) ?_ ?_;rotate_left
      ·show Act.put _ (some 7) _ = _
       simp only [nrm];rfl
      refine one_ (i := 1) (N := some 14) #[yy, yy, yy, yy, yy, yy, nn, nn, nn, nn, yy, nn, nn] rfl rfl (by kernel_rfl) (by decide) (fun K hK => ?_);refine goes_ Tryz.func22 (by kernel_rfl) rfl #[.int .i64 k] (by rfl) rfl rfl (by simp only [List.map_toArray, List.map_cons, List.map_nil]; rfl) ?_;with_reducible refine (HBO.out _).mono ?_
      rintro e w4 ⟨rfl, hb4⟩;refine ⟨_, rfl, ?_⟩;refine hK.out _ _ ⟨(hb4.cell (p := ⟨g, k, none⟩) hHeld.2.1).trans hHeld.1, Nat.lt_of_lt_of_le hHeld.2.1 hb4.size, below_of_le hHeld.2.2 hb4⟩ (fun hHeld => ?_);clear hK K;refine norm_ (a' := ?_) ?_ ?_;rotate_left
      ·show Act.put _ (some 14) _ = _
       simp only [nrm];rfl
      refine one_ (i := 6) (N := some 19) #[yy, yy, yy, yy, yy, yy, yy, nn, nn, nn, yy, nn, nn] rfl rfl (by kernel_rfl) (by decide) (fun K hK => ?_);refine goes_ Tryz.func21 (by kernel_rfl) rfl #[.agg #[.int .i64 (loK k : Nat), .int .i64 (hiK k : Nat), .int .i64 k], .string x] (by rfl) rfl rfl (by simp only [List.map_toArray, List.map_cons, List.map_nil]; rfl) ?_;with_reducible refine (HCF.out _).mono ?_
      rintro e w5 ⟨star, p, vx, rfl, hi5, hb5⟩;refine ⟨_, rfl, ?_⟩;have HI5 := Lib.hid (show ItemIs (bitsAt l k) star p vx by rw [HBA.out]; exact hi5);clear hi5;refine hK.out _ _ ⟨(hb5.cell (p := ⟨g, k, none⟩) hHeld.2.1).trans hHeld.1, Nat.lt_of_lt_of_le hHeld.2.1 hb5.size, below_of_le hHeld.2.2 hb5⟩ (fun hHeld => ?_);clear hK K;refine norm_ (a' := ?_) ?_ ?_;rotate_left
      ·show Act.put _ (some 19) _ = _
       simp only [nrm];rfl
      refine pure_ (i := 7) (N := some 12) (v := ?_) (a' := ?_) #[yy, yy, yy, yy, yy, yy, yy, yy, nn, nn, yy, nn, nn] rfl rfl (by kernel_rfl) (fun _ _ _ h => h) (Or.inl ⟨by rfl, ?_⟩) ?_ ?_;rotate_left
      ·intro w';go_simp;with_reducible rfl
      rotate_left
      ·simp only [nrm];rfl
      refine pure_ (i := 8) (N := some 20) (v := ?_) (a' := ?_) #[yy, yy, yy, yy, yy, yy, yy, yy, yy, nn, yy, nn, nn] rfl rfl (by kernel_rfl) (fun _ _ _ h => h) (Or.inl ⟨by rfl, ?_⟩) ?_ ?_;rotate_left
      ·intro w';go_simp;with_reducible rfl
      rotate_left
      ·simp only [nrm];rfl
      refine pure_ (i := 9) (N := some 21) (v := ?_) (a' := ?_) #[yy, yy, yy, yy, yy, yy, yy, yy, yy, yy, yy, nn, nn] rfl rfl (by kernel_rfl) (fun _ _ _ h => h) (Or.inl ⟨by rfl, ?_⟩) ?_ ?_;rotate_left
      ·intro w';go_simp;with_reducible rfl
      rotate_left
      ·simp only [nrm];rfl
      exact norm_ (by simp only [putAll, Act.put, List.setIfInBounds_toArray, List.set_cons_zero, List.set_cons_succ]) (hCont ((wo.drew.heap.size, star), p, vx) _ ⟨HI5, (hs7.below hb4).below hb5, hge7, hHeld⟩)
    rintro ⟨⟨g7, star⟩, p, vx⟩ w5 ⟨HI5, hs7, hge7, hHeld⟩;refine norm_ (a' := ?_) ?_ ?_;rotate_left
    ·simp only [putAll, Act.put, List.setIfInBounds_toArray, List.set_cons_zero, List.set_cons_succ];rfl
    refine last_ (i := 11) (N := none) #[yy, yy, yy, yy, yy, yy, yy, yy, yy, yy, yy, yy, nn] rfl rfl (by kernel_rfl) (by decide) (fun K hK => ?_);rw [if_pos (by rfl)];refine wp_store_row 56 _ _ rfl g7 (setCells star p) rfl rfl 56 (setCells false noSet) hs7 (by rw [setSize, setCells_size]) (by rw [setCells_size, setCells_size]) (setCells_one _ _) ?_;refine hK.out _ _ ?_;clear hK K;refine pure_ (i := 12) (N := some 8) (v := ?_) (a' := ?_) #[yy, yy, yy, yy, yy, yy, yy, yy, yy, yy, yy, yy, yy] rfl rfl (by kernel_rfl) (fun _ _ _ h => h) (Or.inl ⟨by rfl, ?_⟩) ?_ ?_;rotate_left
    ·intro w';go_simp;with_reducible rfl
    rotate_left
    ·simp only [nrm];rfl
    refine done_ (by kernel_rfl) ?_;go_wp2_with fail
    go_meet
    exact ⟨g7, star, p, vx, rfl, rfl, HI5, Lib.hid (hs7.store _ _), hge7, below_setRow hHeld.2.2 hge7 _⟩
   case rest =>
   obtain ⟨g7, star, p, vx, rfl, rfl, HI, HIS, hge7, hbc⟩ := hcut;obtain ⟨v3, hw3, hvs3, hw0, hw1, _, _⟩ := worse_f v vx HV.out.1 HI.out.vs
   have HV' : Hid (SixT l (k + 1) v3) := Lib.hid ⟨hvs3, fun h j hj => by
    obtain ⟨h1, h2⟩ := hw1 h;by_cases hjk : j < k
    ·exact HV.out.2.1 h1 j hjk
    ·obtain rfl : j = k := by omega
     rw [HI.out.fine h2]; rfl, fun h => by
    rcases hw0 h with h1 | h1
    ·obtain ⟨j, hj, hb⟩ := HV.out.2.2 h1;exact ⟨j, by omega, hb⟩
    ·exact ⟨k, by omega, HI.out.bad h1⟩⟩
   have H31 : Hid (v3 = 1 → v = 1 ∧ bitsAt l k = some (setBits star p)) := Lib.hid fun h => ⟨(hw1 h).1, HI.out.fine (hw1 h).2⟩
   have HC := Lib.hid (fun w' => spec_worse.calls v vx v3 w' hw3);obtain ⟨cs, hcs, hn, h1, hFF⟩ := HRB.out.below hbc;have HFF := Lib.hid hFF;clear hFF;have hw1s := HRB.out.lt;have hw1c : w.heap.size + 1 < wc.heap.size := Nat.lt_of_lt_of_le hw1s hbc.size;have HRA1 := Lib.hid (HRA.out.below hbc);have hB2 := below_of_le HBR.out hbc;clear hw3 hw0 hw1 HV HI HRA HRB HBO HCF HBA hcx hgr hvs3;go_upto_region 7 with fail
   refine start_ (n := 8) (S := fun w' => IsSet w' g7 star p ∧ w'.heap[w.heap.size + 1]? = some (.cells cs 88 (0, 0))) (ds := [6]) #[nn, nn, nn, nn, nn, nn, nn, nn] (by kernel_rfl) rfl rfl ⟨HIS.out, hcs⟩ (fun hHeld => ?_);refine pure_ (i := 0) (N := some 22) (v := ?_) (a' := ?_) #[yy, nn, nn, nn, nn, nn, nn, nn] rfl rfl (by kernel_rfl) (fun _ _ _ h => h) (Or.inl ⟨by rfl, ?_⟩) ?_ ?_;rotate_left
   ·intro w';go_simp;with_reducible rfl
   rotate_left
   ·simp only [nrm];rfl
   refine pure_ (i := 2) (N := some 24) (v := ?_) (a' := ?_) #[yy, nn, yy, nn, nn, nn, nn, nn] rfl rfl (by kernel_rfl) (fun _ _ _ h => h) (Or.inl ⟨by rfl, ?_⟩) ?_ ?_;rotate_left
   ·intro w';go_simp;with_reducible rfl
   rotate_left
   ·simp only [nrm];rfl
   refine pure_ (i := 3) (N := some 25) (v := ?_) (a' := ?_) #[yy, nn, yy, yy, nn, nn, nn, nn] rfl rfl (by kernel_rfl) (fun _ _ _ h => h) (Or.inl ⟨by rfl, ?_⟩) ?_ ?_;rotate_left
   ·intro w';go_simp;with_reducible rfl
   rotate_left
   ·simp only [nrm];rfl
   refine take_ (i := 1) (N := some 23) (v := ?_) (a' := ?_) #[yy, yy, yy, yy, nn, nn, nn, nn] rfl rfl (by kernel_rfl) (fun _ _ _ h => h) (Or.inl ⟨by rfl, ?_⟩) hHeld ?_ ?_;rotate_left
   ·rintro w' ⟨s0, s1⟩;refine exec_load_set _ _ _ ?_ g7 star p ?_ ?_ s0;rotate_left
    ·rfl
    ·rfl
   rotate_left
   ·simp only [nrm];rfl
   refine pure_ (i := 5) (N := some 27) (v := ?_) (a' := ?_) #[yy, yy, yy, yy, nn, yy, nn, nn] rfl rfl (by kernel_rfl) (fun _ _ _ h => h) (Or.inl ⟨by rfl, ?_⟩) ?_ ?_;rotate_left
   ·intro w';go_simp;with_reducible rfl
   rotate_left
   ·simp only [nrm];rfl
   refine one_ (i := 4) (N := some 26) #[yy, yy, yy, yy, yy, yy, nn, nn] rfl rfl (by kernel_rfl) (by decide) (fun K hK => ?_);refine goes_ Tryz.func57 (by kernel_rfl) rfl #[.int .i64 v, .int .i64 vx] (by rfl) rfl rfl (by simp only [List.map_toArray, List.map_cons, List.map_nil]; rfl) ?_;with_reducible refine (HC.out _).mono ?_
   rintro e w4 ⟨rfl, hb4⟩;refine ⟨_, rfl, ?_⟩;refine hK.out _ _ ⟨IsSet.below (w := wc.drew) HIS.out hb4, (hb4.block (w.heap.size + 1) hw1c).trans hcs⟩ (fun hHeld => ?_);clear hK K;refine norm_ (a' := ?_) ?_ ?_;rotate_left
   ·show Act.put _ (some 26) _ = _
    simp only [nrm];rfl
   refine last_ (i := 6) (N := none) #[yy, yy, yy, yy, yy, yy, yy, nn] rfl rfl (by kernel_rfl) (by decide) (fun K hK => ?_);rw [if_pos (by rfl)];refine wp_store_at 56 _ _ rfl (w.heap.size + 1) (k * 64) (setCells star p) rfl rfl 88 cs hHeld.2 (by rw [setSize, setCells_size]) (by rw [setCells_size, hn]; omega) (setCells_one _ _) ?_;refine hK.out _ _ ?_;clear hK K;refine pure_ (i := 7) (N := some 5) (v := ?_) (a' := ?_) #[yy, yy, yy, yy, yy, yy, yy, yy] rfl rfl (by kernel_rfl) (fun _ _ _ h => h) (Or.inl ⟨by rfl, ?_⟩) ?_ ?_;rotate_left
   ·intro w';go_simp;with_reducible rfl
   rotate_left
   ·simp only [nrm];rfl
   refine done_ (by kernel_rfl) ?_;have hb4 : Below wc.heap.size wc w4 := below_of_le (Below.refl _ _).drew hb4;have hcs4 := (hb4.block (w.heap.size + 1) hw1c).trans hcs;have HRB4 := Lib.hid (rowF_put (st := star) (p := p) hcs4 hn h1 h6 HFF.out H31.out);rw [List.append_assoc] at HRB4;have hB4 := below_of_le hB2 hb4;have HRA4 := Lib.hid (HRA1.out.below hb4);go_wp2_with fail
   go_roundw
   case rel =>
    exact ⟨k + 1, v3, by go_num, by omega, rfl, HV', Lib.hid (HRA4.out.other (by omega) _), HRB4, below_setRow hB4 (by omega) _⟩
   case measure => simp [intOf]; omega
  ·obtain rfl : k = 6 := by omega
   obtain ⟨ca, hca, hna, h1a⟩ := HRA.out;obtain ⟨cb, hcb, hnb, h1b, hFb⟩ := HRB.out;by_cases hv : v = 1
   ·subst hv;go_wp2_with (first | (refine wpList_load_row rfl 88 _ rfl (w.heap.size + 1) rfl _ _ _ _ hcb Tryz.underlying88 rfl (by rw [sizeF, hnb]) ?_) | (refine wpList_store_row rfl 88 _ _ rfl w.heap.size cb rfl rfl _ _ hca (by rw [sizeF, hnb]) (by rw [hna, hnb]) h1b ?_))
    refine bodyPost_ret (v := .tuple #[.agg cb, .int .i64 1]) ?_ rfl ?_
    ·exact results_F (fn := Tryz.f139) (p := 2) (u := 3) rfl _ _ w.heap.size _ hnb rfl (setRow_heap _ _ _ _ _ _ hca)
    exact ⟨⟨cb, 1, rfl, hnb, h1b, .inr (.inl rfl), fun h => (by omega), fun _ => HSO.out cb hnb h1b (hFb (by first | rfl | trivial))⟩, below_setRow hbr (by omega) _⟩
   ·have hne : (v != 1) = true := by simpa using hv
    have HV1 := Lib.hid hv;clear hv;go_wp2_with (first | (refine wpList_build_F rfl rfl ?_) | (refine wpList_store_row rfl 88 _ _ rfl w.heap.size zeroF rfl rfl _ _ hca (by rw [sizeF, zeroF_size]) (by rw [hna, zeroF_size]) zeroF_one ?_))
    refine bodyPost_ret (v := .tuple #[.agg zeroF, .int .i64 v]) ?_ rfl ?_
    ·exact results_F (fn := Tryz.f139) (p := 2) (u := 3) rfl _ _ w.heap.size _ zeroF_size rfl (setRow_heap _ _ _ _ _ _ hca)
    exact ⟨⟨zeroF, v, rfl, zeroF_size, zeroF_one, HV.out.1, fun h => (by obtain ⟨j, hj, hb⟩ := HV.out.2.2 h; exact HNO.out j hj hb), fun h => absurd h HV1.out⟩, below_setRow hbr (by omega) _⟩
theorem foreignB_l0 (s : ByteArray) (hs : s.size ≤ 4294967296) : ∀ (d i k : Nat), s.size - i = d → i ≤ s.size → d < k → ∃ b, spec_cronForeign.l0 k s (s.size : Int) (i : Int) = some b ∧ (b = false → ∀ j (h : j < s.data.toList.length), i ≤ j → (s.data.toList[j]).toNat < 128)
 | 0, i, k, hd, hi, hk => by
  obtain ⟨k, rfl⟩ : ∃ m, k = m + 1 := ⟨k - 1, by omega⟩
  unfold spec_cronForeign.l0;rw [if_neg (by omega)];exact ⟨false, rfl, fun _ j h hj => by rw [← size_list] at h; omega⟩
 | d + 1, i, k, hd, hi, hk => by
  obtain ⟨k, rfl⟩ : ∃ m, k = m + 1 := ⟨k - 1, by omega⟩
  have hlt : i < s.size := by omega
  have hl : i < s.data.toList.length := by rw [← size_list]; exact hlt
  have hw : wrap64 ((i : Int) + 1) = ((i + 1 : Nat) : Int) := by
   unfold wrap64;omega
  have hbt := bt_list s i hl;unfold spec_cronForeign.l0;rw [if_pos (by omega), if_pos (by omega), if_pos (by omega), hbt];by_cases hc : (s.data.toList[i]).toNat < 128
  ·obtain ⟨b, h1, h2⟩ := foreignB_l0 s hs d (i + 1) k (by omega) (by omega) (by omega);rw [if_neg (by omega), hw];refine ⟨b, h1, fun hb j h hj => ?_⟩;by_cases hji : j = i
   ·subst hji; exact hc
   ·exact h2 hb j h (by omega)
  ·rw [if_pos (by omega)];exact ⟨true, rfl, fun h => by cases h⟩
theorem foreignB_f (s : ByteArray) (hs : s.size ≤ 4294967296) : ∃ b, spec_cronForeign.f (s.size + 1) s = some b ∧ (b = false → Ascii s) := by
 obtain ⟨b, h1, h2⟩ := foreignB_l0 s hs s.size 0 (s.size + 1) (by omega) (by omega) (by omega);refine ⟨b, h1, fun hb c hc => ?_⟩;obtain ⟨j, hj, rfl⟩ := List.getElem_of_mem hc;exact h2 hb j hj (by omega)
set_option maxRecDepth 100000 in
set_option maxHeartbeats 4000000 in
theorem cronPlainP_any (o : Nat) (ho : o < 512) (h2 : twoB o = false) (s : ByteArray) (hs : s.size ≤ 4294967296) (hat : Lib.hasPrefix s.data.toList [64] = false) (w : World) :
  Calls Tryz.prog 89 #[.int .i64 o, .string s] w (SaysM w ((fieldsG s o).map .bits)) := by
 have HB := Lib.hid (fun w' => spec_cronBegins.calls s ⟨#[64]⟩ _ w' ((begins_f s ⟨#[64]⟩).trans (by rw [show (⟨#[64]⟩ : ByteArray).data.toList = [64] from rfl, hat])));obtain ⟨bf, hbf, hasc⟩ := foreignB_f s hs;have HF := Lib.hid (fun w' => spec_cronForeign.calls _ s bf w' hbf);have HW := Lib.hid (fun (h : bf = false) w' => words_any s hs (hasc h) w');have HFI := Lib.hid (fun A c w' hS => cronFill_any o ho h2 A (fieldsZ s) c (Nat.le_trans (fieldsZ_len s) hs) w' hS)
 have hN : ¬ (0 < o &&& 128 ∧ 0 < o &&& 2) := fun h => by
  have := (twoB_iff o).2 h;rw [h2] at this;cases this
 have HPS : Hid (∀ r, fillS (fieldsZ s) o = r → (fieldsG s o).map Got.bits = (r.bind sixS).map Got.bits) := Lib.hid fun r hr => by
  unfold fieldsG;rw [norm_is _ o ho hN, hr]
 have HSM : Hid (∀ l, fillS (fieldsZ s) o = some l → ∀ x ∈ l, x.size ≤ 4294967296) := Lib.hid fun l hl => fillS_small hl fun x hx => Nat.le_trans (fieldsZ_size s x hx) hs
 have hl1 := Nat.le_trans (fieldsZ_len s) hs;have hal := run_alloc_M;have halF := run_alloc_F;unfold WordsAns at HW;generalize fieldsZ s = fs at *;generalize (fieldsG s o).map Got.bits = RG at *;have HPS := Lib.hid (HPS.out _ rfl);generalize fillS fs o = r at *;clear hs hat hN h2 hbf hasc;go_enter Tryz.func89, Tryz.ntmps89;go_wp2_with fail
 have HR0 := Lib.hid (zeroM_row w);have HB0 : Hid (Below w.heap.size w (w.alloc (.cells zeroM 99))) := Lib.hid ((Below.refl _ _).alloc (Nat.le_refl _) _);refine (HB.out _).mono ?_;rintro e w1 ⟨rfl, hd1⟩;have HR1 := Lib.hid (HR0.out.below hd1.below);have HB1 := Lib.hid (below_of_le HB0.out hd1.below);clear HR0 HB0 hd1;go_wp2_with fail
 refine (HF.out _).mono ?_;rintro e w2 ⟨rfl, hd2⟩;have HR2 := Lib.hid (HR1.out.below hd2.below);have HB2 := Lib.hid (below_of_le HB1.out hd2.below);clear HR1 HB1 hd2;by_cases hbf : bf = true
 ·subst hbf;obtain ⟨ca, hca, hna, h1a⟩ := HR2.out;go_wp2_with (first | (refine wpList_build_M rfl rfl ?_) | (refine wpList_store_row rfl 99 _ _ rfl w.heap.size zeroM rfl rfl _ _ hca (by rw [sizeM, zeroM_size]) (by rw [hna, zeroM_size]) zeroM_one ?_))
  refine bodyPost_ret (v := .tuple #[.agg zeroM, .int .i64 2]) ?_ rfl ?_
  ·exact results_M (fn := Tryz.f89) (p := 4) (u := 5) rfl _ _ w.heap.size _ zeroM_size rfl (setRow_heap _ _ _ _ _ _ hca)
  exact ⟨⟨zeroM, 2, rfl, zeroM_size, zeroM_one, .inr (.inr rfl), fun h => (by omega), fun h => (by omega)⟩, below_setRow HB2.out (by omega) _⟩
 obtain rfl : bf = false := by simpa using hbf
 have HW2 := Lib.hid (HW.out rfl);clear hbf HW;go_wp2_with fail
 refine (HW2.out _).mono ?_;rintro e w3 ⟨A, c, rfl, hc, hS, -, hb3⟩;have HR3 := Lib.hid (HR2.out.below hb3);have HB3 := Lib.hid (below_of_le HB2.out hb3);clear HR2 HB2 hb3;go_wp2_with fail
 refine (HFI.out _ _ _ hS).mono ?_;rintro e w4 ⟨hans, hb4⟩;have HR4 := Lib.hid (HR3.out.below hb4);have HB4 := Lib.hid (below_of_le HB3.out hb4);clear HR3 HB3 hb4 hS;cases r with
 | none =>
  obtain rfl := hans;obtain ⟨ca, hca, hna, h1a⟩ := HR4.out;go_wp2_with (first | (refine wpList_build_M rfl rfl ?_) | (refine wpList_store_row rfl 99 _ _ rfl w.heap.size zeroM rfl rfl _ _ hca (by rw [sizeM, zeroM_size]) (by rw [hna, zeroM_size]) zeroM_one ?_))
  refine bodyPost_ret (v := .tuple #[.agg zeroM, .int .i64 0]) ?_ rfl ?_
  ·exact results_M (fn := Tryz.f89) (p := 4) (u := 5) rfl _ _ w.heap.size _ zeroM_size rfl (setRow_heap _ _ _ _ _ _ hca)
  exact ⟨⟨zeroM, 0, rfl, zeroM_size, zeroM_one, .inl rfl, fun _ => HPS.out, fun h => (by omega)⟩, below_setRow HB4.out (by omega) _⟩
 | some l =>
  obtain ⟨g, rfl, hg, ht⟩ := hans;by_cases hl0 : fs.length = 0
  ·have hl6 : ((fs.length : Int) == 0) = true := by rw [hl0]; rfl
   obtain ⟨ca, hca, hna, h1a⟩ := HR4.out;clear ht;go_wp2_with (first | (refine wpList_build_M rfl rfl ?_) | (refine wpList_store_row rfl 99 _ _ rfl w.heap.size zeroM rfl rfl _ _ hca (by rw [sizeM, zeroM_size]) (by rw [hna, zeroM_size]) zeroM_one ?_))
   refine bodyPost_ret (v := .tuple #[.agg zeroM, .int .i64 2]) ?_ rfl ?_
   ·exact results_M (fn := Tryz.f89) (p := 4) (u := 5) rfl _ _ w.heap.size _ zeroM_size rfl (setRow_heap _ _ _ _ _ _ hca)
   exact ⟨⟨zeroM, 2, rfl, zeroM_size, zeroM_one, .inr (.inr rfl), fun h => (by omega), fun h => (by omega)⟩, below_setRow HB4.out (by omega) _⟩
  have hl6 : ((fs.length : Int) == 0) = false := by rw [beq_eq_false_iff_ne]; omega
  have HC6 := Lib.hid (fun w' hT => cronSixV_any g 6 l (HSM.out l rfl) w' hT);have HVV : Hid (RG = (sixS l).map Got.bits) := Lib.hid HPS.out;generalize sixS l = S6 at *;have HT4 := Lib.hid ht;clear ht;go_wp2_with fail
  refine (HC6.out _ HT4.out).mono ?_;rintro e w5 ⟨⟨cs, v, rfl, hn, h1, hv3, hv0, hv1⟩, hb5⟩;have hR5 := HR4.out.below hb5;have HB5 := Lib.hid (below_of_le HB4.out hb5);obtain ⟨ca, hca, hna, h1a⟩ := hR5;have hgl : w.heap.size < w5.heap.size := (Array.getElem?_eq_some_iff.1 hca).1
  have hcaA : ∀ o : Obj, ((w5.alloc o).setRow w5.heap.size cs).heap[w.heap.size]? = some (.cells ca 99 (0, 0)) := fun o =>
   (setRow_other _ _ _ _ (by omega)).trans ((((Below.refl w5.heap.size w5).alloc (Nat.le_refl _) o).block _ hgl).trans hca)
  have HV5 : Hid ((v = 0 ∨ v = 1 ∨ v = 2) ∧ (v = 0 → S6 = none) ∧ (v = 1 → ∃ b, S6 = some b ∧ IsFields cs b)) := Lib.hid ⟨hv3, hv0, hv1⟩;have HCA := Lib.hid hcaA;obtain ⟨r, hbr, hr, hr1, hr0, hrj⟩ := builtMF2 cs hn h1;have HRJ := Lib.hid (And.intro hr0 hrj);clear hr0 hrj;clear HR4 HB4 hb5 HT4 HC6 HPS HSM HFI HW2 HF HB hca hcaA hv3 hv0 hv1;go_wp2_with (first | (refine wpList_store_row rfl 88 _ _ rfl w5.heap.size cs rfl rfl _ _ (heap_alloc_new w5 _) (by rw [sizeF, hn]) (Eq.trans (b := 384) (by kernel_rfl) hn.symm) h1 ?_) | (refine wpList_load_row rfl 88 _ rfl w5.heap.size rfl _ _ _ _ (setRow_heap _ _ _ _ _ _ (heap_alloc_new w5 _)) Tryz.underlying88 rfl (by rw [sizeF, hn]) ?_) | (refine wpList_build_MF rfl _ rfl cs r hbr rfl ?_) | (refine wpList_store_row rfl 99 _ _ rfl w.heap.size r rfl rfl _ _ (HCA.out _) (by rw [sizeM, hr]) (by rw [hna, hr]) hr1 ?_))
  refine bodyPost_ret (v := .tuple #[.agg r, .int .i64 v]) ?_ rfl ?_
  ·exact results_M (fn := Tryz.f89) (p := 4) (u := 5) rfl _ _ w.heap.size _ hr rfl (setRow_heap _ _ _ _ _ _ (HCA.out _))
  exact ⟨⟨r, v, rfl, hr, hr1, HV5.out.1, fun h => (by rw [HVV.out, HV5.out.2.1 h]; rfl), fun h => (by
   obtain ⟨bb, e1, e2⟩ := HV5.out.2.2 h;exact ⟨.bits bb, by rw [HVV.out, e1]; rfl, HRJ.out.1, cs, e2, HRJ.out.2⟩)⟩, below_setRow (below_setRow (HB5.out.alloc HB5.out.size _) (by omega) _) (by omega) _⟩
end Go.Proofs.YtmecbmgfacpecaaGreatDoor.Cron
namespace Go.Proofs.YtmecbmgfacpecaaGreatDoor.Dur
open Go Go.Proofs.YtmecbmgfacpecaaGreatDoor.Flo
def Stop (p : UInt8 → Bool) (r : List UInt8) : Prop := r = [] ∨ ∃ c t, r = c :: t ∧ p c = false
theorem stop_drop (p : UInt8 → Bool) (l : List UInt8) : Stop p (l.dropWhile p) := by
 induction l with
 | nil => exact .inl rfl
 | cons c l ih =>
  cases h : p c with
  | true => rw [List.dropWhile_cons_of_pos h]; exact ih
  | false => rw [List.dropWhile_cons_of_neg (by rw [h]; simp)]; exact .inr ⟨c, l, rfl, h⟩
theorem mem_tw {p : UInt8 → Bool} {l : List UInt8} : ∀ c ∈ l.takeWhile p, p c = true := by
 induction l with
 | nil => intro c h; simp at h
 | cons x l ih =>
  intro c h;cases hx : p x with
  | true =>
   rw [List.takeWhile_cons_of_pos hx] at h;rcases List.mem_cons.1 h with rfl | h
   ·exact hx
   ·exact ih c h
  | false =>
   rw [List.takeWhile_cons_of_neg (by rw [hx]; simp)] at h;cases h
theorem p11 : ∀ j : Fin 12, 10 ^ j.val ≤ 100000000000 := by decide
def unitM (u : List UInt8) : Nat × Nat :=
 if u = [110, 115] then (1, 0) else if u = [117, 115] then (1000, 3) else if u = [194, 181, 115] then (1000, 3) else if u = [206, 188, 115] then (1000, 3) else if u = [109, 115] then (1000000, 6)
 else if u = [115] then (1000000000, 9) else if u = [109] then (60000000000, 10) else if u = [104] then (3600000000000, 11) else (0, 0)
end Go.Proofs.YtmecbmgfacpecaaGreatDoor.Dur
