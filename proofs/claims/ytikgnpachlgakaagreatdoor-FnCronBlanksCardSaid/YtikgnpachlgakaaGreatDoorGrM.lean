/- Lemmas and walks on the way to the law, merged by wip/tools/pack.py: CronSix, Words, PlainText. Conditions: none. -/
import Derived.Test.YtikgnpachlgakaaGreatDoorGrK
import Derived.Test.YtikgnpachlgakaaGreatDoorGrL
import Derived.Laws.CopyRow
import Derived.Test.YtikgnpachlgakaaGreatDoorGrH
import Derived.Test.YtikgnpachlgakaaGreatDoorPrB
import Derived.Test.YtikgnpachlgakaaGreatDoorPrA
namespace Go.Proofs.YtikgnpachlgakaaGreatDoor.Cron
open Go Go.RowKit Go.Proofs.YtikgnpachlgakaaGreatDoor.Text Go.Proofs.YtikgnpachlgakaaGreatDoor.Bits Go.Proofs.YtikgnpachlgakaaGreatDoorW.PrintWords Go.Proofs.YtikgnpachlgakaaGreatDoorW.PrintLast Go.Proofs.YtikgnpachlgakaaGreatDoorW.PrintMore Go.Proofs.YtikgnpachlgakaaGreatDoor.Pr
set_option linter.unusedVariables false
set_option linter.unusedSimpArgs false

/-- a block of n cells of one cell each -/
def RowN (w : World) (g : Nat) (T : TypeId) (n : Nat) : Prop := ∃ cs : Array Value, w.heap[g]? = some (.cells cs T (0, 0)) ∧ cs.size = n ∧ cs.all (·.oneCell') = true

theorem RowN.lt {w : World} {g : Nat} {T : TypeId} {n : Nat} (h : RowN w g T n) : g < w.heap.size := by
  obtain ⟨cs, h1, _⟩ := h
  exact (Array.getElem?_eq_some_iff.1 h1).1
theorem RowN.below {w w' : World} {g : Nat} {T : TypeId} {n : Nat} (h : RowN w g T n) (hb : Below w.heap.size w w') : RowN w' g T n := by
  have hl := h.lt
  obtain ⟨cs, h1, h2⟩ := h
  exact ⟨cs, (hb.block g hl).trans h1, h2⟩

noncomputable def zeroF : Array Value := (Tryz.prog.built 55 []).getD #[]
theorem builtF : Tryz.prog.built 55 [] = some zeroF := by kernel_rfl
theorem zeroF_size : zeroF.size = 384 := by kernel_rfl
theorem zeroF_one : zeroF.all (·.oneCell') = true := by kernel_rfl
theorem sizeF : (Tryz.prog.info? 55).map (·.size) = some 384 := by kernel_rfl
theorem run_alloc_F (w : World) : (Instr.alloc 55 true (.tuple #[])).run Tryz.prog w = .ok (.pointer (some ⟨w.heap.size, 0, none⟩)) (w.alloc (.cells zeroF 55 (0, 0))) := by kernel_rfl
theorem zeroF_row (w : World) : RowN (w.alloc (.cells zeroF 55 (0, 0))) w.heap.size 55 384 := ⟨zeroF, heap_alloc_new w _, zeroF_size, zeroF_one⟩

section
variable {P : Program}
theorem run_storeVar_at (w : World) (g o : Nat) (t ty : TypeId) (cur cells : Array Value) (hg : w.heap[g]? = some (.cells cur t (0, 0))) (hfit : o + cells.size ≤ cur.size) (hi : (P.info? ty).map (·.size) = some cells.size)
    (h1 : cells.all (·.oneCell') = true) :
    (storeVar ty ⟨g, o, none⟩ (.agg cells)).run P w = .ok () (w.setRow g (cur.toList.take o ++ cells.toList ++ cur.toList.drop (o + cells.size)).toArray) := by
  have := run_storeCells_at P g o t cells.toList 0 cur w hg (by simpa using hfit) (fun v hv => (Array.all_eq_true_iff_forall_mem.1 h1) v (by simpa using hv))
  cases hq : P.info? ty with
  | none => simp [hq] at hi
  | some i =>
    have hs : cells.size = i.size := by simp [hq] at hi; omega
    simp only [Nat.add_zero, Array.length_toList] at this
    simp [storeVar, sizeOf, typeInfo, hq, Value.cells, hs]
    rw [← hs]
    simpa [List.append_assoc] using this

theorem wp_store_at {o : Oper} {a : Act} {w : World} {K : Act → World → Prop} {Q : Exit → Act → World → Prop} (ty : TypeId) (x y : Operand) (ho : o.op = .store ty x y)
    (g of : Nat) (cells : Array Value) (hx : a.eval x = .pointer (some ⟨g, of, none⟩)) (hy : a.eval y = .agg cells)
    (t : TypeId) (cur : Array Value) (hg : w.heap[g]? = some (.cells cur t (0, 0))) (hi : (P.info? ty).map (·.size) = some cells.size)
    (hfit : of + cells.size ≤ cur.size) (h1 : cells.all (·.oneCell') = true)
    (h : K (a.put o.dst undef) (w.setRow g (cur.toList.take of ++ cells.toList ++ cur.toList.drop (of + cells.size)).toArray)) : o.wp P a w K Q := by
  unfold Oper.wp execOp
  simp only [ho, hx, hy, Instr.storeAt, Instr.sureAddr, Sem.run_bind, Sem.run_pure, Result.andThen_ok, run_storeVar_at w g of t ty cur cells hg hfit hi h1]
  exact h
end

theorem row_at {w : World} {g o n : Nat} {T : TypeId} {cur cells : Array Value} (hg : w.heap[g]? = some (.cells cur T (0, 0))) (hn : cur.size = n) (h1 : cur.all (·.oneCell') = true) (hfit : o + cells.size ≤ cur.size) (h2 : cells.all (·.oneCell') = true) :
    RowN (w.setRow g (cur.toList.take o ++ cells.toList ++ cur.toList.drop (o + cells.size)).toArray) g T n := by
  refine ⟨_, setRow_heap w g _ _ _ _ hg, ?_, ?_⟩
  · simp
    omega
  · rw [Array.all_eq_true_iff_forall_mem] at h1 h2 ⊢
    intro v hv
    simp only [List.mem_toArray, List.mem_append] at hv
    rcases hv with (hv | hv) | hv
    · exact h1 v (by simpa using List.mem_of_mem_take hv)
    · exact h2 v (by simpa using hv)
    · exact h1 v (by simpa using List.mem_of_mem_drop hv)

theorem RowN.other {w : World} {g k n : Nat} {T : TypeId} (h : RowN w g T n) (hk : g ≠ k) (cs : Array Value) : RowN (w.setRow k cs) g T n := by
  obtain ⟨c, h1, h2⟩ := h
  exact ⟨c, (setRow_other w k g cs hk).trans h1, h2⟩

theorem results_F {fn : Func} {p u : Tmp} (h : fn.results = #[.cell p 55, .tmp u]) (tmps : Array Value) (w : World) (g : Nat) (cs : Array Value) (hn : cs.size = 384)
    (hp : tmps.getD p undef = .pointer (some ⟨g, 0, none⟩)) (hs : w.heap[g]? = some (.cells cs 55 (0, 0))) :
    (results fn tmps).run Tryz.prog w = .ok (.tuple #[.agg cs, tmps.getD u undef]) w := by
  rw [results_cell_tmp h, hp]
  simp only [asAddr, Sem.run_pure, Result.andThen_ok, run_loadVar_row w g _ _ _ _ _ hs Tryz.underlying55 rfl (by rw [sizeF, hn])]

section
variable {ops : Array Oper} {rest : List Oper} {o : Oper} {a : Act} {w : World} {Q : Exit → Act → World → Prop}
theorem wpList_build_F (hg : o.guard = none) (ho : o.op = .build 55 #[])
    (h : wpList Tryz.prog ops Q rest (a.put o.dst (.agg zeroF)) w) : wpList Tryz.prog ops Q (o :: rest) a w := by
  have e : ((#[] : Array (Nat × Operand)).map fun (i, x) => (i, a.eval x)).toList = [] := by simp
  refine wpList_build hg 55 #[] ho (by rw [e, builtF]; exact Option.isSome_some) ?_
  rw [e, builtF, Option.getD_some]
  exact h
end

theorem new_of {B : Nat} {wo W : World} (h : Below B wo W) : IsSet (W.alloc (.cells (setCells false noSet) 53 (0, 0))) W.heap.size false noSet := isSet_new W false noSet

theorem exec_alloc_set (ev : Operand → Value) (oi : Oper) (w : World) (ho : oi.op = .alloc 53) :
    (execOp ev oi).run Tryz.prog w = .ok (.value (.pointer (some ⟨w.heap.size, 0, none⟩))) (w.alloc (.cells (setCells false noSet) 53 (0, 0))) := by
  have := run_alloc_set w
  unfold execOp
  rw [ho]
  simp only [Sem.run_bind, Sem.run_pure, Result.andThen_ok, this]

theorem exec_load_set (ev : Operand → Value) (oi : Oper) (w : World) (x : Operand) (g : Nat) (st : Bool) (q : Nat → Bool) (ho : oi.op = .load 53 x) (hx : ev x = .pointer (some ⟨g, 0, none⟩)) (hs : IsSet w g st q) :
    (execOp ev oi).run Tryz.prog w = .ok (.value (.agg (setCells st q))) w := by
  have := run_load_set w g st q hs
  unfold execOp
  simp only [ho, hx, Instr.loadAt, Instr.sureAddr, Sem.run_bind, Sem.run_pure, Result.andThen_ok, this]

/-- a verdict over the first k fields -/
def SixV (l : List ByteArray) (k : Nat) (v : Int) : Prop := (v = 0 ∨ v = 1 ∨ v = 2) ∧ (v = 1 → ∀ j, j < k → (bitsAt l j).isSome = true)

def SixAns (w : World) (l : List ByteArray) (e : Ending) (w' : World) : Prop :=
  (∃ (cs : Array Value) (v : Int), e = .returned (.tuple #[.agg cs, .int .i64 v]) ∧ cs.size = 384 ∧ cs.all (·.oneCell') = true ∧ SixV l 6 v) ∧ Below w.heap.size w w'

set_option maxRecDepth 100000 in
set_option maxHeartbeats 4000000 in
theorem cronSix_any (g c : Nat) (l : List ByteArray) (hl : ∀ x ∈ l, x.size ≤ 4294967296) (w : World) (hT : Texts w g 6 c l) :
    Calls Tryz.prog 63 #[.slice (some ⟨g, 0, none⟩) 6 c] w (SixAns w l) := by
  have hal := run_alloc_F
  have HT := Lib.hid hT
  have hlen : l.length = 6 := hT.len.symm
  have hgw := hT.lt
  clear hT
  go_enter Tryz.func63, Tryz.ntmps63
  go_wp2_with fail
  have HR2 := Lib.hid ((zeroF_row w).below (w' := (w.alloc (.cells zeroF 55)).alloc (.cells zeroF 55)) ((Below.refl _ _).alloc (Nat.le_refl _) _))
  have HR4 := Lib.hid (zeroF_row (w.alloc (.cells zeroF 55)))
  rw [show (w.alloc (.cells zeroF 55)).heap.size = w.heap.size + 1 by simp] at HR4
  have HB0 : Hid (Below w.heap.size w ((w.alloc (.cells zeroF 55)).alloc (.cells zeroF 55))) := Lib.hid (((Below.refl _ _).alloc (Nat.le_refl _) _).alloc (by simp) _)
  go_loopw [5, 9] (fun v5 v9 wr => ∃ (k : Nat) (v : Int), v9 = .int .i64 k ∧ k ≤ 6 ∧ v5 = .int .i64 v ∧ Hid (SixV l k v) ∧ Hid (RowN wr w.heap.size 55 384) ∧ Hid (RowN wr (w.heap.size + 1) 55 384) ∧ Below w.heap.size w wr) (fun _ v9 _ => 6 - (intOf v9).toNat)
  case atStart => exact ⟨0, 1, rfl, by omega, rfl, Lib.hid ⟨.inr (.inl rfl), fun _ j hj => by omega⟩, HR2, HR4, HB0.out⟩
  case round =>
    obtain ⟨k, v, rfl, hk, rfl, HV, HRA, HRB, hbr⟩ := hrel
    clear HR2 HR4 HB0
    by_cases h6 : k < 6
    · have hgx := List.getElem?_eq_getElem (show k < l.length by omega)
      have hlx := hl _ (List.getElem_mem (show k < l.length by omega))
      have hgd : l.getD k ⟨#[]⟩ = l[k] := by simp [List.getD, show k < l.length by omega]
      have HBA : Hid (bitsAt l k = fieldS (valK k) (loK k) (hiK k) (l[k]).data.toList) := Lib.hid (by unfold bitsAt; rw [hgd])
      generalize l[k] = x at *
      have HCF := Lib.hid (fun w' => cronField_any (valK k) k (value_reads k h6) (loK k) (hiK k) x hlx (loK_le k) (hiK_le k) w')
      have HBO := Lib.hid (fun w' => boundsOf_any k w')
      have hcx : wr.cell? ⟨g, k, none⟩ = some (.string x) := (HT.out.below hbr).at_ k _ hgx
      have hgr : g < wr.heap.size := Nat.lt_of_lt_of_le hgw hbr.size
      have HBR := Lib.hid hbr
      have hdk : decide ((k : Int) < 6) = true := decide_eq_true (by omega)
      have hk6i : (k : Int) < 6 := by omega
      clear hgx hgd hbr
      go_upto_region 6 with fail
      obtain ⟨wo, rfl⟩ : ∃ wo : World, wo = wr := ⟨_, rfl⟩
      go_cut [7, 8] (fun v7 v8 wc => ∃ (g7 : Nat) (star : Bool) (p : Nat → Bool) (vx : Int), v7 = .pointer (some ⟨g7, 0, none⟩) ∧ v8 = .int .i64 vx ∧ Hid (ItemIs (bitsAt l k) star p vx) ∧ Hid (IsSet wc g7 star p) ∧ wo.heap.size ≤ g7 ∧ Below wo.heap.size wo wc)
      case first =>
        have halS := run_alloc_set
        refine start_ (n := 13) (S := fun w' => w'.cell? ⟨g, k, none⟩ = some (.string x) ∧ g < w'.heap.size ∧ Below wo.heap.size wo w') (ds := [11]) #[false, false, false, false, false, false, false, false, false, false, false, false, false] (by kernel_rfl) rfl rfl ⟨hcx, hgr, (Below.refl _ _).drew⟩ (fun hHeld => ?_)
        refine pure_ (i := 0) (N := some 13) (v := ?_) (a' := ?_) #[true, false, false, false, false, false, false, false, false, false, false, false, false] rfl rfl (by kernel_rfl) (fun _ _ _ h => h) (Or.inl ⟨by rfl, ?_⟩) ?_ ?_
        rotate_left
        · intro w'
          go_simp
          with_reducible rfl
        rotate_left
        · simp only [Act.put, List.setIfInBounds_toArray, List.set_cons_zero, List.set_cons_succ, i64_w, i32_w]
          rfl
        refine pure_ (i := 2) (N := some 15) (v := ?_) (a' := ?_) #[true, false, true, false, false, false, false, false, false, false, false, false, false] rfl rfl (by kernel_rfl) (fun _ _ _ h => h) (Or.inl ⟨by rfl, ?_⟩) ?_ ?_
        rotate_left
        · intro w'
          go_simp
          with_reducible rfl
        rotate_left
        · simp only [Act.put, List.setIfInBounds_toArray, List.set_cons_zero, List.set_cons_succ, i64_w, i32_w]
          rfl
        refine pure_ (i := 3) (N := some 16) (v := ?_) (a' := ?_) #[true, false, true, true, false, false, false, false, false, false, false, false, false] rfl rfl (by kernel_rfl) (fun _ _ _ h => h) (Or.inl ⟨by rfl, ?_⟩) ?_ ?_
        rotate_left
        · intro w'
          go_simp
          with_reducible rfl
        rotate_left
        · simp only [Act.put, List.setIfInBounds_toArray, List.set_cons_zero, List.set_cons_succ, i64_w, i32_w]
          rfl
        refine pure_ (i := 4) (N := some 17) (v := ?_) (a' := ?_) #[true, false, true, true, true, false, false, false, false, false, false, false, false] rfl rfl (by kernel_rfl) (fun _ _ _ h => h) (Or.inl ⟨by rfl, ?_⟩) ?_ ?_
        rotate_left
        · intro w'
          go_simp
          with_reducible rfl
        rotate_left
        · simp only [Act.put, List.setIfInBounds_toArray, List.set_cons_zero, List.set_cons_succ, i64_w, i32_w]
          rfl
        refine take_ (i := 5) (N := some 18) (v := ?_) (a' := ?_) #[true, false, true, true, true, true, false, false, false, false, false, false, false] rfl rfl (by kernel_rfl) (fun _ _ _ h => h) (Or.inl ⟨by rfl, ?_⟩) hHeld ?_ ?_
        rotate_left
        · rintro w' ⟨s0, s1, s2⟩
          go_simp
          with_reducible rfl
        rotate_left
        · simp only [Act.put, List.setIfInBounds_toArray, List.set_cons_zero, List.set_cons_succ, i64_w, i32_w]
          rfl
        refine join_ (σ := (Nat × Bool) × (Nat → Bool) × Int) 2 #[true, true, true, true, true, true, true, true, true, true, true, false, false] (fun s => [(14, .agg #[.int .i64 (loK k : Nat), .int .i64 (hiK k : Nat), .int .i64 k]), (19, .tuple #[.agg (setCells s.1.2 s.2.1), .int .i64 s.2.2]), (12, .tuple #[.agg (setCells s.1.2 s.2.1), .int .i64 s.2.2]), (20, .agg (setCells s.1.2 s.2.1)), (21, .int .i64 s.2.2), (7, .pointer (some ⟨s.1.1, 0, none⟩))]) (fun s w' => Hid (ItemIs (bitsAt l k) s.1.2 s.2.1 s.2.2) ∧ IsSet w' s.1.1 false noSet ∧ wo.heap.size ≤ s.1.1 ∧ (w'.cell? ⟨g, k, none⟩ = some (.string x) ∧ g < w'.heap.size ∧ Below wo.heap.size wo w')) ?_ ?_
        rotate_left
        · intro hCont
          refine two_ (i := 1) (j := 10) (Ni := some 14) (Nj := some 7) #[true, true, true, true, true, true, false, false, false, false, false, false, false] #[true, false, true, true, true, true, false, false, false, false, true, false, false] rfl rfl rfl rfl (by kernel_rfl) (by decide) (by decide) (fun K hK => ?_) (fun K hK => ?_)
          · skip
            refine goes_ Tryz.func81 (by kernel_rfl) rfl #[.int .i64 k] (by rfl) rfl rfl (by simp only [List.map_toArray, List.map_cons, List.map_nil]; rfl) ?_
            with_reducible refine (HBO.out _).mono ?_
            rintro e w4 ⟨rfl, hb4⟩
            refine ⟨_, rfl, ?_⟩
            refine hK.out _ _ ⟨(hb4.cell (p := ⟨g, k, none⟩) hHeld.2.1).trans hHeld.1, Nat.lt_of_lt_of_le hHeld.2.1 hb4.size, below_of_le hHeld.2.2 hb4⟩ (fun hHeld => ?_)
            clear hK K
            refine norm_ (a' := ?_) ?_ ?_
            rotate_left
            · show Act.put _ (some 14) _ = _
              simp only [Act.put, List.setIfInBounds_toArray, List.set_cons_zero, List.set_cons_succ, i64_w, i32_w]
              rfl
            refine two_ (i := 6) (j := 10) (Ni := some 19) (Nj := some 7) #[true, true, true, true, true, true, true, false, false, false, false, false, false] #[true, true, true, true, true, true, false, false, false, false, true, false, false] rfl rfl rfl rfl (by kernel_rfl) (by decide) (by decide) (fun K hK => ?_) (fun K hK => ?_)
            · skip
              refine goes_ Tryz.func80 (by kernel_rfl) rfl #[.agg #[.int .i64 (loK k : Nat), .int .i64 (hiK k : Nat), .int .i64 k], .string x] (by rfl) rfl rfl (by simp only [List.map_toArray, List.map_cons, List.map_nil]; rfl) ?_
              with_reducible refine (HCF.out _).mono ?_
              rintro e w5 ⟨star, p, vx, rfl, hi5, hb5⟩
              refine ⟨_, rfl, ?_⟩
              have HI5 := Lib.hid (show ItemIs (bitsAt l k) star p vx by rw [HBA.out]; exact hi5)
              clear hi5
              refine hK.out _ _ ⟨(hb5.cell (p := ⟨g, k, none⟩) hHeld.2.1).trans hHeld.1, Nat.lt_of_lt_of_le hHeld.2.1 hb5.size, below_of_le hHeld.2.2 hb5⟩ (fun hHeld => ?_)
              clear hK K
              refine norm_ (a' := ?_) ?_ ?_
              rotate_left
              · show Act.put _ (some 19) _ = _
                simp only [Act.put, List.setIfInBounds_toArray, List.set_cons_zero, List.set_cons_succ, i64_w, i32_w]
                rfl
              refine pure_ (i := 7) (N := some 12) (v := ?_) (a' := ?_) #[true, true, true, true, true, true, true, true, false, false, false, false, false] rfl rfl (by kernel_rfl) (fun _ _ _ h => h) (Or.inl ⟨by rfl, ?_⟩) ?_ ?_
              rotate_left
              · intro w'
                go_simp
                with_reducible rfl
              rotate_left
              · simp only [Act.put, List.setIfInBounds_toArray, List.set_cons_zero, List.set_cons_succ, i64_w, i32_w]
                rfl
              refine pure_ (i := 8) (N := some 20) (v := ?_) (a' := ?_) #[true, true, true, true, true, true, true, true, true, false, false, false, false] rfl rfl (by kernel_rfl) (fun _ _ _ h => h) (Or.inl ⟨by rfl, ?_⟩) ?_ ?_
              rotate_left
              · intro w'
                go_simp
                with_reducible rfl
              rotate_left
              · simp only [Act.put, List.setIfInBounds_toArray, List.set_cons_zero, List.set_cons_succ, i64_w, i32_w]
                rfl
              refine pure_ (i := 9) (N := some 21) (v := ?_) (a' := ?_) #[true, true, true, true, true, true, true, true, true, true, false, false, false] rfl rfl (by kernel_rfl) (fun _ _ _ h => h) (Or.inl ⟨by rfl, ?_⟩) ?_ ?_
              rotate_left
              · intro w'
                go_simp
                with_reducible rfl
              rotate_left
              · simp only [Act.put, List.setIfInBounds_toArray, List.set_cons_zero, List.set_cons_succ, i64_w, i32_w]
                rfl
              refine one_ (i := 10) (N := some 7) #[true, true, true, true, true, true, true, true, true, true, true, false, false] rfl rfl (by kernel_rfl) (by decide) (fun K hK => ?_)
              have hge7 := hHeld.2.2.size
              have hs7 := new_of hHeld.2.2
              refine value_ (by rfl) rfl (exec_alloc_set _ _ _ rfl) ?_
              refine hK.out _ _ ⟨((Below.refl _ _).alloc (Nat.le_refl _) _ |>.cell (p := ⟨g, k, none⟩) hHeld.2.1).trans hHeld.1, Nat.lt_of_lt_of_le hHeld.2.1 (by simp), hHeld.2.2.alloc hHeld.2.2.size _⟩ (fun hHeld => ?_)
              clear hK K
              refine norm_ (a' := ?_) ?_ ?_
              rotate_left
              · show Act.put _ (some 7) _ = _
                simp only [Act.put, List.setIfInBounds_toArray, List.set_cons_zero, List.set_cons_succ, i64_w, i32_w]
                rfl
              exact norm_ (by simp only [putAll, Act.put, List.setIfInBounds_toArray, List.set_cons_zero, List.set_cons_succ]) (hCont ((w5.heap.size, star), p, vx) _ ⟨HI5, hs7, hge7, hHeld⟩)
            · skip
              have hge7 := hHeld.2.2.size
              have hs7 := new_of hHeld.2.2
              refine value_ (by rfl) rfl (exec_alloc_set _ _ _ rfl) ?_
              refine hK.out _ _ ⟨((Below.refl _ _).alloc (Nat.le_refl _) _ |>.cell (p := ⟨g, k, none⟩) hHeld.2.1).trans hHeld.1, Nat.lt_of_lt_of_le hHeld.2.1 (by simp), hHeld.2.2.alloc hHeld.2.2.size _⟩ (fun hHeld => ?_)
              clear hK K
              refine norm_ (a' := ?_) ?_ ?_
              rotate_left
              · show Act.put _ (some 7) _ = _
                simp only [Act.put, List.setIfInBounds_toArray, List.set_cons_zero, List.set_cons_succ, i64_w, i32_w]
                rfl
              refine one_ (i := 6) (N := some 19) #[true, true, true, true, true, true, true, false, false, false, true, false, false] rfl rfl (by kernel_rfl) (by decide) (fun K hK => ?_)
              refine goes_ Tryz.func80 (by kernel_rfl) rfl #[.agg #[.int .i64 (loK k : Nat), .int .i64 (hiK k : Nat), .int .i64 k], .string x] (by rfl) rfl rfl (by simp only [List.map_toArray, List.map_cons, List.map_nil]; rfl) ?_
              with_reducible refine (HCF.out _).mono ?_
              rintro e w5 ⟨star, p, vx, rfl, hi5, hb5⟩
              refine ⟨_, rfl, ?_⟩
              have HI5 := Lib.hid (show ItemIs (bitsAt l k) star p vx by rw [HBA.out]; exact hi5)
              clear hi5
              refine hK.out _ _ ⟨(hb5.cell (p := ⟨g, k, none⟩) hHeld.2.1).trans hHeld.1, Nat.lt_of_lt_of_le hHeld.2.1 hb5.size, below_of_le hHeld.2.2 hb5⟩ (fun hHeld => ?_)
              clear hK K
              refine norm_ (a' := ?_) ?_ ?_
              rotate_left
              · show Act.put _ (some 19) _ = _
                simp only [Act.put, List.setIfInBounds_toArray, List.set_cons_zero, List.set_cons_succ, i64_w, i32_w]
                rfl
              refine pure_ (i := 7) (N := some 12) (v := ?_) (a' := ?_) #[true, true, true, true, true, true, true, true, false, false, true, false, false] rfl rfl (by kernel_rfl) (fun _ _ _ h => h) (Or.inl ⟨by rfl, ?_⟩) ?_ ?_
              rotate_left
              · intro w'
                go_simp
                with_reducible rfl
              rotate_left
              · simp only [Act.put, List.setIfInBounds_toArray, List.set_cons_zero, List.set_cons_succ, i64_w, i32_w]
                rfl
              refine pure_ (i := 8) (N := some 20) (v := ?_) (a' := ?_) #[true, true, true, true, true, true, true, true, true, false, true, false, false] rfl rfl (by kernel_rfl) (fun _ _ _ h => h) (Or.inl ⟨by rfl, ?_⟩) ?_ ?_
              rotate_left
              · intro w'
                go_simp
                with_reducible rfl
              rotate_left
              · simp only [Act.put, List.setIfInBounds_toArray, List.set_cons_zero, List.set_cons_succ, i64_w, i32_w]
                rfl
              refine pure_ (i := 9) (N := some 21) (v := ?_) (a' := ?_) #[true, true, true, true, true, true, true, true, true, true, true, false, false] rfl rfl (by kernel_rfl) (fun _ _ _ h => h) (Or.inl ⟨by rfl, ?_⟩) ?_ ?_
              rotate_left
              · intro w'
                go_simp
                with_reducible rfl
              rotate_left
              · simp only [Act.put, List.setIfInBounds_toArray, List.set_cons_zero, List.set_cons_succ, i64_w, i32_w]
                rfl
              exact norm_ (by simp only [putAll, Act.put, List.setIfInBounds_toArray, List.set_cons_zero, List.set_cons_succ]) (hCont ((w4.heap.size, star), p, vx) _ ⟨HI5, hs7.below hb5, hge7, hHeld⟩)
          · skip
            have hge7 := hHeld.2.2.size
            have hs7 := new_of hHeld.2.2
            refine value_ (by rfl) rfl (exec_alloc_set _ _ _ rfl) ?_
            refine hK.out _ _ ⟨((Below.refl _ _).alloc (Nat.le_refl _) _ |>.cell (p := ⟨g, k, none⟩) hHeld.2.1).trans hHeld.1, Nat.lt_of_lt_of_le hHeld.2.1 (by simp), hHeld.2.2.alloc hHeld.2.2.size _⟩ (fun hHeld => ?_)
            clear hK K
            refine norm_ (a' := ?_) ?_ ?_
            rotate_left
            · show Act.put _ (some 7) _ = _
              simp only [Act.put, List.setIfInBounds_toArray, List.set_cons_zero, List.set_cons_succ, i64_w, i32_w]
              rfl
            refine one_ (i := 1) (N := some 14) #[true, true, true, true, true, true, false, false, false, false, true, false, false] rfl rfl (by kernel_rfl) (by decide) (fun K hK => ?_)
            refine goes_ Tryz.func81 (by kernel_rfl) rfl #[.int .i64 k] (by rfl) rfl rfl (by simp only [List.map_toArray, List.map_cons, List.map_nil]; rfl) ?_
            with_reducible refine (HBO.out _).mono ?_
            rintro e w4 ⟨rfl, hb4⟩
            refine ⟨_, rfl, ?_⟩
            refine hK.out _ _ ⟨(hb4.cell (p := ⟨g, k, none⟩) hHeld.2.1).trans hHeld.1, Nat.lt_of_lt_of_le hHeld.2.1 hb4.size, below_of_le hHeld.2.2 hb4⟩ (fun hHeld => ?_)
            clear hK K
            refine norm_ (a' := ?_) ?_ ?_
            rotate_left
            · show Act.put _ (some 14) _ = _
              simp only [Act.put, List.setIfInBounds_toArray, List.set_cons_zero, List.set_cons_succ, i64_w, i32_w]
              rfl
            refine one_ (i := 6) (N := some 19) #[true, true, true, true, true, true, true, false, false, false, true, false, false] rfl rfl (by kernel_rfl) (by decide) (fun K hK => ?_)
            refine goes_ Tryz.func80 (by kernel_rfl) rfl #[.agg #[.int .i64 (loK k : Nat), .int .i64 (hiK k : Nat), .int .i64 k], .string x] (by rfl) rfl rfl (by simp only [List.map_toArray, List.map_cons, List.map_nil]; rfl) ?_
            with_reducible refine (HCF.out _).mono ?_
            rintro e w5 ⟨star, p, vx, rfl, hi5, hb5⟩
            refine ⟨_, rfl, ?_⟩
            have HI5 := Lib.hid (show ItemIs (bitsAt l k) star p vx by rw [HBA.out]; exact hi5)
            clear hi5
            refine hK.out _ _ ⟨(hb5.cell (p := ⟨g, k, none⟩) hHeld.2.1).trans hHeld.1, Nat.lt_of_lt_of_le hHeld.2.1 hb5.size, below_of_le hHeld.2.2 hb5⟩ (fun hHeld => ?_)
            clear hK K
            refine norm_ (a' := ?_) ?_ ?_
            rotate_left
            · show Act.put _ (some 19) _ = _
              simp only [Act.put, List.setIfInBounds_toArray, List.set_cons_zero, List.set_cons_succ, i64_w, i32_w]
              rfl
            refine pure_ (i := 7) (N := some 12) (v := ?_) (a' := ?_) #[true, true, true, true, true, true, true, true, false, false, true, false, false] rfl rfl (by kernel_rfl) (fun _ _ _ h => h) (Or.inl ⟨by rfl, ?_⟩) ?_ ?_
            rotate_left
            · intro w'
              go_simp
              with_reducible rfl
            rotate_left
            · simp only [Act.put, List.setIfInBounds_toArray, List.set_cons_zero, List.set_cons_succ, i64_w, i32_w]
              rfl
            refine pure_ (i := 8) (N := some 20) (v := ?_) (a' := ?_) #[true, true, true, true, true, true, true, true, true, false, true, false, false] rfl rfl (by kernel_rfl) (fun _ _ _ h => h) (Or.inl ⟨by rfl, ?_⟩) ?_ ?_
            rotate_left
            · intro w'
              go_simp
              with_reducible rfl
            rotate_left
            · simp only [Act.put, List.setIfInBounds_toArray, List.set_cons_zero, List.set_cons_succ, i64_w, i32_w]
              rfl
            refine pure_ (i := 9) (N := some 21) (v := ?_) (a' := ?_) #[true, true, true, true, true, true, true, true, true, true, true, false, false] rfl rfl (by kernel_rfl) (fun _ _ _ h => h) (Or.inl ⟨by rfl, ?_⟩) ?_ ?_
            rotate_left
            · intro w'
              go_simp
              with_reducible rfl
            rotate_left
            · simp only [Act.put, List.setIfInBounds_toArray, List.set_cons_zero, List.set_cons_succ, i64_w, i32_w]
              rfl
            exact norm_ (by simp only [putAll, Act.put, List.setIfInBounds_toArray, List.set_cons_zero, List.set_cons_succ]) (hCont ((wo.drew.heap.size, star), p, vx) _ ⟨HI5, (hs7.below hb4).below hb5, hge7, hHeld⟩)
        rintro ⟨⟨g7, star⟩, p, vx⟩ w5 ⟨HI5, hs7, hge7, hHeld⟩
        refine norm_ (a' := ?_) ?_ ?_
        rotate_left
        · simp only [putAll, Act.put, List.setIfInBounds_toArray, List.set_cons_zero, List.set_cons_succ]
          rfl
        refine last_ (i := 11) (N := none) #[true, true, true, true, true, true, true, true, true, true, true, true, false] rfl rfl (by kernel_rfl) (by decide) (fun K hK => ?_)
        rw [if_pos (by rfl)]
        refine wp_store_row 53 _ _ rfl g7 (setCells star p) rfl rfl 53 (setCells false noSet) hs7 (by rw [setSize, setCells_size]) (by rw [setCells_size, setCells_size]) (setCells_one _ _) ?_
        refine hK.out _ _ ?_
        clear hK K
        refine pure_ (i := 12) (N := some 8) (v := ?_) (a' := ?_) #[true, true, true, true, true, true, true, true, true, true, true, true, true] rfl rfl (by kernel_rfl) (fun _ _ _ h => h) (Or.inl ⟨by rfl, ?_⟩) ?_ ?_
        rotate_left
        · intro w'
          go_simp
          with_reducible rfl
        rotate_left
        · simp only [Act.put, List.setIfInBounds_toArray, List.set_cons_zero, List.set_cons_succ, i64_w, i32_w]
          rfl
        refine done_ (by kernel_rfl) ?_
        go_wp2_with fail
        go_meet
        exact ⟨g7, star, p, vx, rfl, rfl, HI5, Lib.hid (hs7.store _ _), hge7, below_setRow hHeld.2.2 hge7 _⟩
      case rest =>
      obtain ⟨g7, star, p, vx, rfl, rfl, HI, HIS, hge7, hbc⟩ := hcut
      obtain ⟨v3, hw3, hvs3, hw0, hw1, _, _⟩ := worse_f v vx HV.out.1 HI.out.vs
      have HV' : Hid (SixV l (k + 1) v3) := Lib.hid ⟨hvs3, fun h j hj => by
        obtain ⟨h1, h2⟩ := hw1 h
        by_cases hjk : j < k
        · exact HV.out.2 h1 j hjk
        · obtain rfl : j = k := by omega
          rw [HI.out.fine h2]; rfl⟩
      have HC := Lib.hid (fun w' => spec_worse.calls v vx v3 w' hw3)
      obtain ⟨cs, hcs, hn, h1⟩ := HRB.out.below hbc
      have hw1s := HRB.out.lt
      have hw1c : w.heap.size + 1 < wc.heap.size := Nat.lt_of_lt_of_le hw1s hbc.size
      have HRA1 := Lib.hid (HRA.out.below hbc)
      have hB2 := below_of_le HBR.out hbc
      clear hw3 hw0 hw1 HV HI HRA HRB HBO HCF HBA hcx hgr hvs3
      go_upto_region 7 with fail
      refine start_ (n := 8) (S := fun w' => IsSet w' g7 star p ∧ w'.heap[w.heap.size + 1]? = some (.cells cs 55 (0, 0))) (ds := [6]) #[false, false, false, false, false, false, false, false] (by kernel_rfl) rfl rfl ⟨HIS.out, hcs⟩ (fun hHeld => ?_)
      refine pure_ (i := 0) (N := some 22) (v := ?_) (a' := ?_) #[true, false, false, false, false, false, false, false] rfl rfl (by kernel_rfl) (fun _ _ _ h => h) (Or.inl ⟨by rfl, ?_⟩) ?_ ?_
      rotate_left
      · intro w'
        go_simp
        with_reducible rfl
      rotate_left
      · simp only [Act.put, List.setIfInBounds_toArray, List.set_cons_zero, List.set_cons_succ, i64_w, i32_w]
        rfl
      refine pure_ (i := 2) (N := some 24) (v := ?_) (a' := ?_) #[true, false, true, false, false, false, false, false] rfl rfl (by kernel_rfl) (fun _ _ _ h => h) (Or.inl ⟨by rfl, ?_⟩) ?_ ?_
      rotate_left
      · intro w'
        go_simp
        with_reducible rfl
      rotate_left
      · simp only [Act.put, List.setIfInBounds_toArray, List.set_cons_zero, List.set_cons_succ, i64_w, i32_w]
        rfl
      refine pure_ (i := 3) (N := some 25) (v := ?_) (a' := ?_) #[true, false, true, true, false, false, false, false] rfl rfl (by kernel_rfl) (fun _ _ _ h => h) (Or.inl ⟨by rfl, ?_⟩) ?_ ?_
      rotate_left
      · intro w'
        go_simp
        with_reducible rfl
      rotate_left
      · simp only [Act.put, List.setIfInBounds_toArray, List.set_cons_zero, List.set_cons_succ, i64_w, i32_w]
        rfl
      refine take_ (i := 1) (N := some 23) (v := ?_) (a' := ?_) #[true, true, true, true, false, false, false, false] rfl rfl (by kernel_rfl) (fun _ _ _ h => h) (Or.inl ⟨by rfl, ?_⟩) hHeld ?_ ?_
      rotate_left
      · rintro w' ⟨s0, s1⟩
        refine exec_load_set _ _ _ ?_ g7 star p ?_ ?_ s0
        rotate_left
        · rfl
        · rfl
      rotate_left
      · simp only [Act.put, List.setIfInBounds_toArray, List.set_cons_zero, List.set_cons_succ, i64_w, i32_w]
        rfl
      refine pure_ (i := 5) (N := some 27) (v := ?_) (a' := ?_) #[true, true, true, true, false, true, false, false] rfl rfl (by kernel_rfl) (fun _ _ _ h => h) (Or.inl ⟨by rfl, ?_⟩) ?_ ?_
      rotate_left
      · intro w'
        go_simp
        with_reducible rfl
      rotate_left
      · simp only [Act.put, List.setIfInBounds_toArray, List.set_cons_zero, List.set_cons_succ, i64_w, i32_w]
        rfl
      refine one_ (i := 4) (N := some 26) #[true, true, true, true, true, true, false, false] rfl rfl (by kernel_rfl) (by decide) (fun K hK => ?_)
      refine goes_ Tryz.func46 (by kernel_rfl) rfl #[.int .i64 v, .int .i64 vx] (by rfl) rfl rfl (by simp only [List.map_toArray, List.map_cons, List.map_nil]; rfl) ?_
      with_reducible refine (HC.out _).mono ?_
      rintro e w4 ⟨rfl, hb4⟩
      refine ⟨_, rfl, ?_⟩
      refine hK.out _ _ ⟨IsSet.below (w := wc.drew) HIS.out hb4, (hb4.block (w.heap.size + 1) hw1c).trans hcs⟩ (fun hHeld => ?_)
      clear hK K
      refine norm_ (a' := ?_) ?_ ?_
      rotate_left
      · show Act.put _ (some 26) _ = _
        simp only [Act.put, List.setIfInBounds_toArray, List.set_cons_zero, List.set_cons_succ, i64_w, i32_w]
        rfl
      refine last_ (i := 6) (N := none) #[true, true, true, true, true, true, true, false] rfl rfl (by kernel_rfl) (by decide) (fun K hK => ?_)
      rw [if_pos (by rfl)]
      refine wp_store_at 53 _ _ rfl (w.heap.size + 1) (k * 64) (setCells star p) rfl rfl 55 cs hHeld.2 (by rw [setSize, setCells_size]) (by rw [setCells_size, hn]; omega) (setCells_one _ _) ?_
      refine hK.out _ _ ?_
      clear hK K
      refine pure_ (i := 7) (N := some 5) (v := ?_) (a' := ?_) #[true, true, true, true, true, true, true, true] rfl rfl (by kernel_rfl) (fun _ _ _ h => h) (Or.inl ⟨by rfl, ?_⟩) ?_ ?_
      rotate_left
      · intro w'
        go_simp
        with_reducible rfl
      rotate_left
      · simp only [Act.put, List.setIfInBounds_toArray, List.set_cons_zero, List.set_cons_succ, i64_w, i32_w]
        rfl
      refine done_ (by kernel_rfl) ?_
      have hb4 : Below wc.heap.size wc w4 := below_of_le (Below.refl _ _).drew hb4
      have hcs4 := (hb4.block (w.heap.size + 1) hw1c).trans hcs
      have HRB4 := Lib.hid (row_at (o := k * 64) (cells := setCells star p) hcs4 hn h1 (by rw [setCells_size, hn]; omega) (setCells_one _ _))
      rw [List.append_assoc] at HRB4
      have hB4 := below_of_le hB2 hb4
      have HRA4 := Lib.hid (HRA1.out.below hb4)
      go_wp2_with fail
      go_roundw
      case rel =>
        exact ⟨k + 1, v3, by go_num, by omega, rfl, HV', Lib.hid (HRA4.out.other (by omega) _), HRB4, below_setRow hB4 (by omega) _⟩
      case measure => simp [intOf]; omega
    · obtain rfl : k = 6 := by omega
      obtain ⟨ca, hca, hna, h1a⟩ := HRA.out
      obtain ⟨cb, hcb, hnb, h1b⟩ := HRB.out
      by_cases hv : v = 1
      · subst hv
        go_wp2_with (first | (refine wpList_load_row rfl 55 _ rfl (w.heap.size + 1) rfl _ _ _ _ hcb Tryz.underlying55 rfl (by rw [sizeF, hnb]) ?_) | (refine wpList_store_row rfl 55 _ _ rfl w.heap.size cb rfl rfl _ _ hca (by rw [sizeF, hnb]) (by rw [hna, hnb]) h1b ?_))
        refine bodyPost_ret (v := .tuple #[.agg cb, .int .i64 1]) ?_ rfl ?_
        · exact results_F (fn := Tryz.f63) (p := 2) (u := 3) rfl _ _ w.heap.size _ hnb rfl (setRow_heap _ _ _ _ _ _ hca)
        exact ⟨⟨cb, 1, rfl, hnb, h1b, HV.out⟩, below_setRow hbr (by omega) _⟩
      · have hne : (v != 1) = true := by simpa using hv
        clear hv
        go_wp2_with (first | (refine wpList_build_F rfl rfl ?_) | (refine wpList_store_row rfl 55 _ _ rfl w.heap.size zeroF rfl rfl _ _ hca (by rw [sizeF, zeroF_size]) (by rw [hna, zeroF_size]) zeroF_one ?_))
        refine bodyPost_ret (v := .tuple #[.agg zeroF, .int .i64 v]) ?_ rfl ?_
        · exact results_F (fn := Tryz.f63) (p := 2) (u := 3) rfl _ _ w.heap.size _ zeroF_size rfl (setRow_heap _ _ _ _ _ _ hca)
        exact ⟨⟨zeroF, v, rfl, zeroF_size, zeroF_one, HV.out⟩, below_setRow hbr (by omega) _⟩
end Go.Proofs.YtikgnpachlgakaaGreatDoor.Cron

namespace Go.Proofs.YtikgnpachlgakaaGreatDoor.Cron
open Go Go.RowKit Go.Proofs.YtikgnpachlgakaaGreatDoor.Text Go.Proofs.YtikgnpachlgakaaGreatDoorW.PrintWords Go.Proofs.YtikgnpachlgakaaGreatDoorW.PrintLast Go.Proofs.YtikgnpachlgakaaGreatDoorW.PrintMore Go.Proofs.YtikgnpachlgakaaGreatDoor.Pr
set_option linter.unusedVariables false
set_option linter.unusedSimpArgs false

def Ascii (s : ByteArray) : Prop := ∀ c ∈ s.data.toList, c.toNat < 128

theorem blank_f (n : Nat) (h : n < 128) : spec_cronBlank.f (n : Int) = some (spaceZ n) := by
  unfold spec_cronBlank.f
  by_cases h32 : n = 32
  · subst h32; rfl
  · rw [if_neg (by omega)]
    by_cases h9 : 9 ≤ n
    · rw [if_pos (by omega)]
      congr 1
      unfold spaceZ
      rw [Bool.eq_iff_iff]
      simp only [decide_eq_true_eq]
      omega
    · rw [if_neg (by omega)]
      congr 1
      unfold spaceZ
      symm
      apply decide_eq_false
      omega

def frm : Option Nat → Int
  | none => -1
  | some a => (a : Int)
theorem frm_none : frm none = -1 := rfl
theorem frm_some (a : Nat) : frm (some a) = (a : Int) := rfl

theorem words_l0 (s : ByteArray) (hs : s.size ≤ 4294967296) (ha : Ascii s) : ∀ (d i : Nat) (st : Option Nat) (acc : List (Nat × Nat)) (k : Nat), s.size - i = d → i ≤ s.size → 2 * d < k → (∀ a, st = some a → a < i) → acc.length ≤ i →
    spec_CronWords.l0 k s (acc.map (spanBa s)) (frm st) (s.size : Int) (i : Int) = some ((Lib.closeSpans s (Lib.spansFromP spaceZ s d i st acc)).map (spanBa s))
  | 0, i, st, acc, k, hd, hi, hk, hst, hac => by
    obtain ⟨k, rfl⟩ : ∃ m, k = m + 1 := ⟨k - 1, by omega⟩
    unfold spec_CronWords.l0 Lib.spansFromP Lib.closeSpans
    rw [if_neg (by omega)]
    cases st with
    | none =>
      rw [frm_none, if_neg (by omega)]
    | some a =>
      have := hst a rfl
      rw [frm_some, if_pos (by omega), if_pos (by omega), if_pos (by omega), if_pos (by rw [List.length_map]; omega), Int.toNat_natCast]
      simp [spanBa]
  | d + 1, i, st, acc, k, hd, hi, hk, hst, hac => by
    obtain ⟨k, rfl⟩ : ∃ m, k = m + 2 := ⟨k - 2, by omega⟩
    have hlt : i < s.size := by omega
    have hl : i < s.data.toList.length := by rw [← size_list]; exact hlt
    have hw : wrap64 ((i : Int) + 1) = ((i + 1 : Nat) : Int) := by
      unfold wrap64
      omega
    have hbt := bt_list s i hl
    have hget := List.getElem?_eq_getElem hl
    have hc := ha _ (List.getElem_mem hl)
    generalize s.data.toList[i] = c at *
    have hb := blank_f c.toNat hc
    rw [← hbt] at hb
    have hdec := (dec_at c hc s i hlt).1 hget
    unfold spec_CronWords.l0 Lib.spansFromP
    rw [if_pos (by omega), if_pos (by omega), if_pos (by omega), hb, if_pos hlt, hdec]
    simp only [Option.bind_some]
    cases hsp : spaceZ c.toNat with
    | true =>
      rw [hsp] at hb
      rw [if_pos rfl, if_pos rfl]
      unfold spec_CronWords.j1
      cases st with
      | none =>
        have hf : decide (frm none ≥ 0) = false := by decide
        rw [hf, if_neg (by decide), if_pos (by omega), if_pos (by omega), hb]
        simp only [Option.bind_some, if_true]
        rw [hw]
        exact words_l0 s hs ha d (i + 1) none acc k (by omega) (by omega) (by omega) (fun a h => by cases h) (by omega)
      | some a =>
        have hai := hst a rfl
        have hf : decide (frm (some a) ≥ 0) = true := decide_eq_true (by rw [frm_some]; omega)
        rw [hf, if_pos rfl]
        rw [frm_some, if_pos (by omega), if_pos (by omega), if_pos (by omega), if_pos (by rw [List.length_map]; omega), hw, Int.toNat_natCast, Int.toNat_natCast]
        have := words_l0 s hs ha d (i + 1) none (acc ++ [(a, i)]) k (by omega) (by omega) (by omega) (fun a h => by cases h) (by simp; omega)
        simp only [List.map_append, List.map_cons, List.map_nil, spanBa, frm_none] at this ⊢
        exact this
    | false =>
      rw [hsp] at hb
      rw [if_neg (by decide), if_neg (by decide)]
      unfold spec_CronWords.j1
      rw [if_neg (by decide), if_pos (by omega), if_pos (by omega), hb]
      simp only [Option.bind_some]
      rw [if_neg (by decide)]
      cases st with
      | none =>
        rw [frm_none, if_pos (by omega), hw]
        exact words_l0 s hs ha d (i + 1) (some i) acc k (by omega) (by omega) (by omega) (fun a h => by injection h with h; omega) (by omega)
      | some a =>
        have hai := hst a rfl
        rw [frm_some, if_neg (by omega), hw]
        exact words_l0 s hs ha d (i + 1) (some a) acc k (by omega) (by omega) (by omega) (fun a' h => by injection h with h; omega) (by omega)

/-- the reference's words are the program's -/
theorem words_f (s : ByteArray) (hs : s.size ≤ 4294967296) (ha : Ascii s) : ∃ k, spec_CronWords.f k s = some (fieldsZ s) := by
  refine ⟨2 * s.size + 1, ?_⟩
  unfold spec_CronWords.f
  have := words_l0 s hs ha s.size 0 none [] (2 * s.size + 1) (by omega) (by omega) (by omega) (fun a h => by cases h) (by simp)
  exact this

/-- words with a blank between each two of them -/
def joinL : List ByteArray → List UInt8
  | [] => []
  | x :: xs => x.data.toList ++ joinTail xs
where joinTail : List ByteArray → List UInt8
  | [] => []
  | x :: xs => 32 :: x.data.toList ++ joinTail xs

theorem ba_append (x y : ByteArray) : x ++ y = ba (x.data.toList ++ y.data.toList) := by
  apply ByteArray.ext
  simp [ba]

theorem join_l0 (xs : List ByteArray) (N : Nat) (hN : ∀ x ∈ xs, x.size ≤ N) (hlen : xs.length ≤ 2147483647) (hNN : N ≤ 2147483647) : ∀ (d i : Nat) (acc : List UInt8) (k : Nat), xs.length - i = d → i ≤ xs.length → d < k → 0 < i → acc.length ≤ i * (N + 1) →
    spec_CronJoin.l0 k ⟨#[32]⟩ (ba acc) xs (xs.length : Int) (i : Int) = some (ba (acc ++ joinL.joinTail (xs.drop i)))
  | 0, i, acc, k, hd, hi, hk, h0, hac => by
    obtain ⟨k, rfl⟩ : ∃ m, k = m + 1 := ⟨k - 1, by omega⟩
    unfold spec_CronJoin.l0
    rw [if_neg (by omega), List.drop_eq_nil_of_le (by omega)]
    simp [joinL.joinTail]
  | d + 1, i, acc, k, hd, hi, hk, h0, hac => by
    obtain ⟨k, rfl⟩ : ∃ m, k = m + 1 := ⟨k - 1, by omega⟩
    have hlt : i < xs.length := by omega
    have hw : wrap64 ((i : Int) + 1) = ((i + 1 : Nat) : Int) := by
      unfold wrap64
      omega
    have hrd : rdOf ByteArray.empty xs (i : Int) = xs[i] := by
      unfold rdOf
      rw [Int.toNat_natCast]
      simp [List.getD, hlt]
    have hxs := hN _ (List.getElem_mem hlt)
    have hdr := List.drop_eq_getElem_cons hlt
    generalize xs[i] = x at *
    have hmul : i * (N + 1) ≤ 2147483647 * 2147483648 := Nat.mul_le_mul (by omega) (by omega)
    have ej : ba acc ++ ⟨#[32]⟩ ++ x = ba (acc ++ (32 :: x.data.toList)) := by
      apply ByteArray.ext
      simp [ba]
    have hsz1 : (ba acc).size = acc.length := ba_size acc
    have hsz2 : (ba acc ++ (⟨#[32]⟩ : ByteArray)).size = acc.length + 1 := by
      rw [ByteArray.size_append, hsz1]; rfl
    unfold spec_CronJoin.l0
    rw [if_pos (by omega), if_pos (by omega), if_pos (by omega), if_pos (by omega), hrd, if_pos (by rw [hsz1]; show acc.length + 1 ≤ _; omega), if_pos (by rw [hsz2]; omega), ej, hw,
      join_l0 xs N hN hlen hNN d (i + 1) _ k (by omega) (by omega) (by omega) (by omega) (by
        rw [List.length_append, List.length_cons, ← size_list, Nat.add_mul]
        omega), hdr]
    simp [joinL.joinTail]

theorem join_f (xs : List ByteArray) (N : Nat) (hN : ∀ x ∈ xs, x.size ≤ N) (hlen : xs.length ≤ 2147483647) (hNN : N ≤ 2147483647) : ∃ k, spec_CronJoin.f k xs ⟨#[32]⟩ = some (ba (joinL xs)) := by
  cases xs with
  | nil =>
    refine ⟨1, ?_⟩
    rfl
  | cons x xs =>
    refine ⟨xs.length + 3, ?_⟩
    have hw : wrap64 ((0 : Int) + 1) = ((1 : Nat) : Int) := by
      unfold wrap64
      omega
    have hx := hN x (List.mem_cons_self ..)
    have hrd : rdOf ByteArray.empty (x :: xs) (0 : Int) = x := rfl
    have h0 : (⟨#[]⟩ : ByteArray) ++ x = ba x.data.toList := by
      apply ByteArray.ext
      simp [ba]
    have := join_l0 (x :: xs) N hN hlen hNN xs.length 1 x.data.toList (xs.length + 2) (by simp) (by simp) (by omega) (by omega) (by rw [← size_list]; omega)
    unfold spec_CronJoin.f spec_CronJoin.l0
    rw [if_pos (by simp), if_pos (by omega), if_pos (by simp), if_neg (by omega), hrd, if_pos (by show 0 + x.size ≤ _; omega), h0, hw, this]
    rfl

/-! ## The words of words joined by blanks -/

theorem join_tail (xs : List ByteArray) (hx : ∀ x ∈ xs, x.data.toList ≠ [] ∧ ∀ c ∈ x.data.toList, c ≠ 32) : partsL 32 (joinL.joinTail xs) = xs.map fun x => x.data.toList := by
  induction xs with
  | nil => rfl
  | cons x xs ih =>
    have ih := ih fun y hy => hx y (List.mem_cons_of_mem _ hy)
    obtain ⟨h1, h2⟩ := hx x (List.mem_cons_self ..)
    unfold joinL.joinTail
    cases xs with
    | nil =>
      simp only [joinL.joinTail, List.append_nil, List.cons_append]
      unfold partsL
      rw [splitL_cons_eq, splitL_plain _ h2, List.filter_cons_of_neg (by simp), List.filter_cons_of_pos (by simpa using h1)]
      rfl
    | cons y ys =>
      have e : (32 : UInt8) :: x.data.toList ++ joinL.joinTail (y :: ys) = 32 :: (x.data.toList ++ 32 :: (y.data.toList ++ joinL.joinTail ys)) := by simp [joinL.joinTail]
      rw [e]
      unfold partsL at ih ⊢
      rw [splitL_cons_eq, List.filter_cons_of_neg (by simp), splitL_part _ _ h2, List.filter_cons_of_pos (by simpa using h1)]
      have e2 : joinL.joinTail (y :: ys) = 32 :: (y.data.toList ++ joinL.joinTail ys) := rfl
      rw [e2, splitL_cons_eq, List.filter_cons_of_neg (by simp)] at ih
      rw [ih]
      rfl

theorem join_parts (xs : List ByteArray) (hx : ∀ x ∈ xs, x.data.toList ≠ [] ∧ ∀ c ∈ x.data.toList, c ≠ 32) : partsL 32 (joinL xs) = xs.map fun x => x.data.toList := by
  have h := join_tail xs hx
  cases xs with
  | nil => rfl
  | cons x xs =>
    have e2 : joinL.joinTail (x :: xs) = 32 :: joinL (x :: xs) := by simp [joinL, joinL.joinTail]
    rw [e2] at h
    unfold partsL at h ⊢
    rw [splitL_cons_eq, List.filter_cons_of_neg (by simp)] at h
    exact h

theorem spans_same (p q : Nat → Bool) (s : ByteArray) (ha : Ascii s) (h : ∀ c ∈ s.data.toList, p c.toNat = q c.toNat) : ∀ (f pos : Nat) (st : Option Nat) (acc : List (Nat × Nat)), Lib.spansFromP p s f pos st acc = Lib.spansFromP q s f pos st acc
  | 0, _, _, _ => rfl
  | f + 1, pos, st, acc => by
    unfold Lib.spansFromP
    by_cases hlt : pos < s.size
    · have hl : pos < s.data.toList.length := by rw [← size_list]; exact hlt
      have hm := List.getElem_mem hl
      have hdec := (dec_at _ (ha _ hm) s pos hlt).1 (List.getElem?_eq_getElem hl)
      have hpq := h _ hm
      rw [if_pos hlt, if_pos hlt, hdec]
      simp only [hpq]
      split <;> (cases st <;> exact spans_same p q s ha h f _ _ _)
    · rw [if_neg hlt, if_neg hlt]

/-- a word: not empty, and without a blank -/
def Word (x : ByteArray) : Prop := x.data.toList ≠ [] ∧ ∀ c ∈ x.data.toList, spaceZ c.toNat = false

theorem fields_join (xs : List ByteArray) (hx : ∀ x ∈ xs, Word x) (ha : Ascii (ba (joinL xs))) : fieldsZ (ba (joinL xs)) = xs := by
  have hmem : ∀ (ys : List ByteArray), (∀ x ∈ ys, Word x) → ∀ c ∈ joinL.joinTail ys, c = 32 ∨ spaceZ c.toNat = false := by
    intro ys
    induction ys with
    | nil => intro _ c hc; cases hc
    | cons y ys ih =>
      intro hy c hc
      unfold joinL.joinTail at hc
      rcases List.mem_append.1 hc with hc | hc
      · rcases List.mem_cons.1 hc with rfl | hc
        · exact .inl rfl
        · exact .inr ((hy y (List.mem_cons_self ..)).2 c hc)
      · exact ih (fun z hz => hy z (List.mem_cons_of_mem _ hz)) c hc
  have hall : ∀ c ∈ joinL xs, c = 32 ∨ spaceZ c.toNat = false := by
    cases xs with
    | nil => intro c hc; cases hc
    | cons x xs =>
      intro c hc
      unfold joinL at hc
      rcases List.mem_append.1 hc with hc | hc
      · exact .inr ((hx x (List.mem_cons_self ..)).2 c hc)
      · exact hmem xs (fun z hz => hx z (List.mem_cons_of_mem _ hz)) c hc
  have hsame := spans_same spaceZ (fun r => r == (32 : UInt8).toNat) (ba (joinL xs)) ha (fun c hc => by
    rw [ba_list] at hc
    rcases hall c hc with rfl | h
    · rfl
    · rw [h]
      symm
      rw [beq_eq_false_iff_ne]
      intro e
      rw [e] at h
      exact absurd h (by decide))
  have hgo := goFields_parts 32 (by decide) (ba (joinL xs))
  unfold fieldsZ Lib.goFieldsP Lib.spansOfP at *
  rw [hsame _ _ _ _, hgo, ba_list, join_parts xs fun x hxm => ⟨(hx x hxm).1, fun c hc e => by
    subst e
    exact absurd ((hx x hxm).2 _ hc) (by decide)⟩, List.map_map]
  have : ∀ x : ByteArray, (ba ∘ fun x : ByteArray => x.data.toList) x = x := fun x => ba_of x
  rw [List.map_congr_left (g := id) (fun x _ => this x), List.map_id]

theorem spans_word (s : ByteArray) (ha : Ascii s) : ∀ (f pos : Nat) (st : Option Nat) (acc : List (Nat × Nat)), s.size ≤ f + pos → pos ≤ s.size →
    (∀ a, st = some a → a < pos ∧ ∀ c ∈ (s.data.toList.take pos).drop a, spaceZ c.toNat = false) → (∀ x ∈ acc, Word (spanBa s x)) → ∀ x ∈ Lib.closeSpans s (Lib.spansFromP spaceZ s f pos st acc), Word (spanBa s x) := by
  have hsz := size_list s
  have mk : ∀ (a pos : Nat), a < pos → pos ≤ s.size → (∀ c ∈ (s.data.toList.take pos).drop a, spaceZ c.toNat = false) → Word (spanBa s (a, pos)) := by
    intro a pos h1 h2 h3
    unfold Word spanBa
    rw [extract_ba, ba_list]
    show (s.data.toList.take pos).drop a ≠ [] ∧ ∀ c ∈ (s.data.toList.take pos).drop a, spaceZ c.toNat = false
    refine ⟨?_, h3⟩
    intro h0
    have := congrArg List.length h0
    rw [List.length_drop, List.length_take] at this
    simp at this
    omega
  intro f
  induction f with
  | zero =>
    intro pos st acc h1 h2 h3 h4 x hx
    have hp : pos = s.size := by omega
    unfold Lib.spansFromP Lib.closeSpans at hx
    cases st with
    | none => exact h4 x hx
    | some a =>
      simp only [List.mem_append, List.mem_singleton] at hx
      rcases hx with hx | rfl
      · exact h4 x hx
      · have := h3 a rfl
        rw [hp] at this
        exact mk a s.size this.1 (Nat.le_refl _) this.2
  | succ f ih =>
    intro pos st acc h1 h2 h3 h4 x hx
    by_cases hlt : pos < s.size
    · have hl : pos < s.data.toList.length := by omega
      have hm := List.getElem_mem hl
      have hget := List.getElem?_eq_getElem hl
      have hdec := (dec_at _ (ha _ hm) s pos hlt).1 hget
      unfold Lib.spansFromP at hx
      rw [if_pos hlt, hdec] at hx
      simp only at hx
      have hstep : ∀ a, a ≤ pos → (s.data.toList.take (pos + 1)).drop a = (s.data.toList.take pos).drop a ++ [s.data.toList[pos]] := by
        intro a h
        rw [List.take_add_one, hget, Option.toList_some, List.drop_append_of_le_length (by rw [List.length_take]; omega)]
      generalize s.data.toList[pos] = c at *
      cases hsp : spaceZ c.toNat with
      | true =>
        rw [hsp, if_pos rfl] at hx
        cases st with
        | none => exact ih (pos + 1) none acc (by omega) (by omega) (fun a h => by cases h) h4 x hx
        | some a =>
          refine ih (pos + 1) none (acc ++ [(a, pos)]) (by omega) (by omega) (fun a h => by cases h) ?_ x hx
          intro y hy
          rcases List.mem_append.1 hy with hy | hy
          · exact h4 y hy
          · rw [List.mem_singleton.1 hy]
            exact mk a pos (h3 a rfl).1 (by omega) (h3 a rfl).2
      | false =>
        rw [hsp, if_neg (by decide)] at hx
        cases st with
        | none =>
          refine ih (pos + 1) (some pos) acc (by omega) (by omega) ?_ h4 x hx
          intro a h
          injection h with h
          subst h
          refine ⟨by omega, fun d hd => ?_⟩
          rw [hstep _ (Nat.le_refl _), List.drop_eq_nil_of_le (by rw [List.length_take]; omega)] at hd
          have hdc : d = c := by simpa using hd
          rw [hdc]
          exact hsp
        | some a =>
          refine ih (pos + 1) (some a) acc (by omega) (by omega) ?_ h4 x hx
          intro a' h
          injection h with h
          subst h
          have h3a := h3 a rfl
          refine ⟨by omega, fun d hd => ?_⟩
          rw [hstep _ (by omega)] at hd
          rcases List.mem_append.1 hd with hd | hd
          · exact h3a.2 d hd
          · rw [List.mem_singleton.1 hd]; exact hsp
    · rw [Lib.spansFromP_end _ _ _ _ _ _ hlt] at hx
      have hp : pos = s.size := by omega
      unfold Lib.closeSpans at hx
      cases st with
      | none => exact h4 x hx
      | some a =>
        simp only [List.mem_append, List.mem_singleton] at hx
        rcases hx with hx | rfl
        · exact h4 x hx
        · have := h3 a rfl
          rw [hp] at this
          exact mk a s.size this.1 (Nat.le_refl _) this.2

theorem fieldsZ_word (s : ByteArray) (ha : Ascii s) : ∀ x ∈ fieldsZ s, Word x := by
  intro x hx
  unfold fieldsZ Lib.goFieldsP at hx
  rw [List.mem_map] at hx
  obtain ⟨y, hy, rfl⟩ := hx
  exact spans_word s ha s.size 0 none [] (by omega) (by omega) (fun a h => by cases h) (fun x h => by cases h) y hy

/-- the words of the text of words joined by blanks are the words -/
theorem tidy_fields (s : ByteArray) (ha : Ascii s) (ht : Ascii (ba (joinL (fieldsZ s)))) : fieldsZ (ba (joinL (fieldsZ s))) = fieldsZ s := fields_join _ (fieldsZ_word s ha) ht
end Go.Proofs.YtikgnpachlgakaaGreatDoor.Cron

namespace Go.Proofs.YtikgnpachlgakaaGreatDoor.Cron
open Go Go.RowKit Go.Proofs.YtikgnpachlgakaaGreatDoor.Text Go.Proofs.YtikgnpachlgakaaGreatDoorW.PrintWords Go.Proofs.YtikgnpachlgakaaGreatDoorW.PrintLast Go.Proofs.YtikgnpachlgakaaGreatDoorW.PrintMore Go.Proofs.YtikgnpachlgakaaGreatDoor.Pr
set_option linter.unusedVariables false
set_option linter.unusedSimpArgs false

theorem begins_eq (s t : ByteArray) : (if (s.size : Int) ≥ (t.size : Int) then (if 0 ≤ (t.size : Int) then (if (t.size : Int) ≤ (s.size : Int) then (some ((s.extract 0 ((t.size : Int) : Int).toNat).toList == t.toList)) else (none)) else (none)) else (some false)) = some (Lib.hasPrefix s.data.toList t.data.toList) := by
  have key : Lib.hasPrefix s.data.toList t.data.toList = decide (t.data.toList = s.data.toList.take t.data.toList.length) := by
    rw [Bool.eq_iff_iff, decide_eq_true_iff]
    unfold Lib.hasPrefix
    rw [List.isPrefixOf_iff_prefix, List.prefix_iff_eq_take]
  by_cases h : (s.size : Int) ≥ (t.size : Int)
  · rw [if_pos h, if_pos (by omega), if_pos (by omega), Int.toNat_natCast, toList_data, toList_data, extract_list, List.drop_zero, key]
    congr 1
    rw [Bool.eq_iff_iff, decide_eq_true_iff, beq_iff_eq, size_list]
    exact eq_comm
  · rw [if_neg h, key]
    congr 1
    symm
    apply decide_eq_false
    intro he
    have := congrArg List.length he
    rw [List.length_take, ← size_list, ← size_list] at this
    omega

theorem begins_f (s t : ByteArray) : spec_cronBegins.f s t = some (Lib.hasPrefix s.data.toList t.data.toList) := begins_eq s t
theorem head_f (s t : ByteArray) : laws_cronHead.f s t = some (Lib.hasPrefix s.data.toList t.data.toList) := begins_eq s t

theorem foreignA_l0 (s : ByteArray) (hs : s.size ≤ 4294967296) (ha : Ascii s) : ∀ (d i k : Nat), s.size - i = d → i ≤ s.size → d < k → spec_cronForeign.l0 k s (s.size : Int) (i : Int) = some false
  | 0, i, k, hd, hi, hk => by
    obtain ⟨k, rfl⟩ : ∃ m, k = m + 1 := ⟨k - 1, by omega⟩
    unfold spec_cronForeign.l0
    rw [if_neg (by omega)]
  | d + 1, i, k, hd, hi, hk => by
    obtain ⟨k, rfl⟩ : ∃ m, k = m + 1 := ⟨k - 1, by omega⟩
    have hlt : i < s.size := by omega
    have hl : i < s.data.toList.length := by rw [← size_list]; exact hlt
    have hw : wrap64 ((i : Int) + 1) = ((i + 1 : Nat) : Int) := by
      unfold wrap64
      omega
    have hbt := bt_list s i hl
    have hc := ha _ (List.getElem_mem hl)
    unfold spec_cronForeign.l0
    rw [if_pos (by omega), if_pos (by omega), if_pos (by omega), hbt, if_neg (by omega), hw]
    exact foreignA_l0 s hs ha d (i + 1) k (by omega) (by omega) (by omega)

theorem foreignA_f (s : ByteArray) (hs : s.size ≤ 4294967296) (ha : Ascii s) : spec_cronForeign.f (s.size + 1) s = some false := foreignA_l0 s hs ha _ 0 _ rfl (by omega) (by omega)

def zoneZ (s : ByteArray) : Nat := if Lib.hasPrefix s.data.toList [84, 90, 61] = true then 3 else if Lib.hasPrefix s.data.toList [67, 82, 79, 78, 95, 84, 90, 61] = true then 8 else 0

set_option maxRecDepth 100000 in
theorem zoneHead_any (s : ByteArray) (w : World) :
    Calls Tryz.prog 17 #[.string s] w fun e w' => e = .returned (.int .i64 (zoneZ s : Nat)) ∧ Below w.heap.size w w' := by
  have HT := Lib.hid (fun w' => spec_cronBegins.calls s ⟨#[84, 90, 61]⟩ _ w' (begins_f s ⟨#[84, 90, 61]⟩))
  have HC := Lib.hid (fun w' => spec_cronBegins.calls s ⟨#[67, 82, 79, 78, 95, 84, 90, 61]⟩ _ w' (begins_f s ⟨#[67, 82, 79, 78, 95, 84, 90, 61]⟩))
  have hi0 : ∀ w', (Instr.index 61 (.agg #[.string ⟨#[84, 90, 61]⟩, .string ⟨#[67, 82, 79, 78, 95, 84, 90, 61]⟩]) (.int .i64 0)).run Tryz.prog w' = .ok (.string ⟨#[84, 90, 61]⟩) w' := fun w' => by kernel_rfl
  have hi1 : ∀ w', (Instr.index 61 (.agg #[.string ⟨#[84, 90, 61]⟩, .string ⟨#[67, 82, 79, 78, 95, 84, 90, 61]⟩]) (.int .i64 1)).run Tryz.prog w' = .ok (.string ⟨#[67, 82, 79, 78, 95, 84, 90, 61]⟩) w' := fun w' => by kernel_rfl
  unfold zoneZ
  dsimp only at HT HC
  generalize Lib.hasPrefix s.data.toList [84, 90, 61] = b1 at *
  generalize Lib.hasPrefix s.data.toList [67, 82, 79, 78, 95, 84, 90, 61] = b2 at *
  go_enter Tryz.func17, Tryz.ntmps17
  go_wp2_with fail
  go_loopw [6] (fun v6 wr => ∃ (k : Nat), v6 = .int .i64 k ∧ k ≤ 2 ∧ Hid (k ≥ 1 → b1 = false) ∧ Hid (k ≥ 2 → b2 = false) ∧ Below w.heap.size w wr) (fun v6 _ => 2 - (intOf v6).toNat)
  case atStart => exact ⟨0, rfl, by omega, Lib.hid (fun h => by omega), Lib.hid (fun h => by omega), Below.refl _ _⟩
  case round =>
    obtain ⟨k, rfl, hk, H1, H2, hbr⟩ := hrel
    by_cases h0 : k = 0
    · subst h0
      go_wp2_with fail
      refine (HT.out _).mono ?_
      rintro e w1 ⟨rfl, hd1⟩
      have hb1 := below_of_le hbr hd1.below
      clear hd1
      cases b1 with
      | true =>
        go_wp2_with fail
        go_ret
        exact ⟨rfl, hb1⟩
      | false =>
        go_wp2_with fail
        go_roundw
        case rel => exact ⟨1, by go_num, by omega, Lib.hid (fun _ => by first | trivial | rfl), Lib.hid (fun h => by omega), hb1⟩
        case measure => simp [intOf]
    · by_cases h1 : k = 1
      · subst h1
        have := H1.out (by omega)
        subst this
        go_wp2_with fail
        refine (HC.out _).mono ?_
        rintro e w1 ⟨rfl, hd1⟩
        have hb1 := below_of_le hbr hd1.below
        clear hd1
        cases b2 with
        | true =>
          go_wp2_with fail
          go_ret
          exact ⟨rfl, hb1⟩
        | false =>
          go_wp2_with fail
          go_roundw
          case rel => exact ⟨2, by go_num, by omega, Lib.hid (fun _ => by first | trivial | rfl), Lib.hid (fun _ => by first | trivial | rfl), hb1⟩
          case measure => simp [intOf]
      · obtain rfl : k = 2 := by omega
        have h1 := H1.out (by omega)
        have h2 := H2.out (by omega)
        subst h1
        subst h2
        go_wp2_with fail
        go_ret
        exact ⟨rfl, hbr⟩

/-- what a plain text is -/
structure Plain (s : ByteArray) : Prop where
  ascii : Ascii s
  size : s.size ≤ 65536
  at_ : Lib.hasPrefix s.data.toList [64] = false
  tz : Lib.hasPrefix s.data.toList [84, 90, 61] = false
  cron : Lib.hasPrefix s.data.toList [67, 82, 79, 78, 95, 84, 90, 61] = false

theorem zoneZ_zero {s : ByteArray} (h : zoneZ s = 0) : Lib.hasPrefix s.data.toList [84, 90, 61] = false ∧ Lib.hasPrefix s.data.toList [67, 82, 79, 78, 95, 84, 90, 61] = false := by
  unfold zoneZ at h
  cases h1 : Lib.hasPrefix s.data.toList [84, 90, 61] with
  | true => rw [h1, if_pos rfl] at h; omega
  | false =>
    rw [h1] at h
    cases h2 : Lib.hasPrefix s.data.toList [67, 82, 79, 78, 95, 84, 90, 61] with
    | true => rw [h2] at h; simp at h
    | false => exact ⟨rfl, rfl⟩

def PlainTextAns (s : ByteArray) (w : World) (e : Ending) (w' : World) : Prop := ∃ b, e = .returned (.bool b) ∧ (b = true → Plain s) ∧ Below w.heap.size w w'

set_option maxRecDepth 100000 in
theorem plainText_any (s : ByteArray) (hs : s.size ≤ 4611686018427387904) (w : World) :
    Calls Tryz.prog 8 #[.string s] w (PlainTextAns s w) := by
  have HH := Lib.hid (fun w' => laws_cronHead.calls s ⟨#[64]⟩ _ w' (head_f s ⟨#[64]⟩))
  have HZ := Lib.hid (fun w' => zoneHead_any s w')
  have HP : Hid (Ascii s → s.size ≤ 65536 → Lib.hasPrefix s.data.toList [64] = false → zoneZ s = 0 → Plain s) := Lib.hid (fun h1 h2 h3 h4 => ⟨h1, h2, h3, (zoneZ_zero h4).1, (zoneZ_zero h4).2⟩)
  dsimp only at HH
  generalize Lib.hasPrefix s.data.toList [64] = b1 at *
  generalize zoneZ s = z at *
  go_enter Tryz.func8, Tryz.ntmps8
  go_wp2_with fail
  go_loopw [6] (fun v6 wr => ∃ (i : Nat), v6 = .int .i64 i ∧ i ≤ s.size ∧ Hid (∀ j (h : j < s.data.toList.length), j < i → (s.data.toList[j]).toNat < 128) ∧ Below w.heap.size w wr) (fun v6 _ => s.size - (intOf v6).toNat)
  case atStart => exact ⟨0, rfl, by omega, Lib.hid (fun j h h' => by omega), Below.refl _ _⟩
  case round =>
    obtain ⟨i, rfl, hi, HA, hbr⟩ := hrel
    by_cases hlt : i < s.size
    · have hl : i < s.data.toList.length := by rw [← size_list]; exact hlt
      have hic : (i : Int) < s.size := by omega
      have hlt' : i < s.data.size := hlt
      have hbt : (s.data[i]).toNat = (s.data.toList[i]).toNat := rfl
      go_wp2_with fail
      · go_ret
        exact ⟨false, rfl, (fun h => by cases h), hbr⟩
      · rename_i hn
        have hn' : ((s.data[i]).toNat : Int) < 128 := hn
        go_roundw
        case rel =>
          refine ⟨i + 1, by go_num, by omega, Lib.hid fun j h h' => ?_, hbr⟩
          by_cases hji : j < i
          · exact HA.out j h hji
          · obtain rfl : j = i := by omega
            omega
        case measure => simp [intOf]; omega
    · have hA : Ascii s := fun c hc => by
        obtain ⟨j, hj, rfl⟩ := List.getElem_of_mem hc
        exact HA.out j hj (by rw [← size_list] at hj; omega)
      by_cases h6 : s.size ≤ 65536
      · have hs6 : (s.size : Int) ≤ 65536 := by omega
        cases b1 with
        | true =>
          go_wp2_with fail
          refine (HH.out _).mono ?_
          rintro e w1 ⟨rfl, hd1⟩
          have hb1 := below_of_le hbr hd1.below
          clear hd1
          go_wp2_with fail
          go_ret
          exact ⟨false, rfl, (fun h => by cases h), hb1⟩
        | false =>
          go_wp2_with fail
          refine (HH.out _).mono ?_
          rintro e w1 ⟨rfl, hd1⟩
          have hb1 := below_of_le hbr hd1.below
          clear hd1
          go_wp2_with fail
          refine (HZ.out _).mono ?_
          rintro e w2 ⟨rfl, hb2⟩
          have hb := below_of_le hb1 hb2
          clear hb1 hb2
          go_wp2_with fail
          go_ret
          exact ⟨decide ((z : Int) = 0), by first | rfl | (congr; done) | simp, fun h => HP.out hA h6 (by first | trivial | rfl) (by have := of_decide_eq_true h; omega), hb⟩
      · have hs6 : ¬ (s.size : Int) ≤ 65536 := by omega
        go_wp2_with fail
        go_ret
        exact ⟨false, rfl, (fun h => by cases h), hbr⟩
end Go.Proofs.YtikgnpachlgakaaGreatDoor.Cron
