/- Lemmas and walks on the way to the law, merged by wip/tools/pack.py: Cron6, LawSched. Conditions: none. -/
import Derived.Test.YtbgbeohiafiacaaGrD
import Derived.Test.YtbgbeohiafiacaaWEqStruct
import Derived.Test.YtbgbeohiafiacaaWMore
namespace Go.Proofs.Ytbgbeohiafiacaa.Sched
open Go Go.RowKit Go.Proofs.Ytbgbeohiafiacaa.Cal Go.Proofs.YtbgbeohiafiacaaW.PrintWords Go.Proofs.YtbgbeohiafiacaaW.PrintLast Go.MuLone
set_option linter.unusedVariables false
set_option linter.unusedSimpArgs false

/-- the argument: a slice of L schedules -/
def SchedArg (w : World) (v : Value) (L : Nat) (S : Nat → Sch) : Prop :=
  ∃ A cap, v = .slice A L cap ∧ ∀ i, i < L → ∃ b o, A = some ⟨b, o, none⟩ ∧ b < w.heap.size ∧ w.rangeAt b (o + i * 8) (S i).cells.toList
theorem rangeAt_below {w w' : World} {b o : Nat} {cs : List Value} (h : w.rangeAt b o cs) (hb : Below w.heap.size w w') (hl : b < w.heap.size) : w'.rangeAt b o cs := fun j v hv => (hb.cell (p := ⟨b, o + j, none⟩) hl).trans (h j v hv)

theorem info_id : ∃ i, Try.prog.info? 65 = some i ∧ i.zero = some (.int .i64 0) ∧ i.size = 1 ∧ i.bytes = 8 := by
  have h1 : (Try.prog.info? 65).map (fun i => (i.zero, i.size, i.bytes)) = some (some (.int .i64 0), 1, 8) := by kernel_rfl
  cases h : Try.prog.info? 65 with
  | none => rw [h] at h1; cases h1
  | some i =>
    rw [h] at h1
    simp only [Option.map_some, Option.some.injEq, Prod.mk.injEq] at h1
    exact ⟨i, rfl, h1⟩
theorem info_ans : ∃ i, Try.prog.info? 30 = some i ∧ i.zero = some (.agg noAns) ∧ i.size = 12 ∧ i.bytes = 112 := by
  have h1 : (Try.prog.info? 30).map (fun i => (i.zero, i.size, i.bytes)) = some (some (.agg noAns), 12, 112) := by kernel_rfl
  cases h : Try.prog.info? 30 with
  | none => rw [h] at h1; cases h1
  | some i =>
    rw [h] at h1
    simp only [Option.map_some, Option.some.injEq, Prod.mk.injEq] at h1
    exact ⟨i, rfl, h1⟩
/-- the answer for schedule j -/
def ansOf (S : Nat → Sch) (j : Nat) : List Value := [.bool true, .int .i64 ((j : Int) + 1), .slice none 0 0] ++ (S j).plain.toList ++ [.bool true]
def ansL (S : Nat → Sch) (i : Nat) : List Value := (List.range i).flatMap fun (j : Nat) => ansOf S j
theorem ansL_succ (S : Nat → Sch) (i : Nat) : ansL S (i + 1) = ansL S i ++ ansOf S i := by unfold ansL; rw [List.range_succ, List.flatMap_append]; simp
theorem plain_form (s : Sch) : ∃ p0 p1 p2 p3 p4 p5 p6 p7 : Value, s.plain = #[p0, p1, p2, p3, p4, p5, p6, p7] ∧ p0.oneCell' = true ∧ p1.oneCell' = true ∧ p2.oneCell' = true ∧ p3.oneCell' = true ∧ p4.oneCell' = true ∧ p5.oneCell' = true ∧ p6.oneCell' = true ∧ p7.oneCell' = true := by
  unfold Sch.plain
  split <;> exact ⟨_, _, _, _, _, _, _, _, rfl, rfl, rfl, rfl, rfl, rfl, rfl, rfl, rfl⟩
/-- the numbers 1 to i -/
def idsL (i : Nat) : List Value := (List.range i).map fun (j : Nat) => Value.int .i64 ((j : Int) + 1)
theorem idsL_succ (i : Nat) : idsL (i + 1) = idsL i ++ [.int .i64 ((i : Int) + 1)] := by unfold idsL; rw [List.range_succ, List.map_append]; rfl
theorem sch_size (s : Sch) : s.cells.size = 8 := rfl
theorem sch_one (s : Sch) : s.cells.all (·.oneCell') = true := by simp [Sch.cells, Value.oneCell']
theorem CronHas.of_same {w w' : World} {g B : Nat} {job : Value} {S : Nat → Sch} {i : Nat} (h : CronHas w g B job S i)
    (hsame : ∀ (c : Nat) (cs : Array Value) (t : TypeId) (fr : Nat × Nat), w.heap[c]? = some (Obj.cells cs t fr) → t ∈ [125, 127, 78, 134] → w'.heap[c]? = some (Obj.cells cs t fr)) : CronHas w' g B job S i := by
  obtain ⟨v, ps, sch, h0, h1, h2, h3⟩ := h
  refine ⟨v, ps, sch, h0, hsame _ _ _ _ h1 (by decide), ⟨?_, fun j hj => ?_⟩, fun j hj => ?_⟩
  · refine ⟨h2.1.1, ?_⟩
    rcases h2.1.2 with hn | ⟨q, cap, cur, rfl, hbg, hgg, rest⟩
    · exact .inl hn
    · exact .inr ⟨q, cap, cur, rfl, hbg, hsame _ _ _ _ hgg (by decide), rest⟩
  · obtain ⟨h4, h5, b, h6, h7⟩ := h2.2 j hj
    exact ⟨h4, h5, b, h6, hsame _ _ _ _ h7 (by decide)⟩
  · have := h3 j hj
    unfold SchIs at this ⊢
    split at this
    · rename_i he
      rw [if_pos he]
      exact this
    · rename_i he
      rw [if_neg he]
      obtain ⟨q, h4, h5⟩ := this
      exact ⟨q, h4, hsame _ _ _ _ h5 (by decide)⟩
theorem CronHas.grown {w w' : World} {g B : Nat} {job : Value} {S : Nat → Sch} {i : Nat} (h : CronHas w g B job S i) {base : Nat} {e : TypeId} {size : Nat} {v : Value} {n : Nat} {xs : List Value} (ho : w.ownsRow base e size v n xs) (hg : w.grownBy w' v.ownBlock)
    (hne : e ∉ [125, 127, 78, 134]) : CronHas w' g B job S i :=
  h.of_same fun c cs t fr hc ht => by
    rw [hg.block c (Array.getElem?_eq_some_iff.1 hc).1 (fun e' => own_ne ho hc (fun e2 => hne (by rw [← e2]; exact ht)) e'.symm)]
    exact hc
abbrev theJob : Value := .iface 70 (.func (.func 30) #[] #[])

set_option maxRecDepth 100000 in
set_option maxHeartbeats 4000000 in
theorem scheduled_any (v0 : Value) (L : Nat) (hL : L ≤ 40) (S : Nat → Sch) (w : World) (h0 : SchedArg w v0 L S) :
    Calls Try.prog 8 #[v0] w fun e w' => ∃ v', e = .returned v' ∧ w'.ownsRow w.heap.size 30 12 v' L (ansL S L) ∧ Below w.heap.size w w' := by
  obtain ⟨A, cap, rfl, hA⟩ := h0
  have HA := Lib.hid hA
  have HS29 := Lib.hid (fun s w' => schedule_any s w')
  have HZ := Lib.hid (zzCron_any w)
  clear hA
  go_enter Try.func8, Try.ntmps8
  go_wp2_with fail
  refine HZ.out.mono ?_
  rintro e w1 ⟨g, rfl, hg, hrow, hb1⟩
  have HC1 := Lib.hid (cronHas_new (S := S) (job := theJob) hg hrow)
  have HO1 : Hid (w1.ownsRow w.heap.size 65 1 (.slice none 0 0) 0 (idsL 0)) := Lib.hid (World.ownsRow_nil w1 w.heap.size 65 1)
  obtain ⟨i0, hi, hz, hs, hy⟩ := info_id
  have HI := Lib.hid hi
  have HZ0 := Lib.hid hz
  have HS := Lib.hid hs
  have HY := Lib.hid hy
  clear hrow HZ hg hi hz hs hy
  go_wp2_with fail
  go_loopw [4, 13] (fun v4 v13 wr => ∃ i : Nat, v13 = .int .i64 i ∧ i ≤ L ∧ Hid (CronHas wr g w.heap.size theJob S i) ∧ Hid (wr.ownsRow w.heap.size 65 1 v4 i (idsL i)) ∧ Below w.heap.size w wr) (fun _ v13 _ => L - (intOf v13).toNat)
  case atStart => exact ⟨0, rfl, by omega, HC1, HO1, hb1⟩
  case round =>
    obtain ⟨i, rfl, hi, HC, HO, hbr⟩ := hrel
    clear HC1 HO1 hb1
    by_cases hiL : i < L
    · obtain ⟨b, o, rfl, hbl, hrg⟩ := HA.out i hiL
      have HRG := Lib.hid (rangeAt_below hrg hbr hbl)
      have hil : (i : Int) < L := by omega
      have hi0 : (0 : Int) ≤ i := by omega
      have hd : decide ((i : Int) < L) = true := decide_eq_true hil
      have hB := Lib.hid hbr.size
      clear hrg hbl
      go_wp2_with (first | (refine wpList_load_mid rfl 27 _ rfl b (o + i * 8) rfl (S i).cells.toList _ HRG.out Try.underlying27 rfl (by rw [schSize, Array.length_toList, sch_size]) ?_) | (refine wpList_store_row rfl 27 _ _ rfl wr.heap.size (S i).cells rfl rfl 27 _ (heap_alloc_new wr _) (by rw [schSize, sch_size]) (by rw [sch_size]; rfl) (sch_one _) ?_; generalize hX : World.setRow _ _ _ = wx; have HX := Lib.hid (show wx.heap[wr.heap.size]? = some (.cells (S i).cells 27 (0, 0)) by rw [← hX]; exact setRow_heap _ _ _ _ _ _ (heap_alloc_new wr _)); have HBX := Lib.hid (show Below wr.heap.size wr wx by rw [← hX]; exact below_setRow ((Below.refl _ _).alloc (Nat.le_refl _) _) (Nat.le_refl _) _); clear hX) | (refine wpList_load_row rfl 27 _ rfl wr.heap.size rfl _ _ _ _ HX.out Try.underlying27 rfl (by rw [schSize, sch_size]) ?_))
      refine (HS29.out (S i) _).mono ?_
      rintro e w3 ⟨v, rfl, hs3, hb3⟩
      obtain ⟨ts, xs, rfl⟩ := hs3.iface
      have hb13 := below_of_le HBX.out hb3
      have HC3 := Lib.hid (HC.out.below hb13)
      have HO3 := Lib.hid ((Kept.of_below hb13).own HO.out (by decide) (by decide))
      have HH3 := Lib.hid hs3
      have hbr3 := below_of_le hbr hb13
      have HB3 := Lib.hid hbr3.size
      clear hs3 HX HBX hb3 hb13 HC HO HRG hbr
      go_wp2_with fail
      refine (add_has g w.heap.size _ _ S i (by omega) ts xs w3 HB3.out HC3.out HH3.out).mono ?_
      rintro e w4 ⟨rfl, hc4, hk4, hb4⟩
      have HC4 := Lib.hid hc4
      have HO4 := Lib.hid (hk4.own HO3.out (by decide) (by decide))
      have hbr4 := hbr3.trans hb4
      have HB4 := Lib.hid hbr4.size
      clear hc4 hk4 hb4 HC3 HO3 HH3 hbr3 HB3
      go_wp2_with (at_builtin; refine wpList_append_lies _ rfl _ _ _ rfl w.heap.size 65 i0 (.int .i64 0) 1 8 Try.underlying64 HI.out HZ0.out HS.out HY.out rfl (by omega) u4 i (idsL i) rfl (HO4.out.alloc _) ⟨w4.heap.size, 0, none⟩ 1 1 [.int .i64 ((i : Int) + 1)] rfl rfl (cell_one_new _ _ _) (by simp [Value.oneCell']) (by omega) (by simp only [maxLen]; omega) (by omega) (by have := HB4.out; simp; omega) (w4.heap.size + 1) (by simp) ?_; intro h cap' w5 hown5 hgrow5 hat5 hlt5; have HO5 := Lib.hid hown5; have HW5 := Lib.hid hgrow5; clear hown5 hgrow5 hat5)
      refine ⟨⟨i + 1, by push_cast; rfl, by omega, Lib.hid ((HC4.out.below ((Below.refl _ _).alloc (Nat.le_refl _) _)).grown (HO4.out.alloc _) HW5.out (by decide)), Lib.hid (by rw [idsL_succ]; exact HO5.out), ?_⟩, by simp [intOf]; omega⟩
      exact Below.grown (Below.alloc hbr4 HB4.out _) HW5.out (by have := HB4.out; simp; omega) (fun c hc => (HO4.out.lt c hc).1)
    · obtain rfl : i = L := by omega
      have hd : decide ((i : Int) < i) = false := decide_eq_false (by omega)
      obtain ⟨Q, capq, rfl, hQ⟩ : ∃ Q capq, u4 = .slice Q i capq ∧ (0 < i → ∃ q, Q = some ⟨q, 0, none⟩) := by
        rcases HO.out.2 with ⟨h1, h2⟩ | ⟨q, cap, cur, h1, _⟩
        · exact ⟨none, 0, by rw [h1, h2], fun h => by omega⟩
        · exact ⟨_, cap, h1, fun _ => ⟨q, rfl⟩⟩
      have HN1 : Hid (wr.ownsRow w.heap.size 30 12 (.slice none 0 0) 0 (ansL S 0)) := Lib.hid (World.ownsRow_nil wr w.heap.size 30 12)
      obtain ⟨i1, hi1, hz1, hs1, hy1⟩ := info_ans
      have HI1 := Lib.hid hi1
      have HZ1 := Lib.hid hz1
      have HS1 := Lib.hid hs1
      have HY1 := Lib.hid hy1
      have hd2 : decide ((i : Int) < i) = false := decide_eq_false (by omega)
      clear hi1 hz1 hs1 hy1 HS29 HA
      go_wp2_with fail
      go_loopw [7, 28] (fun v7 v28 wr => ∃ j : Nat, v28 = .int .i64 j ∧ j ≤ i ∧ Hid (CronHas wr g w.heap.size theJob S i) ∧ Hid (wr.ownsRow w.heap.size 65 1 (.slice Q i capq) i (idsL i)) ∧ Hid (wr.ownsRow w.heap.size 30 12 v7 j (ansL S j)) ∧ Below w.heap.size w wr) (fun _ v28 _ => i - (intOf v28).toNat)
      case atStart => exact ⟨0, rfl, by omega, HC, HO, HN1, hbr⟩
      case round =>
        obtain ⟨j, rfl, hj, HCt, HOt, HNt, hbt⟩ := hrel
        clear HC HO HN1 hbr
        by_cases hji : j < i
        · obtain ⟨q, rfl⟩ := hQ (by omega)
          have cj : wr.cell? ⟨q, j, none⟩ = some (.int .i64 ((j : Int) + 1)) := by
            have hc := HOt.out.cells (g := q) rfl j (.int .i64 ((j : Int) + 1)) (by unfold idsL; rw [List.getElem?_map, List.getElem?_range hji]; rfl)
            rw [Addr.add_mid, Nat.zero_add] at hc
            exact hc
          have hjl : (j : Int) < i := by omega
          have hj0 : (0 : Int) ≤ j := by omega
          have hd3 : decide ((j : Int) < i) = true := decide_eq_true hjl
          go_wp2_with fail
          refine (find_has g w.heap.size theJob S i (by omega) j hji wr HCt.out).mono ?_
          rintro e w6 ⟨sc, rfl, hsc, hb6⟩
          have HSC := Lib.hid (hsc.below hb6)
          have HC6 := Lib.hid (HCt.out.below hb6)
          have HO6 := Lib.hid ((Kept.of_below hb6).own HOt.out (by decide) (by decide))
          have HN6 := Lib.hid ((Kept.of_below hb6).own HNt.out (by decide) (by decide))
          have hbr6 := below_of_le hbt hb6
          clear hsc hb6 HCt HOt HNt hbt cj
          go_wp2_with fail
          refine (entry_any ((j : Int) + 1) (by omega) (S j) sc theJob theJob w6 HSC.out).mono ?_
          rintro e w7 ⟨rfl, hb7⟩
          have HC7 := Lib.hid (HC6.out.below hb7)
          have HO7 := Lib.hid ((Kept.of_below hb7).own HO6.out (by decide) (by decide))
          have HN7 := Lib.hid ((Kept.of_below hb7).own HN6.out (by decide) (by decide))
          have hbr7 := below_of_le hbr6 hb7
          have HB7 := Lib.hid hbr7.size
          obtain ⟨p0, p1, p2, p3, p4, p5, p6, p7, hpl, o0, o1, o2, o3, o4, o5, o6, o7⟩ := plain_form (S j)
          have HANS : Hid (ansOf S j = [.bool true, .int .i64 ((j : Int) + 1), .slice none 0 0, p0, p1, p2, p3, p4, p5, p6, p7, .bool true]) := Lib.hid (by unfold ansOf; rw [hpl]; rfl)
          have hag : (#[Value.bool true, .int .i64 ((j : Int) + 1), .slice none 0 0] ++ (S j).plain ++ #[Value.bool true]) = #[.bool true, .int .i64 ((j : Int) + 1), .slice none 0 0, p0, p1, p2, p3, p4, p5, p6, p7, .bool true] := by rw [hpl]; rfl
          rw [hag]
          have HONE : Hid (∀ u ∈ [Value.bool true, .int .i64 ((j : Int) + 1), .slice none 0 0, p0, p1, p2, p3, p4, p5, p6, p7, .bool true], u.oneCell' = true) := Lib.hid (by
            intro u hu
            simp only [List.mem_cons, List.not_mem_nil, or_false] at hu
            rcases hu with rfl | rfl | rfl | rfl | rfl | rfl | rfl | rfl | rfl | rfl | rfl | rfl <;> first | rfl | assumption)
          clear hb7 HC6 HO6 HN6 hbr6 hpl o0 o1 o2 o3 o4 o5 o6 o7 hag HSC
          go_wp2_with (at_builtin; refine wpList_append_lies _ rfl _ _ _ rfl w.heap.size 30 i1 (.agg noAns) 12 112 Try.underlying23 HI1.out HZ1.out HS1.out HY1.out rfl (by omega) u7 j (ansL S j) rfl (HN7.out.alloc _) ⟨w7.heap.size, 0, none⟩ 1 1 _ rfl rfl (World.news_of_block (heap_alloc_new w7 _)) HONE.out (by omega) (by simp only [maxLen]; omega) (by omega) (by have := HB7.out; simp; omega) (w7.heap.size + 1) (by simp) ?_; intro h cap' w8 hown8 hgrow8 hat8 hlt8; have HN8 := Lib.hid hown8; have HW8 := Lib.hid hgrow8; clear hown8 hgrow8 hat8)
          refine ⟨⟨j + 1, by push_cast; rfl, by omega, Lib.hid ((HC7.out.below ((Below.refl _ _).alloc (Nat.le_refl _) _)).grown (HN7.out.alloc _) HW8.out (by decide)), Lib.hid ((HO7.out.alloc _).kept HW8.out (.inr (fun e => own_apart HO7.out HN7.out (by decide) q rfl e.symm))), Lib.hid (by rw [ansL_succ, HANS.out]; exact HN8.out), ?_⟩, by simp [intOf]; omega⟩
          exact Below.grown (Below.alloc hbr7 HB7.out _) HW8.out (by have := HB7.out; simp; omega) (fun c hc => (HN7.out.lt c hc).1)
        · obtain rfl : j = i := by omega
          have hd3 : decide ((j : Int) < j) = false := decide_eq_false (by omega)
          go_wp2_with fail
          go_ret
          exact ⟨_, rfl, HNt.out, hbt⟩
end Go.Proofs.Ytbgbeohiafiacaa.Sched

namespace Go.Proofs.Ytbgbeohiafiacaa.Sched
open Go Go.RowKit Go.Proofs.Ytbgbeohiafiacaa.Cal Go.Proofs.YtbgbeohiafiacaaW.PrintWords Go.Proofs.YtbgbeohiafiacaaW.PrintLast Go.Proofs.YtbgbeohiafiacaaW.PrintMore Go.MuLone
set_option linter.unusedVariables false
set_option linter.unusedSimpArgs false

theorem eqSched (d : Nat) (w : World) (x0 y0 : Bool) (x1 y1 : Int) (x2 y2 : Int) (x3 y3 : Int) (x4 y4 : Int) (x5 y5 : Int) (x6 y6 : Int) (x7 y7 : Int) :
    (Op.equalIn (d + 2) 27 (.agg #[.bool x0, .int .i64 x1, .int .u64 x2, .int .u64 x3, .int .u64 x4, .int .u64 x5, .int .u64 x6, .int .u64 x7]) (.agg #[.bool y0, .int .i64 y1, .int .u64 y2, .int .u64 y3, .int .u64 y4, .int .u64 y5, .int .u64 y6, .int .u64 y7])).run Try.prog w = .ok (x0 == y0 && (x1 == y1 && (x2 == y2 && (x3 == y3 && (x4 == y4 && (x5 == y5 && (x6 == y6 && (x7 == y7)))))))) w := by
  refine eqA_of Try.underlying27 (by kernel_rfl) ?_
  refine eqf_cons (by rfl) (by go_simp; rfl) (by go_simp; rfl) (by go_simp) ?_
  refine eqf_cons (by rfl) (by go_simp; rfl) (by go_simp; rfl) (by go_simp) ?_
  refine eqf_cons (by rfl) (by go_simp; rfl) (by go_simp; rfl) (by go_simp) ?_
  refine eqf_cons (by rfl) (by go_simp; rfl) (by go_simp; rfl) (by go_simp) ?_
  refine eqf_cons (by rfl) (by go_simp; rfl) (by go_simp; rfl) (by go_simp) ?_
  refine eqf_cons (by rfl) (by go_simp; rfl) (by go_simp; rfl) (by go_simp) ?_
  refine eqf_cons (by rfl) (by go_simp; rfl) (by go_simp; rfl) (by go_simp) ?_
  exact eqf_last (by rfl) (by go_simp; rfl) (by go_simp; rfl) (by go_simp)
attribute [local go_sem high] eqSched

theorem exec_load_mid {P : Program} (ev : Operand → Value) (oi : Oper) (w : World) (ty : TypeId) (x : Operand) (ho : oi.op = .load ty x) (b o : Nat) (hx : ev x = .pointer (some ⟨b, o, none⟩)) (cs : List Value) (d : TypeDesc) (hc : w.rangeAt b o cs)
    (hu : P.underlying ty = some d) (hd : d.isRow = true) (hi : (P.info? ty).map (·.size) = some cs.length) : (execOp ev oi).run P w = .ok (.value (.agg cs.toArray)) w := by
  unfold execOp
  simp only [ho, hx, Instr.loadAt, Instr.sureAddr, Sem.run_bind, Sem.run_pure, Result.andThen_ok, run_loadVar_mid w b o ty cs d hc hu hd hi]

/-- an answer's cells -/
theorem ansOf_len (S : Nat → Sch) (j : Nat) : (ansOf S j).length = 12 := by
  obtain ⟨p0, p1, p2, p3, p4, p5, p6, p7, h, -⟩ := plain_form (S j)
  unfold ansOf
  rw [h]
  rfl
theorem ansL_len (S : Nat → Sch) : ∀ n, (ansL S n).length = n * 12
  | 0 => rfl
  | n + 1 => by rw [ansL_succ, List.length_append, ansL_len S n, ansOf_len]; omega
theorem ansL_at (S : Nat → Sch) : ∀ (n i t : Nat), i < n → t < 12 → (ansL S n)[i * 12 + t]? = (ansOf S i)[t]?
  | 0, i, t, h, _ => absurd h (by omega)
  | n + 1, i, t, h, ht => by
    have hl := ansL_len S n
    rw [ansL_succ]
    by_cases hm : i < n
    · rw [List.getElem?_append_left (by rw [hl]; omega)]
      exact ansL_at S n i t hm ht
    · obtain rfl : i = n := by omega
      rw [List.getElem?_append_right (by rw [hl]; omega), hl, show i * 12 + t - i * 12 = t by omega]
theorem ans_cell {w : World} {B q L cap : Nat} {S : Nat → Sch} (h : w.ownsRow B 30 12 (.slice (some ⟨q, 0, none⟩) L cap) L (ansL S L)) (i t : Nat) (hi : i < L) (ht : t < 12) : w.cell? ⟨q, i * 12 + t, none⟩ = (ansOf S i)[t]? := by
  have hv : (ansOf S i)[t]? = some ((ansOf S i)[t]'(by rw [ansOf_len]; exact ht)) := List.getElem?_eq_getElem _
  have hc := h.cells (g := q) rfl (i * 12 + t) _ (by rw [ansL_at S L i t hi ht]; exact hv)
  rw [Addr.add_mid, Nat.zero_add] at hc
  rw [hc, hv]

set_option maxRecDepth 100000 in
set_option maxHeartbeats 4000000 in
theorem law_any (v0 : Value) (L : Nat) (S : Nat → Sch) (W : World) (h0 : SchedArg W v0 L S) :
    Calls Try.prog 3 #[v0] W fun e w' => e = .returned (.bool true) ∧ Below W.heap.size W w' := by
  have h0' := h0
  obtain ⟨A, cap, rfl, hA⟩ := h0'
  have H0 := Lib.hid h0
  have HA := Lib.hid hA
  clear hA h0
  by_cases hbig : 2147483647 < L
  · have hd : decide ((2147483647 : Int) < L) = true := decide_eq_true (by omega)
    go_enter Try.func3, Try.ntmps3
    go_wp2_with fail
    go_ret
    exact ⟨rfl, Below.refl _ _⟩
  have hd : decide ((2147483647 : Int) < L) = false := decide_eq_false (by omega)
  by_cases h40 : 40 < L
  · have hd2 : decide ((40 : Int) < L) = true := decide_eq_true (by omega)
    go_enter Try.func3, Try.ntmps3
    go_wp2_with fail
    go_ret
    exact ⟨rfl, Below.refl _ _⟩
  have hd2 : decide ((40 : Int) < L) = false := decide_eq_false (by omega)
  have HC := Lib.hid (scheduled_any _ L (by omega) S W H0.out)
  go_enter Try.func3, Try.ntmps3
  go_wp2_with fail
  refine HC.out.mono ?_
  rintro e w1 ⟨v', rfl, hown, hb1⟩
  obtain ⟨Q, capq, rfl, hQ⟩ : ∃ Q capq, v' = .slice Q L capq ∧ (0 < L → ∃ q, Q = some ⟨q, 0, none⟩) := by
    rcases hown.2 with ⟨h1, h2⟩ | ⟨q, cap, cur, h1, _⟩
    · exact ⟨none, 0, by rw [h1, h2], fun h => by omega⟩
    · exact ⟨_, cap, h1, fun _ => ⟨q, rfl⟩⟩
  have HO := Lib.hid hown
  have HB1 := Lib.hid hb1
  clear hown HC hb1 H0 hd hd2
  go_wp2_with fail
  go_loopw [22] (fun v22 wr => ∃ i : Nat, v22 = .int .i64 i ∧ i ≤ L ∧ Below w1.heap.size w1 wr) (fun v22 _ => L - (intOf v22).toNat)
  case atStart => exact ⟨0, rfl, by omega, Below.refl _ _⟩
  case round =>
    obtain ⟨i, rfl, hi, hbr⟩ := hrel
    by_cases hiL : i < L
    · obtain ⟨b, o, rfl, hbl, hrg⟩ := HA.out i hiL
      obtain ⟨q, rfl⟩ := hQ (by omega)
      have HRG := Lib.hid (rangeAt_below hrg (below_of_le HB1.out hbr) hbl)
      have hil : (i : Int) < L := by omega
      have hi0 : (0 : Int) ≤ i := by omega
      have hd : decide ((i : Int) < L) = true := decide_eq_true hil
      have hq1 := (HO.out.lt q rfl).2
      have hk0 : w1.cell? ⟨q, i * 12 + 0, none⟩ = some (.bool true) := ans_cell HO.out i 0 hiL (by omega)
      have hk1 : w1.cell? ⟨q, i * 12 + 1, none⟩ = some (.int .i64 ((i : Int) + 1)) := ans_cell HO.out i 1 hiL (by omega)
      have hk11 : w1.cell? ⟨q, i * 12 + 11, none⟩ = some (.bool true) := by
        rw [ans_cell HO.out i 11 hiL (by omega)]
        obtain ⟨p0, p1, p2, p3, p4, p5, p6, p7, h, -⟩ := plain_form (S i)
        unfold ansOf
        rw [h]
        rfl
      have hk3 : w1.rangeAt q (i * 12 + 3) (S i).plain.toList := by
        intro t x hx
        obtain ⟨p0, p1, p2, p3, p4, p5, p6, p7, h, -⟩ := plain_form (S i)
        have ht : t < 8 := by
          have := (List.getElem?_eq_some_iff.1 hx).1
          rw [h] at this
          exact this
        rw [Nat.add_assoc, ans_cell HO.out i (3 + t) hiL (by omega), ← hx]
        unfold ansOf
        rw [h]
        match t, ht with
        | 0, _ | 1, _ | 2, _ | 3, _ | 4, _ | 5, _ | 6, _ | 7, _ => rfl
      obtain ⟨s, hs⟩ : ∃ s, s = S i := ⟨_, rfl⟩
      rw [← hs] at HRG hk3
      have HK0 := Lib.hid hk0
      have HK1 := Lib.hid hk1
      have HK11 := Lib.hid hk11
      have HK3 := Lib.hid hk3
      clear hs hrg hbl hk0 hk1 hk11 hk3
      obtain ⟨wo, hwo⟩ : ∃ wo, wo = wr := ⟨_, rfl⟩
      subst hwo
      obtain ⟨T, hT⟩ : ∃ T, T = wo.heap.size := ⟨_, rfl⟩
      obtain ⟨ev, d, a0, a1, a2, a3, a4, a5⟩ := s
      unfold Sch.cells at HRG
      unfold Sch.plain at HK3
      dsimp only at HRG HK3
      cases ev with
      | true =>
        rw [if_pos rfl] at HK3
        go_wp2_with (first | (refine wpList_load_mid rfl 27 _ rfl b (o + i * 8) rfl _ _ HRG.out Try.underlying27 rfl schSize ?_) | (refine wpList_store_row rfl 27 _ _ rfl wo.heap.size #[.bool true, .int .i64 d, .int .u64 a0, .int .u64 a1, .int .u64 a2, .int .u64 a3, .int .u64 a4, .int .u64 a5] rfl rfl 27 _ (heap_alloc_new wo _) schSize rfl (by simp [Value.oneCell']) ?_; generalize hX : World.setRow _ _ _ = wx; have HX := Lib.hid (show wx.heap[wo.heap.size]? = some (.cells #[.bool true, .int .i64 d, .int .u64 a0, .int .u64 a1, .int .u64 a2, .int .u64 a3, .int .u64 a4, .int .u64 a5] 27 (0, 0)) by rw [← hX]; exact setRow_heap _ _ _ _ _ _ (heap_alloc_new wo _)); have HBX := Lib.hid (show Below wo.heap.size wo wx by rw [← hX]; exact below_setRow ((Below.refl _ _).alloc (Nat.le_refl _) _) (Nat.le_refl _) _); have e0 : wx.cell? ⟨wo.heap.size, 0, none⟩ = some (.bool true) := cell_of_row _ _ _ _ _ _ HX.out; have e1 : wx.cell? ⟨wo.heap.size, 1, none⟩ = some (.int .i64 d) := cell_of_row _ _ _ _ _ _ HX.out; clear hX) | (refine wpList_store_row rfl 27 _ _ rfl wo.heap.size #[.bool true, .int .i64 d, .int .u64 0, .int .u64 0, .int .u64 0, .int .u64 0, .int .u64 0, .int .u64 0] rfl rfl 27 _ HX.out schSize rfl (by simp [Value.oneCell']) ?_))
        generalize hY : wx.setRow wo.heap.size #[.bool true, .int .i64 d, .int .u64 0, .int .u64 0, .int .u64 0, .int .u64 0, .int .u64 0, .int .u64 0] = wy
        have HY : wy.heap[wo.heap.size]? = some (.cells #[.bool true, .int .i64 d, .int .u64 0, .int .u64 0, .int .u64 0, .int .u64 0, .int .u64 0, .int .u64 0] 27 (0, 0)) := by rw [← hY]; exact setRow_heap _ _ _ _ _ _ HX.out
        have HBY : Below w1.heap.size w1 wy := by rw [← hY]; exact below_setRow (below_of_le hbr HBX.out) hbr.size _
        clear hY HX HBX e0 e1
        have hk0 := (HBY.cell (p := ⟨q, i * 12, none⟩) hq1).trans HK0.out
        have hk1 := (HBY.cell (p := ⟨q, i * 12 + 1, none⟩) hq1).trans HK1.out
        have hk11 := (HBY.cell (p := ⟨q, i * 12 + 11, none⟩) hq1).trans HK11.out
        have hk3 := rangeAt_below HK3.out HBY hq1
        have hid : ((i : Int) + 1 == 0) = false := by simp; omega
        refine wp_only ?_
        refine start_ (n := 31) (S := fun w' => w'.cell? ⟨q, i * 12, none⟩ = some (.bool true) ∧ w'.cell? ⟨q, i * 12 + 1, none⟩ = some (.int .i64 ((i : Int) + 1)) ∧ w'.rangeAt q (i * 12 + 3) ([.bool true, .int .i64 d, .int .u64 0, .int .u64 0, .int .u64 0, .int .u64 0, .int .u64 0, .int .u64 0] : List Value) ∧ w'.cell? ⟨q, i * 12 + 11, none⟩ = some (.bool true) ∧ w'.heap[wo.heap.size]? = some (.cells #[.bool true, .int .i64 d, .int .u64 0, .int .u64 0, .int .u64 0, .int .u64 0, .int .u64 0, .int .u64 0] 27 (0, 0)) ∧ Below w1.heap.size w1 w') (ds := []) #[false, false, false, false, false, false, false, false, false, false, false, false, false, false, false, false, false, false, false, false, false, false, false, false, false, false, false, false, false, false, false] (by kernel_rfl) rfl rfl ⟨hk0, hk1, hk3, hk11, HY, HBY.drew⟩ (fun hHeld => ?_)
        refine pure_ (i := 0) (N := some 33) (v := ?_) (a' := ?_) #[true, false, false, false, false, false, false, false, false, false, false, false, false, false, false, false, false, false, false, false, false, false, false, false, false, false, false, false, false, false, false] rfl rfl (by kernel_rfl) (fun _ _ _ h => h) (Or.inl ⟨by rfl, ?_⟩) ?_ ?_
        rotate_left
        · intro w'
          go_simp
          with_reducible rfl
        rotate_left
        · simp only [Act.put, List.setIfInBounds_toArray, List.set_cons_zero, List.set_cons_succ, i64_w, i32_w]
          rfl
        refine pure_ (i := 1) (N := some 34) (v := ?_) (a' := ?_) #[true, true, false, false, false, false, false, false, false, false, false, false, false, false, false, false, false, false, false, false, false, false, false, false, false, false, false, false, false, false, false] rfl rfl (by kernel_rfl) (fun _ _ _ h => h) (Or.inl ⟨by rfl, ?_⟩) ?_ ?_
        rotate_left
        · intro w'
          go_simp
          with_reducible rfl
        rotate_left
        · simp only [Act.put, List.setIfInBounds_toArray, List.set_cons_zero, List.set_cons_succ, i64_w, i32_w]
          rfl
        refine pure_ (i := 2) (N := some 35) (v := ?_) (a' := ?_) #[true, true, true, false, false, false, false, false, false, false, false, false, false, false, false, false, false, false, false, false, false, false, false, false, false, false, false, false, false, false, false] rfl rfl (by kernel_rfl) (fun _ _ _ h => h) (Or.inl ⟨by rfl, ?_⟩) ?_ ?_
        rotate_left
        · intro w'
          go_simp
          with_reducible rfl
        rotate_left
        · simp only [Act.put, List.setIfInBounds_toArray, List.set_cons_zero, List.set_cons_succ, i64_w, i32_w]
          rfl
        refine pure_ (i := 3) (N := some 36) (v := ?_) (a' := ?_) #[true, true, true, true, false, false, false, false, false, false, false, false, false, false, false, false, false, false, false, false, false, false, false, false, false, false, false, false, false, false, false] rfl rfl (by kernel_rfl) (fun _ _ _ h => h) (Or.inl ⟨by rfl, ?_⟩) ?_ ?_
        rotate_left
        · intro w'
          go_simp
          with_reducible rfl
        rotate_left
        · simp only [Act.put, List.setIfInBounds_toArray, List.set_cons_zero, List.set_cons_succ, i64_w, i32_w]
          rfl
        refine take_ (i := 4) (N := some 37) (v := ?_) (a' := ?_) #[true, true, true, true, true, false, false, false, false, false, false, false, false, false, false, false, false, false, false, false, false, false, false, false, false, false, false, false, false, false, false] rfl rfl (by kernel_rfl) (fun _ _ _ h => h) (Or.inl ⟨by rfl, ?_⟩) hHeld ?_ ?_
        rotate_left
        · rintro w' ⟨s0, s1, s2, s3, s4, s5⟩
          go_simp
          with_reducible rfl
        rotate_left
        · simp only [Act.put, List.setIfInBounds_toArray, List.set_cons_zero, List.set_cons_succ, i64_w, i32_w]
          rfl
        refine pure_ (i := 5) (N := some 38) (v := ?_) (a' := ?_) #[true, true, true, true, true, true, false, false, false, false, false, false, false, false, false, false, false, false, false, false, false, false, false, false, false, false, false, false, false, false, false] rfl rfl (by kernel_rfl) (fun _ _ _ h => h) (Or.inl ⟨by rfl, ?_⟩) ?_ ?_
        rotate_left
        · intro w'
          go_simp
          with_reducible rfl
        rotate_left
        · simp only [Act.put, List.setIfInBounds_toArray, List.set_cons_zero, List.set_cons_succ, i64_w, i32_w]
          rfl
        refine pure_ (i := 6) (N := some 39) (v := ?_) (a' := ?_) #[true, true, true, true, true, true, true, false, false, false, false, false, false, false, false, false, false, false, false, false, false, false, false, false, false, false, false, false, false, false, false] rfl rfl (by kernel_rfl) (fun _ _ _ h => h) (Or.inl ⟨by rfl, ?_⟩) ?_ ?_
        rotate_left
        · intro w'
          go_simp
          with_reducible rfl
        rotate_left
        · simp only [Act.put, List.setIfInBounds_toArray, List.set_cons_zero, List.set_cons_succ, i64_w, i32_w]
          rfl
        refine pure_ (i := 7) (N := some 40) (v := ?_) (a' := ?_) #[true, true, true, true, true, true, true, true, false, false, false, false, false, false, false, false, false, false, false, false, false, false, false, false, false, false, false, false, false, false, false] rfl rfl (by kernel_rfl) (fun _ _ _ h => h) (Or.inl ⟨by rfl, ?_⟩) ?_ ?_
        rotate_left
        · intro w'
          go_simp
          with_reducible rfl
        rotate_left
        · simp only [Act.put, List.setIfInBounds_toArray, List.set_cons_zero, List.set_cons_succ, i64_w, i32_w]
          rfl
        refine pure_ (i := 8) (N := some 41) (v := ?_) (a' := ?_) #[true, true, true, true, true, true, true, true, true, false, false, false, false, false, false, false, false, false, false, false, false, false, false, false, false, false, false, false, false, false, false] rfl rfl (by kernel_rfl) (fun _ _ _ h => h) (Or.inl ⟨by rfl, ?_⟩) ?_ ?_
        rotate_left
        · intro w'
          go_simp
          with_reducible rfl
        rotate_left
        · simp only [Act.put, List.setIfInBounds_toArray, List.set_cons_zero, List.set_cons_succ, i64_w, i32_w]
          rfl
        refine pure_ (i := 9) (N := some 42) (v := ?_) (a' := ?_) #[true, true, true, true, true, true, true, true, true, true, false, false, false, false, false, false, false, false, false, false, false, false, false, false, false, false, false, false, false, false, false] rfl rfl (by kernel_rfl) (fun _ _ _ h => h) (Or.inl ⟨by rfl, ?_⟩) ?_ ?_
        rotate_left
        · intro w'
          go_simp
          with_reducible rfl
        rotate_left
        · simp only [Act.put, List.setIfInBounds_toArray, List.set_cons_zero, List.set_cons_succ, i64_w, i32_w]
          rfl
        refine pure_ (i := 10) (N := some 43) (v := ?_) (a' := ?_) #[true, true, true, true, true, true, true, true, true, true, true, false, false, false, false, false, false, false, false, false, false, false, false, false, false, false, false, false, false, false, false] rfl rfl (by kernel_rfl) (fun _ _ _ h => h) (Or.inl ⟨by rfl, ?_⟩) ?_ ?_
        rotate_left
        · intro w'
          go_simp
          with_reducible rfl
        rotate_left
        · simp only [Act.put, List.setIfInBounds_toArray, List.set_cons_zero, List.set_cons_succ, i64_w, i32_w]
          rfl
        refine take_ (i := 11) (N := some 44) (v := ?_) (a' := ?_) #[true, true, true, true, true, true, true, true, true, true, true, true, false, false, false, false, false, false, false, false, false, false, false, false, false, false, false, false, false, false, false] rfl rfl (by kernel_rfl) (fun _ _ _ h => h) (Or.inl ⟨by rfl, ?_⟩) hHeld ?_ ?_
        rotate_left
        · rintro w' ⟨s0, s1, s2, s3, s4, s5⟩
          go_simp
          with_reducible rfl
        rotate_left
        · simp only [Act.put, List.setIfInBounds_toArray, List.set_cons_zero, List.set_cons_succ, i64_w, i32_w]
          rfl
        refine pure_ (i := 12) (N := some 45) (v := ?_) (a' := ?_) #[true, true, true, true, true, true, true, true, true, true, true, true, true, false, false, false, false, false, false, false, false, false, false, false, false, false, false, false, false, false, false] rfl rfl (by kernel_rfl) (fun _ _ _ h => h) (Or.inl ⟨by rfl, ?_⟩) ?_ ?_
        rotate_left
        · intro w'
          go_simp
          with_reducible rfl
        rotate_left
        · simp only [Act.put, List.setIfInBounds_toArray, List.set_cons_zero, List.set_cons_succ, i64_w, i32_w]
          rfl
        refine pure_ (i := 13) (N := some 46) (v := ?_) (a' := ?_) #[true, true, true, true, true, true, true, true, true, true, true, true, true, true, false, false, false, false, false, false, false, false, false, false, false, false, false, false, false, false, false] rfl rfl (by kernel_rfl) (fun _ _ _ h => h) (Or.inl ⟨by rfl, ?_⟩) ?_ ?_
        rotate_left
        · intro w'
          go_simp
          with_reducible rfl
        rotate_left
        · simp only [Act.put, List.setIfInBounds_toArray, List.set_cons_zero, List.set_cons_succ, i64_w, i32_w]
          rfl
        refine pure_ (i := 14) (N := some 47) (v := ?_) (a' := ?_) #[true, true, true, true, true, true, true, true, true, true, true, true, true, true, true, false, false, false, false, false, false, false, false, false, false, false, false, false, false, false, false] rfl rfl (by kernel_rfl) (fun _ _ _ h => h) (Or.inl ⟨by rfl, ?_⟩) ?_ ?_
        rotate_left
        · intro w'
          go_simp
          with_reducible rfl
        rotate_left
        · simp only [Act.put, List.setIfInBounds_toArray, List.set_cons_zero, List.set_cons_succ, i64_w, i32_w]
          rfl
        refine pure_ (i := 15) (N := some 48) (v := ?_) (a' := ?_) #[true, true, true, true, true, true, true, true, true, true, true, true, true, true, true, true, false, false, false, false, false, false, false, false, false, false, false, false, false, false, false] rfl rfl (by kernel_rfl) (fun _ _ _ h => h) (Or.inl ⟨by rfl, ?_⟩) ?_ ?_
        rotate_left
        · intro w'
          go_simp
          with_reducible rfl
        rotate_left
        · simp only [Act.put, List.setIfInBounds_toArray, List.set_cons_zero, List.set_cons_succ, i64_w, i32_w]
          rfl
        refine pure_ (i := 16) (N := some 49) (v := ?_) (a' := ?_) #[true, true, true, true, true, true, true, true, true, true, true, true, true, true, true, true, true, false, false, false, false, false, false, false, false, false, false, false, false, false, false] rfl rfl (by kernel_rfl) (fun _ _ _ h => h) (Or.inl ⟨by rfl, ?_⟩) ?_ ?_
        rotate_left
        · intro w'
          go_simp
          with_reducible rfl
        rotate_left
        · simp only [Act.put, List.setIfInBounds_toArray, List.set_cons_zero, List.set_cons_succ, i64_w, i32_w]
          rfl
        refine pure_ (i := 17) (N := some 50) (v := ?_) (a' := ?_) #[true, true, true, true, true, true, true, true, true, true, true, true, true, true, true, true, true, true, false, false, false, false, false, false, false, false, false, false, false, false, false] rfl rfl (by kernel_rfl) (fun _ _ _ h => h) (Or.inl ⟨by rfl, ?_⟩) ?_ ?_
        rotate_left
        · intro w'
          go_simp
          with_reducible rfl
        rotate_left
        · simp only [Act.put, List.setIfInBounds_toArray, List.set_cons_zero, List.set_cons_succ, i64_w, i32_w]
          rfl
        refine pure_ (i := 18) (N := some 51) (v := ?_) (a' := ?_) #[true, true, true, true, true, true, true, true, true, true, true, true, true, true, true, true, true, true, true, false, false, false, false, false, false, false, false, false, false, false, false] rfl rfl (by kernel_rfl) (fun _ _ _ h => h) (Or.inl ⟨by rfl, ?_⟩) ?_ ?_
        rotate_left
        · intro w'
          go_simp
          with_reducible rfl
        rotate_left
        · simp only [Act.put, List.setIfInBounds_toArray, List.set_cons_zero, List.set_cons_succ, i64_w, i32_w]
          rfl
        refine take_ (i := 19) (N := some 52) (v := ?_) (a' := ?_) #[true, true, true, true, true, true, true, true, true, true, true, true, true, true, true, true, true, true, true, true, false, false, false, false, false, false, false, false, false, false, false] rfl rfl (by kernel_rfl) (fun _ _ _ h => h) (Or.inl ⟨by rfl, ?_⟩) hHeld ?_ ?_
        rotate_left
        · rintro w' ⟨s0, s1, s2, s3, s4, s5⟩
          have c0 : w'.cell? ⟨q, i * 12 + 3, none⟩ = some (.bool true) := s2 0 _ rfl
          have c1 : w'.cell? ⟨q, i * 12 + 3 + 1, none⟩ = some (.int .i64 d) := s2 1 _ rfl
          have c2 : w'.cell? ⟨q, i * 12 + 3 + 2, none⟩ = some (.int .u64 0) := s2 2 _ rfl
          have c3 : w'.cell? ⟨q, i * 12 + 3 + 3, none⟩ = some (.int .u64 0) := s2 3 _ rfl
          have c4 : w'.cell? ⟨q, i * 12 + 3 + 4, none⟩ = some (.int .u64 0) := s2 4 _ rfl
          have c5 : w'.cell? ⟨q, i * 12 + 3 + 5, none⟩ = some (.int .u64 0) := s2 5 _ rfl
          have c6 : w'.cell? ⟨q, i * 12 + 3 + 6, none⟩ = some (.int .u64 0) := s2 6 _ rfl
          have c7 : w'.cell? ⟨q, i * 12 + 3 + 7, none⟩ = some (.int .u64 0) := s2 7 _ rfl
          go_simp
          with_reducible rfl
        rotate_left
        · simp only [Act.put, List.setIfInBounds_toArray, List.set_cons_zero, List.set_cons_succ, i64_w, i32_w]
          rfl
        refine take_ (i := 20) (N := some 53) (v := ?_) (a' := ?_) #[true, true, true, true, true, true, true, true, true, true, true, true, true, true, true, true, true, true, true, true, true, false, false, false, false, false, false, false, false, false, false] rfl rfl (by kernel_rfl) (fun _ _ _ h => h) (Or.inl ⟨by rfl, ?_⟩) hHeld ?_ ?_
        rotate_left
        · rintro w' ⟨s0, s1, s2, s3, s4, s5⟩
          have c0 : w'.cell? ⟨wo.heap.size, 0, none⟩ = some (.bool true) := cell_of_row _ _ _ _ _ _ s4
          have c1 : w'.cell? ⟨wo.heap.size, 1, none⟩ = some (.int .i64 d) := cell_of_row _ _ _ _ _ _ s4
          have c2 : w'.cell? ⟨wo.heap.size, 2, none⟩ = some (.int .u64 0) := cell_of_row _ _ _ _ _ _ s4
          have c3 : w'.cell? ⟨wo.heap.size, 3, none⟩ = some (.int .u64 0) := cell_of_row _ _ _ _ _ _ s4
          have c4 : w'.cell? ⟨wo.heap.size, 4, none⟩ = some (.int .u64 0) := cell_of_row _ _ _ _ _ _ s4
          have c5 : w'.cell? ⟨wo.heap.size, 5, none⟩ = some (.int .u64 0) := cell_of_row _ _ _ _ _ _ s4
          have c6 : w'.cell? ⟨wo.heap.size, 6, none⟩ = some (.int .u64 0) := cell_of_row _ _ _ _ _ _ s4
          have c7 : w'.cell? ⟨wo.heap.size, 7, none⟩ = some (.int .u64 0) := cell_of_row _ _ _ _ _ _ s4
          go_simp
          with_reducible rfl
        rotate_left
        · simp only [Act.put, List.setIfInBounds_toArray, List.set_cons_zero, List.set_cons_succ, i64_w, i32_w]
          rfl
        refine pure_ (i := 21) (N := some 54) (v := ?_) (a' := ?_) #[true, true, true, true, true, true, true, true, true, true, true, true, true, true, true, true, true, true, true, true, true, true, false, false, false, false, false, false, false, false, false] rfl rfl (by kernel_rfl) (fun _ _ _ h => h) (Or.inl ⟨by rfl, ?_⟩) ?_ ?_
        rotate_left
        · intro w'
          go_simp
          with_reducible rfl
        rotate_left
        · simp only [Act.put, List.setIfInBounds_toArray, List.set_cons_zero, List.set_cons_succ, i64_w, i32_w]
          rfl
        refine pure_ (i := 22) (N := some 55) (v := ?_) (a' := ?_) #[true, true, true, true, true, true, true, true, true, true, true, true, true, true, true, true, true, true, true, true, true, true, true, false, false, false, false, false, false, false, false] rfl rfl (by kernel_rfl) (fun _ _ _ h => h) (Or.inl ⟨by rfl, ?_⟩) ?_ ?_
        rotate_left
        · intro w'
          go_simp
          with_reducible rfl
        rotate_left
        · simp only [Act.put, List.setIfInBounds_toArray, List.set_cons_zero, List.set_cons_succ, i64_w, i32_w]
          rfl
        refine pure_ (i := 23) (N := some 56) (v := ?_) (a' := ?_) #[true, true, true, true, true, true, true, true, true, true, true, true, true, true, true, true, true, true, true, true, true, true, true, true, false, false, false, false, false, false, false] rfl rfl (by kernel_rfl) (fun _ _ _ h => h) (Or.inl ⟨by rfl, ?_⟩) ?_ ?_
        rotate_left
        · intro w'
          go_simp
          with_reducible rfl
        rotate_left
        · simp only [Act.put, List.setIfInBounds_toArray, List.set_cons_zero, List.set_cons_succ, i64_w, i32_w]
          rfl
        refine pure_ (i := 24) (N := some 57) (v := ?_) (a' := ?_) #[true, true, true, true, true, true, true, true, true, true, true, true, true, true, true, true, true, true, true, true, true, true, true, true, true, false, false, false, false, false, false] rfl rfl (by kernel_rfl) (fun _ _ _ h => h) (Or.inl ⟨by rfl, ?_⟩) ?_ ?_
        rotate_left
        · intro w'
          go_simp
          with_reducible rfl
        rotate_left
        · simp only [Act.put, List.setIfInBounds_toArray, List.set_cons_zero, List.set_cons_succ, i64_w, i32_w]
          rfl
        refine pure_ (i := 25) (N := some 58) (v := ?_) (a' := ?_) #[true, true, true, true, true, true, true, true, true, true, true, true, true, true, true, true, true, true, true, true, true, true, true, true, true, true, false, false, false, false, false] rfl rfl (by kernel_rfl) (fun _ _ _ h => h) (Or.inl ⟨by rfl, ?_⟩) ?_ ?_
        rotate_left
        · intro w'
          go_simp
          with_reducible rfl
        rotate_left
        · simp only [Act.put, List.setIfInBounds_toArray, List.set_cons_zero, List.set_cons_succ, i64_w, i32_w]
          rfl
        refine pure_ (i := 26) (N := some 59) (v := ?_) (a' := ?_) #[true, true, true, true, true, true, true, true, true, true, true, true, true, true, true, true, true, true, true, true, true, true, true, true, true, true, true, false, false, false, false] rfl rfl (by kernel_rfl) (fun _ _ _ h => h) (Or.inl ⟨by rfl, ?_⟩) ?_ ?_
        rotate_left
        · intro w'
          go_simp
          with_reducible rfl
        rotate_left
        · simp only [Act.put, List.setIfInBounds_toArray, List.set_cons_zero, List.set_cons_succ, i64_w, i32_w]
          rfl
        refine pure_ (i := 27) (N := some 60) (v := ?_) (a' := ?_) #[true, true, true, true, true, true, true, true, true, true, true, true, true, true, true, true, true, true, true, true, true, true, true, true, true, true, true, true, false, false, false] rfl rfl (by kernel_rfl) (fun _ _ _ h => h) (Or.inl ⟨by rfl, ?_⟩) ?_ ?_
        rotate_left
        · intro w'
          go_simp
          with_reducible rfl
        rotate_left
        · simp only [Act.put, List.setIfInBounds_toArray, List.set_cons_zero, List.set_cons_succ, i64_w, i32_w]
          rfl
        refine take_ (i := 28) (N := some 61) (v := ?_) (a' := ?_) #[true, true, true, true, true, true, true, true, true, true, true, true, true, true, true, true, true, true, true, true, true, true, true, true, true, true, true, true, true, false, false] rfl rfl (by kernel_rfl) (fun _ _ _ h => h) (Or.inl ⟨by rfl, ?_⟩) hHeld ?_ ?_
        rotate_left
        · rintro w' ⟨s0, s1, s2, s3, s4, s5⟩
          go_simp
          with_reducible rfl
        rotate_left
        · simp only [Act.put, List.setIfInBounds_toArray, List.set_cons_zero, List.set_cons_succ, i64_w, i32_w]
          rfl
        refine pure_ (i := 29) (N := some 62) (v := ?_) (a' := ?_) #[true, true, true, true, true, true, true, true, true, true, true, true, true, true, true, true, true, true, true, true, true, true, true, true, true, true, true, true, true, true, false] rfl rfl (by kernel_rfl) (fun _ _ _ h => h) (Or.inl ⟨by rfl, ?_⟩) ?_ ?_
        rotate_left
        · intro w'
          go_simp
          with_reducible rfl
        rotate_left
        · simp only [Act.put, List.setIfInBounds_toArray, List.set_cons_zero, List.set_cons_succ, i64_w, i32_w]
          rfl
        refine pure_ (i := 30) (N := some 63) (v := ?_) (a' := ?_) #[true, true, true, true, true, true, true, true, true, true, true, true, true, true, true, true, true, true, true, true, true, true, true, true, true, true, true, true, true, true, true] rfl rfl (by kernel_rfl) (fun _ _ _ h => h) (Or.inl ⟨by rfl, ?_⟩) ?_ ?_
        rotate_left
        · intro w'
          go_simp
          with_reducible rfl
        rotate_left
        · simp only [Act.put, List.setIfInBounds_toArray, List.set_cons_zero, List.set_cons_succ, i64_w, i32_w]
          rfl
        refine done_ (by kernel_rfl) ?_
        dsimp only [only]
        obtain ⟨-, -, -, -, -, HBZ⟩ := hHeld
        clear hk0 hk1 hk3 hk11 HY HBY hbr hid HK0 HK1 HK3 HK11 HRG
        have HOUT := Lib.hid HO.out
        go_wp2_with fail
        go_loopw [65] (fun v65 wr => ∃ k : Nat, v65 = .int .i64 k ∧ k ≤ i ∧ Below w1.heap.size w1 wr) (fun v65 _ => i - (intOf v65).toNat)
        case atStart => exact ⟨0, rfl, by omega, HBZ⟩
        case round =>
          obtain ⟨k, rfl, hk, hbk⟩ := hrel
          by_cases hki : k < i
          · have hd3 : decide ((k : Int) < i) = true := decide_eq_true (by omega)
            have hkL : (k : Int) < L := by omega
            have hkp : (0 : Int) ≤ k := by omega
            have ck : wr.cell? ⟨q, k * 12 + 1, none⟩ = some (.int .i64 ((k : Int) + 1)) := (hbk.cell (p := ⟨q, k * 12 + 1, none⟩) hq1).trans (ans_cell HO.out k 1 (by omega) (by omega))
            have ci : wr.cell? ⟨q, i * 12 + 1, none⟩ = some (.int .i64 ((i : Int) + 1)) := (hbk.cell (p := ⟨q, i * 12 + 1, none⟩) hq1).trans (ans_cell HO.out i 1 (by omega) (by omega))
            have hne : ((k : Int) + 1 == (i : Int) + 1) = false := by simp; omega
            clear HBZ
            go_wp2_with fail
            refine wp_only ?_
            refine start_ (n := 11) (S := fun w' => w'.cell? ⟨q, k * 12 + 1, none⟩ = some (.int .i64 ((k : Int) + 1)) ∧ w'.cell? ⟨q, i * 12 + 1, none⟩ = some (.int .i64 ((i : Int) + 1)) ∧ Below w1.heap.size w1 w') (ds := []) #[false, false, false, false, false, false, false, false, false, false, false] (by kernel_rfl) rfl rfl ⟨ck, ci, hbk.drew⟩ (fun hHeld => ?_)
            refine pure_ (i := 0) (N := some 68) (v := ?_) (a' := ?_) #[true, false, false, false, false, false, false, false, false, false, false] rfl rfl (by kernel_rfl) (fun _ _ _ h => h) (Or.inl ⟨by rfl, ?_⟩) ?_ ?_
            rotate_left
            · intro w'
              go_simp
              with_reducible rfl
            rotate_left
            · simp only [Act.put, List.setIfInBounds_toArray, List.set_cons_zero, List.set_cons_succ, i64_w, i32_w]
              rfl
            refine pure_ (i := 1) (N := some 69) (v := ?_) (a' := ?_) #[true, true, false, false, false, false, false, false, false, false, false] rfl rfl (by kernel_rfl) (fun _ _ _ h => h) (Or.inl ⟨by rfl, ?_⟩) ?_ ?_
            rotate_left
            · intro w'
              go_simp
              with_reducible rfl
            rotate_left
            · simp only [Act.put, List.setIfInBounds_toArray, List.set_cons_zero, List.set_cons_succ, i64_w, i32_w]
              rfl
            refine pure_ (i := 2) (N := some 70) (v := ?_) (a' := ?_) #[true, true, true, false, false, false, false, false, false, false, false] rfl rfl (by kernel_rfl) (fun _ _ _ h => h) (Or.inl ⟨by rfl, ?_⟩) ?_ ?_
            rotate_left
            · intro w'
              go_simp
              with_reducible rfl
            rotate_left
            · simp only [Act.put, List.setIfInBounds_toArray, List.set_cons_zero, List.set_cons_succ, i64_w, i32_w]
              rfl
            refine pure_ (i := 3) (N := some 71) (v := ?_) (a' := ?_) #[true, true, true, true, false, false, false, false, false, false, false] rfl rfl (by kernel_rfl) (fun _ _ _ h => h) (Or.inl ⟨by rfl, ?_⟩) ?_ ?_
            rotate_left
            · intro w'
              go_simp
              with_reducible rfl
            rotate_left
            · simp only [Act.put, List.setIfInBounds_toArray, List.set_cons_zero, List.set_cons_succ, i64_w, i32_w]
              rfl
            refine pure_ (i := 5) (N := some 73) (v := ?_) (a' := ?_) #[true, true, true, true, false, true, false, false, false, false, false] rfl rfl (by kernel_rfl) (fun _ _ _ h => h) (Or.inl ⟨by rfl, ?_⟩) ?_ ?_
            rotate_left
            · intro w'
              go_simp
              with_reducible rfl
            rotate_left
            · simp only [Act.put, List.setIfInBounds_toArray, List.set_cons_zero, List.set_cons_succ, i64_w, i32_w]
              rfl
            refine pure_ (i := 6) (N := some 74) (v := ?_) (a' := ?_) #[true, true, true, true, false, true, true, false, false, false, false] rfl rfl (by kernel_rfl) (fun _ _ _ h => h) (Or.inl ⟨by rfl, ?_⟩) ?_ ?_
            rotate_left
            · intro w'
              go_simp
              with_reducible rfl
            rotate_left
            · simp only [Act.put, List.setIfInBounds_toArray, List.set_cons_zero, List.set_cons_succ, i64_w, i32_w]
              rfl
            refine pure_ (i := 7) (N := some 75) (v := ?_) (a' := ?_) #[true, true, true, true, false, true, true, true, false, false, false] rfl rfl (by kernel_rfl) (fun _ _ _ h => h) (Or.inl ⟨by rfl, ?_⟩) ?_ ?_
            rotate_left
            · intro w'
              go_simp
              with_reducible rfl
            rotate_left
            · simp only [Act.put, List.setIfInBounds_toArray, List.set_cons_zero, List.set_cons_succ, i64_w, i32_w]
              rfl
            refine pure_ (i := 8) (N := some 76) (v := ?_) (a' := ?_) #[true, true, true, true, false, true, true, true, true, false, false] rfl rfl (by kernel_rfl) (fun _ _ _ h => h) (Or.inl ⟨by rfl, ?_⟩) ?_ ?_
            rotate_left
            · intro w'
              go_simp
              with_reducible rfl
            rotate_left
            · simp only [Act.put, List.setIfInBounds_toArray, List.set_cons_zero, List.set_cons_succ, i64_w, i32_w]
              rfl
            refine take_ (i := 4) (N := some 72) (v := ?_) (a' := ?_) #[true, true, true, true, true, true, true, true, true, false, false] rfl rfl (by kernel_rfl) (fun _ _ _ h => h) (Or.inl ⟨by rfl, ?_⟩) hHeld ?_ ?_
            rotate_left
            · rintro w' ⟨s0, s1, s2⟩
              go_simp
              with_reducible rfl
            rotate_left
            · simp only [Act.put, List.setIfInBounds_toArray, List.set_cons_zero, List.set_cons_succ, i64_w, i32_w]
              rfl
            refine take_ (i := 9) (N := some 77) (v := ?_) (a' := ?_) #[true, true, true, true, true, true, true, true, true, true, false] rfl rfl (by kernel_rfl) (fun _ _ _ h => h) (Or.inl ⟨by rfl, ?_⟩) hHeld ?_ ?_
            rotate_left
            · rintro w' ⟨s0, s1, s2⟩
              go_simp
              with_reducible rfl
            rotate_left
            · simp only [Act.put, List.setIfInBounds_toArray, List.set_cons_zero, List.set_cons_succ, i64_w, i32_w]
              rfl
            refine pure_ (i := 10) (N := some 78) (v := ?_) (a' := ?_) #[true, true, true, true, true, true, true, true, true, true, true] rfl rfl (by kernel_rfl) (fun _ _ _ h => h) (Or.inl ⟨by rfl, ?_⟩) ?_ ?_
            rotate_left
            · intro w'
              go_simp
              with_reducible rfl
            rotate_left
            · simp only [Act.put, List.setIfInBounds_toArray, List.set_cons_zero, List.set_cons_succ, i64_w, i32_w]
              rfl
            refine done_ (by kernel_rfl) ?_
            dsimp only [only]
            obtain ⟨-, -, hbk2⟩ := hHeld
            clear ck ci hbk
            go_wp2_with fail
            exact ⟨⟨k + 1, by push_cast; rfl, by omega, hbk2⟩, by simp [intOf]; omega⟩
          · have hd3 : decide ((k : Int) < i) = false := decide_eq_false (by omega)
            clear HBZ
            go_wp2_with fail
            exact ⟨⟨i + 1, by push_cast; rfl, by omega, hbk⟩, by simp [intOf]; omega⟩
      | false =>
        rw [if_neg (by decide)] at HK3
        go_wp2_with (first | (refine wpList_load_mid rfl 27 _ rfl b (o + i * 8) rfl _ _ HRG.out Try.underlying27 rfl schSize ?_) | (refine wpList_store_row rfl 27 _ _ rfl wo.heap.size #[.bool false, .int .i64 d, .int .u64 a0, .int .u64 a1, .int .u64 a2, .int .u64 a3, .int .u64 a4, .int .u64 a5] rfl rfl 27 _ (heap_alloc_new wo _) schSize rfl (by simp [Value.oneCell']) ?_; generalize hX : World.setRow _ _ _ = wx; have HX := Lib.hid (show wx.heap[wo.heap.size]? = some (.cells #[.bool false, .int .i64 d, .int .u64 a0, .int .u64 a1, .int .u64 a2, .int .u64 a3, .int .u64 a4, .int .u64 a5] 27 (0, 0)) by rw [← hX]; exact setRow_heap _ _ _ _ _ _ (heap_alloc_new wo _)); have HBX := Lib.hid (show Below wo.heap.size wo wx by rw [← hX]; exact below_setRow ((Below.refl _ _).alloc (Nat.le_refl _) _) (Nat.le_refl _) _); have e0 : wx.cell? ⟨wo.heap.size, 0, none⟩ = some (.bool false) := cell_of_row _ _ _ _ _ _ HX.out; have e1 : wx.cell? ⟨wo.heap.size, 1, none⟩ = some (.int .i64 d) := cell_of_row _ _ _ _ _ _ HX.out; have f1 : wx.frozen? ⟨wo.heap.size, 1, none⟩ = false := (by simp [World.frozen?, HX.out]); clear hX))
        generalize hY : wx.setCell ⟨wo.heap.size, 1, none⟩ (.int .i64 0) = wy
        have HY : wy.heap[wo.heap.size]? = some (.cells #[.bool false, .int .i64 0, .int .u64 a0, .int .u64 a1, .int .u64 a2, .int .u64 a3, .int .u64 a4, .int .u64 a5] 27 (0, 0)) := by rw [← hY]; exact heap_setCell_same _ _ _ _ _ _ HX.out
        have HBY : Below w1.heap.size w1 wy := by rw [← hY]; exact (below_of_le hbr HBX.out).setCell hbr.size _
        clear hY HX HBX e0 e1 f1
        have hk0 := (HBY.cell (p := ⟨q, i * 12, none⟩) hq1).trans HK0.out
        have hk1 := (HBY.cell (p := ⟨q, i * 12 + 1, none⟩) hq1).trans HK1.out
        have hk11 := (HBY.cell (p := ⟨q, i * 12 + 11, none⟩) hq1).trans HK11.out
        have hk3 := rangeAt_below HK3.out HBY hq1
        have hid : ((i : Int) + 1 == 0) = false := by simp; omega
        refine wp_only ?_
        refine start_ (n := 31) (S := fun w' => w'.cell? ⟨q, i * 12, none⟩ = some (.bool true) ∧ w'.cell? ⟨q, i * 12 + 1, none⟩ = some (.int .i64 ((i : Int) + 1)) ∧ w'.rangeAt q (i * 12 + 3) ([.bool false, .int .i64 0, .int .u64 a0, .int .u64 a1, .int .u64 a2, .int .u64 a3, .int .u64 a4, .int .u64 a5] : List Value) ∧ w'.cell? ⟨q, i * 12 + 11, none⟩ = some (.bool true) ∧ w'.heap[wo.heap.size]? = some (.cells #[.bool false, .int .i64 0, .int .u64 a0, .int .u64 a1, .int .u64 a2, .int .u64 a3, .int .u64 a4, .int .u64 a5] 27 (0, 0)) ∧ Below w1.heap.size w1 w') (ds := []) #[false, false, false, false, false, false, false, false, false, false, false, false, false, false, false, false, false, false, false, false, false, false, false, false, false, false, false, false, false, false, false] (by kernel_rfl) rfl rfl ⟨hk0, hk1, hk3, hk11, HY, HBY.drew⟩ (fun hHeld => ?_)
        refine pure_ (i := 0) (N := some 33) (v := ?_) (a' := ?_) #[true, false, false, false, false, false, false, false, false, false, false, false, false, false, false, false, false, false, false, false, false, false, false, false, false, false, false, false, false, false, false] rfl rfl (by kernel_rfl) (fun _ _ _ h => h) (Or.inl ⟨by rfl, ?_⟩) ?_ ?_
        rotate_left
        · intro w'
          go_simp
          with_reducible rfl
        rotate_left
        · simp only [Act.put, List.setIfInBounds_toArray, List.set_cons_zero, List.set_cons_succ, i64_w, i32_w]
          rfl
        refine pure_ (i := 1) (N := some 34) (v := ?_) (a' := ?_) #[true, true, false, false, false, false, false, false, false, false, false, false, false, false, false, false, false, false, false, false, false, false, false, false, false, false, false, false, false, false, false] rfl rfl (by kernel_rfl) (fun _ _ _ h => h) (Or.inl ⟨by rfl, ?_⟩) ?_ ?_
        rotate_left
        · intro w'
          go_simp
          with_reducible rfl
        rotate_left
        · simp only [Act.put, List.setIfInBounds_toArray, List.set_cons_zero, List.set_cons_succ, i64_w, i32_w]
          rfl
        refine pure_ (i := 2) (N := some 35) (v := ?_) (a' := ?_) #[true, true, true, false, false, false, false, false, false, false, false, false, false, false, false, false, false, false, false, false, false, false, false, false, false, false, false, false, false, false, false] rfl rfl (by kernel_rfl) (fun _ _ _ h => h) (Or.inl ⟨by rfl, ?_⟩) ?_ ?_
        rotate_left
        · intro w'
          go_simp
          with_reducible rfl
        rotate_left
        · simp only [Act.put, List.setIfInBounds_toArray, List.set_cons_zero, List.set_cons_succ, i64_w, i32_w]
          rfl
        refine pure_ (i := 3) (N := some 36) (v := ?_) (a' := ?_) #[true, true, true, true, false, false, false, false, false, false, false, false, false, false, false, false, false, false, false, false, false, false, false, false, false, false, false, false, false, false, false] rfl rfl (by kernel_rfl) (fun _ _ _ h => h) (Or.inl ⟨by rfl, ?_⟩) ?_ ?_
        rotate_left
        · intro w'
          go_simp
          with_reducible rfl
        rotate_left
        · simp only [Act.put, List.setIfInBounds_toArray, List.set_cons_zero, List.set_cons_succ, i64_w, i32_w]
          rfl
        refine take_ (i := 4) (N := some 37) (v := ?_) (a' := ?_) #[true, true, true, true, true, false, false, false, false, false, false, false, false, false, false, false, false, false, false, false, false, false, false, false, false, false, false, false, false, false, false] rfl rfl (by kernel_rfl) (fun _ _ _ h => h) (Or.inl ⟨by rfl, ?_⟩) hHeld ?_ ?_
        rotate_left
        · rintro w' ⟨s0, s1, s2, s3, s4, s5⟩
          go_simp
          with_reducible rfl
        rotate_left
        · simp only [Act.put, List.setIfInBounds_toArray, List.set_cons_zero, List.set_cons_succ, i64_w, i32_w]
          rfl
        refine pure_ (i := 5) (N := some 38) (v := ?_) (a' := ?_) #[true, true, true, true, true, true, false, false, false, false, false, false, false, false, false, false, false, false, false, false, false, false, false, false, false, false, false, false, false, false, false] rfl rfl (by kernel_rfl) (fun _ _ _ h => h) (Or.inl ⟨by rfl, ?_⟩) ?_ ?_
        rotate_left
        · intro w'
          go_simp
          with_reducible rfl
        rotate_left
        · simp only [Act.put, List.setIfInBounds_toArray, List.set_cons_zero, List.set_cons_succ, i64_w, i32_w]
          rfl
        refine pure_ (i := 6) (N := some 39) (v := ?_) (a' := ?_) #[true, true, true, true, true, true, true, false, false, false, false, false, false, false, false, false, false, false, false, false, false, false, false, false, false, false, false, false, false, false, false] rfl rfl (by kernel_rfl) (fun _ _ _ h => h) (Or.inl ⟨by rfl, ?_⟩) ?_ ?_
        rotate_left
        · intro w'
          go_simp
          with_reducible rfl
        rotate_left
        · simp only [Act.put, List.setIfInBounds_toArray, List.set_cons_zero, List.set_cons_succ, i64_w, i32_w]
          rfl
        refine pure_ (i := 7) (N := some 40) (v := ?_) (a' := ?_) #[true, true, true, true, true, true, true, true, false, false, false, false, false, false, false, false, false, false, false, false, false, false, false, false, false, false, false, false, false, false, false] rfl rfl (by kernel_rfl) (fun _ _ _ h => h) (Or.inl ⟨by rfl, ?_⟩) ?_ ?_
        rotate_left
        · intro w'
          go_simp
          with_reducible rfl
        rotate_left
        · simp only [Act.put, List.setIfInBounds_toArray, List.set_cons_zero, List.set_cons_succ, i64_w, i32_w]
          rfl
        refine pure_ (i := 8) (N := some 41) (v := ?_) (a' := ?_) #[true, true, true, true, true, true, true, true, true, false, false, false, false, false, false, false, false, false, false, false, false, false, false, false, false, false, false, false, false, false, false] rfl rfl (by kernel_rfl) (fun _ _ _ h => h) (Or.inl ⟨by rfl, ?_⟩) ?_ ?_
        rotate_left
        · intro w'
          go_simp
          with_reducible rfl
        rotate_left
        · simp only [Act.put, List.setIfInBounds_toArray, List.set_cons_zero, List.set_cons_succ, i64_w, i32_w]
          rfl
        refine pure_ (i := 9) (N := some 42) (v := ?_) (a' := ?_) #[true, true, true, true, true, true, true, true, true, true, false, false, false, false, false, false, false, false, false, false, false, false, false, false, false, false, false, false, false, false, false] rfl rfl (by kernel_rfl) (fun _ _ _ h => h) (Or.inl ⟨by rfl, ?_⟩) ?_ ?_
        rotate_left
        · intro w'
          go_simp
          with_reducible rfl
        rotate_left
        · simp only [Act.put, List.setIfInBounds_toArray, List.set_cons_zero, List.set_cons_succ, i64_w, i32_w]
          rfl
        refine pure_ (i := 10) (N := some 43) (v := ?_) (a' := ?_) #[true, true, true, true, true, true, true, true, true, true, true, false, false, false, false, false, false, false, false, false, false, false, false, false, false, false, false, false, false, false, false] rfl rfl (by kernel_rfl) (fun _ _ _ h => h) (Or.inl ⟨by rfl, ?_⟩) ?_ ?_
        rotate_left
        · intro w'
          go_simp
          with_reducible rfl
        rotate_left
        · simp only [Act.put, List.setIfInBounds_toArray, List.set_cons_zero, List.set_cons_succ, i64_w, i32_w]
          rfl
        refine take_ (i := 11) (N := some 44) (v := ?_) (a' := ?_) #[true, true, true, true, true, true, true, true, true, true, true, true, false, false, false, false, false, false, false, false, false, false, false, false, false, false, false, false, false, false, false] rfl rfl (by kernel_rfl) (fun _ _ _ h => h) (Or.inl ⟨by rfl, ?_⟩) hHeld ?_ ?_
        rotate_left
        · rintro w' ⟨s0, s1, s2, s3, s4, s5⟩
          go_simp
          with_reducible rfl
        rotate_left
        · simp only [Act.put, List.setIfInBounds_toArray, List.set_cons_zero, List.set_cons_succ, i64_w, i32_w]
          rfl
        refine pure_ (i := 12) (N := some 45) (v := ?_) (a' := ?_) #[true, true, true, true, true, true, true, true, true, true, true, true, true, false, false, false, false, false, false, false, false, false, false, false, false, false, false, false, false, false, false] rfl rfl (by kernel_rfl) (fun _ _ _ h => h) (Or.inl ⟨by rfl, ?_⟩) ?_ ?_
        rotate_left
        · intro w'
          go_simp
          with_reducible rfl
        rotate_left
        · simp only [Act.put, List.setIfInBounds_toArray, List.set_cons_zero, List.set_cons_succ, i64_w, i32_w]
          rfl
        refine pure_ (i := 13) (N := some 46) (v := ?_) (a' := ?_) #[true, true, true, true, true, true, true, true, true, true, true, true, true, true, false, false, false, false, false, false, false, false, false, false, false, false, false, false, false, false, false] rfl rfl (by kernel_rfl) (fun _ _ _ h => h) (Or.inl ⟨by rfl, ?_⟩) ?_ ?_
        rotate_left
        · intro w'
          go_simp
          with_reducible rfl
        rotate_left
        · simp only [Act.put, List.setIfInBounds_toArray, List.set_cons_zero, List.set_cons_succ, i64_w, i32_w]
          rfl
        refine pure_ (i := 14) (N := some 47) (v := ?_) (a' := ?_) #[true, true, true, true, true, true, true, true, true, true, true, true, true, true, true, false, false, false, false, false, false, false, false, false, false, false, false, false, false, false, false] rfl rfl (by kernel_rfl) (fun _ _ _ h => h) (Or.inl ⟨by rfl, ?_⟩) ?_ ?_
        rotate_left
        · intro w'
          go_simp
          with_reducible rfl
        rotate_left
        · simp only [Act.put, List.setIfInBounds_toArray, List.set_cons_zero, List.set_cons_succ, i64_w, i32_w]
          rfl
        refine pure_ (i := 15) (N := some 48) (v := ?_) (a' := ?_) #[true, true, true, true, true, true, true, true, true, true, true, true, true, true, true, true, false, false, false, false, false, false, false, false, false, false, false, false, false, false, false] rfl rfl (by kernel_rfl) (fun _ _ _ h => h) (Or.inl ⟨by rfl, ?_⟩) ?_ ?_
        rotate_left
        · intro w'
          go_simp
          with_reducible rfl
        rotate_left
        · simp only [Act.put, List.setIfInBounds_toArray, List.set_cons_zero, List.set_cons_succ, i64_w, i32_w]
          rfl
        refine pure_ (i := 16) (N := some 49) (v := ?_) (a' := ?_) #[true, true, true, true, true, true, true, true, true, true, true, true, true, true, true, true, true, false, false, false, false, false, false, false, false, false, false, false, false, false, false] rfl rfl (by kernel_rfl) (fun _ _ _ h => h) (Or.inl ⟨by rfl, ?_⟩) ?_ ?_
        rotate_left
        · intro w'
          go_simp
          with_reducible rfl
        rotate_left
        · simp only [Act.put, List.setIfInBounds_toArray, List.set_cons_zero, List.set_cons_succ, i64_w, i32_w]
          rfl
        refine pure_ (i := 17) (N := some 50) (v := ?_) (a' := ?_) #[true, true, true, true, true, true, true, true, true, true, true, true, true, true, true, true, true, true, false, false, false, false, false, false, false, false, false, false, false, false, false] rfl rfl (by kernel_rfl) (fun _ _ _ h => h) (Or.inl ⟨by rfl, ?_⟩) ?_ ?_
        rotate_left
        · intro w'
          go_simp
          with_reducible rfl
        rotate_left
        · simp only [Act.put, List.setIfInBounds_toArray, List.set_cons_zero, List.set_cons_succ, i64_w, i32_w]
          rfl
        refine pure_ (i := 18) (N := some 51) (v := ?_) (a' := ?_) #[true, true, true, true, true, true, true, true, true, true, true, true, true, true, true, true, true, true, true, false, false, false, false, false, false, false, false, false, false, false, false] rfl rfl (by kernel_rfl) (fun _ _ _ h => h) (Or.inl ⟨by rfl, ?_⟩) ?_ ?_
        rotate_left
        · intro w'
          go_simp
          with_reducible rfl
        rotate_left
        · simp only [Act.put, List.setIfInBounds_toArray, List.set_cons_zero, List.set_cons_succ, i64_w, i32_w]
          rfl
        refine take_ (i := 19) (N := some 52) (v := ?_) (a' := ?_) #[true, true, true, true, true, true, true, true, true, true, true, true, true, true, true, true, true, true, true, true, false, false, false, false, false, false, false, false, false, false, false] rfl rfl (by kernel_rfl) (fun _ _ _ h => h) (Or.inl ⟨by rfl, ?_⟩) hHeld ?_ ?_
        rotate_left
        · rintro w' ⟨s0, s1, s2, s3, s4, s5⟩
          have c0 : w'.cell? ⟨q, i * 12 + 3, none⟩ = some (.bool false) := s2 0 _ rfl
          have c1 : w'.cell? ⟨q, i * 12 + 3 + 1, none⟩ = some (.int .i64 0) := s2 1 _ rfl
          have c2 : w'.cell? ⟨q, i * 12 + 3 + 2, none⟩ = some (.int .u64 a0) := s2 2 _ rfl
          have c3 : w'.cell? ⟨q, i * 12 + 3 + 3, none⟩ = some (.int .u64 a1) := s2 3 _ rfl
          have c4 : w'.cell? ⟨q, i * 12 + 3 + 4, none⟩ = some (.int .u64 a2) := s2 4 _ rfl
          have c5 : w'.cell? ⟨q, i * 12 + 3 + 5, none⟩ = some (.int .u64 a3) := s2 5 _ rfl
          have c6 : w'.cell? ⟨q, i * 12 + 3 + 6, none⟩ = some (.int .u64 a4) := s2 6 _ rfl
          have c7 : w'.cell? ⟨q, i * 12 + 3 + 7, none⟩ = some (.int .u64 a5) := s2 7 _ rfl
          go_simp
          with_reducible rfl
        rotate_left
        · simp only [Act.put, List.setIfInBounds_toArray, List.set_cons_zero, List.set_cons_succ, i64_w, i32_w]
          rfl
        refine take_ (i := 20) (N := some 53) (v := ?_) (a' := ?_) #[true, true, true, true, true, true, true, true, true, true, true, true, true, true, true, true, true, true, true, true, true, false, false, false, false, false, false, false, false, false, false] rfl rfl (by kernel_rfl) (fun _ _ _ h => h) (Or.inl ⟨by rfl, ?_⟩) hHeld ?_ ?_
        rotate_left
        · rintro w' ⟨s0, s1, s2, s3, s4, s5⟩
          have c0 : w'.cell? ⟨wo.heap.size, 0, none⟩ = some (.bool false) := cell_of_row _ _ _ _ _ _ s4
          have c1 : w'.cell? ⟨wo.heap.size, 1, none⟩ = some (.int .i64 0) := cell_of_row _ _ _ _ _ _ s4
          have c2 : w'.cell? ⟨wo.heap.size, 2, none⟩ = some (.int .u64 a0) := cell_of_row _ _ _ _ _ _ s4
          have c3 : w'.cell? ⟨wo.heap.size, 3, none⟩ = some (.int .u64 a1) := cell_of_row _ _ _ _ _ _ s4
          have c4 : w'.cell? ⟨wo.heap.size, 4, none⟩ = some (.int .u64 a2) := cell_of_row _ _ _ _ _ _ s4
          have c5 : w'.cell? ⟨wo.heap.size, 5, none⟩ = some (.int .u64 a3) := cell_of_row _ _ _ _ _ _ s4
          have c6 : w'.cell? ⟨wo.heap.size, 6, none⟩ = some (.int .u64 a4) := cell_of_row _ _ _ _ _ _ s4
          have c7 : w'.cell? ⟨wo.heap.size, 7, none⟩ = some (.int .u64 a5) := cell_of_row _ _ _ _ _ _ s4
          go_simp
          with_reducible rfl
        rotate_left
        · simp only [Act.put, List.setIfInBounds_toArray, List.set_cons_zero, List.set_cons_succ, i64_w, i32_w]
          rfl
        refine pure_ (i := 21) (N := some 54) (v := ?_) (a' := ?_) #[true, true, true, true, true, true, true, true, true, true, true, true, true, true, true, true, true, true, true, true, true, true, false, false, false, false, false, false, false, false, false] rfl rfl (by kernel_rfl) (fun _ _ _ h => h) (Or.inl ⟨by rfl, ?_⟩) ?_ ?_
        rotate_left
        · intro w'
          go_simp
          with_reducible rfl
        rotate_left
        · simp only [Act.put, List.setIfInBounds_toArray, List.set_cons_zero, List.set_cons_succ, i64_w, i32_w]
          rfl
        refine pure_ (i := 22) (N := some 55) (v := ?_) (a' := ?_) #[true, true, true, true, true, true, true, true, true, true, true, true, true, true, true, true, true, true, true, true, true, true, true, false, false, false, false, false, false, false, false] rfl rfl (by kernel_rfl) (fun _ _ _ h => h) (Or.inl ⟨by rfl, ?_⟩) ?_ ?_
        rotate_left
        · intro w'
          go_simp
          with_reducible rfl
        rotate_left
        · simp only [Act.put, List.setIfInBounds_toArray, List.set_cons_zero, List.set_cons_succ, i64_w, i32_w]
          rfl
        refine pure_ (i := 23) (N := some 56) (v := ?_) (a' := ?_) #[true, true, true, true, true, true, true, true, true, true, true, true, true, true, true, true, true, true, true, true, true, true, true, true, false, false, false, false, false, false, false] rfl rfl (by kernel_rfl) (fun _ _ _ h => h) (Or.inl ⟨by rfl, ?_⟩) ?_ ?_
        rotate_left
        · intro w'
          go_simp
          with_reducible rfl
        rotate_left
        · simp only [Act.put, List.setIfInBounds_toArray, List.set_cons_zero, List.set_cons_succ, i64_w, i32_w]
          rfl
        refine pure_ (i := 24) (N := some 57) (v := ?_) (a' := ?_) #[true, true, true, true, true, true, true, true, true, true, true, true, true, true, true, true, true, true, true, true, true, true, true, true, true, false, false, false, false, false, false] rfl rfl (by kernel_rfl) (fun _ _ _ h => h) (Or.inl ⟨by rfl, ?_⟩) ?_ ?_
        rotate_left
        · intro w'
          go_simp
          with_reducible rfl
        rotate_left
        · simp only [Act.put, List.setIfInBounds_toArray, List.set_cons_zero, List.set_cons_succ, i64_w, i32_w]
          rfl
        refine pure_ (i := 25) (N := some 58) (v := ?_) (a' := ?_) #[true, true, true, true, true, true, true, true, true, true, true, true, true, true, true, true, true, true, true, true, true, true, true, true, true, true, false, false, false, false, false] rfl rfl (by kernel_rfl) (fun _ _ _ h => h) (Or.inl ⟨by rfl, ?_⟩) ?_ ?_
        rotate_left
        · intro w'
          go_simp
          with_reducible rfl
        rotate_left
        · simp only [Act.put, List.setIfInBounds_toArray, List.set_cons_zero, List.set_cons_succ, i64_w, i32_w]
          rfl
        refine pure_ (i := 26) (N := some 59) (v := ?_) (a' := ?_) #[true, true, true, true, true, true, true, true, true, true, true, true, true, true, true, true, true, true, true, true, true, true, true, true, true, true, true, false, false, false, false] rfl rfl (by kernel_rfl) (fun _ _ _ h => h) (Or.inl ⟨by rfl, ?_⟩) ?_ ?_
        rotate_left
        · intro w'
          go_simp
          with_reducible rfl
        rotate_left
        · simp only [Act.put, List.setIfInBounds_toArray, List.set_cons_zero, List.set_cons_succ, i64_w, i32_w]
          rfl
        refine pure_ (i := 27) (N := some 60) (v := ?_) (a' := ?_) #[true, true, true, true, true, true, true, true, true, true, true, true, true, true, true, true, true, true, true, true, true, true, true, true, true, true, true, true, false, false, false] rfl rfl (by kernel_rfl) (fun _ _ _ h => h) (Or.inl ⟨by rfl, ?_⟩) ?_ ?_
        rotate_left
        · intro w'
          go_simp
          with_reducible rfl
        rotate_left
        · simp only [Act.put, List.setIfInBounds_toArray, List.set_cons_zero, List.set_cons_succ, i64_w, i32_w]
          rfl
        refine take_ (i := 28) (N := some 61) (v := ?_) (a' := ?_) #[true, true, true, true, true, true, true, true, true, true, true, true, true, true, true, true, true, true, true, true, true, true, true, true, true, true, true, true, true, false, false] rfl rfl (by kernel_rfl) (fun _ _ _ h => h) (Or.inl ⟨by rfl, ?_⟩) hHeld ?_ ?_
        rotate_left
        · rintro w' ⟨s0, s1, s2, s3, s4, s5⟩
          go_simp
          with_reducible rfl
        rotate_left
        · simp only [Act.put, List.setIfInBounds_toArray, List.set_cons_zero, List.set_cons_succ, i64_w, i32_w]
          rfl
        refine pure_ (i := 29) (N := some 62) (v := ?_) (a' := ?_) #[true, true, true, true, true, true, true, true, true, true, true, true, true, true, true, true, true, true, true, true, true, true, true, true, true, true, true, true, true, true, false] rfl rfl (by kernel_rfl) (fun _ _ _ h => h) (Or.inl ⟨by rfl, ?_⟩) ?_ ?_
        rotate_left
        · intro w'
          go_simp
          with_reducible rfl
        rotate_left
        · simp only [Act.put, List.setIfInBounds_toArray, List.set_cons_zero, List.set_cons_succ, i64_w, i32_w]
          rfl
        refine pure_ (i := 30) (N := some 63) (v := ?_) (a' := ?_) #[true, true, true, true, true, true, true, true, true, true, true, true, true, true, true, true, true, true, true, true, true, true, true, true, true, true, true, true, true, true, true] rfl rfl (by kernel_rfl) (fun _ _ _ h => h) (Or.inl ⟨by rfl, ?_⟩) ?_ ?_
        rotate_left
        · intro w'
          go_simp
          with_reducible rfl
        rotate_left
        · simp only [Act.put, List.setIfInBounds_toArray, List.set_cons_zero, List.set_cons_succ, i64_w, i32_w]
          rfl
        refine done_ (by kernel_rfl) ?_
        dsimp only [only]
        obtain ⟨-, -, -, -, -, HBZ⟩ := hHeld
        clear hk0 hk1 hk3 hk11 HY HBY hbr hid HK0 HK1 HK3 HK11 HRG
        have HOUT := Lib.hid HO.out
        go_wp2_with fail
        go_loopw [65] (fun v65 wr => ∃ k : Nat, v65 = .int .i64 k ∧ k ≤ i ∧ Below w1.heap.size w1 wr) (fun v65 _ => i - (intOf v65).toNat)
        case atStart => exact ⟨0, rfl, by omega, HBZ⟩
        case round =>
          obtain ⟨k, rfl, hk, hbk⟩ := hrel
          by_cases hki : k < i
          · have hd3 : decide ((k : Int) < i) = true := decide_eq_true (by omega)
            have hkL : (k : Int) < L := by omega
            have hkp : (0 : Int) ≤ k := by omega
            have ck : wr.cell? ⟨q, k * 12 + 1, none⟩ = some (.int .i64 ((k : Int) + 1)) := (hbk.cell (p := ⟨q, k * 12 + 1, none⟩) hq1).trans (ans_cell HO.out k 1 (by omega) (by omega))
            have ci : wr.cell? ⟨q, i * 12 + 1, none⟩ = some (.int .i64 ((i : Int) + 1)) := (hbk.cell (p := ⟨q, i * 12 + 1, none⟩) hq1).trans (ans_cell HO.out i 1 (by omega) (by omega))
            have hne : ((k : Int) + 1 == (i : Int) + 1) = false := by simp; omega
            clear HBZ
            go_wp2_with fail
            refine wp_only ?_
            refine start_ (n := 11) (S := fun w' => w'.cell? ⟨q, k * 12 + 1, none⟩ = some (.int .i64 ((k : Int) + 1)) ∧ w'.cell? ⟨q, i * 12 + 1, none⟩ = some (.int .i64 ((i : Int) + 1)) ∧ Below w1.heap.size w1 w') (ds := []) #[false, false, false, false, false, false, false, false, false, false, false] (by kernel_rfl) rfl rfl ⟨ck, ci, hbk.drew⟩ (fun hHeld => ?_)
            refine pure_ (i := 0) (N := some 68) (v := ?_) (a' := ?_) #[true, false, false, false, false, false, false, false, false, false, false] rfl rfl (by kernel_rfl) (fun _ _ _ h => h) (Or.inl ⟨by rfl, ?_⟩) ?_ ?_
            rotate_left
            · intro w'
              go_simp
              with_reducible rfl
            rotate_left
            · simp only [Act.put, List.setIfInBounds_toArray, List.set_cons_zero, List.set_cons_succ, i64_w, i32_w]
              rfl
            refine pure_ (i := 1) (N := some 69) (v := ?_) (a' := ?_) #[true, true, false, false, false, false, false, false, false, false, false] rfl rfl (by kernel_rfl) (fun _ _ _ h => h) (Or.inl ⟨by rfl, ?_⟩) ?_ ?_
            rotate_left
            · intro w'
              go_simp
              with_reducible rfl
            rotate_left
            · simp only [Act.put, List.setIfInBounds_toArray, List.set_cons_zero, List.set_cons_succ, i64_w, i32_w]
              rfl
            refine pure_ (i := 2) (N := some 70) (v := ?_) (a' := ?_) #[true, true, true, false, false, false, false, false, false, false, false] rfl rfl (by kernel_rfl) (fun _ _ _ h => h) (Or.inl ⟨by rfl, ?_⟩) ?_ ?_
            rotate_left
            · intro w'
              go_simp
              with_reducible rfl
            rotate_left
            · simp only [Act.put, List.setIfInBounds_toArray, List.set_cons_zero, List.set_cons_succ, i64_w, i32_w]
              rfl
            refine pure_ (i := 3) (N := some 71) (v := ?_) (a' := ?_) #[true, true, true, true, false, false, false, false, false, false, false] rfl rfl (by kernel_rfl) (fun _ _ _ h => h) (Or.inl ⟨by rfl, ?_⟩) ?_ ?_
            rotate_left
            · intro w'
              go_simp
              with_reducible rfl
            rotate_left
            · simp only [Act.put, List.setIfInBounds_toArray, List.set_cons_zero, List.set_cons_succ, i64_w, i32_w]
              rfl
            refine pure_ (i := 5) (N := some 73) (v := ?_) (a' := ?_) #[true, true, true, true, false, true, false, false, false, false, false] rfl rfl (by kernel_rfl) (fun _ _ _ h => h) (Or.inl ⟨by rfl, ?_⟩) ?_ ?_
            rotate_left
            · intro w'
              go_simp
              with_reducible rfl
            rotate_left
            · simp only [Act.put, List.setIfInBounds_toArray, List.set_cons_zero, List.set_cons_succ, i64_w, i32_w]
              rfl
            refine pure_ (i := 6) (N := some 74) (v := ?_) (a' := ?_) #[true, true, true, true, false, true, true, false, false, false, false] rfl rfl (by kernel_rfl) (fun _ _ _ h => h) (Or.inl ⟨by rfl, ?_⟩) ?_ ?_
            rotate_left
            · intro w'
              go_simp
              with_reducible rfl
            rotate_left
            · simp only [Act.put, List.setIfInBounds_toArray, List.set_cons_zero, List.set_cons_succ, i64_w, i32_w]
              rfl
            refine pure_ (i := 7) (N := some 75) (v := ?_) (a' := ?_) #[true, true, true, true, false, true, true, true, false, false, false] rfl rfl (by kernel_rfl) (fun _ _ _ h => h) (Or.inl ⟨by rfl, ?_⟩) ?_ ?_
            rotate_left
            · intro w'
              go_simp
              with_reducible rfl
            rotate_left
            · simp only [Act.put, List.setIfInBounds_toArray, List.set_cons_zero, List.set_cons_succ, i64_w, i32_w]
              rfl
            refine pure_ (i := 8) (N := some 76) (v := ?_) (a' := ?_) #[true, true, true, true, false, true, true, true, true, false, false] rfl rfl (by kernel_rfl) (fun _ _ _ h => h) (Or.inl ⟨by rfl, ?_⟩) ?_ ?_
            rotate_left
            · intro w'
              go_simp
              with_reducible rfl
            rotate_left
            · simp only [Act.put, List.setIfInBounds_toArray, List.set_cons_zero, List.set_cons_succ, i64_w, i32_w]
              rfl
            refine take_ (i := 4) (N := some 72) (v := ?_) (a' := ?_) #[true, true, true, true, true, true, true, true, true, false, false] rfl rfl (by kernel_rfl) (fun _ _ _ h => h) (Or.inl ⟨by rfl, ?_⟩) hHeld ?_ ?_
            rotate_left
            · rintro w' ⟨s0, s1, s2⟩
              go_simp
              with_reducible rfl
            rotate_left
            · simp only [Act.put, List.setIfInBounds_toArray, List.set_cons_zero, List.set_cons_succ, i64_w, i32_w]
              rfl
            refine take_ (i := 9) (N := some 77) (v := ?_) (a' := ?_) #[true, true, true, true, true, true, true, true, true, true, false] rfl rfl (by kernel_rfl) (fun _ _ _ h => h) (Or.inl ⟨by rfl, ?_⟩) hHeld ?_ ?_
            rotate_left
            · rintro w' ⟨s0, s1, s2⟩
              go_simp
              with_reducible rfl
            rotate_left
            · simp only [Act.put, List.setIfInBounds_toArray, List.set_cons_zero, List.set_cons_succ, i64_w, i32_w]
              rfl
            refine pure_ (i := 10) (N := some 78) (v := ?_) (a' := ?_) #[true, true, true, true, true, true, true, true, true, true, true] rfl rfl (by kernel_rfl) (fun _ _ _ h => h) (Or.inl ⟨by rfl, ?_⟩) ?_ ?_
            rotate_left
            · intro w'
              go_simp
              with_reducible rfl
            rotate_left
            · simp only [Act.put, List.setIfInBounds_toArray, List.set_cons_zero, List.set_cons_succ, i64_w, i32_w]
              rfl
            refine done_ (by kernel_rfl) ?_
            dsimp only [only]
            obtain ⟨-, -, hbk2⟩ := hHeld
            clear ck ci hbk
            go_wp2_with fail
            exact ⟨⟨k + 1, by push_cast; rfl, by omega, hbk2⟩, by simp [intOf]; omega⟩
          · have hd3 : decide ((k : Int) < i) = false := decide_eq_false (by omega)
            clear HBZ
            go_wp2_with fail
            exact ⟨⟨i + 1, by push_cast; rfl, by omega, hbk⟩, by simp [intOf]; omega⟩
    · have hd : decide ((i : Int) < L) = false := decide_eq_false (by omega)
      go_wp2_with fail
      go_ret
      exact ⟨rfl, below_of_le HB1.out hbr⟩
end Go.Proofs.Ytbgbeohiafiacaa.Sched
