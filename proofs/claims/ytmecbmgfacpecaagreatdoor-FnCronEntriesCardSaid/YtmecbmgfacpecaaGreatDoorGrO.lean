/- Lemmas and walks on the way to the law, merged by wip/tools/pack.py: LawEnt, EntWalk. Conditions: none. -/
import Derived.Test.YtmecbmgfacpecaaGreatDoorGrN
import Derived.Lib.LaidU8T
set_option linter.unusedVariables false
set_option linter.unusedSimpArgs false
namespace Go.Proofs.YtmecbmgfacpecaaGreatDoor.Scr
open Go Go.RowKit Go.Proofs.YtmecbmgfacpecaaGreatDoor.Sched Go.Proofs.YtmecbmgfacpecaaGreatDoorW.PrintWords Go.Proofs.YtmecbmgfacpecaaGreatDoorW.PrintLast Go.Proofs.YtmecbmgfacpecaaGreatDoorW.PrintMore Go.Proofs.YtmecbmgfacpecaaGreatDoor.Pr
open Go.Proofs.YtmecbmgfacpecaaGreatDoor.Text
open Go.Proofs.YtmecbmgfacpecaaGreatDoor.Cron (zoneZ GA progS gotCells noSched parseCronG_any schedSize CronGAns)
theorem scriptA_get (b : Bool) : ∀ (T : List Step) (gs : List Cron.Got) (i : Nat) (h : i < T.length), (scriptA b gs T)[i]? = some (stepA b (gs ++ gotsT b (T.take i)) T[i]) := by
 intro T;induction T with
 | nil => intro gs i h; exact absurd h (by simp)
 | cons x T ih =>
  intro gs i h;cases i with
  | zero => simp [scriptA, gotsT]
  | succ i =>
   show (scriptA b (gs ++ okT b x) T)[i]? = _
   rw [ih _ i (by simpa using h)];simp only [List.take_succ_cons, List.getElem_cons_succ, List.append_assoc];rfl
theorem script_last (b : Bool) (T : List Step) (x : Step) : (scriptA b [] (T ++ [x]))[T.length]? = some (stepA b (gotsT b T) x) := by
 rw [scriptA_get b (T ++ [x]) [] T.length (by simp)];simp
theorem adds_len (l : List ByteArray) : (addsOf l).length = l.length := by simp [addsOf]
theorem adds_get (l : List ByteArray) (i : Nat) (h : i < l.length) : (addsOf l)[i]'(by rw [adds_len]; exact h) = ⟨0, l[i], 0⟩ := by simp [addsOf]
theorem adds_script (b : Bool) (l : List ByteArray) (i : Nat) (h : i < l.length) : (scriptA b [] (addsOf l))[i]? = some (stepA b (gotsT b ((addsOf l).take i)) ⟨0, l[i], 0⟩) := by
 rw [scriptA_get b _ [] i (by rw [adds_len]; exact h), adds_get l i h, List.nil_append]
theorem adds_gots (b : Bool) (l : List ByteArray) (i : Nat) (h : i < l.length) : gotsT b ((addsOf l).take (i + 1)) = gotsT b ((addsOf l).take i) ++ (progS (optN b) l[i]).toList := by
 rw [List.take_add_one, List.getElem?_eq_getElem (by rw [adds_len]; exact h), adds_get l i h, gotsT_append];simp [gotsT, okT]
theorem adds_new (b : Bool) (l : List ByteArray) (i : Nat) (h : i < l.length) (r : Cron.Got) (hr : progS (optN b) l[i] = some r) : (gotsT b (addsOf l))[(gotsT b ((addsOf l).take i)).length]? = some r := by
 have e : gotsT b (addsOf l) = gotsT b ((addsOf l).take (i + 1)) ++ gotsT b ((addsOf l).drop (i + 1)) := by rw [← gotsT_append, List.take_append_drop]
 rw [e, adds_gots b l i h, hr, List.append_assoc, List.getElem?_append_right (Nat.le_refl _)];simp
theorem ans_at {w : World} {base : Nat} {ok : Nat → Prop} {v : Value} {xs : List Ans} (h : kAns.R 44 w base ok v xs) (i : Nat) (x : Ans) (hx : xs[i]? = some x) :
  ∃ q c A c', v = .slice (some ⟨q, 0, none⟩) xs.length c ∧ q < w.heap.size ∧ w.rangeAt q (i * 12) (x.row (.slice A x.ids.length c')) ∧ x.ids.length ≤ c' ∧ (Kd.int .i64).C w A x.ids.length x.ids := by
 have hi := (List.getElem?_eq_some_iff.1 hx).1;obtain ⟨A, c, rfl, hc, hC⟩ := Kd.R_reads h;obtain ⟨inner, ho⟩ := Kd.R_own h;rcases ho.2 with ⟨h1, h2⟩ | ⟨g, cap, cur, h1, hbg, hgg, _⟩
 ·exfalso
  simp only [Value.slice.injEq] at h1;omega
 ·simp only [Value.slice.injEq] at h1;obtain ⟨rfl, -, -⟩ := h1;obtain ⟨ad, cs, e, -, hK, hcell⟩ := Kd.C_get hC noA (i : Int) (by omega) (by omega);cases e
  rw [Int.toNat_natCast, List.getD, hx] at hK;rw [Int.toNat_natCast] at hcell;obtain ⟨A', c', rfl, hl, hr⟩ := kAns_open hK;refine ⟨g, c, A', c', rfl, (Array.getElem?_eq_some_iff.1 hgg).1, ?_, hl, hr⟩;intro j y hy;have := hcell j y hy;rw [Addr.add_mid, Nat.zero_add] at this;exact this
theorem R_grown_ty {α β : Type} {d : Kd α} {d' : Kd β} {e e' : Nat} {w w1 : World} {base b' : Nat} {ok' : Nat → Prop} {v v' : Value} {xs : List α} {xs' : List β} (h : d.R e w base (fun _ => True) v xs) (ho : d'.R e' w b' ok' v' xs') (hg : w.grownBy w1 v'.ownBlock) (hne : e' ∉ e :: d.E) : d.R e w1 base (fun _ => True) v xs := by
 refine Kd.R_mono (Kd.R_grown (Kd.R_bound h) hg ?_) (fun _ _ => trivial);rintro k ⟨-, -, -, q, hq, cs, hc⟩ he;obtain ⟨inner, hi⟩ := Kd.R_own ho;exact own_ne hi hc (fun e2 => hne (by rw [← e2]; exact hq)) he.symm
theorem ids_new {w : World} {base g : Nat} (h : w.heap[g]? = some (.cells #[] 3 (0, 0))) (hb : base ≤ g) : (Kd.int .i64).R 3 w base (fun _ => True) (.slice (some ⟨g, 0, none⟩) 0 0) (idsI 0) :=
 ⟨fun _ _ => trivial, [], ⟨rfl, .inr ⟨g, 0, #[], rfl, hb, h, Nat.le_refl _, by simp [maxLen], rfl, rfl⟩⟩, Reps.none _ _⟩
def SchRow (w : World) (g : Nat) : Prop := w.heap[g]? = some (.cells noSched 26 (0, 0))
theorem SchRow.below {w w' : World} {g : Nat} (h : SchRow w g) (hb : Below w.heap.size w w') : SchRow w' g := (hb.block g (Array.getElem?_eq_some_iff.1 h).1).trans h
theorem schRow_of {B : Nat} {wo W : World} (h : Below B wo W) : SchRow (W.alloc (.cells noSched 26 (0, 0))) W.heap.size := heap_alloc_new W _
theorem run_alloc_sch (w : World) : (Instr.alloc 26 true (.tuple #[])).run Tryz.prog w = .ok (.pointer (some ⟨w.heap.size, 0, none⟩)) (w.alloc (.cells noSched 26 (0, 0))) := by kernel_rfl
theorem exec_alloc_sch (ev : Operand → Value) (oi : Oper) (w : World) (ho : oi.op = .alloc 26) :
  (execOp ev oi).run Tryz.prog w = .ok (.value (.pointer (some ⟨w.heap.size, 0, none⟩))) (w.alloc (.cells noSched 26 (0, 0))) := by
 have := run_alloc_sch w;unfold execOp;rw [ho];simp only [Sem.run_bind, Sem.run_pure, Result.andThen_ok, this]
theorem stepRow_of {B : Nat} {wo W : World} (h : Below B wo W) (v : Value) : (W.alloc (.cells #[.int .i64 3, .string ⟨#[]⟩, v] 41 (0, 0))).heap[W.heap.size]? = some (.cells #[.int .i64 3, .string ⟨#[]⟩, v] 41 (0, 0)) := heap_alloc_new W _
theorem run_slice_step (w : World) (f : Int) : (Instr.buildSlice 36 1 #[(0, .agg #[.int .i64 3, .string ⟨#[]⟩, .int .i64 f])]).run Tryz.prog w = .ok (.slice (some ⟨w.heap.size, 0, none⟩) 1 1) (w.alloc (.cells #[.int .i64 3, .string ⟨#[]⟩, .int .i64 f] 41 (0, 0))) := by kernel_rfl
theorem exec_slice_step (ev : Operand → Value) (oi : Oper) (w : World) (x : Operand) (f : Int) (ty : TypeId) (_ : Unit) (ho : oi.op = .buildSlice 36 1 #[(0, x)]) (hx : ev x = .agg #[.int .i64 3, .string ⟨#[]⟩, .int .i64 f]) :
  (execOp ev oi).run Tryz.prog w = .ok (.value (.slice (some ⟨w.heap.size, 0, none⟩) 1 1)) (w.alloc (.cells #[.int .i64 3, .string ⟨#[]⟩, .int .i64 f] 41 (0, 0))) := by
 have := run_slice_step w f;unfold execOp;rw [ho];simp only [Sem.run_bind, Sem.run_pure, Result.andThen_ok, List.map_toArray, List.map_cons, List.map_nil, hx, this]
def isIn (x : Int) (m : Nat) : Bool := decide (1 ≤ x ∧ x ≤ m)
theorem isIn_0 (x : Int) : isIn x 0 = false := by unfold isIn; rw [decide_eq_false_iff_not]; omega
theorem isIn_yes {x : Int} {m : Nat} (h : isIn x m = true) : isIn x (m + 1) = true := by unfold isIn at h ⊢; rw [decide_eq_true_iff] at h ⊢; omega
theorem isIn_new {x : Int} {m : Nat} (h : (m : Int) + 1 = x) : isIn x (m + 1) = true := by unfold isIn; rw [decide_eq_true_iff]; omega
theorem isIn_no {x : Int} {m : Nat} (h : isIn x m = false) (hn : (m : Int) + 1 ≠ x) : isIn x (m + 1) = false := by unfold isIn at h ⊢; rw [decide_eq_false_iff_not] at h ⊢; omega
theorem cut_at {P : Program} {C c : Code} {Q Q3 : Exit → Act → World → Prop} {K : Act → World → Prop} {a0 : Act} {w0 : World} (hK : ∀ a w, Code.wp P C Q a w → K a w) (v : Value)
  (h1 : ∀ u0 u1 u2 u3 u4 u5 u6, Code.wp P C Q { tmps := (((((((a0.tmps.setIfInBounds 11 v).setIfInBounds 70 u0).setIfInBounds 71 u1).setIfInBounds 72 u2).setIfInBounds 73 u3).setIfInBounds 74 u4).setIfInBounds 75 u5).setIfInBounds 76 u6, defers := a0.defers } w0)
  (h2 : Hid (∀ u0 u1 u2 u3 u4 u5 u6, K { tmps := (((((((a0.tmps.setIfInBounds 11 v).setIfInBounds 70 u0).setIfInBounds 71 u1).setIfInBounds 72 u2).setIfInBounds 73 u3).setIfInBounds 74 u4).setIfInBounds 75 u5).setIfInBounds 76 u6, defers := a0.defers } w0) → Code.wp P c (Exit.then K Q3) a0 w0) : Code.wp P c (Exit.then K Q3) a0 w0 :=
 h2 (Lib.hid (fun u0 u1 u2 u3 u4 u5 u6 => hK _ _ (h1 u0 u1 u2 u3 u4 u5 u6)))
theorem ask_found (b : Bool) {GS : List Cron.Got} {m : Nat} {g : Cron.Got} (h : GS[m]? = some g) (s : ByteArray) : stepA b GS ⟨3, s, (m : Int) + 1⟩ = ⟨true, (m : Int) + 1, [], gotT (some g), true⟩ := by
 have hl := (List.getElem?_eq_some_iff.1 h).1;have e : ((m : Int) + 1).toNat - 1 = m := by omega
 unfold stepA;rw [if_neg (show ¬ (3 : Int) = 0 by decide), if_neg (show ¬ (3 : Int) = 2 by decide), if_pos rfl, if_pos ⟨by show (1 : Int) ≤ (m : Int) + 1; omega, by show (m : Int) + 1 ≤ _; omega⟩];dsimp only;rw [e, h]
theorem ask_ok (b : Bool) (GS : List Cron.Got) (s : ByteArray) (x : Int) : (stepA b GS ⟨3, s, x⟩).ok = isIn x GS.length := by
 unfold stepA isIn;rw [if_neg (show ¬ (3 : Int) = 0 by decide), if_neg (show ¬ (3 : Int) = 2 by decide), if_pos rfl];by_cases h : 1 ≤ x ∧ x ≤ GS.length
 ·rw [if_pos h, decide_eq_true h]
 ·rw [if_neg h, decide_eq_false h];rfl
theorem list_ans (b : Bool) (GS : List Cron.Got) (s : ByteArray) (x : Int) : stepA b GS ⟨2, s, x⟩ = ⟨false, 0, idsI GS.length, gotT none, false⟩ := rfl
theorem gots_list (b : Bool) (T : List Step) : gotsT b (T ++ [⟨2, ⟨#[]⟩, 0⟩]) = gotsT b T := by
 rw [gotsT_append, gotsT_one];unfold okT;rw [if_neg (show ¬ (2 : Int) = 0 by decide), List.append_nil]
set_option maxRecDepth 100000 in
set_option maxHeartbeats 16000000 in
theorem lawEnt_any (b : Bool) (A : Option Addr) (c : Nat) (l : List ByteArray) (x : Int) (w : World) (hga : GA w) (hC : Kd.C Kd.string w A l.length l) (hc : l.length ≤ c) :
  Calls Tryz.prog 4 #[.bool b, .slice A l.length c, .int .i64 x] w fun e w' => e = .returned (.bool true) ∧ Below w.heap.size w w' := by
 obtain ⟨kz, rz, hz⟩ := zz_f l;have HZ := Lib.hid (laws_zzFits2.calls kz A c l rz w hC hc hz);have HSH := Lib.hid (fun w' h => short_any b A c l w' h hc);have HC := Lib.hid (fun w' (hb : Below w.heap.size w w') => Kd.C_below hC hb);have HGA := Lib.hid (fun w' (hb : Below w.heap.size w w') => hga.below hb);clear hz hga hC;go_enter Tryz.func4, Tryz.ntmps4;go_wp2_with fail
 refine HZ.out.mono ?_;rintro e w1 ⟨rfl, hd1⟩;have HB1 := Lib.hid hd1.below;clear hd1 HZ;cases rz with
 | false =>
  go_wp2_with fail
  go_ret;exact ⟨rfl, HB1.out⟩
 | true =>
  go_wp2_with fail
  refine (HSH.out w1 (HC.out w1 HB1.out)).mono ?_;rintro e w2 ⟨r, rfl, hr, hb2⟩;have HB2 := Lib.hid (below_of_le HB1.out hb2);clear hb2 HB1 HSH;cases r with
  | false =>
   go_wp2_with fail
   go_ret;exact ⟨rfl, HB2.out⟩
  | true =>
   obtain ⟨h20, hal⟩ := hr rfl;have HAL := Lib.hid hal;have HAD := Lib.hid (fun w' (h : Kd.C Kd.string w' A l.length l) => laws_entriesAdd.calls (l.length + 1) A c l (addsOf l) w' h hc (adds_f l (by omega)));have HCS := Lib.hid (fun (U : List Step) (hU : U.length ≤ 900) (hok : ∀ y ∈ U, StepOk y) v0 w' hg base ok h => script_any b U hU hok v0 w' hg base ok h);have hTL : (addsOf l).length = l.length := adds_len l
   have HTO : Hid (∀ y ∈ addsOf l, StepOk y) := Lib.hid fun y hy => by
    obtain ⟨s, hs, rfl⟩ := List.mem_map.1 hy;exact .inl ⟨rfl, by have := (hal s hs).1; show s.size ≤ _; omega, (hal s hs).2⟩
   have hML : (gotsT b (addsOf l)).length ≤ l.length := by have := gotsT_len b (addsOf l); omega
   obtain ⟨n1, hn1⟩ : ∃ n1, n1 = l.length + 1 := ⟨_, rfl⟩
   obtain ⟨n2, hn2⟩ : ∃ n2, n2 = l.length + 2 := ⟨_, rfl⟩
   have hw1 : wrap64 ((l.length : Int) + 1) = (n1 : Int) := by rw [hn1]; simp [RowKit.wrap64]; omega
   have hw2 : wrap64 ((l.length : Int) + 2) = (n2 : Int) := by rw [hn2]; simp [RowKit.wrap64]; omega
   have HN1 := Lib.hid hn1;have HN2 := Lib.hid hn2;have hb1 : (l.length : Int) < n1 := by omega
   have hb2 : (l.length : Int) < n2 := by omega
   have hb12 : (n1 : Int) < n2 := by omega
   have hp0 : (0 : Int) ≤ l.length := by omega
   have hp1 : (0 : Int) ≤ n1 := by omega
   clear hn1 hn2;clear hr hal;go_wp2_with fail
   refine (HAD.out w2 (HC.out w2 HB2.out)).mono ?_;rintro e w3 ⟨v7, rfl, hR3, hb3⟩;obtain ⟨A7, c7, hv7⟩ := Kd.R_slice hR3;rw [hTL] at hv7;subst hv7;have HR3 := Lib.hid hR3;have HB3 := Lib.hid hb3;clear hR3 hb3;go_wp2_with fail
   refine (HCS.out (addsOf l) (by omega) HTO.out _ w3 (HGA.out w3 (below_of_le HB2.out HB3.out)) _ _ HR3.out).mono ?_;rintro e w4 ⟨v9, rfl, hR4, hb4⟩;obtain ⟨A9, c9, hv9⟩ := Kd.R_slice hR4;rw [scriptA_len, hTL] at hv9;subst hv9;have HB4 := Lib.hid (below_of_le HB3.out hb4);have HR7 := Lib.hid (Kd.R_below HR3.out hb4);have HR9 := Lib.hid hR4;have hnn : ((l.length : Int) != (l.length : Int)) = false := by simp
   clear hR4 hb4 HR3 HB3;go_wp2_with ((with_reducible refine gate_builtin (b := .append) (xs := #[.tmp 37, .tmp 39]) rfl ?_); at_builtin; refine Kd.R_append k41 (w0 := w2) w2.heap.size rfl (.tmp 37) (.tmp 39) 36 41 (.agg #[.int .i64 0, .string ⟨#[]⟩, .int .i64 0]) 32 rfl Tryz.underlying36 info41 rfl (by decide) (by omega) (.slice A7 l.length c7) (addsOf l) (⟨2, ⟨#[]⟩, 0⟩ : Step) [.int .i64 2, .string ⟨#[]⟩, .int .i64 0] (fun _ => True) (fun _ => False) rfl rfl ?aP ?aO ?aF ?aR ?aB ?aS ?aL ?_; (case aP => exact k41_mkM _ _ _ (⟨2, ⟨#[]⟩, 0⟩ : Step)); (case aO => exact fun k hk => hk.elim); (case aF => exact fun _ _ => trivial); (case aR => exact HR7.out); (case aB => exact HB4.out); (case aS => exact HB4.out.size); (case aL => omega); intro v8 w5 ho hb hg hat; have HR9b := Lib.hid (R_grown_ty HR9.out HR7.out hg (by decide)); have HO8 := Lib.hid ho; have HB5 := Lib.hid (below_of_le HB2.out hb); have HB52 := Lib.hid hb; clear ho hb hg hat HR7 HR9 HB4)
   have HI0 : Hid ((Kd.int .i64).R 3 (w5.alloc (.cells #[] 3 (0, 0))) w5.heap.size (fun _ => True) (.slice (some ⟨w5.heap.size, 0, none⟩) 0 0) (idsI (gotsT b ((addsOf l).take 0)).length)) := Lib.hid (ids_new (heap_alloc_new w5 _) (Nat.le_refl _));have HB6 : Hid (Below w5.heap.size w5 (w5.alloc (.cells #[] 3 (0, 0)))) := Lib.hid ((Below.refl _ _).alloc (Nat.le_refl _) _);go_loopw [10, 11, 44] (fun v10 v11 v44 wr => ∃ i : Nat, v44 = .int .i64 i ∧ i ≤ l.length ∧ v11 = .bool (isIn x (gotsT b ((addsOf l).take i)).length) ∧ Hid ((Kd.int .i64).R 3 wr w5.heap.size (fun _ => True) v10 (idsI (gotsT b ((addsOf l).take i)).length)) ∧ Hid (Below w5.heap.size w5 wr)) (fun _ _ v44 _ => l.length - (intOf v44).toNat)
   case atStart => exact ⟨0, rfl, by omega, by rw [show (gotsT b ((addsOf l).take 0)).length = 0 from rfl, isIn_0], HI0, HB6⟩
   case round =>
    obtain ⟨i, rfl, hi, rfl, HI, HB⟩ := hrel;clear HI0 HB6;obtain ⟨wp, hwp⟩ : ∃ wp, wp = wr := ⟨_, rfl⟩
    subst hwp;by_cases hiL : i < l.length
    ·have hil : (i : Int) < l.length := by omega
     have hi0 : (0 : Int) ≤ i := by omega
     have hd : decide ((i : Int) < l.length) = true := decide_eq_true hil;have hWB := below_of_le HB5.out HB.out;obtain ⟨ad, hA, hcell⟩ := Kd.at_string (HC.out wp hWB) (i : Int) hi0 hil;subst hA;have hrd : rdOf ByteArray.empty l (i : Int) = l[i] := by unfold rdOf; rw [Int.toNat_natCast, List.getD, List.getElem?_eq_getElem hiL]; rfl
     rw [hrd, Int.toNat_natCast] at hcell;obtain ⟨q9, cc9, A3, c3, hv, hq9, hrg, hc3, -⟩ := ans_at (Kd.R_below HR9b.out HB.out) i _ (adds_script b l i hiL);rw [scriptA_len, hTL] at hv;simp only [Value.slice.injEq] at hv;obtain ⟨rfl, -, rfl⟩ := hv;obtain ⟨hs200, hask⟩ := HAL.out l[i] (List.getElem_mem hiL);have hgs := adds_gots b l i hiL;have hnew := adds_new b l i hiL
     have hmle : (gotsT b ((addsOf l).take i)).length ≤ 20 := by
      have := gotsT_len b ((addsOf l).take i);rw [List.length_take, hTL] at this;omega
     have hlt512 : optN b < 512 := by cases b <;> decide
     have HPC0 := Lib.hid (fun w' h => parseCronG_any (optN b) hlt512 l[i] (by omega) hask w' h);have hcs : Cron.cronS (optN b) l[i] = progS (optN b) l[i] := by unfold Cron.cronS; rw [if_neg (by cases b <;> decide)]
     rw [hcs] at HPC0;unfold CronGAns at HPC0;have HEO := Lib.hid (fun w' => spec_CronEntryOptions.calls b (optN b : Nat) w' (by cases b <;> rfl));have HCW := Lib.hid (fun w' (hb : Below wp.heap.size wp w') => HC.out w' (below_of_le hWB hb));have hgo0 := HGA.out wp hWB;have HGO := Lib.hid hgo0
     have hMle : (gotsT b ((addsOf l).take i)).length + (progS (optN b) l[i]).toList.length ≤ (gotsT b (addsOf l)).length := by
      have e : gotsT b (addsOf l) = gotsT b ((addsOf l).take (i + 1)) ++ gotsT b ((addsOf l).drop (i + 1)) := by rw [← gotsT_append, List.take_append_drop]
      rw [e, hgs, List.length_append, List.length_append];omega
     clear hask hlt512 hcs hrd hgo0;generalize l[i] = s at *;generalize hM : gotsT b (addsOf l) = GS at *;obtain ⟨m, hm⟩ : ∃ m, m = (gotsT b ((addsOf l).take i)).length := ⟨_, rfl⟩
     rw [← hm] at hnew hmle hMle HI ⊢
     have hgm : (gotsT b ((addsOf l).take (i + 1))).length = m + (progS (optN b) s).toList.length := by rw [hgs, List.length_append, hm]
     have HGM := Lib.hid hgm
     have hst : stepA b (gotsT b ((addsOf l).take i)) ⟨0, s, 0⟩ = if (progS (optN b) s).isSome = true then ⟨true, (m : Int) + 1, [], gotT none, false⟩ else noA := by
      unfold stepA;rw [if_pos rfl, ← hm]
     rw [hst] at hrg;clear hgs hgm hst hm;have hcb := HPC0.out;generalize hpr : progS (optN b) s = r at *;generalize optN b = o at *;cases r with
     | none =>
      have HPC := HPC0;have HGM2 : Hid ((gotsT b ((addsOf l).take (i + 1))).length = m) := Lib.hid (by rw [HGM.out]; rfl);obtain ⟨gc, hgcd⟩ : ∃ gc, gc = gotCells none := ⟨_, rfl⟩
      obtain ⟨gb, hgb⟩ : ∃ gb, gb = (none : Option Cron.Got).isSome := ⟨_, rfl⟩
      have hgc : gc.size = 8 := by rw [hgcd]; rfl
      have hgo1 : gc.all (·.oneCell') = true := by rw [hgcd]; exact Cron.got_one _
      rw [← hgcd, ← hgb] at HPC;have HGB := Lib.hid hgb;clear hcb HPC0 HGM hgcd hnew hgb;have hrow : wp.rangeAt q9 (i * 12) [.bool false, .int .i64 0, .slice A3 0 c3, .bool false, .int .i64 0, .int .u64 0, .int .u64 0, .int .u64 0, .int .u64 0, .int .u64 0, .int .u64 0, .bool false] := hrg;clear hrg;have HRG := Lib.hid hrow;have HCE := Lib.hid hcell;obtain ⟨ARow, hAR⟩ : ∃ ARow : Array Value, ARow = #[.bool false, .int .i64 0, .slice A3 0 c3, .bool false, .int .i64 0, .int .u64 0, .int .u64 0, .int .u64 0, .int .u64 0, .int .u64 0, .int .u64 0, .bool false] := ⟨_, rfl⟩
      have HSZ : Hid (ARow.size = 12) := Lib.hid (by rw [hAR]; rfl);have HON : Hid (ARow.all (·.oneCell') = true) := Lib.hid (by rw [hAR]; simp [Value.oneCell']);have HRG2 : Hid (wp.rangeAt q9 (i * 12) ARow.toList) := Lib.hid (by rw [hAR]; exact HRG.out);have HA0 : Hid (ARow[0]? = some (.bool false) ∧ ARow[1]? = some (.int .i64 0)) := Lib.hid (by rw [hAR]; exact ⟨rfl, rfl⟩);clear hrow HRG hcell hAR;go_wp2_with (first | (refine wpList_load_mid rfl 44 _ rfl q9 (i * 12) rfl ARow.toList _ HRG2.out Tryz.underlying44 rfl (by rw [ansSize, Array.length_toList, HSZ.out]) ?_) | (refine wpList_store_row rfl 44 _ _ rfl wp.heap.size ARow rfl rfl 44 _ (heap_alloc_new wp _) (by rw [ansSize, HSZ.out]) (by rw [HSZ.out]; rfl) HON.out ?_; generalize hX : World.setRow _ _ _ = wx; have HX := Lib.hid (show wx.heap[wp.heap.size]? = some (.cells ARow 44 (0, 0)) by rw [← hX]; exact setRow_heap _ _ _ _ _ _ (heap_alloc_new wp _)); have HBX := Lib.hid (show Below wp.heap.size wp wx by rw [← hX]; exact below_setRow ((Below.refl _ _).alloc (Nat.le_refl _) _) (Nat.le_refl _) _); clear hX))
      go_upto_region 15 with fail
      obtain ⟨wo, hwo⟩ : ∃ wo, wo = wx := ⟨_, rfl⟩
      subst hwo;obtain ⟨g13, hg13⟩ : ∃ g13, g13 = wp.heap.size := ⟨_, rfl⟩
      have hx13 : wo.heap[g13]? = some (.cells ARow 44 (0, 0)) := by rw [hg13]; exact HX.out
      have hge13 : w5.heap.size ≤ g13 := by rw [hg13]; exact HB.out.size
      simp only [← hg13];have hcx : wo.cell? (ad.add i) = some (.string s) := (HBX.out.cell (World.block_lt_of_cell? _ _ HCE.out)).trans HCE.out;have hgo : GA wo := HGO.out.below HBX.out;clear hg13;refine start_ (n := 13) (S := fun w' => w'.cell? (ad.add i) = some (.string s) ∧ w'.heap[g13]? = some (.cells ARow 44 (0, 0)) ∧ Below wo.heap.size wo w') (ds := [11]) #[nn, nn, nn, nn, nn, nn, nn, nn, nn, nn, nn, nn, nn] (by kernel_rfl) rfl rfl ⟨hcx, hx13, (Below.refl _ _).drew⟩ (fun hHeld => ?_);refine pure_ (i := 0) (N := some 50) (v := ?_) (a' := ?_) #[yy, nn, nn, nn, nn, nn, nn, nn, nn, nn, nn, nn, nn] rfl rfl (by kernel_rfl) (fun _ _ _ h => h) (Or.inl ⟨by rfl, ?_⟩) ?_ ?_;rotate_left
      ·intro w';go_simp;with_reducible rfl
      rotate_left
      ·simp only [nrm];rfl
      refine pure_ (i := 2) (N := some 52) (v := ?_) (a' := ?_) #[yy, nn, yy, nn, nn, nn, nn, nn, nn, nn, nn, nn, nn] rfl rfl (by kernel_rfl) (fun _ _ _ h => h) (Or.inl ⟨by rfl, ?_⟩) ?_ ?_;rotate_left
      ·intro w';go_simp;with_reducible rfl
      rotate_left
      ·simp only [nrm];rfl
      refine pure_ (i := 3) (N := some 53) (v := ?_) (a' := ?_) #[yy, nn, yy, yy, nn, nn, nn, nn, nn, nn, nn, nn, nn] rfl rfl (by kernel_rfl) (fun _ _ _ h => h) (Or.inl ⟨by rfl, ?_⟩) ?_ ?_;rotate_left
      ·intro w';go_simp;with_reducible rfl
      rotate_left
      ·simp only [nrm];rfl
      refine pure_ (i := 4) (N := some 54) (v := ?_) (a' := ?_) #[yy, nn, yy, yy, yy, nn, nn, nn, nn, nn, nn, nn, nn] rfl rfl (by kernel_rfl) (fun _ _ _ h => h) (Or.inl ⟨by rfl, ?_⟩) ?_ ?_;rotate_left
      ·intro w';go_simp;with_reducible rfl
      rotate_left
      ·simp only [nrm];rfl
      refine take_ (i := 5) (N := some 55) (v := ?_) (a' := ?_) #[yy, nn, yy, yy, yy, yy, nn, nn, nn, nn, nn, nn, nn] rfl rfl (by kernel_rfl) (fun _ _ _ h => h) (Or.inl ⟨by rfl, ?_⟩) hHeld ?_ ?_;rotate_left
      ·rintro w' ⟨s0, s1, s2⟩;have c0 := s0;go_simp;with_reducible rfl
      rotate_left
      ·simp only [nrm];rfl
      refine join_ (σ := Nat) 2 #[yy, yy, yy, yy, yy, yy, yy, yy, yy, yy, yy, nn, nn] (fun s1 => [(51, .int .i64 o), (56, .tuple #[.agg gc, .bool gb]), (49, .tuple #[.agg gc, .bool gb]), (57, .agg gc), (58, .bool gb), (14, .pointer (some ⟨s1, 0, none⟩))]) (fun s1 w' => SchRow w' s1 ∧ wo.heap.size ≤ s1 ∧ (w'.cell? (ad.add i) = some (.string s) ∧ w'.heap[g13]? = some (.cells ARow 44 (0, 0)) ∧ Below wo.heap.size wo w')) ?_ ?_;rotate_left
      ·intro hCont;refine two_ (i := 1) (j := 10) (Ni := some 51) (Nj := some 14) #[yy, yy, yy, yy, yy, yy, nn, nn, nn, nn, nn, nn, nn] #[yy, nn, yy, yy, yy, yy, nn, nn, nn, nn, yy, nn, nn] rfl rfl rfl rfl (by kernel_rfl) (by decide) (by decide) (fun K hK => ?_) (fun K hK => ?_)
       ·skip;refine goes_ Tryz.func17 (by kernel_rfl) rfl #[.bool b] (by rfl) rfl rfl (by simp only [List.map_toArray, List.map_cons, List.map_nil]; rfl) ?_;with_reducible refine (HEO.out _).mono ?_
        rintro e w4 ⟨rfl, hd4⟩;refine ⟨_, rfl, ?_⟩;have hb4 := hd4.below;refine hK.out _ _ ⟨(hb4.cell (World.block_lt_of_cell? _ _ hHeld.1)).trans hHeld.1, (hb4.block _ (Array.getElem?_eq_some_iff.1 hHeld.2.1).1).trans hHeld.2.1, below_of_le hHeld.2.2 hb4⟩ (fun hHeld => ?_);clear hK K;refine norm_ (a' := ?_) ?_ ?_;rotate_left
        ·show Act.put _ (some 51) _ = _
         simp only [nrm];rfl
        refine two_ (i := 6) (j := 10) (Ni := some 56) (Nj := some 14) #[yy, yy, yy, yy, yy, yy, yy, nn, nn, nn, nn, nn, nn] #[yy, yy, yy, yy, yy, yy, nn, nn, nn, nn, yy, nn, nn] rfl rfl rfl rfl (by kernel_rfl) (by decide) (by decide) (fun K hK => ?_) (fun K hK => ?_)
        ·skip;refine goes_ Tryz.func11 (by kernel_rfl) rfl #[.int .i64 o, .string s] (by rfl) rfl rfl (by simp only [List.map_toArray, List.map_cons, List.map_nil]; rfl) ?_;with_reducible refine (HPC.out _ (hgo.below hHeld.2.2)).mono ?_
         rintro e w5 ⟨rfl, hb5⟩;refine ⟨_, rfl, ?_⟩;refine hK.out _ _ ⟨(hb5.cell (World.block_lt_of_cell? _ _ hHeld.1)).trans hHeld.1, (hb5.block _ (Array.getElem?_eq_some_iff.1 hHeld.2.1).1).trans hHeld.2.1, below_of_le hHeld.2.2 hb5⟩ (fun hHeld => ?_);clear hK K;refine norm_ (a' := ?_) ?_ ?_;rotate_left
         ·show Act.put _ (some 56) _ = _
          simp only [nrm];rfl
         refine pure_ (i := 7) (N := some 49) (v := ?_) (a' := ?_) #[yy, yy, yy, yy, yy, yy, yy, yy, nn, nn, nn, nn, nn] rfl rfl (by kernel_rfl) (fun _ _ _ h => h) (Or.inl ⟨by rfl, ?_⟩) ?_ ?_;rotate_left
         ·intro w';go_simp;with_reducible rfl
         rotate_left
         ·simp only [nrm];rfl
         refine pure_ (i := 8) (N := some 57) (v := ?_) (a' := ?_) #[yy, yy, yy, yy, yy, yy, yy, yy, yy, nn, nn, nn, nn] rfl rfl (by kernel_rfl) (fun _ _ _ h => h) (Or.inl ⟨by rfl, ?_⟩) ?_ ?_;rotate_left
         ·intro w';go_simp;with_reducible rfl
         rotate_left
         ·simp only [nrm];rfl
         refine pure_ (i := 9) (N := some 58) (v := ?_) (a' := ?_) #[yy, yy, yy, yy, yy, yy, yy, yy, yy, yy, nn, nn, nn] rfl rfl (by kernel_rfl) (fun _ _ _ h => h) (Or.inl ⟨by rfl, ?_⟩) ?_ ?_;rotate_left
         ·intro w';go_simp;with_reducible rfl
         rotate_left
         ·simp only [nrm];rfl
         refine one_ (i := 10) (N := some 14) #[yy, yy, yy, yy, yy, yy, yy, yy, yy, yy, yy, nn, nn] rfl rfl (by kernel_rfl) (by decide) (fun K hK => ?_);have hge := hHeld.2.2.size;have hra := schRow_of hHeld.2.2;refine value_ (by rfl) rfl (exec_alloc_sch _ _ _ rfl) ?_;refine hK.out _ _ ⟨(((Below.refl _ _).alloc (Nat.le_refl _) _).cell (World.block_lt_of_cell? _ _ hHeld.1)).trans hHeld.1, (((Below.refl _ _).alloc (Nat.le_refl _) _).block _ (Array.getElem?_eq_some_iff.1 hHeld.2.1).1).trans hHeld.2.1, hHeld.2.2.alloc hHeld.2.2.size _⟩ (fun hHeld => ?_);clear hK K;refine norm_ (a' := ?_) ?_ ?_;rotate_left
         ·show Act.put _ (some 14) _ = _
          simp only [nrm];rfl
         exact norm_ (by simp only [putAll, Act.put, List.setIfInBounds_toArray, List.set_cons_zero, List.set_cons_succ]) (hCont w5.heap.size _ ⟨hra, hge, hHeld⟩)
        ·skip;have hge := hHeld.2.2.size;have hra := schRow_of hHeld.2.2;refine value_ (by rfl) rfl (exec_alloc_sch _ _ _ rfl) ?_;refine hK.out _ _ ⟨(((Below.refl _ _).alloc (Nat.le_refl _) _).cell (World.block_lt_of_cell? _ _ hHeld.1)).trans hHeld.1, (((Below.refl _ _).alloc (Nat.le_refl _) _).block _ (Array.getElem?_eq_some_iff.1 hHeld.2.1).1).trans hHeld.2.1, hHeld.2.2.alloc hHeld.2.2.size _⟩ (fun hHeld => ?_);clear hK K;refine norm_ (a' := ?_) ?_ ?_;rotate_left
         ·show Act.put _ (some 14) _ = _
          simp only [nrm];rfl
         refine one_ (i := 6) (N := some 56) #[yy, yy, yy, yy, yy, yy, yy, nn, nn, nn, yy, nn, nn] rfl rfl (by kernel_rfl) (by decide) (fun K hK => ?_);refine goes_ Tryz.func11 (by kernel_rfl) rfl #[.int .i64 o, .string s] (by rfl) rfl rfl (by simp only [List.map_toArray, List.map_cons, List.map_nil]; rfl) ?_;with_reducible refine (HPC.out _ (hgo.below hHeld.2.2)).mono ?_
         rintro e w5 ⟨rfl, hb5⟩;refine ⟨_, rfl, ?_⟩;refine hK.out _ _ ⟨(hb5.cell (World.block_lt_of_cell? _ _ hHeld.1)).trans hHeld.1, (hb5.block _ (Array.getElem?_eq_some_iff.1 hHeld.2.1).1).trans hHeld.2.1, below_of_le hHeld.2.2 hb5⟩ (fun hHeld => ?_);clear hK K;refine norm_ (a' := ?_) ?_ ?_;rotate_left
         ·show Act.put _ (some 56) _ = _
          simp only [nrm];rfl
         refine pure_ (i := 7) (N := some 49) (v := ?_) (a' := ?_) #[yy, yy, yy, yy, yy, yy, yy, yy, nn, nn, yy, nn, nn] rfl rfl (by kernel_rfl) (fun _ _ _ h => h) (Or.inl ⟨by rfl, ?_⟩) ?_ ?_;rotate_left
         ·intro w';go_simp;with_reducible rfl
         rotate_left
         ·simp only [nrm];rfl
         refine pure_ (i := 8) (N := some 57) (v := ?_) (a' := ?_) #[yy, yy, yy, yy, yy, yy, yy, yy, yy, nn, yy, nn, nn] rfl rfl (by kernel_rfl) (fun _ _ _ h => h) (Or.inl ⟨by rfl, ?_⟩) ?_ ?_;rotate_left
         ·intro w';go_simp;with_reducible rfl
         rotate_left
         ·simp only [nrm];rfl
         refine pure_ (i := 9) (N := some 58) (v := ?_) (a' := ?_) #[yy, yy, yy, yy, yy, yy, yy, yy, yy, yy, yy, nn, nn] rfl rfl (by kernel_rfl) (fun _ _ _ h => h) (Or.inl ⟨by rfl, ?_⟩) ?_ ?_;rotate_left
         ·intro w';go_simp;with_reducible rfl
         rotate_left
         ·simp only [nrm];rfl
         exact norm_ (by simp only [putAll, Act.put, List.setIfInBounds_toArray, List.set_cons_zero, List.set_cons_succ]) (hCont w4.heap.size _ ⟨hra.below hb5, hge, hHeld⟩)
       ·skip;have hge := hHeld.2.2.size;have hra := schRow_of hHeld.2.2;refine value_ (by rfl) rfl (exec_alloc_sch _ _ _ rfl) ?_;refine hK.out _ _ ⟨(((Below.refl _ _).alloc (Nat.le_refl _) _).cell (World.block_lt_of_cell? _ _ hHeld.1)).trans hHeld.1, (((Below.refl _ _).alloc (Nat.le_refl _) _).block _ (Array.getElem?_eq_some_iff.1 hHeld.2.1).1).trans hHeld.2.1, hHeld.2.2.alloc hHeld.2.2.size _⟩ (fun hHeld => ?_);clear hK K;refine norm_ (a' := ?_) ?_ ?_;rotate_left
        ·show Act.put _ (some 14) _ = _
         simp only [nrm];rfl
        refine one_ (i := 1) (N := some 51) #[yy, yy, yy, yy, yy, yy, nn, nn, nn, nn, yy, nn, nn] rfl rfl (by kernel_rfl) (by decide) (fun K hK => ?_);refine goes_ Tryz.func17 (by kernel_rfl) rfl #[.bool b] (by rfl) rfl rfl (by simp only [List.map_toArray, List.map_cons, List.map_nil]; rfl) ?_;with_reducible refine (HEO.out _).mono ?_
        rintro e w4 ⟨rfl, hd4⟩;refine ⟨_, rfl, ?_⟩;have hb4 := hd4.below;refine hK.out _ _ ⟨(hb4.cell (World.block_lt_of_cell? _ _ hHeld.1)).trans hHeld.1, (hb4.block _ (Array.getElem?_eq_some_iff.1 hHeld.2.1).1).trans hHeld.2.1, below_of_le hHeld.2.2 hb4⟩ (fun hHeld => ?_);clear hK K;refine norm_ (a' := ?_) ?_ ?_;rotate_left
        ·show Act.put _ (some 51) _ = _
         simp only [nrm];rfl
        refine one_ (i := 6) (N := some 56) #[yy, yy, yy, yy, yy, yy, yy, nn, nn, nn, yy, nn, nn] rfl rfl (by kernel_rfl) (by decide) (fun K hK => ?_);refine goes_ Tryz.func11 (by kernel_rfl) rfl #[.int .i64 o, .string s] (by rfl) rfl rfl (by simp only [List.map_toArray, List.map_cons, List.map_nil]; rfl) ?_;with_reducible refine (HPC.out _ (hgo.below hHeld.2.2)).mono ?_
        rintro e w5 ⟨rfl, hb5⟩;refine ⟨_, rfl, ?_⟩;refine hK.out _ _ ⟨(hb5.cell (World.block_lt_of_cell? _ _ hHeld.1)).trans hHeld.1, (hb5.block _ (Array.getElem?_eq_some_iff.1 hHeld.2.1).1).trans hHeld.2.1, below_of_le hHeld.2.2 hb5⟩ (fun hHeld => ?_);clear hK K;refine norm_ (a' := ?_) ?_ ?_;rotate_left
        ·show Act.put _ (some 56) _ = _
         simp only [nrm];rfl
        refine pure_ (i := 7) (N := some 49) (v := ?_) (a' := ?_) #[yy, yy, yy, yy, yy, yy, yy, yy, nn, nn, yy, nn, nn] rfl rfl (by kernel_rfl) (fun _ _ _ h => h) (Or.inl ⟨by rfl, ?_⟩) ?_ ?_;rotate_left
        ·intro w';go_simp;with_reducible rfl
        rotate_left
        ·simp only [nrm];rfl
        refine pure_ (i := 8) (N := some 57) (v := ?_) (a' := ?_) #[yy, yy, yy, yy, yy, yy, yy, yy, yy, nn, yy, nn, nn] rfl rfl (by kernel_rfl) (fun _ _ _ h => h) (Or.inl ⟨by rfl, ?_⟩) ?_ ?_;rotate_left
        ·intro w';go_simp;with_reducible rfl
        rotate_left
        ·simp only [nrm];rfl
        refine pure_ (i := 9) (N := some 58) (v := ?_) (a' := ?_) #[yy, yy, yy, yy, yy, yy, yy, yy, yy, yy, yy, nn, nn] rfl rfl (by kernel_rfl) (fun _ _ _ h => h) (Or.inl ⟨by rfl, ?_⟩) ?_ ?_;rotate_left
        ·intro w';go_simp;with_reducible rfl
        rotate_left
        ·simp only [nrm];rfl
        exact norm_ (by simp only [putAll, Act.put, List.setIfInBounds_toArray, List.set_cons_zero, List.set_cons_succ]) (hCont wo.drew.heap.size _ ⟨(hra.below hb4).below hb5, hge, hHeld⟩)
      rintro g14 w5b ⟨hra, hge, hHeld⟩;refine norm_ (a' := ?_) ?_ ?_;rotate_left
      ·simp only [putAll, Act.put, List.setIfInBounds_toArray, List.set_cons_zero, List.set_cons_succ];rfl
      refine last_ (i := 11) (N := none) #[yy, yy, yy, yy, yy, yy, yy, yy, yy, yy, yy, yy, nn] rfl rfl (by kernel_rfl) (by decide) (fun K hK => ?_);rw [if_pos (by rfl)];refine wp_store_row 26 _ _ rfl g14 gc rfl rfl 26 noSched hra (by rw [schSize, hgc]) (by rw [hgc]; rfl) hgo1 ?_;refine hK.out _ _ ?_;clear hK K;refine pure_ (i := 12) (N := some 15) (v := ?_) (a' := ?_) #[yy, yy, yy, yy, yy, yy, yy, yy, yy, yy, yy, yy, yy] rfl rfl (by kernel_rfl) (fun _ _ _ h => h) (Or.inl ⟨by rfl, ?_⟩) ?_ ?_;rotate_left
      ·intro w';go_simp;with_reducible rfl
      rotate_left
      ·simp only [nrm];rfl
      refine done_ (by kernel_rfl) ?_;obtain rfl : gb = false := HGB.out;have HW := Lib.hid (below_of_le HBX.out (below_setRow hHeld.2.2 hge gc));have hk13 : (World.setRow w5b g14 gc).heap[g13]? = some (.cells ARow 44 (0, 0)) := (setRow_other _ _ _ _ (by have := (Array.getElem?_eq_some_iff.1 hx13).1; omega)).trans hHeld.2.1;generalize World.setRow w5b g14 gc = w6 at *;have c130 : w6.cell? ⟨g13, 0, none⟩ = some (.bool false) := (cell_of_row _ _ _ _ _ _ hk13).trans HA0.out.1;have HI6 := Lib.hid (Kd.R_below HI.out HW.out);have HB6 := Lib.hid (below_of_le HB.out HW.out);clear hra hge hHeld hx13 hcx hgo HX HBX HW hk13;go_wp2_with fail
      refine ⟨⟨i + 1, by push_cast; rfl, by omega, by rw [HGM2.out], Lib.hid (by rw [HGM2.out]; exact HI6.out), HB6⟩, by simp [intOf]; omega⟩
     | some g =>
      have HPC := HPC0;have HGM2 : Hid ((gotsT b ((addsOf l).take (i + 1))).length = m + 1) := Lib.hid (by rw [HGM.out]; rfl);obtain ⟨p0, p1, p2, p3, p4, p5, p6, p7, hp⟩ : ∃ p0 p1 p2 p3 p4 p5 p6 p7, gotT (some g) = (p0, p1, p2, p3, p4, p5, p6, p7) := ⟨_, _, _, _, _, _, _, _, rfl⟩
      obtain ⟨gc, hgcd⟩ : ∃ gc, gc = gotCells (some g) := ⟨_, rfl⟩
      obtain ⟨gb, hgb⟩ : ∃ gb, gb = (some g : Option Cron.Got).isSome := ⟨_, rfl⟩
      have hgc : gc.size = 8 := by rw [hgcd]; exact Cron.got_size _
      have hgo1 : gc.all (·.oneCell') = true := by rw [hgcd]; exact Cron.got_one _
      have HGL : Hid (gc = (#[.bool p0, .int .i64 p1, .int .u64 p2, .int .u64 p3, .int .u64 p4, .int .u64 p5, .int .u64 p6, .int .u64 p7] : Array Value)) := Lib.hid (by rw [hgcd, gotT_cells, hp]; rfl);rw [← hgcd, ← hgb] at HPC;have HGB := Lib.hid hgb;have HNEW : Hid (GS[m]? = some g) := Lib.hid (hnew g rfl);have HP := Lib.hid hp;have hmM : m + 1 ≤ GS.length := by simpa using hMle
      clear hcb HPC0 HGM hgcd hnew hgb hp hMle;have hrow : wp.rangeAt q9 (i * 12) [.bool true, .int .i64 ((m : Int) + 1), .slice A3 0 c3, .bool false, .int .i64 0, .int .u64 0, .int .u64 0, .int .u64 0, .int .u64 0, .int .u64 0, .int .u64 0, .bool false] := hrg;clear hrg;have HRG := Lib.hid hrow;have HCE := Lib.hid hcell;obtain ⟨ARow, hAR⟩ : ∃ ARow : Array Value, ARow = #[.bool true, .int .i64 ((m : Int) + 1), .slice A3 0 c3, .bool false, .int .i64 0, .int .u64 0, .int .u64 0, .int .u64 0, .int .u64 0, .int .u64 0, .int .u64 0, .bool false] := ⟨_, rfl⟩
      have HSZ : Hid (ARow.size = 12) := Lib.hid (by rw [hAR]; rfl);have HON : Hid (ARow.all (·.oneCell') = true) := Lib.hid (by rw [hAR]; simp [Value.oneCell']);have HRG2 : Hid (wp.rangeAt q9 (i * 12) ARow.toList) := Lib.hid (by rw [hAR]; exact HRG.out);have HA0 : Hid (ARow[0]? = some (.bool true) ∧ ARow[1]? = some (.int .i64 ((m : Int) + 1))) := Lib.hid (by rw [hAR]; exact ⟨rfl, rfl⟩);clear hrow HRG hcell hAR;go_wp2_with (first | (refine wpList_load_mid rfl 44 _ rfl q9 (i * 12) rfl ARow.toList _ HRG2.out Tryz.underlying44 rfl (by rw [ansSize, Array.length_toList, HSZ.out]) ?_) | (refine wpList_store_row rfl 44 _ _ rfl wp.heap.size ARow rfl rfl 44 _ (heap_alloc_new wp _) (by rw [ansSize, HSZ.out]) (by rw [HSZ.out]; rfl) HON.out ?_; generalize hX : World.setRow _ _ _ = wx; have HX := Lib.hid (show wx.heap[wp.heap.size]? = some (.cells ARow 44 (0, 0)) by rw [← hX]; exact setRow_heap _ _ _ _ _ _ (heap_alloc_new wp _)); have HBX := Lib.hid (show Below wp.heap.size wp wx by rw [← hX]; exact below_setRow ((Below.refl _ _).alloc (Nat.le_refl _) _) (Nat.le_refl _) _); clear hX))
      go_upto_region 15 with fail
      obtain ⟨wo, hwo⟩ : ∃ wo, wo = wx := ⟨_, rfl⟩
      subst hwo;obtain ⟨g13, hg13⟩ : ∃ g13, g13 = wp.heap.size := ⟨_, rfl⟩
      have hx13 : wo.heap[g13]? = some (.cells ARow 44 (0, 0)) := by rw [hg13]; exact HX.out
      have hge13 : w5.heap.size ≤ g13 := by rw [hg13]; exact HB.out.size
      simp only [← hg13];have hcx : wo.cell? (ad.add i) = some (.string s) := (HBX.out.cell (World.block_lt_of_cell? _ _ HCE.out)).trans HCE.out;have hgo : GA wo := HGO.out.below HBX.out;clear hg13;refine start_ (n := 13) (S := fun w' => w'.cell? (ad.add i) = some (.string s) ∧ w'.heap[g13]? = some (.cells ARow 44 (0, 0)) ∧ Below wo.heap.size wo w') (ds := [11]) #[nn, nn, nn, nn, nn, nn, nn, nn, nn, nn, nn, nn, nn] (by kernel_rfl) rfl rfl ⟨hcx, hx13, (Below.refl _ _).drew⟩ (fun hHeld => ?_);refine pure_ (i := 0) (N := some 50) (v := ?_) (a' := ?_) #[yy, nn, nn, nn, nn, nn, nn, nn, nn, nn, nn, nn, nn] rfl rfl (by kernel_rfl) (fun _ _ _ h => h) (Or.inl ⟨by rfl, ?_⟩) ?_ ?_;rotate_left
      ·intro w';go_simp;with_reducible rfl
      rotate_left
      ·simp only [nrm];rfl
      refine pure_ (i := 2) (N := some 52) (v := ?_) (a' := ?_) #[yy, nn, yy, nn, nn, nn, nn, nn, nn, nn, nn, nn, nn] rfl rfl (by kernel_rfl) (fun _ _ _ h => h) (Or.inl ⟨by rfl, ?_⟩) ?_ ?_;rotate_left
      ·intro w';go_simp;with_reducible rfl
      rotate_left
      ·simp only [nrm];rfl
      refine pure_ (i := 3) (N := some 53) (v := ?_) (a' := ?_) #[yy, nn, yy, yy, nn, nn, nn, nn, nn, nn, nn, nn, nn] rfl rfl (by kernel_rfl) (fun _ _ _ h => h) (Or.inl ⟨by rfl, ?_⟩) ?_ ?_;rotate_left
      ·intro w';go_simp;with_reducible rfl
      rotate_left
      ·simp only [nrm];rfl
      refine pure_ (i := 4) (N := some 54) (v := ?_) (a' := ?_) #[yy, nn, yy, yy, yy, nn, nn, nn, nn, nn, nn, nn, nn] rfl rfl (by kernel_rfl) (fun _ _ _ h => h) (Or.inl ⟨by rfl, ?_⟩) ?_ ?_;rotate_left
      ·intro w';go_simp;with_reducible rfl
      rotate_left
      ·simp only [nrm];rfl
      refine take_ (i := 5) (N := some 55) (v := ?_) (a' := ?_) #[yy, nn, yy, yy, yy, yy, nn, nn, nn, nn, nn, nn, nn] rfl rfl (by kernel_rfl) (fun _ _ _ h => h) (Or.inl ⟨by rfl, ?_⟩) hHeld ?_ ?_;rotate_left
      ·rintro w' ⟨s0, s1, s2⟩;have c0 := s0;go_simp;with_reducible rfl
      rotate_left
      ·simp only [nrm];rfl
      refine join_ (σ := Nat) 2 #[yy, yy, yy, yy, yy, yy, yy, yy, yy, yy, yy, nn, nn] (fun s1 => [(51, .int .i64 o), (56, .tuple #[.agg gc, .bool gb]), (49, .tuple #[.agg gc, .bool gb]), (57, .agg gc), (58, .bool gb), (14, .pointer (some ⟨s1, 0, none⟩))]) (fun s1 w' => SchRow w' s1 ∧ wo.heap.size ≤ s1 ∧ (w'.cell? (ad.add i) = some (.string s) ∧ w'.heap[g13]? = some (.cells ARow 44 (0, 0)) ∧ Below wo.heap.size wo w')) ?_ ?_;rotate_left
      ·intro hCont;refine two_ (i := 1) (j := 10) (Ni := some 51) (Nj := some 14) #[yy, yy, yy, yy, yy, yy, nn, nn, nn, nn, nn, nn, nn] #[yy, nn, yy, yy, yy, yy, nn, nn, nn, nn, yy, nn, nn] rfl rfl rfl rfl (by kernel_rfl) (by decide) (by decide) (fun K hK => ?_) (fun K hK => ?_)
       ·skip;refine goes_ Tryz.func17 (by kernel_rfl) rfl #[.bool b] (by rfl) rfl rfl (by simp only [List.map_toArray, List.map_cons, List.map_nil]; rfl) ?_;with_reducible refine (HEO.out _).mono ?_
        rintro e w4 ⟨rfl, hd4⟩;refine ⟨_, rfl, ?_⟩;have hb4 := hd4.below;refine hK.out _ _ ⟨(hb4.cell (World.block_lt_of_cell? _ _ hHeld.1)).trans hHeld.1, (hb4.block _ (Array.getElem?_eq_some_iff.1 hHeld.2.1).1).trans hHeld.2.1, below_of_le hHeld.2.2 hb4⟩ (fun hHeld => ?_);clear hK K;refine norm_ (a' := ?_) ?_ ?_;rotate_left
        ·show Act.put _ (some 51) _ = _
         simp only [nrm];rfl
        refine two_ (i := 6) (j := 10) (Ni := some 56) (Nj := some 14) #[yy, yy, yy, yy, yy, yy, yy, nn, nn, nn, nn, nn, nn] #[yy, yy, yy, yy, yy, yy, nn, nn, nn, nn, yy, nn, nn] rfl rfl rfl rfl (by kernel_rfl) (by decide) (by decide) (fun K hK => ?_) (fun K hK => ?_)
        ·skip;refine goes_ Tryz.func11 (by kernel_rfl) rfl #[.int .i64 o, .string s] (by rfl) rfl rfl (by simp only [List.map_toArray, List.map_cons, List.map_nil]; rfl) ?_;with_reducible refine (HPC.out _ (hgo.below hHeld.2.2)).mono ?_
         rintro e w5 ⟨rfl, hb5⟩;refine ⟨_, rfl, ?_⟩;refine hK.out _ _ ⟨(hb5.cell (World.block_lt_of_cell? _ _ hHeld.1)).trans hHeld.1, (hb5.block _ (Array.getElem?_eq_some_iff.1 hHeld.2.1).1).trans hHeld.2.1, below_of_le hHeld.2.2 hb5⟩ (fun hHeld => ?_);clear hK K;refine norm_ (a' := ?_) ?_ ?_;rotate_left
         ·show Act.put _ (some 56) _ = _
          simp only [nrm];rfl
         refine pure_ (i := 7) (N := some 49) (v := ?_) (a' := ?_) #[yy, yy, yy, yy, yy, yy, yy, yy, nn, nn, nn, nn, nn] rfl rfl (by kernel_rfl) (fun _ _ _ h => h) (Or.inl ⟨by rfl, ?_⟩) ?_ ?_;rotate_left
         ·intro w';go_simp;with_reducible rfl
         rotate_left
         ·simp only [nrm];rfl
         refine pure_ (i := 8) (N := some 57) (v := ?_) (a' := ?_) #[yy, yy, yy, yy, yy, yy, yy, yy, yy, nn, nn, nn, nn] rfl rfl (by kernel_rfl) (fun _ _ _ h => h) (Or.inl ⟨by rfl, ?_⟩) ?_ ?_;rotate_left
         ·intro w';go_simp;with_reducible rfl
         rotate_left
         ·simp only [nrm];rfl
         refine pure_ (i := 9) (N := some 58) (v := ?_) (a' := ?_) #[yy, yy, yy, yy, yy, yy, yy, yy, yy, yy, nn, nn, nn] rfl rfl (by kernel_rfl) (fun _ _ _ h => h) (Or.inl ⟨by rfl, ?_⟩) ?_ ?_;rotate_left
         ·intro w';go_simp;with_reducible rfl
         rotate_left
         ·simp only [nrm];rfl
         refine one_ (i := 10) (N := some 14) #[yy, yy, yy, yy, yy, yy, yy, yy, yy, yy, yy, nn, nn] rfl rfl (by kernel_rfl) (by decide) (fun K hK => ?_);have hge := hHeld.2.2.size;have hra := schRow_of hHeld.2.2;refine value_ (by rfl) rfl (exec_alloc_sch _ _ _ rfl) ?_;refine hK.out _ _ ⟨(((Below.refl _ _).alloc (Nat.le_refl _) _).cell (World.block_lt_of_cell? _ _ hHeld.1)).trans hHeld.1, (((Below.refl _ _).alloc (Nat.le_refl _) _).block _ (Array.getElem?_eq_some_iff.1 hHeld.2.1).1).trans hHeld.2.1, hHeld.2.2.alloc hHeld.2.2.size _⟩ (fun hHeld => ?_);clear hK K;refine norm_ (a' := ?_) ?_ ?_;rotate_left
         ·show Act.put _ (some 14) _ = _
          simp only [nrm];rfl
         exact norm_ (by simp only [putAll, Act.put, List.setIfInBounds_toArray, List.set_cons_zero, List.set_cons_succ]) (hCont w5.heap.size _ ⟨hra, hge, hHeld⟩)
        ·skip;have hge := hHeld.2.2.size;have hra := schRow_of hHeld.2.2;refine value_ (by rfl) rfl (exec_alloc_sch _ _ _ rfl) ?_;refine hK.out _ _ ⟨(((Below.refl _ _).alloc (Nat.le_refl _) _).cell (World.block_lt_of_cell? _ _ hHeld.1)).trans hHeld.1, (((Below.refl _ _).alloc (Nat.le_refl _) _).block _ (Array.getElem?_eq_some_iff.1 hHeld.2.1).1).trans hHeld.2.1, hHeld.2.2.alloc hHeld.2.2.size _⟩ (fun hHeld => ?_);clear hK K;refine norm_ (a' := ?_) ?_ ?_;rotate_left
         ·show Act.put _ (some 14) _ = _
          simp only [nrm];rfl
         refine one_ (i := 6) (N := some 56) #[yy, yy, yy, yy, yy, yy, yy, nn, nn, nn, yy, nn, nn] rfl rfl (by kernel_rfl) (by decide) (fun K hK => ?_);refine goes_ Tryz.func11 (by kernel_rfl) rfl #[.int .i64 o, .string s] (by rfl) rfl rfl (by simp only [List.map_toArray, List.map_cons, List.map_nil]; rfl) ?_;with_reducible refine (HPC.out _ (hgo.below hHeld.2.2)).mono ?_
         rintro e w5 ⟨rfl, hb5⟩;refine ⟨_, rfl, ?_⟩;refine hK.out _ _ ⟨(hb5.cell (World.block_lt_of_cell? _ _ hHeld.1)).trans hHeld.1, (hb5.block _ (Array.getElem?_eq_some_iff.1 hHeld.2.1).1).trans hHeld.2.1, below_of_le hHeld.2.2 hb5⟩ (fun hHeld => ?_);clear hK K;refine norm_ (a' := ?_) ?_ ?_;rotate_left
         ·show Act.put _ (some 56) _ = _
          simp only [nrm];rfl
         refine pure_ (i := 7) (N := some 49) (v := ?_) (a' := ?_) #[yy, yy, yy, yy, yy, yy, yy, yy, nn, nn, yy, nn, nn] rfl rfl (by kernel_rfl) (fun _ _ _ h => h) (Or.inl ⟨by rfl, ?_⟩) ?_ ?_;rotate_left
         ·intro w';go_simp;with_reducible rfl
         rotate_left
         ·simp only [nrm];rfl
         refine pure_ (i := 8) (N := some 57) (v := ?_) (a' := ?_) #[yy, yy, yy, yy, yy, yy, yy, yy, yy, nn, yy, nn, nn] rfl rfl (by kernel_rfl) (fun _ _ _ h => h) (Or.inl ⟨by rfl, ?_⟩) ?_ ?_;rotate_left
         ·intro w';go_simp;with_reducible rfl
         rotate_left
         ·simp only [nrm];rfl
         refine pure_ (i := 9) (N := some 58) (v := ?_) (a' := ?_) #[yy, yy, yy, yy, yy, yy, yy, yy, yy, yy, yy, nn, nn] rfl rfl (by kernel_rfl) (fun _ _ _ h => h) (Or.inl ⟨by rfl, ?_⟩) ?_ ?_;rotate_left
         ·intro w';go_simp;with_reducible rfl
         rotate_left
         ·simp only [nrm];rfl
         exact norm_ (by simp only [putAll, Act.put, List.setIfInBounds_toArray, List.set_cons_zero, List.set_cons_succ]) (hCont w4.heap.size _ ⟨hra.below hb5, hge, hHeld⟩)
       ·skip;have hge := hHeld.2.2.size;have hra := schRow_of hHeld.2.2;refine value_ (by rfl) rfl (exec_alloc_sch _ _ _ rfl) ?_;refine hK.out _ _ ⟨(((Below.refl _ _).alloc (Nat.le_refl _) _).cell (World.block_lt_of_cell? _ _ hHeld.1)).trans hHeld.1, (((Below.refl _ _).alloc (Nat.le_refl _) _).block _ (Array.getElem?_eq_some_iff.1 hHeld.2.1).1).trans hHeld.2.1, hHeld.2.2.alloc hHeld.2.2.size _⟩ (fun hHeld => ?_);clear hK K;refine norm_ (a' := ?_) ?_ ?_;rotate_left
        ·show Act.put _ (some 14) _ = _
         simp only [nrm];rfl
        refine one_ (i := 1) (N := some 51) #[yy, yy, yy, yy, yy, yy, nn, nn, nn, nn, yy, nn, nn] rfl rfl (by kernel_rfl) (by decide) (fun K hK => ?_);refine goes_ Tryz.func17 (by kernel_rfl) rfl #[.bool b] (by rfl) rfl rfl (by simp only [List.map_toArray, List.map_cons, List.map_nil]; rfl) ?_;with_reducible refine (HEO.out _).mono ?_
        rintro e w4 ⟨rfl, hd4⟩;refine ⟨_, rfl, ?_⟩;have hb4 := hd4.below;refine hK.out _ _ ⟨(hb4.cell (World.block_lt_of_cell? _ _ hHeld.1)).trans hHeld.1, (hb4.block _ (Array.getElem?_eq_some_iff.1 hHeld.2.1).1).trans hHeld.2.1, below_of_le hHeld.2.2 hb4⟩ (fun hHeld => ?_);clear hK K;refine norm_ (a' := ?_) ?_ ?_;rotate_left
        ·show Act.put _ (some 51) _ = _
         simp only [nrm];rfl
        refine one_ (i := 6) (N := some 56) #[yy, yy, yy, yy, yy, yy, yy, nn, nn, nn, yy, nn, nn] rfl rfl (by kernel_rfl) (by decide) (fun K hK => ?_);refine goes_ Tryz.func11 (by kernel_rfl) rfl #[.int .i64 o, .string s] (by rfl) rfl rfl (by simp only [List.map_toArray, List.map_cons, List.map_nil]; rfl) ?_;with_reducible refine (HPC.out _ (hgo.below hHeld.2.2)).mono ?_
        rintro e w5 ⟨rfl, hb5⟩;refine ⟨_, rfl, ?_⟩;refine hK.out _ _ ⟨(hb5.cell (World.block_lt_of_cell? _ _ hHeld.1)).trans hHeld.1, (hb5.block _ (Array.getElem?_eq_some_iff.1 hHeld.2.1).1).trans hHeld.2.1, below_of_le hHeld.2.2 hb5⟩ (fun hHeld => ?_);clear hK K;refine norm_ (a' := ?_) ?_ ?_;rotate_left
        ·show Act.put _ (some 56) _ = _
         simp only [nrm];rfl
        refine pure_ (i := 7) (N := some 49) (v := ?_) (a' := ?_) #[yy, yy, yy, yy, yy, yy, yy, yy, nn, nn, yy, nn, nn] rfl rfl (by kernel_rfl) (fun _ _ _ h => h) (Or.inl ⟨by rfl, ?_⟩) ?_ ?_;rotate_left
        ·intro w';go_simp;with_reducible rfl
        rotate_left
        ·simp only [nrm];rfl
        refine pure_ (i := 8) (N := some 57) (v := ?_) (a' := ?_) #[yy, yy, yy, yy, yy, yy, yy, yy, yy, nn, yy, nn, nn] rfl rfl (by kernel_rfl) (fun _ _ _ h => h) (Or.inl ⟨by rfl, ?_⟩) ?_ ?_;rotate_left
        ·intro w';go_simp;with_reducible rfl
        rotate_left
        ·simp only [nrm];rfl
        refine pure_ (i := 9) (N := some 58) (v := ?_) (a' := ?_) #[yy, yy, yy, yy, yy, yy, yy, yy, yy, yy, yy, nn, nn] rfl rfl (by kernel_rfl) (fun _ _ _ h => h) (Or.inl ⟨by rfl, ?_⟩) ?_ ?_;rotate_left
        ·intro w';go_simp;with_reducible rfl
        rotate_left
        ·simp only [nrm];rfl
        exact norm_ (by simp only [putAll, Act.put, List.setIfInBounds_toArray, List.set_cons_zero, List.set_cons_succ]) (hCont wo.drew.heap.size _ ⟨(hra.below hb4).below hb5, hge, hHeld⟩)
      rintro g14 w5b ⟨hra, hge, hHeld⟩;refine norm_ (a' := ?_) ?_ ?_;rotate_left
      ·simp only [putAll, Act.put, List.setIfInBounds_toArray, List.set_cons_zero, List.set_cons_succ];rfl
      refine last_ (i := 11) (N := none) #[yy, yy, yy, yy, yy, yy, yy, yy, yy, yy, yy, yy, nn] rfl rfl (by kernel_rfl) (by decide) (fun K hK => ?_);rw [if_pos (by rfl)];refine wp_store_row 26 _ _ rfl g14 gc rfl rfl 26 noSched hra (by rw [schSize, hgc]) (by rw [hgc]; rfl) hgo1 ?_;refine hK.out _ _ ?_;clear hK K;refine pure_ (i := 12) (N := some 15) (v := ?_) (a' := ?_) #[yy, yy, yy, yy, yy, yy, yy, yy, yy, yy, yy, yy, yy] rfl rfl (by kernel_rfl) (fun _ _ _ h => h) (Or.inl ⟨by rfl, ?_⟩) ?_ ?_;rotate_left
      ·intro w';go_simp;with_reducible rfl
      rotate_left
      ·simp only [nrm];rfl
      refine done_ (by kernel_rfl) ?_;obtain rfl : gb = true := HGB.out;have HM8 : Hid (((idsI m).length + 1) * 8 ≤ 140737488355328) := Lib.hid (by rw [idsI_len]; omega);have HW := Lib.hid (below_of_le HBX.out (below_setRow hHeld.2.2 hge gc));have hk13 : (World.setRow w5b g14 gc).heap[g13]? = some (.cells ARow 44 (0, 0)) := (setRow_other _ _ _ _ (by have := (Array.getElem?_eq_some_iff.1 hx13).1; omega)).trans hHeld.2.1;have hk14 : (World.setRow w5b g14 gc).heap[g14]? = some (.cells gc 26 (0, 0)) := setRow_heap _ _ _ _ _ _ hra;generalize World.setRow w5b g14 gc = w6 at *;have c130 : w6.cell? ⟨g13, 0, none⟩ = some (.bool true) := (cell_of_row _ _ _ _ _ _ hk13).trans HA0.out.1;have c131 : w6.cell? ⟨g13, 1, none⟩ = some (.int .i64 ((m : Int) + 1)) := (cell_of_row _ _ _ _ _ _ hk13).trans HA0.out.2;have HI6 := Lib.hid (Kd.R_below HI.out HW.out);have HB6 := Lib.hid (below_of_le HB.out HW.out);have HK13 := Lib.hid hk13;have HK14 := Lib.hid hk14;have hl13 := Lib.hid (Array.getElem?_eq_some_iff.1 hk13).1;have hl14 := Lib.hid (Array.getElem?_eq_some_iff.1 hk14).1;clear hra hge hHeld hx13 hcx hgo HX HBX HW hk13 hk14;go_upto_region 20 with ((with_reducible refine gate_builtin (b := .append) (xs := #[.tmp 65, .tmp 68]) rfl ?_); at_builtin; refine Kd.R_append (Kd.int .i64) (w0 := w5) w5.heap.size rfl (.tmp 65) (.tmp 68) 42 3 (.int .i64 0) 8 rfl Tryz.underlying42 info_intP rfl (by decide) (by omega) u10 (idsI m) ((m : Int) + 1) [.int .i64 ((m : Int) + 1)] (fun _ => True) (fun _ => False) rfl rfl ?aP ?aO ?aF ?aR ?aB ?aS ?aL ?_; (case aP => exact rfl); (case aO => exact fun k hk => hk.elim); (case aF => exact fun _ _ => trivial); (case aR => exact HI6.out); (case aB => exact HB6.out); (case aS => exact HB6.out.size); (case aL => exact HM8.out); intro v10 w7 ho hb hg hat; have HV13 := Lib.hid ((hg.block g13 hl13.out (Kd.R_ne HI6.out HK13.out (by decide))).trans HK13.out); have HV14 := Lib.hid ((hg.block g14 hl14.out (Kd.R_ne HI6.out HK14.out (by decide))).trans HK14.out); have HO7 := Lib.hid (show (Kd.int .i64).R 3 w7 w5.heap.size (fun _ => True) v10 (idsI (m + 1)) by rw [idsI_succ]; exact ho); have HB7 := Lib.hid hb; clear ho hb hg hat)
      clear HI6 HB6 HK13 HK14 c130 c131;have c131 : w7.cell? ⟨g13, 1, none⟩ = some (.int .i64 ((m : Int) + 1)) := (cell_of_row _ _ _ _ _ _ HV13.out).trans HA0.out.2;refine cut_at (by assumption) (.bool (isIn x (m + 1))) ?_ ?_;rotate_left
      ·intro hCut;rename_i Kx hKx
       clear hKx;have hc2 := hCut.out;clear hCut;simp only [List.setIfInBounds_toArray, List.set_cons_zero, List.set_cons_succ] at hc2;cases hbI : isIn x m with
       | true =>
        rw [isIn_yes hbI] at hc2;have HC2 := Lib.hid hc2;clear hc2 hbI;go_wp2_with fail
        exact HC2.out _ _ _ _ _ _ _
       | false =>
        by_cases hmx : (m : Int) + 1 = x
        ·rw [isIn_new hmx] at hc2;have HC2 := Lib.hid hc2;have hq : ((m : Int) + 1 == x) = true := by rw [beq_iff_eq]; exact hmx
         clear hc2 hbI hmx;go_wp2_with fail
         exact HC2.out _ _ _ _ _ _ _
        ·rw [isIn_no hbI hmx] at hc2;have HC2 := Lib.hid hc2;have hq : ((m : Int) + 1 == x) = false := by rw [beq_eq_false_iff_ne]; exact hmx
         clear hc2 hbI hmx;go_wp2_with fail
         exact HC2.out _ _ _ _ _ _ _
      intro u70 u71 u72 u73 u74 u75 u76;simp only [List.setIfInBounds_toArray, List.set_cons_zero, List.set_cons_succ];clear c131;go_upto_region 21 with fail
      obtain ⟨wo, hwo⟩ : ∃ wo, wo = w7 := ⟨_, rfl⟩
      subst hwo;have hx13 := HV13.out;have HCW := Lib.hid (fun w' (hb : Below wo.heap.size wo w') => HC.out w' (below_of_le HB5.out (below_of_le HB7.out hb)));refine start_ (n := 8) (S := fun w' => w'.heap[g13]? = some (.cells ARow 44 (0, 0)) ∧ Below wo.heap.size wo w') (ds := [6]) #[nn, nn, nn, nn, nn, nn, nn, nn] (by kernel_rfl) rfl rfl ⟨hx13, (Below.refl _ _).drew⟩ (fun hHeld => ?_);refine pure_ (i := 0) (N := some 77) (v := ?_) (a' := ?_) #[yy, nn, nn, nn, nn, nn, nn, nn] rfl rfl (by kernel_rfl) (fun _ _ _ h => h) (Or.inl ⟨by rfl, ?_⟩) ?_ ?_;rotate_left
      ·intro w';go_simp;with_reducible rfl
      rotate_left
      ·simp only [nrm];rfl
      refine pure_ (i := 2) (N := some 79) (v := ?_) (a' := ?_) #[yy, nn, yy, nn, nn, nn, nn, nn] rfl rfl (by kernel_rfl) (fun _ _ _ h => h) (Or.inl ⟨by rfl, ?_⟩) ?_ ?_;rotate_left
      ·intro w';go_simp;with_reducible rfl
      rotate_left
      ·simp only [nrm];rfl
      refine take_ (i := 3) (N := some 80) (v := ?_) (a' := ?_) #[yy, nn, yy, yy, nn, nn, nn, nn] rfl rfl (by kernel_rfl) (fun _ _ _ h => h) (Or.inl ⟨by rfl, ?_⟩) hHeld ?_ ?_;rotate_left
      ·rintro w' ⟨s0, s1⟩;have c0 : w'.cell? ⟨g13, 1, none⟩ = some (.int .i64 ((m : Int) + 1)) := (cell_of_row _ _ _ _ _ _ s0).trans HA0.out.2;go_simp;with_reducible rfl
      rotate_left
      ·simp only [nrm];rfl
      refine pure_ (i := 4) (N := some 81) (v := ?_) (a' := ?_) #[yy, nn, yy, yy, yy, nn, nn, nn] rfl rfl (by kernel_rfl) (fun _ _ _ h => h) (Or.inl ⟨by rfl, ?_⟩) ?_ ?_;rotate_left
      ·intro w';go_simp;with_reducible rfl
      rotate_left
      ·simp only [nrm];rfl
      refine join_ (σ := Value × Nat) 2 #[yy, yy, yy, yy, yy, yy, nn, nn] (fun s1 => [(78, s1.1), (82, .slice (some ⟨s1.2, 0, none⟩) 1 1)]) (fun s1 w' => k41.R 41 w' wo.heap.size (fun _ => True) s1.1 (addsOf l) ∧ w'.heap[s1.2]? = some (.cells #[.int .i64 3, .string ⟨#[]⟩, .int .i64 ((m : Int) + 1)] 41 (0, 0)) ∧ (w'.heap[g13]? = some (.cells ARow 44 (0, 0)) ∧ Below wo.heap.size wo w')) ?_ ?_;rotate_left
      ·intro hCont;refine two_ (i := 1) (j := 5) (Ni := some 78) (Nj := some 82) #[yy, yy, yy, yy, yy, nn, nn, nn] #[yy, nn, yy, yy, yy, yy, nn, nn] rfl rfl rfl rfl (by kernel_rfl) (by decide) (by decide) (fun K hK => ?_) (fun K hK => ?_)
       ·skip;have hsz1 := hHeld.2.size;refine goes_ Tryz.func15 (by kernel_rfl) rfl #[.slice (some ad) l.length c] (by rfl) rfl rfl (by simp only [List.map_toArray, List.map_cons, List.map_nil]; rfl) ?_;with_reducible refine (HAD.out _ (HCW.out _ hHeld.2)).mono ?_
        rintro e w4 ⟨v78, rfl, hR4, hb4⟩;refine ⟨_, rfl, ?_⟩;refine hK.out _ _ ⟨(hb4.block _ (Array.getElem?_eq_some_iff.1 hHeld.1).1).trans hHeld.1, below_of_le hHeld.2 hb4⟩ (fun hHeld => ?_);clear hK K;refine norm_ (a' := ?_) ?_ ?_;rotate_left
        ·show Act.put _ (some 78) _ = _
         simp only [nrm];rfl
        refine one_ (i := 5) (N := some 82) #[yy, yy, yy, yy, yy, yy, nn, nn] rfl rfl (by kernel_rfl) (by decide) (fun K hK => ?_);have hge := hHeld.2.size;have hq := stepRow_of hHeld.2 (.int .i64 ((m : Int) + 1));refine value_ (by rfl) rfl (exec_slice_step _ _ _ _ _ 0 () rfl (by rfl)) ?_;refine hK.out _ _ ⟨(((Below.refl _ _).alloc (Nat.le_refl _) _).block _ (Array.getElem?_eq_some_iff.1 hHeld.1).1).trans hHeld.1, hHeld.2.alloc hHeld.2.size _⟩ (fun hHeld => ?_);clear hK K;refine norm_ (a' := ?_) ?_ ?_;rotate_left
        ·show Act.put _ (some 82) _ = _
         simp only [nrm];rfl
        exact norm_ (by simp only [putAll, Act.put, List.setIfInBounds_toArray, List.set_cons_zero, List.set_cons_succ]) (hCont (v78, w4.heap.size) _ ⟨Kd.R_alloc (Kd.R_lower hR4 hsz1) _, hq, hHeld⟩)
       ·skip;have hge := hHeld.2.size;have hq := stepRow_of hHeld.2 (.int .i64 ((m : Int) + 1));refine value_ (by rfl) rfl (exec_slice_step _ _ _ _ _ 0 () rfl (by rfl)) ?_;refine hK.out _ _ ⟨(((Below.refl _ _).alloc (Nat.le_refl _) _).block _ (Array.getElem?_eq_some_iff.1 hHeld.1).1).trans hHeld.1, hHeld.2.alloc hHeld.2.size _⟩ (fun hHeld => ?_);clear hK K;refine norm_ (a' := ?_) ?_ ?_;rotate_left
        ·show Act.put _ (some 82) _ = _
         simp only [nrm];rfl
        refine one_ (i := 1) (N := some 78) #[yy, yy, yy, yy, yy, yy, nn, nn] rfl rfl (by kernel_rfl) (by decide) (fun K hK => ?_);have hsz1 := hHeld.2.size;refine goes_ Tryz.func15 (by kernel_rfl) rfl #[.slice (some ad) l.length c] (by rfl) rfl rfl (by simp only [List.map_toArray, List.map_cons, List.map_nil]; rfl) ?_;with_reducible refine (HAD.out _ (HCW.out _ hHeld.2)).mono ?_
        rintro e w4 ⟨v78, rfl, hR4, hb4⟩;refine ⟨_, rfl, ?_⟩;refine hK.out _ _ ⟨(hb4.block _ (Array.getElem?_eq_some_iff.1 hHeld.1).1).trans hHeld.1, below_of_le hHeld.2 hb4⟩ (fun hHeld => ?_);clear hK K;refine norm_ (a' := ?_) ?_ ?_;rotate_left
        ·show Act.put _ (some 78) _ = _
         simp only [nrm];rfl
        exact norm_ (by simp only [putAll, Act.put, List.setIfInBounds_toArray, List.set_cons_zero, List.set_cons_succ]) (hCont (v78, wo.drew.heap.size) _ ⟨Kd.R_lower hR4 hsz1, (hb4.block _ (Array.getElem?_eq_some_iff.1 hq).1).trans hq, hHeld⟩)
      rintro ⟨v78, q82⟩ w5b ⟨hR5, hq5, hHeld⟩;refine norm_ (a' := ?_) ?_ ?_;rotate_left
      ·simp only [putAll, Act.put, List.setIfInBounds_toArray, List.set_cons_zero, List.set_cons_succ];rfl
      refine last_ (i := 6) (N := some 83) #[yy, yy, yy, yy, yy, yy, yy, nn] rfl rfl (by kernel_rfl) (by decide) (fun K hK => ?_);refine step_append_R k41 (w0 := wo) wo.heap.size rfl (.tmp 78) (.tmp 82) 36 41 (.agg #[.int .i64 0, .string ⟨#[]⟩, .int .i64 0]) 32 rfl Tryz.underlying36 info41 rfl (by decide) (by omega) v78 (addsOf l) (⟨3, ⟨#[]⟩, (m : Int) + 1⟩ : Step) [.int .i64 3, .string ⟨#[]⟩, .int .i64 ((m : Int) + 1)] (fun _ => True) (fun _ => False) rfl q82 rfl 41 (0, 0) hq5 (k41_mkM _ _ _ (⟨3, ⟨#[]⟩, (m : Int) + 1⟩ : Step)) (fun k hk => hk.elim) (fun _ _ => trivial) hR5 hHeld.2 hHeld.2.size (by omega) ?_;intro v16 w9 ho hb hg;refine hK.out _ _ ?_;clear hK K;refine norm_ (a' := ?_) ?_ ?_;rotate_left
      ·show Act.put _ (some 83) _ = _
       simp only [nrm];rfl
      refine pure_ (i := 7) (N := some 16) (v := ?_) (a' := ?_) #[yy, yy, yy, yy, yy, yy, yy, yy] rfl rfl (by kernel_rfl) (fun _ _ _ h => h) (Or.inl ⟨by rfl, ?_⟩) ?_ ?_;rotate_left
      ·intro w';go_simp;with_reducible rfl
      rotate_left
      ·simp only [nrm];rfl
      refine done_ (by kernel_rfl) ?_;have hTL1 : (addsOf l ++ [(⟨3, ⟨#[]⟩, (m : Int) + 1⟩ : Step)]).length = n1 := by rw [List.length_append, hTL, HN1.out]; rfl
      obtain ⟨A16, c16, hv16⟩ := Kd.R_slice ho;rw [hTL1] at hv16;subst hv16;have HO9 := Lib.hid ho;have HB9 := Lib.hid (below_of_le HB7.out hb);have HV13b := Lib.hid ((hb.block g13 (Array.getElem?_eq_some_iff.1 hx13).1).trans hx13);have HV14b := Lib.hid ((hb.block g14 (Array.getElem?_eq_some_iff.1 HV14.out).1).trans HV14.out);have HI9 := Lib.hid (Kd.R_below HO7.out hb)
      have HTO1 : Hid (∀ y ∈ addsOf l ++ [(⟨3, ⟨#[]⟩, (m : Int) + 1⟩ : Step)], StepOk y) := Lib.hid fun y hy => by
       rcases List.mem_append.1 hy with hy | hy
       ·exact HTO.out y hy
       ·rw [List.mem_singleton] at hy;subst hy;exact .inr (.inr rfl)
      clear ho hb hg hR5 hq5 hHeld hx13 HV13 HV14 HO7 HB7 HCW;go_wp2_with fail
      refine (HCS.out _ (by rw [hTL1, HN1.out]; omega) HTO1.out _ w9 (HGA.out w9 (below_of_le HB5.out HB9.out)) _ _ HO9.out).mono ?_;rintro e w10 ⟨v17, rfl, hR10, hb10⟩;have hlast := script_last b (addsOf l) (⟨3, ⟨#[]⟩, (m : Int) + 1⟩ : Step);rw [hM, ask_found b HNEW.out, HP.out, hTL] at hlast;obtain ⟨q17, cc17, A17, c17, hv17, hq17, hrg17, -, -⟩ := ans_at hR10 l.length _ hlast;rw [scriptA_len, hTL1] at hv17;subst hv17;have hrow17 : w10.rangeAt q17 (l.length * 12) [.bool true, .int .i64 ((m : Int) + 1), .slice A17 0 c17, .bool p0, .int .i64 p1, .int .u64 p2, .int .u64 p3, .int .u64 p4, .int .u64 p5, .int .u64 p6, .int .u64 p7, .bool true] := hrg17;have HB10 := Lib.hid (below_of_le HB9.out hb10);have HI10 := Lib.hid (Kd.R_below HI9.out hb10);have hx13 := (hb10.block g13 (Array.getElem?_eq_some_iff.1 HV13b.out).1).trans HV13b.out;have hx14 := (hb10.block g14 (Array.getElem?_eq_some_iff.1 HV14b.out).1).trans HV14b.out;have hk0 : w10.cell? ⟨q17, l.length * 12, none⟩ = some (.bool true) := hrow17 0 _ rfl;have hk1 : w10.cell? ⟨q17, l.length * 12 + 1, none⟩ = some (.int .i64 ((m : Int) + 1)) := hrow17 1 _ rfl;have hk11 : w10.cell? ⟨q17, l.length * 12 + 11, none⟩ = some (.bool true) := hrow17 11 _ rfl
      have hk3 : w10.rangeAt q17 (l.length * 12 + 3) [.bool p0, .int .i64 p1, .int .u64 p2, .int .u64 p3, .int .u64 p4, .int .u64 p5, .int .u64 p6, .int .u64 p7] := fun t y hy => by
       have := hrow17 (3 + t) y;rw [← Nat.add_assoc] at this;refine this ?_;match t with
       | 0 | 1 | 2 | 3 | 4 | 5 | 6 | 7 => exact hy
       | t + 8 => simp at hy
      have hgcl := HGL.out;rw [hgcl] at hx14;have hid1 : ((m : Int) + 1 == 0) = false := by rw [beq_eq_false_iff_ne]; omega
      clear hlast hR10 hrg17 hrow17 hgcl HV13b HV14b HI9 HB9 hb10 HO9;go_upto_region 23 with fail
      obtain ⟨wo, hwo⟩ : ∃ wo, wo = w10 := ⟨_, rfl⟩
      subst hwo;refine start_ (n := 45) (S := fun w' => w'.cell? ⟨q17, l.length * 12, none⟩ = some (.bool true) ∧ w'.cell? ⟨q17, l.length * 12 + 1, none⟩ = some (.int .i64 ((m : Int) + 1)) ∧ w'.rangeAt q17 (l.length * 12 + 3) [.bool p0, .int .i64 p1, .int .u64 p2, .int .u64 p3, .int .u64 p4, .int .u64 p5, .int .u64 p6, .int .u64 p7] ∧ w'.cell? ⟨q17, l.length * 12 + 11, none⟩ = some (.bool true) ∧ w'.heap[g13]? = some (.cells ARow 44 (0, 0)) ∧ w'.heap[g14]? = some (.cells (#[.bool p0, .int .i64 p1, .int .u64 p2, .int .u64 p3, .int .u64 p4, .int .u64 p5, .int .u64 p6, .int .u64 p7] : Array Value) 26 (0, 0)) ∧ Below wo.heap.size wo w') (ds := []) #[nn, nn, nn, nn, nn, nn, nn, nn, nn, nn, nn, nn, nn, nn, nn, nn, nn, nn, nn, nn, nn, nn, nn, nn, nn, nn, nn, nn, nn, nn, nn, nn, nn, nn, nn, nn, nn, nn, nn, nn, nn, nn, nn, nn, nn] (by kernel_rfl) rfl rfl ⟨hk0, hk1, hk3, hk11, hx13, hx14, (Below.refl _ _).drew⟩ (fun hHeld => ?_);refine pure_ (i := 0) (N := some 87) (v := ?_) (a' := ?_) #[yy, nn, nn, nn, nn, nn, nn, nn, nn, nn, nn, nn, nn, nn, nn, nn, nn, nn, nn, nn, nn, nn, nn, nn, nn, nn, nn, nn, nn, nn, nn, nn, nn, nn, nn, nn, nn, nn, nn, nn, nn, nn, nn, nn, nn] rfl rfl (by kernel_rfl) (fun _ _ _ h => h) (Or.inl ⟨by rfl, ?_⟩) ?_ ?_;rotate_left
      ·intro w';go_simp;with_reducible rfl
      rotate_left
      ·simp only [nrm];rfl
      refine pure_ (i := 1) (N := some 88) (v := ?_) (a' := ?_) #[yy, yy, nn, nn, nn, nn, nn, nn, nn, nn, nn, nn, nn, nn, nn, nn, nn, nn, nn, nn, nn, nn, nn, nn, nn, nn, nn, nn, nn, nn, nn, nn, nn, nn, nn, nn, nn, nn, nn, nn, nn, nn, nn, nn, nn] rfl rfl (by kernel_rfl) (fun _ _ _ h => h) (Or.inl ⟨by rfl, ?_⟩) ?_ ?_;rotate_left
      ·intro w';go_simp;with_reducible rfl
      rotate_left
      ·simp only [nrm];rfl
      refine pure_ (i := 2) (N := some 89) (v := ?_) (a' := ?_) #[yy, yy, yy, nn, nn, nn, nn, nn, nn, nn, nn, nn, nn, nn, nn, nn, nn, nn, nn, nn, nn, nn, nn, nn, nn, nn, nn, nn, nn, nn, nn, nn, nn, nn, nn, nn, nn, nn, nn, nn, nn, nn, nn, nn, nn] rfl rfl (by kernel_rfl) (fun _ _ _ h => h) (Or.inl ⟨by rfl, ?_⟩) ?_ ?_;rotate_left
      ·intro w';go_simp;with_reducible rfl
      rotate_left
      ·simp only [nrm];rfl
      refine pure_ (i := 3) (N := some 90) (v := ?_) (a' := ?_) #[yy, yy, yy, yy, nn, nn, nn, nn, nn, nn, nn, nn, nn, nn, nn, nn, nn, nn, nn, nn, nn, nn, nn, nn, nn, nn, nn, nn, nn, nn, nn, nn, nn, nn, nn, nn, nn, nn, nn, nn, nn, nn, nn, nn, nn] rfl rfl (by kernel_rfl) (fun _ _ _ h => h) (Or.inl ⟨by rfl, ?_⟩) ?_ ?_;rotate_left
      ·intro w';go_simp;with_reducible rfl
      rotate_left
      ·simp only [nrm];rfl
      refine pure_ (i := 4) (N := some 91) (v := ?_) (a' := ?_) #[yy, yy, yy, yy, yy, nn, nn, nn, nn, nn, nn, nn, nn, nn, nn, nn, nn, nn, nn, nn, nn, nn, nn, nn, nn, nn, nn, nn, nn, nn, nn, nn, nn, nn, nn, nn, nn, nn, nn, nn, nn, nn, nn, nn, nn] rfl rfl (by kernel_rfl) (fun _ _ _ h => h) (Or.inl ⟨by rfl, ?_⟩) ?_ ?_;rotate_left
      ·intro w';go_simp;with_reducible rfl
      rotate_left
      ·simp only [nrm];rfl
      refine pure_ (i := 5) (N := some 92) (v := ?_) (a' := ?_) #[yy, yy, yy, yy, yy, yy, nn, nn, nn, nn, nn, nn, nn, nn, nn, nn, nn, nn, nn, nn, nn, nn, nn, nn, nn, nn, nn, nn, nn, nn, nn, nn, nn, nn, nn, nn, nn, nn, nn, nn, nn, nn, nn, nn, nn] rfl rfl (by kernel_rfl) (fun _ _ _ h => h) (Or.inl ⟨by rfl, ?_⟩) ?_ ?_;rotate_left
      ·intro w';go_simp;with_reducible rfl
      rotate_left
      ·simp only [nrm];rfl
      refine pure_ (i := 6) (N := some 93) (v := ?_) (a' := ?_) #[yy, yy, yy, yy, yy, yy, yy, nn, nn, nn, nn, nn, nn, nn, nn, nn, nn, nn, nn, nn, nn, nn, nn, nn, nn, nn, nn, nn, nn, nn, nn, nn, nn, nn, nn, nn, nn, nn, nn, nn, nn, nn, nn, nn, nn] rfl rfl (by kernel_rfl) (fun _ _ _ h => h) (Or.inl ⟨by rfl, ?_⟩) ?_ ?_;rotate_left
      ·intro w';go_simp;with_reducible rfl
      rotate_left
      ·simp only [nrm];rfl
      refine pure_ (i := 7) (N := some 94) (v := ?_) (a' := ?_) #[yy, yy, yy, yy, yy, yy, yy, yy, nn, nn, nn, nn, nn, nn, nn, nn, nn, nn, nn, nn, nn, nn, nn, nn, nn, nn, nn, nn, nn, nn, nn, nn, nn, nn, nn, nn, nn, nn, nn, nn, nn, nn, nn, nn, nn] rfl rfl (by kernel_rfl) (fun _ _ _ h => h) (Or.inl ⟨by rfl, ?_⟩) ?_ ?_;rotate_left
      ·intro w';go_simp;with_reducible rfl
      rotate_left
      ·simp only [nrm];rfl
      refine pure_ (i := 8) (N := some 95) (v := ?_) (a' := ?_) #[yy, yy, yy, yy, yy, yy, yy, yy, yy, nn, nn, nn, nn, nn, nn, nn, nn, nn, nn, nn, nn, nn, nn, nn, nn, nn, nn, nn, nn, nn, nn, nn, nn, nn, nn, nn, nn, nn, nn, nn, nn, nn, nn, nn, nn] rfl rfl (by kernel_rfl) (fun _ _ _ h => h) (Or.inl ⟨by rfl, ?_⟩) ?_ ?_;rotate_left
      ·intro w';go_simp;with_reducible rfl
      rotate_left
      ·simp only [nrm];rfl
      refine pure_ (i := 9) (N := some 96) (v := ?_) (a' := ?_) #[yy, yy, yy, yy, yy, yy, yy, yy, yy, yy, nn, nn, nn, nn, nn, nn, nn, nn, nn, nn, nn, nn, nn, nn, nn, nn, nn, nn, nn, nn, nn, nn, nn, nn, nn, nn, nn, nn, nn, nn, nn, nn, nn, nn, nn] rfl rfl (by kernel_rfl) (fun _ _ _ h => h) (Or.inl ⟨by rfl, ?_⟩) ?_ ?_;rotate_left
      ·intro w';go_simp;with_reducible rfl
      rotate_left
      ·simp only [nrm];rfl
      refine take_ (i := 10) (N := some 97) (v := ?_) (a' := ?_) #[yy, yy, yy, yy, yy, yy, yy, yy, yy, yy, yy, nn, nn, nn, nn, nn, nn, nn, nn, nn, nn, nn, nn, nn, nn, nn, nn, nn, nn, nn, nn, nn, nn, nn, nn, nn, nn, nn, nn, nn, nn, nn, nn, nn, nn] rfl rfl (by kernel_rfl) (fun _ _ _ h => h) (Or.inl ⟨by rfl, ?_⟩) hHeld ?_ ?_;rotate_left
      ·rintro w' ⟨s0, s1, s2, s3, s4, s5, s6⟩;go_simp;with_reducible rfl
      rotate_left
      ·simp only [nrm];rfl
      refine pure_ (i := 11) (N := some 98) (v := ?_) (a' := ?_) #[yy, yy, yy, yy, yy, yy, yy, yy, yy, yy, yy, yy, nn, nn, nn, nn, nn, nn, nn, nn, nn, nn, nn, nn, nn, nn, nn, nn, nn, nn, nn, nn, nn, nn, nn, nn, nn, nn, nn, nn, nn, nn, nn, nn, nn] rfl rfl (by kernel_rfl) (fun _ _ _ h => h) (Or.inl ⟨by rfl, ?_⟩) ?_ ?_;rotate_left
      ·intro w';go_simp;with_reducible rfl
      rotate_left
      ·simp only [nrm];rfl
      refine pure_ (i := 12) (N := some 99) (v := ?_) (a' := ?_) #[yy, yy, yy, yy, yy, yy, yy, yy, yy, yy, yy, yy, yy, nn, nn, nn, nn, nn, nn, nn, nn, nn, nn, nn, nn, nn, nn, nn, nn, nn, nn, nn, nn, nn, nn, nn, nn, nn, nn, nn, nn, nn, nn, nn, nn] rfl rfl (by kernel_rfl) (fun _ _ _ h => h) (Or.inl ⟨by rfl, ?_⟩) ?_ ?_;rotate_left
      ·intro w';go_simp;with_reducible rfl
      rotate_left
      ·simp only [nrm];rfl
      refine pure_ (i := 13) (N := some 100) (v := ?_) (a' := ?_) #[yy, yy, yy, yy, yy, yy, yy, yy, yy, yy, yy, yy, yy, yy, nn, nn, nn, nn, nn, nn, nn, nn, nn, nn, nn, nn, nn, nn, nn, nn, nn, nn, nn, nn, nn, nn, nn, nn, nn, nn, nn, nn, nn, nn, nn] rfl rfl (by kernel_rfl) (fun _ _ _ h => h) (Or.inl ⟨by rfl, ?_⟩) ?_ ?_;rotate_left
      ·intro w';go_simp;with_reducible rfl
      rotate_left
      ·simp only [nrm];rfl
      refine pure_ (i := 14) (N := some 101) (v := ?_) (a' := ?_) #[yy, yy, yy, yy, yy, yy, yy, yy, yy, yy, yy, yy, yy, yy, yy, nn, nn, nn, nn, nn, nn, nn, nn, nn, nn, nn, nn, nn, nn, nn, nn, nn, nn, nn, nn, nn, nn, nn, nn, nn, nn, nn, nn, nn, nn] rfl rfl (by kernel_rfl) (fun _ _ _ h => h) (Or.inl ⟨by rfl, ?_⟩) ?_ ?_;rotate_left
      ·intro w';go_simp;with_reducible rfl
      rotate_left
      ·simp only [nrm];rfl
      refine pure_ (i := 15) (N := some 102) (v := ?_) (a' := ?_) #[yy, yy, yy, yy, yy, yy, yy, yy, yy, yy, yy, yy, yy, yy, yy, yy, nn, nn, nn, nn, nn, nn, nn, nn, nn, nn, nn, nn, nn, nn, nn, nn, nn, nn, nn, nn, nn, nn, nn, nn, nn, nn, nn, nn, nn] rfl rfl (by kernel_rfl) (fun _ _ _ h => h) (Or.inl ⟨by rfl, ?_⟩) ?_ ?_;rotate_left
      ·intro w';go_simp;with_reducible rfl
      rotate_left
      ·simp only [nrm];rfl
      refine pure_ (i := 16) (N := some 103) (v := ?_) (a' := ?_) #[yy, yy, yy, yy, yy, yy, yy, yy, yy, yy, yy, yy, yy, yy, yy, yy, yy, nn, nn, nn, nn, nn, nn, nn, nn, nn, nn, nn, nn, nn, nn, nn, nn, nn, nn, nn, nn, nn, nn, nn, nn, nn, nn, nn, nn] rfl rfl (by kernel_rfl) (fun _ _ _ h => h) (Or.inl ⟨by rfl, ?_⟩) ?_ ?_;rotate_left
      ·intro w';go_simp;with_reducible rfl
      rotate_left
      ·simp only [nrm];rfl
      refine pure_ (i := 17) (N := some 104) (v := ?_) (a' := ?_) #[yy, yy, yy, yy, yy, yy, yy, yy, yy, yy, yy, yy, yy, yy, yy, yy, yy, yy, nn, nn, nn, nn, nn, nn, nn, nn, nn, nn, nn, nn, nn, nn, nn, nn, nn, nn, nn, nn, nn, nn, nn, nn, nn, nn, nn] rfl rfl (by kernel_rfl) (fun _ _ _ h => h) (Or.inl ⟨by rfl, ?_⟩) ?_ ?_;rotate_left
      ·intro w';go_simp;with_reducible rfl
      rotate_left
      ·simp only [nrm];rfl
      refine pure_ (i := 19) (N := some 106) (v := ?_) (a' := ?_) #[yy, yy, yy, yy, yy, yy, yy, yy, yy, yy, yy, yy, yy, yy, yy, yy, yy, yy, nn, yy, nn, nn, nn, nn, nn, nn, nn, nn, nn, nn, nn, nn, nn, nn, nn, nn, nn, nn, nn, nn, nn, nn, nn, nn, nn] rfl rfl (by kernel_rfl) (fun _ _ _ h => h) (Or.inl ⟨by rfl, ?_⟩) ?_ ?_;rotate_left
      ·intro w';go_simp;with_reducible rfl
      rotate_left
      ·simp only [nrm];rfl
      refine take_ (i := 18) (N := some 105) (v := ?_) (a' := ?_) #[yy, yy, yy, yy, yy, yy, yy, yy, yy, yy, yy, yy, yy, yy, yy, yy, yy, yy, yy, yy, nn, nn, nn, nn, nn, nn, nn, nn, nn, nn, nn, nn, nn, nn, nn, nn, nn, nn, nn, nn, nn, nn, nn, nn, nn] rfl rfl (by kernel_rfl) (fun _ _ _ h => h) (Or.inl ⟨by rfl, ?_⟩) hHeld ?_ ?_;rotate_left
      ·rintro w' ⟨s0, s1, s2, s3, s4, s5, s6⟩;go_simp;with_reducible rfl
      rotate_left
      ·simp only [nrm];rfl
      refine take_ (i := 20) (N := some 107) (v := ?_) (a' := ?_) #[yy, yy, yy, yy, yy, yy, yy, yy, yy, yy, yy, yy, yy, yy, yy, yy, yy, yy, yy, yy, yy, nn, nn, nn, nn, nn, nn, nn, nn, nn, nn, nn, nn, nn, nn, nn, nn, nn, nn, nn, nn, nn, nn, nn, nn] rfl rfl (by kernel_rfl) (fun _ _ _ h => h) (Or.inl ⟨by rfl, ?_⟩) hHeld ?_ ?_;rotate_left
      ·rintro w' ⟨s0, s1, s2, s3, s4, s5, s6⟩;have c0 : w'.cell? ⟨g13, 1, none⟩ = some (.int .i64 ((m : Int) + 1)) := (cell_of_row _ _ _ _ _ _ s4).trans HA0.out.2;go_simp;with_reducible rfl
      rotate_left
      ·simp only [nrm];rfl
      refine pure_ (i := 21) (N := some 108) (v := ?_) (a' := ?_) #[yy, yy, yy, yy, yy, yy, yy, yy, yy, yy, yy, yy, yy, yy, yy, yy, yy, yy, yy, yy, yy, yy, nn, nn, nn, nn, nn, nn, nn, nn, nn, nn, nn, nn, nn, nn, nn, nn, nn, nn, nn, nn, nn, nn, nn] rfl rfl (by kernel_rfl) (fun _ _ _ h => h) (Or.inl ⟨by rfl, ?_⟩) ?_ ?_;rotate_left
      ·intro w';go_simp;with_reducible rfl
      rotate_left
      ·simp only [nrm];rfl
      refine pure_ (i := 22) (N := some 109) (v := ?_) (a' := ?_) #[yy, yy, yy, yy, yy, yy, yy, yy, yy, yy, yy, yy, yy, yy, yy, yy, yy, yy, yy, yy, yy, yy, yy, nn, nn, nn, nn, nn, nn, nn, nn, nn, nn, nn, nn, nn, nn, nn, nn, nn, nn, nn, nn, nn, nn] rfl rfl (by kernel_rfl) (fun _ _ _ h => h) (Or.inl ⟨by rfl, ?_⟩) ?_ ?_;rotate_left
      ·intro w';go_simp;with_reducible rfl
      rotate_left
      ·simp only [nrm];rfl
      refine pure_ (i := 23) (N := some 110) (v := ?_) (a' := ?_) #[yy, yy, yy, yy, yy, yy, yy, yy, yy, yy, yy, yy, yy, yy, yy, yy, yy, yy, yy, yy, yy, yy, yy, yy, nn, nn, nn, nn, nn, nn, nn, nn, nn, nn, nn, nn, nn, nn, nn, nn, nn, nn, nn, nn, nn] rfl rfl (by kernel_rfl) (fun _ _ _ h => h) (Or.inl ⟨by rfl, ?_⟩) ?_ ?_;rotate_left
      ·intro w';go_simp;with_reducible rfl
      rotate_left
      ·simp only [nrm];rfl
      refine pure_ (i := 24) (N := some 111) (v := ?_) (a' := ?_) #[yy, yy, yy, yy, yy, yy, yy, yy, yy, yy, yy, yy, yy, yy, yy, yy, yy, yy, yy, yy, yy, yy, yy, yy, yy, nn, nn, nn, nn, nn, nn, nn, nn, nn, nn, nn, nn, nn, nn, nn, nn, nn, nn, nn, nn] rfl rfl (by kernel_rfl) (fun _ _ _ h => h) (Or.inl ⟨by rfl, ?_⟩) ?_ ?_;rotate_left
      ·intro w';go_simp;with_reducible rfl
      rotate_left
      ·simp only [nrm];rfl
      refine pure_ (i := 25) (N := some 112) (v := ?_) (a' := ?_) #[yy, yy, yy, yy, yy, yy, yy, yy, yy, yy, yy, yy, yy, yy, yy, yy, yy, yy, yy, yy, yy, yy, yy, yy, yy, yy, nn, nn, nn, nn, nn, nn, nn, nn, nn, nn, nn, nn, nn, nn, nn, nn, nn, nn, nn] rfl rfl (by kernel_rfl) (fun _ _ _ h => h) (Or.inl ⟨by rfl, ?_⟩) ?_ ?_;rotate_left
      ·intro w';go_simp;with_reducible rfl
      rotate_left
      ·simp only [nrm];rfl
      refine pure_ (i := 26) (N := some 113) (v := ?_) (a' := ?_) #[yy, yy, yy, yy, yy, yy, yy, yy, yy, yy, yy, yy, yy, yy, yy, yy, yy, yy, yy, yy, yy, yy, yy, yy, yy, yy, yy, nn, nn, nn, nn, nn, nn, nn, nn, nn, nn, nn, nn, nn, nn, nn, nn, nn, nn] rfl rfl (by kernel_rfl) (fun _ _ _ h => h) (Or.inl ⟨by rfl, ?_⟩) ?_ ?_;rotate_left
      ·intro w';go_simp;with_reducible rfl
      rotate_left
      ·simp only [nrm];rfl
      refine pure_ (i := 27) (N := some 114) (v := ?_) (a' := ?_) #[yy, yy, yy, yy, yy, yy, yy, yy, yy, yy, yy, yy, yy, yy, yy, yy, yy, yy, yy, yy, yy, yy, yy, yy, yy, yy, yy, yy, nn, nn, nn, nn, nn, nn, nn, nn, nn, nn, nn, nn, nn, nn, nn, nn, nn] rfl rfl (by kernel_rfl) (fun _ _ _ h => h) (Or.inl ⟨by rfl, ?_⟩) ?_ ?_;rotate_left
      ·intro w';go_simp;with_reducible rfl
      rotate_left
      ·simp only [nrm];rfl
      refine take_ (i := 28) (N := some 115) (v := ?_) (a' := ?_) #[yy, yy, yy, yy, yy, yy, yy, yy, yy, yy, yy, yy, yy, yy, yy, yy, yy, yy, yy, yy, yy, yy, yy, yy, yy, yy, yy, yy, yy, nn, nn, nn, nn, nn, nn, nn, nn, nn, nn, nn, nn, nn, nn, nn, nn] rfl rfl (by kernel_rfl) (fun _ _ _ h => h) (Or.inl ⟨by rfl, ?_⟩) hHeld ?_ ?_;rotate_left
      ·rintro w' ⟨s0, s1, s2, s3, s4, s5, s6⟩;have c0 : w'.cell? ⟨q17, l.length * 12 + 3, none⟩ = some (.bool p0) := s2 0 _ rfl;have c1 : w'.cell? ⟨q17, l.length * 12 + 3 + 1, none⟩ = some (.int .i64 p1) := s2 1 _ rfl;have c2 : w'.cell? ⟨q17, l.length * 12 + 3 + 2, none⟩ = some (.int .u64 p2) := s2 2 _ rfl;have c3 : w'.cell? ⟨q17, l.length * 12 + 3 + 3, none⟩ = some (.int .u64 p3) := s2 3 _ rfl;have c4 : w'.cell? ⟨q17, l.length * 12 + 3 + 4, none⟩ = some (.int .u64 p4) := s2 4 _ rfl;have c5 : w'.cell? ⟨q17, l.length * 12 + 3 + 5, none⟩ = some (.int .u64 p5) := s2 5 _ rfl;have c6 : w'.cell? ⟨q17, l.length * 12 + 3 + 6, none⟩ = some (.int .u64 p6) := s2 6 _ rfl;have c7 : w'.cell? ⟨q17, l.length * 12 + 3 + 7, none⟩ = some (.int .u64 p7) := s2 7 _ rfl;go_simp;with_reducible rfl
      rotate_left
      ·simp only [nrm];rfl
      refine take_ (i := 29) (N := some 116) (v := ?_) (a' := ?_) #[yy, yy, yy, yy, yy, yy, yy, yy, yy, yy, yy, yy, yy, yy, yy, yy, yy, yy, yy, yy, yy, yy, yy, yy, yy, yy, yy, yy, yy, yy, nn, nn, nn, nn, nn, nn, nn, nn, nn, nn, nn, nn, nn, nn, nn] rfl rfl (by kernel_rfl) (fun _ _ _ h => h) (Or.inl ⟨by rfl, ?_⟩) hHeld ?_ ?_;rotate_left
      ·rintro w' ⟨s0, s1, s2, s3, s4, s5, s6⟩;have c0 : w'.cell? ⟨g14, 0, none⟩ = some (.bool p0) := cell_of_row _ _ _ _ _ _ s5;have c1 : w'.cell? ⟨g14, 1, none⟩ = some (.int .i64 p1) := cell_of_row _ _ _ _ _ _ s5;have c2 : w'.cell? ⟨g14, 2, none⟩ = some (.int .u64 p2) := cell_of_row _ _ _ _ _ _ s5;have c3 : w'.cell? ⟨g14, 3, none⟩ = some (.int .u64 p3) := cell_of_row _ _ _ _ _ _ s5;have c4 : w'.cell? ⟨g14, 4, none⟩ = some (.int .u64 p4) := cell_of_row _ _ _ _ _ _ s5;have c5 : w'.cell? ⟨g14, 5, none⟩ = some (.int .u64 p5) := cell_of_row _ _ _ _ _ _ s5;have c6 : w'.cell? ⟨g14, 6, none⟩ = some (.int .u64 p6) := cell_of_row _ _ _ _ _ _ s5;have c7 : w'.cell? ⟨g14, 7, none⟩ = some (.int .u64 p7) := cell_of_row _ _ _ _ _ _ s5;go_simp;with_reducible rfl
      rotate_left
      ·simp only [nrm];rfl
      refine pure_ (i := 30) (N := some 117) (v := ?_) (a' := ?_) #[yy, yy, yy, yy, yy, yy, yy, yy, yy, yy, yy, yy, yy, yy, yy, yy, yy, yy, yy, yy, yy, yy, yy, yy, yy, yy, yy, yy, yy, yy, yy, nn, nn, nn, nn, nn, nn, nn, nn, nn, nn, nn, nn, nn, nn] rfl rfl (by kernel_rfl) (fun _ _ _ h => h) (Or.inl ⟨by rfl, ?_⟩) ?_ ?_;rotate_left
      ·intro w';go_simp;with_reducible rfl
      rotate_left
      ·simp only [nrm];rfl
      refine pure_ (i := 31) (N := some 118) (v := ?_) (a' := ?_) #[yy, yy, yy, yy, yy, yy, yy, yy, yy, yy, yy, yy, yy, yy, yy, yy, yy, yy, yy, yy, yy, yy, yy, yy, yy, yy, yy, yy, yy, yy, yy, yy, nn, nn, nn, nn, nn, nn, nn, nn, nn, nn, nn, nn, nn] rfl rfl (by kernel_rfl) (fun _ _ _ h => h) (Or.inl ⟨by rfl, ?_⟩) ?_ ?_;rotate_left
      ·intro w';go_simp;with_reducible rfl
      rotate_left
      ·simp only [nrm];rfl
      refine pure_ (i := 32) (N := some 119) (v := ?_) (a' := ?_) #[yy, yy, yy, yy, yy, yy, yy, yy, yy, yy, yy, yy, yy, yy, yy, yy, yy, yy, yy, yy, yy, yy, yy, yy, yy, yy, yy, yy, yy, yy, yy, yy, yy, nn, nn, nn, nn, nn, nn, nn, nn, nn, nn, nn, nn] rfl rfl (by kernel_rfl) (fun _ _ _ h => h) (Or.inl ⟨by rfl, ?_⟩) ?_ ?_;rotate_left
      ·intro w';go_simp;with_reducible rfl
      rotate_left
      ·simp only [nrm];rfl
      refine pure_ (i := 33) (N := some 120) (v := ?_) (a' := ?_) #[yy, yy, yy, yy, yy, yy, yy, yy, yy, yy, yy, yy, yy, yy, yy, yy, yy, yy, yy, yy, yy, yy, yy, yy, yy, yy, yy, yy, yy, yy, yy, yy, yy, yy, nn, nn, nn, nn, nn, nn, nn, nn, nn, nn, nn] rfl rfl (by kernel_rfl) (fun _ _ _ h => h) (Or.inl ⟨by rfl, ?_⟩) ?_ ?_;rotate_left
      ·intro w';go_simp;with_reducible rfl
      rotate_left
      ·simp only [nrm];rfl
      refine pure_ (i := 34) (N := some 121) (v := ?_) (a' := ?_) #[yy, yy, yy, yy, yy, yy, yy, yy, yy, yy, yy, yy, yy, yy, yy, yy, yy, yy, yy, yy, yy, yy, yy, yy, yy, yy, yy, yy, yy, yy, yy, yy, yy, yy, yy, nn, nn, nn, nn, nn, nn, nn, nn, nn, nn] rfl rfl (by kernel_rfl) (fun _ _ _ h => h) (Or.inl ⟨by rfl, ?_⟩) ?_ ?_;rotate_left
      ·intro w';go_simp;with_reducible rfl
      rotate_left
      ·simp only [nrm];rfl
      refine pure_ (i := 35) (N := some 122) (v := ?_) (a' := ?_) #[yy, yy, yy, yy, yy, yy, yy, yy, yy, yy, yy, yy, yy, yy, yy, yy, yy, yy, yy, yy, yy, yy, yy, yy, yy, yy, yy, yy, yy, yy, yy, yy, yy, yy, yy, yy, nn, nn, nn, nn, nn, nn, nn, nn, nn] rfl rfl (by kernel_rfl) (fun _ _ _ h => h) (Or.inl ⟨by rfl, ?_⟩) ?_ ?_;rotate_left
      ·intro w';go_simp;with_reducible rfl
      rotate_left
      ·simp only [nrm];rfl
      refine pure_ (i := 36) (N := some 123) (v := ?_) (a' := ?_) #[yy, yy, yy, yy, yy, yy, yy, yy, yy, yy, yy, yy, yy, yy, yy, yy, yy, yy, yy, yy, yy, yy, yy, yy, yy, yy, yy, yy, yy, yy, yy, yy, yy, yy, yy, yy, yy, nn, nn, nn, nn, nn, nn, nn, nn] rfl rfl (by kernel_rfl) (fun _ _ _ h => h) (Or.inl ⟨by rfl, ?_⟩) ?_ ?_;rotate_left
      ·intro w';go_simp;with_reducible rfl
      rotate_left
      ·simp only [nrm];rfl
      refine take_ (i := 37) (N := some 124) (v := ?_) (a' := ?_) #[yy, yy, yy, yy, yy, yy, yy, yy, yy, yy, yy, yy, yy, yy, yy, yy, yy, yy, yy, yy, yy, yy, yy, yy, yy, yy, yy, yy, yy, yy, yy, yy, yy, yy, yy, yy, yy, yy, nn, nn, nn, nn, nn, nn, nn] rfl rfl (by kernel_rfl) (fun _ _ _ h => h) (Or.inl ⟨by rfl, ?_⟩) hHeld ?_ ?_;rotate_left
      ·rintro w' ⟨s0, s1, s2, s3, s4, s5, s6⟩;go_simp;with_reducible rfl
      rotate_left
      ·simp only [nrm];rfl
      refine pure_ (i := 38) (N := some 125) (v := ?_) (a' := ?_) #[yy, yy, yy, yy, yy, yy, yy, yy, yy, yy, yy, yy, yy, yy, yy, yy, yy, yy, yy, yy, yy, yy, yy, yy, yy, yy, yy, yy, yy, yy, yy, yy, yy, yy, yy, yy, yy, yy, yy, nn, nn, nn, nn, nn, nn] rfl rfl (by kernel_rfl) (fun _ _ _ h => h) (Or.inl ⟨by rfl, ?_⟩) ?_ ?_;rotate_left
      ·intro w';go_simp;with_reducible rfl
      rotate_left
      ·simp only [nrm];rfl
      refine pure_ (i := 39) (N := some 126) (v := ?_) (a' := ?_) #[yy, yy, yy, yy, yy, yy, yy, yy, yy, yy, yy, yy, yy, yy, yy, yy, yy, yy, yy, yy, yy, yy, yy, yy, yy, yy, yy, yy, yy, yy, yy, yy, yy, yy, yy, yy, yy, yy, yy, yy, nn, nn, nn, nn, nn] rfl rfl (by kernel_rfl) (fun _ _ _ h => h) (Or.inl ⟨by rfl, ?_⟩) ?_ ?_;rotate_left
      ·intro w';go_simp;with_reducible rfl
      rotate_left
      ·simp only [nrm];rfl
      refine pure_ (i := 40) (N := some 127) (v := ?_) (a' := ?_) #[yy, yy, yy, yy, yy, yy, yy, yy, yy, yy, yy, yy, yy, yy, yy, yy, yy, yy, yy, yy, yy, yy, yy, yy, yy, yy, yy, yy, yy, yy, yy, yy, yy, yy, yy, yy, yy, yy, yy, yy, yy, nn, nn, nn, nn] rfl rfl (by kernel_rfl) (fun _ _ _ h => h) (Or.inl ⟨by rfl, ?_⟩) ?_ ?_;rotate_left
      ·intro w';go_simp;with_reducible rfl
      rotate_left
      ·simp only [nrm];rfl
      refine pure_ (i := 41) (N := some 128) (v := ?_) (a' := ?_) #[yy, yy, yy, yy, yy, yy, yy, yy, yy, yy, yy, yy, yy, yy, yy, yy, yy, yy, yy, yy, yy, yy, yy, yy, yy, yy, yy, yy, yy, yy, yy, yy, yy, yy, yy, yy, yy, yy, yy, yy, yy, yy, nn, nn, nn] rfl rfl (by kernel_rfl) (fun _ _ _ h => h) (Or.inl ⟨by rfl, ?_⟩) ?_ ?_;rotate_left
      ·intro w';go_simp;with_reducible rfl
      rotate_left
      ·simp only [nrm];rfl
      refine take_ (i := 42) (N := some 129) (v := ?_) (a' := ?_) #[yy, yy, yy, yy, yy, yy, yy, yy, yy, yy, yy, yy, yy, yy, yy, yy, yy, yy, yy, yy, yy, yy, yy, yy, yy, yy, yy, yy, yy, yy, yy, yy, yy, yy, yy, yy, yy, yy, yy, yy, yy, yy, yy, nn, nn] rfl rfl (by kernel_rfl) (fun _ _ _ h => h) (Or.inl ⟨by rfl, ?_⟩) hHeld ?_ ?_;rotate_left
      ·rintro w' ⟨s0, s1, s2, s3, s4, s5, s6⟩;have c0 : w'.cell? ⟨g13, 1, none⟩ = some (.int .i64 ((m : Int) + 1)) := (cell_of_row _ _ _ _ _ _ s4).trans HA0.out.2;go_simp;with_reducible rfl
      rotate_left
      ·simp only [nrm];rfl
      refine pure_ (i := 43) (N := some 130) (v := ?_) (a' := ?_) #[yy, yy, yy, yy, yy, yy, yy, yy, yy, yy, yy, yy, yy, yy, yy, yy, yy, yy, yy, yy, yy, yy, yy, yy, yy, yy, yy, yy, yy, yy, yy, yy, yy, yy, yy, yy, yy, yy, yy, yy, yy, yy, yy, yy, nn] rfl rfl (by kernel_rfl) (fun _ _ _ h => h) (Or.inl ⟨by rfl, ?_⟩) ?_ ?_;rotate_left
      ·intro w';go_simp;with_reducible rfl
      rotate_left
      ·simp only [nrm];rfl
      refine pure_ (i := 44) (N := some 131) (v := ?_) (a' := ?_) #[yy, yy, yy, yy, yy, yy, yy, yy, yy, yy, yy, yy, yy, yy, yy, yy, yy, yy, yy, yy, yy, yy, yy, yy, yy, yy, yy, yy, yy, yy, yy, yy, yy, yy, yy, yy, yy, yy, yy, yy, yy, yy, yy, yy, yy] rfl rfl (by kernel_rfl) (fun _ _ _ h => h) (Or.inl ⟨by rfl, ?_⟩) ?_ ?_;rotate_left
      ·intro w';go_simp;with_reducible rfl
      rotate_left
      ·simp only [nrm];rfl
      refine done_ (by kernel_rfl) ?_;obtain ⟨-, -, -, -, -, -, hbz⟩ := hHeld;have HIZ := Lib.hid (Kd.R_below HI10.out hbz);have HBZ := Lib.hid (below_of_le HB10.out hbz);clear hbz hk0 hk1 hk3 hk11 hx13 hx14 HI10 HB10;go_wp2_with fail
      refine ⟨⟨i + 1, by push_cast; rfl, by omega, by rw [HGM2.out], Lib.hid (by rw [HGM2.out]; exact HIZ.out), HBZ⟩, by simp [intOf]; omega⟩
    ·obtain rfl : i = l.length := by omega
     have hd : decide ((l.length : Int) < l.length) = false := decide_eq_false (by omega);have htk : gotsT b ((addsOf l).take l.length) = gotsT b (addsOf l) := by rw [List.take_of_length_le (by rw [hTL]; exact Nat.le_refl _)]
     obtain ⟨M, hM⟩ : ∃ M, M = (gotsT b (addsOf l)).length := ⟨_, rfl⟩
     rw [htk, ← hM] at HI ⊢
     have hM20 : M ≤ 20 := by omega
     have hT1 : (addsOf l ++ [(⟨2, ⟨#[]⟩, 0⟩ : Step)]).length = n1 := by rw [List.length_append, hTL, HN1.out]; rfl
     have hT2 : (addsOf l ++ [(⟨2, ⟨#[]⟩, 0⟩ : Step)] ++ [(⟨3, ⟨#[]⟩, x⟩ : Step)]).length = n2 := by rw [List.length_append, hT1, HN1.out, HN2.out]; rfl
     have HT2 := Lib.hid hT2;have HL32 : Hid (((addsOf l ++ [(⟨2, ⟨#[]⟩, 0⟩ : Step)]).length + 1) * 32 ≤ 140737488355328) := Lib.hid (by rw [hT1, HN1.out]; omega);have HO8b := Lib.hid (Kd.R_below HO8.out HB.out);have HB8 := Lib.hid (below_of_le HB52.out HB.out)
     have HTO2 : Hid (∀ y ∈ addsOf l ++ [(⟨2, ⟨#[]⟩, 0⟩ : Step)] ++ [(⟨3, ⟨#[]⟩, x⟩ : Step)], StepOk y) := Lib.hid fun y hy => by
      rcases List.mem_append.1 hy with hy | hy
      ·rcases List.mem_append.1 hy with hy | hy
       ·exact HTO.out y hy
       ·rw [List.mem_singleton] at hy;subst hy;exact .inr (.inl rfl)
      ·rw [List.mem_singleton] at hy;subst hy;exact .inr (.inr rfl)
     have hlist := scriptA_get b (addsOf l ++ [(⟨2, ⟨#[]⟩, 0⟩ : Step)] ++ [(⟨3, ⟨#[]⟩, x⟩ : Step)]) [] l.length (by rw [hT2, HN2.out]; omega);rw [List.nil_append, show (addsOf l ++ [(⟨2, ⟨#[]⟩, 0⟩ : Step)] ++ [(⟨3, ⟨#[]⟩, x⟩ : Step)]).take l.length = addsOf l from by rw [List.append_assoc, ← hTL, List.take_left], show (addsOf l ++ [(⟨2, ⟨#[]⟩, 0⟩ : Step)] ++ [(⟨3, ⟨#[]⟩, x⟩ : Step)])[l.length]'(by rw [hT2, HN2.out]; omega) = ⟨2, ⟨#[]⟩, 0⟩ from by simp [hTL], list_ans, ← hM] at hlist;have hask := script_last b (addsOf l ++ [(⟨2, ⟨#[]⟩, 0⟩ : Step)]) (⟨3, ⟨#[]⟩, x⟩ : Step);rw [gots_list, hT1] at hask;have hok := ask_ok b (gotsT b (addsOf l)) ⟨#[]⟩ x;rw [← hM] at hok;generalize stepA b (gotsT b (addsOf l)) ⟨3, ⟨#[]⟩, x⟩ = an at *;have HN2L := Lib.hid (show n2 ≤ 900 by rw [HN2.out]; omega);have hq2 : ((n2 : Int) == (l.length : Int) + 2) = true := by rw [beq_iff_eq, HN2.out]; rfl
     have HLI := Lib.hid hlist;have HAS := Lib.hid hask;have HOK := Lib.hid hok;clear hlist hask hok htk hT1 hT2 HN2 hML hM HAL HAD HC;go_wp2_with ((with_reducible refine gate_builtin (b := .append) (xs := #[.tmp 134, .tmp 137]) rfl ?_); at_builtin; refine Kd.R_append k41 (w0 := w2) w2.heap.size rfl (.tmp 134) (.tmp 137) 36 41 (.agg #[.int .i64 0, .string ⟨#[]⟩, .int .i64 0]) 32 rfl Tryz.underlying36 info41 rfl (by decide) (by omega) v8 (addsOf l ++ [(⟨2, ⟨#[]⟩, 0⟩ : Step)]) (⟨3, ⟨#[]⟩, x⟩ : Step) [.int .i64 3, .string ⟨#[]⟩, .int .i64 x] (fun _ => True) (fun _ => False) rfl rfl ?aP ?aO ?aF ?aR ?aB ?aS ?aL ?_; (case aP => exact k41_mkM _ _ _ (⟨3, ⟨#[]⟩, x⟩ : Step)); (case aO => exact fun k hk => hk.elim); (case aF => exact fun _ _ => trivial); (case aR => exact HO8b.out); (case aB => exact HB8.out); (case aS => exact HB8.out.size); (case aL => exact HL32.out); intro v18 w7 ho hb hg hat; have HI7 := Lib.hid (R_grown_ty HI.out HO8b.out hg (by decide)); have HO18 := Lib.hid ho; have HB7 := Lib.hid (below_of_le HB2.out hb); clear ho hb hg hat)
     refine (HCS.out _ (by rw [HT2.out]; exact HN2L.out) HTO2.out _ w7 (HGA.out w7 HB7.out) _ _ HO18.out).mono ?_;rintro e w8 ⟨v19, rfl, hR8, hb8⟩;obtain ⟨q18, cc18, A18, c18, hv18, -, hrg18, hc18, hC18⟩ := ans_at hR8 l.length _ HLI.out;obtain ⟨q20, cc20, A20, c20, hv20, -, hrg20, -, -⟩ := ans_at hR8 n1 _ HAS.out;rw [scriptA_len, HT2.out] at hv18 hv20
     subst hv18;simp only [Value.slice.injEq, Option.some.injEq, Addr.mk.injEq, and_true, true_and] at hv20;obtain ⟨rfl, rfl⟩ := hv20;have hk2 : w8.cell? ⟨q18, l.length * 12 + 2, none⟩ = some (.slice A18 (idsI M).length c18) := hrg18 2 _ rfl;have hk0 : w8.cell? ⟨q18, n1 * 12, none⟩ = some (.bool (isIn x M)) := by rw [← HOK.out]; exact hrg20 0 _ rfl
     have HB8b := Lib.hid (below_of_le HB7.out hb8);obtain ⟨A10, c10, hv10, hc10, hC10⟩ := Kd.R_reads (Kd.R_below HI7.out hb8);subst hv10;have HAK := Lib.hid (fun w' h1 h2 => laws_entriesAlike.calls 500 A18 c18 (idsI M) A10 c10 (idsI M) true w' h1 hc18 h2 hc10 (alike_f M hM20));have HC18 := Lib.hid hC18;have HC10 := Lib.hid hC10;clear hR8 hb8 hrg18 hrg20 hC18 hC10 HI7 HI HO18 HO8b HO8 HR9b hc18 hc10;go_wp2_with fail
     refine (HAK.out w8 HC18.out HC10.out).mono ?_;rintro e w9 ⟨rfl, hd9⟩;have hk0b := (hd9.below.cell (World.block_lt_of_cell? _ _ hk0)).trans hk0;have hk0c : w9.cell? ⟨q18, (l.length + 1) * 12, none⟩ = some (.bool (isIn x M)) := by rw [← HN1.out]; exact hk0b
     have HB9 := Lib.hid (below_of_le HB8b.out hd9.below);clear hd9 hk0 hk2 hk0b HAK HC18 HC10;go_wp2_with fail
     go_ret;exact ⟨rfl, HB9.out⟩
end Go.Proofs.YtmecbmgfacpecaaGreatDoor.Scr
namespace Go.Proofs.YtmecbmgfacpecaaGreatDoor.Cron
open Go Go.RowKit Go.Proofs.YtmecbmgfacpecaaGreatDoor.Cal
theorem tLead : (Tryz.prog.globals[4]?).map (·.type) = some 112 := by kernel_rfl
theorem tLocation : (Tryz.prog.globals[0]?).map (·.type) = some 112 := by kernel_rfl
def u8ren : Go.Shelf.Ren := ⟨fun n => n, fun | 5 => 5 | 119 => 323 | 138 => 325 | 139 => 326 | n => n, fun | 3 => 2 | 4 => 3 | n => n⟩
theorem u8types : Go.Proofs.U8Types Tryz.prog u8ren := ⟨Tryz.underlying5, Tryz.underlying323, Tryz.underlying325, Tryz.underlying326⟩
theorem u8extra : Go.Proofs.U8Extra Tryz.prog u8ren := ⟨by kernel_rfl, by kernel_rfl, by kernel_rfl, by kernel_rfl, by kernel_rfl, by kernel_rfl, by kernel_rfl⟩
theorem pinned_first : Go.Pinned.utf8First = Lib.firstData := by kernel_rfl
theorem gu_of_met {laid : List (String × DataW Unit)} {w : World} (h : laidMet Tryz.prog laid w) (h1 : ("unicode/utf8.first", Go.Pinned.utf8First) ∈ laid) (h2 : ("unicode/utf8.acceptRanges", Lib.acceptData) ∈ laid) : GU w := by
 rw [pinned_first] at h1;exact Go.Proofs.utf8Tabs_of_readsT u8types u8extra (Lib.laidMet.reads h h1) (Lib.laidMet.reads h h2)
theorem accept_same : (Rows.laid_unicode_utf8_acceptRanges : DataW Unit) = Lib.acceptData := by kernel_rfl
theorem ga_of_met {laid : List (String × DataW Unit)} {w : World} {n1 n2 n3 n4 : String} {d1 d2 d3 d4 : DataW Unit} (h : laidMet Tryz.prog laid w) (h1 : ("strconv.ErrSyntax", DataW.iface n1 d1) ∈ laid) (h2 : ("strconv.ErrRange", DataW.iface n2 d2) ∈ laid)
  (h3 : ("pub-timebook/pub/gotime.errLeadingInt", DataW.iface n3 d3) ∈ laid) (h4 : ("pub-timebook/pub/gotime.errLocation", DataW.iface n4 d4) ∈ laid) (h5 : ("unicode/utf8.first", Go.Pinned.utf8First) ∈ laid) (h6 : ("unicode/utf8.acceptRanges", (Rows.laid_unicode_utf8_acceptRanges : DataW Unit)) ∈ laid) : GA w :=
 ⟨g_of_met h h1 h2, sentinel_reads gLead tLead Tryz.underlying112 (Lib.laidMet.reads h h3), sentinel_reads gLocation tLocation Tryz.underlying112 (Lib.laidMet.reads h h4), gu_of_met h h5 (by rw [← accept_same]; exact h6)⟩
theorem ent_walk (a0 : Bool) (A : Option Addr) (l : List ByteArray) (c : Nat) (x : Int) (wx : (Lit.int .i64 x).wf = true) (W : World) (hL : laidMetH Tryz.prog Rows.fnCronEntriesRow.laid W) (hk : l.length ≤ c ∧ Go.Proofs.YtmecbmgfacpecaaGreatDoorW.PrintWords.Kd.C Go.Proofs.YtmecbmgfacpecaaGreatDoorW.PrintWords.Kd.string W A l.length l) :
  Calls Tryz.prog 4 #[.bool a0, .slice A l.length c, .int .i64 x] W fun e w' => e = .returned (.bool true) ∧ Below W.heap.size W w' := by
 rw [MakeChecks.laidMetH_plain _ _ _ (by kernel_rfl)] at hL;exact Scr.lawEnt_any a0 A c l x W (ga_of_met hL (by first | exact List.mem_of_getElem? (i := 0) rfl | exact List.mem_of_getElem? (i := 1) rfl | exact List.mem_of_getElem? (i := 2) rfl | exact List.mem_of_getElem? (i := 3) rfl | exact List.mem_of_getElem? (i := 4) rfl | exact List.mem_of_getElem? (i := 5) rfl | exact List.mem_of_getElem? (i := 6) rfl | exact List.mem_of_getElem? (i := 7) rfl | exact List.mem_of_getElem? (i := 8) rfl | exact List.mem_of_getElem? (i := 9) rfl) (by first | exact List.mem_of_getElem? (i := 0) rfl | exact List.mem_of_getElem? (i := 1) rfl | exact List.mem_of_getElem? (i := 2) rfl | exact List.mem_of_getElem? (i := 3) rfl | exact List.mem_of_getElem? (i := 4) rfl | exact List.mem_of_getElem? (i := 5) rfl | exact List.mem_of_getElem? (i := 6) rfl | exact List.mem_of_getElem? (i := 7) rfl | exact List.mem_of_getElem? (i := 8) rfl | exact List.mem_of_getElem? (i := 9) rfl) (by first | exact List.mem_of_getElem? (i := 0) rfl | exact List.mem_of_getElem? (i := 1) rfl | exact List.mem_of_getElem? (i := 2) rfl | exact List.mem_of_getElem? (i := 3) rfl | exact List.mem_of_getElem? (i := 4) rfl | exact List.mem_of_getElem? (i := 5) rfl | exact List.mem_of_getElem? (i := 6) rfl | exact List.mem_of_getElem? (i := 7) rfl | exact List.mem_of_getElem? (i := 8) rfl | exact List.mem_of_getElem? (i := 9) rfl) (by first | exact List.mem_of_getElem? (i := 0) rfl | exact List.mem_of_getElem? (i := 1) rfl | exact List.mem_of_getElem? (i := 2) rfl | exact List.mem_of_getElem? (i := 3) rfl | exact List.mem_of_getElem? (i := 4) rfl | exact List.mem_of_getElem? (i := 5) rfl | exact List.mem_of_getElem? (i := 6) rfl | exact List.mem_of_getElem? (i := 7) rfl | exact List.mem_of_getElem? (i := 8) rfl | exact List.mem_of_getElem? (i := 9) rfl) (by first | exact List.mem_of_getElem? (i := 0) rfl | exact List.mem_of_getElem? (i := 1) rfl | exact List.mem_of_getElem? (i := 2) rfl | exact List.mem_of_getElem? (i := 3) rfl | exact List.mem_of_getElem? (i := 4) rfl | exact List.mem_of_getElem? (i := 5) rfl | exact List.mem_of_getElem? (i := 6) rfl | exact List.mem_of_getElem? (i := 7) rfl | exact List.mem_of_getElem? (i := 8) rfl | exact List.mem_of_getElem? (i := 9) rfl) (by first | exact List.mem_of_getElem? (i := 0) rfl | exact List.mem_of_getElem? (i := 1) rfl | exact List.mem_of_getElem? (i := 2) rfl | exact List.mem_of_getElem? (i := 3) rfl | exact List.mem_of_getElem? (i := 4) rfl | exact List.mem_of_getElem? (i := 5) rfl | exact List.mem_of_getElem? (i := 6) rfl | exact List.mem_of_getElem? (i := 7) rfl | exact List.mem_of_getElem? (i := 8) rfl | exact List.mem_of_getElem? (i := 9) rfl)) hk.2 hk.1
end Go.Proofs.YtmecbmgfacpecaaGreatDoor.Cron
