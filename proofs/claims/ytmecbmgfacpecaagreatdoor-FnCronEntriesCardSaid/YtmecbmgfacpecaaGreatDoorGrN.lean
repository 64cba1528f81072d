/- Lemmas and walks on the way to the law, merged by wip/tools/pack.py: EntA, EntB. Conditions: none. -/
import Derived.Test.YtmecbmgfacpecaaGreatDoorGrJ
import Derived.Test.YtmecbmgfacpecaaGreatDoorGrM
set_option linter.unusedVariables false
set_option linter.unusedSimpArgs false
namespace Go.Proofs.YtmecbmgfacpecaaGreatDoor.Scr
open Go Go.RowKit Go.Proofs.YtmecbmgfacpecaaGreatDoor.Sched Go.Proofs.YtmecbmgfacpecaaGreatDoorW.PrintWords Go.Proofs.YtmecbmgfacpecaaGreatDoorW.PrintLast Go.Proofs.YtmecbmgfacpecaaGreatDoor.Pr
open Go.Proofs.YtmecbmgfacpecaaGreatDoor.Text
open Go.Proofs.YtmecbmgfacpecaaGreatDoor.Cron (zoneZ spaceIn spaceIn_mem SaysM zeroM zeroM_size zeroM_one zeroM_row run_alloc_M sizeM results_M wpList_build_M parseAskP_any noAnswer_any zoneHead_any twoB)
def MeanRow (w : World) (g : Nat) : Prop := w.heap[g]? = some (.cells zeroM 99 (0, 0))
theorem MeanRow.below {w w' : World} {g : Nat} (h : MeanRow w g) (hb : Below w.heap.size w w') : MeanRow w' g := (hb.block g (Array.getElem?_eq_some_iff.1 h).1).trans h
theorem meanRow_of {B : Nat} {wo W : World} (h : Below B wo W) : MeanRow (W.alloc (.cells zeroM 99)) W.heap.size := heap_alloc_new W _
theorem exec_alloc_M (ev : Operand → Value) (oi : Oper) (w : World) (ho : oi.op = .alloc 99) :
  (execOp ev oi).run Tryz.prog w = .ok (.value (.pointer (some ⟨w.heap.size, 0, none⟩))) (w.alloc (.cells zeroM 99)) := by
 have := run_alloc_M w;unfold execOp;rw [ho];simp only [Sem.run_bind, Sem.run_pure, Result.andThen_ok, this]
set_option maxRecDepth 100000 in
theorem parseAsk_any (o : Nat) (ho : o < 512) (h2 : twoB o = false) (l : List UInt8) (hl : l.length ≤ 4294967296) (w : World) :
  Calls Tryz.prog 43 #[.int .i64 o, .string (ba l)] w fun e w' => (∃ (cs : Array Value) (v : Int), e = .returned (.tuple #[.agg cs, .int .i64 v]) ∧ cs.size = 387 ∧ cs.all (·.oneCell') = true ∧ (v ≠ 2 → zoneZ (ba l) ≠ 0 → (32 : UInt8) ∈ l)) ∧ Below w.heap.size w w' := by
 by_cases hsp : zoneZ (ba l) ≠ 0 → (32 : UInt8) ∈ l
 ·refine (parseAskP_any o ho h2 l hl hsp w).mono ?_;rintro e w' ⟨rr, ⟨cs, v, rfl, hn, h1, -⟩, hb⟩;exact ⟨⟨cs, v, rfl, hn, h1, fun _ => hsp⟩, hb⟩
 ·have hz : zoneZ (ba l) ≠ 0 := fun h => hsp (fun h' => absurd h h')
  have hno : (32 : UInt8) ∉ l := fun h => hsp (fun _ => h)
  have hin : spaceIn (ba l) = false := by
   cases h : spaceIn (ba l) with
   | false => rfl
   | true =>
    have := spaceIn_mem h;rw [ba_list] at this;exact absurd this hno
  have HZ := Lib.hid (fun w' => zoneHead_any (ba l) w');have HNA := Lib.hid (fun w' => noAnswer_any l hl w');rw [hin, show decide (0 < zoneZ (ba l)) = true from decide_eq_true (by omega)] at HNA;have hzne : (((zoneZ (ba l) : Nat) : Int) == 0) = false := by rw [beq_eq_false_iff_ne]; omega
  have hal := run_alloc_M;have HR0 := Lib.hid (zeroM_row w);have HB0 : Hid (Below w.heap.size w (w.alloc (.cells zeroM 99))) := Lib.hid ((Below.refl _ _).alloc (Nat.le_refl _) _);clear hsp hz hno hin hl h2;generalize zoneZ (ba l) = z at *;generalize ba l = s at *;go_enter Tryz.func43, Tryz.ntmps43;go_wp2_with fail
  refine (HZ.out _).mono ?_;rintro e w1 ⟨rfl, hb1⟩;have HR1 := Lib.hid (HR0.out.below hb1);have HB1 := Lib.hid (below_of_le HB0.out hb1);clear HR0 HB0 hb1 HZ;go_wp2_with fail
  refine (HNA.out _).mono ?_;rintro e w2 ⟨rfl, hb2⟩;obtain ⟨ca, hca, hna, h1a⟩ := HR1.out.below hb2;have HB2 := Lib.hid (below_of_le HB1.out hb2);clear HR1 HB1 hb2 HNA;go_wp2_with (first | (refine wpList_build_M rfl rfl ?_) | (refine wpList_store_row rfl 99 _ _ rfl w.heap.size zeroM rfl rfl _ _ hca (by rw [sizeM, zeroM_size]) (by rw [hna, zeroM_size]) zeroM_one ?_))
  refine bodyPost_ret (v := .tuple #[.agg zeroM, .int .i64 2]) ?_ rfl ?_
  ·exact results_M (fn := Tryz.f43) (p := 4) (u := 5) rfl _ _ w.heap.size _ zeroM_size rfl (setRow_heap _ _ _ _ _ _ hca)
  exact ⟨⟨zeroM, 2, rfl, zeroM_size, zeroM_one, fun h => absurd rfl h⟩, below_setRow HB2.out (by omega) _⟩
def Asked (s : ByteArray) : Prop := zoneZ s ≠ 0 → (32 : UInt8) ∈ s.data.toList
def AskAns (P : Prop) (w : World) (e : Ending) (w' : World) : Prop := ∃ r, e = .returned (.bool r) ∧ (r = true → P) ∧ Below w.heap.size w w'
set_option maxRecDepth 100000 in
set_option maxHeartbeats 4000000 in
theorem asked_any (b : Bool) (T : List Step) (hT : T.length ≤ 1000) (hok : ∀ x ∈ T, x.f0 = 0 ∧ x.f1.size ≤ 4294967296) (v0 : Value) (w : World) (base0 : Nat) (ok0 : Nat → Prop) (h0 : k41.R 41 w base0 ok0 v0 T) :
  Calls Tryz.prog 48 #[.bool b, v0] w (AskAns (∀ x ∈ T, Asked x.f1) w) := by
 obtain ⟨A, cap, rfl⟩ := Kd.R_slice h0;have HST := Lib.hid (fun i hi => step_at h0 i hi);have HOK := Lib.hid hok;have HEO := Lib.hid (fun w' => spec_CronEntryOptions.calls b (optN b : Nat) w' (by cases b <;> rfl));have hal := run_alloc_M;clear h0 hok;go_enter Tryz.func48, Tryz.ntmps48;go_wp2_with fail
 go_loopw [11] (fun v11 wr => ∃ i : Nat, v11 = .int .i64 i ∧ i ≤ T.length ∧ Hid (∀ j, j < i → Asked (T.getD j z41).f1) ∧ Hid (Below w.heap.size w wr)) (fun v11 _ => T.length - (intOf v11).toNat)
 case atStart => exact ⟨0, rfl, by omega, Lib.hid (fun j hj => by omega), Lib.hid (Below.refl _ _)⟩
 case round =>
  obtain ⟨i, rfl, hi, HA, HB⟩ := hrel;obtain ⟨wp, hwp⟩ : ∃ wp, wp = wr := ⟨_, rfl⟩
  subst hwp;by_cases hiL : i < T.length
  ·obtain ⟨q, cq, hv, hql, hrg⟩ := HST.out i hiL;simp only [Value.slice.injEq] at hv;obtain ⟨rfl, -, rfl⟩ := hv;have HRG := Lib.hid (rangeAt_belowS hrg HB.out hql);have hil : (i : Int) < T.length := by omega
   have hi0 : (0 : Int) ≤ i := by omega
   have hd : decide ((i : Int) < T.length) = true := decide_eq_true hil;have hk := HOK.out (T.getD i z41) (by rw [List.getD, List.getElem?_eq_getElem hiL]; exact List.getElem_mem hiL)
   have HAN : Hid (Asked (T.getD i z41).f1 → ∀ j, j < i + 1 → Asked (T.getD j z41).f1) := Lib.hid fun h j hj => by
    by_cases hji : j < i
    ·exact HA.out j hji
    ·obtain rfl : j = i := by omega
     exact h
   have hkeep : ∀ o, (optN b : Nat) = o → Cron.twoB o = false := by rintro o rfl; cases b <;> rfl
   have hlt512 : optN b < 512 := by cases b <;> decide
   have hto := hkeep _ rfl;clear hrg hql hkeep;generalize T.getD i z41 = x at *;obtain ⟨f0, f1, f2⟩ := x;dsimp only at hk HRG HAN
   obtain ⟨rfl, hs⟩ := hk;have hs1 : f1.data.toList.length ≤ 4294967296 := hs;have HPA := Lib.hid (fun w' => parseAsk_any (optN b) hlt512 hto f1.data.toList hs1 w');rw [ba_of] at HPA;clear hs hs1 hto hlt512;generalize optN b = o at *;go_wp2_with (first | (refine wpList_load_mid rfl 41 _ rfl q (i * 3) rfl [.int .i64 0, .string f1, .int .i64 f2] _ HRG.out Tryz.underlying41 rfl stepSize ?_) | (refine wpList_store_row rfl 41 _ _ rfl wp.heap.size #[.int .i64 0, .string f1, .int .i64 f2] rfl rfl 41 _ (heap_alloc_new wp _) stepSize rfl (by simp [Value.oneCell']) ?_; generalize hX : World.setRow _ _ _ = wx; have HX := Lib.hid (show wx.heap[wp.heap.size]? = some (.cells #[.int .i64 0, .string f1, .int .i64 f2] 41 (0, 0)) by rw [← hX]; exact setRow_heap _ _ _ _ _ _ (heap_alloc_new wp _)); have HBX := Lib.hid (show Below wp.heap.size wp wx by rw [← hX]; exact below_setRow ((Below.refl _ _).alloc (Nat.le_refl _) _) (Nat.le_refl _) _); have e0 : wx.cell? ⟨wp.heap.size, 0, none⟩ = some (.int .i64 0) := (cell_of_row _ _ _ _ _ _ HX.out); clear hX))
   go_upto_region 7 with fail
   obtain ⟨wo, hwo⟩ : ∃ wo, wo = wx := ⟨_, rfl⟩
   subst hwo;have hrow := HX.out;refine start_ (n := 11) (S := fun w' => w'.heap[wp.heap.size]? = some (.cells #[.int .i64 0, .string f1, .int .i64 f2] 41 (0, 0)) ∧ Below wo.heap.size wo w') (ds := [9]) #[nn, nn, nn, nn, nn, nn, nn, nn, nn, nn, nn] (by kernel_rfl) rfl rfl ⟨hrow, (Below.refl _ _).drew⟩ (fun hHeld => ?_);refine pure_ (i := 0) (N := some 27) (v := ?_) (a' := ?_) #[yy, nn, nn, nn, nn, nn, nn, nn, nn, nn, nn] rfl rfl (by kernel_rfl) (fun _ _ _ h => h) (Or.inl ⟨by rfl, ?_⟩) ?_ ?_;rotate_left
   ·intro w';go_simp;with_reducible rfl
   rotate_left
   ·simp only [nrm];rfl
   refine pure_ (i := 2) (N := some 29) (v := ?_) (a' := ?_) #[yy, nn, yy, nn, nn, nn, nn, nn, nn, nn, nn] rfl rfl (by kernel_rfl) (fun _ _ _ h => h) (Or.inl ⟨by rfl, ?_⟩) ?_ ?_;rotate_left
   ·intro w';go_simp;with_reducible rfl
   rotate_left
   ·simp only [nrm];rfl
   refine take_ (i := 3) (N := some 30) (v := ?_) (a' := ?_) #[yy, nn, yy, yy, nn, nn, nn, nn, nn, nn, nn] rfl rfl (by kernel_rfl) (fun _ _ _ h => h) (Or.inl ⟨by rfl, ?_⟩) hHeld ?_ ?_;rotate_left
   ·rintro w' ⟨s0, s1⟩;have c0 : w'.cell? ⟨wp.heap.size, 1, none⟩ = some (.string f1) := cell_of_row _ _ _ _ _ _ s0;go_simp;with_reducible rfl
   rotate_left
   ·simp only [nrm];rfl
   refine join_ (σ := Array Value × Int × Nat) 2 #[yy, yy, yy, yy, yy, yy, yy, yy, yy, nn, nn] (fun s => [(28, .int .i64 o), (31, .tuple #[.agg s.1, .int .i64 s.2.1]), (26, .tuple #[.agg s.1, .int .i64 s.2.1]), (32, .agg s.1), (33, .int .i64 s.2.1), (7, .pointer (some ⟨s.2.2, 0, none⟩))]) (fun s w' => MeanRow w' s.2.2 ∧ s.1.size = 387 ∧ s.1.all (·.oneCell') = true ∧ (s.2.1 ≠ 2 → Cron.zoneZ f1 ≠ 0 → (32 : UInt8) ∈ f1.data.toList) ∧ wo.heap.size ≤ s.2.2 ∧ (w'.heap[wp.heap.size]? = some (.cells #[.int .i64 0, .string f1, .int .i64 f2] 41 (0, 0)) ∧ Below wo.heap.size wo w')) ?_ ?_;rotate_left
   ·intro hCont;refine two_ (i := 1) (j := 8) (Ni := some 28) (Nj := some 7) #[yy, yy, yy, yy, nn, nn, nn, nn, nn, nn, nn] #[yy, nn, yy, yy, nn, nn, nn, nn, yy, nn, nn] rfl rfl rfl rfl (by kernel_rfl) (by decide) (by decide) (fun K hK => ?_) (fun K hK => ?_)
    ·skip;refine goes_ Tryz.func17 (by kernel_rfl) rfl #[.bool b] (by rfl) rfl rfl (by simp only [List.map_toArray, List.map_cons, List.map_nil]; rfl) ?_;with_reducible refine (HEO.out _).mono ?_
     rintro e w4 ⟨rfl, hd4⟩;refine ⟨_, rfl, ?_⟩;have hb4 := hd4.below;refine hK.out _ _ ⟨(hb4.block _ (Array.getElem?_eq_some_iff.1 hHeld.1).1).trans hHeld.1, below_of_le hHeld.2 hb4⟩ (fun hHeld => ?_);clear hK K;refine norm_ (a' := ?_) ?_ ?_;rotate_left
     ·show Act.put _ (some 28) _ = _
      simp only [nrm];rfl
     refine two_ (i := 4) (j := 8) (Ni := some 31) (Nj := some 7) #[yy, yy, yy, yy, yy, nn, nn, nn, nn, nn, nn] #[yy, yy, yy, yy, nn, nn, nn, nn, yy, nn, nn] rfl rfl rfl rfl (by kernel_rfl) (by decide) (by decide) (fun K hK => ?_) (fun K hK => ?_)
     ·skip;refine goes_ Tryz.func43 (by kernel_rfl) rfl #[.int .i64 o, .string f1] (by rfl) rfl rfl (by simp only [List.map_toArray, List.map_cons, List.map_nil]; rfl) ?_;with_reducible refine (HPA.out _).mono ?_
      rintro e w5 ⟨⟨cs, v, rfl, hn, h1, hv⟩, hb5⟩;refine ⟨_, rfl, ?_⟩;refine hK.out _ _ ⟨(hb5.block _ (Array.getElem?_eq_some_iff.1 hHeld.1).1).trans hHeld.1, below_of_le hHeld.2 hb5⟩ (fun hHeld => ?_);clear hK K;refine norm_ (a' := ?_) ?_ ?_;rotate_left
      ·show Act.put _ (some 31) _ = _
       simp only [nrm];rfl
      refine pure_ (i := 5) (N := some 26) (v := ?_) (a' := ?_) #[yy, yy, yy, yy, yy, yy, nn, nn, nn, nn, nn] rfl rfl (by kernel_rfl) (fun _ _ _ h => h) (Or.inl ⟨by rfl, ?_⟩) ?_ ?_;rotate_left
      ·intro w';go_simp;with_reducible rfl
      rotate_left
      ·simp only [nrm];rfl
      refine pure_ (i := 6) (N := some 32) (v := ?_) (a' := ?_) #[yy, yy, yy, yy, yy, yy, yy, nn, nn, nn, nn] rfl rfl (by kernel_rfl) (fun _ _ _ h => h) (Or.inl ⟨by rfl, ?_⟩) ?_ ?_;rotate_left
      ·intro w';go_simp;with_reducible rfl
      rotate_left
      ·simp only [nrm];rfl
      refine pure_ (i := 7) (N := some 33) (v := ?_) (a' := ?_) #[yy, yy, yy, yy, yy, yy, yy, yy, nn, nn, nn] rfl rfl (by kernel_rfl) (fun _ _ _ h => h) (Or.inl ⟨by rfl, ?_⟩) ?_ ?_;rotate_left
      ·intro w';go_simp;with_reducible rfl
      rotate_left
      ·simp only [nrm];rfl
      refine one_ (i := 8) (N := some 7) #[yy, yy, yy, yy, yy, yy, yy, yy, yy, nn, nn] rfl rfl (by kernel_rfl) (by decide) (fun K hK => ?_);have hge := hHeld.2.size;have hra := meanRow_of hHeld.2;refine value_ (by rfl) rfl (exec_alloc_M _ _ _ rfl) ?_;refine hK.out _ _ ⟨(((Below.refl _ _).alloc (Nat.le_refl _) _).block _ (Array.getElem?_eq_some_iff.1 hHeld.1).1).trans hHeld.1, hHeld.2.alloc hHeld.2.size _⟩ (fun hHeld => ?_);clear hK K;refine norm_ (a' := ?_) ?_ ?_;rotate_left
      ·show Act.put _ (some 7) _ = _
       simp only [nrm];rfl
      exact norm_ (by simp only [putAll, Act.put, List.setIfInBounds_toArray, List.set_cons_zero, List.set_cons_succ]) (hCont (cs, v, w5.heap.size) _ ⟨hra, hn, h1, hv, hge, hHeld⟩)
     ·skip;have hge := hHeld.2.size;have hra := meanRow_of hHeld.2;refine value_ (by rfl) rfl (exec_alloc_M _ _ _ rfl) ?_;refine hK.out _ _ ⟨(((Below.refl _ _).alloc (Nat.le_refl _) _).block _ (Array.getElem?_eq_some_iff.1 hHeld.1).1).trans hHeld.1, hHeld.2.alloc hHeld.2.size _⟩ (fun hHeld => ?_);clear hK K;refine norm_ (a' := ?_) ?_ ?_;rotate_left
      ·show Act.put _ (some 7) _ = _
       simp only [nrm];rfl
      refine one_ (i := 4) (N := some 31) #[yy, yy, yy, yy, yy, nn, nn, nn, yy, nn, nn] rfl rfl (by kernel_rfl) (by decide) (fun K hK => ?_);refine goes_ Tryz.func43 (by kernel_rfl) rfl #[.int .i64 o, .string f1] (by rfl) rfl rfl (by simp only [List.map_toArray, List.map_cons, List.map_nil]; rfl) ?_;with_reducible refine (HPA.out _).mono ?_
      rintro e w5 ⟨⟨cs, v, rfl, hn, h1, hv⟩, hb5⟩;refine ⟨_, rfl, ?_⟩;refine hK.out _ _ ⟨(hb5.block _ (Array.getElem?_eq_some_iff.1 hHeld.1).1).trans hHeld.1, below_of_le hHeld.2 hb5⟩ (fun hHeld => ?_);clear hK K;refine norm_ (a' := ?_) ?_ ?_;rotate_left
      ·show Act.put _ (some 31) _ = _
       simp only [nrm];rfl
      refine pure_ (i := 5) (N := some 26) (v := ?_) (a' := ?_) #[yy, yy, yy, yy, yy, yy, nn, nn, yy, nn, nn] rfl rfl (by kernel_rfl) (fun _ _ _ h => h) (Or.inl ⟨by rfl, ?_⟩) ?_ ?_;rotate_left
      ·intro w';go_simp;with_reducible rfl
      rotate_left
      ·simp only [nrm];rfl
      refine pure_ (i := 6) (N := some 32) (v := ?_) (a' := ?_) #[yy, yy, yy, yy, yy, yy, yy, nn, yy, nn, nn] rfl rfl (by kernel_rfl) (fun _ _ _ h => h) (Or.inl ⟨by rfl, ?_⟩) ?_ ?_;rotate_left
      ·intro w';go_simp;with_reducible rfl
      rotate_left
      ·simp only [nrm];rfl
      refine pure_ (i := 7) (N := some 33) (v := ?_) (a' := ?_) #[yy, yy, yy, yy, yy, yy, yy, yy, yy, nn, nn] rfl rfl (by kernel_rfl) (fun _ _ _ h => h) (Or.inl ⟨by rfl, ?_⟩) ?_ ?_;rotate_left
      ·intro w';go_simp;with_reducible rfl
      rotate_left
      ·simp only [nrm];rfl
      exact norm_ (by simp only [putAll, Act.put, List.setIfInBounds_toArray, List.set_cons_zero, List.set_cons_succ]) (hCont (cs, v, w4.heap.size) _ ⟨hra.below hb5, hn, h1, hv, hge, hHeld⟩)
    ·skip;have hge := hHeld.2.size;have hra := meanRow_of hHeld.2;refine value_ (by rfl) rfl (exec_alloc_M _ _ _ rfl) ?_;refine hK.out _ _ ⟨(((Below.refl _ _).alloc (Nat.le_refl _) _).block _ (Array.getElem?_eq_some_iff.1 hHeld.1).1).trans hHeld.1, hHeld.2.alloc hHeld.2.size _⟩ (fun hHeld => ?_);clear hK K;refine norm_ (a' := ?_) ?_ ?_;rotate_left
     ·show Act.put _ (some 7) _ = _
      simp only [nrm];rfl
     refine one_ (i := 1) (N := some 28) #[yy, yy, yy, yy, nn, nn, nn, nn, yy, nn, nn] rfl rfl (by kernel_rfl) (by decide) (fun K hK => ?_);refine goes_ Tryz.func17 (by kernel_rfl) rfl #[.bool b] (by rfl) rfl rfl (by simp only [List.map_toArray, List.map_cons, List.map_nil]; rfl) ?_;with_reducible refine (HEO.out _).mono ?_
     rintro e w4 ⟨rfl, hd4⟩;refine ⟨_, rfl, ?_⟩;have hb4 := hd4.below;refine hK.out _ _ ⟨(hb4.block _ (Array.getElem?_eq_some_iff.1 hHeld.1).1).trans hHeld.1, below_of_le hHeld.2 hb4⟩ (fun hHeld => ?_);clear hK K;refine norm_ (a' := ?_) ?_ ?_;rotate_left
     ·show Act.put _ (some 28) _ = _
      simp only [nrm];rfl
     refine one_ (i := 4) (N := some 31) #[yy, yy, yy, yy, yy, nn, nn, nn, yy, nn, nn] rfl rfl (by kernel_rfl) (by decide) (fun K hK => ?_);refine goes_ Tryz.func43 (by kernel_rfl) rfl #[.int .i64 o, .string f1] (by rfl) rfl rfl (by simp only [List.map_toArray, List.map_cons, List.map_nil]; rfl) ?_;with_reducible refine (HPA.out _).mono ?_
     rintro e w5 ⟨⟨cs, v, rfl, hn, h1, hv⟩, hb5⟩;refine ⟨_, rfl, ?_⟩;refine hK.out _ _ ⟨(hb5.block _ (Array.getElem?_eq_some_iff.1 hHeld.1).1).trans hHeld.1, below_of_le hHeld.2 hb5⟩ (fun hHeld => ?_);clear hK K;refine norm_ (a' := ?_) ?_ ?_;rotate_left
     ·show Act.put _ (some 31) _ = _
      simp only [nrm];rfl
     refine pure_ (i := 5) (N := some 26) (v := ?_) (a' := ?_) #[yy, yy, yy, yy, yy, yy, nn, nn, yy, nn, nn] rfl rfl (by kernel_rfl) (fun _ _ _ h => h) (Or.inl ⟨by rfl, ?_⟩) ?_ ?_;rotate_left
     ·intro w';go_simp;with_reducible rfl
     rotate_left
     ·simp only [nrm];rfl
     refine pure_ (i := 6) (N := some 32) (v := ?_) (a' := ?_) #[yy, yy, yy, yy, yy, yy, yy, nn, yy, nn, nn] rfl rfl (by kernel_rfl) (fun _ _ _ h => h) (Or.inl ⟨by rfl, ?_⟩) ?_ ?_;rotate_left
     ·intro w';go_simp;with_reducible rfl
     rotate_left
     ·simp only [nrm];rfl
     refine pure_ (i := 7) (N := some 33) (v := ?_) (a' := ?_) #[yy, yy, yy, yy, yy, yy, yy, yy, yy, nn, nn] rfl rfl (by kernel_rfl) (fun _ _ _ h => h) (Or.inl ⟨by rfl, ?_⟩) ?_ ?_;rotate_left
     ·intro w';go_simp;with_reducible rfl
     rotate_left
     ·simp only [nrm];rfl
     exact norm_ (by simp only [putAll, Act.put, List.setIfInBounds_toArray, List.set_cons_zero, List.set_cons_succ]) (hCont (cs, v, wo.drew.heap.size) _ ⟨(hra.below hb4).below hb5, hn, h1, hv, hge, hHeld⟩)
   rintro ⟨cs, v, g7⟩ w5 ⟨hra, hn, h1, hv, hge, hHeld⟩;refine norm_ (a' := ?_) ?_ ?_;rotate_left
   ·simp only [putAll, Act.put, List.setIfInBounds_toArray, List.set_cons_zero, List.set_cons_succ];rfl
   refine last_ (i := 9) (N := none) #[yy, yy, yy, yy, yy, yy, yy, yy, yy, yy, nn] rfl rfl (by kernel_rfl) (by decide) (fun K hK => ?_);rw [if_pos (by rfl)];refine wp_store_row 99 _ _ rfl g7 cs rfl rfl 99 zeroM hra (by rw [sizeM, hn]) (by rw [zeroM_size, hn]) h1 ?_;refine hK.out _ _ ?_;clear hK K;refine pure_ (i := 10) (N := some 8) (v := ?_) (a' := ?_) #[yy, yy, yy, yy, yy, yy, yy, yy, yy, yy, yy] rfl rfl (by kernel_rfl) (fun _ _ _ h => h) (Or.inl ⟨by rfl, ?_⟩) ?_ ?_;rotate_left
   ·intro w';go_simp;with_reducible rfl
   rotate_left
   ·simp only [nrm];rfl
   refine done_ (by kernel_rfl) ?_;have HB9 := Lib.hid (below_of_le HB.out (below_of_le HBX.out (below_setRow hHeld.2 hge cs)));generalize hW : World.setRow _ _ _ = w9 at *;have HV := Lib.hid hv;clear hW hra hn h1 hv hge hHeld hrow e0 HX HBX;by_cases h2v : v = 2
   ·subst h2v;go_wp2_with fail
    go_ret;exact ⟨false, rfl, (fun h => by cases h), HB9.out⟩
   ·have hb2 : (v == 2) = false := by simpa using h2v
    have HAs := Lib.hid (HAN.out (HV.out h2v));go_wp2_with fail
    refine ⟨⟨i + 1, by push_cast; rfl, by omega, HAs, HB9⟩, by simp [intOf]; omega⟩
  ·obtain rfl : i = T.length := by omega
   have hd : decide ((T.length : Int) < T.length) = false := decide_eq_false (by omega);go_wp2_with fail
   go_ret;refine ⟨true, rfl, fun _ x hx => ?_, HB.out⟩;obtain ⟨j, hj, rfl⟩ := List.getElem_of_mem hx;have := HA.out j hj;rw [List.getD, List.getElem?_eq_getElem hj] at this;exact this
end Go.Proofs.YtmecbmgfacpecaaGreatDoor.Scr
namespace Go.Proofs.YtmecbmgfacpecaaGreatDoor.Scr
open Go Go.RowKit Go.Proofs.YtmecbmgfacpecaaGreatDoor.Sched Go.Proofs.YtmecbmgfacpecaaGreatDoorW.PrintWords Go.Proofs.YtmecbmgfacpecaaGreatDoorW.PrintLast Go.Proofs.YtmecbmgfacpecaaGreatDoor.Pr
open Go.Proofs.YtmecbmgfacpecaaGreatDoor.Text
open Go.Proofs.YtmecbmgfacpecaaGreatDoor.Cron (zoneZ)
theorem step_append_R {P : Program} {ops : Array Oper} {o : Oper} {a : Act} {Q : Exit → Act → World → Prop} {Kc : Act → World → Prop} {E : Prop} {α : Type} (d : Kd α) {w0 W : World} (base : Nat) (hgd : o.guard = none) (s x : Operand) (t e : TypeId) (z : Value) (bytes : Nat)
  (ho : o.op = .call { callee := .builtin .append, args := #[s, x], argTypes := #[t, t] })
  (ht : P.underlying t = some (.slice e)) (hinfo : (P.info? e).map (fun i => (i.zero, i.size, i.bytes)) = some (some z, d.sz, bytes)) (hz : z.cells.size = d.sz) (hs0 : 0 < d.sz) (hb0 : 0 < bytes)
  (v : Value) (xs : List α) (p : α) (cs : List Value) (ok okp : Nat → Prop) (hs : a.eval s = v) (q : Nat) (hx : a.eval x = .slice (some ⟨q, 0, none⟩) 1 1) (t' : TypeId) (fr : Nat × Nat) (hq : W.heap[q]? = some (.cells cs.toArray t' fr))
  (hp : d.M W base okp p cs) (hokp : ∀ k, okp k → ok k ∧ some k ≠ v.ownBlock) (hfresh : ∀ k, W.heap.size ≤ k → ok k)
  (HO : d.R e W base ok v xs) (HB : Below base w0 W) (hbase : base ≤ W.heap.size) (hl : (xs.length + 1) * bytes ≤ 140737488355328)
  (h : ∀ v1 w1, d.R e w1 base ok v1 (xs ++ [p]) → Below base w0 w1 → W.grownBy w1 v.ownBlock → Kc (a.put o.dst v1) w1) :
  if Region.wanted o (yielded ops a.tmps) = true then Oper.wp P o a W Kc Q else E := by
 obtain ⟨h0, inner, hown, hr⟩ := HO;cases hi : P.info? e with
 | none => rw [hi] at hinfo; cases hinfo
 | some i =>
  rw [hi] at hinfo;simp only [Option.map_some, Option.some.injEq, Prod.mk.injEq] at hinfo
  have hml : xs.length + 1 ≤ maxLen := by
   have : (xs.length + 1) * 1 ≤ (xs.length + 1) * bytes := Nat.mul_le_mul_left _ hb0;simp only [maxLen];omega
  refine step_append_lies W hgd s x t ho base e i z d.sz bytes ht hi hinfo.1 hinfo.2.1 hinfo.2.2 hz hs0 v xs.length inner hs hown ⟨q, 0, none⟩ 1 1 cs hx (by rw [d.K_len (d.K_of_M hp), Nat.one_mul]) (fun j u hu => World.news_of_block hq j u (by simpa using hu)) (d.K_one (d.K_of_M hp)) (by omega) hml hl hbase W.heap.size rfl ?_;intro g cap w' hown' hgrow hat hlt;refine h _ w' (Kd.R_appended h0 hr hp hokp hfresh hown' hgrow ?_) (HB.grown hgrow hbase (fun c hc => (hown.lt c hc).1)) hgrow;rcases hat with hat | hat
  ·exact .inl (by rw [hat]; rfl)
  ·exact .inr ⟨g, rfl, by omega⟩
theorem zz_l0 (l : List ByteArray) (hl : l.length ≤ 2147483647) : ∀ d i, l.length - i = d → i ≤ l.length → ∃ r, laws_zzFits2.l0 (d + 1) l (l.length : Int) (i : Int) = some r := by
 intro d;induction d with
 | zero =>
  intro i hd hi;obtain rfl : i = l.length := by omega
  exact ⟨true, by simp [laws_zzFits2.l0]⟩
 | succ d ih =>
  intro i hd hi;have h1 : (i : Int) < l.length := by omega
  have h2 : (0 : Int) ≤ i := by omega
  have hw : wrap64 ((i : Int) + 1) = ((i + 1 : Nat) : Int) := by simp [RowKit.wrap64]; omega
  obtain ⟨r, hr⟩ := ih (i + 1) (by omega) (by omega);unfold laws_zzFits2.l0;rw [if_pos h1, if_pos h2, if_pos h1];split
  ·exact ⟨_, rfl⟩
  ·rw [hw, hr];exact ⟨_, rfl⟩
theorem zz_f (l : List ByteArray) : ∃ k r, laws_zzFits2.f k l = some r := by
 by_cases h : (l.length : Int) > 2147483647
 ·exact ⟨0, false, by unfold laws_zzFits2.f; rw [if_pos h]⟩
 ·obtain ⟨r, hr⟩ := zz_l0 l (by omega) l.length 0 (by omega) (by omega);exact ⟨l.length + 1, r, by unfold laws_zzFits2.f; rw [if_neg h]; exact hr⟩
def addsOf (l : List ByteArray) : List Step := l.map fun s => ⟨0, s, 0⟩
theorem adds_l0 (l : List ByteArray) (hl : l.length ≤ 100000) : ∀ d i, l.length - i = d → i ≤ l.length → laws_entriesAdd.l0 (d + 1) (addsOf (l.take i)) l (l.length : Int) (i : Int) = some (addsOf l) := by
 intro d;induction d with
 | zero =>
  intro i hd hi;obtain rfl : i = l.length := by omega
  unfold laws_entriesAdd.l0;rw [if_neg (by omega), List.take_length]
 | succ d ih =>
  intro i hd hi;have h1 : (i : Int) < l.length := by omega
  have h2 : (0 : Int) ≤ i := by omega
  have hil : i < l.length := by omega
  have hw : wrap64 ((i : Int) + 1) = ((i + 1 : Nat) : Int) := by simp [RowKit.wrap64]; omega
  have h3 : (addsOf (l.take i)).length < 4398046511104 := by simp [addsOf]; omega
  have h4 : addsOf (l.take i) ++ [(⟨0, rdOf ByteArray.empty l (i : Int), 0⟩ : Step)] = addsOf (l.take (i + 1)) := by
   unfold addsOf rdOf;rw [List.take_add_one, List.map_append, Int.toNat_natCast, List.getElem?_eq_getElem hil, List.getD, List.getElem?_eq_getElem hil];rfl
  unfold laws_entriesAdd.l0;rw [if_pos h1, if_pos h2, if_pos h1, if_pos h3, hw, h4];exact ih (i + 1) (by omega) (by omega)
theorem adds_f (l : List ByteArray) (hl : l.length ≤ 100000) : laws_entriesAdd.f (l.length + 1) l = some (addsOf l) := adds_l0 l hl l.length 0 (by omega) (by omega)
theorem alike_f (m : Nat) (hm : m ≤ 20) : laws_entriesAlike.f 500 (idsI m) (idsI m) = some true := by
 have h : ∀ m : Fin 21, laws_entriesAlike.f 500 (idsI m.val) (idsI m.val) = some true := by decide +kernel
 exact h ⟨m, by omega⟩
set_option maxRecDepth 100000 in
set_option maxHeartbeats 4000000 in
theorem short_any (b : Bool) (A : Option Addr) (c : Nat) (l : List ByteArray) (w : World) (hC : Kd.C Kd.string w A l.length l) (hc : l.length ≤ c) :
  Calls Tryz.prog 14 #[.bool b, .slice A l.length c] w (AskAns (l.length ≤ 20 ∧ ∀ s ∈ l, s.size ≤ 200 ∧ Asked s) w) := by
 by_cases h20 : l.length ≤ 20
 ·have hd20 : decide ((l.length : Int) > 20) = false := decide_eq_false (by omega);have hd20' : decide ((20 : Int) < l.length) = false := decide_eq_false (by omega);have HC := Lib.hid hC;have HAD := Lib.hid (fun w' (h : Kd.C Kd.string w' A l.length l) => laws_entriesAdd.calls (l.length + 1) A c l (addsOf l) w' h hc (adds_f l (by omega)));have HAS := Lib.hid (fun v0 w' base ok h => fun hok => asked_any b (addsOf l) (by simp [addsOf]; omega) hok v0 w' base ok h);clear hC;go_enter Tryz.func14, Tryz.ntmps14;go_wp2_with fail
  go_loopw [12] (fun v12 wr => ∃ i : Nat, v12 = .int .i64 i ∧ i ≤ l.length ∧ Hid (∀ j (h : j < l.length), j < i → l[j].size ≤ 200) ∧ Hid (Below w.heap.size w wr)) (fun v12 _ => l.length - (intOf v12).toNat)
  case atStart => exact ⟨0, rfl, by omega, Lib.hid (fun j h hj => by omega), Lib.hid (Below.refl _ _)⟩
  case round =>
   obtain ⟨i, rfl, hi, HA, HB⟩ := hrel;by_cases hiL : i < l.length
   ·have hil : (i : Int) < l.length := by omega
    have hi0 : (0 : Int) ≤ i := by omega
    have hd : decide ((i : Int) < l.length) = true := decide_eq_true hil;obtain ⟨ad, rfl, hcell⟩ := Kd.at_string (Kd.C_below HC.out HB.out) (i : Int) hi0 hil;have hrd : rdOf ByteArray.empty l (i : Int) = l[i] := by unfold rdOf; rw [Int.toNat_natCast, List.getD, List.getElem?_eq_getElem hiL]; rfl
    rw [hrd, Int.toNat_natCast] at hcell
    have HN : Hid (l[i].size ≤ 200 → ∀ j (h : j < l.length), j < i + 1 → l[j].size ≤ 200) := Lib.hid fun h j hj hji => by
     by_cases hjl : j < i
     ·exact HA.out j hj hjl
     ·obtain rfl : j = i := by omega
      exact h
    clear hrd;generalize l[i] = s at *;by_cases h200 : (s.size : Int) > 200
    ·have hs : decide ((s.size : Int) > 200) = true := decide_eq_true h200;have hs' : decide ((200 : Int) < s.size) = true := decide_eq_true h200;go_wp2_with fail
     go_ret;exact ⟨false, rfl, (fun h => by cases h), HB.out⟩
    ·have hs : decide ((s.size : Int) > 200) = false := decide_eq_false h200;have hs' : decide ((200 : Int) < s.size) = false := decide_eq_false h200;have HN2 := Lib.hid (HN.out (by omega));go_wp2_with fail
     go_roundw
     case rel => exact ⟨i + 1, by go_num, by omega, HN2, HB⟩
     case measure => simp [intOf]; omega
   ·obtain rfl : i = l.length := by omega
    have hd : decide ((l.length : Int) < l.length) = false := decide_eq_false (by omega)
    have HOK : Hid (∀ x ∈ addsOf l, x.f0 = 0 ∧ x.f1.size ≤ 4294967296) := Lib.hid fun x hx => by
     obtain ⟨s, hs, rfl⟩ := List.mem_map.1 hx;obtain ⟨j, hj, rfl⟩ := List.getElem_of_mem hs;have := HA.out j hj hj;exact ⟨rfl, by show l[j].size ≤ 4294967296; omega⟩
    go_wp2_with fail
    refine (HAD.out _ (Kd.C_below HC.out HB.out)).mono ?_;rintro e w1 ⟨v0, rfl, hR, hb1⟩;have HB1 := Lib.hid (below_of_le HB.out hb1);have HR := Lib.hid hR;clear hR hb1;go_wp2_with fail
    refine (HAS.out _ _ _ _ HR.out HOK.out).mono ?_;rintro e w2 ⟨r, rfl, hr, hb2⟩;have HB2 := Lib.hid (below_of_le HB1.out hb2);have HRR := Lib.hid hr;clear hr hb2;go_wp2_with fail
    go_ret;refine ⟨r, rfl, fun h => ⟨h20, fun s hs => ?_⟩, HB2.out⟩;obtain ⟨j, hj, rfl⟩ := List.getElem_of_mem hs;exact ⟨HA.out j hj hj, HRR.out h ⟨0, l[j], 0⟩ (List.mem_map.2 ⟨_, hs, rfl⟩)⟩
 ·have hd20 : decide ((l.length : Int) > 20) = true := decide_eq_true (by omega);have hd20' : decide ((20 : Int) < l.length) = true := decide_eq_true (by omega);go_enter Tryz.func14, Tryz.ntmps14;go_wp2_with fail
  go_ret;exact ⟨false, rfl, (fun h => by cases h), Below.refl _ _⟩
end Go.Proofs.YtmecbmgfacpecaaGreatDoor.Scr
