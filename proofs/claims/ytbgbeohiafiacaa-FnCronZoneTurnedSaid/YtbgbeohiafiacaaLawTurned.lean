/- FnCronZoneTurned's walk: on all days, a zone of whole hours has the activations of UTC with the hours turned. -/
import Derived.Test.YtbgbeohiafiacaaGrK
import Derived.Test.YtbgbeohiafiacaaGrL
import Derived.Test.YtbgbeohiafiacaaGrM
import Derived.Test.YtbgbeohiafiacaaGrN
import Derived.Test.YtbgbeohiafiacaaPrA
namespace Go.Proofs.Ytbgbeohiafiacaa.Cron
open Go Go.RowKit Go.Proofs.YtbgbeohiafiacaaW.PrintWords Go.Proofs.YtbgbeohiafiacaaW.PrintLast Go.Proofs.Ytbgbeohiafiacaa.Cal Go.Proofs.Ytbgbeohiafiacaa.Pr
set_option linter.unusedVariables false
set_option linter.unusedSimpArgs false

theorem bits_fin (N n : Nat) (hd : ∀ i : Fin 32, i.val ≤ n → N.testBit i.val = true ∨ i.val = 0) (hn : n < 32) (k : Int) (h1 : 1 ≤ k) (h2 : k ≤ n) : inB N k = true := by
  unfold inB
  rcases hd ⟨k.toNat, by omega⟩ (by show k.toNat ≤ n; omega) with h | h
  · exact h
  · exact absurd (show k.toNat = 0 from h) (by omega)
theorem each_days (S : Sets) (hour : Nat) : AllDays { AllB.eachS S with hour := hour } := by
  refine allDays_of ?_ ?_ ?_
  · intro k h1 h2
    exact bits_fin 9223372036854783998 12 (by decide +kernel) (by omega) k h1 h2
  · intro k h1 h2
    exact bits_fin 9223372041149743102 31 (by decide +kernel) (by omega) k h1 h2
  · intro k h1 h2
    by_cases h0 : k = 0
    · subst h0
      show inB 9223372036854775935 0 = true
      decide +kernel
    · exact bits_fin 9223372036854775935 6 (by decide +kernel) (by omega) k (by omega) h2
theorem emptyK_true {S : Sets} {k : Nat} (h : emptyK S k = false) : ∃ v : Nat, loF k ≤ v ∧ v ≤ hiF k ∧ (bitsK S k).testBit v = true := by
  unfold emptyK emptyB eqB at h
  rw [List.all_eq_false] at h
  obtain ⟨v, hv, hx⟩ := h
  simp [memB, noSet] at hx
  exact ⟨v, hx.1, hx.2.1, hx.2.2⟩
theorem emptyK_none {S : Sets} {k : Nat} (hk : k < 6) (h : emptyK S k = true) (v : Nat) (h1 : loF k ≤ v) (h2 : v ≤ hiF k) : (bitsK S k).testBit v = false := by
  have hv : v < 63 := by
    have : hiF k ≤ 59 := by match k, hk with | 0, _ | 1, _ | 2, _ | 3, _ | 4, _ | 5, _ => decide
    omega
  unfold emptyK emptyB eqB at h
  have := List.all_eq_true.1 h v (List.mem_range.2 hv)
  simpa [memB, noSet, h1, h2] using this
theorem never_iff (S : Sets) : neverB S = false ↔ SomeTime S := by
  unfold neverB
  simp only [Bool.or_eq_false_iff]
  constructor
  · rintro ⟨h2, h1, h0⟩
    obtain ⟨a, a1, a2, a3⟩ := emptyK_true h2
    obtain ⟨b, b1, b2, b3⟩ := emptyK_true h1
    obtain ⟨c, c1, c2, c3⟩ := emptyK_true h0
    have a2' : a ≤ 23 := a2
    have b2' : b ≤ 59 := b2
    have c2' : c ≤ 59 := c2
    exact ⟨⟨a, by omega, by omega, a3⟩, ⟨b, by omega, by omega, b3⟩, ⟨c, by omega, by omega, c3⟩⟩
  · rintro ⟨⟨a, a1, a2, a3⟩, ⟨b, b1, b2, b3⟩, ⟨c, c1, c2, c3⟩⟩
    refine ⟨?_, ?_, ?_⟩
    · cases h : emptyK S 2 with
      | false => rfl
      | true =>
        have := emptyK_none (k := 2) (by omega) h a.toNat (Nat.zero_le _) (by show a.toNat ≤ 23; omega)
        unfold inB at a3
        rw [show bitsK S 2 = S.hour from rfl, a3] at this
        cases this
    · cases h : emptyK S 1 with
      | false => rfl
      | true =>
        have := emptyK_none (k := 1) (by omega) h b.toNat (Nat.zero_le _) (by show b.toNat ≤ 59; omega)
        unfold inB at b3
        rw [show bitsK S 1 = S.min from rfl, b3] at this
        cases this
    · cases h : emptyK S 0 with
      | false => rfl
      | true =>
        have := emptyK_none (k := 0) (by omega) h c.toNat (Nat.zero_le _) (by show c.toNat ≤ 59; omega)
        unfold inB at c3
        rw [show bitsK S 0 = S.sec from rfl, c3] at this
        cases this

set_option maxRecDepth 100000 in
set_option maxHeartbeats 8000000 in
theorem lawTurned_any (ev : Bool) (d : Int) (S : Sets) (hS : S.ok) (sec nano h : Int) (w : World) :
    Calls Try.prog 7 #[.agg (schedC ev d S), .agg #[.int .i64 sec, .int .i64 nano], .int .i64 h] w fun e w' => e = .returned (.bool true) ∧ Below w.heap.size w w' := by
  have HED : Hid (∀ w' : World, Calls Try.prog 23 #[.agg (schedC ev d S)] w' fun e w2 => e = .returned (.agg (schedC ev d (AllB.eachS S))) ∧ Below w'.heap.size w' w2) := Lib.hid (fun w' => AllB.eachDay_any ev d S w')
  have HC := Lib.hid (fun w' => case_any ev d (AllB.eachS S) sec nano w')
  have hal := run_alloc_inst
  go_enter Try.func7, Try.ntmps7
  go_upto_region 1 with fail
  generalize hW : World.alloc (World.alloc w _) _ = wa
  have hr0 : wa.heap[w.heap.size]? = some (.cells (schedC ev d S) 27 (0, 0)) := by
    rw [← hW, Below.heap_alloc _ _ _ (by simp; try omega)]
    exact heap_alloc_new w _
  have hr1 : wa.heap[w.heap.size + 1]? = some (.cells #[.int .i64 sec, .int .i64 nano] 33 (0, 0)) := by
    rw [← hW]
    exact heap_two w _ _
  have hB : Below w.heap.size w wa := by
    rw [← hW]
    exact (((Below.refl _ _).alloc (Nat.le_refl _) _).alloc (by simp) _)
  clear hW
  have HR0 := Lib.hid hr0
  have HR1 := Lib.hid hr1
  clear hr0 hr1
  go_wp2_with (refine wpList_load_row rfl 27 _ rfl w.heap.size rfl _ _ _ _ HR0.out Try.underlying27 rfl schedSize ?_)
  refine (HED.out _).mono ?_
  rintro e w1 ⟨rfl, hb1⟩
  have HR0' := Lib.hid (row_keep HR0.out hb1)
  have HR1' := Lib.hid (row_keep HR1.out hb1)
  have hB1 := below_le hB hb1
  clear hb1 HR0 HR1 hB
  dsimp only
  go_upto_region 2 with (go_big_may; refine wpList_store_row rfl 27 _ _ rfl w.heap.size (schedC ev d (AllB.eachS S)) rfl rfl 27 _ HR0'.out schedSize rfl (by simp [schedC, Value.oneCell']) ?_)
  dsimp only [Act.put]
  generalize hY : World.setRow _ _ _ = wb
  have HS0 := Lib.hid (show wb.heap[w.heap.size]? = some (.cells (schedC ev d (AllB.eachS S)) 27 (0, 0)) by rw [← hY]; exact setRow_heap _ _ _ _ _ _ HR0'.out)
  have HT0 := Lib.hid (show wb.heap[w.heap.size + 1]? = some (.cells #[.int .i64 sec, .int .i64 nano] 33 (0, 0)) by rw [← hY]; exact (setRow_other _ _ _ _ (by omega)).trans HR1'.out)
  have hB2 : Below w.heap.size w wb := by rw [← hY]; exact below_setRow hB1 (Nat.le_refl _) _
  clear hY HR0' HR1' hB1 HED
  go_wp2_with (first
    | (refine wpList_load_row rfl 27 _ rfl w.heap.size rfl _ _ _ _ HS0.out Try.underlying27 rfl schedSize ?_)
    | (refine wpList_load_row rfl 33 _ rfl (w.heap.size + 1) rfl _ _ _ _ HT0.out Try.underlying33 rfl instSize ?_))
  refine (HC.out _).mono ?_
  rintro e w2 ⟨rfl, hb2⟩
  have HS1 := Lib.hid (row_keep HS0.out hb2)
  have HT1 := Lib.hid (row_keep HT0.out hb2)
  have hB3 := below_le hB2 hb2
  clear hb2 HS0 HT0 hB2 HC
  dsimp only
  cases hcc : (!ev && goodB sec nano) with
  | false =>
    go_wp2_with fail
    all_goals
      go_ret
      exact ⟨rfl, hB3⟩
  | true =>
    have hev : ev = false := by cases ev <;> simp_all
    subst hev
    have hg : goodB sec nano = true := by simpa using hcc
    obtain ⟨g1, g2b, g3, g4⟩ := goodB_iff.1 hg
    by_cases hh0 : h < -24
    · have hd0 : decide (h < -24) = true := decide_eq_true hh0
      go_wp2_with fail
      all_goals
        go_ret
        exact ⟨rfl, hB3⟩
    · have hd0 : decide (h < -24) = false := decide_eq_false hh0
      by_cases hh1 : h > 24
      · have hd1 : decide (h > 24) = true := decide_eq_true hh1
        have hd2 : decide (24 < h) = true := decide_eq_true hh1
        go_wp2_with fail
        all_goals
          go_ret
          exact ⟨rfl, hB3⟩
      · have hd1 : decide (h > 24) = false := decide_eq_false hh1
        have hd2 : decide (24 < h) = false := decide_eq_false hh1
        have hwn : wrap64 (-h) = -h := by unfold wrap64; omega
        have hwm : wrap64 (3600 * h) = 3600 * h := by unfold wrap64; omega
        obtain ⟨S1, hS1⟩ : ∃ S1, S1 = AllB.eachS S := ⟨_, rfl⟩
        have HS2 : Hid (w2.heap[w.heap.size]? = some (.cells (setsCells d S1) 27 (0, 0))) := Lib.hid (by rw [hS1]; exact HS1.out)
        have hT1 := HT1.out
        have HT2 := Lib.hid hT1
        have hS1ok : S1.ok := by
          rw [hS1]
          obtain ⟨k1, k2, k3, -, -, -⟩ := hS
          exact ⟨k1, k2, k3, by show (9223372041149743102 : Nat) < _; omega, by show (9223372036854783998 : Nat) < _; omega, by show (9223372036854775935 : Nat) < _; omega⟩
        have HS1K := Lib.hid hS1
        have HOK := Lib.hid hS1ok
        clear HS1 HT1 hT1 hS1 hS1ok hcc
        go_upto_region 5 with (go_big_may; first
          | (refine wpList_load_row rfl 27 _ rfl w.heap.size rfl _ _ _ _ HS2.out Try.underlying27 rfl schedSize ?_)
          | (refine wpList_store_row rfl 27 _ _ rfl w2.heap.size (setsCells d S1) rfl rfl 27 _ (heap_alloc_new w2 _) schedSize rfl (by simp [setsCells, Value.oneCell']) ?_))
        dsimp only [Act.put]
        generalize hY : World.setRow _ _ _ = w3
        have HG3 := Lib.hid (show w3.heap[w2.heap.size]? = some (.cells (setsCells d S1) 27 (0, 0)) by rw [← hY]; exact setRow_heap _ _ _ _ _ _ (heap_alloc_new w2 _))
        have HB3 := Lib.hid (show Below w2.heap.size w2 w3 by rw [← hY]; exact below_setRow ((Below.refl _ _).alloc (Nat.le_refl _) _) (Nat.le_refl _) _)
        clear hY
        have HS3 := Lib.hid (row_keep HS2.out HB3.out)
        have HT3 := Lib.hid (row_keep HT2.out HB3.out)
        have hB4 := below_le hB3 HB3.out
        have hg2 : w.heap.size + 1 < w2.heap.size := row_lt HT2.out
        clear HS2 HT2 HB3 hB3
        generalize w2.heap.size = gt at *
        have c4 : w3.cell? ⟨w.heap.size, 4, none⟩ = some (.int .u64 (S1.hour : Int)) := cell_of_row _ _ _ _ _ _ HS3.out
        have HTU := Lib.hid (fun w' => turned_any (b := S1.hour) HOK.out.2.2.1 h (by omega) (by omega) w')
        go_wp2_with fail
        refine (HTU.out _).mono ?_
        rintro e w4 ⟨rfl, hb4⟩
        have hg4 := row_keep HG3.out hb4
        have HS4 := Lib.hid (row_keep HS3.out hb4)
        have HT4 := Lib.hid (row_keep HT3.out hb4)
        have hB5 := below_le hB4 hb4
        clear hb4 HG3 HS3 HT3 hB4 c4 HTU
        have c4 : w4.cell? ⟨gt, 4, none⟩ = some (.int .u64 (S1.hour : Int)) := cell_of_row _ _ _ _ _ _ hg4
        have f4 : w4.frozen? ⟨gt, 4, none⟩ = false := frozen_of_row _ _ _ _ _ hg4
        have HG4 := Lib.hid hg4
        clear hg4
        dsimp only
        go_upto_region 6 with fail
        obtain ⟨S2, hS2⟩ : ∃ S2 : Sets, S2 = { S1 with hour := accT S1.hour (-h) 24 } := ⟨_, rfl⟩
        have HG5 : Hid ((w4.setCell ⟨gt, 4, none⟩ (.int .u64 ((accT S1.hour (-h) 24 : Nat) : Int))).heap[gt]? = some (.cells (setsCells d S2) 27 (0, 0))) := Lib.hid (by rw [hS2]; exact heap_setCell_same _ _ 4 _ _ _ HG4.out)
        have HS5 : Hid ((w4.setCell ⟨gt, 4, none⟩ (.int .u64 ((accT S1.hour (-h) 24 : Nat) : Int))).heap[w.heap.size]? = some (.cells (setsCells d S1) 27 (0, 0))) := Lib.hid ((heap_setCell_other _ _ _ _ (by show w.heap.size ≠ gt; omega)).trans HS4.out)
        have HT5 : Hid ((w4.setCell ⟨gt, 4, none⟩ (.int .u64 ((accT S1.hour (-h) 24 : Nat) : Int))).heap[w.heap.size + 1]? = some (.cells #[.int .i64 sec, .int .i64 nano] 33 (0, 0))) := Lib.hid ((heap_setCell_other _ _ _ _ (by show w.heap.size + 1 ≠ gt; omega)).trans HT4.out)
        have hB6 : Below w.heap.size w (w4.setCell ⟨gt, 4, none⟩ (.int .u64 ((accT S1.hour (-h) 24 : Nat) : Int))) := hB5.setCell (p := ⟨gt, 4, none⟩) (by show w.heap.size ≤ gt; omega) _
        have hS2ok : S2.ok := by
          rw [hS2]
          obtain ⟨k1, k2, k3, k4, k5, k6⟩ := HOK.out
          exact ⟨k1, k2, accT_lt k3 _ _, k4, k5, k6⟩
        have hT : Turned S1 S2 h := by
          rw [hS2]
          refine ⟨?_, ?_, rfl, rfl, fun v v0 v1 => accT_hour S1.hour h v v0 v1⟩
          · rw [HS1K.out]; exact each_days S S.hour
          · rw [HS1K.out]; exact each_days S (accT (AllB.eachS S).hour (-h) 24)
        obtain ⟨r1, hr1⟩ := least_exists S1 (sec + 1 + 3600 * h) (yearL (sec + 1 + 3600 * h) + 5)
        obtain ⟨r2, hr2⟩ := least_exists S2 (sec + 1) (yearL (sec + 1) + 5)
        have hTL := turned_least hT (f := sec + 1) (by omega) (by omega) hr1 hr2
        have HFX : Hid (∀ w' : World, Calls Try.prog 25 #[.int .i64 (wrap64 (3600 * h))] w' fun e w2 => ∃ A B C D, e = .returned (.agg (zoneC A B C D)) ∧ ZoneMem (3600 * h) A B C D w2 ∧ Below w'.heap.size w' w2) := Lib.hid (fun w' => by rw [hwm]; exact fixed_any (3600 * h) w')
        have HN1 : Hid (∀ (zA zB zC zD : Nat) (w' : World), ZoneMem (3600 * h) zA zB zC zD w' → Calls Try.prog 11 #[.agg (setsCells d S1), .agg #[.int .i64 sec, .int .i64 nano], .agg (zoneC zA zB zC zD)] w' fun e w2 => e = .returned (.tuple #[.agg (ansI (3600 * h) r1), .bool r1.isSome]) ∧ Below w'.heap.size w' w2) := Lib.hid (fun zA zB zC zD w' hz => by
          refine (implNext_in _ _ _ _ (3600 * h) _ (locationFixed_any (3600 * h) (by omega) (by omega) zA zB zC zD) d S1 HOK.out sec nano g1 g2b g3 g4 (by omega) (by omega) (by omega) (.inr fun x => (hT.a x).1) w' hz).mono ?_
          rintro e w2 ⟨r', hr', rfl, hb⟩
          rw [least_unique hr' hr1]
          exact ⟨rfl, hb⟩)
        have HN2 := Lib.hid (fun w' => nextUtc_any d S2 hS2ok sec nano hg r2 hr2 w')
        have HU := Lib.hid (fun w' => cronUtc_any w')
        have HTL := Lib.hid hTL
        have HL2 := Lib.hid hr2
        have HFO := Lib.hid (fun w' => fieldsOf_any d S1 HOK.out w')
        have HNV := Lib.hid (fun w' => cronNever_any S1 w')
        have HNI := Lib.hid (never_iff S1)
        unfold utcZone at HU HN2
        clear hS2 hS2ok hT hr1 hr2 hTL HG4 HS4 HT4 hB5 c4 f4 HOK HS1K
        generalize w4.setCell ⟨gt, 4, none⟩ (.int .u64 ((accT S1.hour (-h) 24 : Nat) : Int)) = wo at *
        obtain ⟨g2, rfl⟩ : ∃ g2 : Nat, g2 = gt := ⟨_, rfl⟩
        have hr0 := HS5.out
        have hr1 := HT5.out
        have hrg := HG5.out
        refine start_ (n := 12) (S := fun w' => w'.heap[w.heap.size]? = some (.cells (setsCells d S1) 27 (0, 0)) ∧ w'.heap[w.heap.size + 1]? = some (.cells #[.int .i64 sec, .int .i64 nano] 33 (0, 0)) ∧ w'.heap[g2]? = some (.cells (setsCells d S2) 27 (0, 0)) ∧ Below wo.heap.size wo w') (ds := [10]) #[false, false, false, false, false, false, false, false, false, false, false, false] (by kernel_rfl) rfl rfl ⟨hr0, hr1, hrg, (Below.refl _ _).drew⟩ (fun hHeld => ?_)
        refine pure_ (i := 2) (N := some 36) (v := ?_) (a' := ?_) #[false, false, true, false, false, false, false, false, false, false, false, false] rfl rfl (by kernel_rfl) (fun _ _ _ h => h) (Or.inl ⟨by rfl, ?_⟩) ?_ ?_
        rotate_left
        · intro w'
          go_simp
          with_reducible rfl
        rotate_left
        · simp only [Act.put, List.setIfInBounds_toArray, List.set_cons_zero, List.set_cons_succ, i64_w, i32_w]
          rfl
        refine pure_ (i := 3) (N := some 37) (v := ?_) (a' := ?_) #[false, false, true, true, false, false, false, false, false, false, false, false] rfl rfl (by kernel_rfl) (fun _ _ _ h => h) (Or.inl ⟨by rfl, ?_⟩) ?_ ?_
        rotate_left
        · intro w'
          go_simp
          with_reducible rfl
        rotate_left
        · simp only [Act.put, List.setIfInBounds_toArray, List.set_cons_zero, List.set_cons_succ, i64_w, i32_w]
          rfl
        refine take_ (i := 0) (N := some 34) (v := ?_) (a' := ?_) #[true, false, true, true, false, false, false, false, false, false, false, false] rfl rfl (by kernel_rfl) (fun _ _ _ h => h) (Or.inl ⟨by rfl, ?_⟩) hHeld ?_ ?_
        rotate_left
        · rintro w' ⟨s0, s1, s2, s3⟩
          refine exec_load_row _ _ w' 27 (.tmp 3) ?_ (w.heap.size) ?_ _ _ _ _ s0 Try.underlying27 rfl schedSize
          · rfl
          · rfl
        rotate_left
        · simp only [Act.put, List.setIfInBounds_toArray, List.set_cons_zero, List.set_cons_succ, i64_w, i32_w]
          rfl
        refine take_ (i := 1) (N := some 35) (v := ?_) (a' := ?_) #[true, true, true, true, false, false, false, false, false, false, false, false] rfl rfl (by kernel_rfl) (fun _ _ _ h => h) (Or.inl ⟨by rfl, ?_⟩) hHeld ?_ ?_
        rotate_left
        · rintro w' ⟨s0, s1, s2, s3⟩
          refine exec_load_row _ _ w' 33 (.tmp 4) ?_ (w.heap.size + 1) ?_ _ _ _ _ s1 Try.underlying33 rfl instSize
          · rfl
          · rfl
        rotate_left
        · simp only [Act.put, List.setIfInBounds_toArray, List.set_cons_zero, List.set_cons_succ, i64_w, i32_w]
          rfl
        refine join_ (σ := Nat × Nat × Nat × Nat × Nat) 2 #[true, true, true, true, true, true, true, true, true, true, false, false] (fun s => [(38, .agg (zoneC s.2.1 s.2.2.1 s.2.2.2.1 s.2.2.2.2)), (39, .tuple #[.agg (ansI (3600 * h) r1), .bool r1.isSome]), (33, .tuple #[.agg (ansI (3600 * h) r1), .bool r1.isSome]), (40, .agg (ansI (3600 * h) r1)), (41, .bool r1.isSome), (8, .pointer (some ⟨s.1, 0, none⟩))]) (fun s w' => InstRow w' s.1 ∧ wo.heap.size ≤ s.1 ∧ (w'.heap[w.heap.size]? = some (.cells (setsCells d S1) 27 (0, 0)) ∧ w'.heap[w.heap.size + 1]? = some (.cells #[.int .i64 sec, .int .i64 nano] 33 (0, 0)) ∧ w'.heap[g2]? = some (.cells (setsCells d S2) 27 (0, 0)) ∧ Below wo.heap.size wo w')) ?_ ?_
        rotate_left
        · intro hCont
          refine two_ (i := 4) (j := 9) (Ni := some 38) (Nj := some 8) #[true, true, true, true, true, false, false, false, false, false, false, false] #[true, true, true, true, false, false, false, false, false, true, false, false] rfl rfl rfl rfl (by kernel_rfl) (by decide) (by decide) (fun K hK => ?_) (fun K hK => ?_)
          · skip
            refine goes_ Try.func25 (by kernel_rfl) rfl #[.int .i64 (wrap64 (3600 * h))] (by rfl) rfl rfl (by simp only [List.map_toArray, List.map_cons, List.map_nil]; rfl) ?_
            with_reducible refine (HFX.out _).mono ?_
            rintro e w4 ⟨zA, zB, zC, zD, rfl, hz4, hb4⟩
            refine ⟨_, rfl, ?_⟩
            refine hK.out _ _ ⟨row_keep hHeld.1 hb4, row_keep hHeld.2.1 hb4, row_keep hHeld.2.2.1 hb4, below_le hHeld.2.2.2 hb4⟩ (fun hHeld => ?_)
            clear hK K
            refine norm_ (a' := ?_) ?_ ?_
            rotate_left
            · show Act.put _ (some 38) _ = _
              simp only [Act.put, List.setIfInBounds_toArray, List.set_cons_zero, List.set_cons_succ, i64_w, i32_w]
              rfl
            refine two_ (i := 5) (j := 9) (Ni := some 39) (Nj := some 8) #[true, true, true, true, true, true, false, false, false, false, false, false] #[true, true, true, true, true, false, false, false, false, true, false, false] rfl rfl rfl rfl (by kernel_rfl) (by decide) (by decide) (fun K hK => ?_) (fun K hK => ?_)
            · skip
              refine goes_ Try.func11 (by kernel_rfl) rfl #[.agg (setsCells d S1), .agg #[.int .i64 sec, .int .i64 nano], .agg (zoneC zA zB zC zD)] (by rfl) rfl rfl (by simp only [List.map_toArray, List.map_cons, List.map_nil]; rfl) ?_
              with_reducible refine (HN1.out zA zB zC zD _ hz4).mono ?_
              rintro e w5 ⟨rfl, hb5⟩
              refine ⟨_, rfl, ?_⟩
              refine hK.out _ _ ⟨row_keep hHeld.1 hb5, row_keep hHeld.2.1 hb5, row_keep hHeld.2.2.1 hb5, below_le hHeld.2.2.2 hb5⟩ (fun hHeld => ?_)
              clear hK K
              refine norm_ (a' := ?_) ?_ ?_
              rotate_left
              · show Act.put _ (some 39) _ = _
                simp only [Act.put, List.setIfInBounds_toArray, List.set_cons_zero, List.set_cons_succ, i64_w, i32_w]
                rfl
              refine pure_ (i := 6) (N := some 33) (v := ?_) (a' := ?_) #[true, true, true, true, true, true, true, false, false, false, false, false] rfl rfl (by kernel_rfl) (fun _ _ _ h => h) (Or.inl ⟨by rfl, ?_⟩) ?_ ?_
              rotate_left
              · intro w'
                go_simp
                with_reducible rfl
              rotate_left
              · simp only [Act.put, List.setIfInBounds_toArray, List.set_cons_zero, List.set_cons_succ, i64_w, i32_w]
                rfl
              refine pure_ (i := 7) (N := some 40) (v := ?_) (a' := ?_) #[true, true, true, true, true, true, true, true, false, false, false, false] rfl rfl (by kernel_rfl) (fun _ _ _ h => h) (Or.inl ⟨by rfl, ?_⟩) ?_ ?_
              rotate_left
              · intro w'
                go_simp
                with_reducible rfl
              rotate_left
              · simp only [Act.put, List.setIfInBounds_toArray, List.set_cons_zero, List.set_cons_succ, i64_w, i32_w]
                rfl
              refine pure_ (i := 8) (N := some 41) (v := ?_) (a' := ?_) #[true, true, true, true, true, true, true, true, true, false, false, false] rfl rfl (by kernel_rfl) (fun _ _ _ h => h) (Or.inl ⟨by rfl, ?_⟩) ?_ ?_
              rotate_left
              · intro w'
                go_simp
                with_reducible rfl
              rotate_left
              · simp only [Act.put, List.setIfInBounds_toArray, List.set_cons_zero, List.set_cons_succ, i64_w, i32_w]
                rfl
              refine one_ (i := 9) (N := some 8) #[true, true, true, true, true, true, true, true, true, true, false, false] rfl rfl (by kernel_rfl) (by decide) (fun K hK => ?_)
              have hge7 := hHeld.2.2.2.size
              have hs7 := instRow_of hHeld.2.2.2
              refine value_ (by rfl) rfl (exec_alloc_inst _ _ _ rfl) ?_
              refine hK.out _ _ ⟨row_keep hHeld.1 ((Below.refl _ _).alloc (Nat.le_refl _) _), row_keep hHeld.2.1 ((Below.refl _ _).alloc (Nat.le_refl _) _), row_keep hHeld.2.2.1 ((Below.refl _ _).alloc (Nat.le_refl _) _), hHeld.2.2.2.alloc hHeld.2.2.2.size _⟩ (fun hHeld => ?_)
              clear hK K
              refine norm_ (a' := ?_) ?_ ?_
              rotate_left
              · show Act.put _ (some 8) _ = _
                simp only [Act.put, List.setIfInBounds_toArray, List.set_cons_zero, List.set_cons_succ, i64_w, i32_w]
                rfl
              exact norm_ (by simp only [putAll, Act.put, List.setIfInBounds_toArray, List.set_cons_zero, List.set_cons_succ]) (hCont (w5.heap.size, zA, zB, zC, zD) _ ⟨hs7, hge7, hHeld⟩)
            · skip
              have hge7 := hHeld.2.2.2.size
              have hs7 := instRow_of hHeld.2.2.2
              refine value_ (by rfl) rfl (exec_alloc_inst _ _ _ rfl) ?_
              refine hK.out _ _ ⟨row_keep hHeld.1 ((Below.refl _ _).alloc (Nat.le_refl _) _), row_keep hHeld.2.1 ((Below.refl _ _).alloc (Nat.le_refl _) _), row_keep hHeld.2.2.1 ((Below.refl _ _).alloc (Nat.le_refl _) _), hHeld.2.2.2.alloc hHeld.2.2.2.size _⟩ (fun hHeld => ?_)
              clear hK K
              refine norm_ (a' := ?_) ?_ ?_
              rotate_left
              · show Act.put _ (some 8) _ = _
                simp only [Act.put, List.setIfInBounds_toArray, List.set_cons_zero, List.set_cons_succ, i64_w, i32_w]
                rfl
              refine one_ (i := 5) (N := some 39) #[true, true, true, true, true, true, false, false, false, true, false, false] rfl rfl (by kernel_rfl) (by decide) (fun K hK => ?_)
              refine goes_ Try.func11 (by kernel_rfl) rfl #[.agg (setsCells d S1), .agg #[.int .i64 sec, .int .i64 nano], .agg (zoneC zA zB zC zD)] (by rfl) rfl rfl (by simp only [List.map_toArray, List.map_cons, List.map_nil]; rfl) ?_
              with_reducible refine (HN1.out zA zB zC zD _ (hz4.below ((Below.refl _ _).alloc (Nat.le_refl _) _))).mono ?_
              rintro e w5 ⟨rfl, hb5⟩
              refine ⟨_, rfl, ?_⟩
              refine hK.out _ _ ⟨row_keep hHeld.1 hb5, row_keep hHeld.2.1 hb5, row_keep hHeld.2.2.1 hb5, below_le hHeld.2.2.2 hb5⟩ (fun hHeld => ?_)
              clear hK K
              refine norm_ (a' := ?_) ?_ ?_
              rotate_left
              · show Act.put _ (some 39) _ = _
                simp only [Act.put, List.setIfInBounds_toArray, List.set_cons_zero, List.set_cons_succ, i64_w, i32_w]
                rfl
              refine pure_ (i := 6) (N := some 33) (v := ?_) (a' := ?_) #[true, true, true, true, true, true, true, false, false, true, false, false] rfl rfl (by kernel_rfl) (fun _ _ _ h => h) (Or.inl ⟨by rfl, ?_⟩) ?_ ?_
              rotate_left
              · intro w'
                go_simp
                with_reducible rfl
              rotate_left
              · simp only [Act.put, List.setIfInBounds_toArray, List.set_cons_zero, List.set_cons_succ, i64_w, i32_w]
                rfl
              refine pure_ (i := 7) (N := some 40) (v := ?_) (a' := ?_) #[true, true, true, true, true, true, true, true, false, true, false, false] rfl rfl (by kernel_rfl) (fun _ _ _ h => h) (Or.inl ⟨by rfl, ?_⟩) ?_ ?_
              rotate_left
              · intro w'
                go_simp
                with_reducible rfl
              rotate_left
              · simp only [Act.put, List.setIfInBounds_toArray, List.set_cons_zero, List.set_cons_succ, i64_w, i32_w]
                rfl
              refine pure_ (i := 8) (N := some 41) (v := ?_) (a' := ?_) #[true, true, true, true, true, true, true, true, true, true, false, false] rfl rfl (by kernel_rfl) (fun _ _ _ h => h) (Or.inl ⟨by rfl, ?_⟩) ?_ ?_
              rotate_left
              · intro w'
                go_simp
                with_reducible rfl
              rotate_left
              · simp only [Act.put, List.setIfInBounds_toArray, List.set_cons_zero, List.set_cons_succ, i64_w, i32_w]
                rfl
              exact norm_ (by simp only [putAll, Act.put, List.setIfInBounds_toArray, List.set_cons_zero, List.set_cons_succ]) (hCont (w4.heap.size, zA, zB, zC, zD) _ ⟨hs7.below hb5, hge7, hHeld⟩)
          · skip
            have hge7 := hHeld.2.2.2.size
            have hs7 := instRow_of hHeld.2.2.2
            refine value_ (by rfl) rfl (exec_alloc_inst _ _ _ rfl) ?_
            refine hK.out _ _ ⟨row_keep hHeld.1 ((Below.refl _ _).alloc (Nat.le_refl _) _), row_keep hHeld.2.1 ((Below.refl _ _).alloc (Nat.le_refl _) _), row_keep hHeld.2.2.1 ((Below.refl _ _).alloc (Nat.le_refl _) _), hHeld.2.2.2.alloc hHeld.2.2.2.size _⟩ (fun hHeld => ?_)
            clear hK K
            refine norm_ (a' := ?_) ?_ ?_
            rotate_left
            · show Act.put _ (some 8) _ = _
              simp only [Act.put, List.setIfInBounds_toArray, List.set_cons_zero, List.set_cons_succ, i64_w, i32_w]
              rfl
            refine one_ (i := 4) (N := some 38) #[true, true, true, true, true, false, false, false, false, true, false, false] rfl rfl (by kernel_rfl) (by decide) (fun K hK => ?_)
            refine goes_ Try.func25 (by kernel_rfl) rfl #[.int .i64 (wrap64 (3600 * h))] (by rfl) rfl rfl (by simp only [List.map_toArray, List.map_cons, List.map_nil]; rfl) ?_
            with_reducible refine (HFX.out _).mono ?_
            rintro e w4 ⟨zA, zB, zC, zD, rfl, hz4, hb4⟩
            refine ⟨_, rfl, ?_⟩
            refine hK.out _ _ ⟨row_keep hHeld.1 hb4, row_keep hHeld.2.1 hb4, row_keep hHeld.2.2.1 hb4, below_le hHeld.2.2.2 hb4⟩ (fun hHeld => ?_)
            clear hK K
            refine norm_ (a' := ?_) ?_ ?_
            rotate_left
            · show Act.put _ (some 38) _ = _
              simp only [Act.put, List.setIfInBounds_toArray, List.set_cons_zero, List.set_cons_succ, i64_w, i32_w]
              rfl
            refine one_ (i := 5) (N := some 39) #[true, true, true, true, true, true, false, false, false, true, false, false] rfl rfl (by kernel_rfl) (by decide) (fun K hK => ?_)
            refine goes_ Try.func11 (by kernel_rfl) rfl #[.agg (setsCells d S1), .agg #[.int .i64 sec, .int .i64 nano], .agg (zoneC zA zB zC zD)] (by rfl) rfl rfl (by simp only [List.map_toArray, List.map_cons, List.map_nil]; rfl) ?_
            with_reducible refine (HN1.out zA zB zC zD _ hz4).mono ?_
            rintro e w5 ⟨rfl, hb5⟩
            refine ⟨_, rfl, ?_⟩
            refine hK.out _ _ ⟨row_keep hHeld.1 hb5, row_keep hHeld.2.1 hb5, row_keep hHeld.2.2.1 hb5, below_le hHeld.2.2.2 hb5⟩ (fun hHeld => ?_)
            clear hK K
            refine norm_ (a' := ?_) ?_ ?_
            rotate_left
            · show Act.put _ (some 39) _ = _
              simp only [Act.put, List.setIfInBounds_toArray, List.set_cons_zero, List.set_cons_succ, i64_w, i32_w]
              rfl
            refine pure_ (i := 6) (N := some 33) (v := ?_) (a' := ?_) #[true, true, true, true, true, true, true, false, false, true, false, false] rfl rfl (by kernel_rfl) (fun _ _ _ h => h) (Or.inl ⟨by rfl, ?_⟩) ?_ ?_
            rotate_left
            · intro w'
              go_simp
              with_reducible rfl
            rotate_left
            · simp only [Act.put, List.setIfInBounds_toArray, List.set_cons_zero, List.set_cons_succ, i64_w, i32_w]
              rfl
            refine pure_ (i := 7) (N := some 40) (v := ?_) (a' := ?_) #[true, true, true, true, true, true, true, true, false, true, false, false] rfl rfl (by kernel_rfl) (fun _ _ _ h => h) (Or.inl ⟨by rfl, ?_⟩) ?_ ?_
            rotate_left
            · intro w'
              go_simp
              with_reducible rfl
            rotate_left
            · simp only [Act.put, List.setIfInBounds_toArray, List.set_cons_zero, List.set_cons_succ, i64_w, i32_w]
              rfl
            refine pure_ (i := 8) (N := some 41) (v := ?_) (a' := ?_) #[true, true, true, true, true, true, true, true, true, true, false, false] rfl rfl (by kernel_rfl) (fun _ _ _ h => h) (Or.inl ⟨by rfl, ?_⟩) ?_ ?_
            rotate_left
            · intro w'
              go_simp
              with_reducible rfl
            rotate_left
            · simp only [Act.put, List.setIfInBounds_toArray, List.set_cons_zero, List.set_cons_succ, i64_w, i32_w]
              rfl
            exact norm_ (by simp only [putAll, Act.put, List.setIfInBounds_toArray, List.set_cons_zero, List.set_cons_succ]) (hCont (wo.drew.heap.size, zA, zB, zC, zD) _ ⟨(hs7.below hb4).below hb5, hge7, hHeld⟩)
        rintro ⟨g7, zA, zB, zC, zD⟩ w5 ⟨hs7, hge7, hHeld⟩
        refine norm_ (a' := ?_) ?_ ?_
        rotate_left
        · simp only [putAll, Act.put, List.setIfInBounds_toArray, List.set_cons_zero, List.set_cons_succ]
          rfl
        refine last_ (i := 10) (N := none) #[true, true, true, true, true, true, true, true, true, true, true, false] rfl rfl (by kernel_rfl) (by decide) (fun K hK => ?_)
        rw [if_pos (by rfl)]
        refine wp_store_row 33 _ _ rfl g7 (ansI (3600 * h) r1) rfl rfl 33 instZ hs7 (by rw [ansI_size]; exact instSize) (by rw [ansI_size]; rfl) (ansI_one _ r1) ?_
        go_simp
        refine hK.out _ _ ?_
        clear hK K
        refine pure_ (i := 11) (N := some 9) (v := ?_) (a' := ?_) #[true, true, true, true, true, true, true, true, true, true, true, true] rfl rfl (by kernel_rfl) (fun _ _ _ h => h) (Or.inl ⟨by rfl, ?_⟩) ?_ ?_
        rotate_left
        · intro w'
          go_simp
          with_reducible rfl
        rotate_left
        · simp only [Act.put, List.setIfInBounds_toArray, List.set_cons_zero, List.set_cons_succ, i64_w, i32_w]
          rfl
        refine done_ (by kernel_rfl) ?_
        have hlo := row_lt hr0
        have hl1 := row_lt hr1
        have hlg := row_lt hrg
        generalize hY : World.setRow _ _ _ = w6
        have HA6 := Lib.hid (show w6.heap[g7]? = some (.cells (ansI (3600 * h) r1) 33 (0, 0)) by rw [← hY]; exact setRow_heap _ _ _ _ _ _ hs7)
        have HS6 := Lib.hid (show w6.heap[w.heap.size]? = some (.cells (setsCells d S1) 27 (0, 0)) by rw [← hY]; exact (setRow_other _ _ _ _ (by omega)).trans hHeld.1)
        have HT6 := Lib.hid (show w6.heap[w.heap.size + 1]? = some (.cells #[.int .i64 sec, .int .i64 nano] 33 (0, 0)) by rw [← hY]; exact (setRow_other _ _ _ _ (by omega)).trans hHeld.2.1)
        have HG6 := Lib.hid (show w6.heap[g2]? = some (.cells (setsCells d S2) 27 (0, 0)) by rw [← hY]; exact (setRow_other _ _ _ _ (by omega)).trans hHeld.2.2.1)
        have hB7 : Below w.heap.size w w6 := by rw [← hY]; exact below_setRow (below_le hB6 hHeld.2.2.2) (by omega) _
        clear hY hHeld hs7 hge7 hr0 hr1 hrg HS5 HT5 HG5 hB6 hlo hl1 hlg
        obtain ⟨ga, rfl⟩ : ∃ ga : Nat, ga = g7 := ⟨_, rfl⟩
        go_upto_region 7 with fail
        obtain ⟨wo, rfl⟩ : ∃ wo : World, wo = w6 := ⟨_, rfl⟩
        have hr0 := HS6.out
        have hr1 := HT6.out
        have hrg := HG6.out
        have hra := HA6.out
        refine start_ (n := 10) (S := fun w' => w'.heap[w.heap.size]? = some (.cells (setsCells d S1) 27 (0, 0)) ∧ w'.heap[w.heap.size + 1]? = some (.cells #[.int .i64 sec, .int .i64 nano] 33 (0, 0)) ∧ w'.heap[g2]? = some (.cells (setsCells d S2) 27 (0, 0)) ∧ w'.heap[ga]? = some (.cells (ansI (3600 * h) r1) 33 (0, 0)) ∧ Below wo.heap.size wo w') (ds := [8]) #[false, false, false, false, false, false, false, false, false, false] (by kernel_rfl) rfl rfl ⟨hr0, hr1, hrg, hra, (Below.refl _ _).drew⟩ (fun hHeld => ?_)
        refine take_ (i := 0) (N := some 43) (v := ?_) (a' := ?_) #[true, false, false, false, false, false, false, false, false, false] rfl rfl (by kernel_rfl) (fun _ _ _ h => h) (Or.inl ⟨by rfl, ?_⟩) hHeld ?_ ?_
        rotate_left
        · rintro w' ⟨s0, s1, s2, s3, s4⟩
          refine exec_load_row _ _ w' 27 (.tmp 7) ?_ g2 ?_ _ _ _ _ s2 Try.underlying27 rfl schedSize
          · rfl
          · rfl
        rotate_left
        · simp only [Act.put, List.setIfInBounds_toArray, List.set_cons_zero, List.set_cons_succ, i64_w, i32_w]
          rfl
        refine take_ (i := 1) (N := some 44) (v := ?_) (a' := ?_) #[true, true, false, false, false, false, false, false, false, false] rfl rfl (by kernel_rfl) (fun _ _ _ h => h) (Or.inl ⟨by rfl, ?_⟩) hHeld ?_ ?_
        rotate_left
        · rintro w' ⟨s0, s1, s2, s3, s4⟩
          refine exec_load_row _ _ w' 33 (.tmp 4) ?_ (w.heap.size + 1) ?_ _ _ _ _ s1 Try.underlying33 rfl instSize
          · rfl
          · rfl
        rotate_left
        · simp only [Act.put, List.setIfInBounds_toArray, List.set_cons_zero, List.set_cons_succ, i64_w, i32_w]
          rfl
        refine join_ (σ := Nat) 2 #[true, true, true, true, true, true, true, true, false, false] (fun s => [(45, .agg #[.slice none 0 0, .slice none 0 0, .slice none 0 0, .slice none 0 0]), (46, .tuple #[.agg (ansI 0 r2), .bool r2.isSome]), (42, .tuple #[.agg (ansI 0 r2), .bool r2.isSome]), (47, .agg (ansI 0 r2)), (48, .bool r2.isSome), (10, .pointer (some ⟨s, 0, none⟩))]) (fun s w' => InstRow w' s ∧ wo.heap.size ≤ s ∧ (w'.heap[w.heap.size]? = some (.cells (setsCells d S1) 27 (0, 0)) ∧ w'.heap[w.heap.size + 1]? = some (.cells #[.int .i64 sec, .int .i64 nano] 33 (0, 0)) ∧ w'.heap[g2]? = some (.cells (setsCells d S2) 27 (0, 0)) ∧ w'.heap[ga]? = some (.cells (ansI (3600 * h) r1) 33 (0, 0)) ∧ Below wo.heap.size wo w')) ?_ ?_
        rotate_left
        · intro hCont
          refine two_ (i := 2) (j := 7) (Ni := some 45) (Nj := some 10) #[true, true, true, false, false, false, false, false, false, false] #[true, true, false, false, false, false, false, true, false, false] rfl rfl rfl rfl (by kernel_rfl) (by decide) (by decide) (fun K hK => ?_) (fun K hK => ?_)
          · skip
            refine goes_ Try.func12 (by kernel_rfl) rfl #[] (by rfl) rfl rfl (by simp only [List.map_toArray, List.map_nil]) ?_
            with_reducible refine (HU.out _).mono ?_
            rintro e w4 ⟨rfl, hb4⟩
            refine ⟨_, rfl, ?_⟩
            refine hK.out _ _ ⟨(hb4.block _ (Array.getElem?_eq_some_iff.1 hHeld.1).1).trans hHeld.1, (hb4.block _ (Array.getElem?_eq_some_iff.1 hHeld.2.1).1).trans hHeld.2.1, (hb4.block _ (Array.getElem?_eq_some_iff.1 hHeld.2.2.1).1).trans hHeld.2.2.1, (hb4.block _ (Array.getElem?_eq_some_iff.1 hHeld.2.2.2.1).1).trans hHeld.2.2.2.1, below_le hHeld.2.2.2.2 hb4⟩ (fun hHeld => ?_)
            clear hK K
            refine norm_ (a' := ?_) ?_ ?_
            rotate_left
            · show Act.put _ (some 45) _ = _
              simp only [Act.put, List.setIfInBounds_toArray, List.set_cons_zero, List.set_cons_succ, i64_w, i32_w]
              rfl
            refine two_ (i := 3) (j := 7) (Ni := some 46) (Nj := some 10) #[true, true, true, true, false, false, false, false, false, false] #[true, true, true, false, false, false, false, true, false, false] rfl rfl rfl rfl (by kernel_rfl) (by decide) (by decide) (fun K hK => ?_) (fun K hK => ?_)
            · skip
              refine goes_ Try.func11 (by kernel_rfl) rfl #[.agg (setsCells d S2), .agg #[.int .i64 sec, .int .i64 nano], .agg #[.slice none 0 0, .slice none 0 0, .slice none 0 0, .slice none 0 0]] (by rfl) rfl rfl (by simp only [List.map_toArray, List.map_cons, List.map_nil]; rfl) ?_
              with_reducible refine (HN2.out _).mono ?_
              rintro e w5 ⟨rfl, hb5⟩
              refine ⟨_, rfl, ?_⟩
              refine hK.out _ _ ⟨(hb5.block _ (Array.getElem?_eq_some_iff.1 hHeld.1).1).trans hHeld.1, (hb5.block _ (Array.getElem?_eq_some_iff.1 hHeld.2.1).1).trans hHeld.2.1, (hb5.block _ (Array.getElem?_eq_some_iff.1 hHeld.2.2.1).1).trans hHeld.2.2.1, (hb5.block _ (Array.getElem?_eq_some_iff.1 hHeld.2.2.2.1).1).trans hHeld.2.2.2.1, below_le hHeld.2.2.2.2 hb5⟩ (fun hHeld => ?_)
              clear hK K
              refine norm_ (a' := ?_) ?_ ?_
              rotate_left
              · show Act.put _ (some 46) _ = _
                simp only [Act.put, List.setIfInBounds_toArray, List.set_cons_zero, List.set_cons_succ, i64_w, i32_w]
                rfl
              refine pure_ (i := 4) (N := some 42) (v := ?_) (a' := ?_) #[true, true, true, true, true, false, false, false, false, false] rfl rfl (by kernel_rfl) (fun _ _ _ h => h) (Or.inl ⟨by rfl, ?_⟩) ?_ ?_
              rotate_left
              · intro w'
                go_simp
                with_reducible rfl
              rotate_left
              · simp only [Act.put, List.setIfInBounds_toArray, List.set_cons_zero, List.set_cons_succ, i64_w, i32_w]
                rfl
              refine pure_ (i := 5) (N := some 47) (v := ?_) (a' := ?_) #[true, true, true, true, true, true, false, false, false, false] rfl rfl (by kernel_rfl) (fun _ _ _ h => h) (Or.inl ⟨by rfl, ?_⟩) ?_ ?_
              rotate_left
              · intro w'
                go_simp
                with_reducible rfl
              rotate_left
              · simp only [Act.put, List.setIfInBounds_toArray, List.set_cons_zero, List.set_cons_succ, i64_w, i32_w]
                rfl
              refine pure_ (i := 6) (N := some 48) (v := ?_) (a' := ?_) #[true, true, true, true, true, true, true, false, false, false] rfl rfl (by kernel_rfl) (fun _ _ _ h => h) (Or.inl ⟨by rfl, ?_⟩) ?_ ?_
              rotate_left
              · intro w'
                go_simp
                with_reducible rfl
              rotate_left
              · simp only [Act.put, List.setIfInBounds_toArray, List.set_cons_zero, List.set_cons_succ, i64_w, i32_w]
                rfl
              refine one_ (i := 7) (N := some 10) #[true, true, true, true, true, true, true, true, false, false] rfl rfl (by kernel_rfl) (by decide) (fun K hK => ?_)
              have hge7 := hHeld.2.2.2.2.size
              have hs7 := instRow_of hHeld.2.2.2.2
              refine value_ (by rfl) rfl (exec_alloc_inst _ _ _ rfl) ?_
              refine hK.out _ _ ⟨(((Below.refl _ _).alloc (Nat.le_refl _) _).block _ (Array.getElem?_eq_some_iff.1 hHeld.1).1).trans hHeld.1, (((Below.refl _ _).alloc (Nat.le_refl _) _).block _ (Array.getElem?_eq_some_iff.1 hHeld.2.1).1).trans hHeld.2.1, (((Below.refl _ _).alloc (Nat.le_refl _) _).block _ (Array.getElem?_eq_some_iff.1 hHeld.2.2.1).1).trans hHeld.2.2.1, (((Below.refl _ _).alloc (Nat.le_refl _) _).block _ (Array.getElem?_eq_some_iff.1 hHeld.2.2.2.1).1).trans hHeld.2.2.2.1, hHeld.2.2.2.2.alloc hHeld.2.2.2.2.size _⟩ (fun hHeld => ?_)
              clear hK K
              refine norm_ (a' := ?_) ?_ ?_
              rotate_left
              · show Act.put _ (some 10) _ = _
                simp only [Act.put, List.setIfInBounds_toArray, List.set_cons_zero, List.set_cons_succ, i64_w, i32_w]
                rfl
              exact norm_ (by simp only [putAll, Act.put, List.setIfInBounds_toArray, List.set_cons_zero, List.set_cons_succ]) (hCont w5.heap.size _ ⟨hs7, hge7, hHeld⟩)
            · skip
              have hge7 := hHeld.2.2.2.2.size
              have hs7 := instRow_of hHeld.2.2.2.2
              refine value_ (by rfl) rfl (exec_alloc_inst _ _ _ rfl) ?_
              refine hK.out _ _ ⟨(((Below.refl _ _).alloc (Nat.le_refl _) _).block _ (Array.getElem?_eq_some_iff.1 hHeld.1).1).trans hHeld.1, (((Below.refl _ _).alloc (Nat.le_refl _) _).block _ (Array.getElem?_eq_some_iff.1 hHeld.2.1).1).trans hHeld.2.1, (((Below.refl _ _).alloc (Nat.le_refl _) _).block _ (Array.getElem?_eq_some_iff.1 hHeld.2.2.1).1).trans hHeld.2.2.1, (((Below.refl _ _).alloc (Nat.le_refl _) _).block _ (Array.getElem?_eq_some_iff.1 hHeld.2.2.2.1).1).trans hHeld.2.2.2.1, hHeld.2.2.2.2.alloc hHeld.2.2.2.2.size _⟩ (fun hHeld => ?_)
              clear hK K
              refine norm_ (a' := ?_) ?_ ?_
              rotate_left
              · show Act.put _ (some 10) _ = _
                simp only [Act.put, List.setIfInBounds_toArray, List.set_cons_zero, List.set_cons_succ, i64_w, i32_w]
                rfl
              refine one_ (i := 3) (N := some 46) #[true, true, true, true, false, false, false, true, false, false] rfl rfl (by kernel_rfl) (by decide) (fun K hK => ?_)
              refine goes_ Try.func11 (by kernel_rfl) rfl #[.agg (setsCells d S2), .agg #[.int .i64 sec, .int .i64 nano], .agg #[.slice none 0 0, .slice none 0 0, .slice none 0 0, .slice none 0 0]] (by rfl) rfl rfl (by simp only [List.map_toArray, List.map_cons, List.map_nil]; rfl) ?_
              with_reducible refine (HN2.out _).mono ?_
              rintro e w5 ⟨rfl, hb5⟩
              refine ⟨_, rfl, ?_⟩
              refine hK.out _ _ ⟨(hb5.block _ (Array.getElem?_eq_some_iff.1 hHeld.1).1).trans hHeld.1, (hb5.block _ (Array.getElem?_eq_some_iff.1 hHeld.2.1).1).trans hHeld.2.1, (hb5.block _ (Array.getElem?_eq_some_iff.1 hHeld.2.2.1).1).trans hHeld.2.2.1, (hb5.block _ (Array.getElem?_eq_some_iff.1 hHeld.2.2.2.1).1).trans hHeld.2.2.2.1, below_le hHeld.2.2.2.2 hb5⟩ (fun hHeld => ?_)
              clear hK K
              refine norm_ (a' := ?_) ?_ ?_
              rotate_left
              · show Act.put _ (some 46) _ = _
                simp only [Act.put, List.setIfInBounds_toArray, List.set_cons_zero, List.set_cons_succ, i64_w, i32_w]
                rfl
              refine pure_ (i := 4) (N := some 42) (v := ?_) (a' := ?_) #[true, true, true, true, true, false, false, true, false, false] rfl rfl (by kernel_rfl) (fun _ _ _ h => h) (Or.inl ⟨by rfl, ?_⟩) ?_ ?_
              rotate_left
              · intro w'
                go_simp
                with_reducible rfl
              rotate_left
              · simp only [Act.put, List.setIfInBounds_toArray, List.set_cons_zero, List.set_cons_succ, i64_w, i32_w]
                rfl
              refine pure_ (i := 5) (N := some 47) (v := ?_) (a' := ?_) #[true, true, true, true, true, true, false, true, false, false] rfl rfl (by kernel_rfl) (fun _ _ _ h => h) (Or.inl ⟨by rfl, ?_⟩) ?_ ?_
              rotate_left
              · intro w'
                go_simp
                with_reducible rfl
              rotate_left
              · simp only [Act.put, List.setIfInBounds_toArray, List.set_cons_zero, List.set_cons_succ, i64_w, i32_w]
                rfl
              refine pure_ (i := 6) (N := some 48) (v := ?_) (a' := ?_) #[true, true, true, true, true, true, true, true, false, false] rfl rfl (by kernel_rfl) (fun _ _ _ h => h) (Or.inl ⟨by rfl, ?_⟩) ?_ ?_
              rotate_left
              · intro w'
                go_simp
                with_reducible rfl
              rotate_left
              · simp only [Act.put, List.setIfInBounds_toArray, List.set_cons_zero, List.set_cons_succ, i64_w, i32_w]
                rfl
              exact norm_ (by simp only [putAll, Act.put, List.setIfInBounds_toArray, List.set_cons_zero, List.set_cons_succ]) (hCont w4.heap.size _ ⟨hs7.below hb5, hge7, hHeld⟩)
          · skip
            have hge7 := hHeld.2.2.2.2.size
            have hs7 := instRow_of hHeld.2.2.2.2
            refine value_ (by rfl) rfl (exec_alloc_inst _ _ _ rfl) ?_
            refine hK.out _ _ ⟨(((Below.refl _ _).alloc (Nat.le_refl _) _).block _ (Array.getElem?_eq_some_iff.1 hHeld.1).1).trans hHeld.1, (((Below.refl _ _).alloc (Nat.le_refl _) _).block _ (Array.getElem?_eq_some_iff.1 hHeld.2.1).1).trans hHeld.2.1, (((Below.refl _ _).alloc (Nat.le_refl _) _).block _ (Array.getElem?_eq_some_iff.1 hHeld.2.2.1).1).trans hHeld.2.2.1, (((Below.refl _ _).alloc (Nat.le_refl _) _).block _ (Array.getElem?_eq_some_iff.1 hHeld.2.2.2.1).1).trans hHeld.2.2.2.1, hHeld.2.2.2.2.alloc hHeld.2.2.2.2.size _⟩ (fun hHeld => ?_)
            clear hK K
            refine norm_ (a' := ?_) ?_ ?_
            rotate_left
            · show Act.put _ (some 10) _ = _
              simp only [Act.put, List.setIfInBounds_toArray, List.set_cons_zero, List.set_cons_succ, i64_w, i32_w]
              rfl
            refine one_ (i := 2) (N := some 45) #[true, true, true, false, false, false, false, true, false, false] rfl rfl (by kernel_rfl) (by decide) (fun K hK => ?_)
            refine goes_ Try.func12 (by kernel_rfl) rfl #[] (by rfl) rfl rfl (by simp only [List.map_toArray, List.map_nil]) ?_
            with_reducible refine (HU.out _).mono ?_
            rintro e w4 ⟨rfl, hb4⟩
            refine ⟨_, rfl, ?_⟩
            refine hK.out _ _ ⟨(hb4.block _ (Array.getElem?_eq_some_iff.1 hHeld.1).1).trans hHeld.1, (hb4.block _ (Array.getElem?_eq_some_iff.1 hHeld.2.1).1).trans hHeld.2.1, (hb4.block _ (Array.getElem?_eq_some_iff.1 hHeld.2.2.1).1).trans hHeld.2.2.1, (hb4.block _ (Array.getElem?_eq_some_iff.1 hHeld.2.2.2.1).1).trans hHeld.2.2.2.1, below_le hHeld.2.2.2.2 hb4⟩ (fun hHeld => ?_)
            clear hK K
            refine norm_ (a' := ?_) ?_ ?_
            rotate_left
            · show Act.put _ (some 45) _ = _
              simp only [Act.put, List.setIfInBounds_toArray, List.set_cons_zero, List.set_cons_succ, i64_w, i32_w]
              rfl
            refine one_ (i := 3) (N := some 46) #[true, true, true, true, false, false, false, true, false, false] rfl rfl (by kernel_rfl) (by decide) (fun K hK => ?_)
            refine goes_ Try.func11 (by kernel_rfl) rfl #[.agg (setsCells d S2), .agg #[.int .i64 sec, .int .i64 nano], .agg #[.slice none 0 0, .slice none 0 0, .slice none 0 0, .slice none 0 0]] (by rfl) rfl rfl (by simp only [List.map_toArray, List.map_cons, List.map_nil]; rfl) ?_
            with_reducible refine (HN2.out _).mono ?_
            rintro e w5 ⟨rfl, hb5⟩
            refine ⟨_, rfl, ?_⟩
            refine hK.out _ _ ⟨(hb5.block _ (Array.getElem?_eq_some_iff.1 hHeld.1).1).trans hHeld.1, (hb5.block _ (Array.getElem?_eq_some_iff.1 hHeld.2.1).1).trans hHeld.2.1, (hb5.block _ (Array.getElem?_eq_some_iff.1 hHeld.2.2.1).1).trans hHeld.2.2.1, (hb5.block _ (Array.getElem?_eq_some_iff.1 hHeld.2.2.2.1).1).trans hHeld.2.2.2.1, below_le hHeld.2.2.2.2 hb5⟩ (fun hHeld => ?_)
            clear hK K
            refine norm_ (a' := ?_) ?_ ?_
            rotate_left
            · show Act.put _ (some 46) _ = _
              simp only [Act.put, List.setIfInBounds_toArray, List.set_cons_zero, List.set_cons_succ, i64_w, i32_w]
              rfl
            refine pure_ (i := 4) (N := some 42) (v := ?_) (a' := ?_) #[true, true, true, true, true, false, false, true, false, false] rfl rfl (by kernel_rfl) (fun _ _ _ h => h) (Or.inl ⟨by rfl, ?_⟩) ?_ ?_
            rotate_left
            · intro w'
              go_simp
              with_reducible rfl
            rotate_left
            · simp only [Act.put, List.setIfInBounds_toArray, List.set_cons_zero, List.set_cons_succ, i64_w, i32_w]
              rfl
            refine pure_ (i := 5) (N := some 47) (v := ?_) (a' := ?_) #[true, true, true, true, true, true, false, true, false, false] rfl rfl (by kernel_rfl) (fun _ _ _ h => h) (Or.inl ⟨by rfl, ?_⟩) ?_ ?_
            rotate_left
            · intro w'
              go_simp
              with_reducible rfl
            rotate_left
            · simp only [Act.put, List.setIfInBounds_toArray, List.set_cons_zero, List.set_cons_succ, i64_w, i32_w]
              rfl
            refine pure_ (i := 6) (N := some 48) (v := ?_) (a' := ?_) #[true, true, true, true, true, true, true, true, false, false] rfl rfl (by kernel_rfl) (fun _ _ _ h => h) (Or.inl ⟨by rfl, ?_⟩) ?_ ?_
            rotate_left
            · intro w'
              go_simp
              with_reducible rfl
            rotate_left
            · simp only [Act.put, List.setIfInBounds_toArray, List.set_cons_zero, List.set_cons_succ, i64_w, i32_w]
              rfl
            exact norm_ (by simp only [putAll, Act.put, List.setIfInBounds_toArray, List.set_cons_zero, List.set_cons_succ]) (hCont wo.drew.heap.size _ ⟨(hs7.below hb4).below hb5, hge7, hHeld⟩)
        rintro g7 w5 ⟨hs7, hge7, hHeld⟩
        refine norm_ (a' := ?_) ?_ ?_
        rotate_left
        · simp only [putAll, Act.put, List.setIfInBounds_toArray, List.set_cons_zero, List.set_cons_succ]
          rfl
        refine last_ (i := 8) (N := none) #[true, true, true, true, true, true, true, true, true, false] rfl rfl (by kernel_rfl) (by decide) (fun K hK => ?_)
        rw [if_pos (by rfl)]
        refine wp_store_row 33 _ _ rfl g7 (ansI 0 r2) rfl rfl 33 instZ hs7 (by rw [ansI_size]; exact instSize) (by rw [ansI_size]; rfl) (ansI_one 0 r2) ?_
        go_simp
        refine hK.out _ _ ?_
        clear hK K
        refine pure_ (i := 9) (N := some 11) (v := ?_) (a' := ?_) #[true, true, true, true, true, true, true, true, true, true] rfl rfl (by kernel_rfl) (fun _ _ _ h => h) (Or.inl ⟨by rfl, ?_⟩) ?_ ?_
        rotate_left
        · intro w'
          go_simp
          with_reducible rfl
        rotate_left
        · simp only [Act.put, List.setIfInBounds_toArray, List.set_cons_zero, List.set_cons_succ, i64_w, i32_w]
          rfl
        refine done_ (by kernel_rfl) ?_
        have hlo := row_lt hr0
        have hla := row_lt hra
        generalize hY : World.setRow _ _ _ = w7
        have HB8 := Lib.hid (show w7.heap[g7]? = some (.cells (ansI 0 r2) 33 (0, 0)) by rw [← hY]; exact setRow_heap _ _ _ _ _ _ hs7)
        have HS8 := Lib.hid (show w7.heap[w.heap.size]? = some (.cells (setsCells d S1) 27 (0, 0)) by rw [← hY]; exact (setRow_other _ _ _ _ (by omega)).trans hHeld.1)
        have HA8 := Lib.hid (show w7.heap[ga]? = some (.cells (ansI (3600 * h) r1) 33 (0, 0)) by rw [← hY]; exact (setRow_other _ _ _ _ (by omega)).trans hHeld.2.2.2.1)
        have hB8 : Below w.heap.size w w7 := by rw [← hY]; exact below_setRow (below_le hB7 hHeld.2.2.2.2) (by omega) _
        clear hY hHeld hs7 hge7 hr0 hr1 hrg hra HS6 HT6 HG6 HA6 hB7 hlo hla HFX HN1 HN2 HU
        obtain ⟨gb, rfl⟩ : ∃ gb : Nat, gb = g7 := ⟨_, rfl⟩
        obtain ⟨hTa, hTb⟩ := HTL.out
        have HNB : Hid (neverB S1 = !r1.isSome) := Lib.hid (by
          cases hr : r1 with
          | none =>
            rw [hr] at hTb
            cases hn : neverB S1 with
            | true => rfl
            | false => exact absurd (hTb.2 (HNI.out.1 hn)) (by simp)
          | some x =>
            rw [hr] at hTb
            exact HNI.out.2 (hTb.1 rfl))
        clear hTb HNI HTL
        rw [HNB.out] at HNV
        clear HNB
        have HMV : Hid (∀ w' : World, Calls Try.prog 26 #[.agg (ansI (3600 * h) r1), .bool r1.isSome, .agg (ansI 0 r2), .bool r2.isSome, .int .i64 0] w' fun e w2 => e = .returned (.bool true) ∧ Below w'.heap.size w' w2) := Lib.hid (fun w' => by
          cases hr : r2 with
          | none =>
            rw [hr] at hTa
            subst hTa
            exact laws_cronMoved.calls 0 0 false 0 0 false 0 true w' rfl
          | some L =>
            rw [hr] at hTa
            subst hTa
            rw [hr] at HL2
            obtain ⟨l1, -, -, l4⟩ := HL2.out
            have hlt := lim_lt (L := L) (y := 10011) (by have := year_top (L := sec + 1) (by omega); omega)
            rw [show ystart (10011 + 1) = 2937280 from by decide] at hlt
            refine laws_cronMoved.calls (L + 3600 * h - 3600 * h) 0 true (L - 0) 0 true 0 true w' ?_
            unfold laws_cronMoved.f
            rw [if_pos (by rfl), if_pos rfl, if_pos (by unfold wrap64; omega)]
            rfl)
        clear HL2 hTa
        generalize hrs : r1.isSome = is1 at *
        generalize r2.isSome = is2 at *
        go_wp2_with (first
          | (refine wpList_load_row rfl 33 _ rfl ga rfl _ _ _ _ HA8.out Try.underlying33 rfl (by rw [ansI_size]; exact instSize) ?_)
          | (refine wpList_load_row rfl 33 _ rfl gb rfl _ _ _ _ HB8.out Try.underlying33 rfl (by rw [ansI_size]; exact instSize) ?_))
        refine (HMV.out _).mono ?_
        rintro e w8 ⟨rfl, hb8⟩
        have HS9 := Lib.hid (row_keep HS8.out hb8)
        have hB9 := below_le hB8 hb8
        clear hb8 HS8 HA8 HB8 hB8
        dsimp only
        go_wp2_with (refine wpList_load_rowG (by rfl) 27 _ rfl w.heap.size rfl _ _ _ _ HS9.out Try.underlying27 rfl schedSize ?_)
        refine (HFO.out _).mono ?_
        rintro e w9 ⟨rfl, hb9⟩
        have hB10 := below_le hB9 hb9
        clear hb9 HS9 hB9
        dsimp only
        go_wp2_with fail
        refine (HNV.out _).mono ?_
        rintro e w10 ⟨rfl, hb10⟩
        have hB11 := below_le hB10 hb10
        clear hb10 hB10
        dsimp only
        cases is1
        all_goals
          go_wp2_with fail
          go_ret
          exact ⟨rfl, hB11⟩
theorem rowTurned (ev : Bool) (d : Int) (S : Sets) (hS : S.ok) (sec nano h : Int) (hh : (Lit.int .i64 h).wf = true) (w : World) :
    Calls Try.prog 7 #[.agg (schedC ev d S), .agg #[.int .i64 sec, .int .i64 nano], .int .i64 h] w fun e w' => e = .returned (.bool true) ∧ Below w.heap.size w w' := lawTurned_any ev d S hS sec nano h w
end Go.Proofs.Ytbgbeohiafiacaa.Cron
