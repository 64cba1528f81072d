/- Lemmas and walks on the way to the law, merged by wip/tools/pack.py: NextL0, NextL1, NextL2. Conditions: none. -/
import Derived.Test.YtbgbeohiafiacaaGrD
namespace Go.Proofs.Ytbgbeohiafiacaa.Cal
open Go Go.RowKit Go.Proofs.YtbgbeohiafiacaaW.PrintWords Go.Proofs.YtbgbeohiafiacaaW.PrintLast
set_option linter.unusedVariables false
set_option linter.unusedSimpArgs false

set_option maxRecDepth 100000 in
set_option maxHeartbeats 8000000 in
theorem loop0 {l : Option Addr} {off : Int} {Inv : World → Prop} {Loc : World → Nat → Prop} (H : Clock l off Inv Loc) (hls : LocS Loc) {w : World} {g T k0 k1 : Nat} {S : Sets} {f lim : Int} (P : Par off Inv w g S f lim) (Q : Exit → Act → World → Prop) (L : Int) (ad : Bool) (a : Act) (wr : World) (ha : Fr g T k0 k1 ad lim a) (hst : St l off Loc w T k0 k1 wr L) (hat : At S f ad L) (hy : yearL L ≤ lim)
    (next : ∀ (a' : Act) (w' : World) (L' : Int) (ad' : Bool), Fr g T k0 k1 ad' lim a' → St l off Loc w T k0 k1 w' L' → At S f ad' L' → monthB S L' = true → yearL L' ≤ lim → L ≤ L' → Q .normal a' w')
    (jump : ∀ (a' : Act) (w' : World) (L' : Int), Fr g T k0 k1 true lim a' → St l off Loc w T k0 k1 w' L' → At S f true L' → L < L' → yearL L' ≤ lim + 1 → Q (.goto 0) a' w') :
    (loopK (Try.f125.body.getD .skip) 0).wp Try.prog (Exit.inBlock 0 Q) a wr := by
  obtain ⟨u, rfl⟩ := ha.open
  have HNEXT := Lib.hid next
  have HJUMP := Lib.hid jump
  have HST := Lib.hid hst
  have HAT := Lib.hid hat
  clear next jump hst hat ha
  simp only [loopK, loops, Try.f125, Option.getD_some, List.append_assoc, List.cons_append, List.nil_append, List.getElem?_cons_zero, List.getElem?_cons_succ]
  go_loopw [7] (fun v7 wr => ∃ (ad : Bool) (L' : Int), v7 = .bool ad ∧ Hid (St l off Loc w T k0 k1 wr L') ∧ Hid (At S f ad L') ∧ yearL L' ≤ lim ∧ L ≤ L') (fun _ wr => muT T (bndE off lim) wr)
  case atStart => exact ⟨ad, L, rfl, HST, HAT, hy, Int.le_refl _⟩
  case round =>
    obtain ⟨ad, L1, rfl, HS, HA, hy1, hle⟩ := hrel
    clear HST HAT hy
    obtain ⟨hok, hyk⟩ := P.okL HA.out.ge (by omega)
    obtain ⟨wo, hwo⟩ : ∃ wo, wo = wr := ⟨_, rfl⟩
    subst hwo
    have hspec : SpecRow wo g S none := P.spec.below HS.out.bel
    have HI := Lib.hid (H.abs.keeps P.inv HS.out.bel)
    have HC : Hid (∀ (w' : World), Inv w' → Calls Try.prog 128 #[.agg (tcells l off (L1))] w' fun e' w2 => e' = .returned (.int .i64 (monthL (L1))) ∧ Below w'.heap.size w' w2) := Lib.hid (fun w' hI' => cMonth H (L1) w' hok hI')
    have hm12 : 1 ≤ monthL L1 ∧ monthL L1 ≤ 12 := ⟨(date_L L1).1.m1, (date_L L1).1.m2⟩
    have hst := HS.out
    go_upto_region 12 with fail
    refine wp_only ?_
    refine start_ (n := 10) (S := fun w' => w'.heap[T]? = some (.cells (tcells l off L1) 74 (0, 0)) ∧ SpecRow w' g S none ∧ Below wo.heap.size wo w') (ds := []) #[false, false, false, false, false, false, false, false, false, false] (by kernel_rfl) rfl rfl ⟨hst.row, hspec, (Below.refl _ _).drew⟩ (fun hHeld => ?_)
    refine pure_ (i := 4) (N := some 48) (v := ?_) (a' := ?_) #[false, false, false, false, true, false, false, false, false, false] rfl rfl (by kernel_rfl) (fun _ _ _ h => h) (Or.inl ⟨by rfl, ?_⟩) ?_ ?_
    rotate_left
    · intro w'
      go_simp
      with_reducible rfl
    rotate_left
    · simp only [Act.put, List.setIfInBounds_toArray, List.set_cons_zero, List.set_cons_succ, i64_w, i32_w]
      rfl
    refine pure_ (i := 5) (N := some 49) (v := ?_) (a' := ?_) #[false, false, false, false, true, true, false, false, false, false] rfl rfl (by kernel_rfl) (fun _ _ _ h => h) (Or.inl ⟨by rfl, ?_⟩) ?_ ?_
    rotate_left
    · intro w'
      go_simp
      with_reducible rfl
    rotate_left
    · simp only [Act.put, List.setIfInBounds_toArray, List.set_cons_zero, List.set_cons_succ, i64_w, i32_w]
      rfl
    refine pure_ (i := 6) (N := some 50) (v := ?_) (a' := ?_) #[false, false, false, false, true, true, true, false, false, false] rfl rfl (by kernel_rfl) (fun _ _ _ h => h) (Or.inl ⟨by rfl, ?_⟩) ?_ ?_
    rotate_left
    · intro w'
      go_simp
      with_reducible rfl
    rotate_left
    · simp only [Act.put, List.setIfInBounds_toArray, List.set_cons_zero, List.set_cons_succ, i64_w, i32_w]
      rfl
    refine take_ (i := 0) (N := some 44) (v := ?_) (a' := ?_) #[true, false, false, false, true, true, true, false, false, false] rfl rfl (by kernel_rfl) (fun _ _ _ h => h) (Or.inl ⟨by rfl, ?_⟩) hHeld ?_ ?_
    rotate_left
    · rintro w' ⟨s0, s1, s2⟩
      refine exec_load_row _ _ w' 74 (.tmp 3) ?_ T ?_ _ _ _ _ s0 Try.underlying74 rfl timeSize
      · rfl
      · rfl
    rotate_left
    · simp only [Act.put, List.setIfInBounds_toArray, List.set_cons_zero, List.set_cons_succ, i64_w, i32_w]
      rfl
    refine take_ (i := 7) (N := some 51) (v := ?_) (a' := ?_) #[true, false, false, false, true, true, true, true, false, false] rfl rfl (by kernel_rfl) (fun _ _ _ h => h) (Or.inl ⟨by rfl, ?_⟩) hHeld ?_ ?_
    rotate_left
    · rintro w' ⟨s0, s1, s2⟩
      have c3 : w'.cell? ⟨g, 4, none⟩ = some (.int .u64 (S.month : Int)) := cell_of_row _ _ _ _ _ _ s1
      go_simp
      with_reducible rfl
    rotate_left
    · simp only [Act.put, List.setIfInBounds_toArray, List.set_cons_zero, List.set_cons_succ, i64_w, i32_w]
      rfl
    refine one_ (i := 1) (N := some 45) #[true, true, false, false, true, true, true, true, false, false] rfl rfl (by kernel_rfl) (by decide) (fun K hK => ?_)
    refine goes_ Try.func128 (by kernel_rfl) rfl #[.agg (tcells l off L1)] (by rfl) rfl rfl (by simp only [List.map_toArray, List.map_cons, List.map_nil]; rfl) ?_
    with_reducible refine (HC.out _ (H.abs.keeps HI.out hHeld.2.2)).mono ?_
    rintro e3 w3 ⟨rfl, hb1⟩
    refine ⟨_, rfl, ?_⟩
    refine hK.out _ _ ⟨(hb1.block _ (Array.getElem?_eq_some_iff.1 hHeld.1).1).trans hHeld.1, hHeld.2.1.below hb1, below_le hHeld.2.2 hb1⟩ (fun hHeld => ?_)
    clear hK K
    refine norm_ (a' := ?_) ?_ ?_
    rotate_left
    · show Act.put _ (some 45) _ = _
      simp only [Act.put, List.setIfInBounds_toArray, List.set_cons_zero, List.set_cons_succ, i64_w, i32_w]
      rfl
    refine pure_ (i := 2) (N := some 46) (v := ?_) (a' := ?_) #[true, true, true, false, true, true, true, true, false, false] rfl rfl (by kernel_rfl) (fun _ _ _ h => h) (Or.inl ⟨by rfl, ?_⟩) ?_ ?_
    rotate_left
    · intro w'
      go_simp
      with_reducible rfl
    rotate_left
    · simp only [Act.put, List.setIfInBounds_toArray, List.set_cons_zero, List.set_cons_succ, i64_w, i32_w]
      rfl
    refine pure_ (i := 3) (N := some 47) (v := ?_) (a' := ?_) #[true, true, true, true, true, true, true, true, false, false] rfl rfl (by kernel_rfl) (fun _ _ _ h => h) (Or.inl ⟨by rfl, ?_⟩) ?_ ?_
    rotate_left
    · intro w'
      go_simp
      with_reducible rfl
    rotate_left
    · simp only [Act.put, List.setIfInBounds_toArray, List.set_cons_zero, List.set_cons_succ, i64_w, i32_w]
      rfl
    refine pure_ (i := 8) (N := some 52) (v := ?_) (a' := ?_) #[true, true, true, true, true, true, true, true, true, false] rfl rfl (by kernel_rfl) (fun _ _ _ h => h) (Or.inl ⟨by rfl, ?_⟩) ?_ ?_
    rotate_left
    · intro w'
      go_simp
      with_reducible rfl
    rotate_left
    · simp only [Act.put, List.setIfInBounds_toArray, List.set_cons_zero, List.set_cons_succ, i64_w, i32_w]
      rfl
    refine pure_ (i := 9) (N := some 53) (v := ?_) (a' := ?_) #[true, true, true, true, true, true, true, true, true, true] rfl rfl (by kernel_rfl) (fun _ _ _ h => h) (Or.inl ⟨by rfl, ?_⟩) ?_ ?_
    rotate_left
    · intro w'
      go_simp
      with_reducible rfl
    rotate_left
    · simp only [Act.put, List.setIfInBounds_toArray, List.set_cons_zero, List.set_cons_succ, i64_w, i32_w]
      rfl
    refine done_ (by kernel_rfl) ?_
    dsimp only [only]
    obtain ⟨-, hspec3, hb3⟩ := hHeld
    have HS3 := Lib.hid (HS.out.below H hb3)
    have HI3 := Lib.hid (H.abs.keeps P.inv HS3.out.bel)
    rw [bit_eq P.ok.2.2.2.2.1 (by omega) (by omega)]
    have hmB : inB S.month (monthL L1) = monthB S L1 := rfl
    rw [hmB]
    generalize IntKind.u64.wrap (2 ^ min (IntKind.u64.wrap (monthL L1)).toNat 64) = junk
    clear hst hspec hspec3 hmB hb1 hb3
    cases hm : monthB S L1 with
    | true =>
      go_wp2_with fail
      exact HNEXT.out _ _ L1 ad ⟨rfl, rfl, rfl, rfl, rfl, rfl, rfl, rfl, rfl⟩ HS3.out HA.out hm hy1 hle
    | false =>
      cases ad with
      | true =>
        obtain ⟨X, hXe⟩ : ∃ X, X = L1 := ⟨_, rfl⟩
        have hX0 : (LOk off X ∧ YOk X) ∧ X = mFirst X * 86400 ∧ mNext X = mNext L1 := by
          rw [hXe]
          exact ⟨⟨hok, hyk⟩, (HA.out.mo rfl).resolve_left (by rw [hm]; decide), rfl⟩
        have HSX := Lib.hid HS3.out
        rw [← hXe] at HSX
        clear hXe
        obtain ⟨hokX, hXa, hXn⟩ := hX0
        have HAM : Hid (∀ (w' : World), Inv w' → Calls Try.prog 130 #[.agg (tcells l off (X)), .int .i64 0, .int .i64 1, .int .i64 0] w' fun e' w2 => e' = .returned (.agg (tcells l off (mNext X))) ∧ Below w'.heap.size w' w2) := Lib.hid (fun w' hI' => cAddMonth H (X) w' hokX.1 hI' hokX.2 hXa)
        have hX0' := 0
        have hgt := (mNext_gt L1).1
        have HMN := Lib.hid (mNext_date L1)
        have HAT2 := Lib.hid (at_month HA.out hm)
        have HXN := Lib.hid hXn
        obtain ⟨hok2, -⟩ := P.okL (L := mNext L1) (by have := HA.out.ge; omega) (by rw [HMN.out.2.2.2]; split <;> omega)
        have HM2 : Hid (∀ (w' : World), Inv w' → Calls Try.prog 128 #[.agg (tcells l off (mNext L1))] w' fun e' w2 => e' = .returned (.int .i64 (monthL (mNext L1))) ∧ Below w'.heap.size w' w2) := Lib.hid (fun w' hI' => cMonth H (mNext L1) w' hok2 hI')
        clear hX0' hXa hXn hokX
        go_wp2_with (refine wpList_load_row rfl 74 _ rfl T rfl _ _ _ _ HSX.out.row Try.underlying74 rfl timeSize ?_)
        refine (HAM.out _ (H.abs.keeps P.inv HSX.out.bel)).mono ?_
        rintro e w6 ⟨rfl, hb6⟩
        have hst6 := HSX.out.below H hb6
        try rw [HXN.out]
        go_wp2_with (first | (refine wpList_store_row rfl 74 _ _ rfl T (tcells l off (mNext L1)) rfl rfl 74 _ hst6.row timeSize rfl (tcells_one _ _ _) ?_; generalize hX : World.setRow _ _ _ = wz; have HSZ := Lib.hid (show St l off Loc w T k0 k1 wz (mNext L1) by rw [← hX]; exact hst6.put hls _); clear hX) | (refine wpList_load_row rfl 74 _ rfl T rfl _ _ _ _ HSZ.out.row Try.underlying74 rfl timeSize ?_))
        refine (HM2.out _ (H.abs.keeps P.inv HSZ.out.bel)).mono ?_
        rintro e w7 ⟨rfl, hb7⟩
        have HS7 := Lib.hid (HSZ.out.below H hb7)
        by_cases h1 : monthL (mNext L1) = 1
        · have hd : (monthL (mNext L1) == 1) = true := by simp [h1]
          go_wp2_with fail
          refine wp_goto ?_
          refine HJUMP.out _ _ (mNext L1) ?_ HS7.out HAT2.out (by omega) (by rw [HMN.out.2.2.2]; split <;> omega)
          exact ⟨rfl, rfl, rfl, rfl, rfl, rfl, rfl, rfl, rfl⟩
        · have hd : (monthL (mNext L1) == 1) = false := by simp [h1]
          have hne : ¬ monthL L1 = 12 := fun h => h1 (by rw [HMN.out.2.2.1, if_pos h])
          go_wp2_with fail
          exact ⟨⟨true, mNext L1, rfl, HS7, HAT2, by rw [HMN.out.2.2.2, if_neg hne]; exact hy1, by omega⟩, mu_less HS.out HS7.out (by omega) (by omega)⟩
      | false =>
        have HY : Hid (∀ (w' : World), Inv w' → Calls Try.prog 127 #[.agg (tcells l off (L1))] w' fun e' w2 => e' = .returned (.int .i64 (yearL (L1))) ∧ Below w'.heap.size w' w2) := Lib.hid (fun w' hI' => cYear H (L1) w' hok hI')
        have HDT : Hid (∀ (w' : World), Loc w' k1 → Calls Try.prog 129 #[.int .i64 (yearL L1), .int .i64 (monthL L1), .int .i64 1, .int .i64 0, .int .i64 0, .int .i64 0, .int .i64 0, .pointer (some ⟨k1, 0, none⟩)] w' fun e' w2 => e' = .returned (.agg (tcells l off (mFirst L1 * 86400))) ∧ Below w'.heap.size w' w2) := Lib.hid (fun w' hk => cDateMonth H L1 k1 w' hyk hk)
        have hst3 := HS3.out
        go_upto_region 15 with fail
        refine wp_only ?_
        refine start_ (n := 7) (S := fun w' => w'.heap[T]? = some (.cells (tcells l off L1) 74 (0, 0)) ∧ Below w3.heap.size w3 w') (ds := [6]) #[false, false, false, false, false, false, false] (by kernel_rfl) rfl rfl ⟨hst3.row, (Below.refl _ _).drew⟩ (fun hHeld => ?_)
        refine pure_ (i := 4) (N := some 60) (v := ?_) (a' := ?_) #[false, false, false, false, true, false, false] rfl rfl (by kernel_rfl) (fun _ _ _ h => h) (Or.inl ⟨by rfl, ?_⟩) ?_ ?_
        rotate_left
        · intro w'
          go_simp
          with_reducible rfl
        rotate_left
        · simp only [Act.put, List.setIfInBounds_toArray, List.set_cons_zero, List.set_cons_succ, i64_w, i32_w]
          rfl
        refine take_ (i := 0) (N := some 56) (v := ?_) (a' := ?_) #[true, false, false, false, true, false, false] rfl rfl (by kernel_rfl) (fun _ _ _ h => h) (Or.inl ⟨by rfl, ?_⟩) hHeld ?_ ?_
        rotate_left
        · rintro w' ⟨s0, s1⟩
          refine exec_load_row _ _ w' 74 (.tmp 3) ?_ T ?_ _ _ _ _ s0 Try.underlying74 rfl timeSize
          · rfl
          · rfl
        rotate_left
        · simp only [Act.put, List.setIfInBounds_toArray, List.set_cons_zero, List.set_cons_succ, i64_w, i32_w]
          rfl
        refine take_ (i := 2) (N := some 58) (v := ?_) (a' := ?_) #[true, false, true, false, true, false, false] rfl rfl (by kernel_rfl) (fun _ _ _ h => h) (Or.inl ⟨by rfl, ?_⟩) hHeld ?_ ?_
        rotate_left
        · rintro w' ⟨s0, s1⟩
          refine exec_load_row _ _ w' 74 (.tmp 3) ?_ T ?_ _ _ _ _ s0 Try.underlying74 rfl timeSize
          · rfl
          · rfl
        rotate_left
        · simp only [Act.put, List.setIfInBounds_toArray, List.set_cons_zero, List.set_cons_succ, i64_w, i32_w]
          rfl
        refine one_ (i := 1) (N := some 57) #[true, true, true, false, true, false, false] rfl rfl (by kernel_rfl) (by decide) (fun K hK => ?_)
        refine goes_ Try.func127 (by kernel_rfl) rfl #[.agg (tcells l off L1)] (by rfl) rfl rfl (by simp only [List.map_toArray, List.map_cons, List.map_nil]; rfl) ?_
        with_reducible refine (HY.out _ (H.abs.keeps HI3.out hHeld.2)).mono ?_
        rintro e1 x1 ⟨rfl, hb1⟩
        refine ⟨_, rfl, ?_⟩
        refine hK.out _ _ ⟨(hb1.block _ (Array.getElem?_eq_some_iff.1 hHeld.1).1).trans hHeld.1, below_le hHeld.2 hb1⟩ (fun hHeld => ?_)
        clear hK K
        refine norm_ (a' := ?_) ?_ ?_
        rotate_left
        · show Act.put _ (some 57) _ = _
          simp only [Act.put, List.setIfInBounds_toArray, List.set_cons_zero, List.set_cons_succ, i64_w, i32_w]
          rfl
        refine one_ (i := 3) (N := some 59) #[true, true, true, true, true, false, false] rfl rfl (by kernel_rfl) (by decide) (fun K hK => ?_)
        refine goes_ Try.func128 (by kernel_rfl) rfl #[.agg (tcells l off L1)] (by rfl) rfl rfl (by simp only [List.map_toArray, List.map_cons, List.map_nil]; rfl) ?_
        with_reducible refine (HC.out _ (H.abs.keeps HI3.out hHeld.2)).mono ?_
        rintro e3 x3 ⟨rfl, hb3⟩
        refine ⟨_, rfl, ?_⟩
        refine hK.out _ _ ⟨(hb3.block _ (Array.getElem?_eq_some_iff.1 hHeld.1).1).trans hHeld.1, below_le hHeld.2 hb3⟩ (fun hHeld => ?_)
        clear hK K
        refine norm_ (a' := ?_) ?_ ?_
        rotate_left
        · show Act.put _ (some 59) _ = _
          simp only [Act.put, List.setIfInBounds_toArray, List.set_cons_zero, List.set_cons_succ, i64_w, i32_w]
          rfl
        refine one_ (i := 5) (N := some 61) #[true, true, true, true, true, true, false] rfl rfl (by kernel_rfl) (by decide) (fun K hK => ?_)
        refine goes_ Try.func129 (by kernel_rfl) rfl #[.int .i64 (yearL L1), .int .i64 (monthL L1), .int .i64 1, .int .i64 0, .int .i64 0, .int .i64 0, .int .i64 0, .pointer (some ⟨k1, 0, none⟩)] (by rfl) rfl rfl (by simp only [List.map_toArray, List.map_cons, List.map_nil]; rfl) ?_
        with_reducible refine (HDT.out _ (H.locK hst3.loc1 hHeld.2)).mono ?_
        rintro e5 x5 ⟨rfl, hb5⟩
        refine ⟨_, rfl, ?_⟩
        refine hK.out _ _ ⟨(hb5.block _ (Array.getElem?_eq_some_iff.1 hHeld.1).1).trans hHeld.1, below_le hHeld.2 hb5⟩ (fun hHeld => ?_)
        clear hK K
        refine norm_ (a' := ?_) ?_ ?_
        rotate_left
        · show Act.put _ (some 61) _ = _
          simp only [Act.put, List.setIfInBounds_toArray, List.set_cons_zero, List.set_cons_succ, i64_w, i32_w]
          rfl
        refine last_ (i := 6) (N := none) #[true, true, true, true, true, true, true] rfl rfl (by kernel_rfl) (by decide) (fun K hK => ?_)
        rw [if_pos (by rfl)]
        refine wp_store_row 74 _ _ rfl T (tcells l off (mFirst L1 * 86400)) rfl rfl 74 _ hHeld.1 timeSize rfl (tcells_one _ _ _) ?_
        refine hK.out _ _ ?_
        clear hK K
        refine done_ (by kernel_rfl) ?_
        dsimp only [only]
        have hst5 := hst3.below H hHeld.2
        have hokM := P.okMonth HA.out.ge (by omega) hm
        have hsm := same_month (L := L1) (x := mFirst L1 * 86400) (by omega) (by have := mNext_gt L1; omega)
        generalize hX : World.setRow _ T _ = wx
        have hstx : St l off Loc w T k0 k1 wx (mFirst L1 * 86400) := by
          rw [← hX]
          exact hst5.put hls (mFirst L1 * 86400)
        have HSX0 := Lib.hid hstx
        clear hstx
        clear hX hst3 hst5 hHeld HS3
        obtain ⟨X, hXe⟩ : ∃ X, X = mFirst L1 * 86400 := ⟨_, rfl⟩
        have hX0 : (LOk off X ∧ YOk X) ∧ X = mFirst X * 86400 ∧ mNext X = mNext L1 := by
          rw [hXe]
          refine ⟨hokM, ?_, ?_⟩
          · unfold mFirst at *; rw [hsm.1, hsm.2]
          · unfold mNext mFirst at *; rw [hsm.1, hsm.2]
        have HSX := Lib.hid HSX0.out
        clear HSX0
        rw [← hXe] at HSX ⊢
        clear hXe hsm hokM
        obtain ⟨hokX, hXa, hXn⟩ := hX0
        have HAM : Hid (∀ (w' : World), Inv w' → Calls Try.prog 130 #[.agg (tcells l off (X)), .int .i64 0, .int .i64 1, .int .i64 0] w' fun e' w2 => e' = .returned (.agg (tcells l off (mNext X))) ∧ Below w'.heap.size w' w2) := Lib.hid (fun w' hI' => cAddMonth H (X) w' hokX.1 hI' hokX.2 hXa)
        have hX0' := 0
        have hgt := (mNext_gt L1).1
        have HMN := Lib.hid (mNext_date L1)
        have HAT2 := Lib.hid (at_month HA.out hm)
        have HXN := Lib.hid hXn
        obtain ⟨hok2, -⟩ := P.okL (L := mNext L1) (by have := HA.out.ge; omega) (by rw [HMN.out.2.2.2]; split <;> omega)
        have HM2 : Hid (∀ (w' : World), Inv w' → Calls Try.prog 128 #[.agg (tcells l off (mNext L1))] w' fun e' w2 => e' = .returned (.int .i64 (monthL (mNext L1))) ∧ Below w'.heap.size w' w2) := Lib.hid (fun w' hI' => cMonth H (mNext L1) w' hok2 hI')
        clear hX0' hXa hXn hokX
        go_wp2_with (refine wpList_load_row rfl 74 _ rfl T rfl _ _ _ _ HSX.out.row Try.underlying74 rfl timeSize ?_)
        refine (HAM.out _ (H.abs.keeps P.inv HSX.out.bel)).mono ?_
        rintro e w6 ⟨rfl, hb6⟩
        have hst6 := HSX.out.below H hb6
        try rw [HXN.out]
        go_wp2_with (first | (refine wpList_store_row rfl 74 _ _ rfl T (tcells l off (mNext L1)) rfl rfl 74 _ hst6.row timeSize rfl (tcells_one _ _ _) ?_; generalize hX : World.setRow _ _ _ = wz; have HSZ := Lib.hid (show St l off Loc w T k0 k1 wz (mNext L1) by rw [← hX]; exact hst6.put hls _); clear hX) | (refine wpList_load_row rfl 74 _ rfl T rfl _ _ _ _ HSZ.out.row Try.underlying74 rfl timeSize ?_))
        refine (HM2.out _ (H.abs.keeps P.inv HSZ.out.bel)).mono ?_
        rintro e w7 ⟨rfl, hb7⟩
        have HS7 := Lib.hid (HSZ.out.below H hb7)
        by_cases h1 : monthL (mNext L1) = 1
        · have hd : (monthL (mNext L1) == 1) = true := by simp [h1]
          go_wp2_with fail
          refine wp_goto ?_
          refine HJUMP.out _ _ (mNext L1) ?_ HS7.out HAT2.out (by omega) (by rw [HMN.out.2.2.2]; split <;> omega)
          exact ⟨rfl, rfl, rfl, rfl, rfl, rfl, rfl, rfl, rfl⟩
        · have hd : (monthL (mNext L1) == 1) = false := by simp [h1]
          have hne : ¬ monthL L1 = 12 := fun h => h1 (by rw [HMN.out.2.2.1, if_pos h])
          go_wp2_with fail
          exact ⟨⟨true, mNext L1, rfl, HS7, HAT2, by rw [HMN.out.2.2.2, if_neg hne]; exact hy1, by omega⟩, mu_less HS.out HS7.out (by omega) (by omega)⟩
end Go.Proofs.Ytbgbeohiafiacaa.Cal

namespace Go.Proofs.Ytbgbeohiafiacaa.Cal
open Go Go.RowKit Go.Proofs.YtbgbeohiafiacaaW.PrintWords Go.Proofs.YtbgbeohiafiacaaW.PrintLast
set_option linter.unusedVariables false
set_option linter.unusedSimpArgs false

set_option maxRecDepth 100000 in
set_option maxHeartbeats 8000000 in
theorem loop1 {l : Option Addr} {off : Int} {Inv : World → Prop} {Loc : World → Nat → Prop} (H : Clock l off Inv Loc) (hls : LocS Loc) {w : World} {g T k0 k1 : Nat} {S : Sets} {f lim : Int} (P : Par off Inv w g S f lim) (Q : Exit → Act → World → Prop) (L : Int) (ad : Bool) (a : Act) (wr : World) (ha : Fr g T k0 k1 ad lim a) (hst : St l off Loc w T k0 k1 wr L) (hat : At S f ad L) (hy : yearL L ≤ lim) (hm : monthB S L = true)
    (next : ∀ (a' : Act) (w' : World) (L' : Int) (ad' : Bool), Fr g T k0 k1 ad' lim a' → St l off Loc w T k0 k1 w' L' → At S f ad' L' → monthB S L' = true ∧ dayB S L' = true → yearL L' ≤ lim → L ≤ L' → Q .normal a' w')
    (jump : ∀ (a' : Act) (w' : World) (L' : Int), Fr g T k0 k1 true lim a' → St l off Loc w T k0 k1 w' L' → At S f true L' → L < L' → yearL L' ≤ lim + 1 → Q (.goto 0) a' w') :
    (loopK (Try.f125.body.getD .skip) 1).wp Try.prog (Exit.inBlock 2 Q) a wr := by
  obtain ⟨u, rfl⟩ := ha.open
  have HNEXT := Lib.hid next
  have HJUMP := Lib.hid jump
  have HST := Lib.hid hst
  have HAT := Lib.hid hat
  clear next jump hst hat ha
  simp only [loopK, loops, Try.f125, Option.getD_some, List.append_assoc, List.cons_append, List.nil_append, List.getElem?_cons_zero, List.getElem?_cons_succ]
  go_loopw [7] (fun v7 wr => ∃ (ad : Bool) (L' : Int), v7 = .bool ad ∧ Hid (St l off Loc w T k0 k1 wr L') ∧ Hid (At S f ad L') ∧ monthB S L' = true ∧ yearL L' ≤ lim ∧ L ≤ L') (fun _ wr => muT T (bndE off lim) wr)
  case atStart => exact ⟨ad, L, rfl, HST, HAT, hm, hy, Int.le_refl _⟩
  case round =>
    clear hm
    obtain ⟨ad, L1, rfl, HS, HA, hm, hy1, hle⟩ := hrel
    clear HST HAT hy
    obtain ⟨hok, hyk⟩ := P.okL HA.out.ge (by omega)
    obtain ⟨wo, hwo⟩ : ∃ wo, wo = wr := ⟨_, rfl⟩
    subst hwo
    have HI := Lib.hid (H.abs.keeps P.inv HS.out.bel)
    have HC : Hid (∀ (w' : World), Inv w' → SpecRow w' g S none → Calls Try.prog 131 #[.pointer (some ⟨g, 0, none⟩), .agg (tcells l off L1)] w' fun e' w2 => e' = .returned (.bool (dayB S L1)) ∧ Below w'.heap.size w' w2) := Lib.hid (fun w' hI' hg => cMatch H S P.ok g none L1 w' hok hI' hg)
    have hspec : SpecRow wo g S none := P.spec.below HS.out.bel
    have HSP := Lib.hid hspec
    clear hspec
    go_wp2_with (refine wpList_load_row rfl 74 _ rfl T rfl _ _ _ _ HS.out.row Try.underlying74 rfl timeSize ?_)
    refine (HC.out _ HI.out HSP.out).mono ?_
    rintro e w3 ⟨rfl, hb3⟩
    have HS3 := Lib.hid (HS.out.below H hb3)
    have HI3 := Lib.hid (H.abs.keeps P.inv HS3.out.bel)
    clear HC hb3
    cases hd : dayB S L1 with
    | true =>
      go_wp2_with fail
      exact HNEXT.out _ _ L1 ad ⟨rfl, rfl, rfl, rfl, rfl, rfl, rfl, rfl, rfl⟩ HS3.out HA.out ⟨hm, hd⟩ hy1 hle
    | false =>
      cases ad with
      | true =>
        obtain ⟨X, hXe⟩ : ∃ X, X = L1 := ⟨_, rfl⟩
        have hX0 : (LOk off X ∧ YOk X) ∧ X % 86400 = 0 ∧ dNext X = dNext L1 := by
          rw [hXe]
          exact ⟨⟨hok, hyk⟩, (HA.out.da rfl).resolve_left (by rw [hd]; decide), rfl⟩
        have HSX := Lib.hid HS3.out
        rw [← hXe] at HSX
        clear hXe
        obtain ⟨hokX, hXa, hXn⟩ := hX0
        have HAM : Hid (∀ (w' : World), Inv w' → Calls Try.prog 130 #[.agg (tcells l off (X)), .int .i64 0, .int .i64 0, .int .i64 1] w' fun e' w2 => e' = .returned (.agg (tcells l off (dNext X))) ∧ Below w'.heap.size w' w2) := Lib.hid (fun w' hI' => cAddDay H (X) w' hokX.1 hI' hokX.2 hXa)
        have hgt : L1 < dNext L1 := by unfold dNext; omega
        have HAT2 := Lib.hid (at_day HA.out hm hd)
        have HXN := Lib.hid hXn
        have hyr : yearL (dNext L1) ≤ lim + 1 := by rcases dNext_date L1 with h | h; (rw [h.2, (mNext_date L1).2.2.2]; split <;> omega); (rw [h.2.2]; omega)
        obtain ⟨hok2, -⟩ := P.okL (L := dNext L1) (by have := HA.out.ge; omega) hyr
        have HM2 : Hid (∀ (w' : World), Inv w' → Calls Try.prog 119 #[.agg (tcells l off (dNext L1))] w' fun e' w2 => e' = .returned (.int .i64 (mdayL (dNext L1))) ∧ Below w'.heap.size w' w2) := Lib.hid (fun w' hI' => cDay H (dNext L1) w' hok2 hI')
        have HH2 : Hid (∀ (w' : World), Inv w' → Calls Try.prog 132 #[.agg (tcells l off (dNext L1))] w' fun e' w2 => e' = .returned (.int .i64 0) ∧ Below w'.heap.size w' w2) := Lib.hid (fun w' hI' => by
          have := cHour H (dNext L1) w' hok2 hI'
          rw [show hourL (dNext L1) = 0 by unfold hourL dNext; omega] at this
          exact this)
        clear hXa hXn hokX
        go_wp2_with (refine wpList_load_row rfl 74 _ rfl T rfl _ _ _ _ HSX.out.row Try.underlying74 rfl timeSize ?_)
        refine (HAM.out _ (H.abs.keeps P.inv HSX.out.bel)).mono ?_
        rintro e w6 ⟨rfl, hb6⟩
        have hst6 := HSX.out.below H hb6
        try rw [HXN.out]
        go_wp2_with (first | (refine wpList_store_row rfl 74 _ _ rfl T (tcells l off (dNext L1)) rfl rfl 74 _ hst6.row timeSize rfl (tcells_one _ _ _) ?_; generalize hX : World.setRow _ _ _ = wz; have HSZ := Lib.hid (show St l off Loc w T k0 k1 wz (dNext L1) by rw [← hX]; exact hst6.put hls _); clear hX) | (refine wpList_load_row rfl 74 _ rfl T rfl _ _ _ _ HSZ.out.row Try.underlying74 rfl timeSize ?_))
        refine (HH2.out _ (H.abs.keeps P.inv HSZ.out.bel)).mono ?_
        rintro e w8 ⟨rfl, hb8⟩
        have HSY := Lib.hid (HSZ.out.below H hb8)
        clear hb8
        go_wp2_with (refine wpList_load_row rfl 74 _ rfl T rfl _ _ _ _ HSY.out.row Try.underlying74 rfl timeSize ?_)
        refine (HM2.out _ (H.abs.keeps P.inv HSY.out.bel)).mono ?_
        rintro e w7 ⟨rfl, hb7⟩
        have HS7 := Lib.hid (HSY.out.below H hb7)
        by_cases h1 : mdayL (dNext L1) = 1
        · have hdd : (mdayL (dNext L1) == 1) = true := by simp [h1]
          go_wp2_with fail
          refine wp_goto ?_
          refine HJUMP.out _ _ (dNext L1) ?_ HS7.out HAT2.out.1 (by omega) hyr
          exact ⟨rfl, rfl, rfl, rfl, rfl, rfl, rfl, rfl, rfl⟩
        · have hdd : (mdayL (dNext L1) == 1) = false := by simp [h1]
          go_wp2_with fail
          exact ⟨⟨true, dNext L1, rfl, HS7, Lib.hid HAT2.out.1, (HAT2.out.2.resolve_left h1).1, by rw [(HAT2.out.2.resolve_left h1).2]; exact hy1, by omega⟩, mu_less HS.out HS7.out (by omega) (by omega)⟩
      | false =>
        have HY : Hid (∀ (w' : World), Inv w' → Calls Try.prog 127 #[.agg (tcells l off (L1))] w' fun e' w2 => e' = .returned (.int .i64 (yearL (L1))) ∧ Below w'.heap.size w' w2) := Lib.hid (fun w' hI' => cYear H (L1) w' hok hI')
        have HMo : Hid (∀ (w' : World), Inv w' → Calls Try.prog 128 #[.agg (tcells l off (L1))] w' fun e' w2 => e' = .returned (.int .i64 (monthL (L1))) ∧ Below w'.heap.size w' w2) := Lib.hid (fun w' hI' => cMonth H (L1) w' hok hI')
        have HDa : Hid (∀ (w' : World), Inv w' → Calls Try.prog 119 #[.agg (tcells l off (L1))] w' fun e' w2 => e' = .returned (.int .i64 (mdayL (L1))) ∧ Below w'.heap.size w' w2) := Lib.hid (fun w' hI' => cDay H (L1) w' hok hI')
        have HDT : Hid (∀ (w' : World), Loc w' k1 → Calls Try.prog 129 #[.int .i64 (yearL L1), .int .i64 (monthL L1), .int .i64 (mdayL L1), .int .i64 0, .int .i64 0, .int .i64 0, .int .i64 0, .pointer (some ⟨k1, 0, none⟩)] w' fun e' w2 => e' = .returned (.agg (tcells l off (L1 / 86400 * 86400))) ∧ Below w'.heap.size w' w2) := Lib.hid (fun w' hk => cDateDay H L1 k1 w' hyk hk)
        have hst3 := HS3.out
        go_upto_region 21 with fail
        refine wp_only ?_
        refine start_ (n := 9) (S := fun w' => w'.heap[T]? = some (.cells (tcells l off L1) 74 (0, 0)) ∧ Below w3.heap.size w3 w') (ds := [8]) #[false, false, false, false, false, false, false, false, false] (by kernel_rfl) rfl rfl ⟨hst3.row, (Below.refl _ _).drew⟩ (fun hHeld => ?_)
        refine pure_ (i := 6) (N := some 79) (v := ?_) (a' := ?_) #[false, false, false, false, false, false, true, false, false] rfl rfl (by kernel_rfl) (fun _ _ _ h => h) (Or.inl ⟨by rfl, ?_⟩) ?_ ?_
        rotate_left
        · intro w'
          go_simp
          with_reducible rfl
        rotate_left
        · simp only [Act.put, List.setIfInBounds_toArray, List.set_cons_zero, List.set_cons_succ, i64_w, i32_w]
          rfl
        refine take_ (i := 0) (N := some 73) (v := ?_) (a' := ?_) #[true, false, false, false, false, false, true, false, false] rfl rfl (by kernel_rfl) (fun _ _ _ h => h) (Or.inl ⟨by rfl, ?_⟩) hHeld ?_ ?_
        rotate_left
        · rintro w' ⟨s0, s1⟩
          refine exec_load_row _ _ w' 74 (.tmp 3) ?_ T ?_ _ _ _ _ s0 Try.underlying74 rfl timeSize
          · rfl
          · rfl
        rotate_left
        · simp only [Act.put, List.setIfInBounds_toArray, List.set_cons_zero, List.set_cons_succ, i64_w, i32_w]
          rfl
        refine take_ (i := 2) (N := some 75) (v := ?_) (a' := ?_) #[true, false, true, false, false, false, true, false, false] rfl rfl (by kernel_rfl) (fun _ _ _ h => h) (Or.inl ⟨by rfl, ?_⟩) hHeld ?_ ?_
        rotate_left
        · rintro w' ⟨s0, s1⟩
          refine exec_load_row _ _ w' 74 (.tmp 3) ?_ T ?_ _ _ _ _ s0 Try.underlying74 rfl timeSize
          · rfl
          · rfl
        rotate_left
        · simp only [Act.put, List.setIfInBounds_toArray, List.set_cons_zero, List.set_cons_succ, i64_w, i32_w]
          rfl
        refine take_ (i := 4) (N := some 77) (v := ?_) (a' := ?_) #[true, false, true, false, true, false, true, false, false] rfl rfl (by kernel_rfl) (fun _ _ _ h => h) (Or.inl ⟨by rfl, ?_⟩) hHeld ?_ ?_
        rotate_left
        · rintro w' ⟨s0, s1⟩
          refine exec_load_row _ _ w' 74 (.tmp 3) ?_ T ?_ _ _ _ _ s0 Try.underlying74 rfl timeSize
          · rfl
          · rfl
        rotate_left
        · simp only [Act.put, List.setIfInBounds_toArray, List.set_cons_zero, List.set_cons_succ, i64_w, i32_w]
          rfl
        refine one_ (i := 1) (N := some 74) #[true, true, true, false, true, false, true, false, false] rfl rfl (by kernel_rfl) (by decide) (fun K hK => ?_)
        refine goes_ Try.func127 (by kernel_rfl) rfl #[.agg (tcells l off L1)] (by rfl) rfl rfl (by simp only [List.map_toArray, List.map_cons, List.map_nil]; rfl) ?_
        with_reducible refine (HY.out _ (H.abs.keeps HI3.out hHeld.2)).mono ?_
        rintro e1 x1 ⟨rfl, hb1⟩
        refine ⟨_, rfl, ?_⟩
        refine hK.out _ _ ⟨(hb1.block _ (Array.getElem?_eq_some_iff.1 hHeld.1).1).trans hHeld.1, below_le hHeld.2 hb1⟩ (fun hHeld => ?_)
        clear hK K
        refine norm_ (a' := ?_) ?_ ?_
        rotate_left
        · show Act.put _ (some 74) _ = _
          simp only [Act.put, List.setIfInBounds_toArray, List.set_cons_zero, List.set_cons_succ, i64_w, i32_w]
          rfl
        refine one_ (i := 3) (N := some 76) #[true, true, true, true, true, false, true, false, false] rfl rfl (by kernel_rfl) (by decide) (fun K hK => ?_)
        refine goes_ Try.func128 (by kernel_rfl) rfl #[.agg (tcells l off L1)] (by rfl) rfl rfl (by simp only [List.map_toArray, List.map_cons, List.map_nil]; rfl) ?_
        with_reducible refine (HMo.out _ (H.abs.keeps HI3.out hHeld.2)).mono ?_
        rintro e3 x3 ⟨rfl, hb3⟩
        refine ⟨_, rfl, ?_⟩
        refine hK.out _ _ ⟨(hb3.block _ (Array.getElem?_eq_some_iff.1 hHeld.1).1).trans hHeld.1, below_le hHeld.2 hb3⟩ (fun hHeld => ?_)
        clear hK K
        refine norm_ (a' := ?_) ?_ ?_
        rotate_left
        · show Act.put _ (some 76) _ = _
          simp only [Act.put, List.setIfInBounds_toArray, List.set_cons_zero, List.set_cons_succ, i64_w, i32_w]
          rfl
        refine one_ (i := 5) (N := some 78) #[true, true, true, true, true, true, true, false, false] rfl rfl (by kernel_rfl) (by decide) (fun K hK => ?_)
        refine goes_ Try.func119 (by kernel_rfl) rfl #[.agg (tcells l off L1)] (by rfl) rfl rfl (by simp only [List.map_toArray, List.map_cons, List.map_nil]; rfl) ?_
        with_reducible refine (HDa.out _ (H.abs.keeps HI3.out hHeld.2)).mono ?_
        rintro e5 x5 ⟨rfl, hb5⟩
        refine ⟨_, rfl, ?_⟩
        refine hK.out _ _ ⟨(hb5.block _ (Array.getElem?_eq_some_iff.1 hHeld.1).1).trans hHeld.1, below_le hHeld.2 hb5⟩ (fun hHeld => ?_)
        clear hK K
        refine norm_ (a' := ?_) ?_ ?_
        rotate_left
        · show Act.put _ (some 78) _ = _
          simp only [Act.put, List.setIfInBounds_toArray, List.set_cons_zero, List.set_cons_succ, i64_w, i32_w]
          rfl
        refine one_ (i := 7) (N := some 80) #[true, true, true, true, true, true, true, true, false] rfl rfl (by kernel_rfl) (by decide) (fun K hK => ?_)
        refine goes_ Try.func129 (by kernel_rfl) rfl #[.int .i64 (yearL L1), .int .i64 (monthL L1), .int .i64 (mdayL L1), .int .i64 0, .int .i64 0, .int .i64 0, .int .i64 0, .pointer (some ⟨k1, 0, none⟩)] (by rfl) rfl rfl (by simp only [List.map_toArray, List.map_cons, List.map_nil]; rfl) ?_
        with_reducible refine (HDT.out _ (H.locK hst3.loc1 hHeld.2)).mono ?_
        rintro e7 x7 ⟨rfl, hb7⟩
        refine ⟨_, rfl, ?_⟩
        refine hK.out _ _ ⟨(hb7.block _ (Array.getElem?_eq_some_iff.1 hHeld.1).1).trans hHeld.1, below_le hHeld.2 hb7⟩ (fun hHeld => ?_)
        clear hK K
        refine norm_ (a' := ?_) ?_ ?_
        rotate_left
        · show Act.put _ (some 80) _ = _
          simp only [Act.put, List.setIfInBounds_toArray, List.set_cons_zero, List.set_cons_succ, i64_w, i32_w]
          rfl
        refine last_ (i := 8) (N := none) #[true, true, true, true, true, true, true, true, true] rfl rfl (by kernel_rfl) (by decide) (fun K hK => ?_)
        rw [if_pos (by rfl)]
        refine wp_store_row 74 _ _ rfl T (tcells l off (L1 / 86400 * 86400)) rfl rfl 74 _ hHeld.1 timeSize rfl (tcells_one _ _ _) ?_
        refine hK.out _ _ ?_
        clear hK K
        refine done_ (by kernel_rfl) ?_
        dsimp only [only]
        have hst5 := hst3.below H hHeld.2
        generalize hX : World.setRow _ T _ = wx
        have hstx : St l off Loc w T k0 k1 wx (L1 / 86400 * 86400) := by
          rw [← hX]
          exact hst5.put hls (L1 / 86400 * 86400)
        have HSX0 := Lib.hid hstx
        clear hstx hX hst3 hst5 hHeld HS3
        obtain ⟨X, hXe⟩ : ∃ X, X = L1 / 86400 * 86400 := ⟨_, rfl⟩
        have hX0 : (LOk off X ∧ YOk X) ∧ X % 86400 = 0 ∧ dNext X = dNext L1 := by
          rw [hXe]
          exact ⟨P.okDay HA.out.ge (by omega), by omega, by unfold dNext; omega⟩
        have HSX := Lib.hid HSX0.out
        clear HSX0
        rw [← hXe] at HSX ⊢
        clear hXe
        obtain ⟨hokX, hXa, hXn⟩ := hX0
        have HAM : Hid (∀ (w' : World), Inv w' → Calls Try.prog 130 #[.agg (tcells l off (X)), .int .i64 0, .int .i64 0, .int .i64 1] w' fun e' w2 => e' = .returned (.agg (tcells l off (dNext X))) ∧ Below w'.heap.size w' w2) := Lib.hid (fun w' hI' => cAddDay H (X) w' hokX.1 hI' hokX.2 hXa)
        have hgt : L1 < dNext L1 := by unfold dNext; omega
        have HAT2 := Lib.hid (at_day HA.out hm hd)
        have HXN := Lib.hid hXn
        have hyr : yearL (dNext L1) ≤ lim + 1 := by rcases dNext_date L1 with h | h; (rw [h.2, (mNext_date L1).2.2.2]; split <;> omega); (rw [h.2.2]; omega)
        obtain ⟨hok2, -⟩ := P.okL (L := dNext L1) (by have := HA.out.ge; omega) hyr
        have HM2 : Hid (∀ (w' : World), Inv w' → Calls Try.prog 119 #[.agg (tcells l off (dNext L1))] w' fun e' w2 => e' = .returned (.int .i64 (mdayL (dNext L1))) ∧ Below w'.heap.size w' w2) := Lib.hid (fun w' hI' => cDay H (dNext L1) w' hok2 hI')
        have HH2 : Hid (∀ (w' : World), Inv w' → Calls Try.prog 132 #[.agg (tcells l off (dNext L1))] w' fun e' w2 => e' = .returned (.int .i64 0) ∧ Below w'.heap.size w' w2) := Lib.hid (fun w' hI' => by
          have := cHour H (dNext L1) w' hok2 hI'
          rw [show hourL (dNext L1) = 0 by unfold hourL dNext; omega] at this
          exact this)
        clear hXa hXn hokX
        go_wp2_with (refine wpList_load_row rfl 74 _ rfl T rfl _ _ _ _ HSX.out.row Try.underlying74 rfl timeSize ?_)
        refine (HAM.out _ (H.abs.keeps P.inv HSX.out.bel)).mono ?_
        rintro e w6 ⟨rfl, hb6⟩
        have hst6 := HSX.out.below H hb6
        try rw [HXN.out]
        go_wp2_with (first | (refine wpList_store_row rfl 74 _ _ rfl T (tcells l off (dNext L1)) rfl rfl 74 _ hst6.row timeSize rfl (tcells_one _ _ _) ?_; generalize hX : World.setRow _ _ _ = wz; have HSZ := Lib.hid (show St l off Loc w T k0 k1 wz (dNext L1) by rw [← hX]; exact hst6.put hls _); clear hX) | (refine wpList_load_row rfl 74 _ rfl T rfl _ _ _ _ HSZ.out.row Try.underlying74 rfl timeSize ?_))
        refine (HH2.out _ (H.abs.keeps P.inv HSZ.out.bel)).mono ?_
        rintro e w8 ⟨rfl, hb8⟩
        have HSY := Lib.hid (HSZ.out.below H hb8)
        clear hb8
        go_wp2_with (refine wpList_load_row rfl 74 _ rfl T rfl _ _ _ _ HSY.out.row Try.underlying74 rfl timeSize ?_)
        refine (HM2.out _ (H.abs.keeps P.inv HSY.out.bel)).mono ?_
        rintro e w7 ⟨rfl, hb7⟩
        have HS7 := Lib.hid (HSY.out.below H hb7)
        by_cases h1 : mdayL (dNext L1) = 1
        · have hdd : (mdayL (dNext L1) == 1) = true := by simp [h1]
          go_wp2_with fail
          refine wp_goto ?_
          refine HJUMP.out _ _ (dNext L1) ?_ HS7.out HAT2.out.1 (by omega) hyr
          exact ⟨rfl, rfl, rfl, rfl, rfl, rfl, rfl, rfl, rfl⟩
        · have hdd : (mdayL (dNext L1) == 1) = false := by simp [h1]
          go_wp2_with fail
          exact ⟨⟨true, dNext L1, rfl, HS7, Lib.hid HAT2.out.1, (HAT2.out.2.resolve_left h1).1, by rw [(HAT2.out.2.resolve_left h1).2]; exact hy1, by omega⟩, mu_less HS.out HS7.out (by omega) (by omega)⟩
end Go.Proofs.Ytbgbeohiafiacaa.Cal

namespace Go.Proofs.Ytbgbeohiafiacaa.Cal
open Go Go.RowKit Go.Proofs.YtbgbeohiafiacaaW.PrintWords Go.Proofs.YtbgbeohiafiacaaW.PrintLast
set_option linter.unusedVariables false
set_option linter.unusedSimpArgs false

set_option maxRecDepth 100000 in
set_option maxHeartbeats 8000000 in
theorem loop2 {l : Option Addr} {off : Int} {Inv : World → Prop} {Loc : World → Nat → Prop} (H : Clock l off Inv Loc) (hls : LocS Loc) {w : World} {g T k0 k1 : Nat} {S : Sets} {f lim : Int} (P : Par off Inv w g S f lim) (Q : Exit → Act → World → Prop) (L : Int) (ad : Bool) (a : Act) (wr : World) (ha : Fr g T k0 k1 ad lim a) (hst : St l off Loc w T k0 k1 wr L) (hat : At S f ad L) (hy : yearL L ≤ lim) (hm : monthB S L = true) (hd : dayB S L = true)
    (next : ∀ (a' : Act) (w' : World) (L' : Int) (ad' : Bool), Fr g T k0 k1 ad' lim a' → St l off Loc w T k0 k1 w' L' → At S f ad' L' → monthB S L' = true ∧ dayB S L' = true ∧ hourB S L' = true → yearL L' ≤ lim → L ≤ L' → Q .normal a' w')
    (jump : ∀ (a' : Act) (w' : World) (L' : Int), Fr g T k0 k1 true lim a' → St l off Loc w T k0 k1 w' L' → At S f true L' → L < L' → yearL L' ≤ lim + 1 → Q (.goto 0) a' w') :
    (loopK (Try.f125.body.getD .skip) 2).wp Try.prog (Exit.inBlock 4 Q) a wr := by
  obtain ⟨u, rfl⟩ := ha.open
  have HNEXT := Lib.hid next
  have HJUMP := Lib.hid jump
  have HST := Lib.hid hst
  have HAT := Lib.hid hat
  clear next jump hst hat ha
  simp only [loopK, loops, Try.f125, Option.getD_some, List.append_assoc, List.cons_append, List.nil_append, List.getElem?_cons_zero, List.getElem?_cons_succ]
  go_loopw [7] (fun v7 wr => ∃ (ad : Bool) (L' : Int), v7 = .bool ad ∧ Hid (St l off Loc w T k0 k1 wr L') ∧ Hid (At S f ad L') ∧ monthB S L' = true ∧ dayB S L' = true ∧ yearL L' ≤ lim ∧ L ≤ L') (fun _ wr => muT T (bndE off lim) wr)
  case atStart => exact ⟨ad, L, rfl, HST, HAT, hm, hd, hy, Int.le_refl _⟩
  case round =>
    clear hm hd
    obtain ⟨ad, L1, rfl, HS, HA, hm, hd, hy1, hle⟩ := hrel
    clear HST HAT hy
    obtain ⟨hok, hyk⟩ := P.okL HA.out.ge (by omega)
    obtain ⟨wo, hwo⟩ : ∃ wo, wo = wr := ⟨_, rfl⟩
    subst hwo
    have HI := Lib.hid (H.abs.keeps P.inv HS.out.bel)
    have hspec : SpecRow wo g S none := P.spec.below HS.out.bel
    have HC : Hid (∀ (w' : World), Inv w' → Calls Try.prog 132 #[.agg (tcells l off (L1))] w' fun e' w2 => e' = .returned (.int .i64 (hourL (L1))) ∧ Below w'.heap.size w' w2) := Lib.hid (fun w' hI' => cHour H (L1) w' hok hI')
    have hm12 : 0 ≤ hourL L1 ∧ hourL L1 < 24 := by unfold hourL; omega
    have hst := HS.out
    go_upto_region 28 with fail
    refine wp_only ?_
    refine start_ (n := 10) (S := fun w' => w'.heap[T]? = some (.cells (tcells l off L1) 74 (0, 0)) ∧ SpecRow w' g S none ∧ Below wo.heap.size wo w') (ds := []) #[false, false, false, false, false, false, false, false, false, false] (by kernel_rfl) rfl rfl ⟨hst.row, hspec, (Below.refl _ _).drew⟩ (fun hHeld => ?_)
    refine pure_ (i := 4) (N := some 108) (v := ?_) (a' := ?_) #[false, false, false, false, true, false, false, false, false, false] rfl rfl (by kernel_rfl) (fun _ _ _ h => h) (Or.inl ⟨by rfl, ?_⟩) ?_ ?_
    rotate_left
    · intro w'
      go_simp
      with_reducible rfl
    rotate_left
    · simp only [Act.put, List.setIfInBounds_toArray, List.set_cons_zero, List.set_cons_succ, i64_w, i32_w]
      rfl
    refine pure_ (i := 5) (N := some 109) (v := ?_) (a' := ?_) #[false, false, false, false, true, true, false, false, false, false] rfl rfl (by kernel_rfl) (fun _ _ _ h => h) (Or.inl ⟨by rfl, ?_⟩) ?_ ?_
    rotate_left
    · intro w'
      go_simp
      with_reducible rfl
    rotate_left
    · simp only [Act.put, List.setIfInBounds_toArray, List.set_cons_zero, List.set_cons_succ, i64_w, i32_w]
      rfl
    refine pure_ (i := 6) (N := some 110) (v := ?_) (a' := ?_) #[false, false, false, false, true, true, true, false, false, false] rfl rfl (by kernel_rfl) (fun _ _ _ h => h) (Or.inl ⟨by rfl, ?_⟩) ?_ ?_
    rotate_left
    · intro w'
      go_simp
      with_reducible rfl
    rotate_left
    · simp only [Act.put, List.setIfInBounds_toArray, List.set_cons_zero, List.set_cons_succ, i64_w, i32_w]
      rfl
    refine take_ (i := 0) (N := some 104) (v := ?_) (a' := ?_) #[true, false, false, false, true, true, true, false, false, false] rfl rfl (by kernel_rfl) (fun _ _ _ h => h) (Or.inl ⟨by rfl, ?_⟩) hHeld ?_ ?_
    rotate_left
    · rintro w' ⟨s0, s1, s2⟩
      refine exec_load_row _ _ w' 74 (.tmp 3) ?_ T ?_ _ _ _ _ s0 Try.underlying74 rfl timeSize
      · rfl
      · rfl
    rotate_left
    · simp only [Act.put, List.setIfInBounds_toArray, List.set_cons_zero, List.set_cons_succ, i64_w, i32_w]
      rfl
    refine take_ (i := 7) (N := some 111) (v := ?_) (a' := ?_) #[true, false, false, false, true, true, true, true, false, false] rfl rfl (by kernel_rfl) (fun _ _ _ h => h) (Or.inl ⟨by rfl, ?_⟩) hHeld ?_ ?_
    rotate_left
    · rintro w' ⟨s0, s1, s2⟩
      have c3 : w'.cell? ⟨g, 2, none⟩ = some (.int .u64 (S.hour : Int)) := cell_of_row _ _ _ _ _ _ s1
      go_simp
      with_reducible rfl
    rotate_left
    · simp only [Act.put, List.setIfInBounds_toArray, List.set_cons_zero, List.set_cons_succ, i64_w, i32_w]
      rfl
    refine one_ (i := 1) (N := some 105) #[true, true, false, false, true, true, true, true, false, false] rfl rfl (by kernel_rfl) (by decide) (fun K hK => ?_)
    refine goes_ Try.func132 (by kernel_rfl) rfl #[.agg (tcells l off L1)] (by rfl) rfl rfl (by simp only [List.map_toArray, List.map_cons, List.map_nil]; rfl) ?_
    with_reducible refine (HC.out _ (H.abs.keeps HI.out hHeld.2.2)).mono ?_
    rintro e3 w3 ⟨rfl, hb1⟩
    refine ⟨_, rfl, ?_⟩
    refine hK.out _ _ ⟨(hb1.block _ (Array.getElem?_eq_some_iff.1 hHeld.1).1).trans hHeld.1, hHeld.2.1.below hb1, below_le hHeld.2.2 hb1⟩ (fun hHeld => ?_)
    clear hK K
    refine norm_ (a' := ?_) ?_ ?_
    rotate_left
    · show Act.put _ (some 105) _ = _
      simp only [Act.put, List.setIfInBounds_toArray, List.set_cons_zero, List.set_cons_succ, i64_w, i32_w]
      rfl
    refine pure_ (i := 2) (N := some 106) (v := ?_) (a' := ?_) #[true, true, true, false, true, true, true, true, false, false] rfl rfl (by kernel_rfl) (fun _ _ _ h => h) (Or.inl ⟨by rfl, ?_⟩) ?_ ?_
    rotate_left
    · intro w'
      go_simp
      with_reducible rfl
    rotate_left
    · simp only [Act.put, List.setIfInBounds_toArray, List.set_cons_zero, List.set_cons_succ, i64_w, i32_w]
      rfl
    refine pure_ (i := 3) (N := some 107) (v := ?_) (a' := ?_) #[true, true, true, true, true, true, true, true, false, false] rfl rfl (by kernel_rfl) (fun _ _ _ h => h) (Or.inl ⟨by rfl, ?_⟩) ?_ ?_
    rotate_left
    · intro w'
      go_simp
      with_reducible rfl
    rotate_left
    · simp only [Act.put, List.setIfInBounds_toArray, List.set_cons_zero, List.set_cons_succ, i64_w, i32_w]
      rfl
    refine pure_ (i := 8) (N := some 112) (v := ?_) (a' := ?_) #[true, true, true, true, true, true, true, true, true, false] rfl rfl (by kernel_rfl) (fun _ _ _ h => h) (Or.inl ⟨by rfl, ?_⟩) ?_ ?_
    rotate_left
    · intro w'
      go_simp
      with_reducible rfl
    rotate_left
    · simp only [Act.put, List.setIfInBounds_toArray, List.set_cons_zero, List.set_cons_succ, i64_w, i32_w]
      rfl
    refine pure_ (i := 9) (N := some 113) (v := ?_) (a' := ?_) #[true, true, true, true, true, true, true, true, true, true] rfl rfl (by kernel_rfl) (fun _ _ _ h => h) (Or.inl ⟨by rfl, ?_⟩) ?_ ?_
    rotate_left
    · intro w'
      go_simp
      with_reducible rfl
    rotate_left
    · simp only [Act.put, List.setIfInBounds_toArray, List.set_cons_zero, List.set_cons_succ, i64_w, i32_w]
      rfl
    refine done_ (by kernel_rfl) ?_
    dsimp only [only]
    obtain ⟨-, hspec3, hb3⟩ := hHeld
    have HS3 := Lib.hid (HS.out.below H hb3)
    have HI3 := Lib.hid (H.abs.keeps P.inv HS3.out.bel)
    rw [bit_eq P.ok.2.2.1 (by omega) (by omega)]
    have hmB : inB S.hour (hourL L1) = hourB S L1 := rfl
    rw [hmB]
    generalize IntKind.u64.wrap (2 ^ min (IntKind.u64.wrap (hourL L1)).toNat 64) = junk
    clear hst hspec hspec3 hmB hb1 hb3
    cases hh : hourB S L1 with
    | true =>
      go_wp2_with fail
      exact HNEXT.out _ _ L1 ad ⟨rfl, rfl, rfl, rfl, rfl, rfl, rfl, rfl, rfl⟩ HS3.out HA.out ⟨hm, hd, hh⟩ hy1 hle
    | false =>
      cases ad with
      | true =>
        obtain ⟨X, hXe⟩ : ∃ X, X = L1 := ⟨_, rfl⟩
        have hX0 : (LOk off X ∧ YOk X) ∧ True ∧ X + 3600 = hNext L1 := by
          rw [hXe]
          exact ⟨⟨hok, hyk⟩, trivial, by have := (HA.out.ho rfl).resolve_left (by rw [hh]; decide); unfold hNext; omega⟩
        have HSX := Lib.hid HS3.out
        rw [← hXe] at HSX
        clear hXe
        obtain ⟨hokX, hXa, hXn⟩ := hX0
        have HAM : Hid (∀ (w' : World), Calls Try.prog 123 #[.agg (tcells l off (X)), .int .i64 3600000000000] w' fun e' w2 => e' = .returned (.agg (tcells l off (X + 3600))) ∧ Below w'.heap.size w' w2) := Lib.hid (fun w' => by have := cAdd (l := l) 3600 (X) w' hokX.1 (by omega) (by omega); rw [show (1000000000 : Int) * 3600 = 3600000000000 from rfl] at this; exact this)
        have hgt : L1 < hNext L1 := by unfold hNext; omega
        have HAT2 := Lib.hid (at_hour HA.out hm hd hh)
        have HXN := Lib.hid hXn
        have hyr : yearL (hNext L1) ≤ lim + 1 := by have := year_day L1 (hNext L1) (by unfold hNext; omega); omega
        obtain ⟨hok2, -⟩ := P.okL (L := hNext L1) (by have := HA.out.ge; omega) hyr
        have HM2 : Hid (∀ (w' : World), Inv w' → Calls Try.prog 132 #[.agg (tcells l off (hNext L1))] w' fun e' w2 => e' = .returned (.int .i64 (hourL (hNext L1))) ∧ Below w'.heap.size w' w2) := Lib.hid (fun w' hI' => cHour H (hNext L1) w' hok2 hI')
        clear hXa hXn hokX
        go_wp2_with (refine wpList_load_row rfl 74 _ rfl T rfl _ _ _ _ HSX.out.row Try.underlying74 rfl timeSize ?_)
        refine (HAM.out _).mono ?_
        rintro e w6 ⟨rfl, hb6⟩
        have hst6 := HSX.out.below H hb6
        try rw [HXN.out]
        go_wp2_with (first | (refine wpList_store_row rfl 74 _ _ rfl T (tcells l off (hNext L1)) rfl rfl 74 _ hst6.row timeSize rfl (tcells_one _ _ _) ?_; generalize hX : World.setRow _ _ _ = wz; have HSZ := Lib.hid (show St l off Loc w T k0 k1 wz (hNext L1) by rw [← hX]; exact hst6.put hls _); clear hX) | (refine wpList_load_row rfl 74 _ rfl T rfl _ _ _ _ HSZ.out.row Try.underlying74 rfl timeSize ?_))
        refine (HM2.out _ (H.abs.keeps P.inv HSZ.out.bel)).mono ?_
        rintro e w7 ⟨rfl, hb7⟩
        have HS7 := Lib.hid (HSZ.out.below H hb7)
        by_cases h1 : hourL (hNext L1) = 0
        · have hdd : (hourL (hNext L1) == 0) = true := by simp [h1]
          go_wp2_with fail
          refine wp_goto ?_
          refine HJUMP.out _ _ (hNext L1) ?_ HS7.out HAT2.out.1 (by omega) hyr
          exact ⟨rfl, rfl, rfl, rfl, rfl, rfl, rfl, rfl, rfl⟩
        · have hdd : (hourL (hNext L1) == 0) = false := by simp [h1]
          go_wp2_with fail
          exact ⟨⟨true, hNext L1, rfl, HS7, Lib.hid HAT2.out.1, (HAT2.out.2.resolve_left h1).1, (HAT2.out.2.resolve_left h1).2.1, by rw [(HAT2.out.2.resolve_left h1).2.2]; exact hy1, by omega⟩, mu_less HS.out HS7.out (by omega) (by omega)⟩
      | false =>
        have HY : Hid (∀ (w' : World), Inv w' → Calls Try.prog 127 #[.agg (tcells l off (L1))] w' fun e' w2 => e' = .returned (.int .i64 (yearL (L1))) ∧ Below w'.heap.size w' w2) := Lib.hid (fun w' hI' => cYear H (L1) w' hok hI')
        have HMo : Hid (∀ (w' : World), Inv w' → Calls Try.prog 128 #[.agg (tcells l off (L1))] w' fun e' w2 => e' = .returned (.int .i64 (monthL (L1))) ∧ Below w'.heap.size w' w2) := Lib.hid (fun w' hI' => cMonth H (L1) w' hok hI')
        have HDa : Hid (∀ (w' : World), Inv w' → Calls Try.prog 119 #[.agg (tcells l off (L1))] w' fun e' w2 => e' = .returned (.int .i64 (mdayL (L1))) ∧ Below w'.heap.size w' w2) := Lib.hid (fun w' hI' => cDay H (L1) w' hok hI')
        have HHo : Hid (∀ (w' : World), Inv w' → Calls Try.prog 132 #[.agg (tcells l off (L1))] w' fun e' w2 => e' = .returned (.int .i64 (hourL (L1))) ∧ Below w'.heap.size w' w2) := Lib.hid (fun w' hI' => cHour H (L1) w' hok hI')
        have HDT : Hid (∀ (w' : World), Loc w' k1 → Calls Try.prog 129 #[.int .i64 (yearL L1), .int .i64 (monthL L1), .int .i64 (mdayL L1), .int .i64 (hourL L1), .int .i64 0, .int .i64 0, .int .i64 0, .pointer (some ⟨k1, 0, none⟩)] w' fun e' w2 => e' = .returned (.agg (tcells l off (L1 / 3600 * 3600))) ∧ Below w'.heap.size w' w2) := Lib.hid (fun w' hk => cDateHour H L1 k1 w' hyk hk)
        have hst3 := HS3.out
        go_upto_region 31 with fail
        refine wp_only ?_
        refine start_ (n := 11) (S := fun w' => w'.heap[T]? = some (.cells (tcells l off L1) 74 (0, 0)) ∧ Below w3.heap.size w3 w') (ds := [10]) #[false, false, false, false, false, false, false, false, false, false, false] (by kernel_rfl) rfl rfl ⟨hst3.row, (Below.refl _ _).drew⟩ (fun hHeld => ?_)
        refine pure_ (i := 8) (N := some 124) (v := ?_) (a' := ?_) #[false, false, false, false, false, false, false, false, true, false, false] rfl rfl (by kernel_rfl) (fun _ _ _ h => h) (Or.inl ⟨by rfl, ?_⟩) ?_ ?_
        rotate_left
        · intro w'
          go_simp
          with_reducible rfl
        rotate_left
        · simp only [Act.put, List.setIfInBounds_toArray, List.set_cons_zero, List.set_cons_succ, i64_w, i32_w]
          rfl
        refine take_ (i := 0) (N := some 116) (v := ?_) (a' := ?_) #[true, false, false, false, false, false, false, false, true, false, false] rfl rfl (by kernel_rfl) (fun _ _ _ h => h) (Or.inl ⟨by rfl, ?_⟩) hHeld ?_ ?_
        rotate_left
        · rintro w' ⟨s0, s1⟩
          refine exec_load_row _ _ w' 74 (.tmp 3) ?_ T ?_ _ _ _ _ s0 Try.underlying74 rfl timeSize
          · rfl
          · rfl
        rotate_left
        · simp only [Act.put, List.setIfInBounds_toArray, List.set_cons_zero, List.set_cons_succ, i64_w, i32_w]
          rfl
        refine take_ (i := 2) (N := some 118) (v := ?_) (a' := ?_) #[true, false, true, false, false, false, false, false, true, false, false] rfl rfl (by kernel_rfl) (fun _ _ _ h => h) (Or.inl ⟨by rfl, ?_⟩) hHeld ?_ ?_
        rotate_left
        · rintro w' ⟨s0, s1⟩
          refine exec_load_row _ _ w' 74 (.tmp 3) ?_ T ?_ _ _ _ _ s0 Try.underlying74 rfl timeSize
          · rfl
          · rfl
        rotate_left
        · simp only [Act.put, List.setIfInBounds_toArray, List.set_cons_zero, List.set_cons_succ, i64_w, i32_w]
          rfl
        refine take_ (i := 4) (N := some 120) (v := ?_) (a' := ?_) #[true, false, true, false, true, false, false, false, true, false, false] rfl rfl (by kernel_rfl) (fun _ _ _ h => h) (Or.inl ⟨by rfl, ?_⟩) hHeld ?_ ?_
        rotate_left
        · rintro w' ⟨s0, s1⟩
          refine exec_load_row _ _ w' 74 (.tmp 3) ?_ T ?_ _ _ _ _ s0 Try.underlying74 rfl timeSize
          · rfl
          · rfl
        rotate_left
        · simp only [Act.put, List.setIfInBounds_toArray, List.set_cons_zero, List.set_cons_succ, i64_w, i32_w]
          rfl
        refine take_ (i := 6) (N := some 122) (v := ?_) (a' := ?_) #[true, false, true, false, true, false, true, false, true, false, false] rfl rfl (by kernel_rfl) (fun _ _ _ h => h) (Or.inl ⟨by rfl, ?_⟩) hHeld ?_ ?_
        rotate_left
        · rintro w' ⟨s0, s1⟩
          refine exec_load_row _ _ w' 74 (.tmp 3) ?_ T ?_ _ _ _ _ s0 Try.underlying74 rfl timeSize
          · rfl
          · rfl
        rotate_left
        · simp only [Act.put, List.setIfInBounds_toArray, List.set_cons_zero, List.set_cons_succ, i64_w, i32_w]
          rfl
        refine one_ (i := 1) (N := some 117) #[true, true, true, false, true, false, true, false, true, false, false] rfl rfl (by kernel_rfl) (by decide) (fun K hK => ?_)
        refine goes_ Try.func127 (by kernel_rfl) rfl #[.agg (tcells l off L1)] (by rfl) rfl rfl (by simp only [List.map_toArray, List.map_cons, List.map_nil]; rfl) ?_
        with_reducible refine (HY.out _ (H.abs.keeps HI3.out hHeld.2)).mono ?_
        rintro e1 x1 ⟨rfl, hb1⟩
        refine ⟨_, rfl, ?_⟩
        refine hK.out _ _ ⟨(hb1.block _ (Array.getElem?_eq_some_iff.1 hHeld.1).1).trans hHeld.1, below_le hHeld.2 hb1⟩ (fun hHeld => ?_)
        clear hK K
        refine norm_ (a' := ?_) ?_ ?_
        rotate_left
        · show Act.put _ (some 117) _ = _
          simp only [Act.put, List.setIfInBounds_toArray, List.set_cons_zero, List.set_cons_succ, i64_w, i32_w]
          rfl
        refine one_ (i := 3) (N := some 119) #[true, true, true, true, true, false, true, false, true, false, false] rfl rfl (by kernel_rfl) (by decide) (fun K hK => ?_)
        refine goes_ Try.func128 (by kernel_rfl) rfl #[.agg (tcells l off L1)] (by rfl) rfl rfl (by simp only [List.map_toArray, List.map_cons, List.map_nil]; rfl) ?_
        with_reducible refine (HMo.out _ (H.abs.keeps HI3.out hHeld.2)).mono ?_
        rintro e3 x3 ⟨rfl, hb3⟩
        refine ⟨_, rfl, ?_⟩
        refine hK.out _ _ ⟨(hb3.block _ (Array.getElem?_eq_some_iff.1 hHeld.1).1).trans hHeld.1, below_le hHeld.2 hb3⟩ (fun hHeld => ?_)
        clear hK K
        refine norm_ (a' := ?_) ?_ ?_
        rotate_left
        · show Act.put _ (some 119) _ = _
          simp only [Act.put, List.setIfInBounds_toArray, List.set_cons_zero, List.set_cons_succ, i64_w, i32_w]
          rfl
        refine one_ (i := 5) (N := some 121) #[true, true, true, true, true, true, true, false, true, false, false] rfl rfl (by kernel_rfl) (by decide) (fun K hK => ?_)
        refine goes_ Try.func119 (by kernel_rfl) rfl #[.agg (tcells l off L1)] (by rfl) rfl rfl (by simp only [List.map_toArray, List.map_cons, List.map_nil]; rfl) ?_
        with_reducible refine (HDa.out _ (H.abs.keeps HI3.out hHeld.2)).mono ?_
        rintro e5 x5 ⟨rfl, hb5⟩
        refine ⟨_, rfl, ?_⟩
        refine hK.out _ _ ⟨(hb5.block _ (Array.getElem?_eq_some_iff.1 hHeld.1).1).trans hHeld.1, below_le hHeld.2 hb5⟩ (fun hHeld => ?_)
        clear hK K
        refine norm_ (a' := ?_) ?_ ?_
        rotate_left
        · show Act.put _ (some 121) _ = _
          simp only [Act.put, List.setIfInBounds_toArray, List.set_cons_zero, List.set_cons_succ, i64_w, i32_w]
          rfl
        refine one_ (i := 7) (N := some 123) #[true, true, true, true, true, true, true, true, true, false, false] rfl rfl (by kernel_rfl) (by decide) (fun K hK => ?_)
        refine goes_ Try.func132 (by kernel_rfl) rfl #[.agg (tcells l off L1)] (by rfl) rfl rfl (by simp only [List.map_toArray, List.map_cons, List.map_nil]; rfl) ?_
        with_reducible refine (HHo.out _ (H.abs.keeps HI3.out hHeld.2)).mono ?_
        rintro e7 x7 ⟨rfl, hb7⟩
        refine ⟨_, rfl, ?_⟩
        refine hK.out _ _ ⟨(hb7.block _ (Array.getElem?_eq_some_iff.1 hHeld.1).1).trans hHeld.1, below_le hHeld.2 hb7⟩ (fun hHeld => ?_)
        clear hK K
        refine norm_ (a' := ?_) ?_ ?_
        rotate_left
        · show Act.put _ (some 123) _ = _
          simp only [Act.put, List.setIfInBounds_toArray, List.set_cons_zero, List.set_cons_succ, i64_w, i32_w]
          rfl
        refine one_ (i := 9) (N := some 125) #[true, true, true, true, true, true, true, true, true, true, false] rfl rfl (by kernel_rfl) (by decide) (fun K hK => ?_)
        refine goes_ Try.func129 (by kernel_rfl) rfl #[.int .i64 (yearL L1), .int .i64 (monthL L1), .int .i64 (mdayL L1), .int .i64 (hourL L1), .int .i64 0, .int .i64 0, .int .i64 0, .pointer (some ⟨k1, 0, none⟩)] (by rfl) rfl rfl (by simp only [List.map_toArray, List.map_cons, List.map_nil]; rfl) ?_
        with_reducible refine (HDT.out _ (H.locK hst3.loc1 hHeld.2)).mono ?_
        rintro e9 x9 ⟨rfl, hb9⟩
        refine ⟨_, rfl, ?_⟩
        refine hK.out _ _ ⟨(hb9.block _ (Array.getElem?_eq_some_iff.1 hHeld.1).1).trans hHeld.1, below_le hHeld.2 hb9⟩ (fun hHeld => ?_)
        clear hK K
        refine norm_ (a' := ?_) ?_ ?_
        rotate_left
        · show Act.put _ (some 125) _ = _
          simp only [Act.put, List.setIfInBounds_toArray, List.set_cons_zero, List.set_cons_succ, i64_w, i32_w]
          rfl
        refine last_ (i := 10) (N := none) #[true, true, true, true, true, true, true, true, true, true, true] rfl rfl (by kernel_rfl) (by decide) (fun K hK => ?_)
        rw [if_pos (by rfl)]
        refine wp_store_row 74 _ _ rfl T (tcells l off (L1 / 3600 * 3600)) rfl rfl 74 _ hHeld.1 timeSize rfl (tcells_one _ _ _) ?_
        refine hK.out _ _ ?_
        clear hK K
        refine done_ (by kernel_rfl) ?_
        dsimp only [only]
        have hst5 := hst3.below H hHeld.2
        generalize hX : World.setRow _ T _ = wx
        have hstx : St l off Loc w T k0 k1 wx (L1 / 3600 * 3600) := by
          rw [← hX]
          exact hst5.put hls (L1 / 3600 * 3600)
        have HSX0 := Lib.hid hstx
        clear hstx hX hst3 hst5 hHeld HS3
        have okHour : LOk off (L1 / 3600 * 3600) ∧ YOk (L1 / 3600 * 3600) := P.okPart HA.out.ge (by omega) (by omega) (by omega)
        obtain ⟨X, hXe⟩ : ∃ X, X = L1 / 3600 * 3600 := ⟨_, rfl⟩
        have hX0 : (LOk off X ∧ YOk X) ∧ True ∧ X + 3600 = hNext L1 := by
          rw [hXe]
          exact ⟨okHour, trivial, by unfold hNext; omega⟩
        have HSX := Lib.hid HSX0.out
        clear HSX0
        rw [← hXe] at HSX ⊢
        clear hXe
        obtain ⟨hokX, hXa, hXn⟩ := hX0
        have HAM : Hid (∀ (w' : World), Calls Try.prog 123 #[.agg (tcells l off (X)), .int .i64 3600000000000] w' fun e' w2 => e' = .returned (.agg (tcells l off (X + 3600))) ∧ Below w'.heap.size w' w2) := Lib.hid (fun w' => by have := cAdd (l := l) 3600 (X) w' hokX.1 (by omega) (by omega); rw [show (1000000000 : Int) * 3600 = 3600000000000 from rfl] at this; exact this)
        have hgt : L1 < hNext L1 := by unfold hNext; omega
        have HAT2 := Lib.hid (at_hour HA.out hm hd hh)
        have HXN := Lib.hid hXn
        have hyr : yearL (hNext L1) ≤ lim + 1 := by have := year_day L1 (hNext L1) (by unfold hNext; omega); omega
        obtain ⟨hok2, -⟩ := P.okL (L := hNext L1) (by have := HA.out.ge; omega) hyr
        have HM2 : Hid (∀ (w' : World), Inv w' → Calls Try.prog 132 #[.agg (tcells l off (hNext L1))] w' fun e' w2 => e' = .returned (.int .i64 (hourL (hNext L1))) ∧ Below w'.heap.size w' w2) := Lib.hid (fun w' hI' => cHour H (hNext L1) w' hok2 hI')
        clear hXa hXn hokX
        go_wp2_with (refine wpList_load_row rfl 74 _ rfl T rfl _ _ _ _ HSX.out.row Try.underlying74 rfl timeSize ?_)
        refine (HAM.out _).mono ?_
        rintro e w6 ⟨rfl, hb6⟩
        have hst6 := HSX.out.below H hb6
        try rw [HXN.out]
        go_wp2_with (first | (refine wpList_store_row rfl 74 _ _ rfl T (tcells l off (hNext L1)) rfl rfl 74 _ hst6.row timeSize rfl (tcells_one _ _ _) ?_; generalize hX : World.setRow _ _ _ = wz; have HSZ := Lib.hid (show St l off Loc w T k0 k1 wz (hNext L1) by rw [← hX]; exact hst6.put hls _); clear hX) | (refine wpList_load_row rfl 74 _ rfl T rfl _ _ _ _ HSZ.out.row Try.underlying74 rfl timeSize ?_))
        refine (HM2.out _ (H.abs.keeps P.inv HSZ.out.bel)).mono ?_
        rintro e w7 ⟨rfl, hb7⟩
        have HS7 := Lib.hid (HSZ.out.below H hb7)
        by_cases h1 : hourL (hNext L1) = 0
        · have hdd : (hourL (hNext L1) == 0) = true := by simp [h1]
          go_wp2_with fail
          refine wp_goto ?_
          refine HJUMP.out _ _ (hNext L1) ?_ HS7.out HAT2.out.1 (by omega) hyr
          exact ⟨rfl, rfl, rfl, rfl, rfl, rfl, rfl, rfl, rfl⟩
        · have hdd : (hourL (hNext L1) == 0) = false := by simp [h1]
          go_wp2_with fail
          exact ⟨⟨true, hNext L1, rfl, HS7, Lib.hid HAT2.out.1, (HAT2.out.2.resolve_left h1).1, (HAT2.out.2.resolve_left h1).2.1, by rw [(HAT2.out.2.resolve_left h1).2.2]; exact hy1, by omega⟩, mu_less HS.out HS7.out (by omega) (by omega)⟩
end Go.Proofs.Ytbgbeohiafiacaa.Cal
