/- Lemmas and walks on the way to the law, merged by wip/tools/pack.py: NextL0, NextL1, NextL2, NextL3, NextL4, Next. Conditions: none. -/
import Derived.Test.YtmecbmgfacpecaaGreatDoorGrB
namespace Go.Proofs.YtmecbmgfacpecaaGreatDoor.Cal
open Go Go.RowKit Go.Proofs.YtmecbmgfacpecaaGreatDoorW.PrintWords Go.Proofs.YtmecbmgfacpecaaGreatDoorW.PrintLast
set_option linter.unusedVariables false
set_option linter.unusedSimpArgs false
set_option maxRecDepth 100000 in
set_option maxHeartbeats 8000000 in
theorem loop0 {l : Option Addr} {off : Int} {Inv : World → Prop} {Loc : World → Nat → Prop} (H : Clock l off Inv Loc) (hls : LocS Loc) {w : World} {g T k0 k1 : Nat} {S : Sets} {f lim : Int} (P : Par off Inv w g S f lim) (Q : Exit → Act → World → Prop) (L : Int) (ad : Bool) (a : Act) (wr : World) (ha : Fr g T k0 k1 ad lim a) (hst : St l off Loc w T k0 k1 wr L) (hat : At S f ad L) (hy : yearL L ≤ lim)
  (next : ∀ (a' : Act) (w' : World) (L' : Int) (ad' : Bool), Fr g T k0 k1 ad' lim a' → St l off Loc w T k0 k1 w' L' → At S f ad' L' → monthB S L' = true → yearL L' ≤ lim → L ≤ L' → Q .normal a' w')
  (jump : ∀ (a' : Act) (w' : World) (L' : Int), Fr g T k0 k1 true lim a' → St l off Loc w T k0 k1 w' L' → At S f true L' → L < L' → yearL L' ≤ lim + 1 → Q (.goto 0) a' w') :
  (loopK (Tryz.f249.body.getD .skip) 0).wp Tryz.prog (Exit.inBlock 0 Q) a wr := by
 obtain ⟨u, rfl⟩ := ha.open
 have HNEXT := Lib.hid next
 have HJUMP := Lib.hid jump
 have HST := Lib.hid hst
 have HAT := Lib.hid hat
 clear next jump hst hat ha
 simp only [loopK, loops, Tryz.f249, Option.getD_some, List.append_assoc, List.cons_append, List.nil_append, List.getElem?_cons_zero, List.getElem?_cons_succ]
 go_loopw [7] (fun v7 wr => ∃ (ad : Bool) (L' : Int), v7 = .bool ad ∧ Hid (St l off Loc w T k0 k1 wr L') ∧ Hid (At S f ad L') ∧ yearL L' ≤ lim ∧ L ≤ L') (fun _ wr => muT T (bndE off lim) wr)
 case atStart => exact ⟨ad, L, rfl, HST, HAT, hy, Int.le_refl _⟩
 case round =>
  obtain ⟨ad, L1, rfl, HS, HA, hy1, hle⟩ := hrel
  clear HST HAT hy
  obtain ⟨hok, hyk⟩ := P.okL HA.out.ge (by omega)
  obtain ⟨wo, hwo⟩ : ∃ wo, wo = wr := ⟨_, rfl⟩
  subst hwo
  have hspec : SpecRow wo g S none := P.spec.below HS.out.bel
  have HI := Lib.hid (H.abs.keeps P.inv HS.out.bel)
  have HC : Hid (∀ (w' : World), Inv w' → Calls Tryz.prog 253 #[.agg (tcells l off (L1))] w' fun e' w2 => e' = .returned (.int .i64 (monthL (L1))) ∧ Below w'.heap.size w' w2) := Lib.hid (fun w' hI' => cMonth H (L1) w' hok hI')
  have hm12 : 1 ≤ monthL L1 ∧ monthL L1 ≤ 12 := ⟨(date_L L1).1.m1, (date_L L1).1.m2⟩
  have hst := HS.out
  go_upto_region 12 with fail
  refine wp_only ?_
  refine start_ (n := 10) (S := fun w' => w'.heap[T]? = some (.cells (tcells l off L1) 127 (0, 0)) ∧ SpecRow w' g S none ∧ Below wo.heap.size wo w') (ds := []) #[false, false, false, false, false, false, false, false, false, false] (by kernel_rfl) rfl rfl ⟨hst.row, hspec, (Below.refl _ _).drew⟩ (fun hHeld => ?_)
  refine pure_ (i := 4) (N := some 48) (v := ?_) (a' := ?_) #[false, false, false, false, true, false, false, false, false, false] rfl rfl (by kernel_rfl) (fun _ _ _ h => h) (Or.inl ⟨by rfl, ?_⟩) ?_ ?_
  rotate_left
  ·intro w'
   go_simp
   with_reducible rfl
  rotate_left
  ·simp only [Act.put, List.setIfInBounds_toArray, List.set_cons_zero, List.set_cons_succ, i64_w, i32_w]
   rfl
  refine pure_ (i := 5) (N := some 49) (v := ?_) (a' := ?_) #[false, false, false, false, true, true, false, false, false, false] rfl rfl (by kernel_rfl) (fun _ _ _ h => h) (Or.inl ⟨by rfl, ?_⟩) ?_ ?_
  rotate_left
  ·intro w'
   go_simp
   with_reducible rfl
  rotate_left
  ·simp only [Act.put, List.setIfInBounds_toArray, List.set_cons_zero, List.set_cons_succ, i64_w, i32_w]
   rfl
  refine pure_ (i := 6) (N := some 50) (v := ?_) (a' := ?_) #[false, false, false, false, true, true, true, false, false, false] rfl rfl (by kernel_rfl) (fun _ _ _ h => h) (Or.inl ⟨by rfl, ?_⟩) ?_ ?_
  rotate_left
  ·intro w'
   go_simp
   with_reducible rfl
  rotate_left
  ·simp only [Act.put, List.setIfInBounds_toArray, List.set_cons_zero, List.set_cons_succ, i64_w, i32_w]
   rfl
  refine take_ (i := 0) (N := some 44) (v := ?_) (a' := ?_) #[true, false, false, false, true, true, true, false, false, false] rfl rfl (by kernel_rfl) (fun _ _ _ h => h) (Or.inl ⟨by rfl, ?_⟩) hHeld ?_ ?_
  rotate_left
  ·rintro w' ⟨s0, s1, s2⟩
   refine exec_load_row _ _ w' 127 (.tmp 3) ?_ T ?_ _ _ _ _ s0 Tryz.underlying127 rfl timeSize
   ·rfl
   ·rfl
  rotate_left
  ·simp only [Act.put, List.setIfInBounds_toArray, List.set_cons_zero, List.set_cons_succ, i64_w, i32_w]
   rfl
  refine take_ (i := 7) (N := some 51) (v := ?_) (a' := ?_) #[true, false, false, false, true, true, true, true, false, false] rfl rfl (by kernel_rfl) (fun _ _ _ h => h) (Or.inl ⟨by rfl, ?_⟩) hHeld ?_ ?_
  rotate_left
  ·rintro w' ⟨s0, s1, s2⟩
   have c3 : w'.cell? ⟨g, 4, none⟩ = some (.int .u64 (S.month : Int)) := cell_of_row _ _ _ _ _ _ s1
   go_simp
   with_reducible rfl
  rotate_left
  ·simp only [Act.put, List.setIfInBounds_toArray, List.set_cons_zero, List.set_cons_succ, i64_w, i32_w]
   rfl
  refine one_ (i := 1) (N := some 45) #[true, true, false, false, true, true, true, true, false, false] rfl rfl (by kernel_rfl) (by decide) (fun K hK => ?_)
  refine goes_ Tryz.func253 (by kernel_rfl) rfl #[.agg (tcells l off L1)] (by rfl) rfl rfl (by simp only [List.map_toArray, List.map_cons, List.map_nil]; rfl) ?_
  with_reducible refine (HC.out _ (H.abs.keeps HI.out hHeld.2.2)).mono ?_
  rintro e3 w3 ⟨rfl, hb1⟩
  refine ⟨_, rfl, ?_⟩
  refine hK.out _ _ ⟨(hb1.block _ (Array.getElem?_eq_some_iff.1 hHeld.1).1).trans hHeld.1, hHeld.2.1.below hb1, below_le hHeld.2.2 hb1⟩ (fun hHeld => ?_)
  clear hK K
  refine norm_ (a' := ?_) ?_ ?_
  rotate_left
  ·show Act.put _ (some 45) _ = _
   simp only [Act.put, List.setIfInBounds_toArray, List.set_cons_zero, List.set_cons_succ, i64_w, i32_w]
   rfl
  refine pure_ (i := 2) (N := some 46) (v := ?_) (a' := ?_) #[true, true, true, false, true, true, true, true, false, false] rfl rfl (by kernel_rfl) (fun _ _ _ h => h) (Or.inl ⟨by rfl, ?_⟩) ?_ ?_
  rotate_left
  ·intro w'
   go_simp
   with_reducible rfl
  rotate_left
  ·simp only [Act.put, List.setIfInBounds_toArray, List.set_cons_zero, List.set_cons_succ, i64_w, i32_w]
   rfl
  refine pure_ (i := 3) (N := some 47) (v := ?_) (a' := ?_) #[true, true, true, true, true, true, true, true, false, false] rfl rfl (by kernel_rfl) (fun _ _ _ h => h) (Or.inl ⟨by rfl, ?_⟩) ?_ ?_
  rotate_left
  ·intro w'
   go_simp
   with_reducible rfl
  rotate_left
  ·simp only [Act.put, List.setIfInBounds_toArray, List.set_cons_zero, List.set_cons_succ, i64_w, i32_w]
   rfl
  refine pure_ (i := 8) (N := some 52) (v := ?_) (a' := ?_) #[true, true, true, true, true, true, true, true, true, false] rfl rfl (by kernel_rfl) (fun _ _ _ h => h) (Or.inl ⟨by rfl, ?_⟩) ?_ ?_
  rotate_left
  ·intro w'
   go_simp
   with_reducible rfl
  rotate_left
  ·simp only [Act.put, List.setIfInBounds_toArray, List.set_cons_zero, List.set_cons_succ, i64_w, i32_w]
   rfl
  refine pure_ (i := 9) (N := some 53) (v := ?_) (a' := ?_) #[true, true, true, true, true, true, true, true, true, true] rfl rfl (by kernel_rfl) (fun _ _ _ h => h) (Or.inl ⟨by rfl, ?_⟩) ?_ ?_
  rotate_left
  ·intro w'
   go_simp
   with_reducible rfl
  rotate_left
  ·simp only [Act.put, List.setIfInBounds_toArray, List.set_cons_zero, List.set_cons_succ, i64_w, i32_w]
   rfl
  refine done_ (by kernel_rfl) ?_
  dsimp only [only]
  obtain ⟨-, hspec3, hb3⟩ := hHeld
  have HS3 := Lib.hid (HS.out.below H hb3)
  have HI3 := Lib.hid (H.abs.keeps P.inv HS3.out.bel)
  rw [bit_eq P.ok.2.2.2.2.1 (by omega) (by omega)]
  have hmB : inB S.month (monthL L1) = monthB S L1 := rfl
  rw [hmB]
  generalize IntKind.u64.wrap (2 ^ min (IntKind.u64.wrap (monthL L1)).toNat 64) = junk
  clear hst hspec hspec3 hmB hb1 hb3
  cases hm : monthB S L1 with
  | true =>
   go_wp2_with fail
   exact HNEXT.out _ _ L1 ad ⟨rfl, rfl, rfl, rfl, rfl, rfl, rfl, rfl, rfl⟩ HS3.out HA.out hm hy1 hle
  | false =>
   cases ad with
   | true =>
    obtain ⟨X, hXe⟩ : ∃ X, X = L1 := ⟨_, rfl⟩
    have hX0 : (LOk off X ∧ YOk X) ∧ X = mFirst X * 86400 ∧ mNext X = mNext L1 := by
     rw [hXe]
     exact ⟨⟨hok, hyk⟩, (HA.out.mo rfl).resolve_left (by rw [hm]; decide), rfl⟩
    have HSX := Lib.hid HS3.out
    rw [← hXe] at HSX
    clear hXe
    obtain ⟨hokX, hXa, hXn⟩ := hX0
    have HAM : Hid (∀ (w' : World), Inv w' → Calls Tryz.prog 255 #[.agg (tcells l off (X)), .int .i64 0, .int .i64 1, .int .i64 0] w' fun e' w2 => e' = .returned (.agg (tcells l off (mNext X))) ∧ Below w'.heap.size w' w2) := Lib.hid (fun w' hI' => cAddMonth H (X) w' hokX.1 hI' hokX.2 hXa)
    have hX0' := 0
    have hgt := (mNext_gt L1).1
    have HMN := Lib.hid (mNext_date L1)
    have HAT2 := Lib.hid (at_month HA.out hm)
    have HXN := Lib.hid hXn
    obtain ⟨hok2, -⟩ := P.okL (L := mNext L1) (by have := HA.out.ge; omega) (by rw [HMN.out.2.2.2]; split <;> omega)
    have HM2 : Hid (∀ (w' : World), Inv w' → Calls Tryz.prog 253 #[.agg (tcells l off (mNext L1))] w' fun e' w2 => e' = .returned (.int .i64 (monthL (mNext L1))) ∧ Below w'.heap.size w' w2) := Lib.hid (fun w' hI' => cMonth H (mNext L1) w' hok2 hI')
    clear hX0' hXa hXn hokX
    go_wp2_with (refine wpList_load_row rfl 127 _ rfl T rfl _ _ _ _ HSX.out.row Tryz.underlying127 rfl timeSize ?_)
    refine (HAM.out _ (H.abs.keeps P.inv HSX.out.bel)).mono ?_
    rintro e w6 ⟨rfl, hb6⟩
    have hst6 := HSX.out.below H hb6
    try rw [HXN.out]
    go_wp2_with (first | (refine wpList_store_row rfl 127 _ _ rfl T (tcells l off (mNext L1)) rfl rfl 127 _ hst6.row timeSize rfl (tcells_one _ _ _) ?_; generalize hX : World.setRow _ _ _ = wz; have HSZ := Lib.hid (show St l off Loc w T k0 k1 wz (mNext L1) by rw [← hX]; exact hst6.put hls _); clear hX) | (refine wpList_load_row rfl 127 _ rfl T rfl _ _ _ _ HSZ.out.row Tryz.underlying127 rfl timeSize ?_))
    refine (HM2.out _ (H.abs.keeps P.inv HSZ.out.bel)).mono ?_
    rintro e w7 ⟨rfl, hb7⟩
    have HS7 := Lib.hid (HSZ.out.below H hb7)
    by_cases h1 : monthL (mNext L1) = 1
    ·have hd : (monthL (mNext L1) == 1) = true := by simp [h1]
     go_wp2_with fail
     refine wp_goto ?_
     refine HJUMP.out _ _ (mNext L1) ?_ HS7.out HAT2.out (by omega) (by rw [HMN.out.2.2.2]; split <;> omega)
     exact ⟨rfl, rfl, rfl, rfl, rfl, rfl, rfl, rfl, rfl⟩
    ·have hd : (monthL (mNext L1) == 1) = false := by simp [h1]
     have hne : ¬ monthL L1 = 12 := fun h => h1 (by rw [HMN.out.2.2.1, if_pos h])
     go_wp2_with fail
     exact ⟨⟨true, mNext L1, rfl, HS7, HAT2, by rw [HMN.out.2.2.2, if_neg hne]; exact hy1, by omega⟩, mu_less HS.out HS7.out (by omega) (by omega)⟩
   | false =>
    have HY : Hid (∀ (w' : World), Inv w' → Calls Tryz.prog 252 #[.agg (tcells l off (L1))] w' fun e' w2 => e' = .returned (.int .i64 (yearL (L1))) ∧ Below w'.heap.size w' w2) := Lib.hid (fun w' hI' => cYear H (L1) w' hok hI')
    have HDT : Hid (∀ (w' : World), Loc w' k1 → Calls Tryz.prog 254 #[.int .i64 (yearL L1), .int .i64 (monthL L1), .int .i64 1, .int .i64 0, .int .i64 0, .int .i64 0, .int .i64 0, .pointer (some ⟨k1, 0, none⟩)] w' fun e' w2 => e' = .returned (.agg (tcells l off (mFirst L1 * 86400))) ∧ Below w'.heap.size w' w2) := Lib.hid (fun w' hk => cDateMonth H L1 k1 w' hyk hk)
    have hst3 := HS3.out
    go_upto_region 15 with fail
    refine wp_only ?_
    refine start_ (n := 7) (S := fun w' => w'.heap[T]? = some (.cells (tcells l off L1) 127 (0, 0)) ∧ Below w3.heap.size w3 w') (ds := [6]) #[false, false, false, false, false, false, false] (by kernel_rfl) rfl rfl ⟨hst3.row, (Below.refl _ _).drew⟩ (fun hHeld => ?_)
    refine pure_ (i := 4) (N := some 60) (v := ?_) (a' := ?_) #[false, false, false, false, true, false, false] rfl rfl (by kernel_rfl) (fun _ _ _ h => h) (Or.inl ⟨by rfl, ?_⟩) ?_ ?_
    rotate_left
    ·intro w'
     go_simp
     with_reducible rfl
    rotate_left
    ·simp only [Act.put, List.setIfInBounds_toArray, List.set_cons_zero, List.set_cons_succ, i64_w, i32_w]
     rfl
    refine take_ (i := 0) (N := some 56) (v := ?_) (a' := ?_) #[true, false, false, false, true, false, false] rfl rfl (by kernel_rfl) (fun _ _ _ h => h) (Or.inl ⟨by rfl, ?_⟩) hHeld ?_ ?_
    rotate_left
    ·rintro w' ⟨s0, s1⟩
     refine exec_load_row _ _ w' 127 (.tmp 3) ?_ T ?_ _ _ _ _ s0 Tryz.underlying127 rfl timeSize
     ·rfl
     ·rfl
    rotate_left
    ·simp only [Act.put, List.setIfInBounds_toArray, List.set_cons_zero, List.set_cons_succ, i64_w, i32_w]
     rfl
    refine take_ (i := 2) (N := some 58) (v := ?_) (a' := ?_) #[true, false, true, false, true, false, false] rfl rfl (by kernel_rfl) (fun _ _ _ h => h) (Or.inl ⟨by rfl, ?_⟩) hHeld ?_ ?_
    rotate_left
    ·rintro w' ⟨s0, s1⟩
     refine exec_load_row _ _ w' 127 (.tmp 3) ?_ T ?_ _ _ _ _ s0 Tryz.underlying127 rfl timeSize
     ·rfl
     ·rfl
    rotate_left
    ·simp only [Act.put, List.setIfInBounds_toArray, List.set_cons_zero, List.set_cons_succ, i64_w, i32_w]
     rfl
    refine one_ (i := 1) (N := some 57) #[true, true, true, false, true, false, false] rfl rfl (by kernel_rfl) (by decide) (fun K hK => ?_)
    refine goes_ Tryz.func252 (by kernel_rfl) rfl #[.agg (tcells l off L1)] (by rfl) rfl rfl (by simp only [List.map_toArray, List.map_cons, List.map_nil]; rfl) ?_
    with_reducible refine (HY.out _ (H.abs.keeps HI3.out hHeld.2)).mono ?_
    rintro e1 x1 ⟨rfl, hb1⟩
    refine ⟨_, rfl, ?_⟩
    refine hK.out _ _ ⟨(hb1.block _ (Array.getElem?_eq_some_iff.1 hHeld.1).1).trans hHeld.1, below_le hHeld.2 hb1⟩ (fun hHeld => ?_)
    clear hK K
    refine norm_ (a' := ?_) ?_ ?_
    rotate_left
    ·show Act.put _ (some 57) _ = _
     simp only [Act.put, List.setIfInBounds_toArray, List.set_cons_zero, List.set_cons_succ, i64_w, i32_w]
     rfl
    refine one_ (i := 3) (N := some 59) #[true, true, true, true, true, false, false] rfl rfl (by kernel_rfl) (by decide) (fun K hK => ?_)
    refine goes_ Tryz.func253 (by kernel_rfl) rfl #[.agg (tcells l off L1)] (by rfl) rfl rfl (by simp only [List.map_toArray, List.map_cons, List.map_nil]; rfl) ?_
    with_reducible refine (HC.out _ (H.abs.keeps HI3.out hHeld.2)).mono ?_
    rintro e3 x3 ⟨rfl, hb3⟩
    refine ⟨_, rfl, ?_⟩
    refine hK.out _ _ ⟨(hb3.block _ (Array.getElem?_eq_some_iff.1 hHeld.1).1).trans hHeld.1, below_le hHeld.2 hb3⟩ (fun hHeld => ?_)
    clear hK K
    refine norm_ (a' := ?_) ?_ ?_
    rotate_left
    ·show Act.put _ (some 59) _ = _
     simp only [Act.put, List.setIfInBounds_toArray, List.set_cons_zero, List.set_cons_succ, i64_w, i32_w]
     rfl
    refine one_ (i := 5) (N := some 61) #[true, true, true, true, true, true, false] rfl rfl (by kernel_rfl) (by decide) (fun K hK => ?_)
    refine goes_ Tryz.func254 (by kernel_rfl) rfl #[.int .i64 (yearL L1), .int .i64 (monthL L1), .int .i64 1, .int .i64 0, .int .i64 0, .int .i64 0, .int .i64 0, .pointer (some ⟨k1, 0, none⟩)] (by rfl) rfl rfl (by simp only [List.map_toArray, List.map_cons, List.map_nil]; rfl) ?_
    with_reducible refine (HDT.out _ (H.locK hst3.loc1 hHeld.2)).mono ?_
    rintro e5 x5 ⟨rfl, hb5⟩
    refine ⟨_, rfl, ?_⟩
    refine hK.out _ _ ⟨(hb5.block _ (Array.getElem?_eq_some_iff.1 hHeld.1).1).trans hHeld.1, below_le hHeld.2 hb5⟩ (fun hHeld => ?_)
    clear hK K
    refine norm_ (a' := ?_) ?_ ?_
    rotate_left
    ·show Act.put _ (some 61) _ = _
     simp only [Act.put, List.setIfInBounds_toArray, List.set_cons_zero, List.set_cons_succ, i64_w, i32_w]
     rfl
    refine last_ (i := 6) (N := none) #[true, true, true, true, true, true, true] rfl rfl (by kernel_rfl) (by decide) (fun K hK => ?_)
    rw [if_pos (by rfl)]
    refine wp_store_row 127 _ _ rfl T (tcells l off (mFirst L1 * 86400)) rfl rfl 127 _ hHeld.1 timeSize rfl (tcells_one _ _ _) ?_
    refine hK.out _ _ ?_
    clear hK K
    refine done_ (by kernel_rfl) ?_
    dsimp only [only]
    have hst5 := hst3.below H hHeld.2
    have hokM := P.okMonth HA.out.ge (by omega) hm
    have hsm := same_month (L := L1) (x := mFirst L1 * 86400) (by omega) (by have := mNext_gt L1; omega)
    generalize hX : World.setRow _ T _ = wx
    have hstx : St l off Loc w T k0 k1 wx (mFirst L1 * 86400) := by
     rw [← hX]
     exact hst5.put hls (mFirst L1 * 86400)
    have HSX0 := Lib.hid hstx
    clear hstx
    clear hX hst3 hst5 hHeld HS3
    obtain ⟨X, hXe⟩ : ∃ X, X = mFirst L1 * 86400 := ⟨_, rfl⟩
    have hX0 : (LOk off X ∧ YOk X) ∧ X = mFirst X * 86400 ∧ mNext X = mNext L1 := by
     rw [hXe]
     refine ⟨hokM, ?_, ?_⟩
     ·unfold mFirst at *; rw [hsm.1, hsm.2]
     ·unfold mNext mFirst at *; rw [hsm.1, hsm.2]
    have HSX := Lib.hid HSX0.out
    clear HSX0
    rw [← hXe] at HSX ⊢
    clear hXe hsm hokM
    obtain ⟨hokX, hXa, hXn⟩ := hX0
    have HAM : Hid (∀ (w' : World), Inv w' → Calls Tryz.prog 255 #[.agg (tcells l off (X)), .int .i64 0, .int .i64 1, .int .i64 0] w' fun e' w2 => e' = .returned (.agg (tcells l off (mNext X))) ∧ Below w'.heap.size w' w2) := Lib.hid (fun w' hI' => cAddMonth H (X) w' hokX.1 hI' hokX.2 hXa)
    have hX0' := 0
    have hgt := (mNext_gt L1).1
    have HMN := Lib.hid (mNext_date L1)
    have HAT2 := Lib.hid (at_month HA.out hm)
    have HXN := Lib.hid hXn
    obtain ⟨hok2, -⟩ := P.okL (L := mNext L1) (by have := HA.out.ge; omega) (by rw [HMN.out.2.2.2]; split <;> omega)
    have HM2 : Hid (∀ (w' : World), Inv w' → Calls Tryz.prog 253 #[.agg (tcells l off (mNext L1))] w' fun e' w2 => e' = .returned (.int .i64 (monthL (mNext L1))) ∧ Below w'.heap.size w' w2) := Lib.hid (fun w' hI' => cMonth H (mNext L1) w' hok2 hI')
    clear hX0' hXa hXn hokX
    go_wp2_with (refine wpList_load_row rfl 127 _ rfl T rfl _ _ _ _ HSX.out.row Tryz.underlying127 rfl timeSize ?_)
    refine (HAM.out _ (H.abs.keeps P.inv HSX.out.bel)).mono ?_
    rintro e w6 ⟨rfl, hb6⟩
    have hst6 := HSX.out.below H hb6
    try rw [HXN.out]
    go_wp2_with (first | (refine wpList_store_row rfl 127 _ _ rfl T (tcells l off (mNext L1)) rfl rfl 127 _ hst6.row timeSize rfl (tcells_one _ _ _) ?_; generalize hX : World.setRow _ _ _ = wz; have HSZ := Lib.hid (show St l off Loc w T k0 k1 wz (mNext L1) by rw [← hX]; exact hst6.put hls _); clear hX) | (refine wpList_load_row rfl 127 _ rfl T rfl _ _ _ _ HSZ.out.row Tryz.underlying127 rfl timeSize ?_))
    refine (HM2.out _ (H.abs.keeps P.inv HSZ.out.bel)).mono ?_
    rintro e w7 ⟨rfl, hb7⟩
    have HS7 := Lib.hid (HSZ.out.below H hb7)
    by_cases h1 : monthL (mNext L1) = 1
    ·have hd : (monthL (mNext L1) == 1) = true := by simp [h1]
     go_wp2_with fail
     refine wp_goto ?_
     refine HJUMP.out _ _ (mNext L1) ?_ HS7.out HAT2.out (by omega) (by rw [HMN.out.2.2.2]; split <;> omega)
     exact ⟨rfl, rfl, rfl, rfl, rfl, rfl, rfl, rfl, rfl⟩
    ·have hd : (monthL (mNext L1) == 1) = false := by simp [h1]
     have hne : ¬ monthL L1 = 12 := fun h => h1 (by rw [HMN.out.2.2.1, if_pos h])
     go_wp2_with fail
     exact ⟨⟨true, mNext L1, rfl, HS7, HAT2, by rw [HMN.out.2.2.2, if_neg hne]; exact hy1, by omega⟩, mu_less HS.out HS7.out (by omega) (by omega)⟩
end Go.Proofs.YtmecbmgfacpecaaGreatDoor.Cal
namespace Go.Proofs.YtmecbmgfacpecaaGreatDoor.Cal
open Go Go.RowKit Go.Proofs.YtmecbmgfacpecaaGreatDoorW.PrintWords Go.Proofs.YtmecbmgfacpecaaGreatDoorW.PrintLast
set_option linter.unusedVariables false
set_option linter.unusedSimpArgs false
set_option maxRecDepth 100000 in
set_option maxHeartbeats 8000000 in
theorem loop1 {l : Option Addr} {off : Int} {Inv : World → Prop} {Loc : World → Nat → Prop} (H : Clock l off Inv Loc) (hls : LocS Loc) {w : World} {g T k0 k1 : Nat} {S : Sets} {f lim : Int} (P : Par off Inv w g S f lim) (Q : Exit → Act → World → Prop) (L : Int) (ad : Bool) (a : Act) (wr : World) (ha : Fr g T k0 k1 ad lim a) (hst : St l off Loc w T k0 k1 wr L) (hat : At S f ad L) (hy : yearL L ≤ lim) (hm : monthB S L = true)
  (next : ∀ (a' : Act) (w' : World) (L' : Int) (ad' : Bool), Fr g T k0 k1 ad' lim a' → St l off Loc w T k0 k1 w' L' → At S f ad' L' → monthB S L' = true ∧ dayB S L' = true → yearL L' ≤ lim → L ≤ L' → Q .normal a' w')
  (jump : ∀ (a' : Act) (w' : World) (L' : Int), Fr g T k0 k1 true lim a' → St l off Loc w T k0 k1 w' L' → At S f true L' → L < L' → yearL L' ≤ lim + 1 → Q (.goto 0) a' w') :
  (loopK (Tryz.f249.body.getD .skip) 1).wp Tryz.prog (Exit.inBlock 2 Q) a wr := by
 obtain ⟨u, rfl⟩ := ha.open
 have HNEXT := Lib.hid next
 have HJUMP := Lib.hid jump
 have HST := Lib.hid hst
 have HAT := Lib.hid hat
 clear next jump hst hat ha
 simp only [loopK, loops, Tryz.f249, Option.getD_some, List.append_assoc, List.cons_append, List.nil_append, List.getElem?_cons_zero, List.getElem?_cons_succ]
 go_loopw [7] (fun v7 wr => ∃ (ad : Bool) (L' : Int), v7 = .bool ad ∧ Hid (St l off Loc w T k0 k1 wr L') ∧ Hid (At S f ad L') ∧ monthB S L' = true ∧ yearL L' ≤ lim ∧ L ≤ L') (fun _ wr => muT T (bndE off lim) wr)
 case atStart => exact ⟨ad, L, rfl, HST, HAT, hm, hy, Int.le_refl _⟩
 case round =>
  clear hm
  obtain ⟨ad, L1, rfl, HS, HA, hm, hy1, hle⟩ := hrel
  clear HST HAT hy
  obtain ⟨hok, hyk⟩ := P.okL HA.out.ge (by omega)
  obtain ⟨wo, hwo⟩ : ∃ wo, wo = wr := ⟨_, rfl⟩
  subst hwo
  have HI := Lib.hid (H.abs.keeps P.inv HS.out.bel)
  have HC : Hid (∀ (w' : World), Inv w' → SpecRow w' g S none → Calls Tryz.prog 256 #[.pointer (some ⟨g, 0, none⟩), .agg (tcells l off L1)] w' fun e' w2 => e' = .returned (.bool (dayB S L1)) ∧ Below w'.heap.size w' w2) := Lib.hid (fun w' hI' hg => cMatch H S P.ok g none L1 w' hok hI' hg)
  have hspec : SpecRow wo g S none := P.spec.below HS.out.bel
  have HSP := Lib.hid hspec
  clear hspec
  go_wp2_with (refine wpList_load_row rfl 127 _ rfl T rfl _ _ _ _ HS.out.row Tryz.underlying127 rfl timeSize ?_)
  refine (HC.out _ HI.out HSP.out).mono ?_
  rintro e w3 ⟨rfl, hb3⟩
  have HS3 := Lib.hid (HS.out.below H hb3)
  have HI3 := Lib.hid (H.abs.keeps P.inv HS3.out.bel)
  clear HC hb3
  cases hd : dayB S L1 with
  | true =>
   go_wp2_with fail
   exact HNEXT.out _ _ L1 ad ⟨rfl, rfl, rfl, rfl, rfl, rfl, rfl, rfl, rfl⟩ HS3.out HA.out ⟨hm, hd⟩ hy1 hle
  | false =>
   cases ad with
   | true =>
    obtain ⟨X, hXe⟩ : ∃ X, X = L1 := ⟨_, rfl⟩
    have hX0 : (LOk off X ∧ YOk X) ∧ X % 86400 = 0 ∧ dNext X = dNext L1 := by
     rw [hXe]
     exact ⟨⟨hok, hyk⟩, (HA.out.da rfl).resolve_left (by rw [hd]; decide), rfl⟩
    have HSX := Lib.hid HS3.out
    rw [← hXe] at HSX
    clear hXe
    obtain ⟨hokX, hXa, hXn⟩ := hX0
    have HAM : Hid (∀ (w' : World), Inv w' → Calls Tryz.prog 255 #[.agg (tcells l off (X)), .int .i64 0, .int .i64 0, .int .i64 1] w' fun e' w2 => e' = .returned (.agg (tcells l off (dNext X))) ∧ Below w'.heap.size w' w2) := Lib.hid (fun w' hI' => cAddDay H (X) w' hokX.1 hI' hokX.2 hXa)
    have hgt : L1 < dNext L1 := by unfold dNext; omega
    have HAT2 := Lib.hid (at_day HA.out hm hd)
    have HXN := Lib.hid hXn
    have hyr : yearL (dNext L1) ≤ lim + 1 := by rcases dNext_date L1 with h | h; (rw [h.2, (mNext_date L1).2.2.2]; split <;> omega); (rw [h.2.2]; omega)
    obtain ⟨hok2, -⟩ := P.okL (L := dNext L1) (by have := HA.out.ge; omega) hyr
    have HM2 : Hid (∀ (w' : World), Inv w' → Calls Tryz.prog 248 #[.agg (tcells l off (dNext L1))] w' fun e' w2 => e' = .returned (.int .i64 (mdayL (dNext L1))) ∧ Below w'.heap.size w' w2) := Lib.hid (fun w' hI' => cDay H (dNext L1) w' hok2 hI')
    have HH2 : Hid (∀ (w' : World), Inv w' → Calls Tryz.prog 257 #[.agg (tcells l off (dNext L1))] w' fun e' w2 => e' = .returned (.int .i64 0) ∧ Below w'.heap.size w' w2) := Lib.hid (fun w' hI' => by
     have := cHour H (dNext L1) w' hok2 hI'
     rw [show hourL (dNext L1) = 0 by unfold hourL dNext; omega] at this
     exact this)
    clear hXa hXn hokX
    go_wp2_with (refine wpList_load_row rfl 127 _ rfl T rfl _ _ _ _ HSX.out.row Tryz.underlying127 rfl timeSize ?_)
    refine (HAM.out _ (H.abs.keeps P.inv HSX.out.bel)).mono ?_
    rintro e w6 ⟨rfl, hb6⟩
    have hst6 := HSX.out.below H hb6
    try rw [HXN.out]
    go_wp2_with (first | (refine wpList_store_row rfl 127 _ _ rfl T (tcells l off (dNext L1)) rfl rfl 127 _ hst6.row timeSize rfl (tcells_one _ _ _) ?_; generalize hX : World.setRow _ _ _ = wz; have HSZ := Lib.hid (show St l off Loc w T k0 k1 wz (dNext L1) by rw [← hX]; exact hst6.put hls _); clear hX) | (refine wpList_load_row rfl 127 _ rfl T rfl _ _ _ _ HSZ.out.row Tryz.underlying127 rfl timeSize ?_))
    refine (HH2.out _ (H.abs.keeps P.inv HSZ.out.bel)).mono ?_
    rintro e w8 ⟨rfl, hb8⟩
    have HSY := Lib.hid (HSZ.out.below H hb8)
    clear hb8
    go_wp2_with (refine wpList_load_row rfl 127 _ rfl T rfl _ _ _ _ HSY.out.row Tryz.underlying127 rfl timeSize ?_)
    refine (HM2.out _ (H.abs.keeps P.inv HSY.out.bel)).mono ?_
    rintro e w7 ⟨rfl, hb7⟩
    have HS7 := Lib.hid (HSY.out.below H hb7)
    by_cases h1 : mdayL (dNext L1) = 1
    ·have hdd : (mdayL (dNext L1) == 1) = true := by simp [h1]
     go_wp2_with fail
     refine wp_goto ?_
     refine HJUMP.out _ _ (dNext L1) ?_ HS7.out HAT2.out.1 (by omega) hyr
     exact ⟨rfl, rfl, rfl, rfl, rfl, rfl, rfl, rfl, rfl⟩
    ·have hdd : (mdayL (dNext L1) == 1) = false := by simp [h1]
     go_wp2_with fail
     exact ⟨⟨true, dNext L1, rfl, HS7, Lib.hid HAT2.out.1, (HAT2.out.2.resolve_left h1).1, by rw [(HAT2.out.2.resolve_left h1).2]; exact hy1, by omega⟩, mu_less HS.out HS7.out (by omega) (by omega)⟩
   | false =>
    have HY : Hid (∀ (w' : World), Inv w' → Calls Tryz.prog 252 #[.agg (tcells l off (L1))] w' fun e' w2 => e' = .returned (.int .i64 (yearL (L1))) ∧ Below w'.heap.size w' w2) := Lib.hid (fun w' hI' => cYear H (L1) w' hok hI')
    have HMo : Hid (∀ (w' : World), Inv w' → Calls Tryz.prog 253 #[.agg (tcells l off (L1))] w' fun e' w2 => e' = .returned (.int .i64 (monthL (L1))) ∧ Below w'.heap.size w' w2) := Lib.hid (fun w' hI' => cMonth H (L1) w' hok hI')
    have HDa : Hid (∀ (w' : World), Inv w' → Calls Tryz.prog 248 #[.agg (tcells l off (L1))] w' fun e' w2 => e' = .returned (.int .i64 (mdayL (L1))) ∧ Below w'.heap.size w' w2) := Lib.hid (fun w' hI' => cDay H (L1) w' hok hI')
    have HDT : Hid (∀ (w' : World), Loc w' k1 → Calls Tryz.prog 254 #[.int .i64 (yearL L1), .int .i64 (monthL L1), .int .i64 (mdayL L1), .int .i64 0, .int .i64 0, .int .i64 0, .int .i64 0, .pointer (some ⟨k1, 0, none⟩)] w' fun e' w2 => e' = .returned (.agg (tcells l off (L1 / 86400 * 86400))) ∧ Below w'.heap.size w' w2) := Lib.hid (fun w' hk => cDateDay H L1 k1 w' hyk hk)
    have hst3 := HS3.out
    go_upto_region 21 with fail
    refine wp_only ?_
    refine start_ (n := 9) (S := fun w' => w'.heap[T]? = some (.cells (tcells l off L1) 127 (0, 0)) ∧ Below w3.heap.size w3 w') (ds := [8]) #[false, false, false, false, false, false, false, false, false] (by kernel_rfl) rfl rfl ⟨hst3.row, (Below.refl _ _).drew⟩ (fun hHeld => ?_)
    refine pure_ (i := 6) (N := some 79) (v := ?_) (a' := ?_) #[false, false, false, false, false, false, true, false, false] rfl rfl (by kernel_rfl) (fun _ _ _ h => h) (Or.inl ⟨by rfl, ?_⟩) ?_ ?_
    rotate_left
    ·intro w'
     go_simp
     with_reducible rfl
    rotate_left
    ·simp only [Act.put, List.setIfInBounds_toArray, List.set_cons_zero, List.set_cons_succ, i64_w, i32_w]
     rfl
    refine take_ (i := 0) (N := some 73) (v := ?_) (a' := ?_) #[true, false, false, false, false, false, true, false, false] rfl rfl (by kernel_rfl) (fun _ _ _ h => h) (Or.inl ⟨by rfl, ?_⟩) hHeld ?_ ?_
    rotate_left
    ·rintro w' ⟨s0, s1⟩
     refine exec_load_row _ _ w' 127 (.tmp 3) ?_ T ?_ _ _ _ _ s0 Tryz.underlying127 rfl timeSize
     ·rfl
     ·rfl
    rotate_left
    ·simp only [Act.put, List.setIfInBounds_toArray, List.set_cons_zero, List.set_cons_succ, i64_w, i32_w]
     rfl
    refine take_ (i := 2) (N := some 75) (v := ?_) (a' := ?_) #[true, false, true, false, false, false, true, false, false] rfl rfl (by kernel_rfl) (fun _ _ _ h => h) (Or.inl ⟨by rfl, ?_⟩) hHeld ?_ ?_
    rotate_left
    ·rintro w' ⟨s0, s1⟩
     refine exec_load_row _ _ w' 127 (.tmp 3) ?_ T ?_ _ _ _ _ s0 Tryz.underlying127 rfl timeSize
     ·rfl
     ·rfl
    rotate_left
    ·simp only [Act.put, List.setIfInBounds_toArray, List.set_cons_zero, List.set_cons_succ, i64_w, i32_w]
     rfl
    refine take_ (i := 4) (N := some 77) (v := ?_) (a' := ?_) #[true, false, true, false, true, false, true, false, false] rfl rfl (by kernel_rfl) (fun _ _ _ h => h) (Or.inl ⟨by rfl, ?_⟩) hHeld ?_ ?_
    rotate_left
    ·rintro w' ⟨s0, s1⟩
     refine exec_load_row _ _ w' 127 (.tmp 3) ?_ T ?_ _ _ _ _ s0 Tryz.underlying127 rfl timeSize
     ·rfl
     ·rfl
    rotate_left
    ·simp only [Act.put, List.setIfInBounds_toArray, List.set_cons_zero, List.set_cons_succ, i64_w, i32_w]
     rfl
    refine one_ (i := 1) (N := some 74) #[true, true, true, false, true, false, true, false, false] rfl rfl (by kernel_rfl) (by decide) (fun K hK => ?_)
    refine goes_ Tryz.func252 (by kernel_rfl) rfl #[.agg (tcells l off L1)] (by rfl) rfl rfl (by simp only [List.map_toArray, List.map_cons, List.map_nil]; rfl) ?_
    with_reducible refine (HY.out _ (H.abs.keeps HI3.out hHeld.2)).mono ?_
    rintro e1 x1 ⟨rfl, hb1⟩
    refine ⟨_, rfl, ?_⟩
    refine hK.out _ _ ⟨(hb1.block _ (Array.getElem?_eq_some_iff.1 hHeld.1).1).trans hHeld.1, below_le hHeld.2 hb1⟩ (fun hHeld => ?_)
    clear hK K
    refine norm_ (a' := ?_) ?_ ?_
    rotate_left
    ·show Act.put _ (some 74) _ = _
     simp only [Act.put, List.setIfInBounds_toArray, List.set_cons_zero, List.set_cons_succ, i64_w, i32_w]
     rfl
    refine one_ (i := 3) (N := some 76) #[true, true, true, true, true, false, true, false, false] rfl rfl (by kernel_rfl) (by decide) (fun K hK => ?_)
    refine goes_ Tryz.func253 (by kernel_rfl) rfl #[.agg (tcells l off L1)] (by rfl) rfl rfl (by simp only [List.map_toArray, List.map_cons, List.map_nil]; rfl) ?_
    with_reducible refine (HMo.out _ (H.abs.keeps HI3.out hHeld.2)).mono ?_
    rintro e3 x3 ⟨rfl, hb3⟩
    refine ⟨_, rfl, ?_⟩
    refine hK.out _ _ ⟨(hb3.block _ (Array.getElem?_eq_some_iff.1 hHeld.1).1).trans hHeld.1, below_le hHeld.2 hb3⟩ (fun hHeld => ?_)
    clear hK K
    refine norm_ (a' := ?_) ?_ ?_
    rotate_left
    ·show Act.put _ (some 76) _ = _
     simp only [Act.put, List.setIfInBounds_toArray, List.set_cons_zero, List.set_cons_succ, i64_w, i32_w]
     rfl
    refine one_ (i := 5) (N := some 78) #[true, true, true, true, true, true, true, false, false] rfl rfl (by kernel_rfl) (by decide) (fun K hK => ?_)
    refine goes_ Tryz.func248 (by kernel_rfl) rfl #[.agg (tcells l off L1)] (by rfl) rfl rfl (by simp only [List.map_toArray, List.map_cons, List.map_nil]; rfl) ?_
    with_reducible refine (HDa.out _ (H.abs.keeps HI3.out hHeld.2)).mono ?_
    rintro e5 x5 ⟨rfl, hb5⟩
    refine ⟨_, rfl, ?_⟩
    refine hK.out _ _ ⟨(hb5.block _ (Array.getElem?_eq_some_iff.1 hHeld.1).1).trans hHeld.1, below_le hHeld.2 hb5⟩ (fun hHeld => ?_)
    clear hK K
    refine norm_ (a' := ?_) ?_ ?_
    rotate_left
    ·show Act.put _ (some 78) _ = _
     simp only [Act.put, List.setIfInBounds_toArray, List.set_cons_zero, List.set_cons_succ, i64_w, i32_w]
     rfl
    refine one_ (i := 7) (N := some 80) #[true, true, true, true, true, true, true, true, false] rfl rfl (by kernel_rfl) (by decide) (fun K hK => ?_)
    refine goes_ Tryz.func254 (by kernel_rfl) rfl #[.int .i64 (yearL L1), .int .i64 (monthL L1), .int .i64 (mdayL L1), .int .i64 0, .int .i64 0, .int .i64 0, .int .i64 0, .pointer (some ⟨k1, 0, none⟩)] (by rfl) rfl rfl (by simp only [List.map_toArray, List.map_cons, List.map_nil]; rfl) ?_
    with_reducible refine (HDT.out _ (H.locK hst3.loc1 hHeld.2)).mono ?_
    rintro e7 x7 ⟨rfl, hb7⟩
    refine ⟨_, rfl, ?_⟩
    refine hK.out _ _ ⟨(hb7.block _ (Array.getElem?_eq_some_iff.1 hHeld.1).1).trans hHeld.1, below_le hHeld.2 hb7⟩ (fun hHeld => ?_)
    clear hK K
    refine norm_ (a' := ?_) ?_ ?_
    rotate_left
    ·show Act.put _ (some 80) _ = _
     simp only [Act.put, List.setIfInBounds_toArray, List.set_cons_zero, List.set_cons_succ, i64_w, i32_w]
     rfl
    refine last_ (i := 8) (N := none) #[true, true, true, true, true, true, true, true, true] rfl rfl (by kernel_rfl) (by decide) (fun K hK => ?_)
    rw [if_pos (by rfl)]
    refine wp_store_row 127 _ _ rfl T (tcells l off (L1 / 86400 * 86400)) rfl rfl 127 _ hHeld.1 timeSize rfl (tcells_one _ _ _) ?_
    refine hK.out _ _ ?_
    clear hK K
    refine done_ (by kernel_rfl) ?_
    dsimp only [only]
    have hst5 := hst3.below H hHeld.2
    generalize hX : World.setRow _ T _ = wx
    have hstx : St l off Loc w T k0 k1 wx (L1 / 86400 * 86400) := by
     rw [← hX]
     exact hst5.put hls (L1 / 86400 * 86400)
    have HSX0 := Lib.hid hstx
    clear hstx hX hst3 hst5 hHeld HS3
    obtain ⟨X, hXe⟩ : ∃ X, X = L1 / 86400 * 86400 := ⟨_, rfl⟩
    have hX0 : (LOk off X ∧ YOk X) ∧ X % 86400 = 0 ∧ dNext X = dNext L1 := by
     rw [hXe]
     exact ⟨P.okDay HA.out.ge (by omega), by omega, by unfold dNext; omega⟩
    have HSX := Lib.hid HSX0.out
    clear HSX0
    rw [← hXe] at HSX ⊢
    clear hXe
    obtain ⟨hokX, hXa, hXn⟩ := hX0
    have HAM : Hid (∀ (w' : World), Inv w' → Calls Tryz.prog 255 #[.agg (tcells l off (X)), .int .i64 0, .int .i64 0, .int .i64 1] w' fun e' w2 => e' = .returned (.agg (tcells l off (dNext X))) ∧ Below w'.heap.size w' w2) := Lib.hid (fun w' hI' => cAddDay H (X) w' hokX.1 hI' hokX.2 hXa)
    have hgt : L1 < dNext L1 := by unfold dNext; omega
    have HAT2 := Lib.hid (at_day HA.out hm hd)
    have HXN := Lib.hid hXn
    have hyr : yearL (dNext L1) ≤ lim + 1 := by rcases dNext_date L1 with h | h; (rw [h.2, (mNext_date L1).2.2.2]; split <;> omega); (rw [h.2.2]; omega)
    obtain ⟨hok2, -⟩ := P.okL (L := dNext L1) (by have := HA.out.ge; omega) hyr
    have HM2 : Hid (∀ (w' : World), Inv w' → Calls Tryz.prog 248 #[.agg (tcells l off (dNext L1))] w' fun e' w2 => e' = .returned (.int .i64 (mdayL (dNext L1))) ∧ Below w'.heap.size w' w2) := Lib.hid (fun w' hI' => cDay H (dNext L1) w' hok2 hI')
    have HH2 : Hid (∀ (w' : World), Inv w' → Calls Tryz.prog 257 #[.agg (tcells l off (dNext L1))] w' fun e' w2 => e' = .returned (.int .i64 0) ∧ Below w'.heap.size w' w2) := Lib.hid (fun w' hI' => by
     have := cHour H (dNext L1) w' hok2 hI'
     rw [show hourL (dNext L1) = 0 by unfold hourL dNext; omega] at this
     exact this)
    clear hXa hXn hokX
    go_wp2_with (refine wpList_load_row rfl 127 _ rfl T rfl _ _ _ _ HSX.out.row Tryz.underlying127 rfl timeSize ?_)
    refine (HAM.out _ (H.abs.keeps P.inv HSX.out.bel)).mono ?_
    rintro e w6 ⟨rfl, hb6⟩
    have hst6 := HSX.out.below H hb6
    try rw [HXN.out]
    go_wp2_with (first | (refine wpList_store_row rfl 127 _ _ rfl T (tcells l off (dNext L1)) rfl rfl 127 _ hst6.row timeSize rfl (tcells_one _ _ _) ?_; generalize hX : World.setRow _ _ _ = wz; have HSZ := Lib.hid (show St l off Loc w T k0 k1 wz (dNext L1) by rw [← hX]; exact hst6.put hls _); clear hX) | (refine wpList_load_row rfl 127 _ rfl T rfl _ _ _ _ HSZ.out.row Tryz.underlying127 rfl timeSize ?_))
    refine (HH2.out _ (H.abs.keeps P.inv HSZ.out.bel)).mono ?_
    rintro e w8 ⟨rfl, hb8⟩
    have HSY := Lib.hid (HSZ.out.below H hb8)
    clear hb8
    go_wp2_with (refine wpList_load_row rfl 127 _ rfl T rfl _ _ _ _ HSY.out.row Tryz.underlying127 rfl timeSize ?_)
    refine (HM2.out _ (H.abs.keeps P.inv HSY.out.bel)).mono ?_
    rintro e w7 ⟨rfl, hb7⟩
    have HS7 := Lib.hid (HSY.out.below H hb7)
    by_cases h1 : mdayL (dNext L1) = 1
    ·have hdd : (mdayL (dNext L1) == 1) = true := by simp [h1]
     go_wp2_with fail
     refine wp_goto ?_
     refine HJUMP.out _ _ (dNext L1) ?_ HS7.out HAT2.out.1 (by omega) hyr
     exact ⟨rfl, rfl, rfl, rfl, rfl, rfl, rfl, rfl, rfl⟩
    ·have hdd : (mdayL (dNext L1) == 1) = false := by simp [h1]
     go_wp2_with fail
     exact ⟨⟨true, dNext L1, rfl, HS7, Lib.hid HAT2.out.1, (HAT2.out.2.resolve_left h1).1, by rw [(HAT2.out.2.resolve_left h1).2]; exact hy1, by omega⟩, mu_less HS.out HS7.out (by omega) (by omega)⟩
end Go.Proofs.YtmecbmgfacpecaaGreatDoor.Cal
namespace Go.Proofs.YtmecbmgfacpecaaGreatDoor.Cal
open Go Go.RowKit Go.Proofs.YtmecbmgfacpecaaGreatDoorW.PrintWords Go.Proofs.YtmecbmgfacpecaaGreatDoorW.PrintLast
set_option linter.unusedVariables false
set_option linter.unusedSimpArgs false
set_option maxRecDepth 100000 in
set_option maxHeartbeats 8000000 in
theorem loop2 {l : Option Addr} {off : Int} {Inv : World → Prop} {Loc : World → Nat → Prop} (H : Clock l off Inv Loc) (hls : LocS Loc) {w : World} {g T k0 k1 : Nat} {S : Sets} {f lim : Int} (P : Par off Inv w g S f lim) (Q : Exit → Act → World → Prop) (L : Int) (ad : Bool) (a : Act) (wr : World) (ha : Fr g T k0 k1 ad lim a) (hst : St l off Loc w T k0 k1 wr L) (hat : At S f ad L) (hy : yearL L ≤ lim) (hm : monthB S L = true) (hd : dayB S L = true)
  (next : ∀ (a' : Act) (w' : World) (L' : Int) (ad' : Bool), Fr g T k0 k1 ad' lim a' → St l off Loc w T k0 k1 w' L' → At S f ad' L' → monthB S L' = true ∧ dayB S L' = true ∧ hourB S L' = true → yearL L' ≤ lim → L ≤ L' → Q .normal a' w')
  (jump : ∀ (a' : Act) (w' : World) (L' : Int), Fr g T k0 k1 true lim a' → St l off Loc w T k0 k1 w' L' → At S f true L' → L < L' → yearL L' ≤ lim + 1 → Q (.goto 0) a' w') :
  (loopK (Tryz.f249.body.getD .skip) 2).wp Tryz.prog (Exit.inBlock 4 Q) a wr := by
 obtain ⟨u, rfl⟩ := ha.open
 have HNEXT := Lib.hid next
 have HJUMP := Lib.hid jump
 have HST := Lib.hid hst
 have HAT := Lib.hid hat
 clear next jump hst hat ha
 simp only [loopK, loops, Tryz.f249, Option.getD_some, List.append_assoc, List.cons_append, List.nil_append, List.getElem?_cons_zero, List.getElem?_cons_succ]
 go_loopw [7] (fun v7 wr => ∃ (ad : Bool) (L' : Int), v7 = .bool ad ∧ Hid (St l off Loc w T k0 k1 wr L') ∧ Hid (At S f ad L') ∧ monthB S L' = true ∧ dayB S L' = true ∧ yearL L' ≤ lim ∧ L ≤ L') (fun _ wr => muT T (bndE off lim) wr)
 case atStart => exact ⟨ad, L, rfl, HST, HAT, hm, hd, hy, Int.le_refl _⟩
 case round =>
  clear hm hd
  obtain ⟨ad, L1, rfl, HS, HA, hm, hd, hy1, hle⟩ := hrel
  clear HST HAT hy
  obtain ⟨hok, hyk⟩ := P.okL HA.out.ge (by omega)
  obtain ⟨wo, hwo⟩ : ∃ wo, wo = wr := ⟨_, rfl⟩
  subst hwo
  have HI := Lib.hid (H.abs.keeps P.inv HS.out.bel)
  have hspec : SpecRow wo g S none := P.spec.below HS.out.bel
  have HC : Hid (∀ (w' : World), Inv w' → Calls Tryz.prog 257 #[.agg (tcells l off (L1))] w' fun e' w2 => e' = .returned (.int .i64 (hourL (L1))) ∧ Below w'.heap.size w' w2) := Lib.hid (fun w' hI' => cHour H (L1) w' hok hI')
  have hm12 : 0 ≤ hourL L1 ∧ hourL L1 < 24 := by unfold hourL; omega
  have hst := HS.out
  go_upto_region 28 with fail
  refine wp_only ?_
  refine start_ (n := 10) (S := fun w' => w'.heap[T]? = some (.cells (tcells l off L1) 127 (0, 0)) ∧ SpecRow w' g S none ∧ Below wo.heap.size wo w') (ds := []) #[false, false, false, false, false, false, false, false, false, false] (by kernel_rfl) rfl rfl ⟨hst.row, hspec, (Below.refl _ _).drew⟩ (fun hHeld => ?_)
  refine pure_ (i := 4) (N := some 108) (v := ?_) (a' := ?_) #[false, false, false, false, true, false, false, false, false, false] rfl rfl (by kernel_rfl) (fun _ _ _ h => h) (Or.inl ⟨by rfl, ?_⟩) ?_ ?_
  rotate_left
  ·intro w'
   go_simp
   with_reducible rfl
  rotate_left
  ·simp only [Act.put, List.setIfInBounds_toArray, List.set_cons_zero, List.set_cons_succ, i64_w, i32_w]
   rfl
  refine pure_ (i := 5) (N := some 109) (v := ?_) (a' := ?_) #[false, false, false, false, true, true, false, false, false, false] rfl rfl (by kernel_rfl) (fun _ _ _ h => h) (Or.inl ⟨by rfl, ?_⟩) ?_ ?_
  rotate_left
  ·intro w'
   go_simp
   with_reducible rfl
  rotate_left
  ·simp only [Act.put, List.setIfInBounds_toArray, List.set_cons_zero, List.set_cons_succ, i64_w, i32_w]
   rfl
  refine pure_ (i := 6) (N := some 110) (v := ?_) (a' := ?_) #[false, false, false, false, true, true, true, false, false, false] rfl rfl (by kernel_rfl) (fun _ _ _ h => h) (Or.inl ⟨by rfl, ?_⟩) ?_ ?_
  rotate_left
  ·intro w'
   go_simp
   with_reducible rfl
  rotate_left
  ·simp only [Act.put, List.setIfInBounds_toArray, List.set_cons_zero, List.set_cons_succ, i64_w, i32_w]
   rfl
  refine take_ (i := 0) (N := some 104) (v := ?_) (a' := ?_) #[true, false, false, false, true, true, true, false, false, false] rfl rfl (by kernel_rfl) (fun _ _ _ h => h) (Or.inl ⟨by rfl, ?_⟩) hHeld ?_ ?_
  rotate_left
  ·rintro w' ⟨s0, s1, s2⟩
   refine exec_load_row _ _ w' 127 (.tmp 3) ?_ T ?_ _ _ _ _ s0 Tryz.underlying127 rfl timeSize
   ·rfl
   ·rfl
  rotate_left
  ·simp only [Act.put, List.setIfInBounds_toArray, List.set_cons_zero, List.set_cons_succ, i64_w, i32_w]
   rfl
  refine take_ (i := 7) (N := some 111) (v := ?_) (a' := ?_) #[true, false, false, false, true, true, true, true, false, false] rfl rfl (by kernel_rfl) (fun _ _ _ h => h) (Or.inl ⟨by rfl, ?_⟩) hHeld ?_ ?_
  rotate_left
  ·rintro w' ⟨s0, s1, s2⟩
   have c3 : w'.cell? ⟨g, 2, none⟩ = some (.int .u64 (S.hour : Int)) := cell_of_row _ _ _ _ _ _ s1
   go_simp
   with_reducible rfl
  rotate_left
  ·simp only [Act.put, List.setIfInBounds_toArray, List.set_cons_zero, List.set_cons_succ, i64_w, i32_w]
   rfl
  refine one_ (i := 1) (N := some 105) #[true, true, false, false, true, true, true, true, false, false] rfl rfl (by kernel_rfl) (by decide) (fun K hK => ?_)
  refine goes_ Tryz.func257 (by kernel_rfl) rfl #[.agg (tcells l off L1)] (by rfl) rfl rfl (by simp only [List.map_toArray, List.map_cons, List.map_nil]; rfl) ?_
  with_reducible refine (HC.out _ (H.abs.keeps HI.out hHeld.2.2)).mono ?_
  rintro e3 w3 ⟨rfl, hb1⟩
  refine ⟨_, rfl, ?_⟩
  refine hK.out _ _ ⟨(hb1.block _ (Array.getElem?_eq_some_iff.1 hHeld.1).1).trans hHeld.1, hHeld.2.1.below hb1, below_le hHeld.2.2 hb1⟩ (fun hHeld => ?_)
  clear hK K
  refine norm_ (a' := ?_) ?_ ?_
  rotate_left
  ·show Act.put _ (some 105) _ = _
   simp only [Act.put, List.setIfInBounds_toArray, List.set_cons_zero, List.set_cons_succ, i64_w, i32_w]
   rfl
  refine pure_ (i := 2) (N := some 106) (v := ?_) (a' := ?_) #[true, true, true, false, true, true, true, true, false, false] rfl rfl (by kernel_rfl) (fun _ _ _ h => h) (Or.inl ⟨by rfl, ?_⟩) ?_ ?_
  rotate_left
  ·intro w'
   go_simp
   with_reducible rfl
  rotate_left
  ·simp only [Act.put, List.setIfInBounds_toArray, List.set_cons_zero, List.set_cons_succ, i64_w, i32_w]
   rfl
  refine pure_ (i := 3) (N := some 107) (v := ?_) (a' := ?_) #[true, true, true, true, true, true, true, true, false, false] rfl rfl (by kernel_rfl) (fun _ _ _ h => h) (Or.inl ⟨by rfl, ?_⟩) ?_ ?_
  rotate_left
  ·intro w'
   go_simp
   with_reducible rfl
  rotate_left
  ·simp only [Act.put, List.setIfInBounds_toArray, List.set_cons_zero, List.set_cons_succ, i64_w, i32_w]
   rfl
  refine pure_ (i := 8) (N := some 112) (v := ?_) (a' := ?_) #[true, true, true, true, true, true, true, true, true, false] rfl rfl (by kernel_rfl) (fun _ _ _ h => h) (Or.inl ⟨by rfl, ?_⟩) ?_ ?_
  rotate_left
  ·intro w'
   go_simp
   with_reducible rfl
  rotate_left
  ·simp only [Act.put, List.setIfInBounds_toArray, List.set_cons_zero, List.set_cons_succ, i64_w, i32_w]
   rfl
  refine pure_ (i := 9) (N := some 113) (v := ?_) (a' := ?_) #[true, true, true, true, true, true, true, true, true, true] rfl rfl (by kernel_rfl) (fun _ _ _ h => h) (Or.inl ⟨by rfl, ?_⟩) ?_ ?_
  rotate_left
  ·intro w'
   go_simp
   with_reducible rfl
  rotate_left
  ·simp only [Act.put, List.setIfInBounds_toArray, List.set_cons_zero, List.set_cons_succ, i64_w, i32_w]
   rfl
  refine done_ (by kernel_rfl) ?_
  dsimp only [only]
  obtain ⟨-, hspec3, hb3⟩ := hHeld
  have HS3 := Lib.hid (HS.out.below H hb3)
  have HI3 := Lib.hid (H.abs.keeps P.inv HS3.out.bel)
  rw [bit_eq P.ok.2.2.1 (by omega) (by omega)]
  have hmB : inB S.hour (hourL L1) = hourB S L1 := rfl
  rw [hmB]
  generalize IntKind.u64.wrap (2 ^ min (IntKind.u64.wrap (hourL L1)).toNat 64) = junk
  clear hst hspec hspec3 hmB hb1 hb3
  cases hh : hourB S L1 with
  | true =>
   go_wp2_with fail
   exact HNEXT.out _ _ L1 ad ⟨rfl, rfl, rfl, rfl, rfl, rfl, rfl, rfl, rfl⟩ HS3.out HA.out ⟨hm, hd, hh⟩ hy1 hle
  | false =>
   cases ad with
   | true =>
    obtain ⟨X, hXe⟩ : ∃ X, X = L1 := ⟨_, rfl⟩
    have hX0 : (LOk off X ∧ YOk X) ∧ True ∧ X + 3600 = hNext L1 := by
     rw [hXe]
     exact ⟨⟨hok, hyk⟩, trivial, by have := (HA.out.ho rfl).resolve_left (by rw [hh]; decide); unfold hNext; omega⟩
    have HSX := Lib.hid HS3.out
    rw [← hXe] at HSX
    clear hXe
    obtain ⟨hokX, hXa, hXn⟩ := hX0
    have HAM : Hid (∀ (w' : World), Calls Tryz.prog 251 #[.agg (tcells l off (X)), .int .i64 3600000000000] w' fun e' w2 => e' = .returned (.agg (tcells l off (X + 3600))) ∧ Below w'.heap.size w' w2) := Lib.hid (fun w' => by have := cAdd (l := l) 3600 (X) w' hokX.1 (by omega) (by omega); rw [show (1000000000 : Int) * 3600 = 3600000000000 from rfl] at this; exact this)
    have hgt : L1 < hNext L1 := by unfold hNext; omega
    have HAT2 := Lib.hid (at_hour HA.out hm hd hh)
    have HXN := Lib.hid hXn
    have hyr : yearL (hNext L1) ≤ lim + 1 := by have := year_day L1 (hNext L1) (by unfold hNext; omega); omega
    obtain ⟨hok2, -⟩ := P.okL (L := hNext L1) (by have := HA.out.ge; omega) hyr
    have HM2 : Hid (∀ (w' : World), Inv w' → Calls Tryz.prog 257 #[.agg (tcells l off (hNext L1))] w' fun e' w2 => e' = .returned (.int .i64 (hourL (hNext L1))) ∧ Below w'.heap.size w' w2) := Lib.hid (fun w' hI' => cHour H (hNext L1) w' hok2 hI')
    clear hXa hXn hokX
    go_wp2_with (refine wpList_load_row rfl 127 _ rfl T rfl _ _ _ _ HSX.out.row Tryz.underlying127 rfl timeSize ?_)
    refine (HAM.out _).mono ?_
    rintro e w6 ⟨rfl, hb6⟩
    have hst6 := HSX.out.below H hb6
    try rw [HXN.out]
    go_wp2_with (first | (refine wpList_store_row rfl 127 _ _ rfl T (tcells l off (hNext L1)) rfl rfl 127 _ hst6.row timeSize rfl (tcells_one _ _ _) ?_; generalize hX : World.setRow _ _ _ = wz; have HSZ := Lib.hid (show St l off Loc w T k0 k1 wz (hNext L1) by rw [← hX]; exact hst6.put hls _); clear hX) | (refine wpList_load_row rfl 127 _ rfl T rfl _ _ _ _ HSZ.out.row Tryz.underlying127 rfl timeSize ?_))
    refine (HM2.out _ (H.abs.keeps P.inv HSZ.out.bel)).mono ?_
    rintro e w7 ⟨rfl, hb7⟩
    have HS7 := Lib.hid (HSZ.out.below H hb7)
    by_cases h1 : hourL (hNext L1) = 0
    ·have hdd : (hourL (hNext L1) == 0) = true := by simp [h1]
     go_wp2_with fail
     refine wp_goto ?_
     refine HJUMP.out _ _ (hNext L1) ?_ HS7.out HAT2.out.1 (by omega) hyr
     exact ⟨rfl, rfl, rfl, rfl, rfl, rfl, rfl, rfl, rfl⟩
    ·have hdd : (hourL (hNext L1) == 0) = false := by simp [h1]
     go_wp2_with fail
     exact ⟨⟨true, hNext L1, rfl, HS7, Lib.hid HAT2.out.1, (HAT2.out.2.resolve_left h1).1, (HAT2.out.2.resolve_left h1).2.1, by rw [(HAT2.out.2.resolve_left h1).2.2]; exact hy1, by omega⟩, mu_less HS.out HS7.out (by omega) (by omega)⟩
   | false =>
    have HY : Hid (∀ (w' : World), Inv w' → Calls Tryz.prog 252 #[.agg (tcells l off (L1))] w' fun e' w2 => e' = .returned (.int .i64 (yearL (L1))) ∧ Below w'.heap.size w' w2) := Lib.hid (fun w' hI' => cYear H (L1) w' hok hI')
    have HMo : Hid (∀ (w' : World), Inv w' → Calls Tryz.prog 253 #[.agg (tcells l off (L1))] w' fun e' w2 => e' = .returned (.int .i64 (monthL (L1))) ∧ Below w'.heap.size w' w2) := Lib.hid (fun w' hI' => cMonth H (L1) w' hok hI')
    have HDa : Hid (∀ (w' : World), Inv w' → Calls Tryz.prog 248 #[.agg (tcells l off (L1))] w' fun e' w2 => e' = .returned (.int .i64 (mdayL (L1))) ∧ Below w'.heap.size w' w2) := Lib.hid (fun w' hI' => cDay H (L1) w' hok hI')
    have HHo : Hid (∀ (w' : World), Inv w' → Calls Tryz.prog 257 #[.agg (tcells l off (L1))] w' fun e' w2 => e' = .returned (.int .i64 (hourL (L1))) ∧ Below w'.heap.size w' w2) := Lib.hid (fun w' hI' => cHour H (L1) w' hok hI')
    have HDT : Hid (∀ (w' : World), Loc w' k1 → Calls Tryz.prog 254 #[.int .i64 (yearL L1), .int .i64 (monthL L1), .int .i64 (mdayL L1), .int .i64 (hourL L1), .int .i64 0, .int .i64 0, .int .i64 0, .pointer (some ⟨k1, 0, none⟩)] w' fun e' w2 => e' = .returned (.agg (tcells l off (L1 / 3600 * 3600))) ∧ Below w'.heap.size w' w2) := Lib.hid (fun w' hk => cDateHour H L1 k1 w' hyk hk)
    have hst3 := HS3.out
    go_upto_region 31 with fail
    refine wp_only ?_
    refine start_ (n := 11) (S := fun w' => w'.heap[T]? = some (.cells (tcells l off L1) 127 (0, 0)) ∧ Below w3.heap.size w3 w') (ds := [10]) #[false, false, false, false, false, false, false, false, false, false, false] (by kernel_rfl) rfl rfl ⟨hst3.row, (Below.refl _ _).drew⟩ (fun hHeld => ?_)
    refine pure_ (i := 8) (N := some 124) (v := ?_) (a' := ?_) #[false, false, false, false, false, false, false, false, true, false, false] rfl rfl (by kernel_rfl) (fun _ _ _ h => h) (Or.inl ⟨by rfl, ?_⟩) ?_ ?_
    rotate_left
    ·intro w'
     go_simp
     with_reducible rfl
    rotate_left
    ·simp only [Act.put, List.setIfInBounds_toArray, List.set_cons_zero, List.set_cons_succ, i64_w, i32_w]
     rfl
    refine take_ (i := 0) (N := some 116) (v := ?_) (a' := ?_) #[true, false, false, false, false, false, false, false, true, false, false] rfl rfl (by kernel_rfl) (fun _ _ _ h => h) (Or.inl ⟨by rfl, ?_⟩) hHeld ?_ ?_
    rotate_left
    ·rintro w' ⟨s0, s1⟩
     refine exec_load_row _ _ w' 127 (.tmp 3) ?_ T ?_ _ _ _ _ s0 Tryz.underlying127 rfl timeSize
     ·rfl
     ·rfl
    rotate_left
    ·simp only [Act.put, List.setIfInBounds_toArray, List.set_cons_zero, List.set_cons_succ, i64_w, i32_w]
     rfl
    refine take_ (i := 2) (N := some 118) (v := ?_) (a' := ?_) #[true, false, true, false, false, false, false, false, true, false, false] rfl rfl (by kernel_rfl) (fun _ _ _ h => h) (Or.inl ⟨by rfl, ?_⟩) hHeld ?_ ?_
    rotate_left
    ·rintro w' ⟨s0, s1⟩
     refine exec_load_row _ _ w' 127 (.tmp 3) ?_ T ?_ _ _ _ _ s0 Tryz.underlying127 rfl timeSize
     ·rfl
     ·rfl
    rotate_left
    ·simp only [Act.put, List.setIfInBounds_toArray, List.set_cons_zero, List.set_cons_succ, i64_w, i32_w]
     rfl
    refine take_ (i := 4) (N := some 120) (v := ?_) (a' := ?_) #[true, false, true, false, true, false, false, false, true, false, false] rfl rfl (by kernel_rfl) (fun _ _ _ h => h) (Or.inl ⟨by rfl, ?_⟩) hHeld ?_ ?_
    rotate_left
    ·rintro w' ⟨s0, s1⟩
     refine exec_load_row _ _ w' 127 (.tmp 3) ?_ T ?_ _ _ _ _ s0 Tryz.underlying127 rfl timeSize
     ·rfl
     ·rfl
    rotate_left
    ·simp only [Act.put, List.setIfInBounds_toArray, List.set_cons_zero, List.set_cons_succ, i64_w, i32_w]
     rfl
    refine take_ (i := 6) (N := some 122) (v := ?_) (a' := ?_) #[true, false, true, false, true, false, true, false, true, false, false] rfl rfl (by kernel_rfl) (fun _ _ _ h => h) (Or.inl ⟨by rfl, ?_⟩) hHeld ?_ ?_
    rotate_left
    ·rintro w' ⟨s0, s1⟩
     refine exec_load_row _ _ w' 127 (.tmp 3) ?_ T ?_ _ _ _ _ s0 Tryz.underlying127 rfl timeSize
     ·rfl
     ·rfl
    rotate_left
    ·simp only [Act.put, List.setIfInBounds_toArray, List.set_cons_zero, List.set_cons_succ, i64_w, i32_w]
     rfl
    refine one_ (i := 1) (N := some 117) #[true, true, true, false, true, false, true, false, true, false, false] rfl rfl (by kernel_rfl) (by decide) (fun K hK => ?_)
    refine goes_ Tryz.func252 (by kernel_rfl) rfl #[.agg (tcells l off L1)] (by rfl) rfl rfl (by simp only [List.map_toArray, List.map_cons, List.map_nil]; rfl) ?_
    with_reducible refine (HY.out _ (H.abs.keeps HI3.out hHeld.2)).mono ?_
    rintro e1 x1 ⟨rfl, hb1⟩
    refine ⟨_, rfl, ?_⟩
    refine hK.out _ _ ⟨(hb1.block _ (Array.getElem?_eq_some_iff.1 hHeld.1).1).trans hHeld.1, below_le hHeld.2 hb1⟩ (fun hHeld => ?_)
    clear hK K
    refine norm_ (a' := ?_) ?_ ?_
    rotate_left
    ·show Act.put _ (some 117) _ = _
     simp only [Act.put, List.setIfInBounds_toArray, List.set_cons_zero, List.set_cons_succ, i64_w, i32_w]
     rfl
    refine one_ (i := 3) (N := some 119) #[true, true, true, true, true, false, true, false, true, false, false] rfl rfl (by kernel_rfl) (by decide) (fun K hK => ?_)
    refine goes_ Tryz.func253 (by kernel_rfl) rfl #[.agg (tcells l off L1)] (by rfl) rfl rfl (by simp only [List.map_toArray, List.map_cons, List.map_nil]; rfl) ?_
    with_reducible refine (HMo.out _ (H.abs.keeps HI3.out hHeld.2)).mono ?_
    rintro e3 x3 ⟨rfl, hb3⟩
    refine ⟨_, rfl, ?_⟩
    refine hK.out _ _ ⟨(hb3.block _ (Array.getElem?_eq_some_iff.1 hHeld.1).1).trans hHeld.1, below_le hHeld.2 hb3⟩ (fun hHeld => ?_)
    clear hK K
    refine norm_ (a' := ?_) ?_ ?_
    rotate_left
    ·show Act.put _ (some 119) _ = _
     simp only [Act.put, List.setIfInBounds_toArray, List.set_cons_zero, List.set_cons_succ, i64_w, i32_w]
     rfl
    refine one_ (i := 5) (N := some 121) #[true, true, true, true, true, true, true, false, true, false, false] rfl rfl (by kernel_rfl) (by decide) (fun K hK => ?_)
    refine goes_ Tryz.func248 (by kernel_rfl) rfl #[.agg (tcells l off L1)] (by rfl) rfl rfl (by simp only [List.map_toArray, List.map_cons, List.map_nil]; rfl) ?_
    with_reducible refine (HDa.out _ (H.abs.keeps HI3.out hHeld.2)).mono ?_
    rintro e5 x5 ⟨rfl, hb5⟩
    refine ⟨_, rfl, ?_⟩
    refine hK.out _ _ ⟨(hb5.block _ (Array.getElem?_eq_some_iff.1 hHeld.1).1).trans hHeld.1, below_le hHeld.2 hb5⟩ (fun hHeld => ?_)
    clear hK K
    refine norm_ (a' := ?_) ?_ ?_
    rotate_left
    ·show Act.put _ (some 121) _ = _
     simp only [Act.put, List.setIfInBounds_toArray, List.set_cons_zero, List.set_cons_succ, i64_w, i32_w]
     rfl
    refine one_ (i := 7) (N := some 123) #[true, true, true, true, true, true, true, true, true, false, false] rfl rfl (by kernel_rfl) (by decide) (fun K hK => ?_)
    refine goes_ Tryz.func257 (by kernel_rfl) rfl #[.agg (tcells l off L1)] (by rfl) rfl rfl (by simp only [List.map_toArray, List.map_cons, List.map_nil]; rfl) ?_
    with_reducible refine (HHo.out _ (H.abs.keeps HI3.out hHeld.2)).mono ?_
    rintro e7 x7 ⟨rfl, hb7⟩
    refine ⟨_, rfl, ?_⟩
    refine hK.out _ _ ⟨(hb7.block _ (Array.getElem?_eq_some_iff.1 hHeld.1).1).trans hHeld.1, below_le hHeld.2 hb7⟩ (fun hHeld => ?_)
    clear hK K
    refine norm_ (a' := ?_) ?_ ?_
    rotate_left
    ·show Act.put _ (some 123) _ = _
     simp only [Act.put, List.setIfInBounds_toArray, List.set_cons_zero, List.set_cons_succ, i64_w, i32_w]
     rfl
    refine one_ (i := 9) (N := some 125) #[true, true, true, true, true, true, true, true, true, true, false] rfl rfl (by kernel_rfl) (by decide) (fun K hK => ?_)
    refine goes_ Tryz.func254 (by kernel_rfl) rfl #[.int .i64 (yearL L1), .int .i64 (monthL L1), .int .i64 (mdayL L1), .int .i64 (hourL L1), .int .i64 0, .int .i64 0, .int .i64 0, .pointer (some ⟨k1, 0, none⟩)] (by rfl) rfl rfl (by simp only [List.map_toArray, List.map_cons, List.map_nil]; rfl) ?_
    with_reducible refine (HDT.out _ (H.locK hst3.loc1 hHeld.2)).mono ?_
    rintro e9 x9 ⟨rfl, hb9⟩
    refine ⟨_, rfl, ?_⟩
    refine hK.out _ _ ⟨(hb9.block _ (Array.getElem?_eq_some_iff.1 hHeld.1).1).trans hHeld.1, below_le hHeld.2 hb9⟩ (fun hHeld => ?_)
    clear hK K
    refine norm_ (a' := ?_) ?_ ?_
    rotate_left
    ·show Act.put _ (some 125) _ = _
     simp only [Act.put, List.setIfInBounds_toArray, List.set_cons_zero, List.set_cons_succ, i64_w, i32_w]
     rfl
    refine last_ (i := 10) (N := none) #[true, true, true, true, true, true, true, true, true, true, true] rfl rfl (by kernel_rfl) (by decide) (fun K hK => ?_)
    rw [if_pos (by rfl)]
    refine wp_store_row 127 _ _ rfl T (tcells l off (L1 / 3600 * 3600)) rfl rfl 127 _ hHeld.1 timeSize rfl (tcells_one _ _ _) ?_
    refine hK.out _ _ ?_
    clear hK K
    refine done_ (by kernel_rfl) ?_
    dsimp only [only]
    have hst5 := hst3.below H hHeld.2
    generalize hX : World.setRow _ T _ = wx
    have hstx : St l off Loc w T k0 k1 wx (L1 / 3600 * 3600) := by
     rw [← hX]
     exact hst5.put hls (L1 / 3600 * 3600)
    have HSX0 := Lib.hid hstx
    clear hstx hX hst3 hst5 hHeld HS3
    have okHour : LOk off (L1 / 3600 * 3600) ∧ YOk (L1 / 3600 * 3600) := P.okPart HA.out.ge (by omega) (by omega) (by omega)
    obtain ⟨X, hXe⟩ : ∃ X, X = L1 / 3600 * 3600 := ⟨_, rfl⟩
    have hX0 : (LOk off X ∧ YOk X) ∧ True ∧ X + 3600 = hNext L1 := by
     rw [hXe]
     exact ⟨okHour, trivial, by unfold hNext; omega⟩
    have HSX := Lib.hid HSX0.out
    clear HSX0
    rw [← hXe] at HSX ⊢
    clear hXe
    obtain ⟨hokX, hXa, hXn⟩ := hX0
    have HAM : Hid (∀ (w' : World), Calls Tryz.prog 251 #[.agg (tcells l off (X)), .int .i64 3600000000000] w' fun e' w2 => e' = .returned (.agg (tcells l off (X + 3600))) ∧ Below w'.heap.size w' w2) := Lib.hid (fun w' => by have := cAdd (l := l) 3600 (X) w' hokX.1 (by omega) (by omega); rw [show (1000000000 : Int) * 3600 = 3600000000000 from rfl] at this; exact this)
    have hgt : L1 < hNext L1 := by unfold hNext; omega
    have HAT2 := Lib.hid (at_hour HA.out hm hd hh)
    have HXN := Lib.hid hXn
    have hyr : yearL (hNext L1) ≤ lim + 1 := by have := year_day L1 (hNext L1) (by unfold hNext; omega); omega
    obtain ⟨hok2, -⟩ := P.okL (L := hNext L1) (by have := HA.out.ge; omega) hyr
    have HM2 : Hid (∀ (w' : World), Inv w' → Calls Tryz.prog 257 #[.agg (tcells l off (hNext L1))] w' fun e' w2 => e' = .returned (.int .i64 (hourL (hNext L1))) ∧ Below w'.heap.size w' w2) := Lib.hid (fun w' hI' => cHour H (hNext L1) w' hok2 hI')
    clear hXa hXn hokX
    go_wp2_with (refine wpList_load_row rfl 127 _ rfl T rfl _ _ _ _ HSX.out.row Tryz.underlying127 rfl timeSize ?_)
    refine (HAM.out _).mono ?_
    rintro e w6 ⟨rfl, hb6⟩
    have hst6 := HSX.out.below H hb6
    try rw [HXN.out]
    go_wp2_with (first | (refine wpList_store_row rfl 127 _ _ rfl T (tcells l off (hNext L1)) rfl rfl 127 _ hst6.row timeSize rfl (tcells_one _ _ _) ?_; generalize hX : World.setRow _ _ _ = wz; have HSZ := Lib.hid (show St l off Loc w T k0 k1 wz (hNext L1) by rw [← hX]; exact hst6.put hls _); clear hX) | (refine wpList_load_row rfl 127 _ rfl T rfl _ _ _ _ HSZ.out.row Tryz.underlying127 rfl timeSize ?_))
    refine (HM2.out _ (H.abs.keeps P.inv HSZ.out.bel)).mono ?_
    rintro e w7 ⟨rfl, hb7⟩
    have HS7 := Lib.hid (HSZ.out.below H hb7)
    by_cases h1 : hourL (hNext L1) = 0
    ·have hdd : (hourL (hNext L1) == 0) = true := by simp [h1]
     go_wp2_with fail
     refine wp_goto ?_
     refine HJUMP.out _ _ (hNext L1) ?_ HS7.out HAT2.out.1 (by omega) hyr
     exact ⟨rfl, rfl, rfl, rfl, rfl, rfl, rfl, rfl, rfl⟩
    ·have hdd : (hourL (hNext L1) == 0) = false := by simp [h1]
     go_wp2_with fail
     exact ⟨⟨true, hNext L1, rfl, HS7, Lib.hid HAT2.out.1, (HAT2.out.2.resolve_left h1).1, (HAT2.out.2.resolve_left h1).2.1, by rw [(HAT2.out.2.resolve_left h1).2.2]; exact hy1, by omega⟩, mu_less HS.out HS7.out (by omega) (by omega)⟩
end Go.Proofs.YtmecbmgfacpecaaGreatDoor.Cal
namespace Go.Proofs.YtmecbmgfacpecaaGreatDoor.Cal
open Go Go.RowKit Go.Proofs.YtmecbmgfacpecaaGreatDoorW.PrintWords Go.Proofs.YtmecbmgfacpecaaGreatDoorW.PrintLast
set_option linter.unusedVariables false
set_option linter.unusedSimpArgs false
set_option maxRecDepth 100000 in
set_option maxHeartbeats 8000000 in
theorem loop3 {l : Option Addr} {off : Int} {Inv : World → Prop} {Loc : World → Nat → Prop} (H : Clock l off Inv Loc) (hls : LocS Loc) {w : World} {g T k0 k1 : Nat} {S : Sets} {f lim : Int} (P : Par off Inv w g S f lim) (Q : Exit → Act → World → Prop) (L : Int) (ad : Bool) (a : Act) (wr : World) (ha : Fr g T k0 k1 ad lim a) (hst : St l off Loc w T k0 k1 wr L) (hat : At S f ad L) (hy : yearL L ≤ lim) (P60 : off % 60 = 0) (hm : monthB S L = true) (hd : dayB S L = true) (hh : hourB S L = true)
  (next : ∀ (a' : Act) (w' : World) (L' : Int) (ad' : Bool), Fr g T k0 k1 ad' lim a' → St l off Loc w T k0 k1 w' L' → At S f ad' L' → monthB S L' = true ∧ dayB S L' = true ∧ hourB S L' = true ∧ minB S L' = true → yearL L' ≤ lim → L ≤ L' → Q .normal a' w')
  (jump : ∀ (a' : Act) (w' : World) (L' : Int), Fr g T k0 k1 true lim a' → St l off Loc w T k0 k1 w' L' → At S f true L' → L < L' → yearL L' ≤ lim + 1 → Q (.goto 0) a' w') :
  (loopK (Tryz.f249.body.getD .skip) 3).wp Tryz.prog (Exit.inBlock 6 Q) a wr := by
 obtain ⟨u, rfl⟩ := ha.open
 have HNEXT := Lib.hid next
 have HJUMP := Lib.hid jump
 have HST := Lib.hid hst
 have HAT := Lib.hid hat
 clear next jump hst hat ha
 simp only [loopK, loops, Tryz.f249, Option.getD_some, List.append_assoc, List.cons_append, List.nil_append, List.getElem?_cons_zero, List.getElem?_cons_succ]
 go_loopw [7] (fun v7 wr => ∃ (ad : Bool) (L' : Int), v7 = .bool ad ∧ Hid (St l off Loc w T k0 k1 wr L') ∧ Hid (At S f ad L') ∧ monthB S L' = true ∧ dayB S L' = true ∧ hourB S L' = true ∧ yearL L' ≤ lim ∧ L ≤ L') (fun _ wr => muT T (bndE off lim) wr)
 case atStart => exact ⟨ad, L, rfl, HST, HAT, hm, hd, hh, hy, Int.le_refl _⟩
 case round =>
  clear hm hd hh
  obtain ⟨ad, L1, rfl, HS, HA, hm, hd, hh, hy1, hle⟩ := hrel
  clear HST HAT hy
  obtain ⟨hok, hyk⟩ := P.okL HA.out.ge (by omega)
  obtain ⟨wo, hwo⟩ : ∃ wo, wo = wr := ⟨_, rfl⟩
  subst hwo
  have HI := Lib.hid (H.abs.keeps P.inv HS.out.bel)
  have hspec : SpecRow wo g S none := P.spec.below HS.out.bel
  have HC : Hid (∀ (w' : World), Inv w' → Calls Tryz.prog 258 #[.agg (tcells l off (L1))] w' fun e' w2 => e' = .returned (.int .i64 (minL (L1))) ∧ Below w'.heap.size w' w2) := Lib.hid (fun w' hI' => cMinute H (L1) w' hok hI')
  have hm12 : 0 ≤ minL L1 ∧ minL L1 < 60 := by unfold minL; omega
  have hst := HS.out
  go_upto_region 34 with fail
  refine wp_only ?_
  refine start_ (n := 10) (S := fun w' => w'.heap[T]? = some (.cells (tcells l off L1) 127 (0, 0)) ∧ SpecRow w' g S none ∧ Below wo.heap.size wo w') (ds := []) #[false, false, false, false, false, false, false, false, false, false] (by kernel_rfl) rfl rfl ⟨hst.row, hspec, (Below.refl _ _).drew⟩ (fun hHeld => ?_)
  refine pure_ (i := 4) (N := some 135) (v := ?_) (a' := ?_) #[false, false, false, false, true, false, false, false, false, false] rfl rfl (by kernel_rfl) (fun _ _ _ h => h) (Or.inl ⟨by rfl, ?_⟩) ?_ ?_
  rotate_left
  ·intro w'
   go_simp
   with_reducible rfl
  rotate_left
  ·simp only [Act.put, List.setIfInBounds_toArray, List.set_cons_zero, List.set_cons_succ, i64_w, i32_w]
   rfl
  refine pure_ (i := 5) (N := some 136) (v := ?_) (a' := ?_) #[false, false, false, false, true, true, false, false, false, false] rfl rfl (by kernel_rfl) (fun _ _ _ h => h) (Or.inl ⟨by rfl, ?_⟩) ?_ ?_
  rotate_left
  ·intro w'
   go_simp
   with_reducible rfl
  rotate_left
  ·simp only [Act.put, List.setIfInBounds_toArray, List.set_cons_zero, List.set_cons_succ, i64_w, i32_w]
   rfl
  refine pure_ (i := 6) (N := some 137) (v := ?_) (a' := ?_) #[false, false, false, false, true, true, true, false, false, false] rfl rfl (by kernel_rfl) (fun _ _ _ h => h) (Or.inl ⟨by rfl, ?_⟩) ?_ ?_
  rotate_left
  ·intro w'
   go_simp
   with_reducible rfl
  rotate_left
  ·simp only [Act.put, List.setIfInBounds_toArray, List.set_cons_zero, List.set_cons_succ, i64_w, i32_w]
   rfl
  refine take_ (i := 0) (N := some 131) (v := ?_) (a' := ?_) #[true, false, false, false, true, true, true, false, false, false] rfl rfl (by kernel_rfl) (fun _ _ _ h => h) (Or.inl ⟨by rfl, ?_⟩) hHeld ?_ ?_
  rotate_left
  ·rintro w' ⟨s0, s1, s2⟩
   refine exec_load_row _ _ w' 127 (.tmp 3) ?_ T ?_ _ _ _ _ s0 Tryz.underlying127 rfl timeSize
   ·rfl
   ·rfl
  rotate_left
  ·simp only [Act.put, List.setIfInBounds_toArray, List.set_cons_zero, List.set_cons_succ, i64_w, i32_w]
   rfl
  refine take_ (i := 7) (N := some 138) (v := ?_) (a' := ?_) #[true, false, false, false, true, true, true, true, false, false] rfl rfl (by kernel_rfl) (fun _ _ _ h => h) (Or.inl ⟨by rfl, ?_⟩) hHeld ?_ ?_
  rotate_left
  ·rintro w' ⟨s0, s1, s2⟩
   have c3 : w'.cell? ⟨g, 1, none⟩ = some (.int .u64 (S.min : Int)) := cell_of_row _ _ _ _ _ _ s1
   go_simp
   with_reducible rfl
  rotate_left
  ·simp only [Act.put, List.setIfInBounds_toArray, List.set_cons_zero, List.set_cons_succ, i64_w, i32_w]
   rfl
  refine one_ (i := 1) (N := some 132) #[true, true, false, false, true, true, true, true, false, false] rfl rfl (by kernel_rfl) (by decide) (fun K hK => ?_)
  refine goes_ Tryz.func258 (by kernel_rfl) rfl #[.agg (tcells l off L1)] (by rfl) rfl rfl (by simp only [List.map_toArray, List.map_cons, List.map_nil]; rfl) ?_
  with_reducible refine (HC.out _ (H.abs.keeps HI.out hHeld.2.2)).mono ?_
  rintro e3 w3 ⟨rfl, hb1⟩
  refine ⟨_, rfl, ?_⟩
  refine hK.out _ _ ⟨(hb1.block _ (Array.getElem?_eq_some_iff.1 hHeld.1).1).trans hHeld.1, hHeld.2.1.below hb1, below_le hHeld.2.2 hb1⟩ (fun hHeld => ?_)
  clear hK K
  refine norm_ (a' := ?_) ?_ ?_
  rotate_left
  ·show Act.put _ (some 132) _ = _
   simp only [Act.put, List.setIfInBounds_toArray, List.set_cons_zero, List.set_cons_succ, i64_w, i32_w]
   rfl
  refine pure_ (i := 2) (N := some 133) (v := ?_) (a' := ?_) #[true, true, true, false, true, true, true, true, false, false] rfl rfl (by kernel_rfl) (fun _ _ _ h => h) (Or.inl ⟨by rfl, ?_⟩) ?_ ?_
  rotate_left
  ·intro w'
   go_simp
   with_reducible rfl
  rotate_left
  ·simp only [Act.put, List.setIfInBounds_toArray, List.set_cons_zero, List.set_cons_succ, i64_w, i32_w]
   rfl
  refine pure_ (i := 3) (N := some 134) (v := ?_) (a' := ?_) #[true, true, true, true, true, true, true, true, false, false] rfl rfl (by kernel_rfl) (fun _ _ _ h => h) (Or.inl ⟨by rfl, ?_⟩) ?_ ?_
  rotate_left
  ·intro w'
   go_simp
   with_reducible rfl
  rotate_left
  ·simp only [Act.put, List.setIfInBounds_toArray, List.set_cons_zero, List.set_cons_succ, i64_w, i32_w]
   rfl
  refine pure_ (i := 8) (N := some 139) (v := ?_) (a' := ?_) #[true, true, true, true, true, true, true, true, true, false] rfl rfl (by kernel_rfl) (fun _ _ _ h => h) (Or.inl ⟨by rfl, ?_⟩) ?_ ?_
  rotate_left
  ·intro w'
   go_simp
   with_reducible rfl
  rotate_left
  ·simp only [Act.put, List.setIfInBounds_toArray, List.set_cons_zero, List.set_cons_succ, i64_w, i32_w]
   rfl
  refine pure_ (i := 9) (N := some 140) (v := ?_) (a' := ?_) #[true, true, true, true, true, true, true, true, true, true] rfl rfl (by kernel_rfl) (fun _ _ _ h => h) (Or.inl ⟨by rfl, ?_⟩) ?_ ?_
  rotate_left
  ·intro w'
   go_simp
   with_reducible rfl
  rotate_left
  ·simp only [Act.put, List.setIfInBounds_toArray, List.set_cons_zero, List.set_cons_succ, i64_w, i32_w]
   rfl
  refine done_ (by kernel_rfl) ?_
  dsimp only [only]
  obtain ⟨-, hspec3, hb3⟩ := hHeld
  have HS3 := Lib.hid (HS.out.below H hb3)
  have HI3 := Lib.hid (H.abs.keeps P.inv HS3.out.bel)
  rw [bit_eq P.ok.2.1 (by omega) (by omega)]
  have hmB : inB S.min (minL L1) = minB S L1 := rfl
  rw [hmB]
  generalize IntKind.u64.wrap (2 ^ min (IntKind.u64.wrap (minL L1)).toNat 64) = junk
  clear hst hspec hspec3 hmB hb1 hb3
  cases hi : minB S L1 with
  | true =>
   go_wp2_with fail
   exact HNEXT.out _ _ L1 ad ⟨rfl, rfl, rfl, rfl, rfl, rfl, rfl, rfl, rfl⟩ HS3.out HA.out ⟨hm, hd, hh, hi⟩ hy1 hle
  | false =>
   cases ad with
   | true =>
    obtain ⟨X, hXe⟩ : ∃ X, X = L1 := ⟨_, rfl⟩
    have hX0 : (LOk off X ∧ YOk X) ∧ True ∧ X + 60 = iNext L1 := by
     rw [hXe]
     exact ⟨⟨hok, hyk⟩, trivial, by have := (HA.out.mi rfl).resolve_left (by rw [hi]; decide); unfold iNext; omega⟩
    have HSX := Lib.hid HS3.out
    rw [← hXe] at HSX
    clear hXe
    obtain ⟨hokX, hXa, hXn⟩ := hX0
    have HAM : Hid (∀ (w' : World), Calls Tryz.prog 251 #[.agg (tcells l off (X)), .int .i64 60000000000] w' fun e' w2 => e' = .returned (.agg (tcells l off (X + 60))) ∧ Below w'.heap.size w' w2) := Lib.hid (fun w' => by have := cAdd (l := l) 60 (X) w' hokX.1 (by omega) (by omega); rw [show (1000000000 : Int) * 60 = 60000000000 from rfl] at this; exact this)
    have hgt : L1 < iNext L1 := by unfold iNext; omega
    have HAT2 := Lib.hid (at_min HA.out hm hd hh hi)
    have HXN := Lib.hid hXn
    have hyr : yearL (iNext L1) ≤ lim + 1 := by have := year_day L1 (iNext L1) (by unfold iNext; omega); omega
    obtain ⟨hok2, -⟩ := P.okL (L := iNext L1) (by have := HA.out.ge; omega) hyr
    have HM2 : Hid (∀ (w' : World), Inv w' → Calls Tryz.prog 258 #[.agg (tcells l off (iNext L1))] w' fun e' w2 => e' = .returned (.int .i64 (minL (iNext L1))) ∧ Below w'.heap.size w' w2) := Lib.hid (fun w' hI' => cMinute H (iNext L1) w' hok2 hI')
    clear hXa hXn hokX
    go_wp2_with (refine wpList_load_row rfl 127 _ rfl T rfl _ _ _ _ HSX.out.row Tryz.underlying127 rfl timeSize ?_)
    refine (HAM.out _).mono ?_
    rintro e w6 ⟨rfl, hb6⟩
    have hst6 := HSX.out.below H hb6
    try rw [HXN.out]
    go_wp2_with (first | (refine wpList_store_row rfl 127 _ _ rfl T (tcells l off (iNext L1)) rfl rfl 127 _ hst6.row timeSize rfl (tcells_one _ _ _) ?_; generalize hX : World.setRow _ _ _ = wz; have HSZ := Lib.hid (show St l off Loc w T k0 k1 wz (iNext L1) by rw [← hX]; exact hst6.put hls _); clear hX) | (refine wpList_load_row rfl 127 _ rfl T rfl _ _ _ _ HSZ.out.row Tryz.underlying127 rfl timeSize ?_))
    refine (HM2.out _ (H.abs.keeps P.inv HSZ.out.bel)).mono ?_
    rintro e w7 ⟨rfl, hb7⟩
    have HS7 := Lib.hid (HSZ.out.below H hb7)
    by_cases h1 : minL (iNext L1) = 0
    ·have hdd : (minL (iNext L1) == 0) = true := by simp [h1]
     go_wp2_with fail
     refine wp_goto ?_
     refine HJUMP.out _ _ (iNext L1) ?_ HS7.out HAT2.out.1 (by omega) hyr
     exact ⟨rfl, rfl, rfl, rfl, rfl, rfl, rfl, rfl, rfl⟩
    ·have hdd : (minL (iNext L1) == 0) = false := by simp [h1]
     go_wp2_with fail
     exact ⟨⟨true, iNext L1, rfl, HS7, Lib.hid HAT2.out.1, (HAT2.out.2.resolve_left h1).1, (HAT2.out.2.resolve_left h1).2.1, (HAT2.out.2.resolve_left h1).2.2.1, by rw [(HAT2.out.2.resolve_left h1).2.2.2]; exact hy1, by omega⟩, mu_less HS.out HS7.out (by omega) (by omega)⟩
   | false =>
    have HTR : Hid (∀ (w' : World), Calls Tryz.prog 259 #[.agg (tcells l off L1), .int .i64 60000000000] w' fun e' w2 => e' = .returned (.agg (tcells l off (L1 / 60 * 60))) ∧ Below w'.heap.size w' w2) := Lib.hid (fun w' => cTrunc60 L1 w' (P.low HA.out.ge) hok P60)
    go_wp2_with (refine wpList_load_row rfl 127 _ rfl T rfl _ _ _ _ HS3.out.row Tryz.underlying127 rfl timeSize ?_)
    refine (HTR.out _).mono ?_
    rintro e w5 ⟨rfl, hb5⟩
    have hst5 := HS3.out.below H hb5
    have HSX0 : Hid (St l off Loc w T k0 k1 (w5.setRow T (tcells l off (L1 / 60 * 60))) (L1 / 60 * 60)) := Lib.hid (hst5.put hls (L1 / 60 * 60))
    have HROW5 := Lib.hid hst5.row
    clear hst5 hb5 HS3
    have okMin : LOk off (L1 / 60 * 60) ∧ YOk (L1 / 60 * 60) := P.okPart HA.out.ge (by omega) (by omega) (by omega)
    have hX0 : (LOk off (L1 / 60 * 60) ∧ YOk (L1 / 60 * 60)) ∧ True ∧ (L1 / 60 * 60) + 60 = iNext L1 := ⟨okMin, trivial, by unfold iNext; omega⟩
    obtain ⟨hokX, hXa, hXn⟩ := hX0
    have HAM : Hid (∀ (w' : World), Calls Tryz.prog 251 #[.agg (tcells l off (L1 / 60 * 60)), .int .i64 60000000000] w' fun e' w2 => e' = .returned (.agg (tcells l off (L1 / 60 * 60 + 60))) ∧ Below w'.heap.size w' w2) := Lib.hid (fun w' => by have := cAdd (l := l) 60 (L1 / 60 * 60) w' hokX.1 (by omega) (by omega); rw [show (1000000000 : Int) * 60 = 60000000000 from rfl] at this; exact this)
    have hgt : L1 < iNext L1 := by unfold iNext; omega
    have HAT2 := Lib.hid (at_min HA.out hm hd hh hi)
    have HXN := Lib.hid hXn
    have hyr : yearL (iNext L1) ≤ lim + 1 := by have := year_day L1 (iNext L1) (by unfold iNext; omega); omega
    obtain ⟨hok2, -⟩ := P.okL (L := iNext L1) (by have := HA.out.ge; omega) hyr
    have HM2 : Hid (∀ (w' : World), Inv w' → Calls Tryz.prog 258 #[.agg (tcells l off (iNext L1))] w' fun e' w2 => e' = .returned (.int .i64 (minL (iNext L1))) ∧ Below w'.heap.size w' w2) := Lib.hid (fun w' hI' => cMinute H (iNext L1) w' hok2 hI')
    clear hXa hXn hokX
    go_wp2_with (first | (refine wpList_store_row rfl 127 _ _ rfl T (tcells l off (L1 / 60 * 60)) rfl rfl 127 _ HROW5.out timeSize rfl (tcells_one _ _ _) ?_; generalize hX5 : World.setRow _ _ _ = wx; have HSX := Lib.hid (show St l off Loc w T k0 k1 wx (L1 / 60 * 60) by rw [← hX5]; exact HSX0.out); clear hX5) | (refine wpList_load_row rfl 127 _ rfl T rfl _ _ _ _ HSX.out.row Tryz.underlying127 rfl timeSize ?_))
    refine (HAM.out _).mono ?_
    rintro e w6 ⟨rfl, hb6⟩
    have hst6 := HSX.out.below H hb6
    try rw [HXN.out]
    go_wp2_with (first | (refine wpList_store_row rfl 127 _ _ rfl T (tcells l off (iNext L1)) rfl rfl 127 _ hst6.row timeSize rfl (tcells_one _ _ _) ?_; generalize hX : World.setRow _ _ _ = wz; have HSZ := Lib.hid (show St l off Loc w T k0 k1 wz (iNext L1) by rw [← hX]; exact hst6.put hls _); clear hX) | (refine wpList_load_row rfl 127 _ rfl T rfl _ _ _ _ HSZ.out.row Tryz.underlying127 rfl timeSize ?_))
    refine (HM2.out _ (H.abs.keeps P.inv HSZ.out.bel)).mono ?_
    rintro e w7 ⟨rfl, hb7⟩
    have HS7 := Lib.hid (HSZ.out.below H hb7)
    by_cases h1 : minL (iNext L1) = 0
    ·have hdd : (minL (iNext L1) == 0) = true := by simp [h1]
     go_wp2_with fail
     refine wp_goto ?_
     refine HJUMP.out _ _ (iNext L1) ?_ HS7.out HAT2.out.1 (by omega) hyr
     exact ⟨rfl, rfl, rfl, rfl, rfl, rfl, rfl, rfl, rfl⟩
    ·have hdd : (minL (iNext L1) == 0) = false := by simp [h1]
     go_wp2_with fail
     exact ⟨⟨true, iNext L1, rfl, HS7, Lib.hid HAT2.out.1, (HAT2.out.2.resolve_left h1).1, (HAT2.out.2.resolve_left h1).2.1, (HAT2.out.2.resolve_left h1).2.2.1, by rw [(HAT2.out.2.resolve_left h1).2.2.2]; exact hy1, by omega⟩, mu_less HS.out HS7.out (by omega) (by omega)⟩
end Go.Proofs.YtmecbmgfacpecaaGreatDoor.Cal
namespace Go.Proofs.YtmecbmgfacpecaaGreatDoor.Cal
open Go Go.RowKit Go.Proofs.YtmecbmgfacpecaaGreatDoorW.PrintWords Go.Proofs.YtmecbmgfacpecaaGreatDoorW.PrintLast
set_option linter.unusedVariables false
set_option linter.unusedSimpArgs false
set_option maxRecDepth 100000 in
set_option maxHeartbeats 8000000 in
theorem loop4 {l : Option Addr} {off : Int} {Inv : World → Prop} {Loc : World → Nat → Prop} (H : Clock l off Inv Loc) (hls : LocS Loc) {w : World} {g T k0 k1 : Nat} {S : Sets} {f lim : Int} (P : Par off Inv w g S f lim) (Q : Exit → Act → World → Prop) (L : Int) (ad : Bool) (a : Act) (wr : World) (ha : Fr g T k0 k1 ad lim a) (hst : St l off Loc w T k0 k1 wr L) (hat : At S f ad L) (hy : yearL L ≤ lim) (P60 : off % 60 = 0) (hm : monthB S L = true) (hd : dayB S L = true) (hh : hourB S L = true) (hi : minB S L = true)
  (next : ∀ (a' : Act) (w' : World) (L' : Int) (ad' : Bool), Fr g T k0 k1 ad' lim a' → St l off Loc w T k0 k1 w' L' → At S f ad' L' → monthB S L' = true ∧ dayB S L' = true ∧ hourB S L' = true ∧ minB S L' = true ∧ secB S L' = true → yearL L' ≤ lim → L ≤ L' → Q .normal a' w')
  (jump : ∀ (a' : Act) (w' : World) (L' : Int), Fr g T k0 k1 true lim a' → St l off Loc w T k0 k1 w' L' → At S f true L' → L < L' → yearL L' ≤ lim + 1 → Q (.goto 0) a' w') :
  (loopK (Tryz.f249.body.getD .skip) 4).wp Tryz.prog (Exit.inBlock 8 Q) a wr := by
 obtain ⟨u, rfl⟩ := ha.open
 have HNEXT := Lib.hid next
 have HJUMP := Lib.hid jump
 have HST := Lib.hid hst
 have HAT := Lib.hid hat
 clear next jump hst hat ha
 simp only [loopK, loops, Tryz.f249, Option.getD_some, List.append_assoc, List.cons_append, List.nil_append, List.getElem?_cons_zero, List.getElem?_cons_succ]
 go_loopw [7] (fun v7 wr => ∃ (ad : Bool) (L' : Int), v7 = .bool ad ∧ Hid (St l off Loc w T k0 k1 wr L') ∧ Hid (At S f ad L') ∧ monthB S L' = true ∧ dayB S L' = true ∧ hourB S L' = true ∧ minB S L' = true ∧ yearL L' ≤ lim ∧ L ≤ L') (fun _ wr => muT T (bndE off lim) wr)
 case atStart => exact ⟨ad, L, rfl, HST, HAT, hm, hd, hh, hi, hy, Int.le_refl _⟩
 case round =>
  clear hm hd hh hi
  obtain ⟨ad, L1, rfl, HS, HA, hm, hd, hh, hi, hy1, hle⟩ := hrel
  clear HST HAT hy
  obtain ⟨hok, hyk⟩ := P.okL HA.out.ge (by omega)
  obtain ⟨wo, hwo⟩ : ∃ wo, wo = wr := ⟨_, rfl⟩
  subst hwo
  have HI := Lib.hid (H.abs.keeps P.inv HS.out.bel)
  have hspec : SpecRow wo g S none := P.spec.below HS.out.bel
  have HC : Hid (∀ (w' : World), Inv w' → Calls Tryz.prog 260 #[.agg (tcells l off (L1))] w' fun e' w2 => e' = .returned (.int .i64 (secL (L1))) ∧ Below w'.heap.size w' w2) := Lib.hid (fun w' hI' => cSecond H (L1) w' hok hI')
  have hm12 : 0 ≤ secL L1 ∧ secL L1 < 60 := by unfold secL; omega
  have hst := HS.out
  go_upto_region 40 with fail
  refine wp_only ?_
  refine start_ (n := 10) (S := fun w' => w'.heap[T]? = some (.cells (tcells l off L1) 127 (0, 0)) ∧ SpecRow w' g S none ∧ Below wo.heap.size wo w') (ds := []) #[false, false, false, false, false, false, false, false, false, false] (by kernel_rfl) rfl rfl ⟨hst.row, hspec, (Below.refl _ _).drew⟩ (fun hHeld => ?_)
  refine pure_ (i := 4) (N := some 154) (v := ?_) (a' := ?_) #[false, false, false, false, true, false, false, false, false, false] rfl rfl (by kernel_rfl) (fun _ _ _ h => h) (Or.inl ⟨by rfl, ?_⟩) ?_ ?_
  rotate_left
  ·intro w'
   go_simp
   with_reducible rfl
  rotate_left
  ·simp only [Act.put, List.setIfInBounds_toArray, List.set_cons_zero, List.set_cons_succ, i64_w, i32_w]
   rfl
  refine pure_ (i := 5) (N := some 155) (v := ?_) (a' := ?_) #[false, false, false, false, true, true, false, false, false, false] rfl rfl (by kernel_rfl) (fun _ _ _ h => h) (Or.inl ⟨by rfl, ?_⟩) ?_ ?_
  rotate_left
  ·intro w'
   go_simp
   with_reducible rfl
  rotate_left
  ·simp only [Act.put, List.setIfInBounds_toArray, List.set_cons_zero, List.set_cons_succ, i64_w, i32_w]
   rfl
  refine pure_ (i := 6) (N := some 156) (v := ?_) (a' := ?_) #[false, false, false, false, true, true, true, false, false, false] rfl rfl (by kernel_rfl) (fun _ _ _ h => h) (Or.inl ⟨by rfl, ?_⟩) ?_ ?_
  rotate_left
  ·intro w'
   go_simp
   with_reducible rfl
  rotate_left
  ·simp only [Act.put, List.setIfInBounds_toArray, List.set_cons_zero, List.set_cons_succ, i64_w, i32_w]
   rfl
  refine take_ (i := 0) (N := some 150) (v := ?_) (a' := ?_) #[true, false, false, false, true, true, true, false, false, false] rfl rfl (by kernel_rfl) (fun _ _ _ h => h) (Or.inl ⟨by rfl, ?_⟩) hHeld ?_ ?_
  rotate_left
  ·rintro w' ⟨s0, s1, s2⟩
   refine exec_load_row _ _ w' 127 (.tmp 3) ?_ T ?_ _ _ _ _ s0 Tryz.underlying127 rfl timeSize
   ·rfl
   ·rfl
  rotate_left
  ·simp only [Act.put, List.setIfInBounds_toArray, List.set_cons_zero, List.set_cons_succ, i64_w, i32_w]
   rfl
  refine take_ (i := 7) (N := some 157) (v := ?_) (a' := ?_) #[true, false, false, false, true, true, true, true, false, false] rfl rfl (by kernel_rfl) (fun _ _ _ h => h) (Or.inl ⟨by rfl, ?_⟩) hHeld ?_ ?_
  rotate_left
  ·rintro w' ⟨s0, s1, s2⟩
   have c3 : w'.cell? ⟨g, 0, none⟩ = some (.int .u64 (S.sec : Int)) := cell_of_row _ _ _ _ _ _ s1
   go_simp
   with_reducible rfl
  rotate_left
  ·simp only [Act.put, List.setIfInBounds_toArray, List.set_cons_zero, List.set_cons_succ, i64_w, i32_w]
   rfl
  refine one_ (i := 1) (N := some 151) #[true, true, false, false, true, true, true, true, false, false] rfl rfl (by kernel_rfl) (by decide) (fun K hK => ?_)
  refine goes_ Tryz.func260 (by kernel_rfl) rfl #[.agg (tcells l off L1)] (by rfl) rfl rfl (by simp only [List.map_toArray, List.map_cons, List.map_nil]; rfl) ?_
  with_reducible refine (HC.out _ (H.abs.keeps HI.out hHeld.2.2)).mono ?_
  rintro e3 w3 ⟨rfl, hb1⟩
  refine ⟨_, rfl, ?_⟩
  refine hK.out _ _ ⟨(hb1.block _ (Array.getElem?_eq_some_iff.1 hHeld.1).1).trans hHeld.1, hHeld.2.1.below hb1, below_le hHeld.2.2 hb1⟩ (fun hHeld => ?_)
  clear hK K
  refine norm_ (a' := ?_) ?_ ?_
  rotate_left
  ·show Act.put _ (some 151) _ = _
   simp only [Act.put, List.setIfInBounds_toArray, List.set_cons_zero, List.set_cons_succ, i64_w, i32_w]
   rfl
  refine pure_ (i := 2) (N := some 152) (v := ?_) (a' := ?_) #[true, true, true, false, true, true, true, true, false, false] rfl rfl (by kernel_rfl) (fun _ _ _ h => h) (Or.inl ⟨by rfl, ?_⟩) ?_ ?_
  rotate_left
  ·intro w'
   go_simp
   with_reducible rfl
  rotate_left
  ·simp only [Act.put, List.setIfInBounds_toArray, List.set_cons_zero, List.set_cons_succ, i64_w, i32_w]
   rfl
  refine pure_ (i := 3) (N := some 153) (v := ?_) (a' := ?_) #[true, true, true, true, true, true, true, true, false, false] rfl rfl (by kernel_rfl) (fun _ _ _ h => h) (Or.inl ⟨by rfl, ?_⟩) ?_ ?_
  rotate_left
  ·intro w'
   go_simp
   with_reducible rfl
  rotate_left
  ·simp only [Act.put, List.setIfInBounds_toArray, List.set_cons_zero, List.set_cons_succ, i64_w, i32_w]
   rfl
  refine pure_ (i := 8) (N := some 158) (v := ?_) (a' := ?_) #[true, true, true, true, true, true, true, true, true, false] rfl rfl (by kernel_rfl) (fun _ _ _ h => h) (Or.inl ⟨by rfl, ?_⟩) ?_ ?_
  rotate_left
  ·intro w'
   go_simp
   with_reducible rfl
  rotate_left
  ·simp only [Act.put, List.setIfInBounds_toArray, List.set_cons_zero, List.set_cons_succ, i64_w, i32_w]
   rfl
  refine pure_ (i := 9) (N := some 159) (v := ?_) (a' := ?_) #[true, true, true, true, true, true, true, true, true, true] rfl rfl (by kernel_rfl) (fun _ _ _ h => h) (Or.inl ⟨by rfl, ?_⟩) ?_ ?_
  rotate_left
  ·intro w'
   go_simp
   with_reducible rfl
  rotate_left
  ·simp only [Act.put, List.setIfInBounds_toArray, List.set_cons_zero, List.set_cons_succ, i64_w, i32_w]
   rfl
  refine done_ (by kernel_rfl) ?_
  dsimp only [only]
  obtain ⟨-, hspec3, hb3⟩ := hHeld
  have HS3 := Lib.hid (HS.out.below H hb3)
  have HI3 := Lib.hid (H.abs.keeps P.inv HS3.out.bel)
  rw [bit_eq P.ok.1 (by omega) (by omega)]
  have hmB : inB S.sec (secL L1) = secB S L1 := rfl
  rw [hmB]
  generalize IntKind.u64.wrap (2 ^ min (IntKind.u64.wrap (secL L1)).toNat 64) = junk
  clear hst hspec hspec3 hmB hb1 hb3
  cases hs : secB S L1 with
  | true =>
   go_wp2_with fail
   exact HNEXT.out _ _ L1 ad ⟨rfl, rfl, rfl, rfl, rfl, rfl, rfl, rfl, rfl⟩ HS3.out HA.out ⟨hm, hd, hh, hi, hs⟩ hy1 hle
  | false =>
   cases ad with
   | true =>
    obtain ⟨X, hXe⟩ : ∃ X, X = L1 := ⟨_, rfl⟩
    have hX0 : (LOk off X ∧ YOk X) ∧ True ∧ X + 1 = L1 + 1 := by
     rw [hXe]
     exact ⟨⟨hok, hyk⟩, trivial, rfl⟩
    have HSX := Lib.hid HS3.out
    rw [← hXe] at HSX
    clear hXe
    obtain ⟨hokX, hXa, hXn⟩ := hX0
    have HAM : Hid (∀ (w' : World), Calls Tryz.prog 251 #[.agg (tcells l off (X)), .int .i64 1000000000] w' fun e' w2 => e' = .returned (.agg (tcells l off (X + 1))) ∧ Below w'.heap.size w' w2) := Lib.hid (fun w' => by have := cAdd (l := l) 1 (X) w' hokX.1 (by omega) (by omega); rw [show (1000000000 : Int) * 1 = 1000000000 from rfl] at this; exact this)
    have hgt : L1 < L1 + 1 := by omega
    have HAT2 := Lib.hid (at_sec HA.out hm hd hh hi hs)
    have HXN := Lib.hid hXn
    have hyr : yearL (L1 + 1) ≤ lim + 1 := by have := year_day L1 (L1 + 1) (by omega); omega
    obtain ⟨hok2, -⟩ := P.okL (L := L1 + 1) (by have := HA.out.ge; omega) hyr
    have HM2 : Hid (∀ (w' : World), Inv w' → Calls Tryz.prog 260 #[.agg (tcells l off (L1 + 1))] w' fun e' w2 => e' = .returned (.int .i64 (secL (L1 + 1))) ∧ Below w'.heap.size w' w2) := Lib.hid (fun w' hI' => cSecond H (L1 + 1) w' hok2 hI')
    clear hXa hXn hokX
    go_wp2_with (refine wpList_load_row rfl 127 _ rfl T rfl _ _ _ _ HSX.out.row Tryz.underlying127 rfl timeSize ?_)
    refine (HAM.out _).mono ?_
    rintro e w6 ⟨rfl, hb6⟩
    have hst6 := HSX.out.below H hb6
    try rw [HXN.out]
    go_wp2_with (first | (refine wpList_store_row rfl 127 _ _ rfl T (tcells l off (L1 + 1)) rfl rfl 127 _ hst6.row timeSize rfl (tcells_one _ _ _) ?_; generalize hX : World.setRow _ _ _ = wz; have HSZ := Lib.hid (show St l off Loc w T k0 k1 wz (L1 + 1) by rw [← hX]; exact hst6.put hls _); clear hX) | (refine wpList_load_row rfl 127 _ rfl T rfl _ _ _ _ HSZ.out.row Tryz.underlying127 rfl timeSize ?_))
    refine (HM2.out _ (H.abs.keeps P.inv HSZ.out.bel)).mono ?_
    rintro e w7 ⟨rfl, hb7⟩
    have HS7 := Lib.hid (HSZ.out.below H hb7)
    by_cases h1 : secL (L1 + 1) = 0
    ·have hdd : (secL (L1 + 1) == 0) = true := by simp [h1]
     go_wp2_with fail
     refine wp_goto ?_
     refine HJUMP.out _ _ (L1 + 1) ?_ HS7.out HAT2.out.1 (by omega) hyr
     exact ⟨rfl, rfl, rfl, rfl, rfl, rfl, rfl, rfl, rfl⟩
    ·have hdd : (secL (L1 + 1) == 0) = false := by simp [h1]
     go_wp2_with fail
     exact ⟨⟨true, L1 + 1, rfl, HS7, Lib.hid HAT2.out.1, (HAT2.out.2.resolve_left h1).1, (HAT2.out.2.resolve_left h1).2.1, (HAT2.out.2.resolve_left h1).2.2.1, (HAT2.out.2.resolve_left h1).2.2.2.1, by rw [(HAT2.out.2.resolve_left h1).2.2.2.2]; exact hy1, by omega⟩, mu_less HS.out HS7.out (by omega) (by omega)⟩
   | false =>
    have HTR : Hid (∀ (w' : World), Calls Tryz.prog 259 #[.agg (tcells l off L1), .int .i64 1000000000] w' fun e' w2 => e' = .returned (.agg (tcells l off (L1))) ∧ Below w'.heap.size w' w2) := Lib.hid (fun w' => cTrunc1 L1 w' (P.low HA.out.ge) hok)
    go_wp2_with (refine wpList_load_row rfl 127 _ rfl T rfl _ _ _ _ HS3.out.row Tryz.underlying127 rfl timeSize ?_)
    refine (HTR.out _).mono ?_
    rintro e w5 ⟨rfl, hb5⟩
    have hst5 := HS3.out.below H hb5
    have HSX0 : Hid (St l off Loc w T k0 k1 (w5.setRow T (tcells l off (L1))) (L1)) := Lib.hid (hst5.put hls (L1))
    have HROW5 := Lib.hid hst5.row
    clear hst5 hb5 HS3
    have hX0 : (LOk off (L1) ∧ YOk (L1)) ∧ True ∧ (L1) + 1 = L1 + 1 := ⟨⟨hok, hyk⟩, trivial, rfl⟩
    obtain ⟨hokX, hXa, hXn⟩ := hX0
    have HAM : Hid (∀ (w' : World), Calls Tryz.prog 251 #[.agg (tcells l off (L1)), .int .i64 1000000000] w' fun e' w2 => e' = .returned (.agg (tcells l off (L1 + 1))) ∧ Below w'.heap.size w' w2) := Lib.hid (fun w' => by have := cAdd (l := l) 1 (L1) w' hokX.1 (by omega) (by omega); rw [show (1000000000 : Int) * 1 = 1000000000 from rfl] at this; exact this)
    have hgt : L1 < L1 + 1 := by omega
    have HAT2 := Lib.hid (at_sec HA.out hm hd hh hi hs)
    have HXN := Lib.hid hXn
    have hyr : yearL (L1 + 1) ≤ lim + 1 := by have := year_day L1 (L1 + 1) (by omega); omega
    obtain ⟨hok2, -⟩ := P.okL (L := L1 + 1) (by have := HA.out.ge; omega) hyr
    have HM2 : Hid (∀ (w' : World), Inv w' → Calls Tryz.prog 260 #[.agg (tcells l off (L1 + 1))] w' fun e' w2 => e' = .returned (.int .i64 (secL (L1 + 1))) ∧ Below w'.heap.size w' w2) := Lib.hid (fun w' hI' => cSecond H (L1 + 1) w' hok2 hI')
    clear hXa hXn hokX
    go_wp2_with (first | (refine wpList_store_row rfl 127 _ _ rfl T (tcells l off (L1)) rfl rfl 127 _ HROW5.out timeSize rfl (tcells_one _ _ _) ?_; generalize hX5 : World.setRow _ _ _ = wx; have HSX := Lib.hid (show St l off Loc w T k0 k1 wx (L1) by rw [← hX5]; exact HSX0.out); clear hX5) | (refine wpList_load_row rfl 127 _ rfl T rfl _ _ _ _ HSX.out.row Tryz.underlying127 rfl timeSize ?_))
    refine (HAM.out _).mono ?_
    rintro e w6 ⟨rfl, hb6⟩
    have hst6 := HSX.out.below H hb6
    try rw [HXN.out]
    go_wp2_with (first | (refine wpList_store_row rfl 127 _ _ rfl T (tcells l off (L1 + 1)) rfl rfl 127 _ hst6.row timeSize rfl (tcells_one _ _ _) ?_; generalize hX : World.setRow _ _ _ = wz; have HSZ := Lib.hid (show St l off Loc w T k0 k1 wz (L1 + 1) by rw [← hX]; exact hst6.put hls _); clear hX) | (refine wpList_load_row rfl 127 _ rfl T rfl _ _ _ _ HSZ.out.row Tryz.underlying127 rfl timeSize ?_))
    refine (HM2.out _ (H.abs.keeps P.inv HSZ.out.bel)).mono ?_
    rintro e w7 ⟨rfl, hb7⟩
    have HS7 := Lib.hid (HSZ.out.below H hb7)
    by_cases h1 : secL (L1 + 1) = 0
    ·have hdd : (secL (L1 + 1) == 0) = true := by simp [h1]
     go_wp2_with fail
     refine wp_goto ?_
     refine HJUMP.out _ _ (L1 + 1) ?_ HS7.out HAT2.out.1 (by omega) hyr
     exact ⟨rfl, rfl, rfl, rfl, rfl, rfl, rfl, rfl, rfl⟩
    ·have hdd : (secL (L1 + 1) == 0) = false := by simp [h1]
     go_wp2_with fail
     exact ⟨⟨true, L1 + 1, rfl, HS7, Lib.hid HAT2.out.1, (HAT2.out.2.resolve_left h1).1, (HAT2.out.2.resolve_left h1).2.1, (HAT2.out.2.resolve_left h1).2.2.1, (HAT2.out.2.resolve_left h1).2.2.2.1, by rw [(HAT2.out.2.resolve_left h1).2.2.2.2]; exact hy1, by omega⟩, mu_less HS.out HS7.out (by omega) (by omega)⟩
end Go.Proofs.YtmecbmgfacpecaaGreatDoor.Cal
namespace Go.Proofs.YtmecbmgfacpecaaGreatDoor.Cal
open Go Go.RowKit Go.Proofs.YtmecbmgfacpecaaGreatDoorW.PrintWords Go.Proofs.YtmecbmgfacpecaaGreatDoorW.PrintLast
set_option linter.unusedVariables false
set_option linter.unusedSimpArgs false
def ansT (l : Option Addr) (off : Int) : Option Int → Value
 | none => .agg zcells
 | some L => .agg (tcells l off L)
set_option maxRecDepth 100000 in
set_option maxHeartbeats 8000000 in
theorem next_any {l : Option Addr} {off : Int} {Inv : World → Prop} {Loc : World → Nat → Prop} (H : Clock l off Inv Loc) (hls : LocS Loc) {w : World} {g : Nat} {S : Sets} {f lim : Int} (P : Par off Inv w g S f lim) (P60 : off % 60 = 0)
  (n e0 : Int) (h0 : 0 ≤ n) (h1 : n < 1000000000) (he0 : 0 ≤ e0) (he1 : e0 ≤ 320000000000) (hf : f = e0 + 1 - 62135596800 + off) (hlim : lim = yearL f + 5) :
  Calls Tryz.prog 249 #[.pointer (some ⟨g, 0, none⟩), .agg #[.int .u64 n, .int .i64 e0, .pointer l]] w fun e' w' => ∃ r : Option Int, Least S f lim r ∧ e' = .returned (ansT l off r) ∧ Below w.heap.size w w' := by
 have hgl : g < w.heap.size := (Array.getElem?_eq_some_iff.1 P.spec).1
 have HYC : Hid (∀ (L : Int) (w' : World), Inv w' → LOk off L → Calls Tryz.prog 252 #[.agg (tcells l off L)] w' fun e' w2 => e' = .returned (.int .i64 (yearL L)) ∧ Below w'.heap.size w' w2) := Lib.hid (fun L w' hI hok => cYear H L w' hok hI)
 have HIN : Hid (∀ (L : Int) (k : Nat) (w' : World), Loc w' k → Calls Tryz.prog 124 #[.agg (tcells l off L), .pointer (some ⟨k, 0, none⟩)] w' fun e' w2 => e' = .returned (.agg (tcells l off L)) ∧ Below w'.heap.size w' w2) := Lib.hid (fun L k w' hk => H.inn 0 (L + 62135596800 - off) l k w' (by omega) (by omega) hk)
 have HLO : Hid (∀ (w' : World), Inv w' → Calls Tryz.prog 250 #[.agg #[.int .u64 n, .int .i64 e0, .pointer l]] w' fun e' w2 => ∃ k, e' = .returned (.pointer (some ⟨k, 0, none⟩)) ∧ Loc w2 k ∧ Below w'.heap.size w' w2) := Lib.hid (fun w' hI => H.loc n e0 w' hI)
 have HNA : Hid (∀ (w' : World), Calls Tryz.prog 159 #[.agg #[.int .u64 n, .int .i64 e0, .pointer l]] w' fun e' w2 => e' = .returned (.int .i64 n) ∧ Below w'.heap.size w' w2) := Lib.hid (fun w' => tNano_any n e0 l w' h0 (by omega))
 have HAF : Hid (∀ (w' : World), Calls Tryz.prog 251 #[.agg #[.int .u64 n, .int .i64 e0, .pointer l], .int .i64 (wrap64 (1000000000 - wrap64 n))] w' fun e' w2 => e' = .returned (.agg (tcells l off f)) ∧ Below w'.heap.size w' w2) := Lib.hid (fun w' => by
  have := addFirst_any n e0 l h0 h1 (by omega) (by omega) w'
  rw [show wrap64 (1000000000 - wrap64 n) = 1000000000 - n by unfold wrap64; omega]
  rw [show e0 + 1 = f + 62135596800 - off by omega] at this
  exact this)
 have hfl := P.okL (L := f) (Int.le_refl _) (by have := P.lim0; omega)
 have hsp := P.spec
 have hw5 : wrap64 (yearL f + 5) = lim := by
  have := P.lim1
  have := (hfl.2).1
  unfold wrap64
  omega
 have HW5 := Lib.hid hw5
 clear hf hlim hw5
 go_enter Tryz.func249, Tryz.ntmps249
 go_wp2_with fail
 refine wp_scope_jumps 0 (fun a' w' => ∃ k0 k1 L ad, Fr g w.heap.size k0 k1 ad lim a' ∧ St l off Loc w w.heap.size k0 k1 w' L ∧ At S f ad L ∧ yearL L ≤ lim + 1) (fun _ w' => muT w.heap.size (bndE off lim) w') rfl ?_ ?_
 ·generalize hWa : World.alloc (World.alloc w _) _ = wa
  have hrowA : wa.heap[w.heap.size]? = some (.cells #[.int .u64 n, .int .i64 e0, .pointer l] 127 (0, 0)) := by rw [← hWa]; exact (((Below.refl _ _).alloc (Nat.le_refl _) _).block w.heap.size (by simp)).trans (heap_alloc_new w _)
  have hresA : wa.heap[w.heap.size + 1]? = some (.cells zcells 127 (0, 0)) := by rw [← hWa]; exact heap_two w _ _
  have hbelA : Below w.heap.size w wa := by rw [← hWa]; exact ((Below.refl _ _).alloc (Nat.le_refl _) _).alloc (by simp) _
  clear hWa
  go_wp2_with (refine wpList_load_row rfl 127 _ rfl w.heap.size rfl _ _ _ _ hrowA Tryz.underlying127 rfl timeSize ?_)
  refine (HLO.out _ (H.abs.keeps P.inv hbelA)).mono ?_
  rintro e wb ⟨k0, rfl, hk0, hbb⟩
  have hrowB := (hbb.block _ (Array.getElem?_eq_some_iff.1 hrowA).1).trans hrowA
  have hresB := (hbb.block _ (Array.getElem?_eq_some_iff.1 hresA).1).trans hresA
  have hbelB := below_le hbelA hbb
  have c6 : wb.cell? ⟨g, 6, none⟩ = some (.pointer none) := cell_of_row _ _ _ _ _ _ (hsp.below hbelB)
  clear hrowA hresA hbelA hbb
  go_wp2_with (refine wpList_load_row rfl 127 _ rfl w.heap.size rfl _ _ _ _ hrowB Tryz.underlying127 rfl timeSize ?_)
  refine (HLO.out _ (H.abs.keeps P.inv hbelB)).mono ?_
  rintro e wc ⟨k1, rfl, hk1, hbc⟩
  have hrowC := (hbc.block _ (Array.getElem?_eq_some_iff.1 hrowB).1).trans hrowB
  have hresC := (hbc.block _ (Array.getElem?_eq_some_iff.1 hresB).1).trans hresB
  have hbelC := below_le hbelB hbc
  have hk0C := H.locK hk0 hbc
  have d6 : wc.cell? ⟨g, 6, none⟩ = some (.pointer none) := cell_of_row _ _ _ _ _ _ (hsp.below hbelC)
  clear hrowB hresB hbelB hbc c6 hk0
  go_upto_region 7 with fail
  refine wp_only ?_
  refine start_ (n := 7) (S := fun w' => w'.heap[w.heap.size]? = some (.cells #[.int .u64 n, .int .i64 e0, .pointer l] 127 (0, 0)) ∧ Below wc.heap.size wc w') (ds := [6]) #[false, false, false, false, false, false, false] (by kernel_rfl) rfl rfl ⟨hrowC, (Below.refl _ _).drew⟩ (fun hHeld => ?_)
  refine take_ (i := 0) (N := some 30) (v := ?_) (a' := ?_) #[true, false, false, false, false, false, false] rfl rfl (by kernel_rfl) (fun _ _ _ h => h) (Or.inl ⟨by rfl, ?_⟩) hHeld ?_ ?_
  rotate_left
  ·rintro w' ⟨s0, s1⟩
   refine exec_load_row _ _ w' 127 (.tmp 3) ?_ w.heap.size ?_ _ _ _ _ s0 Tryz.underlying127 rfl timeSize
   ·rfl
   ·rfl
  rotate_left
  ·simp only [Act.put, List.setIfInBounds_toArray, List.set_cons_zero, List.set_cons_succ, i64_w, i32_w]
   rfl
  refine take_ (i := 1) (N := some 31) (v := ?_) (a' := ?_) #[true, true, false, false, false, false, false] rfl rfl (by kernel_rfl) (fun _ _ _ h => h) (Or.inl ⟨by rfl, ?_⟩) hHeld ?_ ?_
  rotate_left
  ·rintro w' ⟨s0, s1⟩
   refine exec_load_row _ _ w' 127 (.tmp 3) ?_ w.heap.size ?_ _ _ _ _ s0 Tryz.underlying127 rfl timeSize
   ·rfl
   ·rfl
  rotate_left
  ·simp only [Act.put, List.setIfInBounds_toArray, List.set_cons_zero, List.set_cons_succ, i64_w, i32_w]
   rfl
  refine one_ (i := 2) (N := some 32) #[true, true, true, false, false, false, false] rfl rfl (by kernel_rfl) (by decide) (fun K hK => ?_)
  refine goes_ Tryz.func159 (by kernel_rfl) rfl #[.agg #[.int .u64 n, .int .i64 e0, .pointer l]] (by rfl) rfl rfl (by simp only [List.map_toArray, List.map_cons, List.map_nil]; rfl) ?_
  with_reducible refine (HNA.out _).mono ?_
  rintro e2 w2 ⟨rfl, hb2⟩
  refine ⟨_, rfl, ?_⟩
  refine hK.out _ _ ⟨(hb2.block _ (Array.getElem?_eq_some_iff.1 hHeld.1).1).trans hHeld.1, below_le hHeld.2 hb2⟩ (fun hHeld => ?_)
  clear hK K
  refine norm_ (a' := ?_) ?_ ?_
  rotate_left
  ·show Act.put _ (some 32) _ = _
   simp only [Act.put, List.setIfInBounds_toArray, List.set_cons_zero, List.set_cons_succ, i64_w, i32_w]
   rfl
  refine pure_ (i := 3) (N := some 33) (v := ?_) (a' := ?_) #[true, true, true, true, false, false, false] rfl rfl (by kernel_rfl) (fun _ _ _ h => h) (Or.inl ⟨by rfl, ?_⟩) ?_ ?_
  rotate_left
  ·intro w'
   go_simp
   with_reducible rfl
  rotate_left
  ·simp only [Act.put, List.setIfInBounds_toArray, List.set_cons_zero, List.set_cons_succ, i64_w, i32_w]
   rfl
  refine pure_ (i := 4) (N := some 34) (v := ?_) (a' := ?_) #[true, true, true, true, true, false, false] rfl rfl (by kernel_rfl) (fun _ _ _ h => h) (Or.inl ⟨by rfl, ?_⟩) ?_ ?_
  rotate_left
  ·intro w'
   go_simp
   with_reducible rfl
  rotate_left
  ·simp only [Act.put, List.setIfInBounds_toArray, List.set_cons_zero, List.set_cons_succ, i64_w, i32_w]
   rfl
  refine one_ (i := 5) (N := some 35) #[true, true, true, true, true, true, false] rfl rfl (by kernel_rfl) (by decide) (fun K hK => ?_)
  refine goes_ Tryz.func251 (by kernel_rfl) rfl #[.agg #[.int .u64 n, .int .i64 e0, .pointer l], .int .i64 (wrap64 (1000000000 - wrap64 n))] (by rfl) rfl rfl (by simp only [List.map_toArray, List.map_cons, List.map_nil]; rfl) ?_
  with_reducible refine (HAF.out _).mono ?_
  rintro e5 w5 ⟨rfl, hb5⟩
  refine ⟨_, rfl, ?_⟩
  refine hK.out _ _ ⟨(hb5.block _ (Array.getElem?_eq_some_iff.1 hHeld.1).1).trans hHeld.1, below_le hHeld.2 hb5⟩ (fun hHeld => ?_)
  clear hK K
  refine norm_ (a' := ?_) ?_ ?_
  rotate_left
  ·show Act.put _ (some 35) _ = _
   simp only [Act.put, List.setIfInBounds_toArray, List.set_cons_zero, List.set_cons_succ, i64_w, i32_w]
   rfl
  refine last_ (i := 6) (N := none) #[true, true, true, true, true, true, true] rfl rfl (by kernel_rfl) (by decide) (fun K hK => ?_)
  rw [if_pos (by rfl)]
  refine wp_store_row 127 _ _ rfl w.heap.size (tcells l off f) rfl rfl 127 _ hHeld.1 timeSize rfl (tcells_one _ _ _) ?_
  refine hK.out _ _ ?_
  clear hK K
  refine done_ (by kernel_rfl) ?_
  dsimp only [only]
  generalize hWx : World.setRow _ w.heap.size _ = wx
  have hstF : St l off Loc w w.heap.size k0 k1 wx f := by
   rw [← hWx]
   exact ⟨setRow_heap _ _ _ _ _ _ hHeld.1, (setRow_other _ _ _ _ (by omega)).trans ((hHeld.2.block _ (Array.getElem?_eq_some_iff.1 hresC).1).trans hresC), below_setRow (below_le hbelC hHeld.2) (Nat.le_refl _) _, Nat.le_refl _,
    hls _ _ k0 w.heap.size _ _ _ (H.locK hk0C hHeld.2) hHeld.1 (fun b hb => setRow_other _ _ _ _ hb) (by simp), hls _ _ k1 w.heap.size _ _ _ (H.locK hk1 hHeld.2) hHeld.1 (fun b hb => setRow_other _ _ _ _ hb) (by simp)⟩
  have HS0 := Lib.hid hstF
  clear hstF hWx hHeld hrowC hresC hbelC hk0C hk1 d6 HNA HAF HLO hb2 hb5
  go_wp2_with (refine wpList_load_row rfl 127 _ rfl w.heap.size rfl _ _ _ _ HS0.out.row Tryz.underlying127 rfl timeSize ?_)
  refine (HYC.out f _ (H.abs.keeps P.inv HS0.out.bel) hfl.1).mono ?_
  rintro e wy ⟨rfl, hby⟩
  have HS1 := Lib.hid (HS0.out.below H hby)
  have HA1 := Lib.hid (at_first S f)
  have hyJ : yearL f ≤ lim + 1 := by have := P.lim0; omega
  have hok1 := hfl.1
  go_wp2_with fail
  go_step3
  rw [HW5.out]
  go_wp2_with (refine wpList_load_row rfl 127 _ rfl w.heap.size rfl _ _ _ _ HS1.out.row Tryz.underlying127 rfl timeSize ?_)
  refine (HYC.out f _ (H.abs.keeps P.inv HS1.out.bel) hok1).mono ?_
  rintro e w2 ⟨rfl, hb2⟩
  have HS2 := Lib.hid (HS1.out.below H hb2)
  clear hb2
  by_cases hyl : lim < yearL f
  ·have hd1 : decide (lim < yearL f) = true := decide_eq_true hyl
   go_wp2_with (refine wpList_store_row rfl 127 _ _ rfl (w.heap.size + 1) zcells rfl rfl 127 _ HS2.out.res timeSize rfl (by simp [zcells, Value.oneCell']) ?_)
   simp only [Exit.jump]
   refine bodyPost_ret (v := .agg zcells) ?_ rfl ⟨none, least_none HA1.out hyl, rfl, ?_⟩
   ·exact results_time rfl _ _ (w.heap.size + 1) _ rfl rfl (setRow_heap _ _ _ _ _ _ HS2.out.res)
   ·exact below_setRow HS2.out.bel (by omega) _
  ·have hd1 : decide (lim < yearL f) = false := decide_eq_false hyl
   go_wp2_with fail
   refine loop0 H hls P _ f false _ _ ?_ HS2.out HA1.out (by omega) ?_ ?_
   ·exact ⟨rfl, rfl, rfl, rfl, rfl, rfl, rfl, rfl, rfl⟩
   rotate_left
   ·intro a3 w3 L3 f3 s3 t3 l3 y3
    exact ⟨rfl, ⟨k0, k1, L3, true, f3, s3, t3, y3⟩⟩
   intro a3 w3 L3 ad3 f3 s3 t3 m3 y3 l3
   obtain ⟨u3, rfl⟩ := f3.open
   have HS3 := Lib.hid s3
   have HA3 := Lib.hid t3
   clear f3 s3 t3
   go_wp2_with fail
   refine loop1 H hls P _ L3 ad3 _ _ ?_ HS3.out HA3.out y3 m3 ?_ ?_
   ·exact ⟨rfl, rfl, rfl, rfl, rfl, rfl, rfl, rfl, rfl⟩
   rotate_left
   ·intro a4 w4 L4 f4 s4 t4 l4 y4
    exact ⟨rfl, ⟨k0, k1, L4, true, f4, s4, t4, y4⟩⟩
   intro a4 w4 L4 ad4 f4 s4 t4 m4 y4 l4
   obtain ⟨u4, rfl⟩ := f4.open
   have HS4 := Lib.hid s4
   have HA4 := Lib.hid t4
   clear f4 s4 t4 HS3 HA3 m3 y3
   go_wp2_with fail
   refine loop2 H hls P _ L4 ad4 _ _ ?_ HS4.out HA4.out y4 m4.1 m4.2 ?_ ?_
   ·exact ⟨rfl, rfl, rfl, rfl, rfl, rfl, rfl, rfl, rfl⟩
   rotate_left
   ·intro a5 w5 L5 f5 s5 t5 l5 y5
    exact ⟨rfl, ⟨k0, k1, L5, true, f5, s5, t5, y5⟩⟩
   intro a5 w5 L5 ad5 f5 s5 t5 m5 y5 l5
   obtain ⟨u5, rfl⟩ := f5.open
   have HS5 := Lib.hid s5
   have HA5 := Lib.hid t5
   clear f5 s5 t5 HS4 HA4 m4 y4
   go_wp2_with fail
   refine loop3 H hls P _ L5 ad5 _ _ ?_ HS5.out HA5.out y5 P60 m5.1 m5.2.1 m5.2.2 ?_ ?_
   ·exact ⟨rfl, rfl, rfl, rfl, rfl, rfl, rfl, rfl, rfl⟩
   rotate_left
   ·intro a6 w6 L6 f6 s6 t6 l6 y6
    exact ⟨rfl, ⟨k0, k1, L6, true, f6, s6, t6, y6⟩⟩
   intro a6 w6 L6 ad6 f6 s6 t6 m6 y6 l6
   obtain ⟨u6, rfl⟩ := f6.open
   have HS6 := Lib.hid s6
   have HA6 := Lib.hid t6
   clear f6 s6 t6 HS5 HA5 m5 y5
   go_wp2_with fail
   refine loop4 H hls P _ L6 ad6 _ _ ?_ HS6.out HA6.out y6 P60 m6.1 m6.2.1 m6.2.2.1 m6.2.2.2 ?_ ?_
   ·exact ⟨rfl, rfl, rfl, rfl, rfl, rfl, rfl, rfl, rfl⟩
   rotate_left
   ·intro a7 w7 L7 f7 s7 t7 l7 y7
    exact ⟨rfl, ⟨k0, k1, L7, true, f7, s7, t7, y7⟩⟩
   intro a7 w7 L7 ad7 f7 s7 t7 m7 y7 l7
   obtain ⟨u7, rfl⟩ := f7.open
   have HS7 := Lib.hid s7
   have HA7 := Lib.hid t7
   clear f7 s7 t7 HS6 HA6 m6 y6
   go_wp2_with (refine wpList_load_row rfl 127 _ rfl w.heap.size rfl _ _ _ _ HS7.out.row Tryz.underlying127 rfl timeSize ?_)
   refine (HIN.out L7 k0 _ HS7.out.loc0).mono ?_
   rintro e w8 ⟨rfl, hb8⟩
   have HS8 := Lib.hid (HS7.out.below H hb8)
   clear hb8
   go_wp2_with (refine wpList_store_row rfl 127 _ _ rfl (w.heap.size + 1) (tcells l off L7) rfl rfl 127 _ HS8.out.res timeSize rfl (tcells_one _ _ _) ?_)
   simp only [Exit.jump]
   refine bodyPost_ret (v := .agg (tcells l off L7)) ?_ rfl ⟨some L7, least_some HA7.out m7.1 m7.2.1 m7.2.2.1 m7.2.2.2.1 m7.2.2.2.2 y7, rfl, ?_⟩
   ·exact results_time rfl _ _ (w.heap.size + 1) _ rfl rfl (setRow_heap _ _ _ _ _ _ HS8.out.res)
   ·exact below_setRow HS8.out.bel (by omega) _
 ·intro a1 w1 hJ
  obtain ⟨k0, k1, L1, ad1, f1, s1, t1, hyJ⟩ := hJ
  obtain ⟨u1, rfl⟩ := f1.open
  have HSJ := Lib.hid s1
  have HS1 := Lib.hid s1
  have HA1 := Lib.hid t1
  have hok1 := (P.okL t1.ge hyJ).1
  clear f1 s1 t1 HLO HNA HAF
  go_wp2_with (refine wpList_load_row rfl 127 _ rfl w.heap.size rfl _ _ _ _ HS1.out.row Tryz.underlying127 rfl timeSize ?_)
  refine (HYC.out L1 _ (H.abs.keeps P.inv HS1.out.bel) hok1).mono ?_
  rintro e w2 ⟨rfl, hb2⟩
  have HS2 := Lib.hid (HS1.out.below H hb2)
  clear hb2
  by_cases hyl : lim < yearL L1
  ·have hd1 : decide (lim < yearL L1) = true := decide_eq_true hyl
   go_wp2_with (refine wpList_store_row rfl 127 _ _ rfl (w.heap.size + 1) zcells rfl rfl 127 _ HS2.out.res timeSize rfl (by simp [zcells, Value.oneCell']) ?_)
   simp only [Exit.jump]
   refine bodyPost_ret (v := .agg zcells) ?_ rfl ⟨none, least_none HA1.out hyl, rfl, ?_⟩
   ·exact results_time rfl _ _ (w.heap.size + 1) _ rfl rfl (setRow_heap _ _ _ _ _ _ HS2.out.res)
   ·exact below_setRow HS2.out.bel (by omega) _
  ·have hd1 : decide (lim < yearL L1) = false := decide_eq_false hyl
   go_wp2_with fail
   refine loop0 H hls P _ L1 ad1 _ _ ?_ HS2.out HA1.out (by omega) ?_ ?_
   ·exact ⟨rfl, rfl, rfl, rfl, rfl, rfl, rfl, rfl, rfl⟩
   rotate_left
   ·intro a3 w3 L3 f3 s3 t3 l3 y3
    exact ⟨rfl, ⟨⟨k0, k1, L3, true, f3, s3, t3, y3⟩, mu_less HSJ.out s3 hyJ (by omega)⟩⟩
   intro a3 w3 L3 ad3 f3 s3 t3 m3 y3 l3
   obtain ⟨u3, rfl⟩ := f3.open
   have HS3 := Lib.hid s3
   have HA3 := Lib.hid t3
   clear f3 s3 t3
   go_wp2_with fail
   refine loop1 H hls P _ L3 ad3 _ _ ?_ HS3.out HA3.out y3 m3 ?_ ?_
   ·exact ⟨rfl, rfl, rfl, rfl, rfl, rfl, rfl, rfl, rfl⟩
   rotate_left
   ·intro a4 w4 L4 f4 s4 t4 l4 y4
    exact ⟨rfl, ⟨⟨k0, k1, L4, true, f4, s4, t4, y4⟩, mu_less HSJ.out s4 hyJ (by omega)⟩⟩
   intro a4 w4 L4 ad4 f4 s4 t4 m4 y4 l4
   obtain ⟨u4, rfl⟩ := f4.open
   have HS4 := Lib.hid s4
   have HA4 := Lib.hid t4
   clear f4 s4 t4 HS3 HA3 m3 y3
   go_wp2_with fail
   refine loop2 H hls P _ L4 ad4 _ _ ?_ HS4.out HA4.out y4 m4.1 m4.2 ?_ ?_
   ·exact ⟨rfl, rfl, rfl, rfl, rfl, rfl, rfl, rfl, rfl⟩
   rotate_left
   ·intro a5 w5 L5 f5 s5 t5 l5 y5
    exact ⟨rfl, ⟨⟨k0, k1, L5, true, f5, s5, t5, y5⟩, mu_less HSJ.out s5 hyJ (by omega)⟩⟩
   intro a5 w5 L5 ad5 f5 s5 t5 m5 y5 l5
   obtain ⟨u5, rfl⟩ := f5.open
   have HS5 := Lib.hid s5
   have HA5 := Lib.hid t5
   clear f5 s5 t5 HS4 HA4 m4 y4
   go_wp2_with fail
   refine loop3 H hls P _ L5 ad5 _ _ ?_ HS5.out HA5.out y5 P60 m5.1 m5.2.1 m5.2.2 ?_ ?_
   ·exact ⟨rfl, rfl, rfl, rfl, rfl, rfl, rfl, rfl, rfl⟩
   rotate_left
   ·intro a6 w6 L6 f6 s6 t6 l6 y6
    exact ⟨rfl, ⟨⟨k0, k1, L6, true, f6, s6, t6, y6⟩, mu_less HSJ.out s6 hyJ (by omega)⟩⟩
   intro a6 w6 L6 ad6 f6 s6 t6 m6 y6 l6
   obtain ⟨u6, rfl⟩ := f6.open
   have HS6 := Lib.hid s6
   have HA6 := Lib.hid t6
   clear f6 s6 t6 HS5 HA5 m5 y5
   go_wp2_with fail
   refine loop4 H hls P _ L6 ad6 _ _ ?_ HS6.out HA6.out y6 P60 m6.1 m6.2.1 m6.2.2.1 m6.2.2.2 ?_ ?_
   ·exact ⟨rfl, rfl, rfl, rfl, rfl, rfl, rfl, rfl, rfl⟩
   rotate_left
   ·intro a7 w7 L7 f7 s7 t7 l7 y7
    exact ⟨rfl, ⟨⟨k0, k1, L7, true, f7, s7, t7, y7⟩, mu_less HSJ.out s7 hyJ (by omega)⟩⟩
   intro a7 w7 L7 ad7 f7 s7 t7 m7 y7 l7
   obtain ⟨u7, rfl⟩ := f7.open
   have HS7 := Lib.hid s7
   have HA7 := Lib.hid t7
   clear f7 s7 t7 HS6 HA6 m6 y6
   go_wp2_with (refine wpList_load_row rfl 127 _ rfl w.heap.size rfl _ _ _ _ HS7.out.row Tryz.underlying127 rfl timeSize ?_)
   refine (HIN.out L7 k0 _ HS7.out.loc0).mono ?_
   rintro e w8 ⟨rfl, hb8⟩
   have HS8 := Lib.hid (HS7.out.below H hb8)
   clear hb8
   go_wp2_with (refine wpList_store_row rfl 127 _ _ rfl (w.heap.size + 1) (tcells l off L7) rfl rfl 127 _ HS8.out.res timeSize rfl (tcells_one _ _ _) ?_)
   simp only [Exit.jump]
   refine bodyPost_ret (v := .agg (tcells l off L7)) ?_ rfl ⟨some L7, least_some HA7.out m7.1 m7.2.1 m7.2.2.1 m7.2.2.2.1 m7.2.2.2.2 y7, rfl, ?_⟩
   ·exact results_time rfl _ _ (w.heap.size + 1) _ rfl rfl (setRow_heap _ _ _ _ _ _ HS8.out.res)
   ·exact below_setRow HS8.out.bel (by omega) _
end Go.Proofs.YtmecbmgfacpecaaGreatDoor.Cal
