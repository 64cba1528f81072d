/- Lemmas and walks on the way to the law, merged by wip/tools/pack.py: NextL3, NextL4, Next. Conditions: none. -/
import Derived.Test.YtbgbeohiafiacaaGrD
import Derived.Test.YtbgbeohiafiacaaGrE
namespace Go.Proofs.Ytbgbeohiafiacaa.Cal
open Go Go.RowKit Go.Proofs.YtbgbeohiafiacaaW.PrintWords Go.Proofs.YtbgbeohiafiacaaW.PrintLast
set_option linter.unusedVariables false
set_option linter.unusedSimpArgs false

set_option maxRecDepth 100000 in
set_option maxHeartbeats 8000000 in
theorem loop3 {l : Option Addr} {off : Int} {Inv : World → Prop} {Loc : World → Nat → Prop} (H : Clock l off Inv Loc) (hls : LocS Loc) {w : World} {g T k0 k1 : Nat} {S : Sets} {f lim : Int} (P : Par off Inv w g S f lim) (Q : Exit → Act → World → Prop) (L : Int) (ad : Bool) (a : Act) (wr : World) (ha : Fr g T k0 k1 ad lim a) (hst : St l off Loc w T k0 k1 wr L) (hat : At S f ad L) (hy : yearL L ≤ lim) (P60 : off % 60 = 0) (hm : monthB S L = true) (hd : dayB S L = true) (hh : hourB S L = true)
    (next : ∀ (a' : Act) (w' : World) (L' : Int) (ad' : Bool), Fr g T k0 k1 ad' lim a' → St l off Loc w T k0 k1 w' L' → At S f ad' L' → monthB S L' = true ∧ dayB S L' = true ∧ hourB S L' = true ∧ minB S L' = true → yearL L' ≤ lim → L ≤ L' → Q .normal a' w')
    (jump : ∀ (a' : Act) (w' : World) (L' : Int), Fr g T k0 k1 true lim a' → St l off Loc w T k0 k1 w' L' → At S f true L' → L < L' → yearL L' ≤ lim + 1 → Q (.goto 0) a' w') :
    (loopK (Try.f125.body.getD .skip) 3).wp Try.prog (Exit.inBlock 6 Q) a wr := by
  obtain ⟨u, rfl⟩ := ha.open
  have HNEXT := Lib.hid next
  have HJUMP := Lib.hid jump
  have HST := Lib.hid hst
  have HAT := Lib.hid hat
  clear next jump hst hat ha
  simp only [loopK, loops, Try.f125, Option.getD_some, List.append_assoc, List.cons_append, List.nil_append, List.getElem?_cons_zero, List.getElem?_cons_succ]
  go_loopw [7] (fun v7 wr => ∃ (ad : Bool) (L' : Int), v7 = .bool ad ∧ Hid (St l off Loc w T k0 k1 wr L') ∧ Hid (At S f ad L') ∧ monthB S L' = true ∧ dayB S L' = true ∧ hourB S L' = true ∧ yearL L' ≤ lim ∧ L ≤ L') (fun _ wr => muT T (bndE off lim) wr)
  case atStart => exact ⟨ad, L, rfl, HST, HAT, hm, hd, hh, hy, Int.le_refl _⟩
  case round =>
    clear hm hd hh
    obtain ⟨ad, L1, rfl, HS, HA, hm, hd, hh, hy1, hle⟩ := hrel
    clear HST HAT hy
    obtain ⟨hok, hyk⟩ := P.okL HA.out.ge (by omega)
    obtain ⟨wo, hwo⟩ : ∃ wo, wo = wr := ⟨_, rfl⟩
    subst hwo
    have HI := Lib.hid (H.abs.keeps P.inv HS.out.bel)
    have hspec : SpecRow wo g S none := P.spec.below HS.out.bel
    have HC : Hid (∀ (w' : World), Inv w' → Calls Try.prog 133 #[.agg (tcells l off (L1))] w' fun e' w2 => e' = .returned (.int .i64 (minL (L1))) ∧ Below w'.heap.size w' w2) := Lib.hid (fun w' hI' => cMinute H (L1) w' hok hI')
    have hm12 : 0 ≤ minL L1 ∧ minL L1 < 60 := by unfold minL; omega
    have hst := HS.out
    go_upto_region 34 with fail
    refine wp_only ?_
    refine start_ (n := 10) (S := fun w' => w'.heap[T]? = some (.cells (tcells l off L1) 74 (0, 0)) ∧ SpecRow w' g S none ∧ Below wo.heap.size wo w') (ds := []) #[false, false, false, false, false, false, false, false, false, false] (by kernel_rfl) rfl rfl ⟨hst.row, hspec, (Below.refl _ _).drew⟩ (fun hHeld => ?_)
    refine pure_ (i := 4) (N := some 135) (v := ?_) (a' := ?_) #[false, false, false, false, true, false, false, false, false, false] rfl rfl (by kernel_rfl) (fun _ _ _ h => h) (Or.inl ⟨by rfl, ?_⟩) ?_ ?_
    rotate_left
    · intro w'
      go_simp
      with_reducible rfl
    rotate_left
    · simp only [Act.put, List.setIfInBounds_toArray, List.set_cons_zero, List.set_cons_succ, i64_w, i32_w]
      rfl
    refine pure_ (i := 5) (N := some 136) (v := ?_) (a' := ?_) #[false, false, false, false, true, true, false, false, false, false] rfl rfl (by kernel_rfl) (fun _ _ _ h => h) (Or.inl ⟨by rfl, ?_⟩) ?_ ?_
    rotate_left
    · intro w'
      go_simp
      with_reducible rfl
    rotate_left
    · simp only [Act.put, List.setIfInBounds_toArray, List.set_cons_zero, List.set_cons_succ, i64_w, i32_w]
      rfl
    refine pure_ (i := 6) (N := some 137) (v := ?_) (a' := ?_) #[false, false, false, false, true, true, true, false, false, false] rfl rfl (by kernel_rfl) (fun _ _ _ h => h) (Or.inl ⟨by rfl, ?_⟩) ?_ ?_
    rotate_left
    · intro w'
      go_simp
      with_reducible rfl
    rotate_left
    · simp only [Act.put, List.setIfInBounds_toArray, List.set_cons_zero, List.set_cons_succ, i64_w, i32_w]
      rfl
    refine take_ (i := 0) (N := some 131) (v := ?_) (a' := ?_) #[true, false, false, false, true, true, true, false, false, false] rfl rfl (by kernel_rfl) (fun _ _ _ h => h) (Or.inl ⟨by rfl, ?_⟩) hHeld ?_ ?_
    rotate_left
    · rintro w' ⟨s0, s1, s2⟩
      refine exec_load_row _ _ w' 74 (.tmp 3) ?_ T ?_ _ _ _ _ s0 Try.underlying74 rfl timeSize
      · rfl
      · rfl
    rotate_left
    · simp only [Act.put, List.setIfInBounds_toArray, List.set_cons_zero, List.set_cons_succ, i64_w, i32_w]
      rfl
    refine take_ (i := 7) (N := some 138) (v := ?_) (a' := ?_) #[true, false, false, false, true, true, true, true, false, false] rfl rfl (by kernel_rfl) (fun _ _ _ h => h) (Or.inl ⟨by rfl, ?_⟩) hHeld ?_ ?_
    rotate_left
    · rintro w' ⟨s0, s1, s2⟩
      have c3 : w'.cell? ⟨g, 1, none⟩ = some (.int .u64 (S.min : Int)) := cell_of_row _ _ _ _ _ _ s1
      go_simp
      with_reducible rfl
    rotate_left
    · simp only [Act.put, List.setIfInBounds_toArray, List.set_cons_zero, List.set_cons_succ, i64_w, i32_w]
      rfl
    refine one_ (i := 1) (N := some 132) #[true, true, false, false, true, true, true, true, false, false] rfl rfl (by kernel_rfl) (by decide) (fun K hK => ?_)
    refine goes_ Try.func133 (by kernel_rfl) rfl #[.agg (tcells l off L1)] (by rfl) rfl rfl (by simp only [List.map_toArray, List.map_cons, List.map_nil]; rfl) ?_
    with_reducible refine (HC.out _ (H.abs.keeps HI.out hHeld.2.2)).mono ?_
    rintro e3 w3 ⟨rfl, hb1⟩
    refine ⟨_, rfl, ?_⟩
    refine hK.out _ _ ⟨(hb1.block _ (Array.getElem?_eq_some_iff.1 hHeld.1).1).trans hHeld.1, hHeld.2.1.below hb1, below_le hHeld.2.2 hb1⟩ (fun hHeld => ?_)
    clear hK K
    refine norm_ (a' := ?_) ?_ ?_
    rotate_left
    · show Act.put _ (some 132) _ = _
      simp only [Act.put, List.setIfInBounds_toArray, List.set_cons_zero, List.set_cons_succ, i64_w, i32_w]
      rfl
    refine pure_ (i := 2) (N := some 133) (v := ?_) (a' := ?_) #[true, true, true, false, true, true, true, true, false, false] rfl rfl (by kernel_rfl) (fun _ _ _ h => h) (Or.inl ⟨by rfl, ?_⟩) ?_ ?_
    rotate_left
    · intro w'
      go_simp
      with_reducible rfl
    rotate_left
    · simp only [Act.put, List.setIfInBounds_toArray, List.set_cons_zero, List.set_cons_succ, i64_w, i32_w]
      rfl
    refine pure_ (i := 3) (N := some 134) (v := ?_) (a' := ?_) #[true, true, true, true, true, true, true, true, false, false] rfl rfl (by kernel_rfl) (fun _ _ _ h => h) (Or.inl ⟨by rfl, ?_⟩) ?_ ?_
    rotate_left
    · intro w'
      go_simp
      with_reducible rfl
    rotate_left
    · simp only [Act.put, List.setIfInBounds_toArray, List.set_cons_zero, List.set_cons_succ, i64_w, i32_w]
      rfl
    refine pure_ (i := 8) (N := some 139) (v := ?_) (a' := ?_) #[true, true, true, true, true, true, true, true, true, false] rfl rfl (by kernel_rfl) (fun _ _ _ h => h) (Or.inl ⟨by rfl, ?_⟩) ?_ ?_
    rotate_left
    · intro w'
      go_simp
      with_reducible rfl
    rotate_left
    · simp only [Act.put, List.setIfInBounds_toArray, List.set_cons_zero, List.set_cons_succ, i64_w, i32_w]
      rfl
    refine pure_ (i := 9) (N := some 140) (v := ?_) (a' := ?_) #[true, true, true, true, true, true, true, true, true, true] rfl rfl (by kernel_rfl) (fun _ _ _ h => h) (Or.inl ⟨by rfl, ?_⟩) ?_ ?_
    rotate_left
    · intro w'
      go_simp
      with_reducible rfl
    rotate_left
    · simp only [Act.put, List.setIfInBounds_toArray, List.set_cons_zero, List.set_cons_succ, i64_w, i32_w]
      rfl
    refine done_ (by kernel_rfl) ?_
    dsimp only [only]
    obtain ⟨-, hspec3, hb3⟩ := hHeld
    have HS3 := Lib.hid (HS.out.below H hb3)
    have HI3 := Lib.hid (H.abs.keeps P.inv HS3.out.bel)
    rw [bit_eq P.ok.2.1 (by omega) (by omega)]
    have hmB : inB S.min (minL L1) = minB S L1 := rfl
    rw [hmB]
    generalize IntKind.u64.wrap (2 ^ min (IntKind.u64.wrap (minL L1)).toNat 64) = junk
    clear hst hspec hspec3 hmB hb1 hb3
    cases hi : minB S L1 with
    | true =>
      go_wp2_with fail
      exact HNEXT.out _ _ L1 ad ⟨rfl, rfl, rfl, rfl, rfl, rfl, rfl, rfl, rfl⟩ HS3.out HA.out ⟨hm, hd, hh, hi⟩ hy1 hle
    | false =>
      cases ad with
      | true =>
        obtain ⟨X, hXe⟩ : ∃ X, X = L1 := ⟨_, rfl⟩
        have hX0 : (LOk off X ∧ YOk X) ∧ True ∧ X + 60 = iNext L1 := by
          rw [hXe]
          exact ⟨⟨hok, hyk⟩, trivial, by have := (HA.out.mi rfl).resolve_left (by rw [hi]; decide); unfold iNext; omega⟩
        have HSX := Lib.hid HS3.out
        rw [← hXe] at HSX
        clear hXe
        obtain ⟨hokX, hXa, hXn⟩ := hX0
        have HAM : Hid (∀ (w' : World), Calls Try.prog 123 #[.agg (tcells l off (X)), .int .i64 60000000000] w' fun e' w2 => e' = .returned (.agg (tcells l off (X + 60))) ∧ Below w'.heap.size w' w2) := Lib.hid (fun w' => by have := cAdd (l := l) 60 (X) w' hokX.1 (by omega) (by omega); rw [show (1000000000 : Int) * 60 = 60000000000 from rfl] at this; exact this)
        have hgt : L1 < iNext L1 := by unfold iNext; omega
        have HAT2 := Lib.hid (at_min HA.out hm hd hh hi)
        have HXN := Lib.hid hXn
        have hyr : yearL (iNext L1) ≤ lim + 1 := by have := year_day L1 (iNext L1) (by unfold iNext; omega); omega
        obtain ⟨hok2, -⟩ := P.okL (L := iNext L1) (by have := HA.out.ge; omega) hyr
        have HM2 : Hid (∀ (w' : World), Inv w' → Calls Try.prog 133 #[.agg (tcells l off (iNext L1))] w' fun e' w2 => e' = .returned (.int .i64 (minL (iNext L1))) ∧ Below w'.heap.size w' w2) := Lib.hid (fun w' hI' => cMinute H (iNext L1) w' hok2 hI')
        clear hXa hXn hokX
        go_wp2_with (refine wpList_load_row rfl 74 _ rfl T rfl _ _ _ _ HSX.out.row Try.underlying74 rfl timeSize ?_)
        refine (HAM.out _).mono ?_
        rintro e w6 ⟨rfl, hb6⟩
        have hst6 := HSX.out.below H hb6
        try rw [HXN.out]
        go_wp2_with (first | (refine wpList_store_row rfl 74 _ _ rfl T (tcells l off (iNext L1)) rfl rfl 74 _ hst6.row timeSize rfl (tcells_one _ _ _) ?_; generalize hX : World.setRow _ _ _ = wz; have HSZ := Lib.hid (show St l off Loc w T k0 k1 wz (iNext L1) by rw [← hX]; exact hst6.put hls _); clear hX) | (refine wpList_load_row rfl 74 _ rfl T rfl _ _ _ _ HSZ.out.row Try.underlying74 rfl timeSize ?_))
        refine (HM2.out _ (H.abs.keeps P.inv HSZ.out.bel)).mono ?_
        rintro e w7 ⟨rfl, hb7⟩
        have HS7 := Lib.hid (HSZ.out.below H hb7)
        by_cases h1 : minL (iNext L1) = 0
        · have hdd : (minL (iNext L1) == 0) = true := by simp [h1]
          go_wp2_with fail
          refine wp_goto ?_
          refine HJUMP.out _ _ (iNext L1) ?_ HS7.out HAT2.out.1 (by omega) hyr
          exact ⟨rfl, rfl, rfl, rfl, rfl, rfl, rfl, rfl, rfl⟩
        · have hdd : (minL (iNext L1) == 0) = false := by simp [h1]
          go_wp2_with fail
          exact ⟨⟨true, iNext L1, rfl, HS7, Lib.hid HAT2.out.1, (HAT2.out.2.resolve_left h1).1, (HAT2.out.2.resolve_left h1).2.1, (HAT2.out.2.resolve_left h1).2.2.1, by rw [(HAT2.out.2.resolve_left h1).2.2.2]; exact hy1, by omega⟩, mu_less HS.out HS7.out (by omega) (by omega)⟩
      | false =>
        have HTR : Hid (∀ (w' : World), Calls Try.prog 134 #[.agg (tcells l off L1), .int .i64 60000000000] w' fun e' w2 => e' = .returned (.agg (tcells l off (L1 / 60 * 60))) ∧ Below w'.heap.size w' w2) := Lib.hid (fun w' => cTrunc60 L1 w' (P.low HA.out.ge) hok P60)
        go_wp2_with (refine wpList_load_row rfl 74 _ rfl T rfl _ _ _ _ HS3.out.row Try.underlying74 rfl timeSize ?_)
        refine (HTR.out _).mono ?_
        rintro e w5 ⟨rfl, hb5⟩
        have hst5 := HS3.out.below H hb5
        have HSX0 : Hid (St l off Loc w T k0 k1 (w5.setRow T (tcells l off (L1 / 60 * 60))) (L1 / 60 * 60)) := Lib.hid (hst5.put hls (L1 / 60 * 60))
        have HROW5 := Lib.hid hst5.row
        clear hst5 hb5 HS3
        have okMin : LOk off (L1 / 60 * 60) ∧ YOk (L1 / 60 * 60) := P.okPart HA.out.ge (by omega) (by omega) (by omega)
        have hX0 : (LOk off (L1 / 60 * 60) ∧ YOk (L1 / 60 * 60)) ∧ True ∧ (L1 / 60 * 60) + 60 = iNext L1 := ⟨okMin, trivial, by unfold iNext; omega⟩
        obtain ⟨hokX, hXa, hXn⟩ := hX0
        have HAM : Hid (∀ (w' : World), Calls Try.prog 123 #[.agg (tcells l off (L1 / 60 * 60)), .int .i64 60000000000] w' fun e' w2 => e' = .returned (.agg (tcells l off (L1 / 60 * 60 + 60))) ∧ Below w'.heap.size w' w2) := Lib.hid (fun w' => by have := cAdd (l := l) 60 (L1 / 60 * 60) w' hokX.1 (by omega) (by omega); rw [show (1000000000 : Int) * 60 = 60000000000 from rfl] at this; exact this)
        have hgt : L1 < iNext L1 := by unfold iNext; omega
        have HAT2 := Lib.hid (at_min HA.out hm hd hh hi)
        have HXN := Lib.hid hXn
        have hyr : yearL (iNext L1) ≤ lim + 1 := by have := year_day L1 (iNext L1) (by unfold iNext; omega); omega
        obtain ⟨hok2, -⟩ := P.okL (L := iNext L1) (by have := HA.out.ge; omega) hyr
        have HM2 : Hid (∀ (w' : World), Inv w' → Calls Try.prog 133 #[.agg (tcells l off (iNext L1))] w' fun e' w2 => e' = .returned (.int .i64 (minL (iNext L1))) ∧ Below w'.heap.size w' w2) := Lib.hid (fun w' hI' => cMinute H (iNext L1) w' hok2 hI')
        clear hXa hXn hokX
        go_wp2_with (first | (refine wpList_store_row rfl 74 _ _ rfl T (tcells l off (L1 / 60 * 60)) rfl rfl 74 _ HROW5.out timeSize rfl (tcells_one _ _ _) ?_; generalize hX5 : World.setRow _ _ _ = wx; have HSX := Lib.hid (show St l off Loc w T k0 k1 wx (L1 / 60 * 60) by rw [← hX5]; exact HSX0.out); clear hX5) | (refine wpList_load_row rfl 74 _ rfl T rfl _ _ _ _ HSX.out.row Try.underlying74 rfl timeSize ?_))
        refine (HAM.out _).mono ?_
        rintro e w6 ⟨rfl, hb6⟩
        have hst6 := HSX.out.below H hb6
        try rw [HXN.out]
        go_wp2_with (first | (refine wpList_store_row rfl 74 _ _ rfl T (tcells l off (iNext L1)) rfl rfl 74 _ hst6.row timeSize rfl (tcells_one _ _ _) ?_; generalize hX : World.setRow _ _ _ = wz; have HSZ := Lib.hid (show St l off Loc w T k0 k1 wz (iNext L1) by rw [← hX]; exact hst6.put hls _); clear hX) | (refine wpList_load_row rfl 74 _ rfl T rfl _ _ _ _ HSZ.out.row Try.underlying74 rfl timeSize ?_))
        refine (HM2.out _ (H.abs.keeps P.inv HSZ.out.bel)).mono ?_
        rintro e w7 ⟨rfl, hb7⟩
        have HS7 := Lib.hid (HSZ.out.below H hb7)
        by_cases h1 : minL (iNext L1) = 0
        · have hdd : (minL (iNext L1) == 0) = true := by simp [h1]
          go_wp2_with fail
          refine wp_goto ?_
          refine HJUMP.out _ _ (iNext L1) ?_ HS7.out HAT2.out.1 (by omega) hyr
          exact ⟨rfl, rfl, rfl, rfl, rfl, rfl, rfl, rfl, rfl⟩
        · have hdd : (minL (iNext L1) == 0) = false := by simp [h1]
          go_wp2_with fail
          exact ⟨⟨true, iNext L1, rfl, HS7, Lib.hid HAT2.out.1, (HAT2.out.2.resolve_left h1).1, (HAT2.out.2.resolve_left h1).2.1, (HAT2.out.2.resolve_left h1).2.2.1, by rw [(HAT2.out.2.resolve_left h1).2.2.2]; exact hy1, by omega⟩, mu_less HS.out HS7.out (by omega) (by omega)⟩
end Go.Proofs.Ytbgbeohiafiacaa.Cal

namespace Go.Proofs.Ytbgbeohiafiacaa.Cal
open Go Go.RowKit Go.Proofs.YtbgbeohiafiacaaW.PrintWords Go.Proofs.YtbgbeohiafiacaaW.PrintLast
set_option linter.unusedVariables false
set_option linter.unusedSimpArgs false

set_option maxRecDepth 100000 in
set_option maxHeartbeats 8000000 in
theorem loop4 {l : Option Addr} {off : Int} {Inv : World → Prop} {Loc : World → Nat → Prop} (H : Clock l off Inv Loc) (hls : LocS Loc) {w : World} {g T k0 k1 : Nat} {S : Sets} {f lim : Int} (P : Par off Inv w g S f lim) (Q : Exit → Act → World → Prop) (L : Int) (ad : Bool) (a : Act) (wr : World) (ha : Fr g T k0 k1 ad lim a) (hst : St l off Loc w T k0 k1 wr L) (hat : At S f ad L) (hy : yearL L ≤ lim) (P60 : off % 60 = 0) (hm : monthB S L = true) (hd : dayB S L = true) (hh : hourB S L = true) (hi : minB S L = true)
    (next : ∀ (a' : Act) (w' : World) (L' : Int) (ad' : Bool), Fr g T k0 k1 ad' lim a' → St l off Loc w T k0 k1 w' L' → At S f ad' L' → monthB S L' = true ∧ dayB S L' = true ∧ hourB S L' = true ∧ minB S L' = true ∧ secB S L' = true → yearL L' ≤ lim → L ≤ L' → Q .normal a' w')
    (jump : ∀ (a' : Act) (w' : World) (L' : Int), Fr g T k0 k1 true lim a' → St l off Loc w T k0 k1 w' L' → At S f true L' → L < L' → yearL L' ≤ lim + 1 → Q (.goto 0) a' w') :
    (loopK (Try.f125.body.getD .skip) 4).wp Try.prog (Exit.inBlock 8 Q) a wr := by
  obtain ⟨u, rfl⟩ := ha.open
  have HNEXT := Lib.hid next
  have HJUMP := Lib.hid jump
  have HST := Lib.hid hst
  have HAT := Lib.hid hat
  clear next jump hst hat ha
  simp only [loopK, loops, Try.f125, Option.getD_some, List.append_assoc, List.cons_append, List.nil_append, List.getElem?_cons_zero, List.getElem?_cons_succ]
  go_loopw [7] (fun v7 wr => ∃ (ad : Bool) (L' : Int), v7 = .bool ad ∧ Hid (St l off Loc w T k0 k1 wr L') ∧ Hid (At S f ad L') ∧ monthB S L' = true ∧ dayB S L' = true ∧ hourB S L' = true ∧ minB S L' = true ∧ yearL L' ≤ lim ∧ L ≤ L') (fun _ wr => muT T (bndE off lim) wr)
  case atStart => exact ⟨ad, L, rfl, HST, HAT, hm, hd, hh, hi, hy, Int.le_refl _⟩
  case round =>
    clear hm hd hh hi
    obtain ⟨ad, L1, rfl, HS, HA, hm, hd, hh, hi, hy1, hle⟩ := hrel
    clear HST HAT hy
    obtain ⟨hok, hyk⟩ := P.okL HA.out.ge (by omega)
    obtain ⟨wo, hwo⟩ : ∃ wo, wo = wr := ⟨_, rfl⟩
    subst hwo
    have HI := Lib.hid (H.abs.keeps P.inv HS.out.bel)
    have hspec : SpecRow wo g S none := P.spec.below HS.out.bel
    have HC : Hid (∀ (w' : World), Inv w' → Calls Try.prog 135 #[.agg (tcells l off (L1))] w' fun e' w2 => e' = .returned (.int .i64 (secL (L1))) ∧ Below w'.heap.size w' w2) := Lib.hid (fun w' hI' => cSecond H (L1) w' hok hI')
    have hm12 : 0 ≤ secL L1 ∧ secL L1 < 60 := by unfold secL; omega
    have hst := HS.out
    go_upto_region 40 with fail
    refine wp_only ?_
    refine start_ (n := 10) (S := fun w' => w'.heap[T]? = some (.cells (tcells l off L1) 74 (0, 0)) ∧ SpecRow w' g S none ∧ Below wo.heap.size wo w') (ds := []) #[false, false, false, false, false, false, false, false, false, false] (by kernel_rfl) rfl rfl ⟨hst.row, hspec, (Below.refl _ _).drew⟩ (fun hHeld => ?_)
    refine pure_ (i := 4) (N := some 154) (v := ?_) (a' := ?_) #[false, false, false, false, true, false, false, false, false, false] rfl rfl (by kernel_rfl) (fun _ _ _ h => h) (Or.inl ⟨by rfl, ?_⟩) ?_ ?_
    rotate_left
    · intro w'
      go_simp
      with_reducible rfl
    rotate_left
    · simp only [Act.put, List.setIfInBounds_toArray, List.set_cons_zero, List.set_cons_succ, i64_w, i32_w]
      rfl
    refine pure_ (i := 5) (N := some 155) (v := ?_) (a' := ?_) #[false, false, false, false, true, true, false, false, false, false] rfl rfl (by kernel_rfl) (fun _ _ _ h => h) (Or.inl ⟨by rfl, ?_⟩) ?_ ?_
    rotate_left
    · intro w'
      go_simp
      with_reducible rfl
    rotate_left
    · simp only [Act.put, List.setIfInBounds_toArray, List.set_cons_zero, List.set_cons_succ, i64_w, i32_w]
      rfl
    refine pure_ (i := 6) (N := some 156) (v := ?_) (a' := ?_) #[false, false, false, false, true, true, true, false, false, false] rfl rfl (by kernel_rfl) (fun _ _ _ h => h) (Or.inl ⟨by rfl, ?_⟩) ?_ ?_
    rotate_left
    · intro w'
      go_simp
      with_reducible rfl
    rotate_left
    · simp only [Act.put, List.setIfInBounds_toArray, List.set_cons_zero, List.set_cons_succ, i64_w, i32_w]
      rfl
    refine take_ (i := 0) (N := some 150) (v := ?_) (a' := ?_) #[true, false, false, false, true, true, true, false, false, false] rfl rfl (by kernel_rfl) (fun _ _ _ h => h) (Or.inl ⟨by rfl, ?_⟩) hHeld ?_ ?_
    rotate_left
    · rintro w' ⟨s0, s1, s2⟩
      refine exec_load_row _ _ w' 74 (.tmp 3) ?_ T ?_ _ _ _ _ s0 Try.underlying74 rfl timeSize
      · rfl
      · rfl
    rotate_left
    · simp only [Act.put, List.setIfInBounds_toArray, List.set_cons_zero, List.set_cons_succ, i64_w, i32_w]
      rfl
    refine take_ (i := 7) (N := some 157) (v := ?_) (a' := ?_) #[true, false, false, false, true, true, true, true, false, false] rfl rfl (by kernel_rfl) (fun _ _ _ h => h) (Or.inl ⟨by rfl, ?_⟩) hHeld ?_ ?_
    rotate_left
    · rintro w' ⟨s0, s1, s2⟩
      have c3 : w'.cell? ⟨g, 0, none⟩ = some (.int .u64 (S.sec : Int)) := cell_of_row _ _ _ _ _ _ s1
      go_simp
      with_reducible rfl
    rotate_left
    · simp only [Act.put, List.setIfInBounds_toArray, List.set_cons_zero, List.set_cons_succ, i64_w, i32_w]
      rfl
    refine one_ (i := 1) (N := some 151) #[true, true, false, false, true, true, true, true, false, false] rfl rfl (by kernel_rfl) (by decide) (fun K hK => ?_)
    refine goes_ Try.func135 (by kernel_rfl) rfl #[.agg (tcells l off L1)] (by rfl) rfl rfl (by simp only [List.map_toArray, List.map_cons, List.map_nil]; rfl) ?_
    with_reducible refine (HC.out _ (H.abs.keeps HI.out hHeld.2.2)).mono ?_
    rintro e3 w3 ⟨rfl, hb1⟩
    refine ⟨_, rfl, ?_⟩
    refine hK.out _ _ ⟨(hb1.block _ (Array.getElem?_eq_some_iff.1 hHeld.1).1).trans hHeld.1, hHeld.2.1.below hb1, below_le hHeld.2.2 hb1⟩ (fun hHeld => ?_)
    clear hK K
    refine norm_ (a' := ?_) ?_ ?_
    rotate_left
    · show Act.put _ (some 151) _ = _
      simp only [Act.put, List.setIfInBounds_toArray, List.set_cons_zero, List.set_cons_succ, i64_w, i32_w]
      rfl
    refine pure_ (i := 2) (N := some 152) (v := ?_) (a' := ?_) #[true, true, true, false, true, true, true, true, false, false] rfl rfl (by kernel_rfl) (fun _ _ _ h => h) (Or.inl ⟨by rfl, ?_⟩) ?_ ?_
    rotate_left
    · intro w'
      go_simp
      with_reducible rfl
    rotate_left
    · simp only [Act.put, List.setIfInBounds_toArray, List.set_cons_zero, List.set_cons_succ, i64_w, i32_w]
      rfl
    refine pure_ (i := 3) (N := some 153) (v := ?_) (a' := ?_) #[true, true, true, true, true, true, true, true, false, false] rfl rfl (by kernel_rfl) (fun _ _ _ h => h) (Or.inl ⟨by rfl, ?_⟩) ?_ ?_
    rotate_left
    · intro w'
      go_simp
      with_reducible rfl
    rotate_left
    · simp only [Act.put, List.setIfInBounds_toArray, List.set_cons_zero, List.set_cons_succ, i64_w, i32_w]
      rfl
    refine pure_ (i := 8) (N := some 158) (v := ?_) (a' := ?_) #[true, true, true, true, true, true, true, true, true, false] rfl rfl (by kernel_rfl) (fun _ _ _ h => h) (Or.inl ⟨by rfl, ?_⟩) ?_ ?_
    rotate_left
    · intro w'
      go_simp
      with_reducible rfl
    rotate_left
    · simp only [Act.put, List.setIfInBounds_toArray, List.set_cons_zero, List.set_cons_succ, i64_w, i32_w]
      rfl
    refine pure_ (i := 9) (N := some 159) (v := ?_) (a' := ?_) #[true, true, true, true, true, true, true, true, true, true] rfl rfl (by kernel_rfl) (fun _ _ _ h => h) (Or.inl ⟨by rfl, ?_⟩) ?_ ?_
    rotate_left
    · intro w'
      go_simp
      with_reducible rfl
    rotate_left
    · simp only [Act.put, List.setIfInBounds_toArray, List.set_cons_zero, List.set_cons_succ, i64_w, i32_w]
      rfl
    refine done_ (by kernel_rfl) ?_
    dsimp only [only]
    obtain ⟨-, hspec3, hb3⟩ := hHeld
    have HS3 := Lib.hid (HS.out.below H hb3)
    have HI3 := Lib.hid (H.abs.keeps P.inv HS3.out.bel)
    rw [bit_eq P.ok.1 (by omega) (by omega)]
    have hmB : inB S.sec (secL L1) = secB S L1 := rfl
    rw [hmB]
    generalize IntKind.u64.wrap (2 ^ min (IntKind.u64.wrap (secL L1)).toNat 64) = junk
    clear hst hspec hspec3 hmB hb1 hb3
    cases hs : secB S L1 with
    | true =>
      go_wp2_with fail
      exact HNEXT.out _ _ L1 ad ⟨rfl, rfl, rfl, rfl, rfl, rfl, rfl, rfl, rfl⟩ HS3.out HA.out ⟨hm, hd, hh, hi, hs⟩ hy1 hle
    | false =>
      cases ad with
      | true =>
        obtain ⟨X, hXe⟩ : ∃ X, X = L1 := ⟨_, rfl⟩
        have hX0 : (LOk off X ∧ YOk X) ∧ True ∧ X + 1 = L1 + 1 := by
          rw [hXe]
          exact ⟨⟨hok, hyk⟩, trivial, rfl⟩
        have HSX := Lib.hid HS3.out
        rw [← hXe] at HSX
        clear hXe
        obtain ⟨hokX, hXa, hXn⟩ := hX0
        have HAM : Hid (∀ (w' : World), Calls Try.prog 123 #[.agg (tcells l off (X)), .int .i64 1000000000] w' fun e' w2 => e' = .returned (.agg (tcells l off (X + 1))) ∧ Below w'.heap.size w' w2) := Lib.hid (fun w' => by have := cAdd (l := l) 1 (X) w' hokX.1 (by omega) (by omega); rw [show (1000000000 : Int) * 1 = 1000000000 from rfl] at this; exact this)
        have hgt : L1 < L1 + 1 := by omega
        have HAT2 := Lib.hid (at_sec HA.out hm hd hh hi hs)
        have HXN := Lib.hid hXn
        have hyr : yearL (L1 + 1) ≤ lim + 1 := by have := year_day L1 (L1 + 1) (by omega); omega
        obtain ⟨hok2, -⟩ := P.okL (L := L1 + 1) (by have := HA.out.ge; omega) hyr
        have HM2 : Hid (∀ (w' : World), Inv w' → Calls Try.prog 135 #[.agg (tcells l off (L1 + 1))] w' fun e' w2 => e' = .returned (.int .i64 (secL (L1 + 1))) ∧ Below w'.heap.size w' w2) := Lib.hid (fun w' hI' => cSecond H (L1 + 1) w' hok2 hI')
        clear hXa hXn hokX
        go_wp2_with (refine wpList_load_row rfl 74 _ rfl T rfl _ _ _ _ HSX.out.row Try.underlying74 rfl timeSize ?_)
        refine (HAM.out _).mono ?_
        rintro e w6 ⟨rfl, hb6⟩
        have hst6 := HSX.out.below H hb6
        try rw [HXN.out]
        go_wp2_with (first | (refine wpList_store_row rfl 74 _ _ rfl T (tcells l off (L1 + 1)) rfl rfl 74 _ hst6.row timeSize rfl (tcells_one _ _ _) ?_; generalize hX : World.setRow _ _ _ = wz; have HSZ := Lib.hid (show St l off Loc w T k0 k1 wz (L1 + 1) by rw [← hX]; exact hst6.put hls _); clear hX) | (refine wpList_load_row rfl 74 _ rfl T rfl _ _ _ _ HSZ.out.row Try.underlying74 rfl timeSize ?_))
        refine (HM2.out _ (H.abs.keeps P.inv HSZ.out.bel)).mono ?_
        rintro e w7 ⟨rfl, hb7⟩
        have HS7 := Lib.hid (HSZ.out.below H hb7)
        by_cases h1 : secL (L1 + 1) = 0
        · have hdd : (secL (L1 + 1) == 0) = true := by simp [h1]
          go_wp2_with fail
          refine wp_goto ?_
          refine HJUMP.out _ _ (L1 + 1) ?_ HS7.out HAT2.out.1 (by omega) hyr
          exact ⟨rfl, rfl, rfl, rfl, rfl, rfl, rfl, rfl, rfl⟩
        · have hdd : (secL (L1 + 1) == 0) = false := by simp [h1]
          go_wp2_with fail
          exact ⟨⟨true, L1 + 1, rfl, HS7, Lib.hid HAT2.out.1, (HAT2.out.2.resolve_left h1).1, (HAT2.out.2.resolve_left h1).2.1, (HAT2.out.2.resolve_left h1).2.2.1, (HAT2.out.2.resolve_left h1).2.2.2.1, by rw [(HAT2.out.2.resolve_left h1).2.2.2.2]; exact hy1, by omega⟩, mu_less HS.out HS7.out (by omega) (by omega)⟩
      | false =>
        have HTR : Hid (∀ (w' : World), Calls Try.prog 134 #[.agg (tcells l off L1), .int .i64 1000000000] w' fun e' w2 => e' = .returned (.agg (tcells l off (L1))) ∧ Below w'.heap.size w' w2) := Lib.hid (fun w' => cTrunc1 L1 w' (P.low HA.out.ge) hok)
        go_wp2_with (refine wpList_load_row rfl 74 _ rfl T rfl _ _ _ _ HS3.out.row Try.underlying74 rfl timeSize ?_)
        refine (HTR.out _).mono ?_
        rintro e w5 ⟨rfl, hb5⟩
        have hst5 := HS3.out.below H hb5
        have HSX0 : Hid (St l off Loc w T k0 k1 (w5.setRow T (tcells l off (L1))) (L1)) := Lib.hid (hst5.put hls (L1))
        have HROW5 := Lib.hid hst5.row
        clear hst5 hb5 HS3
        have hX0 : (LOk off (L1) ∧ YOk (L1)) ∧ True ∧ (L1) + 1 = L1 + 1 := ⟨⟨hok, hyk⟩, trivial, rfl⟩
        obtain ⟨hokX, hXa, hXn⟩ := hX0
        have HAM : Hid (∀ (w' : World), Calls Try.prog 123 #[.agg (tcells l off (L1)), .int .i64 1000000000] w' fun e' w2 => e' = .returned (.agg (tcells l off (L1 + 1))) ∧ Below w'.heap.size w' w2) := Lib.hid (fun w' => by have := cAdd (l := l) 1 (L1) w' hokX.1 (by omega) (by omega); rw [show (1000000000 : Int) * 1 = 1000000000 from rfl] at this; exact this)
        have hgt : L1 < L1 + 1 := by omega
        have HAT2 := Lib.hid (at_sec HA.out hm hd hh hi hs)
        have HXN := Lib.hid hXn
        have hyr : yearL (L1 + 1) ≤ lim + 1 := by have := year_day L1 (L1 + 1) (by omega); omega
        obtain ⟨hok2, -⟩ := P.okL (L := L1 + 1) (by have := HA.out.ge; omega) hyr
        have HM2 : Hid (∀ (w' : World), Inv w' → Calls Try.prog 135 #[.agg (tcells l off (L1 + 1))] w' fun e' w2 => e' = .returned (.int .i64 (secL (L1 + 1))) ∧ Below w'.heap.size w' w2) := Lib.hid (fun w' hI' => cSecond H (L1 + 1) w' hok2 hI')
        clear hXa hXn hokX
        go_wp2_with (first | (refine wpList_store_row rfl 74 _ _ rfl T (tcells l off (L1)) rfl rfl 74 _ HROW5.out timeSize rfl (tcells_one _ _ _) ?_; generalize hX5 : World.setRow _ _ _ = wx; have HSX := Lib.hid (show St l off Loc w T k0 k1 wx (L1) by rw [← hX5]; exact HSX0.out); clear hX5) | (refine wpList_load_row rfl 74 _ rfl T rfl _ _ _ _ HSX.out.row Try.underlying74 rfl timeSize ?_))
        refine (HAM.out _).mono ?_
        rintro e w6 ⟨rfl, hb6⟩
        have hst6 := HSX.out.below H hb6
        try rw [HXN.out]
        go_wp2_with (first | (refine wpList_store_row rfl 74 _ _ rfl T (tcells l off (L1 + 1)) rfl rfl 74 _ hst6.row timeSize rfl (tcells_one _ _ _) ?_; generalize hX : World.setRow _ _ _ = wz; have HSZ := Lib.hid (show St l off Loc w T k0 k1 wz (L1 + 1) by rw [← hX]; exact hst6.put hls _); clear hX) | (refine wpList_load_row rfl 74 _ rfl T rfl _ _ _ _ HSZ.out.row Try.underlying74 rfl timeSize ?_))
        refine (HM2.out _ (H.abs.keeps P.inv HSZ.out.bel)).mono ?_
        rintro e w7 ⟨rfl, hb7⟩
        have HS7 := Lib.hid (HSZ.out.below H hb7)
        by_cases h1 : secL (L1 + 1) = 0
        · have hdd : (secL (L1 + 1) == 0) = true := by simp [h1]
          go_wp2_with fail
          refine wp_goto ?_
          refine HJUMP.out _ _ (L1 + 1) ?_ HS7.out HAT2.out.1 (by omega) hyr
          exact ⟨rfl, rfl, rfl, rfl, rfl, rfl, rfl, rfl, rfl⟩
        · have hdd : (secL (L1 + 1) == 0) = false := by simp [h1]
          go_wp2_with fail
          exact ⟨⟨true, L1 + 1, rfl, HS7, Lib.hid HAT2.out.1, (HAT2.out.2.resolve_left h1).1, (HAT2.out.2.resolve_left h1).2.1, (HAT2.out.2.resolve_left h1).2.2.1, (HAT2.out.2.resolve_left h1).2.2.2.1, by rw [(HAT2.out.2.resolve_left h1).2.2.2.2]; exact hy1, by omega⟩, mu_less HS.out HS7.out (by omega) (by omega)⟩
end Go.Proofs.Ytbgbeohiafiacaa.Cal

namespace Go.Proofs.Ytbgbeohiafiacaa.Cal
open Go Go.RowKit Go.Proofs.YtbgbeohiafiacaaW.PrintWords Go.Proofs.YtbgbeohiafiacaaW.PrintLast
set_option linter.unusedVariables false
set_option linter.unusedSimpArgs false

/-- what the search answers -/
def ansT (l : Option Addr) (off : Int) : Option Int → Value
  | none => .agg zcells
  | some L => .agg (tcells l off L)

set_option maxRecDepth 100000 in
set_option maxHeartbeats 8000000 in
theorem next_any {l : Option Addr} {off : Int} {Inv : World → Prop} {Loc : World → Nat → Prop} (H : Clock l off Inv Loc) (hls : LocS Loc) {w : World} {g : Nat} {S : Sets} {f lim : Int} (P : Par off Inv w g S f lim) (P60 : off % 60 = 0)
    (n e0 : Int) (h0 : 0 ≤ n) (h1 : n < 1000000000) (he0 : 0 ≤ e0) (he1 : e0 ≤ 320000000000) (hf : f = e0 + 1 - 62135596800 + off) (hlim : lim = yearL f + 5) :
    Calls Try.prog 125 #[.pointer (some ⟨g, 0, none⟩), .agg #[.int .u64 n, .int .i64 e0, .pointer l]] w fun e' w' => ∃ r : Option Int, Least S f lim r ∧ e' = .returned (ansT l off r) ∧ Below w.heap.size w w' := by
  have hgl : g < w.heap.size := (Array.getElem?_eq_some_iff.1 P.spec).1
  have HYC : Hid (∀ (L : Int) (w' : World), Inv w' → LOk off L → Calls Try.prog 127 #[.agg (tcells l off L)] w' fun e' w2 => e' = .returned (.int .i64 (yearL L)) ∧ Below w'.heap.size w' w2) := Lib.hid (fun L w' hI hok => cYear H L w' hok hI)
  have HIN : Hid (∀ (L : Int) (k : Nat) (w' : World), Loc w' k → Calls Try.prog 57 #[.agg (tcells l off L), .pointer (some ⟨k, 0, none⟩)] w' fun e' w2 => e' = .returned (.agg (tcells l off L)) ∧ Below w'.heap.size w' w2) := Lib.hid (fun L k w' hk => H.inn 0 (L + 62135596800 - off) l k w' (by omega) (by omega) hk)
  have HLO : Hid (∀ (w' : World), Inv w' → Calls Try.prog 126 #[.agg #[.int .u64 n, .int .i64 e0, .pointer l]] w' fun e' w2 => ∃ k, e' = .returned (.pointer (some ⟨k, 0, none⟩)) ∧ Loc w2 k ∧ Below w'.heap.size w' w2) := Lib.hid (fun w' hI => H.loc n e0 w' hI)
  have HNA : Hid (∀ (w' : World), Calls Try.prog 71 #[.agg #[.int .u64 n, .int .i64 e0, .pointer l]] w' fun e' w2 => e' = .returned (.int .i64 n) ∧ Below w'.heap.size w' w2) := Lib.hid (fun w' => tNano_any n e0 l w' h0 (by omega))
  have HAF : Hid (∀ (w' : World), Calls Try.prog 123 #[.agg #[.int .u64 n, .int .i64 e0, .pointer l], .int .i64 (wrap64 (1000000000 - wrap64 n))] w' fun e' w2 => e' = .returned (.agg (tcells l off f)) ∧ Below w'.heap.size w' w2) := Lib.hid (fun w' => by
    have := addFirst_any n e0 l h0 h1 (by omega) (by omega) w'
    rw [show wrap64 (1000000000 - wrap64 n) = 1000000000 - n by unfold wrap64; omega]
    rw [show e0 + 1 = f + 62135596800 - off by omega] at this
    exact this)
  have hfl := P.okL (L := f) (Int.le_refl _) (by have := P.lim0; omega)
  have hsp := P.spec
  have hw5 : wrap64 (yearL f + 5) = lim := by
    have := P.lim1
    have := (hfl.2).1
    unfold wrap64
    omega
  have HW5 := Lib.hid hw5
  clear hf hlim hw5
  go_enter Try.func125, Try.ntmps125
  go_wp2_with fail
  refine wp_scope_jumps 0 (fun a' w' => ∃ k0 k1 L ad, Fr g w.heap.size k0 k1 ad lim a' ∧ St l off Loc w w.heap.size k0 k1 w' L ∧ At S f ad L ∧ yearL L ≤ lim + 1) (fun _ w' => muT w.heap.size (bndE off lim) w') rfl ?_ ?_
  · generalize hWa : World.alloc (World.alloc w _) _ = wa
    have hrowA : wa.heap[w.heap.size]? = some (.cells #[.int .u64 n, .int .i64 e0, .pointer l] 74 (0, 0)) := by rw [← hWa]; exact (((Below.refl _ _).alloc (Nat.le_refl _) _).block w.heap.size (by simp)).trans (heap_alloc_new w _)
    have hresA : wa.heap[w.heap.size + 1]? = some (.cells zcells 74 (0, 0)) := by rw [← hWa]; exact heap_two w _ _
    have hbelA : Below w.heap.size w wa := by rw [← hWa]; exact ((Below.refl _ _).alloc (Nat.le_refl _) _).alloc (by simp) _
    clear hWa
    go_wp2_with (refine wpList_load_row rfl 74 _ rfl w.heap.size rfl _ _ _ _ hrowA Try.underlying74 rfl timeSize ?_)
    refine (HLO.out _ (H.abs.keeps P.inv hbelA)).mono ?_
    rintro e wb ⟨k0, rfl, hk0, hbb⟩
    have hrowB := (hbb.block _ (Array.getElem?_eq_some_iff.1 hrowA).1).trans hrowA
    have hresB := (hbb.block _ (Array.getElem?_eq_some_iff.1 hresA).1).trans hresA
    have hbelB := below_le hbelA hbb
    have c6 : wb.cell? ⟨g, 6, none⟩ = some (.pointer none) := cell_of_row _ _ _ _ _ _ (hsp.below hbelB)
    clear hrowA hresA hbelA hbb
    go_wp2_with (refine wpList_load_row rfl 74 _ rfl w.heap.size rfl _ _ _ _ hrowB Try.underlying74 rfl timeSize ?_)
    refine (HLO.out _ (H.abs.keeps P.inv hbelB)).mono ?_
    rintro e wc ⟨k1, rfl, hk1, hbc⟩
    have hrowC := (hbc.block _ (Array.getElem?_eq_some_iff.1 hrowB).1).trans hrowB
    have hresC := (hbc.block _ (Array.getElem?_eq_some_iff.1 hresB).1).trans hresB
    have hbelC := below_le hbelB hbc
    have hk0C := H.locK hk0 hbc
    have d6 : wc.cell? ⟨g, 6, none⟩ = some (.pointer none) := cell_of_row _ _ _ _ _ _ (hsp.below hbelC)
    clear hrowB hresB hbelB hbc c6 hk0
    go_upto_region 7 with fail
    refine wp_only ?_
    refine start_ (n := 7) (S := fun w' => w'.heap[w.heap.size]? = some (.cells #[.int .u64 n, .int .i64 e0, .pointer l] 74 (0, 0)) ∧ Below wc.heap.size wc w') (ds := [6]) #[false, false, false, false, false, false, false] (by kernel_rfl) rfl rfl ⟨hrowC, (Below.refl _ _).drew⟩ (fun hHeld => ?_)
    refine take_ (i := 0) (N := some 30) (v := ?_) (a' := ?_) #[true, false, false, false, false, false, false] rfl rfl (by kernel_rfl) (fun _ _ _ h => h) (Or.inl ⟨by rfl, ?_⟩) hHeld ?_ ?_
    rotate_left
    · rintro w' ⟨s0, s1⟩
      refine exec_load_row _ _ w' 74 (.tmp 3) ?_ w.heap.size ?_ _ _ _ _ s0 Try.underlying74 rfl timeSize
      · rfl
      · rfl
    rotate_left
    · simp only [Act.put, List.setIfInBounds_toArray, List.set_cons_zero, List.set_cons_succ, i64_w, i32_w]
      rfl
    refine take_ (i := 1) (N := some 31) (v := ?_) (a' := ?_) #[true, true, false, false, false, false, false] rfl rfl (by kernel_rfl) (fun _ _ _ h => h) (Or.inl ⟨by rfl, ?_⟩) hHeld ?_ ?_
    rotate_left
    · rintro w' ⟨s0, s1⟩
      refine exec_load_row _ _ w' 74 (.tmp 3) ?_ w.heap.size ?_ _ _ _ _ s0 Try.underlying74 rfl timeSize
      · rfl
      · rfl
    rotate_left
    · simp only [Act.put, List.setIfInBounds_toArray, List.set_cons_zero, List.set_cons_succ, i64_w, i32_w]
      rfl
    refine one_ (i := 2) (N := some 32) #[true, true, true, false, false, false, false] rfl rfl (by kernel_rfl) (by decide) (fun K hK => ?_)
    refine goes_ Try.func71 (by kernel_rfl) rfl #[.agg #[.int .u64 n, .int .i64 e0, .pointer l]] (by rfl) rfl rfl (by simp only [List.map_toArray, List.map_cons, List.map_nil]; rfl) ?_
    with_reducible refine (HNA.out _).mono ?_
    rintro e2 w2 ⟨rfl, hb2⟩
    refine ⟨_, rfl, ?_⟩
    refine hK.out _ _ ⟨(hb2.block _ (Array.getElem?_eq_some_iff.1 hHeld.1).1).trans hHeld.1, below_le hHeld.2 hb2⟩ (fun hHeld => ?_)
    clear hK K
    refine norm_ (a' := ?_) ?_ ?_
    rotate_left
    · show Act.put _ (some 32) _ = _
      simp only [Act.put, List.setIfInBounds_toArray, List.set_cons_zero, List.set_cons_succ, i64_w, i32_w]
      rfl
    refine pure_ (i := 3) (N := some 33) (v := ?_) (a' := ?_) #[true, true, true, true, false, false, false] rfl rfl (by kernel_rfl) (fun _ _ _ h => h) (Or.inl ⟨by rfl, ?_⟩) ?_ ?_
    rotate_left
    · intro w'
      go_simp
      with_reducible rfl
    rotate_left
    · simp only [Act.put, List.setIfInBounds_toArray, List.set_cons_zero, List.set_cons_succ, i64_w, i32_w]
      rfl
    refine pure_ (i := 4) (N := some 34) (v := ?_) (a' := ?_) #[true, true, true, true, true, false, false] rfl rfl (by kernel_rfl) (fun _ _ _ h => h) (Or.inl ⟨by rfl, ?_⟩) ?_ ?_
    rotate_left
    · intro w'
      go_simp
      with_reducible rfl
    rotate_left
    · simp only [Act.put, List.setIfInBounds_toArray, List.set_cons_zero, List.set_cons_succ, i64_w, i32_w]
      rfl
    refine one_ (i := 5) (N := some 35) #[true, true, true, true, true, true, false] rfl rfl (by kernel_rfl) (by decide) (fun K hK => ?_)
    refine goes_ Try.func123 (by kernel_rfl) rfl #[.agg #[.int .u64 n, .int .i64 e0, .pointer l], .int .i64 (wrap64 (1000000000 - wrap64 n))] (by rfl) rfl rfl (by simp only [List.map_toArray, List.map_cons, List.map_nil]; rfl) ?_
    with_reducible refine (HAF.out _).mono ?_
    rintro e5 w5 ⟨rfl, hb5⟩
    refine ⟨_, rfl, ?_⟩
    refine hK.out _ _ ⟨(hb5.block _ (Array.getElem?_eq_some_iff.1 hHeld.1).1).trans hHeld.1, below_le hHeld.2 hb5⟩ (fun hHeld => ?_)
    clear hK K
    refine norm_ (a' := ?_) ?_ ?_
    rotate_left
    · show Act.put _ (some 35) _ = _
      simp only [Act.put, List.setIfInBounds_toArray, List.set_cons_zero, List.set_cons_succ, i64_w, i32_w]
      rfl
    refine last_ (i := 6) (N := none) #[true, true, true, true, true, true, true] rfl rfl (by kernel_rfl) (by decide) (fun K hK => ?_)
    rw [if_pos (by rfl)]
    refine wp_store_row 74 _ _ rfl w.heap.size (tcells l off f) rfl rfl 74 _ hHeld.1 timeSize rfl (tcells_one _ _ _) ?_
    refine hK.out _ _ ?_
    clear hK K
    refine done_ (by kernel_rfl) ?_
    dsimp only [only]
    generalize hWx : World.setRow _ w.heap.size _ = wx
    have hstF : St l off Loc w w.heap.size k0 k1 wx f := by
      rw [← hWx]
      exact ⟨setRow_heap _ _ _ _ _ _ hHeld.1, (setRow_other _ _ _ _ (by omega)).trans ((hHeld.2.block _ (Array.getElem?_eq_some_iff.1 hresC).1).trans hresC), below_setRow (below_le hbelC hHeld.2) (Nat.le_refl _) _, Nat.le_refl _,
        hls _ _ k0 w.heap.size _ _ _ (H.locK hk0C hHeld.2) hHeld.1 (fun b hb => setRow_other _ _ _ _ hb) (by simp), hls _ _ k1 w.heap.size _ _ _ (H.locK hk1 hHeld.2) hHeld.1 (fun b hb => setRow_other _ _ _ _ hb) (by simp)⟩
    have HS0 := Lib.hid hstF
    clear hstF hWx hHeld hrowC hresC hbelC hk0C hk1 d6 HNA HAF HLO hb2 hb5
    go_wp2_with (refine wpList_load_row rfl 74 _ rfl w.heap.size rfl _ _ _ _ HS0.out.row Try.underlying74 rfl timeSize ?_)
    refine (HYC.out f _ (H.abs.keeps P.inv HS0.out.bel) hfl.1).mono ?_
    rintro e wy ⟨rfl, hby⟩
    have HS1 := Lib.hid (HS0.out.below H hby)
    have HA1 := Lib.hid (at_first S f)
    have hyJ : yearL f ≤ lim + 1 := by have := P.lim0; omega
    have hok1 := hfl.1
    go_wp2_with fail
    go_step3
    rw [HW5.out]
    go_wp2_with (refine wpList_load_row rfl 74 _ rfl w.heap.size rfl _ _ _ _ HS1.out.row Try.underlying74 rfl timeSize ?_)
    refine (HYC.out f _ (H.abs.keeps P.inv HS1.out.bel) hok1).mono ?_
    rintro e w2 ⟨rfl, hb2⟩
    have HS2 := Lib.hid (HS1.out.below H hb2)
    clear hb2
    by_cases hyl : lim < yearL f
    · have hd1 : decide (lim < yearL f) = true := decide_eq_true hyl
      go_wp2_with (refine wpList_store_row rfl 74 _ _ rfl (w.heap.size + 1) zcells rfl rfl 74 _ HS2.out.res timeSize rfl (by simp [zcells, Value.oneCell']) ?_)
      simp only [Exit.jump]
      refine bodyPost_ret (v := .agg zcells) ?_ rfl ⟨none, least_none HA1.out hyl, rfl, ?_⟩
      · exact results_time rfl _ _ (w.heap.size + 1) _ rfl rfl (setRow_heap _ _ _ _ _ _ HS2.out.res)
      · exact below_setRow HS2.out.bel (by omega) _
    · have hd1 : decide (lim < yearL f) = false := decide_eq_false hyl
      go_wp2_with fail
      refine loop0 H hls P _ f false _ _ ?_ HS2.out HA1.out (by omega) ?_ ?_
      · exact ⟨rfl, rfl, rfl, rfl, rfl, rfl, rfl, rfl, rfl⟩
      rotate_left
      · intro a3 w3 L3 f3 s3 t3 l3 y3
        exact ⟨rfl, ⟨k0, k1, L3, true, f3, s3, t3, y3⟩⟩
      intro a3 w3 L3 ad3 f3 s3 t3 m3 y3 l3
      obtain ⟨u3, rfl⟩ := f3.open
      have HS3 := Lib.hid s3
      have HA3 := Lib.hid t3
      clear f3 s3 t3
      go_wp2_with fail
      refine loop1 H hls P _ L3 ad3 _ _ ?_ HS3.out HA3.out y3 m3 ?_ ?_
      · exact ⟨rfl, rfl, rfl, rfl, rfl, rfl, rfl, rfl, rfl⟩
      rotate_left
      · intro a4 w4 L4 f4 s4 t4 l4 y4
        exact ⟨rfl, ⟨k0, k1, L4, true, f4, s4, t4, y4⟩⟩
      intro a4 w4 L4 ad4 f4 s4 t4 m4 y4 l4
      obtain ⟨u4, rfl⟩ := f4.open
      have HS4 := Lib.hid s4
      have HA4 := Lib.hid t4
      clear f4 s4 t4 HS3 HA3 m3 y3
      go_wp2_with fail
      refine loop2 H hls P _ L4 ad4 _ _ ?_ HS4.out HA4.out y4 m4.1 m4.2 ?_ ?_
      · exact ⟨rfl, rfl, rfl, rfl, rfl, rfl, rfl, rfl, rfl⟩
      rotate_left
      · intro a5 w5 L5 f5 s5 t5 l5 y5
        exact ⟨rfl, ⟨k0, k1, L5, true, f5, s5, t5, y5⟩⟩
      intro a5 w5 L5 ad5 f5 s5 t5 m5 y5 l5
      obtain ⟨u5, rfl⟩ := f5.open
      have HS5 := Lib.hid s5
      have HA5 := Lib.hid t5
      clear f5 s5 t5 HS4 HA4 m4 y4
      go_wp2_with fail
      refine loop3 H hls P _ L5 ad5 _ _ ?_ HS5.out HA5.out y5 P60 m5.1 m5.2.1 m5.2.2 ?_ ?_
      · exact ⟨rfl, rfl, rfl, rfl, rfl, rfl, rfl, rfl, rfl⟩
      rotate_left
      · intro a6 w6 L6 f6 s6 t6 l6 y6
        exact ⟨rfl, ⟨k0, k1, L6, true, f6, s6, t6, y6⟩⟩
      intro a6 w6 L6 ad6 f6 s6 t6 m6 y6 l6
      obtain ⟨u6, rfl⟩ := f6.open
      have HS6 := Lib.hid s6
      have HA6 := Lib.hid t6
      clear f6 s6 t6 HS5 HA5 m5 y5
      go_wp2_with fail
      refine loop4 H hls P _ L6 ad6 _ _ ?_ HS6.out HA6.out y6 P60 m6.1 m6.2.1 m6.2.2.1 m6.2.2.2 ?_ ?_
      · exact ⟨rfl, rfl, rfl, rfl, rfl, rfl, rfl, rfl, rfl⟩
      rotate_left
      · intro a7 w7 L7 f7 s7 t7 l7 y7
        exact ⟨rfl, ⟨k0, k1, L7, true, f7, s7, t7, y7⟩⟩
      intro a7 w7 L7 ad7 f7 s7 t7 m7 y7 l7
      obtain ⟨u7, rfl⟩ := f7.open
      have HS7 := Lib.hid s7
      have HA7 := Lib.hid t7
      clear f7 s7 t7 HS6 HA6 m6 y6
      go_wp2_with (refine wpList_load_row rfl 74 _ rfl w.heap.size rfl _ _ _ _ HS7.out.row Try.underlying74 rfl timeSize ?_)
      refine (HIN.out L7 k0 _ HS7.out.loc0).mono ?_
      rintro e w8 ⟨rfl, hb8⟩
      have HS8 := Lib.hid (HS7.out.below H hb8)
      clear hb8
      go_wp2_with (refine wpList_store_row rfl 74 _ _ rfl (w.heap.size + 1) (tcells l off L7) rfl rfl 74 _ HS8.out.res timeSize rfl (tcells_one _ _ _) ?_)
      simp only [Exit.jump]
      refine bodyPost_ret (v := .agg (tcells l off L7)) ?_ rfl ⟨some L7, least_some HA7.out m7.1 m7.2.1 m7.2.2.1 m7.2.2.2.1 m7.2.2.2.2 y7, rfl, ?_⟩
      · exact results_time rfl _ _ (w.heap.size + 1) _ rfl rfl (setRow_heap _ _ _ _ _ _ HS8.out.res)
      · exact below_setRow HS8.out.bel (by omega) _
  · intro a1 w1 hJ
    obtain ⟨k0, k1, L1, ad1, f1, s1, t1, hyJ⟩ := hJ
    obtain ⟨u1, rfl⟩ := f1.open
    have HSJ := Lib.hid s1
    have HS1 := Lib.hid s1
    have HA1 := Lib.hid t1
    have hok1 := (P.okL t1.ge hyJ).1
    clear f1 s1 t1 HLO HNA HAF
    go_wp2_with (refine wpList_load_row rfl 74 _ rfl w.heap.size rfl _ _ _ _ HS1.out.row Try.underlying74 rfl timeSize ?_)
    refine (HYC.out L1 _ (H.abs.keeps P.inv HS1.out.bel) hok1).mono ?_
    rintro e w2 ⟨rfl, hb2⟩
    have HS2 := Lib.hid (HS1.out.below H hb2)
    clear hb2
    by_cases hyl : lim < yearL L1
    · have hd1 : decide (lim < yearL L1) = true := decide_eq_true hyl
      go_wp2_with (refine wpList_store_row rfl 74 _ _ rfl (w.heap.size + 1) zcells rfl rfl 74 _ HS2.out.res timeSize rfl (by simp [zcells, Value.oneCell']) ?_)
      simp only [Exit.jump]
      refine bodyPost_ret (v := .agg zcells) ?_ rfl ⟨none, least_none HA1.out hyl, rfl, ?_⟩
      · exact results_time rfl _ _ (w.heap.size + 1) _ rfl rfl (setRow_heap _ _ _ _ _ _ HS2.out.res)
      · exact below_setRow HS2.out.bel (by omega) _
    · have hd1 : decide (lim < yearL L1) = false := decide_eq_false hyl
      go_wp2_with fail
      refine loop0 H hls P _ L1 ad1 _ _ ?_ HS2.out HA1.out (by omega) ?_ ?_
      · exact ⟨rfl, rfl, rfl, rfl, rfl, rfl, rfl, rfl, rfl⟩
      rotate_left
      · intro a3 w3 L3 f3 s3 t3 l3 y3
        exact ⟨rfl, ⟨⟨k0, k1, L3, true, f3, s3, t3, y3⟩, mu_less HSJ.out s3 hyJ (by omega)⟩⟩
      intro a3 w3 L3 ad3 f3 s3 t3 m3 y3 l3
      obtain ⟨u3, rfl⟩ := f3.open
      have HS3 := Lib.hid s3
      have HA3 := Lib.hid t3
      clear f3 s3 t3
      go_wp2_with fail
      refine loop1 H hls P _ L3 ad3 _ _ ?_ HS3.out HA3.out y3 m3 ?_ ?_
      · exact ⟨rfl, rfl, rfl, rfl, rfl, rfl, rfl, rfl, rfl⟩
      rotate_left
      · intro a4 w4 L4 f4 s4 t4 l4 y4
        exact ⟨rfl, ⟨⟨k0, k1, L4, true, f4, s4, t4, y4⟩, mu_less HSJ.out s4 hyJ (by omega)⟩⟩
      intro a4 w4 L4 ad4 f4 s4 t4 m4 y4 l4
      obtain ⟨u4, rfl⟩ := f4.open
      have HS4 := Lib.hid s4
      have HA4 := Lib.hid t4
      clear f4 s4 t4 HS3 HA3 m3 y3
      go_wp2_with fail
      refine loop2 H hls P _ L4 ad4 _ _ ?_ HS4.out HA4.out y4 m4.1 m4.2 ?_ ?_
      · exact ⟨rfl, rfl, rfl, rfl, rfl, rfl, rfl, rfl, rfl⟩
      rotate_left
      · intro a5 w5 L5 f5 s5 t5 l5 y5
        exact ⟨rfl, ⟨⟨k0, k1, L5, true, f5, s5, t5, y5⟩, mu_less HSJ.out s5 hyJ (by omega)⟩⟩
      intro a5 w5 L5 ad5 f5 s5 t5 m5 y5 l5
      obtain ⟨u5, rfl⟩ := f5.open
      have HS5 := Lib.hid s5
      have HA5 := Lib.hid t5
      clear f5 s5 t5 HS4 HA4 m4 y4
      go_wp2_with fail
      refine loop3 H hls P _ L5 ad5 _ _ ?_ HS5.out HA5.out y5 P60 m5.1 m5.2.1 m5.2.2 ?_ ?_
      · exact ⟨rfl, rfl, rfl, rfl, rfl, rfl, rfl, rfl, rfl⟩
      rotate_left
      · intro a6 w6 L6 f6 s6 t6 l6 y6
        exact ⟨rfl, ⟨⟨k0, k1, L6, true, f6, s6, t6, y6⟩, mu_less HSJ.out s6 hyJ (by omega)⟩⟩
      intro a6 w6 L6 ad6 f6 s6 t6 m6 y6 l6
      obtain ⟨u6, rfl⟩ := f6.open
      have HS6 := Lib.hid s6
      have HA6 := Lib.hid t6
      clear f6 s6 t6 HS5 HA5 m5 y5
      go_wp2_with fail
      refine loop4 H hls P _ L6 ad6 _ _ ?_ HS6.out HA6.out y6 P60 m6.1 m6.2.1 m6.2.2.1 m6.2.2.2 ?_ ?_
      · exact ⟨rfl, rfl, rfl, rfl, rfl, rfl, rfl, rfl, rfl⟩
      rotate_left
      · intro a7 w7 L7 f7 s7 t7 l7 y7
        exact ⟨rfl, ⟨⟨k0, k1, L7, true, f7, s7, t7, y7⟩, mu_less HSJ.out s7 hyJ (by omega)⟩⟩
      intro a7 w7 L7 ad7 f7 s7 t7 m7 y7 l7
      obtain ⟨u7, rfl⟩ := f7.open
      have HS7 := Lib.hid s7
      have HA7 := Lib.hid t7
      clear f7 s7 t7 HS6 HA6 m6 y6
      go_wp2_with (refine wpList_load_row rfl 74 _ rfl w.heap.size rfl _ _ _ _ HS7.out.row Try.underlying74 rfl timeSize ?_)
      refine (HIN.out L7 k0 _ HS7.out.loc0).mono ?_
      rintro e w8 ⟨rfl, hb8⟩
      have HS8 := Lib.hid (HS7.out.below H hb8)
      clear hb8
      go_wp2_with (refine wpList_store_row rfl 74 _ _ rfl (w.heap.size + 1) (tcells l off L7) rfl rfl 74 _ HS8.out.res timeSize rfl (tcells_one _ _ _) ?_)
      simp only [Exit.jump]
      refine bodyPost_ret (v := .agg (tcells l off L7)) ?_ rfl ⟨some L7, least_some HA7.out m7.1 m7.2.1 m7.2.2.1 m7.2.2.2.1 m7.2.2.2.2 y7, rfl, ?_⟩
      · exact results_time rfl _ _ (w.heap.size + 1) _ rfl rfl (setRow_heap _ _ _ _ _ _ HS8.out.res)
      · exact below_setRow HS8.out.bel (by omega) _
end Go.Proofs.Ytbgbeohiafiacaa.Cal
