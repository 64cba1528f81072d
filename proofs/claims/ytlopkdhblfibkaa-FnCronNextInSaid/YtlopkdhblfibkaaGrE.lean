/- Lemmas and walks on the way to the law, merged by wip/tools/pack.py: ZNextL4, ZNext, ImplA, SetsN, StoreAt, SpecF. Conditions: none. -/
import Derived.Test.YtlopkdhblfibkaaGrD
import Derived.Laws.Rows
import Derived.Laws.Tables
import Derived.Laws.ResultCell
import Derived.Laws.CopyOwn
import Derived.ChangeKeysEq
import Derived.Test.YtlopkdhblfibkaaGrA
import Derived.WalkLawsBesides
import Derived.Test.YtlopkdhblfibkaaPrA
namespace Go.Proofs.Ytlopkdhblfibkaa.Cal
open Go Go.RowKit Go.Proofs.YtlopkdhblfibkaaW.PrintWords Go.Proofs.YtlopkdhblfibkaaW.PrintLast
set_option linter.unusedVariables false
set_option linter.unusedSimpArgs false
set_option maxRecDepth 100000 in
set_option maxHeartbeats 8000000 in
theorem zloop4 {l : Option Addr} {off : Int → Int} {Inv : World → Prop} {Loc0 Loc : World → Nat → Prop} (H : ClockZ l off Inv Loc) (hK0 : LocK Loc0) (hl0 : LocS Loc0) (hls : LocS Loc) {w : World} {g T k0 k1 : Nat} {loc : Option Addr} {S : Sets} {f lim : Int} (P : ParZ off Inv w g loc S f lim) (Q : Exit → Act → World → Prop) (L : Int) (ad : Bool) (a : Act) (wr : World) (ha : Fr g T k0 k1 ad lim a) (hst : StZ l Loc0 Loc w T k0 k1 wr L) (hat : AtZ off S f ad L) (hy : yearL (zt off L) ≤ lim) (hm : monthB S (zt off L) = true) (hd : dayB S (zt off L) = true) (hh : hourB S (zt off L) = true) (hi : minB S (zt off L) = true)
  (next : ∀ (a' : Act) (w' : World) (L' : Int) (ad' : Bool), Fr g T k0 k1 ad' lim a' → StZ l Loc0 Loc w T k0 k1 w' L' → AtZ off S f ad' L' → monthB S (zt off L') = true ∧ dayB S (zt off L') = true ∧ hourB S (zt off L') = true ∧ minB S (zt off L') = true ∧ secB S (zt off L') = true → yearL (zt off L') ≤ lim → L ≤ L' → Q .normal a' w')
  (jump : ∀ (a' : Act) (w' : World) (L' : Int), Fr g T k0 k1 true lim a' → StZ l Loc0 Loc w T k0 k1 w' L' → AtZ off S f true L' → L < L' → yearL (zt off L') ≤ lim + 1 → Q (.goto 0) a' w') :
  (loopK (Try.f69.body.getD .skip) 4).wp Try.prog (Exit.inBlock 8 Q) a wr := by
 obtain ⟨u, rfl⟩ := ha.open
 have HNEXT := Lib.hid next
 have HJUMP := Lib.hid jump
 have HST := Lib.hid hst
 have HAT := Lib.hid hat
 have hfL := hat.ge
 clear next jump hst hat ha
 simp only [loopK, loops, Try.f69, Option.getD_some, List.append_assoc, List.cons_append, List.nil_append, List.getElem?_cons_zero, List.getElem?_cons_succ]
 go_loopw [7] (fun v7 wr => ∃ (ad : Bool) (L' : Int), v7 = .bool ad ∧ Hid (StZ l Loc0 Loc w T k0 k1 wr L') ∧ Hid (AtZ off S f ad L') ∧ monthB S (zt off L') = true ∧ dayB S (zt off L') = true ∧ hourB S (zt off L') = true ∧ minB S (zt off L') = true ∧ yearL (zt off L') ≤ lim ∧ L ≤ L') (fun _ wr => muZ T (bndZ lim) wr)
 case atStart => exact ⟨ad, L, rfl, HST, HAT, hm, hd, hh, hi, hy, Int.le_refl _⟩
 case round =>
  clear hm hd hh hi
  obtain ⟨ad, L1, rfl, HS, HA, hm, hd, hh, hi, hy1, hle⟩ := hrel
  clear HST HAT hy
  have hge : f - 3600 ≤ L1 := by have := HA.out.ge; omega
  obtain ⟨hok, hyk, -⟩ := P.ok2 (u := L1) (by omega) (by omega)
  obtain ⟨wo, hwo⟩ : ∃ wo, wo = wr := ⟨_, rfl⟩
  subst hwo
  have hspec : SpecRow wo g S loc := P.spec.below HS.out.bel
  have HI := Lib.hid (H.abs.keeps P.inv HS.out.bel)
  have HC : Hid (∀ (w' : World), Inv w' → Calls Try.prog 79 #[.agg (ucells l L1)] w' fun e' w2 => e' = .returned (.int .i64 (secL (zt off L1))) ∧ Below w'.heap.size w' w2) := Lib.hid (fun w' hI' => zSecond H L1 w' hok hI')
  have hm12 : 0 ≤ secL (zt off L1) ∧ secL (zt off L1) < 60 := by unfold secL; omega
  have hst := HS.out
  go_upto_region 40 with fail
  refine wp_only ?_
  refine start_ (n := 10) (S := fun w' => w'.heap[T]? = some (.cells (ucells l L1) 59 (0, 0)) ∧ SpecRow w' g S loc ∧ Below wo.heap.size wo w') (ds := []) #[false, false, false, false, false, false, false, false, false, false] (by kernel_rfl) rfl rfl ⟨hst.row, hspec, (Below.refl _ _).drew⟩ (fun hHeld => ?_)
  refine pure_ (i := 4) (N := some 154) (v := ?_) (a' := ?_) #[false, false, false, false, true, false, false, false, false, false] rfl rfl (by kernel_rfl) (fun _ _ _ h => h) (Or.inl ⟨by rfl, ?_⟩) ?_ ?_
  rotate_left
  ·intro w'
   go_simp
   with_reducible rfl
  rotate_left
  ·simp only [Act.put, List.setIfInBounds_toArray, List.set_cons_zero, List.set_cons_succ, i64_w, i32_w]
   rfl
  refine pure_ (i := 5) (N := some 155) (v := ?_) (a' := ?_) #[false, false, false, false, true, true, false, false, false, false] rfl rfl (by kernel_rfl) (fun _ _ _ h => h) (Or.inl ⟨by rfl, ?_⟩) ?_ ?_
  rotate_left
  ·intro w'
   go_simp
   with_reducible rfl
  rotate_left
  ·simp only [Act.put, List.setIfInBounds_toArray, List.set_cons_zero, List.set_cons_succ, i64_w, i32_w]
   rfl
  refine pure_ (i := 6) (N := some 156) (v := ?_) (a' := ?_) #[false, false, false, false, true, true, true, false, false, false] rfl rfl (by kernel_rfl) (fun _ _ _ h => h) (Or.inl ⟨by rfl, ?_⟩) ?_ ?_
  rotate_left
  ·intro w'
   go_simp
   with_reducible rfl
  rotate_left
  ·simp only [Act.put, List.setIfInBounds_toArray, List.set_cons_zero, List.set_cons_succ, i64_w, i32_w]
   rfl
  refine take_ (i := 0) (N := some 150) (v := ?_) (a' := ?_) #[true, false, false, false, true, true, true, false, false, false] rfl rfl (by kernel_rfl) (fun _ _ _ h => h) (Or.inl ⟨by rfl, ?_⟩) hHeld ?_ ?_
  rotate_left
  ·rintro w' ⟨s0, s1, s2⟩
   refine exec_load_row _ _ w' 59 (.tmp 3) ?_ T ?_ _ _ _ _ s0 Try.underlying59 rfl timeSize
   ·rfl
   ·rfl
  rotate_left
  ·simp only [Act.put, List.setIfInBounds_toArray, List.set_cons_zero, List.set_cons_succ, i64_w, i32_w]
   rfl
  refine take_ (i := 7) (N := some 157) (v := ?_) (a' := ?_) #[true, false, false, false, true, true, true, true, false, false] rfl rfl (by kernel_rfl) (fun _ _ _ h => h) (Or.inl ⟨by rfl, ?_⟩) hHeld ?_ ?_
  rotate_left
  ·rintro w' ⟨s0, s1, s2⟩
   have c3 : w'.cell? ⟨g, 0, none⟩ = some (.int .u64 (S.sec : Int)) := cell_of_row _ _ _ _ _ _ s1
   go_simp
   with_reducible rfl
  rotate_left
  ·simp only [Act.put, List.setIfInBounds_toArray, List.set_cons_zero, List.set_cons_succ, i64_w, i32_w]
   rfl
  refine one_ (i := 1) (N := some 151) #[true, true, false, false, true, true, true, true, false, false] rfl rfl (by kernel_rfl) (by decide) (fun K hK => ?_)
  refine goes_ Try.func79 (by kernel_rfl) rfl #[.agg (ucells l L1)] (by rfl) rfl rfl (by simp only [List.map_toArray, List.map_cons, List.map_nil]; rfl) ?_
  with_reducible refine (HC.out _ (H.abs.keeps HI.out hHeld.2.2)).mono ?_
  rintro e3 w3 ⟨rfl, hb1⟩
  refine ⟨_, rfl, ?_⟩
  refine hK.out _ _ ⟨(hb1.block _ (Array.getElem?_eq_some_iff.1 hHeld.1).1).trans hHeld.1, hHeld.2.1.below hb1, below_le hHeld.2.2 hb1⟩ (fun hHeld => ?_)
  clear hK K
  refine norm_ (a' := ?_) ?_ ?_
  rotate_left
  ·show Act.put _ (some 151) _ = _
   simp only [Act.put, List.setIfInBounds_toArray, List.set_cons_zero, List.set_cons_succ, i64_w, i32_w]
   rfl
  refine pure_ (i := 2) (N := some 152) (v := ?_) (a' := ?_) #[true, true, true, false, true, true, true, true, false, false] rfl rfl (by kernel_rfl) (fun _ _ _ h => h) (Or.inl ⟨by rfl, ?_⟩) ?_ ?_
  rotate_left
  ·intro w'
   go_simp
   with_reducible rfl
  rotate_left
  ·simp only [Act.put, List.setIfInBounds_toArray, List.set_cons_zero, List.set_cons_succ, i64_w, i32_w]
   rfl
  refine pure_ (i := 3) (N := some 153) (v := ?_) (a' := ?_) #[true, true, true, true, true, true, true, true, false, false] rfl rfl (by kernel_rfl) (fun _ _ _ h => h) (Or.inl ⟨by rfl, ?_⟩) ?_ ?_
  rotate_left
  ·intro w'
   go_simp
   with_reducible rfl
  rotate_left
  ·simp only [Act.put, List.setIfInBounds_toArray, List.set_cons_zero, List.set_cons_succ, i64_w, i32_w]
   rfl
  refine pure_ (i := 8) (N := some 158) (v := ?_) (a' := ?_) #[true, true, true, true, true, true, true, true, true, false] rfl rfl (by kernel_rfl) (fun _ _ _ h => h) (Or.inl ⟨by rfl, ?_⟩) ?_ ?_
  rotate_left
  ·intro w'
   go_simp
   with_reducible rfl
  rotate_left
  ·simp only [Act.put, List.setIfInBounds_toArray, List.set_cons_zero, List.set_cons_succ, i64_w, i32_w]
   rfl
  refine pure_ (i := 9) (N := some 159) (v := ?_) (a' := ?_) #[true, true, true, true, true, true, true, true, true, true] rfl rfl (by kernel_rfl) (fun _ _ _ h => h) (Or.inl ⟨by rfl, ?_⟩) ?_ ?_
  rotate_left
  ·intro w'
   go_simp
   with_reducible rfl
  rotate_left
  ·simp only [Act.put, List.setIfInBounds_toArray, List.set_cons_zero, List.set_cons_succ, i64_w, i32_w]
   rfl
  refine done_ (by kernel_rfl) ?_
  dsimp only [only]
  obtain ⟨-, hspec3, hb3⟩ := hHeld
  have HS3 := Lib.hid (HS.out.below hK0 H.lk hb3)
  have HI3 := Lib.hid (H.abs.keeps P.inv HS3.out.bel)
  rw [bit_eq P.ok.1 (by omega) (by omega)]
  have hmB : inB S.sec (secL (zt off L1)) = secB S (zt off L1) := rfl
  rw [hmB]
  generalize IntKind.u64.wrap (2 ^ min (IntKind.u64.wrap (secL (zt off L1))).toNat 64) = junk
  clear hst hspec hspec3 hmB hb1 hb3
  cases hs : secB S (zt off L1) with
  | true =>
   go_wp2_with fail
   exact HNEXT.out _ _ L1 ad ⟨rfl, rfl, rfl, rfl, rfl, rfl, rfl, rfl, rfl⟩ HS3.out HA.out ⟨hm, hd, hh, hi, hs⟩ hy1 hle
  | false =>
   cases ad with
   | true =>
    obtain ⟨X, hXe⟩ : ∃ X, X = L1 := ⟨_, rfl⟩
    have hX0 : ∃ V, UOk X ∧ X + 1 = V ∧ L1 < V ∧ Hid (AtZ off S f true V ∧ (secL (zt off V) = 0 ∨ monthB S (zt off V) = true ∧ dayB S (zt off V) = true ∧ hourB S (zt off V) = true ∧ minB S (zt off V) = true ∧ yearL (zt off V) = yearL (zt off L1))) ∧ yearL (zt off V) ≤ lim + 1 := by
     rw [hXe]
     have h := atZ_sec P.zn HA.out hm hd hh hi hs
     exact ⟨L1 + 1, hok, rfl, by omega, Lib.hid ⟨h.1, h.2.1⟩, by have := h.2.2; omega⟩
    have HSX := Lib.hid HS3.out
    rw [← hXe] at HSX
    clear hXe
    obtain ⟨V, hokX, hXn, hgt, HAT2, hyr⟩ := hX0
    have HAM : Hid (∀ (w' : World), Calls Try.prog 67 #[.agg (ucells l X), .int .i64 1000000000] w' fun e' w2 => e' = .returned (.agg (ucells l V)) ∧ Below w'.heap.size w' w2) := Lib.hid (fun w' => by have := zAdd (l := l) 1 X w' hokX (by omega) (by omega); rw [show (1000000000 : Int) * 1 = 1000000000 from rfl, hXn] at this; exact this)
    obtain ⟨hok2, -⟩ := P.ok2 (u := V) (by omega) hyr
    have HM2 : Hid (∀ (w' : World), Inv w' → Calls Try.prog 79 #[.agg (ucells l V)] w' fun e' w2 => e' = .returned (.int .i64 (secL (zt off V))) ∧ Below w'.heap.size w' w2) := Lib.hid (fun w' hI' => zSecond H V w' hok2 hI')
    go_wp2_with (refine wpList_load_row rfl 59 _ rfl T rfl _ _ _ _ HSX.out.row Try.underlying59 rfl timeSize ?_)
    refine (HAM.out _).mono ?_
    rintro e w6 ⟨rfl, hb6⟩
    have hst6 := HSX.out.below hK0 H.lk hb6
    go_wp2_with (first | (refine wpList_store_row rfl 59 _ _ rfl T (ucells l (V)) rfl rfl 59 _ hst6.row timeSize rfl (ucells_one _ _) ?_; generalize hX : World.setRow _ _ _ = wz; have HSZ := Lib.hid (show StZ l Loc0 Loc w T k0 k1 wz (V) by rw [← hX]; exact hst6.put hl0 hls _); clear hX) | (refine wpList_load_row rfl 59 _ rfl T rfl _ _ _ _ HSZ.out.row Try.underlying59 rfl timeSize ?_))
    refine (HM2.out _ (H.abs.keeps P.inv HSZ.out.bel)).mono ?_
    rintro e w7 ⟨rfl, hb7⟩
    have HS7 := Lib.hid (HSZ.out.below hK0 H.lk hb7)
    by_cases h1 : secL (zt off V) = 0
    ·have hdd : (secL (zt off V) == 0) = true := by simp [h1]
     go_wp2_with fail
     refine wp_goto ?_
     refine HJUMP.out _ _ V ?_ HS7.out HAT2.out.1 (by omega) hyr
     exact ⟨rfl, rfl, rfl, rfl, rfl, rfl, rfl, rfl, rfl⟩
    ·have hdd : (secL (zt off V) == 0) = false := by simp [h1]
     go_wp2_with fail
     exact ⟨⟨true, V, rfl, HS7, Lib.hid HAT2.out.1, (HAT2.out.2.resolve_left h1).1, (HAT2.out.2.resolve_left h1).2.1, (HAT2.out.2.resolve_left h1).2.2.1, (HAT2.out.2.resolve_left h1).2.2.2.1, by rw [(HAT2.out.2.resolve_left h1).2.2.2.2]; exact hy1, by omega⟩, muZ_less P.zn HS.out HS7.out (by omega) (by omega)⟩
   | false =>
    have HTR : Hid (∀ (w' : World), Calls Try.prog 78 #[.agg (ucells l L1), .int .i64 1000000000] w' fun e' w2 => e' = .returned (.agg (ucells l (L1))) ∧ Below w'.heap.size w' w2) := Lib.hid (fun w' => zTrunc1 L1 w' (by have := P.f0; have := HA.out.ge; omega) hok)
    go_wp2_with (refine wpList_load_row rfl 59 _ rfl T rfl _ _ _ _ HS3.out.row Try.underlying59 rfl timeSize ?_)
    refine (HTR.out _).mono ?_
    rintro e w5 ⟨rfl, hb5⟩
    have hst5 := HS3.out.below hK0 H.lk hb5
    obtain ⟨X, hXe⟩ : ∃ X, X = L1 := ⟨_, rfl⟩
    have hX0 : ∃ V, UOk X ∧ X + 1 = V ∧ L1 < V ∧ Hid (AtZ off S f true V ∧ (secL (zt off V) = 0 ∨ monthB S (zt off V) = true ∧ dayB S (zt off V) = true ∧ hourB S (zt off V) = true ∧ minB S (zt off V) = true ∧ yearL (zt off V) = yearL (zt off L1))) ∧ yearL (zt off V) ≤ lim + 1 := by
     rw [hXe]
     have h := atZ_sec P.zn HA.out hm hd hh hi hs
     exact ⟨L1 + 1, hok, rfl, by omega, Lib.hid ⟨h.1, h.2.1⟩, by have := h.2.2; omega⟩
    have hXe2 := Lib.hid hXe
    have HSX0 : Hid (StZ l Loc0 Loc w T k0 k1 (w5.setRow T (ucells l L1)) X) := Lib.hid (by rw [hXe]; exact hst5.put hl0 hls L1)
    have HROW5 := Lib.hid hst5.row
    clear hst5 hb5 HS3 hXe
    obtain ⟨V, hokX, hXn, hgt, HAT2, hyr⟩ := hX0
    have HAM : Hid (∀ (w' : World), Calls Try.prog 67 #[.agg (ucells l X), .int .i64 1000000000] w' fun e' w2 => e' = .returned (.agg (ucells l V)) ∧ Below w'.heap.size w' w2) := Lib.hid (fun w' => by have := zAdd (l := l) 1 X w' hokX (by omega) (by omega); rw [show (1000000000 : Int) * 1 = 1000000000 from rfl, hXn] at this; exact this)
    obtain ⟨hok2, -⟩ := P.ok2 (u := V) (by omega) hyr
    have HM2 : Hid (∀ (w' : World), Inv w' → Calls Try.prog 79 #[.agg (ucells l V)] w' fun e' w2 => e' = .returned (.int .i64 (secL (zt off V))) ∧ Below w'.heap.size w' w2) := Lib.hid (fun w' hI' => zSecond H V w' hok2 hI')
    go_wp2_with (first | (refine wpList_store_row rfl 59 _ _ rfl T (ucells l L1) rfl rfl 59 _ HROW5.out timeSize rfl (ucells_one _ _) ?_; generalize hX5 : World.setRow _ _ _ = wx; have HSX := Lib.hid (show StZ l Loc0 Loc w T k0 k1 wx X by rw [← hX5]; exact HSX0.out); clear hX5) | (refine wpList_load_row rfl 59 _ rfl T rfl _ _ _ _ HSX.out.row Try.underlying59 rfl timeSize ?_))
    refine (HAM.out _).mono ?_
    rintro e w6 ⟨rfl, hb6⟩
    have hst6 := HSX.out.below hK0 H.lk hb6
    go_wp2_with (first | (refine wpList_store_row rfl 59 _ _ rfl T (ucells l (V)) rfl rfl 59 _ hst6.row timeSize rfl (ucells_one _ _) ?_; generalize hX : World.setRow _ _ _ = wz; have HSZ := Lib.hid (show StZ l Loc0 Loc w T k0 k1 wz (V) by rw [← hX]; exact hst6.put hl0 hls _); clear hX) | (refine wpList_load_row rfl 59 _ rfl T rfl _ _ _ _ HSZ.out.row Try.underlying59 rfl timeSize ?_))
    refine (HM2.out _ (H.abs.keeps P.inv HSZ.out.bel)).mono ?_
    rintro e w7 ⟨rfl, hb7⟩
    have HS7 := Lib.hid (HSZ.out.below hK0 H.lk hb7)
    by_cases h1 : secL (zt off V) = 0
    ·have hdd : (secL (zt off V) == 0) = true := by simp [h1]
     go_wp2_with fail
     refine wp_goto ?_
     refine HJUMP.out _ _ V ?_ HS7.out HAT2.out.1 (by omega) hyr
     exact ⟨rfl, rfl, rfl, rfl, rfl, rfl, rfl, rfl, rfl⟩
    ·have hdd : (secL (zt off V) == 0) = false := by simp [h1]
     go_wp2_with fail
     exact ⟨⟨true, V, rfl, HS7, Lib.hid HAT2.out.1, (HAT2.out.2.resolve_left h1).1, (HAT2.out.2.resolve_left h1).2.1, (HAT2.out.2.resolve_left h1).2.2.1, (HAT2.out.2.resolve_left h1).2.2.2.1, by rw [(HAT2.out.2.resolve_left h1).2.2.2.2]; exact hy1, by omega⟩, muZ_less P.zn HS.out HS7.out (by omega) (by omega)⟩
end Go.Proofs.Ytlopkdhblfibkaa.Cal
namespace Go.Proofs.Ytlopkdhblfibkaa.Cal
open Go Go.RowKit Go.Proofs.YtlopkdhblfibkaaW.PrintWords Go.Proofs.YtlopkdhblfibkaaW.PrintLast
set_option linter.unusedVariables false
set_option linter.unusedSimpArgs false
def ansZ (l : Option Addr) : Option Int → Value
 | none => .agg zcells
 | some u => .agg (ucells l u)
set_option maxRecDepth 100000 in
set_option maxHeartbeats 8000000 in
theorem next_z {l l0 : Option Addr} {off off0 : Int → Int} {Inv Inv0 : World → Prop} {Loc Loc0 : World → Nat → Prop} (H : ClockZ l off Inv Loc) (hls : LocS Loc) (H0 : ClockZ l0 off0 Inv0 Loc0) (hl0 : LocS Loc0) {w : World} {g k1 : Nat} (hI0 : Inv0 w) (hk1w : Loc w k1) {S : Sets} {f lim : Int} (P : ParZ off Inv w g (some ⟨k1, 0, none⟩) S f lim)
  (n e0 : Int) (h0 : 0 ≤ n) (h1 : n < 1000000000) (he0 : 0 ≤ e0) (he1 : e0 ≤ 320000000000) (hf : f = e0 + 1 - 62135596800) (hlim : lim = yearL (zt off f) + 5) :
  Calls Try.prog 69 #[.pointer (some ⟨g, 0, none⟩), .agg #[.int .u64 n, .int .i64 e0, .pointer l0]] w fun e' w' => ∃ r : Option Int, LeastZ off S f lim r ∧ e' = .returned (ansZ l0 r) ∧ Below w.heap.size w w' := by
 have hgl : g < w.heap.size := (Array.getElem?_eq_some_iff.1 P.spec).1
 have HK0 : LocK Loc0 := H0.lk
 have HYC : Hid (∀ (u : Int) (w' : World), Inv w' → UOk u → Calls Try.prog 71 #[.agg (ucells l u)] w' fun e' w2 => e' = .returned (.int .i64 (yearL (zt off u))) ∧ Below w'.heap.size w' w2) := Lib.hid (fun u w' hI hok => zYear H u w' hok hI)
 have HIN : Hid (∀ (u : Int) (k : Nat) (w' : World), Loc0 w' k → Calls Try.prog 37 #[.agg (ucells l u), .pointer (some ⟨k, 0, none⟩)] w' fun e' w2 => e' = .returned (.agg (ucells l0 u)) ∧ Below w'.heap.size w' w2) := Lib.hid (fun u k w' hk => H0.inn 0 (u + 62135596800) l k w' (by omega) (by omega) hk)
 have HIA : Hid (∀ (w' : World), Loc w' k1 → Calls Try.prog 37 #[.agg #[.int .u64 n, .int .i64 e0, .pointer l0], .pointer (some ⟨k1, 0, none⟩)] w' fun e' w2 => e' = .returned (.agg #[.int .u64 n, .int .i64 e0, .pointer l]) ∧ Below w'.heap.size w' w2) := Lib.hid (fun w' hk => H.inn n e0 l0 k1 w' h0 (by omega) hk)
 have HLO : Hid (∀ (w' : World), Inv0 w' → Calls Try.prog 70 #[.agg #[.int .u64 n, .int .i64 e0, .pointer l0]] w' fun e' w2 => ∃ k, e' = .returned (.pointer (some ⟨k, 0, none⟩)) ∧ Loc0 w2 k ∧ Below w'.heap.size w' w2) := Lib.hid (fun w' hI => H0.loc n e0 w' hI)
 have HNA : Hid (∀ (w' : World), Calls Try.prog 41 #[.agg #[.int .u64 n, .int .i64 e0, .pointer l]] w' fun e' w2 => e' = .returned (.int .i64 n) ∧ Below w'.heap.size w' w2) := Lib.hid (fun w' => tNano_any n e0 l w' h0 (by omega))
 have HAF : Hid (∀ (w' : World), Calls Try.prog 67 #[.agg #[.int .u64 n, .int .i64 e0, .pointer l], .int .i64 (wrap64 (1000000000 - wrap64 n))] w' fun e' w2 => e' = .returned (.agg (ucells l f)) ∧ Below w'.heap.size w' w2) := Lib.hid (fun w' => by
  have := addFirst_any n e0 l h0 h1 (by omega) (by omega) w'
  rw [show wrap64 (1000000000 - wrap64 n) = 1000000000 - n by unfold wrap64; omega]
  rw [show e0 + 1 = f + 62135596800 by omega] at this
  exact this)
 have hfl := P.ok2 (u := f) (by omega) (by have := P.lim0; omega)
 have hsp := P.spec
 have hw5 : wrap64 (yearL (zt off f) + 5) = lim := by
  have := P.lim1
  have := (hfl.2.1).1
  unfold wrap64
  omega
 have HW5 := Lib.hid hw5
 clear hf hlim hw5
 go_enter Try.func69, Try.ntmps69
 go_wp2_with fail
 refine wp_scope_jumps 0 (fun a' w' => ∃ k0 k1 L ad, Fr g w.heap.size k0 k1 ad lim a' ∧ StZ l Loc0 Loc w w.heap.size k0 k1 w' L ∧ AtZ off S f ad L ∧ yearL (zt off L) ≤ lim + 1) (fun _ w' => muZ w.heap.size (bndZ lim) w') rfl ?_ ?_
 ·generalize hWa : World.alloc (World.alloc w _) _ = wa
  have hrowA : wa.heap[w.heap.size]? = some (.cells #[.int .u64 n, .int .i64 e0, .pointer l0] 59 (0, 0)) := by rw [← hWa]; exact (((Below.refl _ _).alloc (Nat.le_refl _) _).block w.heap.size (by simp)).trans (heap_alloc_new w _)
  have hresA : wa.heap[w.heap.size + 1]? = some (.cells zcells 59 (0, 0)) := by rw [← hWa]; exact heap_two w _ _
  have hbelA : Below w.heap.size w wa := by rw [← hWa]; exact ((Below.refl _ _).alloc (Nat.le_refl _) _).alloc (by simp) _
  clear hWa
  go_wp2_with (refine wpList_load_row rfl 59 _ rfl w.heap.size rfl _ _ _ _ hrowA Try.underlying59 rfl timeSize ?_)
  refine (HLO.out _ (H0.abs.keeps hI0 hbelA)).mono ?_
  rintro e wb ⟨k0, rfl, hk0, hbb⟩
  have HROWB := Lib.hid ((hbb.block _ (Array.getElem?_eq_some_iff.1 hrowA).1).trans hrowA)
  have HRESB := Lib.hid ((hbb.block _ (Array.getElem?_eq_some_iff.1 hresA).1).trans hresA)
  have HBELB := Lib.hid (below_le hbelA hbb)
  have c6 : wb.cell? ⟨g, 6, none⟩ = some (.pointer (some ⟨k1, 0, none⟩)) := cell_of_row _ _ _ _ _ _ (hsp.below HBELB.out)
  have HK1B := Lib.hid (H.locK hk1w HBELB.out)
  clear hrowA hresA hbelA hbb
  have hspB : SpecRow wb g S (some ⟨k1, 0, none⟩) := hsp.below HBELB.out
  have hrowB := HROWB.out
  go_upto_region 6 with fail
  refine wp_only ?_
  refine start_ (n := 7) (S := fun w' => w'.heap[w.heap.size]? = some (.cells #[.int .u64 n, .int .i64 e0, .pointer l0] 59 (0, 0)) ∧ SpecRow w' g S (some ⟨k1, 0, none⟩) ∧ Below wb.heap.size wb w') (ds := [6]) #[false, false, false, false, false, false, false] (by kernel_rfl) rfl rfl ⟨hrowB, hspB, (Below.refl _ _).drew⟩ (fun hHeld => ?_)
  refine pure_ (i := 1) (N := some 25) (v := ?_) (a' := ?_) #[false, true, false, false, false, false, false] rfl rfl (by kernel_rfl) (fun _ _ _ h => h) (Or.inl ⟨by rfl, ?_⟩) ?_ ?_
  rotate_left
  ·intro w'
   go_simp
   with_reducible rfl
  rotate_left
  ·simp only [Act.put, List.setIfInBounds_toArray, List.set_cons_zero, List.set_cons_succ, i64_w, i32_w]
   rfl
  refine pure_ (i := 2) (N := some 26) (v := ?_) (a' := ?_) #[false, true, true, false, false, false, false] rfl rfl (by kernel_rfl) (fun _ _ _ h => h) (Or.inl ⟨by rfl, ?_⟩) ?_ ?_
  rotate_left
  ·intro w'
   go_simp
   with_reducible rfl
  rotate_left
  ·simp only [Act.put, List.setIfInBounds_toArray, List.set_cons_zero, List.set_cons_succ, i64_w, i32_w]
   rfl
  refine pure_ (i := 3) (N := some 27) (v := ?_) (a' := ?_) #[false, true, true, true, false, false, false] rfl rfl (by kernel_rfl) (fun _ _ _ h => h) (Or.inl ⟨by rfl, ?_⟩) ?_ ?_
  rotate_left
  ·intro w'
   go_simp
   with_reducible rfl
  rotate_left
  ·simp only [Act.put, List.setIfInBounds_toArray, List.set_cons_zero, List.set_cons_succ, i64_w, i32_w]
   rfl
  refine take_ (i := 0) (N := some 24) (v := ?_) (a' := ?_) #[true, true, true, true, false, false, false] rfl rfl (by kernel_rfl) (fun _ _ _ h => h) (Or.inl ⟨by rfl, ?_⟩) hHeld ?_ ?_
  rotate_left
  ·rintro w' ⟨s0, s1, s2⟩
   refine exec_load_row _ _ w' 59 (.tmp 3) ?_ w.heap.size ?_ _ _ _ _ s0 Try.underlying59 rfl timeSize
   ·rfl
   ·rfl
  rotate_left
  ·simp only [Act.put, List.setIfInBounds_toArray, List.set_cons_zero, List.set_cons_succ, i64_w, i32_w]
   rfl
  refine take_ (i := 4) (N := some 28) (v := ?_) (a' := ?_) #[true, true, true, true, true, false, false] rfl rfl (by kernel_rfl) (fun _ _ _ h => h) (Or.inl ⟨by rfl, ?_⟩) hHeld ?_ ?_
  rotate_left
  ·rintro w' ⟨s0, s1, s2⟩
   have c6 : w'.cell? ⟨g, 6, none⟩ = some (.pointer (some ⟨k1, 0, none⟩)) := cell_of_row _ _ _ _ _ _ s1
   go_simp
   with_reducible rfl
  rotate_left
  ·simp only [Act.put, List.setIfInBounds_toArray, List.set_cons_zero, List.set_cons_succ, i64_w, i32_w]
   rfl
  refine one_ (i := 5) (N := some 29) #[true, true, true, true, true, true, false] rfl rfl (by kernel_rfl) (by decide) (fun K hK => ?_)
  refine goes_ Try.func37 (by kernel_rfl) rfl #[.agg #[.int .u64 n, .int .i64 e0, .pointer l0], .pointer (some ⟨k1, 0, none⟩)] (by rfl) rfl rfl (by simp only [List.map_toArray, List.map_cons, List.map_nil]; rfl) ?_
  with_reducible refine (HIA.out _ (H.locK HK1B.out hHeld.2.2)).mono ?_
  rintro e5 wc ⟨rfl, hb5⟩
  refine ⟨_, rfl, ?_⟩
  refine hK.out _ _ ⟨(hb5.block _ (Array.getElem?_eq_some_iff.1 hHeld.1).1).trans hHeld.1, hHeld.2.1.below hb5, below_le hHeld.2.2 hb5⟩ (fun hHeld => ?_)
  clear hK K
  refine norm_ (a' := ?_) ?_ ?_
  rotate_left
  ·show Act.put _ (some 29) _ = _
   simp only [Act.put, List.setIfInBounds_toArray, List.set_cons_zero, List.set_cons_succ, i64_w, i32_w]
   rfl
  refine last_ (i := 6) (N := none) #[true, true, true, true, true, true, true] rfl rfl (by kernel_rfl) (by decide) (fun K hK => ?_)
  rw [if_pos (by rfl)]
  refine wp_store_row 59 _ _ rfl w.heap.size #[.int .u64 n, .int .i64 e0, .pointer l] rfl rfl 59 _ hHeld.1 timeSize rfl (by simp [Value.oneCell']) ?_
  refine hK.out _ _ ?_
  clear hK K
  refine done_ (by kernel_rfl) ?_
  dsimp only [only]
  simp only [Act.put, List.getElem_toArray, List.getElem_cons_succ, List.getElem_cons_zero]
  obtain ⟨hRC, -, hBC⟩ := hHeld
  have hRE := (hBC.block _ (Array.getElem?_eq_some_iff.1 HRESB.out).1).trans HRESB.out
  have hbc := below_le HBELB.out hBC
  have hk0c := H0.locK hk0 hBC
  have hk1c := H.locK HK1B.out hBC
  generalize hWd : World.setRow _ w.heap.size _ = wd
  have hrowC : wd.heap[w.heap.size]? = some (.cells #[.int .u64 n, .int .i64 e0, .pointer l] 59 (0, 0)) := by rw [← hWd]; exact setRow_heap _ _ _ _ _ _ hRC
  have hresC : wd.heap[w.heap.size + 1]? = some (.cells zcells 59 (0, 0)) := by rw [← hWd]; exact (setRow_other _ _ _ _ (by omega)).trans hRE
  have hbelC : Below w.heap.size w wd := by rw [← hWd]; exact below_setRow hbc (Nat.le_refl _) _
  have hk0C : Loc0 wd k0 := by rw [← hWd]; exact hl0 _ _ k0 w.heap.size _ _ _ hk0c hRC (fun b hb => setRow_other _ _ _ _ hb) (by simp)
  have hk1 : Loc wd k1 := by rw [← hWd]; exact hls _ _ k1 w.heap.size _ _ _ hk1c hRC (fun b hb => setRow_other _ _ _ _ hb) (by simp)
  clear hspB hrowB hWd hRC hRE hbc hBC hk0c hk1c HK1B hk0 c6 HROWB HRESB HBELB hb5
  go_upto_region 7 with fail
  refine wp_only ?_
  refine start_ (n := 7) (S := fun w' => w'.heap[w.heap.size]? = some (.cells #[.int .u64 n, .int .i64 e0, .pointer l] 59 (0, 0)) ∧ Below wd.heap.size wd w') (ds := [6]) #[false, false, false, false, false, false, false] (by kernel_rfl) rfl rfl ⟨hrowC, (Below.refl _ _).drew⟩ (fun hHeld => ?_)
  refine take_ (i := 0) (N := some 30) (v := ?_) (a' := ?_) #[true, false, false, false, false, false, false] rfl rfl (by kernel_rfl) (fun _ _ _ h => h) (Or.inl ⟨by rfl, ?_⟩) hHeld ?_ ?_
  rotate_left
  ·rintro w' ⟨s0, s1⟩
   refine exec_load_row _ _ w' 59 (.tmp 3) ?_ w.heap.size ?_ _ _ _ _ s0 Try.underlying59 rfl timeSize
   ·rfl
   ·rfl
  rotate_left
  ·simp only [Act.put, List.setIfInBounds_toArray, List.set_cons_zero, List.set_cons_succ, i64_w, i32_w]
   rfl
  refine take_ (i := 1) (N := some 31) (v := ?_) (a' := ?_) #[true, true, false, false, false, false, false] rfl rfl (by kernel_rfl) (fun _ _ _ h => h) (Or.inl ⟨by rfl, ?_⟩) hHeld ?_ ?_
  rotate_left
  ·rintro w' ⟨s0, s1⟩
   refine exec_load_row _ _ w' 59 (.tmp 3) ?_ w.heap.size ?_ _ _ _ _ s0 Try.underlying59 rfl timeSize
   ·rfl
   ·rfl
  rotate_left
  ·simp only [Act.put, List.setIfInBounds_toArray, List.set_cons_zero, List.set_cons_succ, i64_w, i32_w]
   rfl
  refine one_ (i := 2) (N := some 32) #[true, true, true, false, false, false, false] rfl rfl (by kernel_rfl) (by decide) (fun K hK => ?_)
  refine goes_ Try.func41 (by kernel_rfl) rfl #[.agg #[.int .u64 n, .int .i64 e0, .pointer l]] (by rfl) rfl rfl (by simp only [List.map_toArray, List.map_cons, List.map_nil]; rfl) ?_
  with_reducible refine (HNA.out _).mono ?_
  rintro e2 w2 ⟨rfl, hb2⟩
  refine ⟨_, rfl, ?_⟩
  refine hK.out _ _ ⟨(hb2.block _ (Array.getElem?_eq_some_iff.1 hHeld.1).1).trans hHeld.1, below_le hHeld.2 hb2⟩ (fun hHeld => ?_)
  clear hK K
  refine norm_ (a' := ?_) ?_ ?_
  rotate_left
  ·show Act.put _ (some 32) _ = _
   simp only [Act.put, List.setIfInBounds_toArray, List.set_cons_zero, List.set_cons_succ, i64_w, i32_w]
   rfl
  refine pure_ (i := 3) (N := some 33) (v := ?_) (a' := ?_) #[true, true, true, true, false, false, false] rfl rfl (by kernel_rfl) (fun _ _ _ h => h) (Or.inl ⟨by rfl, ?_⟩) ?_ ?_
  rotate_left
  ·intro w'
   go_simp
   with_reducible rfl
  rotate_left
  ·simp only [Act.put, List.setIfInBounds_toArray, List.set_cons_zero, List.set_cons_succ, i64_w, i32_w]
   rfl
  refine pure_ (i := 4) (N := some 34) (v := ?_) (a' := ?_) #[true, true, true, true, true, false, false] rfl rfl (by kernel_rfl) (fun _ _ _ h => h) (Or.inl ⟨by rfl, ?_⟩) ?_ ?_
  rotate_left
  ·intro w'
   go_simp
   with_reducible rfl
  rotate_left
  ·simp only [Act.put, List.setIfInBounds_toArray, List.set_cons_zero, List.set_cons_succ, i64_w, i32_w]
   rfl
  refine one_ (i := 5) (N := some 35) #[true, true, true, true, true, true, false] rfl rfl (by kernel_rfl) (by decide) (fun K hK => ?_)
  refine goes_ Try.func67 (by kernel_rfl) rfl #[.agg #[.int .u64 n, .int .i64 e0, .pointer l], .int .i64 (wrap64 (1000000000 - wrap64 n))] (by rfl) rfl rfl (by simp only [List.map_toArray, List.map_cons, List.map_nil]; rfl) ?_
  with_reducible refine (HAF.out _).mono ?_
  rintro e5 w5 ⟨rfl, hb5⟩
  refine ⟨_, rfl, ?_⟩
  refine hK.out _ _ ⟨(hb5.block _ (Array.getElem?_eq_some_iff.1 hHeld.1).1).trans hHeld.1, below_le hHeld.2 hb5⟩ (fun hHeld => ?_)
  clear hK K
  refine norm_ (a' := ?_) ?_ ?_
  rotate_left
  ·show Act.put _ (some 35) _ = _
   simp only [Act.put, List.setIfInBounds_toArray, List.set_cons_zero, List.set_cons_succ, i64_w, i32_w]
   rfl
  refine last_ (i := 6) (N := none) #[true, true, true, true, true, true, true] rfl rfl (by kernel_rfl) (by decide) (fun K hK => ?_)
  rw [if_pos (by rfl)]
  refine wp_store_row 59 _ _ rfl w.heap.size (ucells l f) rfl rfl 59 _ hHeld.1 timeSize rfl (ucells_one _ _) ?_
  refine hK.out _ _ ?_
  clear hK K
  refine done_ (by kernel_rfl) ?_
  dsimp only [only]
  generalize hWx : World.setRow _ w.heap.size _ = wx
  have hstF : StZ l Loc0 Loc w w.heap.size k0 k1 wx f := by
   rw [← hWx]
   exact ⟨setRow_heap _ _ _ _ _ _ hHeld.1, (setRow_other _ _ _ _ (by omega)).trans ((hHeld.2.block _ (Array.getElem?_eq_some_iff.1 hresC).1).trans hresC), below_setRow (below_le hbelC hHeld.2) (Nat.le_refl _) _, Nat.le_refl _,
    hl0 _ _ k0 w.heap.size _ _ _ (H0.locK hk0C hHeld.2) hHeld.1 (fun b hb => setRow_other _ _ _ _ hb) (by simp), hls _ _ k1 w.heap.size _ _ _ (H.locK hk1 hHeld.2) hHeld.1 (fun b hb => setRow_other _ _ _ _ hb) (by simp)⟩
  have HS0 := Lib.hid hstF
  clear hstF hWx hHeld hrowC hresC hbelC hk0C hk1 HNA HAF HLO HIA hb2 hb5
  go_wp2_with (refine wpList_load_row rfl 59 _ rfl w.heap.size rfl _ _ _ _ HS0.out.row Try.underlying59 rfl timeSize ?_)
  refine (HYC.out f _ (H.abs.keeps P.inv HS0.out.bel) hfl.1).mono ?_
  rintro e wy ⟨rfl, hby⟩
  have HS1 := Lib.hid (HS0.out.below HK0 H.lk hby)
  have HA1 := Lib.hid (atZ_first off S f)
  have hyJ : yearL (zt off f) ≤ lim + 1 := by have := P.lim0; omega
  have hok1 := hfl.1
  go_wp2_with fail
  go_step3
  rw [HW5.out]
  go_wp2_with (refine wpList_load_row rfl 59 _ rfl w.heap.size rfl _ _ _ _ HS1.out.row Try.underlying59 rfl timeSize ?_)
  refine (HYC.out f _ (H.abs.keeps P.inv HS1.out.bel) hok1).mono ?_
  rintro e w2 ⟨rfl, hb2⟩
  have HS2 := Lib.hid (HS1.out.below HK0 H.lk hb2)
  clear hb2
  by_cases hyl : lim < yearL (zt off f)
  ·have hd1 : decide (lim < yearL (zt off f)) = true := decide_eq_true hyl
   go_wp2_with (refine wpList_store_row rfl 59 _ _ rfl (w.heap.size + 1) zcells rfl rfl 59 _ HS2.out.res timeSize rfl (by simp [zcells, Value.oneCell']) ?_)
   simp only [Exit.jump]
   refine bodyPost_ret (v := .agg zcells) ?_ rfl ⟨none, leastZ_none P.zn HA1.out hyl, rfl, ?_⟩
   ·exact results_time rfl _ _ (w.heap.size + 1) _ rfl rfl (setRow_heap _ _ _ _ _ _ HS2.out.res)
   ·exact below_setRow HS2.out.bel (by omega) _
  ·have hd1 : decide (lim < yearL (zt off f)) = false := decide_eq_false hyl
   go_wp2_with fail
   refine zloop0 H HK0 hl0 hls P _ f false _ _ ?_ HS2.out HA1.out (by omega) ?_ ?_
   ·exact ⟨rfl, rfl, rfl, rfl, rfl, rfl, rfl, rfl, rfl⟩
   rotate_left
   ·intro a3 w3 L3 f3 s3 t3 l3 y3
    exact ⟨rfl, ⟨k0, k1, L3, true, f3, s3, t3, y3⟩⟩
   intro a3 w3 L3 ad3 f3 s3 t3 m3 y3 l3
   obtain ⟨u3, rfl⟩ := f3.open
   have HS3 := Lib.hid s3
   have HA3 := Lib.hid t3
   clear f3 s3 t3
   go_wp2_with fail
   refine zloop1 H HK0 hl0 hls P _ L3 ad3 _ _ ?_ HS3.out HA3.out y3 m3 ?_ ?_
   ·exact ⟨rfl, rfl, rfl, rfl, rfl, rfl, rfl, rfl, rfl⟩
   rotate_left
   ·intro a4 w4 L4 f4 s4 t4 l4 y4
    exact ⟨rfl, ⟨k0, k1, L4, true, f4, s4, t4, y4⟩⟩
   intro a4 w4 L4 ad4 f4 s4 t4 m4 y4 l4
   obtain ⟨u4, rfl⟩ := f4.open
   have HS4 := Lib.hid s4
   have HA4 := Lib.hid t4
   clear f4 s4 t4 HS3 HA3 m3 y3
   go_wp2_with fail
   refine zloop2 H HK0 hl0 hls P _ L4 ad4 _ _ ?_ HS4.out HA4.out y4 m4.1 m4.2 ?_ ?_
   ·exact ⟨rfl, rfl, rfl, rfl, rfl, rfl, rfl, rfl, rfl⟩
   rotate_left
   ·intro a5 w5 L5 f5 s5 t5 l5 y5
    exact ⟨rfl, ⟨k0, k1, L5, true, f5, s5, t5, y5⟩⟩
   intro a5 w5 L5 ad5 f5 s5 t5 m5 y5 l5
   obtain ⟨u5, rfl⟩ := f5.open
   have HS5 := Lib.hid s5
   have HA5 := Lib.hid t5
   clear f5 s5 t5 HS4 HA4 m4 y4
   go_wp2_with fail
   refine zloop3 H HK0 hl0 hls P _ L5 ad5 _ _ ?_ HS5.out HA5.out y5 m5.1 m5.2.1 m5.2.2 ?_ ?_
   ·exact ⟨rfl, rfl, rfl, rfl, rfl, rfl, rfl, rfl, rfl⟩
   rotate_left
   ·intro a6 w6 L6 f6 s6 t6 l6 y6
    exact ⟨rfl, ⟨k0, k1, L6, true, f6, s6, t6, y6⟩⟩
   intro a6 w6 L6 ad6 f6 s6 t6 m6 y6 l6
   obtain ⟨u6, rfl⟩ := f6.open
   have HS6 := Lib.hid s6
   have HA6 := Lib.hid t6
   clear f6 s6 t6 HS5 HA5 m5 y5
   go_wp2_with fail
   refine zloop4 H HK0 hl0 hls P _ L6 ad6 _ _ ?_ HS6.out HA6.out y6 m6.1 m6.2.1 m6.2.2.1 m6.2.2.2 ?_ ?_
   ·exact ⟨rfl, rfl, rfl, rfl, rfl, rfl, rfl, rfl, rfl⟩
   rotate_left
   ·intro a7 w7 L7 f7 s7 t7 l7 y7
    exact ⟨rfl, ⟨k0, k1, L7, true, f7, s7, t7, y7⟩⟩
   intro a7 w7 L7 ad7 f7 s7 t7 m7 y7 l7
   obtain ⟨u7, rfl⟩ := f7.open
   have HS7 := Lib.hid s7
   have HA7 := Lib.hid t7
   clear f7 s7 t7 HS6 HA6 m6 y6
   go_wp2_with (refine wpList_load_row rfl 59 _ rfl w.heap.size rfl _ _ _ _ HS7.out.row Try.underlying59 rfl timeSize ?_)
   refine (HIN.out L7 k0 _ HS7.out.loc0).mono ?_
   rintro e w8 ⟨rfl, hb8⟩
   have HS8 := Lib.hid (HS7.out.below HK0 H.lk hb8)
   clear hb8
   go_wp2_with (refine wpList_store_row rfl 59 _ _ rfl (w.heap.size + 1) (ucells l0 L7) rfl rfl 59 _ HS8.out.res timeSize rfl (ucells_one _ _) ?_)
   simp only [Exit.jump]
   refine bodyPost_ret (v := .agg (ucells l0 L7)) ?_ rfl ⟨some L7, leastZ_some HA7.out m7.1 m7.2.1 m7.2.2.1 m7.2.2.2.1 m7.2.2.2.2 y7, rfl, ?_⟩
   ·exact results_time rfl _ _ (w.heap.size + 1) _ rfl rfl (setRow_heap _ _ _ _ _ _ HS8.out.res)
   ·exact below_setRow HS8.out.bel (by omega) _
 ·intro a1 w1 hJ
  obtain ⟨k0, k1, L1, ad1, f1, s1, t1, hyJ⟩ := hJ
  obtain ⟨u1, rfl⟩ := f1.open
  have HSJ := Lib.hid s1
  have HS1 := Lib.hid s1
  have HA1 := Lib.hid t1
  have hok1 := (P.ok2 (u := L1) (by have := t1.ge; omega) hyJ).1
  clear f1 s1 t1 HLO HNA HAF HIA
  go_wp2_with (refine wpList_load_row rfl 59 _ rfl w.heap.size rfl _ _ _ _ HS1.out.row Try.underlying59 rfl timeSize ?_)
  refine (HYC.out L1 _ (H.abs.keeps P.inv HS1.out.bel) hok1).mono ?_
  rintro e w2 ⟨rfl, hb2⟩
  have HS2 := Lib.hid (HS1.out.below HK0 H.lk hb2)
  clear hb2
  by_cases hyl : lim < yearL (zt off L1)
  ·have hd1 : decide (lim < yearL (zt off L1)) = true := decide_eq_true hyl
   go_wp2_with (refine wpList_store_row rfl 59 _ _ rfl (w.heap.size + 1) zcells rfl rfl 59 _ HS2.out.res timeSize rfl (by simp [zcells, Value.oneCell']) ?_)
   simp only [Exit.jump]
   refine bodyPost_ret (v := .agg zcells) ?_ rfl ⟨none, leastZ_none P.zn HA1.out hyl, rfl, ?_⟩
   ·exact results_time rfl _ _ (w.heap.size + 1) _ rfl rfl (setRow_heap _ _ _ _ _ _ HS2.out.res)
   ·exact below_setRow HS2.out.bel (by omega) _
  ·have hd1 : decide (lim < yearL (zt off L1)) = false := decide_eq_false hyl
   go_wp2_with fail
   refine zloop0 H HK0 hl0 hls P _ L1 ad1 _ _ ?_ HS2.out HA1.out (by omega) ?_ ?_
   ·exact ⟨rfl, rfl, rfl, rfl, rfl, rfl, rfl, rfl, rfl⟩
   rotate_left
   ·intro a3 w3 L3 f3 s3 t3 l3 y3
    exact ⟨rfl, ⟨⟨k0, k1, L3, true, f3, s3, t3, y3⟩, muZ_less P.zn HSJ.out s3 hyJ (by omega)⟩⟩
   intro a3 w3 L3 ad3 f3 s3 t3 m3 y3 l3
   obtain ⟨u3, rfl⟩ := f3.open
   have HS3 := Lib.hid s3
   have HA3 := Lib.hid t3
   clear f3 s3 t3
   go_wp2_with fail
   refine zloop1 H HK0 hl0 hls P _ L3 ad3 _ _ ?_ HS3.out HA3.out y3 m3 ?_ ?_
   ·exact ⟨rfl, rfl, rfl, rfl, rfl, rfl, rfl, rfl, rfl⟩
   rotate_left
   ·intro a4 w4 L4 f4 s4 t4 l4 y4
    exact ⟨rfl, ⟨⟨k0, k1, L4, true, f4, s4, t4, y4⟩, muZ_less P.zn HSJ.out s4 hyJ (by omega)⟩⟩
   intro a4 w4 L4 ad4 f4 s4 t4 m4 y4 l4
   obtain ⟨u4, rfl⟩ := f4.open
   have HS4 := Lib.hid s4
   have HA4 := Lib.hid t4
   clear f4 s4 t4 HS3 HA3 m3 y3
   go_wp2_with fail
   refine zloop2 H HK0 hl0 hls P _ L4 ad4 _ _ ?_ HS4.out HA4.out y4 m4.1 m4.2 ?_ ?_
   ·exact ⟨rfl, rfl, rfl, rfl, rfl, rfl, rfl, rfl, rfl⟩
   rotate_left
   ·intro a5 w5 L5 f5 s5 t5 l5 y5
    exact ⟨rfl, ⟨⟨k0, k1, L5, true, f5, s5, t5, y5⟩, muZ_less P.zn HSJ.out s5 hyJ (by omega)⟩⟩
   intro a5 w5 L5 ad5 f5 s5 t5 m5 y5 l5
   obtain ⟨u5, rfl⟩ := f5.open
   have HS5 := Lib.hid s5
   have HA5 := Lib.hid t5
   clear f5 s5 t5 HS4 HA4 m4 y4
   go_wp2_with fail
   refine zloop3 H HK0 hl0 hls P _ L5 ad5 _ _ ?_ HS5.out HA5.out y5 m5.1 m5.2.1 m5.2.2 ?_ ?_
   ·exact ⟨rfl, rfl, rfl, rfl, rfl, rfl, rfl, rfl, rfl⟩
   rotate_left
   ·intro a6 w6 L6 f6 s6 t6 l6 y6
    exact ⟨rfl, ⟨⟨k0, k1, L6, true, f6, s6, t6, y6⟩, muZ_less P.zn HSJ.out s6 hyJ (by omega)⟩⟩
   intro a6 w6 L6 ad6 f6 s6 t6 m6 y6 l6
   obtain ⟨u6, rfl⟩ := f6.open
   have HS6 := Lib.hid s6
   have HA6 := Lib.hid t6
   clear f6 s6 t6 HS5 HA5 m5 y5
   go_wp2_with fail
   refine zloop4 H HK0 hl0 hls P _ L6 ad6 _ _ ?_ HS6.out HA6.out y6 m6.1 m6.2.1 m6.2.2.1 m6.2.2.2 ?_ ?_
   ·exact ⟨rfl, rfl, rfl, rfl, rfl, rfl, rfl, rfl, rfl⟩
   rotate_left
   ·intro a7 w7 L7 f7 s7 t7 l7 y7
    exact ⟨rfl, ⟨⟨k0, k1, L7, true, f7, s7, t7, y7⟩, muZ_less P.zn HSJ.out s7 hyJ (by omega)⟩⟩
   intro a7 w7 L7 ad7 f7 s7 t7 m7 y7 l7
   obtain ⟨u7, rfl⟩ := f7.open
   have HS7 := Lib.hid s7
   have HA7 := Lib.hid t7
   clear f7 s7 t7 HS6 HA6 m6 y6
   go_wp2_with (refine wpList_load_row rfl 59 _ rfl w.heap.size rfl _ _ _ _ HS7.out.row Try.underlying59 rfl timeSize ?_)
   refine (HIN.out L7 k0 _ HS7.out.loc0).mono ?_
   rintro e w8 ⟨rfl, hb8⟩
   have HS8 := Lib.hid (HS7.out.below HK0 H.lk hb8)
   clear hb8
   go_wp2_with (refine wpList_store_row rfl 59 _ _ rfl (w.heap.size + 1) (ucells l0 L7) rfl rfl 59 _ HS8.out.res timeSize rfl (ucells_one _ _) ?_)
   simp only [Exit.jump]
   refine bodyPost_ret (v := .agg (ucells l0 L7)) ?_ rfl ⟨some L7, leastZ_some HA7.out m7.1 m7.2.1 m7.2.2.1 m7.2.2.2.1 m7.2.2.2.2 y7, rfl, ?_⟩
   ·exact results_time rfl _ _ (w.heap.size + 1) _ rfl rfl (setRow_heap _ _ _ _ _ _ HS8.out.res)
   ·exact below_setRow HS8.out.bel (by omega) _
end Go.Proofs.Ytlopkdhblfibkaa.Cal
namespace Go.Proofs.Ytlopkdhblfibkaa.Cal
open Go Go.RowKit Go.Proofs.YtlopkdhblfibkaaW.PrintWords Go.Proofs.YtlopkdhblfibkaaW.PrintLast
set_option linter.unusedVariables false
set_option linter.unusedSimpArgs false
def ansT (l : Option Addr) (off : Int) : Option Int → Value
 | none => .agg zcells
 | some L => .agg (tcells l off L)
theorem ansZ_T (l : Option Addr) (r : Option Int) : ansZ l r = ansT l 0 r := by
 cases r
 ·rfl
 ·simp [ansZ, ansT, ucells, tcells]
theorem gUnix_any (s n : Int) (h0 : 0 ≤ n) (h1 : n < 1000000000) (hs0 : -1000000000000 ≤ s) (hs1 : s ≤ 1000000000000) (w : World) :
  Calls Try.prog 36 #[.int .i64 s, .int .i64 n] w fun e' w' => e' = .returned (tv n (s + 62135596800) none) ∧ Below w.heap.size w w' := by
 have HU := Lib.hid (fun w' => unixTime_any s n h0 h1 hs0 hs1 w')
 have d1 : decide (n < 0) = false := decide_eq_false (by omega)
 have d2 : decide (1000000000 ≤ n) = false := decide_eq_false (by omega)
 have hw : IntKind.i32.wrap n = n := by rw [IntKind.wrap_i32]; omega
 unfold tv at *
 go_enter Try.func36, Try.ntmps36
 go_wp2_with fail
 refine (HU.out _).mono ?_
 rintro e' w1 ⟨rfl, hb⟩
 have hrow := (hb.block w.heap.size (by simp)).trans (heap_alloc_new w (.cells #[.int .u64 0, .int .i64 0, .pointer none] 59))
 have hB := below_le ((Below.refl w.heap.size w).alloc (Nat.le_refl _) _) hb
 go_wp2_with (refine wpList_store_row rfl 59 _ _ rfl w.heap.size #[.int .u64 n, .int .i64 (s + 62135596800), .pointer none] rfl rfl 59 _ hrow timeSize rfl (by simp [Value.oneCell']) ?_)
 refine bodyPost_ret (v := .agg #[.int .u64 n, .int .i64 (s + 62135596800), .pointer none]) ?_ rfl ⟨rfl, ?_⟩
 ·exact results_time rfl _ _ w.heap.size _ rfl rfl (setRow_heap _ _ _ _ _ _ hrow)
 ·exact below_setRow hB (Nat.le_refl _) _
theorem moment_z {l : Option Addr} {off : Int → Int} {Inv : World → Prop} {Loc : World → Nat → Prop} (H : ClockZ l off Inv Loc) (k : Nat) (s n : Int) (h0 : 0 ≤ n) (h1 : n < 1000000000) (hs0 : -1000000000000 ≤ s) (hs1 : s ≤ 1000000000000) (w : World) (hk : Loc w k) :
  Calls Try.prog 22 #[.agg #[.int .i64 s, .int .i64 n], .pointer (some ⟨k, 0, none⟩)] w fun e' w' => e' = .returned (tv n (s + 62135596800) l) ∧ Below w.heap.size w w' := by
 have HU := Lib.hid (fun w' => gUnix_any s n h0 h1 hs0 hs1 w')
 have HI := Lib.hid (fun w' hk' => H.inn n (s + 62135596800) none k w' h0 (by omega) hk')
 have HK := Lib.hid (fun w' (hb : Below w.heap.size w w') => H.locK hk hb)
 clear hk
 unfold tv at *
 go_enter Try.func22, Try.ntmps22
 go_wp2_with fail
 refine (HU.out _).mono ?_
 rintro e' w1 ⟨rfl, hb⟩
 have hrow := (hb.block (w.heap.size + 1) (by simp)).trans (heap_two w (.cells #[.int .i64 s, .int .i64 n] 31) (.cells #[.int .u64 0, .int .i64 0, .pointer none] 59))
 have hB := below_le (((Below.refl w.heap.size w).alloc (Nat.le_refl _) _).alloc (by simp) _) hb
 clear hb
 go_wp2_with fail
 refine (HI.out _ (HK.out _ hB)).mono ?_
 rintro e' w2 ⟨rfl, hb2⟩
 have hrow2 := (hb2.block _ (Array.getElem?_eq_some_iff.1 hrow).1).trans hrow
 have hB2 := below_le hB hb2
 clear hb2 hrow hB
 go_wp2_with (refine wpList_store_row rfl 59 _ _ rfl (w.heap.size + 1) #[.int .u64 n, .int .i64 (s + 62135596800), .pointer l] rfl rfl 59 _ hrow2 timeSize rfl (by simp [Value.oneCell']) ?_)
 refine bodyPost_ret (v := .agg #[.int .u64 n, .int .i64 (s + 62135596800), .pointer l]) ?_ rfl ⟨rfl, ?_⟩
 ·exact results_time rfl _ _ (w.heap.size + 1) _ rfl rfl (setRow_heap _ _ _ _ _ _ hrow2)
 ·exact below_setRow hB2 (by omega) _
theorem tUnix_any (n e : Int) (l : Option Addr) (h0 : 0 ≤ n) (h1 : n < 1073741824) (he0 : -1000000 ≤ e) (he1 : e ≤ 1000000000000) (w : World) :
  Calls Try.prog 40 #[tv n e l] w fun e' w' => e' = .returned (.int .i64 (e - 62135596800)) ∧ Below w.heap.size w w' := by
 have HU := Lib.hid (fun (g : Nat) w' hc0 hc1 => unixSec_any g n e w' h0 h1 (by omega) he1 hc0 hc1)
 unfold tv
 go_enter Try.func40, Try.ntmps40
 go_wp2_with fail
 refine (HU.out w.heap.size _ (by simp [go_sem]) (by simp [go_sem])).mono ?_
 rintro e' w1 ⟨rfl, rfl⟩
 go_wp2_with fail
 go_ret
 exact ⟨rfl, (Below.refl _ _).alloc (Nat.le_refl _) _⟩
theorem isZeroNo_any (e : Int) (l : Option Addr) (he : 0 < e) (w : World) :
  Calls Try.prog 32 #[tv 0 e l] w fun e' w' => e' = .returned (.bool false) ∧ Below w.heap.size w w' := by
 have HS := Lib.hid (fun (g : Nat) w' hc hc1 => sec_any g 0 e w' (by omega) (by omega) hc hc1)
 have d : (e == 0) = false := by simp; omega
 unfold tv
 go_enter Try.func32, Try.ntmps32
 go_wp2_with fail
 go_ret
 exact ⟨rfl, (Below.refl _ _).alloc (Nat.le_refl _) _⟩
theorem isZeroYes_any (w : World) :
  Calls Try.prog 32 #[.agg zcells] w fun e w' => e = .returned (.bool true) ∧ Below w.heap.size w w' := by
 unfold zcells
 go_enter Try.func32, Try.ntmps32
 go_wp2_with fail
 go_ret
 exact ⟨rfl, (Below.refl _ _).alloc (Nat.le_refl _) _⟩
theorem instSize : (Try.prog.info? 31).map (·.size) = some 2 := by kernel_rfl
set_option maxRecDepth 100000 in
set_option maxHeartbeats 4000000 in
theorem plainMoment_any (e : Int) (l : Option Addr) (he0 : 0 ≤ e) (he1 : e ≤ 900000000000) (w : World) :
  Calls Try.prog 33 #[tv 0 e l] w fun e' w' => e' = .returned (.agg #[.int .i64 (e - 62135596800), .int .i64 0]) ∧ Below w.heap.size w w' := by
 have HU := Lib.hid (fun w' => tUnix_any 0 e l (by omega) (by omega) (by omega) (by omega) w')
 have HN := Lib.hid (fun w' => tNano_any 0 e l w' (by omega) (by omega))
 unfold tv at *
 go_enter Try.func33, Try.ntmps33
 go_upto_region 1 with fail
 generalize hW : World.alloc (World.alloc w _) _ = wo
 have hrow : wo.heap[w.heap.size]? = some (.cells #[.int .u64 0, .int .i64 e, .pointer l] 59 (0, 0)) := by rw [← hW]; exact (((Below.refl _ _).alloc (Nat.le_refl _) _).block w.heap.size (by simp)).trans (heap_alloc_new w _)
 have hres : wo.heap[w.heap.size + 1]? = some (.cells #[.int .i64 0, .int .i64 0] 31 (0, 0)) := by rw [← hW]; exact heap_two w _ _
 have hB : Below w.heap.size w wo := by rw [← hW]; exact ((Below.refl _ _).alloc (Nat.le_refl _) _).alloc (by simp) _
 clear hW
 refine start_ (n := 6) (S := fun w' => w'.heap[w.heap.size]? = some (.cells #[.int .u64 0, .int .i64 e, .pointer l] 59 (0, 0)) ∧ Below wo.heap.size wo w') (ds := [5]) #[false, false, false, false, false, false] (by kernel_rfl) rfl rfl ⟨hrow, (Below.refl _ _).drew⟩ (fun hHeld => ?_)
 refine take_ (i := 0) (N := some 3) (v := ?_) (a' := ?_) #[true, false, false, false, false, false] rfl rfl (by kernel_rfl) (fun _ _ _ h => h) (Or.inl ⟨by rfl, ?_⟩) hHeld ?_ ?_
 rotate_left
 ·rintro w' ⟨s0, s1⟩
  refine exec_load_row _ _ w' 59 (.tmp 1) ?_ w.heap.size ?_ _ _ _ _ s0 Try.underlying59 rfl timeSize
  ·rfl
  ·rfl
 rotate_left
 ·simp only [Act.put, List.setIfInBounds_toArray, List.set_cons_zero, List.set_cons_succ, i64_w, i32_w]
  rfl
 refine take_ (i := 2) (N := some 5) (v := ?_) (a' := ?_) #[true, false, true, false, false, false] rfl rfl (by kernel_rfl) (fun _ _ _ h => h) (Or.inl ⟨by rfl, ?_⟩) hHeld ?_ ?_
 rotate_left
 ·rintro w' ⟨s0, s1⟩
  refine exec_load_row _ _ w' 59 (.tmp 1) ?_ w.heap.size ?_ _ _ _ _ s0 Try.underlying59 rfl timeSize
  ·rfl
  ·rfl
 rotate_left
 ·simp only [Act.put, List.setIfInBounds_toArray, List.set_cons_zero, List.set_cons_succ, i64_w, i32_w]
  rfl
 refine one_ (i := 1) (N := some 4) #[true, true, true, false, false, false] rfl rfl (by kernel_rfl) (by decide) (fun K hK => ?_)
 refine goes_ Try.func40 (by kernel_rfl) rfl #[.agg #[.int .u64 0, .int .i64 e, .pointer l]] (by rfl) rfl rfl (by simp only [List.map_toArray, List.map_cons, List.map_nil]; rfl) ?_
 with_reducible refine (HU.out _).mono ?_
 rintro e2 w2 ⟨rfl, hb1⟩
 refine ⟨_, rfl, ?_⟩
 refine hK.out _ _ ⟨(hb1.block _ (Array.getElem?_eq_some_iff.1 hHeld.1).1).trans hHeld.1, below_le hHeld.2 hb1⟩ (fun hHeld => ?_)
 clear hK K
 refine norm_ (a' := ?_) ?_ ?_
 rotate_left
 ·show Act.put _ (some 4) _ = _
  simp only [Act.put, List.setIfInBounds_toArray, List.set_cons_zero, List.set_cons_succ, i64_w, i32_w]
  rfl
 refine one_ (i := 3) (N := some 6) #[true, true, true, true, false, false] rfl rfl (by kernel_rfl) (by decide) (fun K hK => ?_)
 refine goes_ Try.func41 (by kernel_rfl) rfl #[.agg #[.int .u64 0, .int .i64 e, .pointer l]] (by rfl) rfl rfl (by simp only [List.map_toArray, List.map_cons, List.map_nil]; rfl) ?_
 with_reducible refine (HN.out _).mono ?_
 rintro e5 w5 ⟨rfl, hb3⟩
 refine ⟨_, rfl, ?_⟩
 refine hK.out _ _ ⟨(hb3.block _ (Array.getElem?_eq_some_iff.1 hHeld.1).1).trans hHeld.1, below_le hHeld.2 hb3⟩ (fun hHeld => ?_)
 clear hK K
 refine norm_ (a' := ?_) ?_ ?_
 rotate_left
 ·show Act.put _ (some 6) _ = _
  simp only [Act.put, List.setIfInBounds_toArray, List.set_cons_zero, List.set_cons_succ, i64_w, i32_w]
  rfl
 refine pure_ (i := 4) (N := some 7) (v := ?_) (a' := ?_) #[true, true, true, true, true, false] rfl rfl (by kernel_rfl) (fun _ _ _ h => h) (Or.inl ⟨by rfl, ?_⟩) ?_ ?_
 rotate_left
 ·intro w'
  go_simp
  with_reducible rfl
 rotate_left
 ·simp only [Act.put, List.setIfInBounds_toArray, List.set_cons_zero, List.set_cons_succ, i64_w, i32_w]
  rfl
 refine last_ (i := 5) (N := none) #[true, true, true, true, true, true] rfl rfl (by kernel_rfl) (by decide) (fun K hK => ?_)
 rw [if_pos (by rfl)]
 refine wp_store_row 31 _ _ rfl (w.heap.size + 1) #[.int .i64 (e - 62135596800), .int .i64 0] rfl rfl 31 _ ((hHeld.2.block _ (Array.getElem?_eq_some_iff.1 hres).1).trans hres) instSize rfl (by simp [Value.oneCell']) ?_
 refine hK.out _ _ ?_
 clear hK K
 refine done_ (by kernel_rfl) ?_
 go_wp2_with fail
 have hres6 := (hHeld.2.block _ (Array.getElem?_eq_some_iff.1 hres).1).trans hres
 refine bodyPost_ret (v := .agg #[.int .i64 (e - 62135596800), .int .i64 0]) ?_ rfl ⟨rfl, ?_⟩
 ·exact results_cell_row (fn := Try.f33) (p := 2) rfl _ _ (w.heap.size + 1) _ _ _ _ rfl (setRow_heap _ _ _ _ _ _ hres6) Try.underlying31 rfl instSize
 ·exact below_setRow (below_le hB hHeld.2) (by omega) _
def ansI (off : Int) : Option Int → Array Value
 | none => #[.int .i64 0, .int .i64 0]
 | some L => #[.int .i64 (L - off), .int .i64 0]
theorem results_inst {fn : Func} {p u : Tmp} (h : fn.results = #[.cell p 31, .tmp u]) (tmps : Array Value) (w : World) (g : Nat) (cs : Array Value) (h2 : cs.size = 2)
  (hp : tmps.getD p undef = .pointer (some ⟨g, 0, none⟩)) (hs : w.heap[g]? = some (.cells cs 31 (0, 0))) :
  (results fn tmps).run Try.prog w = .ok (.tuple #[.agg cs, tmps.getD u undef]) w := by
 rw [results_cell_tmp h, hp]
 simp only [asAddr, Sem.run_pure, Result.andThen_ok, run_loadVar_row w g _ _ _ _ _ hs Try.underlying31 rfl (by rw [instSize, h2])]
theorem answer_any (l : Option Addr) (off : Int) (r : Option Int) (hr : ∀ L, r = some L → 0 < L + 62135596800 - off ∧ L + 62135596800 - off ≤ 900000000000) (w : World) :
  Calls Try.prog 19 #[ansT l off r] w fun e' w' => e' = .returned (.tuple #[.agg (ansI off r), .bool r.isSome]) ∧ Below w.heap.size w w' := by
 cases r with
 | none =>
  have HZ := Lib.hid (fun w' => isZeroYes_any w')
  unfold ansT ansI zcells at *
  go_enter Try.func19, Try.ntmps19
  go_wp2_with fail
  refine (HZ.out _).mono ?_
  rintro e' w1 ⟨rfl, hb⟩
  have hres := (hb.block (w.heap.size + 1) (by simp)).trans (heap_two w (.cells #[.int .u64 0, .int .i64 0, .pointer none] 59) (.cells #[.int .i64 0, .int .i64 0] 31))
  have hB := below_le (((Below.refl w.heap.size w).alloc (Nat.le_refl _) _).alloc (by simp) _) hb
  clear hb
  go_wp2_with (refine wpList_store_row rfl 31 _ _ rfl (w.heap.size + 1) #[.int .i64 0, .int .i64 0] rfl rfl 31 _ hres instSize rfl (by simp [Value.oneCell']) ?_)
  refine bodyPost_ret (v := .tuple #[.agg #[.int .i64 0, .int .i64 0], .bool false]) ?_ rfl ⟨rfl, ?_⟩
  ·exact results_inst (fn := Try.f19) (p := 2) (u := 3) rfl _ _ (w.heap.size + 1) _ rfl rfl (setRow_heap _ _ _ _ _ _ hres)
  ·exact below_setRow hB (by omega) _
 | some L =>
  obtain ⟨h0, h1⟩ := hr L rfl
  have HZ := Lib.hid (fun w' => isZeroNo_any (L + 62135596800 - off) l h0 w')
  have HP := Lib.hid (fun w' => plainMoment_any (L + 62135596800 - off) l (by omega) h1 w')
  rw [show L + 62135596800 - off - 62135596800 = L - off by omega] at HP
  unfold ansT ansI tcells tv at *
  dsimp only at *
  generalize L + 62135596800 - off = E at *
  go_enter Try.func19, Try.ntmps19
  go_wp2_with fail
  refine (HZ.out _).mono ?_
  rintro e' w1 ⟨rfl, hb⟩
  have hrow := (hb.block w.heap.size (by simp; omega)).trans ((((Below.refl _ _).alloc (Nat.le_refl _) _).block w.heap.size (by simp)).trans (heap_alloc_new w (.cells #[.int .u64 0, .int .i64 E, .pointer l] 59)))
  have hres := (hb.block (w.heap.size + 1) (by simp)).trans (heap_two w (.cells #[.int .u64 0, .int .i64 E, .pointer l] 59) (.cells #[.int .i64 0, .int .i64 0] 31))
  have hB := below_le (((Below.refl w.heap.size w).alloc (Nat.le_refl _) _).alloc (by simp) _) hb
  clear hb
  go_wp2_with (refine wpList_load_row rfl 59 _ rfl w.heap.size rfl _ _ _ _ hrow Try.underlying59 rfl timeSize ?_)
  refine (HP.out _).mono ?_
  rintro e' w2 ⟨rfl, hb2⟩
  have hres2 := (hb2.block _ (Array.getElem?_eq_some_iff.1 hres).1).trans hres
  have hB2 := below_le hB hb2
  clear hb2 hB
  go_wp2_with (refine wpList_store_row rfl 31 _ _ rfl (w.heap.size + 1) #[.int .i64 (L - off), .int .i64 0] rfl rfl 31 _ hres2 instSize rfl (by simp [Value.oneCell']) ?_)
  refine bodyPost_ret (v := .tuple #[.agg #[.int .i64 (L - off), .int .i64 0], .bool true]) ?_ rfl ⟨rfl, ?_⟩
  ·exact results_inst (fn := Try.f19) (p := 2) (u := 3) rfl _ _ (w.heap.size + 1) _ rfl rfl (setRow_heap _ _ _ _ _ _ hres2)
  ·exact below_setRow hB2 (by omega) _
theorem schedSize : (Try.prog.info? 24).map (·.size) = some 8 := by kernel_rfl
theorem zoneSize : (Try.prog.info? 29).map (·.size) = some 4 := by kernel_rfl
theorem ansI_size (off : Int) (r : Option Int) : (ansI off r).size = 2 := by cases r <;> rfl
theorem ansI_one (off : Int) (r : Option Int) : (ansI off r).all (·.oneCell') = true := by cases r <;> simp [ansI, Value.oneCell']
def setsCells (d : Int) (S : Sets) : Array Value := #[.bool false, .int .i64 d, .int .u64 (S.sec : Int), .int .u64 (S.min : Int), .int .u64 (S.hour : Int), .int .u64 (S.dom : Int), .int .u64 (S.month : Int), .int .u64 (S.dow : Int)]
theorem schedIn_any (d : Int) (S : Sets) (k : Nat) (w : World) :
  Calls Try.prog 20 #[.agg (setsCells d S), .pointer (some ⟨k, 0, none⟩)] w fun e w' => ∃ g, e = .returned (.iface 76 (.pointer (some ⟨g, 0, none⟩))) ∧ SpecRow w' g S (some ⟨k, 0, none⟩) ∧ Below w.heap.size w w' := by
 unfold setsCells SpecRow
 go_enter Try.func20, Try.ntmps20
 go_wp2_with fail
 go_ret
 exact ⟨_, rfl, heap_two _ _ _, ((Below.refl _ _).alloc (Nat.le_refl _) _).alloc (by simp) _⟩
theorem year_top {L : Int} (h : L ≤ 253402300800 + 86400) : yearL L ≤ 10000 := by
 have := year_mono h
 have e : yearL (253402300800 + 86400) = 10000 := (date_eq (L := 253402300800 + 86400) (y := 10000) (m := 1) (d := 2) ⟨by omega, by omega, by omega, by decide⟩ (by decide)).1
 omega
end Go.Proofs.Ytlopkdhblfibkaa.Cal
namespace Go.Proofs.Ytlopkdhblfibkaa.CronN
open Go Go.RowKit Go.Proofs.YtlopkdhblfibkaaW.PrintWords Go.Proofs.YtlopkdhblfibkaaW.PrintLast
set_option linter.unusedVariables false
def setCells (star : Bool) (p : Nat → Bool) : Array Value := #[.bool star] ++ ((Array.range 63).map fun j => .bool (p j))
theorem setCells_size (star : Bool) (p : Nat → Bool) : (setCells star p).size = 64 := by simp [setCells]
theorem setCells_zero (star : Bool) (p : Nat → Bool) : (setCells star p)[0]? = some (.bool star) := by
 unfold setCells
 rw [Array.getElem?_append_left (by simp)]
 simp
theorem setCells_at (star : Bool) (p : Nat → Bool) (j : Nat) (h : j < 63) : (setCells star p)[j + 1]? = some (.bool (p j)) := by
 unfold setCells
 rw [Array.getElem?_append_right (by simp)]
 simp [h]
theorem setCells_out (star : Bool) (p : Nat → Bool) (j : Nat) (h : 64 ≤ j) : (setCells star p)[j]? = none := by
 rw [Array.getElem?_eq_none]
 rw [setCells_size]; exact h
theorem setCells_one (star : Bool) (p : Nat → Bool) : (setCells star p).all (·.oneCell') = true := by
 rw [Array.all_eq_true_iff_forall_mem]
 intro v hv
 unfold setCells at hv
 rw [Array.mem_append] at hv
 rcases hv with hv | hv
 ·simp at hv; subst hv; rfl
 ·rw [Array.mem_map] at hv
  obtain ⟨j, _, rfl⟩ := hv
  rfl
theorem setCells_star (star b : Bool) (p : Nat → Bool) : (setCells star p).setIfInBounds 0 (.bool b) = setCells b p := by
 apply Array.ext_getElem?
 intro i
 rw [Array.getElem?_setIfInBounds]
 cases i with
 | zero => rw [if_pos rfl, if_pos (by rw [setCells_size]; decide), setCells_zero]
 | succ i =>
  rw [if_neg (by omega)]
  by_cases h : i < 63
  ·rw [setCells_at _ _ _ h, setCells_at _ _ _ h]
  ·rw [setCells_out _ _ _ (by omega), setCells_out _ _ _ (by omega)]
theorem setCells_put (star b : Bool) (p : Nat → Bool) (j : Nat) (hj : j < 63) : (setCells star p).setIfInBounds (j + 1) (.bool b) = setCells star (fun i => if i = j then b else p i) := by
 apply Array.ext_getElem?
 intro i
 rw [Array.getElem?_setIfInBounds]
 cases i with
 | zero => rw [if_neg (by omega), setCells_zero, setCells_zero]
 | succ i =>
  by_cases h : i < 63
  ·rw [setCells_at _ _ _ h, setCells_at _ _ _ h]
   by_cases e : i = j
   ·subst e
    rw [if_pos rfl, if_pos (by rw [setCells_size]; omega), if_pos rfl]
   ·rw [if_neg (by omega), if_neg e]
  ·rw [setCells_out _ _ _ (by omega), setCells_out _ _ _ (by omega), if_neg (by omega)]
theorem setCells_ext {star : Bool} {p q : Nat → Bool} (h : ∀ j, j < 63 → p j = q j) : setCells star p = setCells star q := by
 apply Array.ext_getElem?
 intro i
 cases i with
 | zero => rw [setCells_zero, setCells_zero]
 | succ i =>
  by_cases hi : i < 63
  ·rw [setCells_at _ _ _ hi, setCells_at _ _ _ hi, h i hi]
  ·rw [setCells_out _ _ _ (by omega), setCells_out _ _ _ (by omega)]
def noSet : Nat → Bool := fun _ => false
def IsSet (w : World) (g : Nat) (star : Bool) (p : Nat → Bool) : Prop := w.heap[g]? = some (.cells (setCells star p) 38 (0, 0))
theorem IsSet.lt {w : World} {g : Nat} {star : Bool} {p : Nat → Bool} (h : IsSet w g star p) : g < w.heap.size := (Array.getElem?_eq_some_iff.1 h).1
theorem IsSet.below {w w' : World} {g : Nat} {star : Bool} {p : Nat → Bool} (h : IsSet w g star p) (hb : Below w.heap.size w w') : IsSet w' g star p :=
 (hb.block g h.lt).trans h
theorem IsSet.cell0 {w : World} {g : Nat} {star : Bool} {p : Nat → Bool} (h : IsSet w g star p) : w.cell? ⟨g, 0, none⟩ = some (.bool star) :=
 (cell_of_row w g 0 _ _ _ h).trans (setCells_zero star p)
theorem IsSet.cellAt {w : World} {g : Nat} {star : Bool} {p : Nat → Bool} (h : IsSet w g star p) (j : Nat) (hj : j < 63) : w.cell? ⟨g, j + 1, none⟩ = some (.bool (p j)) :=
 (cell_of_row w g (j + 1) _ _ _ h).trans (setCells_at star p j hj)
theorem IsSet.free {w : World} {g : Nat} {star : Bool} {p : Nat → Bool} (h : IsSet w g star p) (j : Nat) : w.frozen? ⟨g, j, none⟩ = false :=
 frozen_of_row w g j _ _ h
theorem IsSet.put {w : World} {g : Nat} {star : Bool} {p : Nat → Bool} (h : IsSet w g star p) (j : Nat) (hj : j < 63) (b : Bool) : IsSet (w.setCell ⟨g, j + 1, none⟩ (.bool b)) g star (fun i => if i = j then b else p i) := by
 unfold IsSet
 rw [heap_setCell_same w g (j + 1) _ _ _ h, setCells_put star b p j hj]
theorem IsSet.putStar {w : World} {g : Nat} {star : Bool} {p : Nat → Bool} (h : IsSet w g star p) (b : Bool) : IsSet (w.setCell ⟨g, 0, none⟩ (.bool b)) g b p := by
 unfold IsSet
 rw [heap_setCell_same w g 0 _ _ _ h, setCells_star]
theorem IsSet.other {w : World} {g : Nat} {star : Bool} {p : Nat → Bool} (h : IsSet w g star p) {a : Addr} (ha : g ≠ a.block) (v : Value) : IsSet (w.setCell a v) g star p := by
 unfold IsSet
 rw [heap_setCell_other w a g v ha]
 exact h
theorem isSet_new (w : World) (star : Bool) (p : Nat → Bool) : IsSet (w.alloc (.cells (setCells star p) 38 (0, 0))) w.heap.size star p :=
 heap_alloc_new w _
theorem setSize : (Try.prog.info? 38).map (·.size) = some 64 := by kernel_rfl
theorem run_alloc_set (w : World) : (Instr.alloc 38 true (.tuple #[])).run Try.prog w = .ok (.pointer (some ⟨w.heap.size, 0, none⟩)) (w.alloc (.cells (setCells false noSet) 38 (0, 0))) := by kernel_rfl
theorem built_set : (Try.prog.built 38 []) = some (setCells false noSet) := by kernel_rfl
theorem IsSet.store {w : World} {g : Nat} {star : Bool} {p : Nat → Bool} (h : IsSet w g star p) (st : Bool) (q : Nat → Bool) : IsSet (w.setRow g (setCells st q)) g st q :=
 setRow_heap w g _ _ _ _ h
section
variable {ops : Array Oper} {rest : List Oper} {o : Oper} {a : Act} {w : World} {Q : Exit → Act → World → Prop}
theorem wpList_build_set (hg : o.guard = none) (ho : o.op = .build 38 #[])
  (h : wpList Try.prog ops Q rest (a.put o.dst (.agg (setCells false noSet))) w) : wpList Try.prog ops Q (o :: rest) a w := by
 have e : ((#[] : Array (Nat × Operand)).map fun (i, x) => (i, a.eval x)).toList = [] := by simp
 refine wpList_build hg 38 #[] ho (by rw [e, built_set]; exact Option.isSome_some) ?_
 rw [e, built_set, Option.getD_some]
 exact h
theorem wpList_store_set (hg : o.guard = none) (x y : Operand) (ho : o.op = .store 38 x y) (g : Nat) (st : Bool) (q : Nat → Bool)
  (hx : a.eval x = .pointer (some ⟨g, 0, none⟩)) (hy : a.eval y = .agg (setCells st q)) (st0 : Bool) (q0 : Nat → Bool) (hs : IsSet w g st0 q0)
  (h : wpList Try.prog ops Q rest (a.put o.dst undef) (w.setRow g (setCells st q))) : wpList Try.prog ops Q (o :: rest) a w :=
 wpList_store_row hg 38 x y ho g _ hx hy _ _ hs (by rw [setSize, setCells_size]) (by rw [setCells_size, setCells_size]) (setCells_one st q) h
theorem wpList_load_set (hg : o.guard = none) (x : Operand) (ho : o.op = .load 38 x) (g : Nat) (st : Bool) (q : Nat → Bool)
  (hx : a.eval x = .pointer (some ⟨g, 0, none⟩)) (hs : IsSet w g st q)
  (h : wpList Try.prog ops Q rest (a.put o.dst (.agg (setCells st q))) w) : wpList Try.prog ops Q (o :: rest) a w := by
 exact wpList_load_row hg 38 x ho g hx _ _ _ _ hs Try.underlying38 rfl (by rw [setSize, setCells_size]) h
end
def inCells (p : Nat → Bool) : Array Value := (Array.range 63).map fun j => .bool (p j)
theorem inCells_size (p : Nat → Bool) : (inCells p).size = 63 := by simp [inCells]
theorem inCells_at (p : Nat → Bool) (j : Nat) (h : j < 63) : (inCells p)[j]? = some (.bool (p j)) := by simp [inCells, h]
theorem sizeIn : (Try.prog.info? 36).map (·.size) = some 63 := by kernel_rfl
theorem run_load_in (w : World) (g : Nat) (st : Bool) (q : Nat → Bool) (hs : IsSet w g st q) : (loadVar 36 ⟨g, 1, none⟩).run Try.prog w = .ok (.agg (inCells q)) w := by
 have hl : (loadCells ⟨g, 1, none⟩ (inCells q).toList.length).run Try.prog w = .ok (inCells q).toList.toArray w :=
  run_loadCells_list (P := Try.prog) w ⟨g, 1, none⟩ (inCells q).toList (fun j v hv => by
   have hj : j < 63 := by
    have := (List.getElem?_eq_some_iff.1 hv).1
    rw [Array.length_toList, inCells_size] at this
    exact this
   have hadd : (⟨g, 1, none⟩ : Addr).add j = ⟨g, j + 1, none⟩ := by
    unfold Addr.add
    split
    ·rename_i h; subst h; rfl
    ·simp; omega
   rw [hadd, hs.cellAt j hj]
   have := inCells_at q j hj
   rw [← Array.getElem?_toList] at this
   rw [← this, hv])
 rw [Array.length_toList, inCells_size] at hl
 cases hq : Try.prog.info? 36 with
 | none => have := sizeIn; simp [hq] at this
 | some i =>
  have hsz : i.size = 63 := by have := sizeIn; simpa [hq] using this
  have hagg : (isAgg 36).run Try.prog w = .ok true w := by
   unfold isAgg
   rw [Sem.run_bind, run_underlying Try.underlying36 w]
   rfl
  simp only [Array.toArray_toList] at hl
  simp [loadVar, Sem.run_bind, hagg, sizeOf, typeInfo, hq, hsz, hl]
section
variable {ops : Array Oper} {rest : List Oper} {o : Oper} {a : Act} {w : World} {Q : Exit → Act → World → Prop}
theorem wpList_load_in (hgd : o.guard = none) (x : Operand) (ho : o.op = .load 36 x) (g : Nat) (st : Bool) (q : Nat → Bool)
  (hx : a.eval x = .pointer (some ⟨g, 1, none⟩)) (hs : IsSet w g st q)
  (h : wpList Try.prog ops Q rest (a.put o.dst (.agg (inCells q))) w) : wpList Try.prog ops Q (o :: rest) a w := by
 refine wpList_plain hgd fun K hK => ?_
 unfold Oper.wp execOp
 simp only [ho, hx, Instr.loadAt, Instr.sureAddr, Sem.run_bind, Sem.run_pure, Result.andThen_ok, run_load_in w g st q hs]
 exact hK _ _ h
end
theorem run_box_set (st : Bool) (p : Nat → Bool) (w : World) : (Instr.box 38 (.agg (setCells st p))).run Try.prog w = .ok (.pointer (some ⟨w.heap.size, 0, none⟩)) (w.alloc (.cells (setCells st p) 38 (0, 0))) := by
 rfl
end Go.Proofs.Ytlopkdhblfibkaa.CronN
namespace Go.Proofs.Ytlopkdhblfibkaa.Sched
open Go Go.RowKit Go.Proofs.Ytlopkdhblfibkaa.Cal
set_option linter.unusedVariables false
set_option linter.unusedSimpArgs false
section
variable {P : Program}
theorem run_storeVar_at (w : World) (g o : Nat) (t ty : TypeId) (cur cells : Array Value) (hg : w.heap[g]? = some (.cells cur t (0, 0))) (hfit : o + cells.size ≤ cur.size) (hi : (P.info? ty).map (·.size) = some cells.size)
  (h1 : cells.all (·.oneCell') = true) :
  (storeVar ty ⟨g, o, none⟩ (.agg cells)).run P w = .ok () (w.setRow g (cur.toList.take o ++ cells.toList ++ cur.toList.drop (o + cells.size)).toArray) := by
 have := run_storeCells_at P g o t cells.toList 0 cur w hg (by simpa using hfit) (fun v hv => (Array.all_eq_true_iff_forall_mem.1 h1) v (by simpa using hv))
 cases hq : P.info? ty with
 | none => simp [hq] at hi
 | some i =>
  have hs : cells.size = i.size := by simp [hq] at hi; omega
  simp only [Nat.add_zero, Array.length_toList] at this
  simp [storeVar, sizeOf, typeInfo, hq, Value.cells, hs]
  rw [← hs]
  simpa [List.append_assoc] using this
theorem wp_store_at {o : Oper} {a : Act} {w : World} {K : Act → World → Prop} {Q : Exit → Act → World → Prop} (ty : TypeId) (x y : Operand) (ho : o.op = .store ty x y)
  (g of : Nat) (cells : Array Value) (hx : a.eval x = .pointer (some ⟨g, of, none⟩)) (hy : a.eval y = .agg cells)
  (t : TypeId) (cur : Array Value) (hg : w.heap[g]? = some (.cells cur t (0, 0))) (hi : (P.info? ty).map (·.size) = some cells.size)
  (hfit : of + cells.size ≤ cur.size) (h1 : cells.all (·.oneCell') = true)
  (h : K (a.put o.dst undef) (w.setRow g (cur.toList.take of ++ cells.toList ++ cur.toList.drop (of + cells.size)).toArray)) : o.wp P a w K Q := by
 unfold Oper.wp execOp
 simp only [ho, hx, hy, Instr.storeAt, Instr.sureAddr, Sem.run_bind, Sem.run_pure, Result.andThen_ok, run_storeVar_at w g of t ty cur cells hg hfit hi h1]
 exact h
theorem wpList_store_at {ops : Array Oper} {rest : List Oper} {o : Oper} {a : Act} {w : World} {Q : Exit → Act → World → Prop} (hgd : o.guard = none) (ty : TypeId) (x y : Operand) (ho : o.op = .store ty x y)
  (g of : Nat) (cells : Array Value) (hx : a.eval x = .pointer (some ⟨g, of, none⟩)) (hy : a.eval y = .agg cells)
  (t : TypeId) (cur : Array Value) (hg : w.heap[g]? = some (.cells cur t (0, 0))) (hi : (P.info? ty).map (·.size) = some cells.size)
  (hfit : of + cells.size ≤ cur.size) (h1 : cells.all (·.oneCell') = true)
  (h : wpList P ops Q rest (a.put o.dst undef) (w.setRow g (cur.toList.take of ++ cells.toList ++ cur.toList.drop (of + cells.size)).toArray)) : wpList P ops Q (o :: rest) a w :=
 wpList_plain hgd fun _ hK => wp_store_at ty x y ho g of cells hx hy t cur hg hi hfit h1 (hK _ _ h)
end
end Go.Proofs.Ytlopkdhblfibkaa.Sched
namespace Go.Proofs.Ytlopkdhblfibkaa.CronN
open Go Go.RowKit Go.Proofs.YtlopkdhblfibkaaW.PrintWords Go.Proofs.YtlopkdhblfibkaaW.PrintLast Go.Proofs.Ytlopkdhblfibkaa.Cal Go.Proofs.Ytlopkdhblfibkaa.Pr
open Go.Proofs.Ytlopkdhblfibkaa.Sched (wpList_store_at)
set_option linter.unusedVariables false
set_option linter.unusedSimpArgs false
def bitsK (S : Sets) : Nat → Nat | 0 => S.sec | 1 => S.min | 2 => S.hour | 3 => S.dom | 4 => S.month | _ => S.dow
def loF : Nat → Nat | 3 => 1 | 4 => 1 | _ => 0
def hiF : Nat → Nat | 0 => 59 | 1 => 59 | 2 => 23 | 3 => 31 | 4 => 12 | _ => 6
def memB (lo hi b : Nat) : Nat → Bool := fun v => decide (lo ≤ v) && (decide (v ≤ hi) && b.testBit v)
theorem low_f (k : Nat) (hk : k < 6) : spec_CronLow.f (k : Int) = some (loF k : Int) := by
 match k, hk with
 | 0, _ | 1, _ | 2, _ | 3, _ | 4, _ | 5, _ => decide
theorem high_f (k : Nat) (hk : k < 6) : spec_CronHigh.f (k : Int) = some (hiF k : Int) := by
 match k, hk with
 | 0, _ | 1, _ | 2, _ | 3, _ | 4, _ | 5, _ => decide
theorem drawn_below {w w' : World} (h : Drawn0 w w') : Below w.heap.size w w' := by
 first
  | exact h
  | (obtain ⟨n, rfl⟩ := h; exact pw_below_drewN (Below.refl _ _) n)
theorem shr_bit {b : Nat} (hb : b < 2 ^ 64) (v : Nat) : (bits .and .u64 ((b : Int) / 2 ^ v) 1 == 1) = b.testBit v := by
 have e : ((b : Int) / 2 ^ v) = ((b / 2 ^ v : Nat) : Int) := by push_cast; rfl
 have hl : b / 2 ^ v < 2 ^ 64 := Nat.lt_of_le_of_lt (Nat.div_le_self _ _) hb
 rw [e, show (1 : Int) = ((1 : Nat) : Int) from rfl, and_u64 hl (by omega), Nat.and_one_is_mod, Nat.testBit_eq_decide_div_mod_eq]
 generalize b / 2 ^ v % 2 = x
 by_cases h : x = 1
 ·simp [h]
 ·simp only [h, decide_false, beq_eq_false_iff_ne]
  omega
theorem star_ne {b : Nat} (hb : b < 2 ^ 64) : (bits .and .u64 (b : Int) 9223372036854775808 != 0) = inB b 63 := by
 have := and_u64 hb (show 2 ^ 63 < 2 ^ 64 by omega)
 rw [show ((2 ^ 63 : Nat) : Int) = 9223372036854775808 from rfl, Nat.and_comm, pow_and] at this
 rw [this]
 unfold inB
 rw [show (63 : Int).toNat = 63 from rfl]
 cases h : b.testBit 63 <;> simp
theorem lit64 : (#[.bool false, .bool false, .bool false, .bool false, .bool false, .bool false, .bool false, .bool false, .bool false, .bool false, .bool false, .bool false, .bool false, .bool false, .bool false, .bool false, .bool false, .bool false, .bool false, .bool false, .bool false, .bool false, .bool false, .bool false, .bool false, .bool false, .bool false, .bool false, .bool false, .bool false, .bool false, .bool false, .bool false, .bool false, .bool false, .bool false, .bool false, .bool false, .bool false, .bool false, .bool false, .bool false, .bool false, .bool false, .bool false, .bool false, .bool false, .bool false, .bool false, .bool false, .bool false, .bool false, .bool false, .bool false, .bool false, .bool false, .bool false, .bool false, .bool false, .bool false, .bool false, .bool false, .bool false, .bool false] : Array Value) = setCells false noSet := by kernel_rfl
theorem setCells2 (w : World) : IsSet ((w.alloc (.cells (setCells false noSet) 38)).alloc (.cells (setCells false noSet) 38)) (w.heap.size + 1) false noSet := heap_two w _ _
set_option maxRecDepth 100000 in
set_option maxHeartbeats 4000000 in
theorem setOf_any (k b : Nat) (hk : k < 6) (hb : b < 2 ^ 64) (w : World) :
  Calls Try.prog 18 #[.int .i64 k, .int .u64 b] w fun e w' => e = .returned (.agg (setCells (inB b 63) (memB (loF k) (hiF k) b))) ∧ Below w.heap.size w w' := by
 have HL : Hid (∀ w' : World, Calls Try.prog 30 #[.int .i64 k] w' fun e w2 => e = .returned (.int .i64 (loF k : Nat)) ∧ Below w'.heap.size w' w2) := Lib.hid (fun w' => (spec_CronLow.calls k (loF k) w' (low_f k hk)).mono (fun _ _ h => ⟨h.1, drawn_below h.2⟩))
 have HH : Hid (∀ w' : World, Calls Try.prog 31 #[.int .i64 k] w' fun e w2 => e = .returned (.int .i64 (hiF k : Nat)) ∧ Below w'.heap.size w' w2) := Lib.hid (fun w' => (spec_CronHigh.calls k (hiF k) w' (high_f k hk)).mono (fun _ _ h => ⟨h.1, drawn_below h.2⟩))
 have hlo : loF k ≤ 1 := by match k, hk with | 0, _ | 1, _ | 2, _ | 3, _ | 4, _ | 5, _ => decide
 have hhi : hiF k ≤ 59 ∧ 6 ≤ hiF k := by match k, hk with | 0, _ | 1, _ | 2, _ | 3, _ | 4, _ | 5, _ => decide
 generalize loF k = lo at *
 generalize hiF k = hi at *
 have hal := run_alloc_set
 go_enter Try.func18, Try.ntmps18
 go_wp2_with fail
 refine (HL.out _).mono ?_
 rintro e w1 ⟨rfl, hb1⟩
 rw [lit64] at hb1
 have HS5 := Lib.hid ((setCells2 w).below hb1)
 have HS4 := Lib.hid (((isSet_new w false noSet).below ((Below.refl _ _).alloc (Nat.le_refl _) (.cells (setCells false noSet) 38))).below hb1)
 have HB1 := Lib.hid (below_le (((Below.refl w.heap.size w).alloc (Nat.le_refl _) _).alloc (by simp) _) hb1)
 clear hb1
 go_wp2_with fail
 go_loopw [6] (fun v6 wr => ∃ v : Nat, v6 = .int .i64 v ∧ lo ≤ v ∧ v ≤ hi + 1 ∧ Hid (IsSet wr (w.heap.size + 1) false (fun i => decide (i < v) && memB lo hi b i)) ∧ Hid (IsSet wr w.heap.size false noSet) ∧ Below w.heap.size w wr) (fun v6 _ => hi + 1 - (intOf v6).toNat)
 case atStart => exact ⟨lo, rfl, by omega, by omega, Lib.hid (by
  have e : setCells false noSet = setCells false (fun i => decide (i < lo) && memB lo hi b i) := setCells_ext (fun j _ => by unfold noSet memB; by_cases h : j < lo <;> simp [h] <;> omega)
  have := HS5.out
  unfold IsSet at *
  rw [← e]
  exact this), HS4, HB1.out⟩
 case round =>
  obtain ⟨v, rfl, hv0, hv1, HS, HS0, hbr⟩ := hrel
  clear HS5 HS4 HB1
  go_wp2_with fail
  refine (HH.out _).mono ?_
  rintro e w2 ⟨rfl, hb2⟩
  have HSb := Lib.hid (HS.out.below hb2)
  have HS0b := Lib.hid (HS0.out.below hb2)
  have hbr2 := below_le hbr hb2
  by_cases hvh : v ≤ hi
  ·have hd : decide ((v : Int) ≤ hi) = true := decide_eq_true (by omega)
   have hv63 : (v : Int) < 63 := by omega
   have hvp : (0 : Int) ≤ v := by omega
   have hc := HSb.out.cellAt v (by omega)
   have hfz := HSb.out.free (v + 1)
   have hc' : w2.cell? ⟨w.heap.size + 1, 1 + v, none⟩ = some (.bool (decide (v < v) && memB lo hi b v)) := by rw [Nat.add_comm 1 v]; exact hc
   have hfz' : w2.frozen? ⟨w.heap.size + 1, 1 + v, none⟩ = false := by rw [Nat.add_comm 1 v]; exact hfz
   go_wp2_with fail
   rw [shr_bit hb, Nat.add_comm 1 v]
   refine ⟨⟨v + 1, by push_cast; rfl, by omega, by omega, Lib.hid ?_, Lib.hid (HS0b.out.other (by show w.heap.size ≠ w.heap.size + 1; omega) _), hbr2.setCell (by show w.heap.size ≤ w.heap.size + 1; omega) _⟩, by simp [intOf]; omega⟩
   have := HSb.out.put v (by omega) (b.testBit v)
   have e := setCells_ext (star := false) (p := fun i => if i = v then b.testBit v else decide (i < v) && memB lo hi b i) (q := fun i => decide (i < v + 1) && memB lo hi b i) (fun j _ => by
    show (if j = v then b.testBit v else decide (j < v) && memB lo hi b j) = (decide (j < v + 1) && memB lo hi b j)
    by_cases hj : j = v
    ·subst hj
     rw [if_pos rfl]
     unfold memB
     simp [hv0, hvh]
    ·rw [if_neg hj]
     by_cases h2 : j < v
     ·simp [h2, show j < v + 1 by omega]
     ·simp [h2, show ¬ j < v + 1 by omega])
   unfold IsSet at *
   rw [← e]
   exact this
  ·have hd : decide ((v : Int) ≤ hi) = false := decide_eq_false (by omega)
   obtain rfl : v = hi + 1 := by omega
   have hc := HSb.out.cell0
   have hfz := HSb.out.free 0
   have hsn := star_ne hb
   have HP := Lib.hid (HSb.out.putStar (inB b 63))
   have HP0 := Lib.hid (HS0b.out.other (a := ⟨w.heap.size + 1, 0, none⟩) (by show w.heap.size ≠ w.heap.size + 1; omega) (.bool (inB b 63)))
   go_wp2_with (first | (refine wpList_load_set rfl _ rfl (w.heap.size + 1) (inB b 63) _ rfl HP.out ?_) | (refine wpList_store_set rfl _ _ rfl w.heap.size (inB b 63) _ rfl rfl false noSet HP0.out ?_))
   have e := setCells_ext (star := inB b 63) (p := fun i => decide (i < hi + 1) && memB lo hi b i) (q := memB lo hi b) (fun j _ => by
    show (decide (j < hi + 1) && memB lo hi b j) = memB lo hi b j
    by_cases h : j < hi + 1
    ·simp [h]
    ·unfold memB
     simp [h, show ¬ j ≤ hi by omega])
   rw [e]
   refine bodyPost_ret (v := .agg (setCells (inB b 63) (memB lo hi b))) ?_ rfl ⟨rfl, ?_⟩
   ·exact results_cell_row (fn := Try.f18) (p := 4) rfl _ _ w.heap.size _ _ _ _ rfl (setRow_heap _ _ _ _ _ _ HP0.out) Try.underlying38 rfl (by rw [setSize, setCells_size])
   ·exact below_setRow (hbr2.setCell (by show w.heap.size ≤ w.heap.size + 1; omega) _) (Nat.le_refl _) _
def setK (S : Sets) (k : Nat) : Array Value := setCells (inB (bitsK S k) 63) (memB (loF k) (hiF k) (bitsK S k))
def rowsK (S : Sets) (j : Nat) : List Value := (List.range j).flatMap fun k => (setK S k).toList
def fieldsC (S : Sets) : Array Value := (rowsK S 6).toArray
theorem rowsK_len (S : Sets) : ∀ j, (rowsK S j).length = j * 64
 | 0 => rfl
 | j + 1 => by
  have := rowsK_len S j
  unfold rowsK at this ⊢
  rw [List.range_succ, List.flatMap_append, List.length_append, this]
  simp [setK, setCells_size]
  omega
theorem rowsK_succ (S : Sets) (j : Nat) : rowsK S (j + 1) = rowsK S j ++ (setK S j).toList := by
 unfold rowsK
 rw [List.range_succ, List.flatMap_append]
 simp
theorem fieldsC_size (S : Sets) : (fieldsC S).size = 384 := by unfold fieldsC; simp [rowsK_len]
theorem rowsK_at (S : Sets) : ∀ (n k t : Nat), k < n → t < 64 → (rowsK S n)[k * 64 + t]? = (setK S k)[t]?
 | 0, k, t, h, _ => absurd h (by omega)
 | n + 1, k, t, h, ht => by
  have hl := rowsK_len S n
  rw [rowsK_succ]
  by_cases hm : k < n
  ·rw [List.getElem?_append_left (by rw [hl]; omega)]
   exact rowsK_at S n k t hm ht
  ·obtain rfl : k = n := by omega
   rw [List.getElem?_append_right (by rw [hl]; omega), hl, show k * 64 + t - k * 64 = t by omega]
   simp
theorem fieldsC_star (S : Sets) (k : Nat) (hk : k < 6) : (fieldsC S)[k * 64]? = some (.bool (inB (bitsK S k) 63)) := by
 have := rowsK_at S 6 k 0 hk (by omega)
 rw [Nat.add_zero] at this
 unfold fieldsC
 rw [List.getElem?_toArray, this]
 exact setCells_zero _ _
theorem fieldsC_at (S : Sets) (k v : Nat) (hk : k < 6) (hv : v < 63) : (fieldsC S)[k * 64 + (v + 1)]? = some (.bool (memB (loF k) (hiF k) (bitsK S k) v)) := by
 have := rowsK_at S 6 k (v + 1) hk (by omega)
 unfold fieldsC
 rw [List.getElem?_toArray, this]
 exact setCells_at _ _ v hv
theorem fieldsC_one (S : Sets) : (fieldsC S).all (·.oneCell') = true := by
 rw [Array.all_eq_true_iff_forall_mem]
 intro v hv
 unfold fieldsC rowsK at hv
 simp only [List.mem_toArray, List.mem_flatMap] at hv
 obtain ⟨k, _, hv⟩ := hv
 exact (Array.all_eq_true_iff_forall_mem.1 (setCells_one (inB (bitsK S k) 63) (memB (loF k) (hiF k) (bitsK S k)))) v (by simpa [setK] using hv)
theorem zeroC_size : Try.zeroCells40.size = 384 := by kernel_rfl
theorem fieldsSize : (Try.prog.info? 40).map (·.size) = some 384 := by kernel_rfl
def fillC (Z : Array Value) (S : Sets) (j : Nat) : Array Value := (rowsK S j ++ Z.toList.drop (j * 64)).toArray
theorem fillC_size (Z : Array Value) (hZ : Z.size = 384) (S : Sets) (j : Nat) (hj : j ≤ 6) : (fillC Z S j).size = 384 := by
 unfold fillC
 simp only [List.size_toArray, List.length_append, rowsK_len, List.length_drop, Array.length_toList, hZ]
 omega
theorem fillC_step (Z : Array Value) (S : Sets) (j : Nat) (hj : j < 6) : ((fillC Z S j).toList.take (j * 64) ++ (setK S j).toList ++ (fillC Z S j).toList.drop (j * 64 + (setK S j).size)).toArray = fillC Z S (j + 1) := by
 have hl := rowsK_len S j
 unfold fillC
 congr 1
 rw [rowsK_succ, show (setK S j).size = 64 from setCells_size _ _]
 show List.take (j * 64) (rowsK S j ++ List.drop (j * 64) Z.toList) ++ (setK S j).toList ++ List.drop (j * 64 + 64) (rowsK S j ++ List.drop (j * 64) Z.toList) = _
 rw [← hl, List.take_left, List.drop_append, List.drop_drop, hl]
 have e1 : List.drop (j * 64 + 64) (rowsK S j) = [] := List.drop_eq_nil_of_le (by rw [hl]; omega)
 rw [e1]
 congr 2
 show List.drop _ _ = _
 congr 1
 omega
set_option maxRecDepth 100000 in
set_option maxHeartbeats 4000000 in
theorem fieldsOfE_any (ev : Bool) (d : Int) (S : Sets) (hS : S.ok) (w : World) :
  Calls Try.prog 9 #[.agg #[.bool ev, .int .i64 d, .int .u64 (S.sec : Int), .int .u64 (S.min : Int), .int .u64 (S.hour : Int), .int .u64 (S.dom : Int), .int .u64 (S.month : Int), .int .u64 (S.dow : Int)]] w fun e w' => e = .returned (.agg (fieldsC S)) ∧ Below w.heap.size w w' := by
 have HSO : Hid (∀ (k : Nat) (w' : World), k < 6 → Calls Try.prog 18 #[.int .i64 k, .int .u64 (bitsK S k : Nat)] w' fun e w2 => e = .returned (.agg (setK S k)) ∧ Below w'.heap.size w' w2) := Lib.hid (fun k w' hk => setOf_any k (bitsK S k) hk (by
  obtain ⟨h1, h2, h3, h4, h5, h6⟩ := hS
  match k, hk with
  | 0, _ => exact h1
  | 1, _ => exact h2
  | 2, _ => exact h3
  | 3, _ => exact h4
  | 4, _ => exact h5
  | 5, _ => exact h6) w')
 go_enter Try.func9, Try.ntmps9
 go_wp2_with fail
 have hr3 : Hid ((((w.alloc (.cells #[.bool ev, .int .i64 d, .int .u64 (S.sec : Int), .int .u64 (S.min : Int), .int .u64 (S.hour : Int), .int .u64 (S.dom : Int), .int .u64 (S.month : Int), .int .u64 (S.dow : Int)] 24)).alloc (.cells Try.zeroCells40 40)).alloc (.cells Try.zeroCells40 40)).heap[w.heap.size + 1 + 1]? = some (.cells (fillC Try.zeroCells40 S 0) 40 (0, 0))) := Lib.hid (by
  have e : fillC Try.zeroCells40 S 0 = Try.zeroCells40 := by simp [fillC, rowsK]
  rw [e]
  have := heap_two (w.alloc (.cells #[.bool ev, .int .i64 d, .int .u64 (S.sec : Int), .int .u64 (S.min : Int), .int .u64 (S.hour : Int), .int .u64 (S.dom : Int), .int .u64 (S.month : Int), .int .u64 (S.dow : Int)] 24)) (.cells Try.zeroCells40 40) (.cells Try.zeroCells40 40)
  simpa using this)
 have hr2 : Hid ((((w.alloc (.cells #[.bool ev, .int .i64 d, .int .u64 (S.sec : Int), .int .u64 (S.min : Int), .int .u64 (S.hour : Int), .int .u64 (S.dom : Int), .int .u64 (S.month : Int), .int .u64 (S.dow : Int)] 24)).alloc (.cells Try.zeroCells40 40)).alloc (.cells Try.zeroCells40 40)).heap[w.heap.size + 1]? = some (.cells Try.zeroCells40 40 (0, 0))) := Lib.hid (by
  rw [Below.heap_alloc _ _ _ (by simp)]
  exact heap_two w _ _)
 have hb0 : Below w.heap.size w (((w.alloc (.cells #[.bool ev, .int .i64 d, .int .u64 (S.sec : Int), .int .u64 (S.min : Int), .int .u64 (S.hour : Int), .int .u64 (S.dom : Int), .int .u64 (S.month : Int), .int .u64 (S.dow : Int)] 24)).alloc (.cells Try.zeroCells40 40)).alloc (.cells Try.zeroCells40 40)) := ((((Below.refl _ _).alloc (Nat.le_refl _) _).alloc (by simp) _).alloc (by simp; try omega) _)
 go_loopw [19] (fun v19 wr => ∃ j : Nat, v19 = .int .i64 j ∧ j ≤ 6 ∧ Hid (wr.heap[w.heap.size + 1 + 1]? = some (.cells (fillC Try.zeroCells40 S j) 40 (0, 0))) ∧ Hid (wr.heap[w.heap.size + 1]? = some (.cells Try.zeroCells40 40 (0, 0))) ∧ Below w.heap.size w wr) (fun v19 _ => 6 - (intOf v19).toNat)
 case atStart => exact ⟨0, rfl, by omega, hr3, hr2, hb0⟩
 case round =>
  obtain ⟨j, rfl, hj, HR, HR2, hbr⟩ := hrel
  clear hr3 hr2 hb0
  by_cases h6 : j < 6
  ·have hix : ∀ w' : World, (Instr.index 54 (.agg #[.int .u64 (S.sec : Int), .int .u64 (S.min : Int), .int .u64 (S.hour : Int), .int .u64 (S.dom : Int), .int .u64 (S.month : Int), .int .u64 (S.dow : Int)]) (.int .i64 (j : Int))).run Try.prog w' = .ok (.int .u64 (bitsK S j : Nat)) w' := by
    intro w'
    match j, h6 with
    | 0, _ | 1, _ | 2, _ | 3, _ | 4, _ | 5, _ => rfl
   have hjl : (j : Int) < 6 := by omega
   have hj0 : (0 : Int) ≤ j := by omega
   have hd : decide ((j : Int) < 6) = true := decide_eq_true hjl
   go_wp2_with fail
   refine (HSO.out j _ h6).mono ?_
   rintro e w2 ⟨rfl, hb2⟩
   have hr := (hb2.block _ (Array.getElem?_eq_some_iff.1 HR.out).1).trans HR.out
   have hr2 := Lib.hid ((hb2.block _ (Array.getElem?_eq_some_iff.1 HR2.out).1).trans HR2.out)
   have hbr2 := below_le hbr hb2
   have HST := Lib.hid (fillC_step Try.zeroCells40 S j h6)
   have HRR := Lib.hid hr
   clear hb2 hr
   go_wp2_with (refine wpList_store_at rfl 38 _ _ rfl (w.heap.size + 1 + 1) (j * 64) (setK S j) rfl rfl 40 _ HRR.out (by rw [setSize]; exact congrArg some (setCells_size _ _).symm) (by rw [fillC_size _ zeroC_size S j (by omega), show (setK S j).size = 64 from setCells_size _ _]; omega) (setCells_one _ _) ?_)
   refine ⟨⟨j + 1, by push_cast; rfl, by omega, Lib.hid ?_, Lib.hid ((setRow_other _ _ _ _ (by omega)).trans hr2.out), below_setRow hbr2 (by omega) _⟩, by simp [intOf]; omega⟩
   rw [← List.append_assoc, HST.out]
   exact setRow_heap _ _ _ _ _ _ HRR.out
  ·obtain rfl : j = 6 := by omega
   have e : fillC Try.zeroCells40 S 6 = fieldsC S := by
    unfold fillC fieldsC
    rw [List.drop_eq_nil_of_le (by rw [Array.length_toList, zeroC_size]; decide), List.append_nil]
   have HRE := Lib.hid (HR.out)
   rw [e] at HRE
   go_wp2_with (first | (refine wpList_load_row rfl 40 _ rfl (w.heap.size + 1 + 1) rfl _ _ _ _ HRE.out Try.underlying40 rfl (by rw [fieldsSize, fieldsC_size]) ?_) | (refine wpList_store_row rfl 40 _ _ rfl (w.heap.size + 1) (fieldsC S) rfl rfl 40 _ HR2.out (by rw [fieldsSize, fieldsC_size]) (by rw [fieldsC_size, zeroC_size]) (fieldsC_one S) ?_))
   refine bodyPost_ret (v := .agg (fieldsC S)) ?_ rfl ⟨rfl, ?_⟩
   ·exact results_cell_row (fn := Try.f9) (p := 2) rfl _ _ (w.heap.size + 1) _ _ _ _ rfl (setRow_heap _ _ _ _ _ _ HR2.out) Try.underlying40 rfl (by rw [fieldsSize, fieldsC_size])
   ·exact below_setRow hbr (by omega) _
theorem fieldsOf_any (d : Int) (S : Sets) (hS : S.ok) (w : World) :
 Calls Try.prog 9 #[.agg (setsCells d S)] w fun e w' => e = .returned (.agg (fieldsC S)) ∧ Below w.heap.size w w' := fieldsOfE_any false d S hS w
end Go.Proofs.Ytlopkdhblfibkaa.CronN
