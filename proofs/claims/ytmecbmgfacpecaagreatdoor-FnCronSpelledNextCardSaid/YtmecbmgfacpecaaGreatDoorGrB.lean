/- Lemmas and walks on the way to the law, merged by wip/tools/pack.py: Time4, Time5, Match, NextC, NextS, NextF. Conditions: none. -/
import Derived.Test.YtmecbmgfacpecaaGreatDoorGrA
import Derived.ScopeJumps
import Derived.LoopTactic
namespace Go.Proofs.YtmecbmgfacpecaaGreatDoor.Cal
open Go Go.RowKit Go.Proofs.YtmecbmgfacpecaaGreatDoorW.PrintWords Go.Proofs.YtmecbmgfacpecaaGreatDoorW.PrintLast
set_option linter.unusedVariables false
set_option linter.unusedSimpArgs false
theorem heap_two (w : World) (o o' : Obj) : ((w.alloc o).alloc o').heap[w.heap.size + 1]? = some o' := by
 have := heap_alloc_new (w.alloc o) o'
 rw [show (w.alloc o).heap.size = w.heap.size + 1 by simp] at this
 exact this
set_option maxRecDepth 100000 in
set_option maxHeartbeats 4000000 in
theorem addDate_any {l : Option Addr} {off : Int} {Inv : World → Prop} {Loc : World → Nat → Prop} (H : Clock l off Inv Loc) (dm dd e : Int) (w : World) (he : EOk e) (hI : Inv w)
  (hy0 : 0 ≤ yearL (e - 62135596800 + off)) (hy2 : monthL (e - 62135596800 + off) < 3 → 1 ≤ yearL (e - 62135596800 + off)) (hy1 : yearL (e - 62135596800 + off) ≤ 10100) (hd : dm = 1 ∧ dd = 0 ∨ dm = 0 ∧ dd = 1) :
  Calls Tryz.prog 255 #[tv 0 e l, .int .i64 0, .int .i64 dm, .int .i64 dd] w fun e' w' =>
   e' = .returned (tv 0 (dayGo (yearL (e - 62135596800 + off)) (monthL (e - 62135596800 + off) + dm) (mdayL (e - 62135596800 + off) + dd) * 86400 + (hourL (e - 62135596800 + off) * 3600 + minL (e - 62135596800 + off) * 60 + secL (e - 62135596800 + off)) + 62135596800 - off) l) ∧ Below w.heap.size w w' := by
 obtain ⟨hv, -⟩ := date_L (e - 62135596800 + off)
 have hmd := mdays_bd (yearL (e - 62135596800 + off)) (monthL (e - 62135596800 + off))
 have hh : 0 ≤ hourL (e - 62135596800 + off) ∧ hourL (e - 62135596800 + off) < 24 ∧ 0 ≤ minL (e - 62135596800 + off) ∧ minL (e - 62135596800 + off) < 60 ∧ 0 ≤ secL (e - 62135596800 + off) ∧ secL (e - 62135596800 + off) < 60 := by unfold hourL minL secL; omega
 have HD := Lib.hid (fun w' hI' => tDate_any H.abs 0 e w' (by omega) (by omega) he hI')
 have HC := Lib.hid (fun w' hI' => tClock_any H.abs 0 e w' (by omega) (by omega) he hI')
 obtain ⟨v1, v2, v3, v4⟩ := hv
 have HI0 := Lib.hid (fun o o' => H.abs.keeps hI ((((Below.refl w.heap.size w).alloc (Nat.le_refl _) o).alloc (by simp) o')))
 generalize yearL (e - 62135596800 + off) = y at *
 generalize monthL (e - 62135596800 + off) = m at *
 generalize mdayL (e - 62135596800 + off) = d at *
 generalize hourL (e - 62135596800 + off) = h at *
 generalize minL (e - 62135596800 + off) = mi at *
 generalize secL (e - 62135596800 + off) = s at *
 obtain ⟨h0, h1, mi0, mi1, s0, s1⟩ := hh
 have b1 : 1 ≤ m + dm := by omega
 have b2 : m + dm ≤ 13 := by omega
 have b3 : 1 ≤ d + dd := by omega
 have b4 : d + dd ≤ 40 := by omega
 have e1 : wrap64 (m + dm) = m + dm := by unfold wrap64; omega
 have e2 : wrap64 (d + dd) = d + dd := by unfold wrap64; omega
 have e3 : wrap64 y = y := by unfold wrap64; omega
 have HDT : Hid (∀ (k : Nat) (w' : World), Loc w' k → Calls Tryz.prog 254 #[.int .i64 (wrap64 y), .int .i64 (wrap64 (m + dm)), .int .i64 (wrap64 (d + dd)), .int .i64 h, .int .i64 mi, .int .i64 s, .int .i64 (wrap64 0), .pointer (some ⟨k, 0, none⟩)] w'
   fun e w2 => e = .returned (tv 0 (dayGo y (m + dm) (d + dd) * 86400 + (h * 3600 + mi * 60 + s) + 62135596800 - off) l) ∧ Below w'.heap.size w' w2) := Lib.hid (by
  intro k w' hk
  rw [e1, e2, e3, show wrap64 0 = 0 by unfold wrap64; omega]
  exact H.date k y (m + dm) (d + dd) h mi s w' (by omega) hy1 (by omega) (by omega) (by omega) (by omega) (by omega) h0 h1 mi0 mi1 s0 s1 hk)
 have HLOC := Lib.hid (fun w' hI' => H.loc 0 e w' hI')
 clear hI e1 e2 e3
 unfold tv at HD HC HDT HLOC ⊢
 go_enter Tryz.func255, Tryz.ntmps255
 go_wp2_with fail
 refine (HD.out _ (HI0.out _ _)).mono ?_
 rintro e' w1 ⟨rfl, hb1⟩
 have HB1 := Lib.hid (below_le (((Below.refl w.heap.size w).alloc (Nat.le_refl _) _).alloc (by simp) _) hb1)
 have hrow := (hb1.block w.heap.size (by simp; omega)).trans ((((Below.refl _ _).alloc (Nat.le_refl _) _).block w.heap.size (by simp)).trans (heap_alloc_new w (.cells #[.int .u64 0, .int .i64 e, .pointer l] 127)))
 have hres := (hb1.block (w.heap.size + 1) (by simp)).trans (heap_two w (.cells #[.int .u64 0, .int .i64 e, .pointer l] 127) (.cells #[.int .u64 0, .int .i64 0, .pointer none] 127))
 have HI1 := Lib.hid (H.abs.keeps (HI0.out _ _) hb1)
 have c0 : w1.cell? ⟨w.heap.size, 0, none⟩ = some (.int .u64 0) := cell_of_row _ _ _ _ _ _ hrow
 have c1 : w1.cell? ⟨w.heap.size, 1, none⟩ = some (.int .i64 e) := cell_of_row _ _ _ _ _ _ hrow
 have c2 : w1.cell? ⟨w.heap.size, 2, none⟩ = some (.pointer l) := cell_of_row _ _ _ _ _ _ hrow
 have HROW := Lib.hid hrow
 have HRES := Lib.hid hres
 clear hb1 hrow hres
 go_wp2_with fail
 refine (HC.out _ HI1.out).mono ?_
 rintro e' wo ⟨rfl, hbo⟩
 have hrow := (hbo.block _ (Array.getElem?_eq_some_iff.1 HROW.out).1).trans HROW.out
 have hres := (hbo.block _ (Array.getElem?_eq_some_iff.1 HRES.out).1).trans HRES.out
 have HI := Lib.hid (H.abs.keeps HI1.out hbo)
 have HBO := Lib.hid (below_le HB1.out hbo)
 clear hbo HI1 HB1 HROW HRES c0 c1 c2 HD HC HI0
 go_upto_region 3 with fail
 refine start_ (n := 18) (S := fun w' => w'.heap[w.heap.size]? = some (.cells #[.int .u64 0, .int .i64 e, .pointer l] 127 (0, 0)) ∧ Below wo.heap.size wo w') (ds := [17]) #[false, false, false, false, false, false, false, false, false, false, false, false, false, false, false, false, false, false] (by kernel_rfl) rfl rfl ⟨hrow, (Below.refl _ _).drew⟩ (fun hHeld => ?_)
 refine pure_ (i := 0) (N := some 27) (v := ?_) (a' := ?_) #[true, false, false, false, false, false, false, false, false, false, false, false, false, false, false, false, false, false] rfl rfl (by kernel_rfl) (fun _ _ _ h => h) (Or.inl ⟨by rfl, ?_⟩) ?_ ?_
 rotate_left
 ·intro w'
  go_simp
  with_reducible rfl
 rotate_left
 ·simp only [Act.put, List.setIfInBounds_toArray, List.set_cons_zero, List.set_cons_succ, i64_w, i32_w]
  rfl
 refine pure_ (i := 1) (N := some 28) (v := ?_) (a' := ?_) #[true, true, false, false, false, false, false, false, false, false, false, false, false, false, false, false, false, false] rfl rfl (by kernel_rfl) (fun _ _ _ h => h) (Or.inl ⟨by rfl, ?_⟩) ?_ ?_
 rotate_left
 ·intro w'
  go_simp
  with_reducible rfl
 rotate_left
 ·simp only [Act.put, List.setIfInBounds_toArray, List.set_cons_zero, List.set_cons_succ, i64_w, i32_w]
  rfl
 refine pure_ (i := 2) (N := some 29) (v := ?_) (a' := ?_) #[true, true, true, false, false, false, false, false, false, false, false, false, false, false, false, false, false, false] rfl rfl (by kernel_rfl) (fun _ _ _ h => h) (Or.inl ⟨by rfl, ?_⟩) ?_ ?_
 rotate_left
 ·intro w'
  go_simp
  with_reducible rfl
 rotate_left
 ·simp only [Act.put, List.setIfInBounds_toArray, List.set_cons_zero, List.set_cons_succ, i64_w, i32_w]
  rfl
 refine pure_ (i := 3) (N := some 30) (v := ?_) (a' := ?_) #[true, true, true, true, false, false, false, false, false, false, false, false, false, false, false, false, false, false] rfl rfl (by kernel_rfl) (fun _ _ _ h => h) (Or.inl ⟨by rfl, ?_⟩) ?_ ?_
 rotate_left
 ·intro w'
  go_simp
  with_reducible rfl
 rotate_left
 ·simp only [Act.put, List.setIfInBounds_toArray, List.set_cons_zero, List.set_cons_succ, i64_w, i32_w]
  rfl
 refine pure_ (i := 4) (N := some 31) (v := ?_) (a' := ?_) #[true, true, true, true, true, false, false, false, false, false, false, false, false, false, false, false, false, false] rfl rfl (by kernel_rfl) (fun _ _ _ h => h) (Or.inl ⟨by rfl, ?_⟩) ?_ ?_
 rotate_left
 ·intro w'
  go_simp
  with_reducible rfl
 rotate_left
 ·simp only [Act.put, List.setIfInBounds_toArray, List.set_cons_zero, List.set_cons_succ, i64_w, i32_w]
  rfl
 refine pure_ (i := 5) (N := some 32) (v := ?_) (a' := ?_) #[true, true, true, true, true, true, false, false, false, false, false, false, false, false, false, false, false, false] rfl rfl (by kernel_rfl) (fun _ _ _ h => h) (Or.inl ⟨by rfl, ?_⟩) ?_ ?_
 rotate_left
 ·intro w'
  go_simp
  with_reducible rfl
 rotate_left
 ·simp only [Act.put, List.setIfInBounds_toArray, List.set_cons_zero, List.set_cons_succ, i64_w, i32_w]
  rfl
 refine pure_ (i := 6) (N := some 33) (v := ?_) (a' := ?_) #[true, true, true, true, true, true, true, false, false, false, false, false, false, false, false, false, false, false] rfl rfl (by kernel_rfl) (fun _ _ _ h => h) (Or.inl ⟨by rfl, ?_⟩) ?_ ?_
 rotate_left
 ·intro w'
  go_simp
  with_reducible rfl
 rotate_left
 ·simp only [Act.put, List.setIfInBounds_toArray, List.set_cons_zero, List.set_cons_succ, i64_w, i32_w]
  rfl
 refine pure_ (i := 7) (N := some 34) (v := ?_) (a' := ?_) #[true, true, true, true, true, true, true, true, false, false, false, false, false, false, false, false, false, false] rfl rfl (by kernel_rfl) (fun _ _ _ h => h) (Or.inl ⟨by rfl, ?_⟩) ?_ ?_
 rotate_left
 ·intro w'
  go_simp
  with_reducible rfl
 rotate_left
 ·simp only [Act.put, List.setIfInBounds_toArray, List.set_cons_zero, List.set_cons_succ, i64_w, i32_w]
  rfl
 refine pure_ (i := 8) (N := some 35) (v := ?_) (a' := ?_) #[true, true, true, true, true, true, true, true, true, false, false, false, false, false, false, false, false, false] rfl rfl (by kernel_rfl) (fun _ _ _ h => h) (Or.inl ⟨by rfl, ?_⟩) ?_ ?_
 rotate_left
 ·intro w'
  go_simp
  with_reducible rfl
 rotate_left
 ·simp only [Act.put, List.setIfInBounds_toArray, List.set_cons_zero, List.set_cons_succ, i64_w, i32_w]
  rfl
 refine pure_ (i := 9) (N := some 36) (v := ?_) (a' := ?_) #[true, true, true, true, true, true, true, true, true, true, false, false, false, false, false, false, false, false] rfl rfl (by kernel_rfl) (fun _ _ _ h => h) (Or.inl ⟨by rfl, ?_⟩) ?_ ?_
 rotate_left
 ·intro w'
  go_simp
  with_reducible rfl
 rotate_left
 ·simp only [Act.put, List.setIfInBounds_toArray, List.set_cons_zero, List.set_cons_succ, i64_w, i32_w]
  rfl
 refine pure_ (i := 10) (N := some 37) (v := ?_) (a' := ?_) #[true, true, true, true, true, true, true, true, true, true, true, false, false, false, false, false, false, false] rfl rfl (by kernel_rfl) (fun _ _ _ h => h) (Or.inl ⟨by rfl, ?_⟩) ?_ ?_
 rotate_left
 ·intro w'
  go_simp
  with_reducible rfl
 rotate_left
 ·simp only [Act.put, List.setIfInBounds_toArray, List.set_cons_zero, List.set_cons_succ, i64_w, i32_w]
  rfl
 refine pure_ (i := 11) (N := some 38) (v := ?_) (a' := ?_) #[true, true, true, true, true, true, true, true, true, true, true, true, false, false, false, false, false, false] rfl rfl (by kernel_rfl) (fun _ _ _ h => h) (Or.inl ⟨by rfl, ?_⟩) ?_ ?_
 rotate_left
 ·intro w'
  go_simp
  with_reducible rfl
 rotate_left
 ·simp only [Act.put, List.setIfInBounds_toArray, List.set_cons_zero, List.set_cons_succ, i64_w, i32_w]
  rfl
 refine take_ (i := 14) (N := some 41) (v := ?_) (a' := ?_) #[true, true, true, true, true, true, true, true, true, true, true, true, false, false, true, false, false, false] rfl rfl (by kernel_rfl) (fun _ _ _ h => h) (Or.inl ⟨by rfl, ?_⟩) hHeld ?_ ?_
 rotate_left
 ·rintro w' ⟨s0, s1⟩
  have c0 : w'.cell? ⟨w.heap.size, 0, none⟩ = some (.int .u64 0) := cell_of_row _ _ _ _ _ _ s0
  have c1 : w'.cell? ⟨w.heap.size, 1, none⟩ = some (.int .i64 e) := cell_of_row _ _ _ _ _ _ s0
  have c2 : w'.cell? ⟨w.heap.size, 2, none⟩ = some (.pointer l) := cell_of_row _ _ _ _ _ _ s0
  go_simp
  with_reducible rfl
 rotate_left
 ·simp only [Act.put, List.setIfInBounds_toArray, List.set_cons_zero, List.set_cons_succ, i64_w, i32_w]
  rfl
 refine one_ (i := 12) (N := some 39) #[true, true, true, true, true, true, true, true, true, true, true, true, true, false, true, false, false, false] rfl rfl (by kernel_rfl) (by decide) (fun K hK => ?_)
 refine goes_ Tryz.func195 (by kernel_rfl) rfl #[.pointer (some ⟨w.heap.size, 0, none⟩)] (by rfl) rfl rfl (by simp only [List.map_toArray, List.map_cons, List.map_nil]; rfl) ?_
 with_reducible refine (nsec_any w.heap.size 0 _ (by omega) (by omega) (cell_of_row _ _ _ _ _ _ hHeld.1)).mono ?_
 rintro e3 w3 ⟨rfl, rfl⟩
 refine ⟨_, rfl, ?_⟩
 refine hK.out _ _ ⟨hHeld.1, hHeld.2⟩ (fun hHeld => ?_)
 clear hK K
 refine norm_ (a' := ?_) ?_ ?_
 rotate_left
 ·show Act.put _ (some 39) _ = _
  simp only [Act.put, List.setIfInBounds_toArray, List.set_cons_zero, List.set_cons_succ, i64_w, i32_w]
  rfl
 refine pure_ (i := 13) (N := some 40) (v := ?_) (a' := ?_) #[true, true, true, true, true, true, true, true, true, true, true, true, true, true, true, false, false, false] rfl rfl (by kernel_rfl) (fun _ _ _ h => h) (Or.inl ⟨by rfl, ?_⟩) ?_ ?_
 rotate_left
 ·intro w'
  go_simp
  with_reducible rfl
 rotate_left
 ·simp only [Act.put, List.setIfInBounds_toArray, List.set_cons_zero, List.set_cons_succ, i64_w, i32_w]
  rfl
 refine one_ (i := 15) (N := some 42) #[true, true, true, true, true, true, true, true, true, true, true, true, true, true, true, true, false, false] rfl rfl (by kernel_rfl) (by decide) (fun K hK => ?_)
 refine goes_ Tryz.func250 (by kernel_rfl) rfl #[.agg #[.int .u64 0, .int .i64 e, .pointer l]] (by rfl) rfl rfl (by simp only [List.map_toArray, List.map_cons, List.map_nil]; rfl) ?_
 with_reducible refine (HLOC.out _ (H.abs.keeps HI.out hHeld.2)).mono ?_
 rintro e5 w5 ⟨k, rfl, hk, hb5⟩
 refine ⟨_, rfl, ?_⟩
 refine hK.out _ _ ⟨(hb5.block _ (Array.getElem?_eq_some_iff.1 hHeld.1).1).trans hHeld.1, below_le hHeld.2 hb5⟩ (fun hHeld => ?_)
 clear hK K
 refine norm_ (a' := ?_) ?_ ?_
 rotate_left
 ·show Act.put _ (some 42) _ = _
  simp only [Act.put, List.setIfInBounds_toArray, List.set_cons_zero, List.set_cons_succ, i64_w, i32_w]
  rfl
 refine one_ (i := 16) (N := some 43) #[true, true, true, true, true, true, true, true, true, true, true, true, true, true, true, true, true, false] rfl rfl (by kernel_rfl) (by decide) (fun K hK => ?_)
 refine goes_ Tryz.func254 (by kernel_rfl) rfl #[.int .i64 (wrap64 y), .int .i64 (wrap64 (m + dm)), .int .i64 (wrap64 (d + dd)), .int .i64 h, .int .i64 mi, .int .i64 s, .int .i64 (wrap64 0), .pointer (some ⟨k, 0, none⟩)] (by rfl) rfl rfl (by simp only [List.map_toArray, List.map_cons, List.map_nil]; rfl) ?_
 with_reducible refine (HDT.out k _ hk).mono ?_
 rintro e6 w6 ⟨rfl, hb6⟩
 refine ⟨_, rfl, ?_⟩
 refine hK.out _ _ ⟨(hb6.block _ (Array.getElem?_eq_some_iff.1 hHeld.1).1).trans hHeld.1, below_le hHeld.2 hb6⟩ (fun hHeld => ?_)
 clear hK K
 refine norm_ (a' := ?_) ?_ ?_
 rotate_left
 ·show Act.put _ (some 43) _ = _
  simp only [Act.put, List.setIfInBounds_toArray, List.set_cons_zero, List.set_cons_succ, i64_w, i32_w]
  rfl
 refine last_ (i := 17) (N := none) #[true, true, true, true, true, true, true, true, true, true, true, true, true, true, true, true, true, true] rfl rfl (by kernel_rfl) (by decide) (fun K hK => ?_)
 rw [if_pos (by rfl)]
 refine wp_store_row 127 _ _ rfl (w.heap.size + 1) #[.int .u64 0, .int .i64 (dayGo y (m + dm) (d + dd) * 86400 + (h * 3600 + mi * 60 + s) + 62135596800 - off), .pointer l] rfl rfl 127 #[.int .u64 0, .int .i64 0, .pointer none] ((hHeld.2.block _ (Array.getElem?_eq_some_iff.1 hres).1).trans hres) timeSize rfl (by simp [Value.oneCell']) ?_
 refine hK.out _ _ ?_
 clear hK K
 refine done_ (by kernel_rfl) ?_
 go_wp2_with fail
 have hres6 := (hHeld.2.block _ (Array.getElem?_eq_some_iff.1 hres).1).trans hres
 refine bodyPost_ret (v := .agg #[.int .u64 0, .int .i64 (dayGo y (m + dm) (d + dd) * 86400 + (h * 3600 + mi * 60 + s) + 62135596800 - off), .pointer l]) ?_ rfl ⟨rfl, ?_⟩
 ·exact results_time rfl _ _ (w.heap.size + 1) _ rfl rfl (setRow_heap _ _ _ _ _ _ hres6)
 ·exact below_setRow (below_le HBO.out hHeld.2) (by omega) _
end Go.Proofs.YtmecbmgfacpecaaGreatDoor.Cal
namespace Go.Proofs.YtmecbmgfacpecaaGreatDoor.Cal
open Go Go.RowKit Go.Proofs.YtmecbmgfacpecaaGreatDoorW.PrintWords Go.Proofs.YtmecbmgfacpecaaGreatDoorW.PrintLast
set_option linter.unusedVariables false
set_option linter.unusedSimpArgs false
set_option maxRecDepth 100000 in
set_option maxHeartbeats 4000000 in
theorem div60_any (e : Int) (l : Option Addr) (h0 : 0 ≤ e) (h1 : e ≤ 900000000000) (w : World) :
  Calls Tryz.prog 275 #[tv 0 e l, .int .i64 60000000000] w fun e' w' => (∃ v, e' = .returned (.tuple #[v, .int .i64 (e % 60 * 1000000000)])) ∧ Below w.heap.size w w' := by
 have HN := Lib.hid (fun (g : Nat) w' hc => nsec_any g 0 w' (by omega) (by omega) hc)
 have HS := Lib.hid (fun (g : Nat) w' hc hc1 => sec_any g 0 e w' (by omega) (by omega) hc hc1)
 have hd : decide (e < 0) = false := decide_eq_false (by omega)
 unfold tv
 go_enter Tryz.func275, Tryz.ntmps275
 go_wp2_with fail
 refine (HN.out w.heap.size _ (by simp [go_sem])).mono ?_
 rintro e' w1 ⟨rfl, rfl⟩
 go_wp2_with fail
 refine (HS.out w.heap.size _ (by simp [go_sem]) (by simp [go_sem])).mono ?_
 rintro e' w1 ⟨rfl, rfl⟩
 go_wp2_with fail
 go_ret2
 exact ⟨⟨_, rfl⟩, (Below.refl _ _).alloc (Nat.le_refl _) _⟩
set_option maxRecDepth 100000 in
set_option maxHeartbeats 4000000 in
theorem div1_any (e : Int) (l : Option Addr) (h0 : 0 ≤ e) (h1 : e ≤ 900000000000) (w : World) :
  Calls Tryz.prog 275 #[tv 0 e l, .int .i64 1000000000] w fun e' w' => (∃ v, e' = .returned (.tuple #[v, .int .i64 0])) ∧ Below w.heap.size w w' := by
 have HN := Lib.hid (fun (g : Nat) w' hc => nsec_any g 0 w' (by omega) (by omega) hc)
 have HS := Lib.hid (fun (g : Nat) w' hc hc1 => sec_any g 0 e w' (by omega) (by omega) hc hc1)
 have hd : decide (e < 0) = false := decide_eq_false (by omega)
 unfold tv
 go_enter Tryz.func275, Tryz.ntmps275
 go_wp2_with fail
 refine (HN.out w.heap.size _ (by simp [go_sem])).mono ?_
 rintro e' w1 ⟨rfl, rfl⟩
 go_wp2_with fail
 refine (HS.out w.heap.size _ (by simp [go_sem]) (by simp [go_sem])).mono ?_
 rintro e' w1 ⟨rfl, rfl⟩
 go_wp2_with fail
 go_ret2
 exact ⟨⟨_, rfl⟩, (Below.refl _ _).alloc (Nat.le_refl _) _⟩
set_option maxRecDepth 100000 in
set_option maxHeartbeats 4000000 in
theorem trunc60_any (e : Int) (l : Option Addr) (h0 : 0 ≤ e) (h1 : e ≤ 900000000000) (w : World) :
  Calls Tryz.prog 259 #[tv 0 e l, .int .i64 60000000000] w fun e' w' => e' = .returned (tv 0 (e - e % 60) l) ∧ Below w.heap.size w w' := by
 have HT := Lib.hid (fun (g : Nat) w' hc => strip_any g 0 w' (by omega) (by omega) hc)
 have HD := Lib.hid (fun w' => div60_any e l h0 h1 w')
 have HA : Hid (∀ w', Calls Tryz.prog 251 #[tv 0 e l, .int .i64 (-(e % 60 * 1000000000))] w' fun e' w2 => e' = .returned (tv 0 (e - e % 60) l) ∧ Below w'.heap.size w' w2) := Lib.hid (fun w' => by
  have := addWhole_any (-(e % 60)) e l (by omega) h1 (by omega) (by omega) w'
  rw [show 1000000000 * -(e % 60) = -(e % 60 * 1000000000) by omega] at this
  exact this)
 unfold tv at HD HA ⊢
 go_enter Tryz.func259, Tryz.ntmps259
 go_wp2_with fail
 refine (HT.out w.heap.size _ (by simp [go_sem])).mono ?_
 rintro e' w1 ⟨rfl, rfl⟩
 go_wp2_with fail
 refine (HD.out _).mono ?_
 rintro e' w2 ⟨⟨v, rfl⟩, hb2⟩
 have hrow := (hb2.block w.heap.size (by simp; omega)).trans ((((Below.refl _ _).alloc (Nat.le_refl _) _).block w.heap.size (by simp)).trans (heap_alloc_new w (.cells #[.int .u64 0, .int .i64 e, .pointer l] 127)))
 have HRES := Lib.hid ((hb2.block (w.heap.size + 1) (by simp)).trans (heap_two w (.cells #[.int .u64 0, .int .i64 e, .pointer l] 127) (.cells #[.int .u64 0, .int .i64 0, .pointer none] 127)))
 have HB2 := Lib.hid (below_le (((Below.refl w.heap.size w).alloc (Nat.le_refl _) _).alloc (by simp) _) hb2)
 have c0 : w2.cell? ⟨w.heap.size, 0, none⟩ = some (.int .u64 0) := cell_of_row _ _ _ _ _ _ hrow
 have c1 : w2.cell? ⟨w.heap.size, 1, none⟩ = some (.int .i64 e) := cell_of_row _ _ _ _ _ _ hrow
 have c2 : w2.cell? ⟨w.heap.size, 2, none⟩ = some (.pointer l) := cell_of_row _ _ _ _ _ _ hrow
 clear hb2 hrow HD HT
 go_wp2_with fail
 refine (HA.out _).mono ?_
 rintro e' w3 ⟨rfl, hb3⟩
 have HR3 := Lib.hid ((hb3.block _ (Array.getElem?_eq_some_iff.1 HRES.out).1).trans HRES.out)
 have HB3 := Lib.hid (below_le HB2.out hb3)
 clear hb3 c0 c1 c2
 go_wp2_with (refine wpList_store_row rfl 127 _ _ rfl (w.heap.size + 1) #[.int .u64 0, .int .i64 (e - e % 60), .pointer l] rfl rfl 127 _ HR3.out timeSize rfl (by simp [Value.oneCell']) ?_)
 refine bodyPost_ret (v := .agg #[.int .u64 0, .int .i64 (e - e % 60), .pointer l]) ?_ rfl ⟨rfl, ?_⟩
 ·exact results_time rfl _ _ (w.heap.size + 1) _ rfl rfl (setRow_heap _ _ _ _ _ _ HR3.out)
 ·exact below_setRow HB3.out (by omega) _
set_option maxRecDepth 100000 in
set_option maxHeartbeats 4000000 in
theorem trunc1_any (e : Int) (l : Option Addr) (h0 : 0 ≤ e) (h1 : e ≤ 900000000000) (w : World) :
  Calls Tryz.prog 259 #[tv 0 e l, .int .i64 1000000000] w fun e' w' => e' = .returned (tv 0 (e) l) ∧ Below w.heap.size w w' := by
 have HT := Lib.hid (fun (g : Nat) w' hc => strip_any g 0 w' (by omega) (by omega) hc)
 have HD := Lib.hid (fun w' => div1_any e l h0 h1 w')
 have HA : Hid (∀ w', Calls Tryz.prog 251 #[tv 0 e l, .int .i64 0] w' fun e' w2 => e' = .returned (tv 0 e l) ∧ Below w'.heap.size w' w2) := Lib.hid (fun w' => by
  have := addWhole_any 0 e l (by omega) h1 (by omega) (by omega) w'
  rw [show (1000000000 : Int) * 0 = 0 by omega, Int.add_zero] at this
  exact this)
 unfold tv at HD HA ⊢
 go_enter Tryz.func259, Tryz.ntmps259
 go_wp2_with fail
 refine (HT.out w.heap.size _ (by simp [go_sem])).mono ?_
 rintro e' w1 ⟨rfl, rfl⟩
 go_wp2_with fail
 refine (HD.out _).mono ?_
 rintro e' w2 ⟨⟨v, rfl⟩, hb2⟩
 have hrow := (hb2.block w.heap.size (by simp; omega)).trans ((((Below.refl _ _).alloc (Nat.le_refl _) _).block w.heap.size (by simp)).trans (heap_alloc_new w (.cells #[.int .u64 0, .int .i64 e, .pointer l] 127)))
 have HRES := Lib.hid ((hb2.block (w.heap.size + 1) (by simp)).trans (heap_two w (.cells #[.int .u64 0, .int .i64 e, .pointer l] 127) (.cells #[.int .u64 0, .int .i64 0, .pointer none] 127)))
 have HB2 := Lib.hid (below_le (((Below.refl w.heap.size w).alloc (Nat.le_refl _) _).alloc (by simp) _) hb2)
 have c0 : w2.cell? ⟨w.heap.size, 0, none⟩ = some (.int .u64 0) := cell_of_row _ _ _ _ _ _ hrow
 have c1 : w2.cell? ⟨w.heap.size, 1, none⟩ = some (.int .i64 e) := cell_of_row _ _ _ _ _ _ hrow
 have c2 : w2.cell? ⟨w.heap.size, 2, none⟩ = some (.pointer l) := cell_of_row _ _ _ _ _ _ hrow
 clear hb2 hrow HD HT
 go_wp2_with fail
 refine (HA.out _).mono ?_
 rintro e' w3 ⟨rfl, hb3⟩
 have HR3 := Lib.hid ((hb3.block _ (Array.getElem?_eq_some_iff.1 HRES.out).1).trans HRES.out)
 have HB3 := Lib.hid (below_le HB2.out hb3)
 clear hb3 c0 c1 c2
 go_wp2_with (refine wpList_store_row rfl 127 _ _ rfl (w.heap.size + 1) #[.int .u64 0, .int .i64 (e), .pointer l] rfl rfl 127 _ HR3.out timeSize rfl (by simp [Value.oneCell']) ?_)
 refine bodyPost_ret (v := .agg #[.int .u64 0, .int .i64 (e), .pointer l]) ?_ rfl ⟨rfl, ?_⟩
 ·exact results_time rfl _ _ (w.heap.size + 1) _ rfl rfl (setRow_heap _ _ _ _ _ _ HR3.out)
 ·exact below_setRow HB3.out (by omega) _
end Go.Proofs.YtmecbmgfacpecaaGreatDoor.Cal
namespace Go.Proofs.YtmecbmgfacpecaaGreatDoor.Cal
open Go Go.RowKit Go.Proofs.YtmecbmgfacpecaaGreatDoorW.PrintWords Go.Proofs.YtmecbmgfacpecaaGreatDoorW.PrintLast
set_option linter.unusedVariables false
set_option linter.unusedSimpArgs false
theorem and_u64 {a b : Nat} (ha : a < 2 ^ 64) (hb : b < 2 ^ 64) : bits .and .u64 (a : Int) (b : Int) = ((a &&& b : Nat) : Int) := by
 have e : IntKind.u64.bits = 64 := rfl
 unfold bits
 rw [e]
 show IntKind.u64.wrap ((BitVec.ofInt 64 (a : Int) &&& BitVec.ofInt 64 (b : Int)).toNat : Int) = _
 rw [BitVec.ofInt_natCast, BitVec.ofInt_natCast, BitVec.toNat_and, BitVec.toNat_ofNat, BitVec.toNat_ofNat, Nat.mod_eq_of_lt ha, Nat.mod_eq_of_lt hb, IntKind.wrap_u64]
 have : a &&& b < 2 ^ 64 := Nat.lt_of_le_of_lt Nat.and_le_left ha
 omega
theorem shl_one {d : Int} (h0 : 0 ≤ d) (h1 : d < 64) : IntKind.u64.wrap (2 ^ min (IntKind.u64.wrap d).toNat 64) = ((2 ^ d.toNat : Nat) : Int) := by
 have e : IntKind.u64.wrap d = d := by rw [IntKind.wrap_u64]; omega
 have hlt : 2 ^ d.toNat < 2 ^ 64 := Nat.pow_lt_pow_right (by omega) (by omega)
 have hm : min d.toNat 64 = d.toNat := Nat.min_eq_left (by omega)
 rw [e, hm, IntKind.wrap_u64]
 have hc : ((2 : Int) ^ d.toNat) = ((2 ^ d.toNat : Nat) : Int) := by push_cast; rfl
 rw [hc]
 generalize 2 ^ d.toNat = n at *
 omega
theorem pow_and (b d : Nat) : 2 ^ d &&& b = if b.testBit d = true then 2 ^ d else 0 := by
 apply Nat.eq_of_testBit_eq
 intro i
 rw [Nat.testBit_and, Nat.testBit_two_pow]
 by_cases hi : d = i
 ·subst hi
  cases h : b.testBit d <;> simp [h]
 ·cases h : b.testBit d <;> simp [hi, h, Nat.testBit_two_pow]
theorem bit_and {b : Nat} {d : Int} (hb : b < 2 ^ 64) (h0 : 0 ≤ d) (h1 : d < 64) : bits .and .u64 (IntKind.u64.wrap (2 ^ min (IntKind.u64.wrap d).toNat 64)) (b : Int) = if inB b d = true then ((2 ^ d.toNat : Nat) : Int) else 0 := by
 have hlt : 2 ^ d.toNat < 2 ^ 64 := Nat.pow_lt_pow_right (by omega) (by omega)
 rw [shl_one h0 h1, and_u64 hlt hb, pow_and]
 unfold inB
 split <;> rfl
theorem bit_gt {b : Nat} {d : Int} (hb : b < 2 ^ 64) (h0 : 0 ≤ d) (h1 : d < 64) : decide (0 < bits .and .u64 (IntKind.u64.wrap (2 ^ min (IntKind.u64.wrap d).toNat 64)) (b : Int)) = inB b d := by
 rw [bit_and hb h0 h1]
 have : 0 < 2 ^ d.toNat := Nat.two_pow_pos _
 cases h : inB b d
 ·simp
 ·simp only [if_true, decide_eq_true_eq]
  omega
theorem bit_eq {b : Nat} {d : Int} (hb : b < 2 ^ 64) (h0 : 0 ≤ d) (h1 : d < 64) : (bits .and .u64 (IntKind.u64.wrap (2 ^ min (IntKind.u64.wrap d).toNat 64)) (b : Int) == 0) = !inB b d := by
 rw [bit_and hb h0 h1]
 have : 0 < 2 ^ d.toNat := Nat.two_pow_pos _
 cases h : inB b d
 ·simp
 ·simp only [if_true, Bool.not_true, beq_eq_false_iff_ne]
  generalize 2 ^ d.toNat = n at *
  omega
theorem star_gt {b : Nat} (hb : b < 2 ^ 64) : decide (0 < bits .and .u64 (b : Int) 9223372036854775808) = inB b 63 := by
 have := and_u64 hb (show 2 ^ 63 < 2 ^ 64 by omega)
 rw [show ((2 ^ 63 : Nat) : Int) = 9223372036854775808 from rfl, Nat.and_comm, pow_and] at this
 rw [this]
 unfold inB
 rw [show (63 : Int).toNat = 63 from rfl]
 cases h : b.testBit 63 <;> simp
def SpecRow (w : World) (g : Nat) (S : Sets) (loc : Option Addr) : Prop :=
 w.heap[g]? = some (.cells #[.int .u64 (S.sec : Int), .int .u64 (S.min : Int), .int .u64 (S.hour : Int), .int .u64 (S.dom : Int), .int .u64 (S.month : Int), .int .u64 (S.dow : Int), .pointer loc] 171 (0, 0))
theorem SpecRow.below {w w' : World} {g : Nat} {S : Sets} {loc : Option Addr} (h : SpecRow w g S loc) (hb : Below w.heap.size w w') : SpecRow w' g S loc := (hb.block g (Array.getElem?_eq_some_iff.1 h).1).trans h
def Sets.ok (S : Sets) : Prop := S.sec < 2 ^ 64 ∧ S.min < 2 ^ 64 ∧ S.hour < 2 ^ 64 ∧ S.dom < 2 ^ 64 ∧ S.month < 2 ^ 64 ∧ S.dow < 2 ^ 64
set_option maxRecDepth 100000 in
set_option maxHeartbeats 4000000 in
theorem dayMatches_any {l : Option Addr} {off : Int} {Inv : World → Prop} {Loc : World → Nat → Prop} (H : Clock l off Inv Loc) (S : Sets) (hS : S.ok) (g : Nat) (loc : Option Addr) (e : Int) (w : World) (he : EOk e) (hI : Inv w) (hg : SpecRow w g S loc) :
  Calls Tryz.prog 256 #[.pointer (some ⟨g, 0, none⟩), tv 0 e l] w fun e' w' => e' = .returned (.bool (dayB S (e - 62135596800 + off))) ∧ Below w.heap.size w w' := by
 obtain ⟨hv, -⟩ := date_L (e - 62135596800 + off)
 have hmd := mdays_bd (yearL (e - 62135596800 + off)) (monthL (e - 62135596800 + off))
 have hw : 0 ≤ wdL (e - 62135596800 + off) ∧ wdL (e - 62135596800 + off) < 7 := by unfold wdL; omega
 have HD := Lib.hid (fun w' hI' => tDay_any H.abs 0 e w' (by omega) (by omega) he hI')
 have HW := Lib.hid (fun w' hI' => tWeekday_any H.abs 0 e w' (by omega) (by omega) he hI')
 unfold dayB
 obtain ⟨v1, v2, v3, v4⟩ := hv
 generalize mdayL (e - 62135596800 + off) = d at *
 generalize wdL (e - 62135596800 + off) = wd at *
 have d1 : 1 ≤ d := v3
 have d2 : d ≤ 31 := by omega
 clear v1 v2 v3 v4 hmd
 have HI := Lib.hid hI
 have HG := Lib.hid hg
 have hgl : g < w.heap.size := (Array.getElem?_eq_some_iff.1 hg).1
 clear hI hg
 unfold tv at HD HW ⊢
 go_enter Tryz.func256, Tryz.ntmps256
 go_upto_region 1 with fail
 generalize hW0 : World.alloc w _ = wo
 have hbo : Below w.heap.size w wo := by rw [← hW0]; exact (Below.refl _ _).alloc (Nat.le_refl _) _
 have hrow : wo.heap[w.heap.size]? = some (.cells #[.int .u64 0, .int .i64 e, .pointer l] 127 (0, 0)) := by rw [← hW0]; exact heap_alloc_new w _
 have hspec : SpecRow wo g S loc := HG.out.below hbo
 clear hW0
 refine start_ (n := 11) (S := fun w' => w'.heap[w.heap.size]? = some (.cells #[.int .u64 0, .int .i64 e, .pointer l] 127 (0, 0)) ∧ SpecRow w' g S loc ∧ Below wo.heap.size wo w') (ds := []) #[false, false, false, false, false, false, false, false, false, false, false] (by kernel_rfl) rfl rfl ⟨hrow, hspec, (Below.refl _ _).drew⟩ (fun hHeld => ?_)
 refine pure_ (i := 4) (N := some 11) (v := ?_) (a' := ?_) #[false, false, false, false, true, false, false, false, false, false, false] rfl rfl (by kernel_rfl) (fun _ _ _ h => h) (Or.inl ⟨by rfl, ?_⟩) ?_ ?_
 rotate_left
 ·intro w'
  go_simp
  with_reducible rfl
 rotate_left
 ·simp only [Act.put, List.setIfInBounds_toArray, List.set_cons_zero, List.set_cons_succ, i64_w, i32_w]
  rfl
 refine pure_ (i := 5) (N := some 12) (v := ?_) (a' := ?_) #[false, false, false, false, true, true, false, false, false, false, false] rfl rfl (by kernel_rfl) (fun _ _ _ h => h) (Or.inl ⟨by rfl, ?_⟩) ?_ ?_
 rotate_left
 ·intro w'
  go_simp
  with_reducible rfl
 rotate_left
 ·simp only [Act.put, List.setIfInBounds_toArray, List.set_cons_zero, List.set_cons_succ, i64_w, i32_w]
  rfl
 refine pure_ (i := 6) (N := some 13) (v := ?_) (a' := ?_) #[false, false, false, false, true, true, true, false, false, false, false] rfl rfl (by kernel_rfl) (fun _ _ _ h => h) (Or.inl ⟨by rfl, ?_⟩) ?_ ?_
 rotate_left
 ·intro w'
  go_simp
  with_reducible rfl
 rotate_left
 ·simp only [Act.put, List.setIfInBounds_toArray, List.set_cons_zero, List.set_cons_succ, i64_w, i32_w]
  rfl
 refine take_ (i := 0) (N := some 7) (v := ?_) (a' := ?_) #[true, false, false, false, true, true, true, false, false, false, false] rfl rfl (by kernel_rfl) (fun _ _ _ h => h) (Or.inl ⟨by rfl, ?_⟩) hHeld ?_ ?_
 rotate_left
 ·rintro w' ⟨s0, s1, s2⟩
  have c0 : w'.cell? ⟨w.heap.size, 0, none⟩ = some (.int .u64 0) := cell_of_row _ _ _ _ _ _ s0
  have c1 : w'.cell? ⟨w.heap.size, 1, none⟩ = some (.int .i64 e) := cell_of_row _ _ _ _ _ _ s0
  have c2 : w'.cell? ⟨w.heap.size, 2, none⟩ = some (.pointer l) := cell_of_row _ _ _ _ _ _ s0
  go_simp
  with_reducible rfl
 rotate_left
 ·simp only [Act.put, List.setIfInBounds_toArray, List.set_cons_zero, List.set_cons_succ, i64_w, i32_w]
  rfl
 refine take_ (i := 7) (N := some 14) (v := ?_) (a' := ?_) #[true, false, false, false, true, true, true, true, false, false, false] rfl rfl (by kernel_rfl) (fun _ _ _ h => h) (Or.inl ⟨by rfl, ?_⟩) hHeld ?_ ?_
 rotate_left
 ·rintro w' ⟨s0, s1, s2⟩
  have c3 : w'.cell? ⟨g, 3, none⟩ = some (.int .u64 (S.dom : Int)) := cell_of_row _ _ _ _ _ _ s1
  go_simp
  with_reducible rfl
 rotate_left
 ·simp only [Act.put, List.setIfInBounds_toArray, List.set_cons_zero, List.set_cons_succ, i64_w, i32_w]
  rfl
 refine one_ (i := 1) (N := some 8) #[true, true, false, false, true, true, true, true, false, false, false] rfl rfl (by kernel_rfl) (by decide) (fun K hK => ?_)
 refine goes_ Tryz.func248 (by kernel_rfl) rfl #[.agg #[.int .u64 0, .int .i64 e, .pointer l]] (by rfl) rfl rfl (by simp only [List.map_toArray, List.map_cons, List.map_nil]; rfl) ?_
 with_reducible refine (HD.out _ (H.abs.keeps (H.abs.keeps HI.out hbo) hHeld.2.2)).mono ?_
 rintro e3 w3 ⟨rfl, hb3⟩
 refine ⟨_, rfl, ?_⟩
 refine hK.out _ _ ⟨(hb3.block _ (Array.getElem?_eq_some_iff.1 hHeld.1).1).trans hHeld.1, hHeld.2.1.below hb3, below_le hHeld.2.2 hb3⟩ (fun hHeld => ?_)
 clear hK K
 refine norm_ (a' := ?_) ?_ ?_
 rotate_left
 ·show Act.put _ (some 8) _ = _
  simp only [Act.put, List.setIfInBounds_toArray, List.set_cons_zero, List.set_cons_succ, i64_w, i32_w]
  rfl
 refine pure_ (i := 2) (N := some 9) (v := ?_) (a' := ?_) #[true, true, true, false, true, true, true, true, false, false, false] rfl rfl (by kernel_rfl) (fun _ _ _ h => h) (Or.inl ⟨by rfl, ?_⟩) ?_ ?_
 rotate_left
 ·intro w'
  go_simp
  with_reducible rfl
 rotate_left
 ·simp only [Act.put, List.setIfInBounds_toArray, List.set_cons_zero, List.set_cons_succ, i64_w, i32_w]
  rfl
 refine pure_ (i := 3) (N := some 10) (v := ?_) (a' := ?_) #[true, true, true, true, true, true, true, true, false, false, false] rfl rfl (by kernel_rfl) (fun _ _ _ h => h) (Or.inl ⟨by rfl, ?_⟩) ?_ ?_
 rotate_left
 ·intro w'
  go_simp
  with_reducible rfl
 rotate_left
 ·simp only [Act.put, List.setIfInBounds_toArray, List.set_cons_zero, List.set_cons_succ, i64_w, i32_w]
  rfl
 refine pure_ (i := 8) (N := some 15) (v := ?_) (a' := ?_) #[true, true, true, true, true, true, true, true, true, false, false] rfl rfl (by kernel_rfl) (fun _ _ _ h => h) (Or.inl ⟨by rfl, ?_⟩) ?_ ?_
 rotate_left
 ·intro w'
  go_simp
  with_reducible rfl
 rotate_left
 ·simp only [Act.put, List.setIfInBounds_toArray, List.set_cons_zero, List.set_cons_succ, i64_w, i32_w]
  rfl
 refine pure_ (i := 9) (N := some 16) (v := ?_) (a' := ?_) #[true, true, true, true, true, true, true, true, true, true, false] rfl rfl (by kernel_rfl) (fun _ _ _ h => h) (Or.inl ⟨by rfl, ?_⟩) ?_ ?_
 rotate_left
 ·intro w'
  go_simp
  with_reducible rfl
 rotate_left
 ·simp only [Act.put, List.setIfInBounds_toArray, List.set_cons_zero, List.set_cons_succ, i64_w, i32_w]
  rfl
 refine pure_ (i := 10) (N := some 5) (v := ?_) (a' := ?_) #[true, true, true, true, true, true, true, true, true, true, true] rfl rfl (by kernel_rfl) (fun _ _ _ h => h) (Or.inl ⟨by rfl, ?_⟩) ?_ ?_
 rotate_left
 ·intro w'
  go_simp
  with_reducible rfl
 rotate_left
 ·simp only [Act.put, List.setIfInBounds_toArray, List.set_cons_zero, List.set_cons_succ, i64_w, i32_w]
  rfl
 refine done_ (by kernel_rfl) ?_
 obtain ⟨hr1, hs1, hB1⟩ := hHeld
 have hl1 := below_le hbo hB1
 rw [bit_gt hS.2.2.2.1 (by omega) (by omega)]
 clear hrow hspec
 generalize IntKind.u64.wrap (2 ^ min (IntKind.u64.wrap d).toNat 64) = junk
 go_upto_region 2 with fail
 refine start_ (n := 11) (S := fun w' => w'.heap[w.heap.size]? = some (.cells #[.int .u64 0, .int .i64 e, .pointer l] 127 (0, 0)) ∧ SpecRow w' g S loc ∧ Below w.heap.size w w') (ds := []) #[false, false, false, false, false, false, false, false, false, false, false] (by kernel_rfl) rfl rfl ⟨hr1, hs1, hl1.drew⟩ (fun hHeld => ?_)
 refine pure_ (i := 4) (N := some 21) (v := ?_) (a' := ?_) #[false, false, false, false, true, false, false, false, false, false, false] rfl rfl (by kernel_rfl) (fun _ _ _ h => h) (Or.inl ⟨by rfl, ?_⟩) ?_ ?_
 rotate_left
 ·intro w'
  go_simp
  with_reducible rfl
 rotate_left
 ·simp only [Act.put, List.setIfInBounds_toArray, List.set_cons_zero, List.set_cons_succ, i64_w, i32_w]
  rfl
 refine pure_ (i := 5) (N := some 22) (v := ?_) (a' := ?_) #[false, false, false, false, true, true, false, false, false, false, false] rfl rfl (by kernel_rfl) (fun _ _ _ h => h) (Or.inl ⟨by rfl, ?_⟩) ?_ ?_
 rotate_left
 ·intro w'
  go_simp
  with_reducible rfl
 rotate_left
 ·simp only [Act.put, List.setIfInBounds_toArray, List.set_cons_zero, List.set_cons_succ, i64_w, i32_w]
  rfl
 refine pure_ (i := 6) (N := some 23) (v := ?_) (a' := ?_) #[false, false, false, false, true, true, true, false, false, false, false] rfl rfl (by kernel_rfl) (fun _ _ _ h => h) (Or.inl ⟨by rfl, ?_⟩) ?_ ?_
 rotate_left
 ·intro w'
  go_simp
  with_reducible rfl
 rotate_left
 ·simp only [Act.put, List.setIfInBounds_toArray, List.set_cons_zero, List.set_cons_succ, i64_w, i32_w]
  rfl
 refine take_ (i := 0) (N := some 17) (v := ?_) (a' := ?_) #[true, false, false, false, true, true, true, false, false, false, false] rfl rfl (by kernel_rfl) (fun _ _ _ h => h) (Or.inl ⟨by rfl, ?_⟩) hHeld ?_ ?_
 rotate_left
 ·rintro w' ⟨s0, s1, s2⟩
  have c0 : w'.cell? ⟨w.heap.size, 0, none⟩ = some (.int .u64 0) := cell_of_row _ _ _ _ _ _ s0
  have c1 : w'.cell? ⟨w.heap.size, 1, none⟩ = some (.int .i64 e) := cell_of_row _ _ _ _ _ _ s0
  have c2 : w'.cell? ⟨w.heap.size, 2, none⟩ = some (.pointer l) := cell_of_row _ _ _ _ _ _ s0
  go_simp
  with_reducible rfl
 rotate_left
 ·simp only [Act.put, List.setIfInBounds_toArray, List.set_cons_zero, List.set_cons_succ, i64_w, i32_w]
  rfl
 refine take_ (i := 7) (N := some 24) (v := ?_) (a' := ?_) #[true, false, false, false, true, true, true, true, false, false, false] rfl rfl (by kernel_rfl) (fun _ _ _ h => h) (Or.inl ⟨by rfl, ?_⟩) hHeld ?_ ?_
 rotate_left
 ·rintro w' ⟨s0, s1, s2⟩
  have c3 : w'.cell? ⟨g, 5, none⟩ = some (.int .u64 (S.dow : Int)) := cell_of_row _ _ _ _ _ _ s1
  go_simp
  with_reducible rfl
 rotate_left
 ·simp only [Act.put, List.setIfInBounds_toArray, List.set_cons_zero, List.set_cons_succ, i64_w, i32_w]
  rfl
 refine one_ (i := 1) (N := some 18) #[true, true, false, false, true, true, true, true, false, false, false] rfl rfl (by kernel_rfl) (by decide) (fun K hK => ?_)
 refine goes_ Tryz.func274 (by kernel_rfl) rfl #[.agg #[.int .u64 0, .int .i64 e, .pointer l]] (by rfl) rfl rfl (by simp only [List.map_toArray, List.map_cons, List.map_nil]; rfl) ?_
 with_reducible refine (HW.out _ (H.abs.keeps HI.out hHeld.2.2)).mono ?_
 rintro e4 w4 ⟨rfl, hb4⟩
 refine ⟨_, rfl, ?_⟩
 refine hK.out _ _ ⟨(hb4.block _ (Array.getElem?_eq_some_iff.1 hHeld.1).1).trans hHeld.1, hHeld.2.1.below hb4, below_le hHeld.2.2 hb4⟩ (fun hHeld => ?_)
 clear hK K
 refine norm_ (a' := ?_) ?_ ?_
 rotate_left
 ·show Act.put _ (some 18) _ = _
  simp only [Act.put, List.setIfInBounds_toArray, List.set_cons_zero, List.set_cons_succ, i64_w, i32_w]
  rfl
 refine pure_ (i := 2) (N := some 19) (v := ?_) (a' := ?_) #[true, true, true, false, true, true, true, true, false, false, false] rfl rfl (by kernel_rfl) (fun _ _ _ h => h) (Or.inl ⟨by rfl, ?_⟩) ?_ ?_
 rotate_left
 ·intro w'
  go_simp
  with_reducible rfl
 rotate_left
 ·simp only [Act.put, List.setIfInBounds_toArray, List.set_cons_zero, List.set_cons_succ, i64_w, i32_w]
  rfl
 refine pure_ (i := 3) (N := some 20) (v := ?_) (a' := ?_) #[true, true, true, true, true, true, true, true, false, false, false] rfl rfl (by kernel_rfl) (fun _ _ _ h => h) (Or.inl ⟨by rfl, ?_⟩) ?_ ?_
 rotate_left
 ·intro w'
  go_simp
  with_reducible rfl
 rotate_left
 ·simp only [Act.put, List.setIfInBounds_toArray, List.set_cons_zero, List.set_cons_succ, i64_w, i32_w]
  rfl
 refine pure_ (i := 8) (N := some 25) (v := ?_) (a' := ?_) #[true, true, true, true, true, true, true, true, true, false, false] rfl rfl (by kernel_rfl) (fun _ _ _ h => h) (Or.inl ⟨by rfl, ?_⟩) ?_ ?_
 rotate_left
 ·intro w'
  go_simp
  with_reducible rfl
 rotate_left
 ·simp only [Act.put, List.setIfInBounds_toArray, List.set_cons_zero, List.set_cons_succ, i64_w, i32_w]
  rfl
 refine pure_ (i := 9) (N := some 26) (v := ?_) (a' := ?_) #[true, true, true, true, true, true, true, true, true, true, false] rfl rfl (by kernel_rfl) (fun _ _ _ h => h) (Or.inl ⟨by rfl, ?_⟩) ?_ ?_
 rotate_left
 ·intro w'
  go_simp
  with_reducible rfl
 rotate_left
 ·simp only [Act.put, List.setIfInBounds_toArray, List.set_cons_zero, List.set_cons_succ, i64_w, i32_w]
  rfl
 refine pure_ (i := 10) (N := some 6) (v := ?_) (a' := ?_) #[true, true, true, true, true, true, true, true, true, true, true] rfl rfl (by kernel_rfl) (fun _ _ _ h => h) (Or.inl ⟨by rfl, ?_⟩) ?_ ?_
 rotate_left
 ·intro w'
  go_simp
  with_reducible rfl
 rotate_left
 ·simp only [Act.put, List.setIfInBounds_toArray, List.set_cons_zero, List.set_cons_succ, i64_w, i32_w]
  rfl
 refine done_ (by kernel_rfl) ?_
 obtain ⟨hr2, hs2, hB2⟩ := hHeld
 rw [bit_gt hS.2.2.2.2.2 (by omega) (by omega)]
 generalize IntKind.u64.wrap (2 ^ min (IntKind.u64.wrap wd).toNat 64) = junk2
 have e1 := star_gt hS.2.2.2.1
 have e2 := star_gt hS.2.2.2.2.2
 have c3 : w4.cell? ⟨g, 3, none⟩ = some (.int .u64 (S.dom : Int)) := cell_of_row _ _ _ _ _ _ hs2
 have c5 : w4.cell? ⟨g, 5, none⟩ = some (.int .u64 (S.dow : Int)) := cell_of_row _ _ _ _ _ _ hs2
 clear hr1 hs1 hB1 hr2 hs2 hl1
 cases h1 : inB S.dom 63 <;> cases h2 : inB S.dow 63 <;> rw [h1] at e1 <;> rw [h2] at e2 <;> cases h3 : inB S.dom d <;> cases h4 : inB S.dow wd
 all_goals
  go_wp2_with fail
  all_goals
   go_ret
   exact ⟨by simp [h1, h2], hB2⟩
end Go.Proofs.YtmecbmgfacpecaaGreatDoor.Cal
namespace Go.Proofs.YtmecbmgfacpecaaGreatDoor.Cal
open Go Go.RowKit Go.Proofs.YtmecbmgfacpecaaGreatDoorW.PrintWords Go.Proofs.YtmecbmgfacpecaaGreatDoorW.PrintLast
set_option linter.unusedVariables false
set_option linter.unusedSimpArgs false
def tL (l : Option Addr) (off L : Int) : Value := tv 0 (L + 62135596800 - off) l
def LOk (off L : Int) : Prop := EOk (L + 62135596800 - off)
def YOk (L : Int) : Prop := 0 ≤ yearL L ∧ (monthL L < 3 → 1 ≤ yearL L) ∧ yearL L ≤ 10100
section
variable {l : Option Addr} {off : Int} {Inv : World → Prop} {Loc : World → Nat → Prop} (H : Clock l off Inv Loc)
include H
theorem cYear (L : Int) (w : World) (hL : LOk off L) (hI : Inv w) : Calls Tryz.prog 252 #[tL l off L] w fun e' w' => e' = .returned (.int .i64 (yearL L)) ∧ Below w.heap.size w w' := by
 have := tYear_any H.abs 0 (L + 62135596800 - off) w (by omega) (by omega) hL hI
 rw [show L + 62135596800 - off - 62135596800 + off = L by omega] at this
 exact this
theorem cMonth (L : Int) (w : World) (hL : LOk off L) (hI : Inv w) : Calls Tryz.prog 253 #[tL l off L] w fun e' w' => e' = .returned (.int .i64 (monthL L)) ∧ Below w.heap.size w w' := by
 have := tMonth_any H.abs 0 (L + 62135596800 - off) w (by omega) (by omega) hL hI
 rw [show L + 62135596800 - off - 62135596800 + off = L by omega] at this
 exact this
theorem cDay (L : Int) (w : World) (hL : LOk off L) (hI : Inv w) : Calls Tryz.prog 248 #[tL l off L] w fun e' w' => e' = .returned (.int .i64 (mdayL L)) ∧ Below w.heap.size w w' := by
 have := tDay_any H.abs 0 (L + 62135596800 - off) w (by omega) (by omega) hL hI
 rw [show L + 62135596800 - off - 62135596800 + off = L by omega] at this
 exact this
theorem cHour (L : Int) (w : World) (hL : LOk off L) (hI : Inv w) : Calls Tryz.prog 257 #[tL l off L] w fun e' w' => e' = .returned (.int .i64 (hourL L)) ∧ Below w.heap.size w w' := by
 have := tHour_any H.abs 0 (L + 62135596800 - off) w (by omega) (by omega) hL hI
 rw [show L + 62135596800 - off - 62135596800 + off = L by omega] at this
 exact this
theorem cMinute (L : Int) (w : World) (hL : LOk off L) (hI : Inv w) : Calls Tryz.prog 258 #[tL l off L] w fun e' w' => e' = .returned (.int .i64 (minL L)) ∧ Below w.heap.size w w' := by
 have := tMinute_any H.abs 0 (L + 62135596800 - off) w (by omega) (by omega) hL hI
 rw [show L + 62135596800 - off - 62135596800 + off = L by omega] at this
 exact this
theorem cSecond (L : Int) (w : World) (hL : LOk off L) (hI : Inv w) : Calls Tryz.prog 260 #[tL l off L] w fun e' w' => e' = .returned (.int .i64 (secL L)) ∧ Below w.heap.size w w' := by
 have := tSecond_any H.abs 0 (L + 62135596800 - off) w (by omega) (by omega) hL hI
 rw [show L + 62135596800 - off - 62135596800 + off = L by omega] at this
 exact this
theorem cMatch (S : Sets) (hS : S.ok) (g : Nat) (loc : Option Addr) (L : Int) (w : World) (hL : LOk off L) (hI : Inv w) (hg : SpecRow w g S loc) :
  Calls Tryz.prog 256 #[.pointer (some ⟨g, 0, none⟩), tL l off L] w fun e' w' => e' = .returned (.bool (dayB S L)) ∧ Below w.heap.size w w' := by
 have := dayMatches_any H S hS g loc (L + 62135596800 - off) w hL hI hg
 rw [show L + 62135596800 - off - 62135596800 + off = L by omega] at this
 exact this
omit H in
theorem cAdd (k L : Int) (w : World) (hL : LOk off L) (hk0 : -1000000 ≤ k) (hk1 : k ≤ 1000000) : Calls Tryz.prog 251 #[tL l off L, .int .i64 (1000000000 * k)] w fun e' w' => e' = .returned (tL l off (L + k)) ∧ Below w.heap.size w w' := by
 have := addWhole_any k (L + 62135596800 - off) l (by have := hL.1; omega) (by have := hL.2; omega) hk0 hk1 w
 rw [show L + 62135596800 - off + k = L + k + 62135596800 - off by omega] at this
 exact this
omit H in
theorem dayGo_month (X : Int) (hX : X = mFirst X * 86400) : mdayL X = 1 ∧ X % 86400 = 0 ∧ dayGo (yearL X) (monthL X + 1) 1 * 86400 = mNext X := by
 have hd := date_eq (L := X) (first_valid X) (by unfold dayL; unfold mFirst at hX; omega)
 obtain ⟨hv, -⟩ := date_L X
 obtain ⟨v1, v2, v3, v4⟩ := hv
 refine ⟨hd.2.2, by omega, ?_⟩
 unfold mNext mFirst dayGo
 generalize yearL X = y at *
 generalize monthL X = m at *
 congr 1
 split
 ·obtain rfl : m = 12 := by omega
  unfold dayOf
  rw [ystart_succ, cum_one]
  have h1 := cum_succ y 12 (by omega) (by omega)
  have h2 := cum_last y
  rw [show (12 : Int) + 1 = 13 from rfl] at h1
  omega
 ·have h1 := cum_succ y m v1 (by omega)
  unfold dayOf
  omega
theorem cAddMonth (X : Int) (w : World) (hL : LOk off X) (hI : Inv w) (hY : YOk X) (hX : X = mFirst X * 86400) : Calls Tryz.prog 255 #[tL l off X, .int .i64 0, .int .i64 1, .int .i64 0] w fun e' w' => e' = .returned (tL l off (mNext X)) ∧ Below w.heap.size w w' := by
 have := addDate_any H 1 0 (X + 62135596800 - off) w hL hI
 rw [show X + 62135596800 - off - 62135596800 + off = X by omega] at this
 obtain ⟨h1, h2, h3⟩ := dayGo_month X hX
 rw [h1, show (1 : Int) + 0 = 1 from rfl, h3, show hourL X * 3600 + minL X * 60 + secL X = 0 by unfold hourL minL secL; omega, Int.add_zero] at this
 exact this hY.1 hY.2.1 hY.2.2 (.inl ⟨rfl, rfl⟩)
theorem cAddDay (X : Int) (w : World) (hL : LOk off X) (hI : Inv w) (hY : YOk X) (hX : X % 86400 = 0) : Calls Tryz.prog 255 #[tL l off X, .int .i64 0, .int .i64 0, .int .i64 1] w fun e' w' => e' = .returned (tL l off (dNext X)) ∧ Below w.heap.size w w' := by
 have := addDate_any H 0 1 (X + 62135596800 - off) w hL hI
 rw [show X + 62135596800 - off - 62135596800 + off = X by omega] at this
 obtain ⟨hv, hd⟩ := date_L X
 have e : dayGo (yearL X) (monthL X + 0) (mdayL X + 1) * 86400 = dNext X := by
  unfold dayGo
  rw [Int.add_zero, if_neg (by have := hv.m2; omega)]
  unfold dayOf dayL at *
  unfold dNext
  omega
 rw [e, show hourL X * 3600 + minL X * 60 + secL X = 0 by unfold hourL minL secL; omega, Int.add_zero] at this
 exact this hY.1 hY.2.1 hY.2.2 (.inr ⟨rfl, rfl⟩)
theorem cDateMonth (L : Int) (k : Nat) (w : World) (hY : YOk L) (hk : Loc w k) : Calls Tryz.prog 254 #[.int .i64 (yearL L), .int .i64 (monthL L), .int .i64 1, .int .i64 0, .int .i64 0, .int .i64 0, .int .i64 0, .pointer (some ⟨k, 0, none⟩)] w fun e' w' => e' = .returned (tL l off (mFirst L * 86400)) ∧ Below w.heap.size w w' := by
 obtain ⟨hv, hd⟩ := date_L L
 obtain ⟨v1, v2, v3, v4⟩ := hv
 have := H.date k (yearL L) (monthL L) 1 0 0 0 w hY.1 hY.2.2 v1 (by omega) (by omega) (by omega) hY.2.1 (by omega) (by omega) (by omega) (by omega) (by omega) (by omega) hk
 have e : dayGo (yearL L) (monthL L) 1 = mFirst L := by unfold dayGo mFirst; rw [if_neg (by omega)]
 rw [e, show ((0 : Int) * 3600 + 0 * 60 + 0) = 0 by omega, Int.add_zero] at this
 exact this
theorem cDateDay (L : Int) (k : Nat) (w : World) (hY : YOk L) (hk : Loc w k) : Calls Tryz.prog 254 #[.int .i64 (yearL L), .int .i64 (monthL L), .int .i64 (mdayL L), .int .i64 0, .int .i64 0, .int .i64 0, .int .i64 0, .pointer (some ⟨k, 0, none⟩)] w fun e' w' => e' = .returned (tL l off (L / 86400 * 86400)) ∧ Below w.heap.size w w' := by
 obtain ⟨hv, hd⟩ := date_L L
 obtain ⟨v1, v2, v3, v4⟩ := hv
 have hb := mdays_bd (yearL L) (monthL L)
 have := H.date k (yearL L) (monthL L) (mdayL L) 0 0 0 w hY.1 hY.2.2 v1 (by omega) (by omega) (by omega) hY.2.1 (by omega) (by omega) (by omega) (by omega) (by omega) (by omega) hk
 have e : dayGo (yearL L) (monthL L) (mdayL L) = L / 86400 := by unfold dayGo; rw [if_neg (by omega)]; exact hd
 rw [e, show ((0 : Int) * 3600 + 0 * 60 + 0) = 0 by omega, Int.add_zero] at this
 exact this
theorem cDateHour (L : Int) (k : Nat) (w : World) (hY : YOk L) (hk : Loc w k) : Calls Tryz.prog 254 #[.int .i64 (yearL L), .int .i64 (monthL L), .int .i64 (mdayL L), .int .i64 (hourL L), .int .i64 0, .int .i64 0, .int .i64 0, .pointer (some ⟨k, 0, none⟩)] w fun e' w' => e' = .returned (tL l off (L / 3600 * 3600)) ∧ Below w.heap.size w w' := by
 obtain ⟨hv, hd⟩ := date_L L
 obtain ⟨v1, v2, v3, v4⟩ := hv
 have hb := mdays_bd (yearL L) (monthL L)
 have hh : 0 ≤ hourL L ∧ hourL L < 24 := by unfold hourL; omega
 have := H.date k (yearL L) (monthL L) (mdayL L) (hourL L) 0 0 w hY.1 hY.2.2 v1 (by omega) (by omega) (by omega) hY.2.1 hh.1 hh.2 (by omega) (by omega) (by omega) (by omega) hk
 have e : dayGo (yearL L) (monthL L) (mdayL L) = L / 86400 := by unfold dayGo; rw [if_neg (by omega)]; exact hd
 rw [e, show L / 86400 * 86400 + (hourL L * 3600 + 0 * 60 + 0) = L / 3600 * 3600 by unfold hourL; omega] at this
 exact this
end
end Go.Proofs.YtmecbmgfacpecaaGreatDoor.Cal
namespace Go.Proofs.YtmecbmgfacpecaaGreatDoor.Cal
open Go Go.RowKit Go.Proofs.YtmecbmgfacpecaaGreatDoorW.PrintWords Go.Proofs.YtmecbmgfacpecaaGreatDoorW.PrintLast
set_option linter.unusedVariables false
set_option linter.unusedSimpArgs false
def loops : Code → List Code
 | .seq x y => loops x ++ loops y
 | .cond _ x y => loops x ++ loops y
 | .block _ c => loops c
 | .scope c => loops c
 | .loop c => [.loop c]
 | _ => []
def loopK (c : Code) (k : Nat) : Code := ((loops c)[k]?).getD .skip
def tcells (l : Option Addr) (off L : Int) : Array Value := #[.int .u64 0, .int .i64 (L + 62135596800 - off), .pointer l]
def zcells : Array Value := #[.int .u64 0, .int .i64 0, .pointer none]
def LocS (Loc : World → Nat → Prop) : Prop := ∀ (w w' : World) (k T : Nat) (n : Int) (x y : Value), Loc w k → w.heap[T]? = some (.cells #[.int .u64 n, x, y] 127 (0, 0)) → (∀ b, b ≠ T → w'.heap[b]? = w.heap[b]?) → w.heap.size ≤ w'.heap.size → Loc w' k
theorem locS_utc : LocS UtcAt := by
 intro w w' k T n x y ⟨h1, h2, h3⟩ hT hb hs
 have hne : k ≠ T := by
  intro e
  subst e
  rw [cell_of_row _ _ _ _ _ _ hT] at h1
  simp at h1
 exact ⟨(World.cell?_of_block (hb k hne)).trans h1, (World.cell?_of_block (hb k hne)).trans h2, by omega⟩
structure St (l : Option Addr) (off : Int) (Loc : World → Nat → Prop) (w : World) (T k0 k1 : Nat) (wr : World) (L : Int) : Prop where
 row : wr.heap[T]? = some (.cells (tcells l off L) 127 (0, 0))
 res : wr.heap[T + 1]? = some (.cells zcells 127 (0, 0))
 bel : Below w.heap.size w wr
 new : w.heap.size ≤ T
 loc0 : Loc wr k0
 loc1 : Loc wr k1
theorem St.below {l : Option Addr} {off : Int} {Inv : World → Prop} {Loc : World → Nat → Prop} (H : Clock l off Inv Loc) {w : World} {T k0 k1 : Nat} {wr w' : World} {L : Int} (h : St l off Loc w T k0 k1 wr L) (hb : Below wr.heap.size wr w') : St l off Loc w T k0 k1 w' L :=
 ⟨(hb.block _ (Array.getElem?_eq_some_iff.1 h.row).1).trans h.row, (hb.block _ (Array.getElem?_eq_some_iff.1 h.res).1).trans h.res, below_le h.bel hb, h.new, H.locK h.loc0 hb, H.locK h.loc1 hb⟩
theorem St.put {l : Option Addr} {off : Int} {Loc : World → Nat → Prop} (hls : LocS Loc) {w : World} {T k0 k1 : Nat} {wr : World} {L : Int} (h : St l off Loc w T k0 k1 wr L) (X : Int) : St l off Loc w T k0 k1 (wr.setRow T (tcells l off X)) X :=
 ⟨setRow_heap _ _ _ _ _ _ h.row, (setRow_other _ _ _ _ (by omega)).trans h.res, below_setRow h.bel h.new _, h.new,
  hls wr _ k0 T _ _ _ h.loc0 h.row (fun b hb => setRow_other _ _ _ _ hb) (by simp), hls wr _ k1 T _ _ _ h.loc1 h.row (fun b hb => setRow_other _ _ _ _ hb) (by simp)⟩
structure Par (off : Int) (Inv : World → Prop) (w : World) (g : Nat) (S : Sets) (f lim : Int) : Prop where
 inv : Inv w
 spec : SpecRow w g S none
 ok : S.ok
 f0 : -62135596800 + off ≤ f
 o0 : -86400 ≤ off
 o1 : off ≤ 86400
 lim0 : yearL f ≤ lim
 lim1 : lim ≤ 10098
 y1 : 1 ≤ yearL f ∨ ∀ x, monthB S x = true
theorem year_one {L : Int} (h : -62135596800 ≤ L) : 1 ≤ yearL L := by
 have := year_mono h
 have e : yearL (-62135596800) = 1 := (date_eq (L := -62135596800) (y := 1) (m := 1) (d := 1) ⟨by omega, by omega, by omega, by decide⟩ (by decide)).1
 omega
theorem year_zero {L : Int} (h : -62135596800 - 86400 ≤ L) (h2 : L < -62135596800) : yearL L = 0 ∧ monthL L = 12 := by
 have := date_eq (L := L) (y := 0) (m := 12) (d := 31) ⟨by omega, by omega, by omega, by decide⟩ (by unfold dayL; rw [show dayOf 0 12 31 = -719163 from by decide]; omega)
 exact ⟨this.1, this.2.1⟩
theorem lim_lt {L y : Int} (h : yearL L ≤ y) : L < ystart (y + 1) * 86400 := by
 have h1 := (year_range L).2
 have := ystart_le (a := yearL L + 1) (b := y + 1) (by omega)
 omega
theorem cTrunc60 {l : Option Addr} {off : Int} (L : Int) (w : World) (h0 : 0 ≤ L + 62135596800 - off) (hL : LOk off L) (h60 : off % 60 = 0) : Calls Tryz.prog 259 #[.agg (tcells l off L), .int .i64 60000000000] w fun e' w' => e' = .returned (.agg (tcells l off (L / 60 * 60))) ∧ Below w.heap.size w w' := by
 have := trunc60_any (L + 62135596800 - off) l h0 (by have := hL.2; omega) w
 rw [show L + 62135596800 - off - (L + 62135596800 - off) % 60 = L / 60 * 60 + 62135596800 - off by omega] at this
 exact this
theorem cTrunc1 {l : Option Addr} {off : Int} (L : Int) (w : World) (h0 : 0 ≤ L + 62135596800 - off) (hL : LOk off L) : Calls Tryz.prog 259 #[.agg (tcells l off L), .int .i64 1000000000] w fun e' w' => e' = .returned (.agg (tcells l off L)) ∧ Below w.heap.size w w' :=
 trunc1_any (L + 62135596800 - off) l h0 (by have := hL.2; omega) w
section
variable {off : Int} {Inv : World → Prop} {w : World} {g : Nat} {S : Sets} {f lim : Int} (P : Par off Inv w g S f lim)
include P
theorem Par.okL {L : Int} (h : f ≤ L) (hy : yearL L ≤ lim + 1) : LOk off L ∧ YOk L := by
 have h0 := P.f0
 have h1 := P.o0
 have h2 := P.o1
 have h3 := P.lim1
 have h4 := lim_lt (L := L) (y := 10099) (by omega)
 rw [show ystart (10099 + 1) = 2969422 from by decide] at h4
 refine ⟨⟨by omega, by omega⟩, ?_⟩
 unfold YOk
 by_cases hL : -62135596800 ≤ L
 ·have := year_one hL
  exact ⟨by omega, by omega, by omega⟩
 ·have := year_zero (L := L) (by omega) (by omega)
  exact ⟨by omega, by omega, by omega⟩
theorem Par.okDay {L : Int} (h : f ≤ L) (hy : yearL L ≤ lim + 1) : LOk off (L / 86400 * 86400) ∧ YOk (L / 86400 * 86400) := by
 have hd := same_day (L := L) (x := L / 86400 * 86400) (by omega)
 have := P.okL h hy
 obtain ⟨⟨e1, e2⟩, y⟩ := this
 have h0 := P.f0
 refine ⟨⟨by omega, by omega⟩, ?_⟩
 unfold YOk at *
 rw [hd.1, hd.2.1]
 exact y
theorem Par.low {L : Int} (h : f ≤ L) : 0 ≤ L + 62135596800 - off := by have := P.f0; omega
theorem Par.okPart {L X : Int} (h : f ≤ L) (hy : yearL L ≤ lim + 1) (h1 : X ≤ L) (h2 : L / 86400 * 86400 ≤ X) : LOk off X ∧ YOk X := by
 have hd := same_day (L := L) (x := X) (by omega)
 have := P.okL h hy
 obtain ⟨⟨e1, e2⟩, y⟩ := this
 have h0 := P.f0
 refine ⟨⟨by omega, by omega⟩, ?_⟩
 unfold YOk at *
 rw [hd.1, hd.2.1]
 exact y
theorem Par.okMonth {L : Int} (h : f ≤ L) (hy : yearL L ≤ lim + 1) (hm : monthB S L = false) : LOk off (mFirst L * 86400) ∧ YOk (mFirst L * 86400) := by
 have hd := same_month (L := L) (x := mFirst L * 86400) (by omega) (by have := mNext_gt L; omega)
 obtain ⟨⟨e1, e2⟩, y⟩ := P.okL h hy
 have hg := (mNext_gt L).2
 have y1 : 1 ≤ yearL f := by
  rcases P.y1 with h | h
  ·exact h
  ·rw [h L] at hm; cases hm
 have y2 : 1 ≤ yearL (mFirst L * 86400) := by rw [hd.2]; have := year_mono h; omega
 have y3 := (year_range (mFirst L * 86400)).1
 have y4 := ystart_le y2
 rw [show ystart 1 = -719162 from by decide] at y4
 have h1 := P.o1
 refine ⟨⟨by omega, by omega⟩, ?_⟩
 unfold YOk at *
 rw [hd.1, hd.2]
 exact y
end
def muT (T : Nat) (bnd : Int) (wr : World) : Nat := (bnd - intOf ((wr.cell? ⟨T, 1, none⟩).getD undef)).toNat
theorem muT_is {l : Option Addr} {off : Int} {Loc : World → Nat → Prop} {w : World} {T k0 k1 : Nat} {wr : World} {L : Int} (h : St l off Loc w T k0 k1 wr L) (bnd : Int) : muT T bnd wr = (bnd - (L + 62135596800 - off)).toNat := by
 unfold muT
 rw [cell_of_row _ _ _ _ _ _ h.row]
 rfl
end Go.Proofs.YtmecbmgfacpecaaGreatDoor.Cal
namespace Go.Proofs.YtmecbmgfacpecaaGreatDoor.Cal
open Go Go.RowKit Go.Proofs.YtmecbmgfacpecaaGreatDoorW.PrintWords Go.Proofs.YtmecbmgfacpecaaGreatDoorW.PrintLast
set_option linter.unusedVariables false
set_option linter.unusedSimpArgs false
def Fr (g T k0 k1 : Nat) (ad : Bool) (lim : Int) (a : Act) : Prop :=
 a.defers = [] ∧ a.tmps.size = 172 ∧ a.tmps.getD 0 undef = .pointer (some ⟨g, 0, none⟩) ∧ a.tmps.getD 3 undef = .pointer (some ⟨T, 0, none⟩) ∧ a.tmps.getD 4 undef = .pointer (some ⟨T + 1, 0, none⟩) ∧ a.tmps.getD 5 undef = .pointer (some ⟨k0, 0, none⟩) ∧
  a.tmps.getD 6 undef = .pointer (some ⟨k1, 0, none⟩) ∧ a.tmps.getD 7 undef = .bool ad ∧ a.tmps.getD 8 undef = .int .i64 lim
theorem list_form (l : List Value) : ∀ n, l.length = n → l = (List.range n).map (fun i => l.getD i undef) := by
 intro n hn
 apply List.ext_getElem?
 intro i
 by_cases hi : i < n
 ·simp [hn, hi]
 ·simp [hn, hi]
set_option maxRecDepth 100000 in
theorem Fr.open {g T k0 k1 : Nat} {ad : Bool} {lim : Int} {a : Act} (h : Fr g T k0 k1 ad lim a) : ∃ u : Nat → Value,
  a = { tmps := #[.pointer (some ⟨g, 0, none⟩), u 1, u 2, .pointer (some ⟨T, 0, none⟩), .pointer (some ⟨T + 1, 0, none⟩), .pointer (some ⟨k0, 0, none⟩), .pointer (some ⟨k1, 0, none⟩), .bool ad, .int .i64 lim, u 9, u 10, u 11, u 12, u 13, u 14, u 15, u 16, u 17, u 18, u 19, u 20, u 21, u 22, u 23, u 24, u 25, u 26, u 27, u 28, u 29, u 30, u 31, u 32, u 33, u 34, u 35, u 36, u 37, u 38, u 39, u 40, u 41, u 42, u 43, u 44, u 45, u 46, u 47, u 48, u 49, u 50, u 51, u 52, u 53, u 54, u 55, u 56, u 57, u 58, u 59, u 60, u 61, u 62, u 63, u 64, u 65, u 66, u 67, u 68, u 69, u 70, u 71, u 72, u 73, u 74, u 75, u 76, u 77, u 78, u 79, u 80, u 81, u 82, u 83, u 84, u 85, u 86, u 87, u 88, u 89, u 90, u 91, u 92, u 93, u 94, u 95, u 96, u 97, u 98, u 99, u 100, u 101, u 102, u 103, u 104, u 105, u 106, u 107, u 108, u 109, u 110, u 111, u 112, u 113, u 114, u 115, u 116, u 117, u 118, u 119, u 120, u 121, u 122, u 123, u 124, u 125, u 126, u 127, u 128, u 129, u 130, u 131, u 132, u 133, u 134, u 135, u 136, u 137, u 138, u 139, u 140, u 141, u 142, u 143, u 144, u 145, u 146, u 147, u 148, u 149, u 150, u 151, u 152, u 153, u 154, u 155, u 156, u 157, u 158, u 159, u 160, u 161, u 162, u 163, u 164, u 165, u 166, u 167, u 168, u 169, u 170, u 171], defers := [] } := by
 obtain ⟨hd, hs, h0, h3, h4, h5, h6, h7, h8⟩ := h
 obtain ⟨t, d⟩ := a
 dsimp only at *
 subst hd
 refine ⟨fun i => t.getD i undef, ?_⟩
 have hl := list_form t.toList 172 (by simpa using hs)
 have he : t = ((List.range 172).map (fun i => t.toList.getD i undef)).toArray := by rw [← hl]
 have hg : ∀ i, t.toList.getD i undef = t.getD i undef := fun i => by simp [List.getD, Array.getD_eq_getD_getElem?]
 simp only [hg] at he
 rw [← h0, ← h3, ← h4, ← h5, ← h6, ← h7, ← h8]
 have e2 : ((List.range 172).map (fun i => t.getD i undef)).toArray = #[t.getD 0 undef, t.getD 1 undef, t.getD 2 undef, t.getD 3 undef, t.getD 4 undef, t.getD 5 undef, t.getD 6 undef, t.getD 7 undef, t.getD 8 undef, t.getD 9 undef, t.getD 10 undef, t.getD 11 undef, t.getD 12 undef, t.getD 13 undef, t.getD 14 undef, t.getD 15 undef, t.getD 16 undef, t.getD 17 undef, t.getD 18 undef, t.getD 19 undef, t.getD 20 undef, t.getD 21 undef, t.getD 22 undef, t.getD 23 undef, t.getD 24 undef, t.getD 25 undef, t.getD 26 undef, t.getD 27 undef, t.getD 28 undef, t.getD 29 undef, t.getD 30 undef, t.getD 31 undef, t.getD 32 undef, t.getD 33 undef, t.getD 34 undef, t.getD 35 undef, t.getD 36 undef, t.getD 37 undef, t.getD 38 undef, t.getD 39 undef, t.getD 40 undef, t.getD 41 undef, t.getD 42 undef, t.getD 43 undef, t.getD 44 undef, t.getD 45 undef, t.getD 46 undef, t.getD 47 undef, t.getD 48 undef, t.getD 49 undef, t.getD 50 undef, t.getD 51 undef, t.getD 52 undef, t.getD 53 undef, t.getD 54 undef, t.getD 55 undef, t.getD 56 undef, t.getD 57 undef, t.getD 58 undef, t.getD 59 undef, t.getD 60 undef, t.getD 61 undef, t.getD 62 undef, t.getD 63 undef, t.getD 64 undef, t.getD 65 undef, t.getD 66 undef, t.getD 67 undef, t.getD 68 undef, t.getD 69 undef, t.getD 70 undef, t.getD 71 undef, t.getD 72 undef, t.getD 73 undef, t.getD 74 undef, t.getD 75 undef, t.getD 76 undef, t.getD 77 undef, t.getD 78 undef, t.getD 79 undef, t.getD 80 undef, t.getD 81 undef, t.getD 82 undef, t.getD 83 undef, t.getD 84 undef, t.getD 85 undef, t.getD 86 undef, t.getD 87 undef, t.getD 88 undef, t.getD 89 undef, t.getD 90 undef, t.getD 91 undef, t.getD 92 undef, t.getD 93 undef, t.getD 94 undef, t.getD 95 undef, t.getD 96 undef, t.getD 97 undef, t.getD 98 undef, t.getD 99 undef, t.getD 100 undef, t.getD 101 undef, t.getD 102 undef, t.getD 103 undef, t.getD 104 undef, t.getD 105 undef, t.getD 106 undef, t.getD 107 undef, t.getD 108 undef, t.getD 109 undef, t.getD 110 undef, t.getD 111 undef, t.getD 112 undef, t.getD 113 undef, t.getD 114 undef, t.getD 115 undef, t.getD 116 undef, t.getD 117 undef, t.getD 118 undef, t.getD 119 undef, t.getD 120 undef, t.getD 121 undef, t.getD 122 undef, t.getD 123 undef, t.getD 124 undef, t.getD 125 undef, t.getD 126 undef, t.getD 127 undef, t.getD 128 undef, t.getD 129 undef, t.getD 130 undef, t.getD 131 undef, t.getD 132 undef, t.getD 133 undef, t.getD 134 undef, t.getD 135 undef, t.getD 136 undef, t.getD 137 undef, t.getD 138 undef, t.getD 139 undef, t.getD 140 undef, t.getD 141 undef, t.getD 142 undef, t.getD 143 undef, t.getD 144 undef, t.getD 145 undef, t.getD 146 undef, t.getD 147 undef, t.getD 148 undef, t.getD 149 undef, t.getD 150 undef, t.getD 151 undef, t.getD 152 undef, t.getD 153 undef, t.getD 154 undef, t.getD 155 undef, t.getD 156 undef, t.getD 157 undef, t.getD 158 undef, t.getD 159 undef, t.getD 160 undef, t.getD 161 undef, t.getD 162 undef, t.getD 163 undef, t.getD 164 undef, t.getD 165 undef, t.getD 166 undef, t.getD 167 undef, t.getD 168 undef, t.getD 169 undef, t.getD 170 undef, t.getD 171 undef] := by kernel_rfl
 rw [← e2, ← he]
theorem run_loadAt_row {P : Program} (w : World) (g : Nat) (ty t : TypeId) (cs : Array Value) (fr : Nat × Nat) (d : TypeDesc) (hg : w.heap[g]? = some (.cells cs t fr)) (hu : P.underlying ty = some d)
  (hd : (match d with | .struct _ | .array _ _ => true | _ => false) = true) (hi : (P.info? ty).map (·.size) = some cs.size) : (Instr.loadAt ty (.pointer (some ⟨g, 0, none⟩))).run P w = .ok (.agg cs) w := by
 simp only [Instr.loadAt, Instr.sureAddr, Sem.run_bind, Sem.run_pure, Result.andThen_ok, run_loadVar_row w g t ty cs fr d hg hu hd hi]
theorem exec_load_row {P : Program} (ev : Operand → Value) (oi : Oper) (w : World) (ty : TypeId) (x : Operand) (ho : oi.op = .load ty x) (g : Nat) (hx : ev x = .pointer (some ⟨g, 0, none⟩)) (t : TypeId) (cs : Array Value) (fr : Nat × Nat) (d : TypeDesc) (hg : w.heap[g]? = some (.cells cs t fr))
  (hu : P.underlying ty = some d) (hd : (match d with | .struct _ | .array _ _ => true | _ => false) = true) (hi : (P.info? ty).map (·.size) = some cs.size) : (execOp ev oi).run P w = .ok (.value (.agg cs)) w := by
 unfold execOp
 simp only [ho, hx, Sem.run_bind, Sem.run_pure, Result.andThen_ok, run_loadAt_row w g ty t cs fr d hg hu hd hi]
def only (K : Act → World → Prop) : Exit → Act → World → Prop
 | .normal, a, w => K a w
 | _, _, _ => False
theorem wp_only {P : Program} {c : Code} {K : Act → World → Prop} {Q : Exit → Act → World → Prop} {a : Act} {w : World} (h : c.wp P (only K) a w) : c.wp P (Exit.then K Q) a w :=
 Code.wp_mono (fun e a w h => by cases e <;> first | exact h | exact h.elim) h
def bndE (off lim : Int) : Int := ystart (lim + 3) * 86400 + 62135596800 - off
theorem bnd_lt {L lim : Int} (off : Int) (h : yearL L ≤ lim + 1) : L + 62135596800 - off < bndE off lim := by
 have := lim_lt h
 have := ystart_le (a := lim + 1 + 1) (b := lim + 3) (by omega)
 unfold bndE
 omega
theorem mu_less {l : Option Addr} {off : Int} {Loc : World → Nat → Prop} {w : World} {T k0 k1 : Nat} {wr w' : World} {L L' lim : Int} (h : St l off Loc w T k0 k1 wr L) (h' : St l off Loc w T k0 k1 w' L') (hy : yearL L ≤ lim + 1) (hl : L < L') : muT T (bndE off lim) w' < muT T (bndE off lim) wr := by
 rw [muT_is h, muT_is h']
 have := bnd_lt off hy
 omega
theorem tcells_one (l : Option Addr) (off L : Int) : (tcells l off L).all (·.oneCell') = true := by simp [tcells, Value.oneCell']
end Go.Proofs.YtmecbmgfacpecaaGreatDoor.Cal
