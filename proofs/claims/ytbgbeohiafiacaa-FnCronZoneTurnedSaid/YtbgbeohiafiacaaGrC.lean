/- Lemmas and walks on the way to the law, merged by wip/tools/pack.py: Time4, Time5, Match. Conditions: none. -/
import Derived.Test.YtbgbeohiafiacaaGrB
namespace Go.Proofs.Ytbgbeohiafiacaa.Cal
open Go Go.RowKit Go.Proofs.YtbgbeohiafiacaaW.PrintWords Go.Proofs.YtbgbeohiafiacaaW.PrintLast
set_option linter.unusedVariables false
set_option linter.unusedSimpArgs false

theorem heap_two (w : World) (o o' : Obj) : ((w.alloc o).alloc o').heap[w.heap.size + 1]? = some o' := by
  have := heap_alloc_new (w.alloc o) o'
  rw [show (w.alloc o).heap.size = w.heap.size + 1 by simp] at this
  exact this

set_option maxRecDepth 100000 in
set_option maxHeartbeats 4000000 in
theorem addDate_any {l : Option Addr} {off : Int} {Inv : World → Prop} {Loc : World → Nat → Prop} (H : Clock l off Inv Loc) (dm dd e : Int) (w : World) (he : EOk e) (hI : Inv w)
    (hy0 : 0 ≤ yearL (e - 62135596800 + off)) (hy2 : monthL (e - 62135596800 + off) < 3 → 1 ≤ yearL (e - 62135596800 + off)) (hy1 : yearL (e - 62135596800 + off) ≤ 10100) (hd : dm = 1 ∧ dd = 0 ∨ dm = 0 ∧ dd = 1) :
    Calls Try.prog 130 #[tv 0 e l, .int .i64 0, .int .i64 dm, .int .i64 dd] w fun e' w' =>
      e' = .returned (tv 0 (dayGo (yearL (e - 62135596800 + off)) (monthL (e - 62135596800 + off) + dm) (mdayL (e - 62135596800 + off) + dd) * 86400 + (hourL (e - 62135596800 + off) * 3600 + minL (e - 62135596800 + off) * 60 + secL (e - 62135596800 + off)) + 62135596800 - off) l) ∧ Below w.heap.size w w' := by
  obtain ⟨hv, -⟩ := date_L (e - 62135596800 + off)
  have hmd := mdays_bd (yearL (e - 62135596800 + off)) (monthL (e - 62135596800 + off))
  have hh : 0 ≤ hourL (e - 62135596800 + off) ∧ hourL (e - 62135596800 + off) < 24 ∧ 0 ≤ minL (e - 62135596800 + off) ∧ minL (e - 62135596800 + off) < 60 ∧ 0 ≤ secL (e - 62135596800 + off) ∧ secL (e - 62135596800 + off) < 60 := by unfold hourL minL secL; omega
  have HD := Lib.hid (fun w' hI' => tDate_any H.abs 0 e w' (by omega) (by omega) he hI')
  have HC := Lib.hid (fun w' hI' => tClock_any H.abs 0 e w' (by omega) (by omega) he hI')
  obtain ⟨v1, v2, v3, v4⟩ := hv
  have HI0 := Lib.hid (fun o o' => H.abs.keeps hI ((((Below.refl w.heap.size w).alloc (Nat.le_refl _) o).alloc (by simp) o')))
  generalize yearL (e - 62135596800 + off) = y at *
  generalize monthL (e - 62135596800 + off) = m at *
  generalize mdayL (e - 62135596800 + off) = d at *
  generalize hourL (e - 62135596800 + off) = h at *
  generalize minL (e - 62135596800 + off) = mi at *
  generalize secL (e - 62135596800 + off) = s at *
  obtain ⟨h0, h1, mi0, mi1, s0, s1⟩ := hh
  have b1 : 1 ≤ m + dm := by omega
  have b2 : m + dm ≤ 13 := by omega
  have b3 : 1 ≤ d + dd := by omega
  have b4 : d + dd ≤ 40 := by omega
  have e1 : wrap64 (m + dm) = m + dm := by unfold wrap64; omega
  have e2 : wrap64 (d + dd) = d + dd := by unfold wrap64; omega
  have e3 : wrap64 y = y := by unfold wrap64; omega
  have HDT : Hid (∀ (k : Nat) (w' : World), Loc w' k → Calls Try.prog 129 #[.int .i64 (wrap64 y), .int .i64 (wrap64 (m + dm)), .int .i64 (wrap64 (d + dd)), .int .i64 h, .int .i64 mi, .int .i64 s, .int .i64 (wrap64 0), .pointer (some ⟨k, 0, none⟩)] w'
      fun e w2 => e = .returned (tv 0 (dayGo y (m + dm) (d + dd) * 86400 + (h * 3600 + mi * 60 + s) + 62135596800 - off) l) ∧ Below w'.heap.size w' w2) := Lib.hid (by
    intro k w' hk
    rw [e1, e2, e3, show wrap64 0 = 0 by unfold wrap64; omega]
    exact H.date k y (m + dm) (d + dd) h mi s w' (by omega) hy1 (by omega) (by omega) (by omega) (by omega) (by omega) h0 h1 mi0 mi1 s0 s1 hk)
  have HLOC := Lib.hid (fun w' hI' => H.loc 0 e w' hI')
  clear hI e1 e2 e3
  unfold tv at HD HC HDT HLOC ⊢
  go_enter Try.func130, Try.ntmps130
  go_wp2_with fail
  refine (HD.out _ (HI0.out _ _)).mono ?_
  rintro e' w1 ⟨rfl, hb1⟩
  have HB1 := Lib.hid (below_le (((Below.refl w.heap.size w).alloc (Nat.le_refl _) _).alloc (by simp) _) hb1)
  have hrow := (hb1.block w.heap.size (by simp; omega)).trans ((((Below.refl _ _).alloc (Nat.le_refl _) _).block w.heap.size (by simp)).trans (heap_alloc_new w (.cells #[.int .u64 0, .int .i64 e, .pointer l] 74)))
  have hres := (hb1.block (w.heap.size + 1) (by simp)).trans (heap_two w (.cells #[.int .u64 0, .int .i64 e, .pointer l] 74) (.cells #[.int .u64 0, .int .i64 0, .pointer none] 74))
  have HI1 := Lib.hid (H.abs.keeps (HI0.out _ _) hb1)
  have c0 : w1.cell? ⟨w.heap.size, 0, none⟩ = some (.int .u64 0) := cell_of_row _ _ _ _ _ _ hrow
  have c1 : w1.cell? ⟨w.heap.size, 1, none⟩ = some (.int .i64 e) := cell_of_row _ _ _ _ _ _ hrow
  have c2 : w1.cell? ⟨w.heap.size, 2, none⟩ = some (.pointer l) := cell_of_row _ _ _ _ _ _ hrow
  have HROW := Lib.hid hrow
  have HRES := Lib.hid hres
  clear hb1 hrow hres
  go_wp2_with fail
  refine (HC.out _ HI1.out).mono ?_
  rintro e' wo ⟨rfl, hbo⟩
  have hrow := (hbo.block _ (Array.getElem?_eq_some_iff.1 HROW.out).1).trans HROW.out
  have hres := (hbo.block _ (Array.getElem?_eq_some_iff.1 HRES.out).1).trans HRES.out
  have HI := Lib.hid (H.abs.keeps HI1.out hbo)
  have HBO := Lib.hid (below_le HB1.out hbo)
  clear hbo HI1 HB1 HROW HRES c0 c1 c2 HD HC HI0
  go_upto_region 3 with fail
  refine start_ (n := 18) (S := fun w' => w'.heap[w.heap.size]? = some (.cells #[.int .u64 0, .int .i64 e, .pointer l] 74 (0, 0)) ∧ Below wo.heap.size wo w') (ds := [17]) #[false, false, false, false, false, false, false, false, false, false, false, false, false, false, false, false, false, false] (by kernel_rfl) rfl rfl ⟨hrow, (Below.refl _ _).drew⟩ (fun hHeld => ?_)
  refine pure_ (i := 0) (N := some 27) (v := ?_) (a' := ?_) #[true, false, false, false, false, false, false, false, false, false, false, false, false, false, false, false, false, false] rfl rfl (by kernel_rfl) (fun _ _ _ h => h) (Or.inl ⟨by rfl, ?_⟩) ?_ ?_
  rotate_left
  · intro w'
    go_simp
    with_reducible rfl
  rotate_left
  · simp only [Act.put, List.setIfInBounds_toArray, List.set_cons_zero, List.set_cons_succ, i64_w, i32_w]
    rfl
  refine pure_ (i := 1) (N := some 28) (v := ?_) (a' := ?_) #[true, true, false, false, false, false, false, false, false, false, false, false, false, false, false, false, false, false] rfl rfl (by kernel_rfl) (fun _ _ _ h => h) (Or.inl ⟨by rfl, ?_⟩) ?_ ?_
  rotate_left
  · intro w'
    go_simp
    with_reducible rfl
  rotate_left
  · simp only [Act.put, List.setIfInBounds_toArray, List.set_cons_zero, List.set_cons_succ, i64_w, i32_w]
    rfl
  refine pure_ (i := 2) (N := some 29) (v := ?_) (a' := ?_) #[true, true, true, false, false, false, false, false, false, false, false, false, false, false, false, false, false, false] rfl rfl (by kernel_rfl) (fun _ _ _ h => h) (Or.inl ⟨by rfl, ?_⟩) ?_ ?_
  rotate_left
  · intro w'
    go_simp
    with_reducible rfl
  rotate_left
  · simp only [Act.put, List.setIfInBounds_toArray, List.set_cons_zero, List.set_cons_succ, i64_w, i32_w]
    rfl
  refine pure_ (i := 3) (N := some 30) (v := ?_) (a' := ?_) #[true, true, true, true, false, false, false, false, false, false, false, false, false, false, false, false, false, false] rfl rfl (by kernel_rfl) (fun _ _ _ h => h) (Or.inl ⟨by rfl, ?_⟩) ?_ ?_
  rotate_left
  · intro w'
    go_simp
    with_reducible rfl
  rotate_left
  · simp only [Act.put, List.setIfInBounds_toArray, List.set_cons_zero, List.set_cons_succ, i64_w, i32_w]
    rfl
  refine pure_ (i := 4) (N := some 31) (v := ?_) (a' := ?_) #[true, true, true, true, true, false, false, false, false, false, false, false, false, false, false, false, false, false] rfl rfl (by kernel_rfl) (fun _ _ _ h => h) (Or.inl ⟨by rfl, ?_⟩) ?_ ?_
  rotate_left
  · intro w'
    go_simp
    with_reducible rfl
  rotate_left
  · simp only [Act.put, List.setIfInBounds_toArray, List.set_cons_zero, List.set_cons_succ, i64_w, i32_w]
    rfl
  refine pure_ (i := 5) (N := some 32) (v := ?_) (a' := ?_) #[true, true, true, true, true, true, false, false, false, false, false, false, false, false, false, false, false, false] rfl rfl (by kernel_rfl) (fun _ _ _ h => h) (Or.inl ⟨by rfl, ?_⟩) ?_ ?_
  rotate_left
  · intro w'
    go_simp
    with_reducible rfl
  rotate_left
  · simp only [Act.put, List.setIfInBounds_toArray, List.set_cons_zero, List.set_cons_succ, i64_w, i32_w]
    rfl
  refine pure_ (i := 6) (N := some 33) (v := ?_) (a' := ?_) #[true, true, true, true, true, true, true, false, false, false, false, false, false, false, false, false, false, false] rfl rfl (by kernel_rfl) (fun _ _ _ h => h) (Or.inl ⟨by rfl, ?_⟩) ?_ ?_
  rotate_left
  · intro w'
    go_simp
    with_reducible rfl
  rotate_left
  · simp only [Act.put, List.setIfInBounds_toArray, List.set_cons_zero, List.set_cons_succ, i64_w, i32_w]
    rfl
  refine pure_ (i := 7) (N := some 34) (v := ?_) (a' := ?_) #[true, true, true, true, true, true, true, true, false, false, false, false, false, false, false, false, false, false] rfl rfl (by kernel_rfl) (fun _ _ _ h => h) (Or.inl ⟨by rfl, ?_⟩) ?_ ?_
  rotate_left
  · intro w'
    go_simp
    with_reducible rfl
  rotate_left
  · simp only [Act.put, List.setIfInBounds_toArray, List.set_cons_zero, List.set_cons_succ, i64_w, i32_w]
    rfl
  refine pure_ (i := 8) (N := some 35) (v := ?_) (a' := ?_) #[true, true, true, true, true, true, true, true, true, false, false, false, false, false, false, false, false, false] rfl rfl (by kernel_rfl) (fun _ _ _ h => h) (Or.inl ⟨by rfl, ?_⟩) ?_ ?_
  rotate_left
  · intro w'
    go_simp
    with_reducible rfl
  rotate_left
  · simp only [Act.put, List.setIfInBounds_toArray, List.set_cons_zero, List.set_cons_succ, i64_w, i32_w]
    rfl
  refine pure_ (i := 9) (N := some 36) (v := ?_) (a' := ?_) #[true, true, true, true, true, true, true, true, true, true, false, false, false, false, false, false, false, false] rfl rfl (by kernel_rfl) (fun _ _ _ h => h) (Or.inl ⟨by rfl, ?_⟩) ?_ ?_
  rotate_left
  · intro w'
    go_simp
    with_reducible rfl
  rotate_left
  · simp only [Act.put, List.setIfInBounds_toArray, List.set_cons_zero, List.set_cons_succ, i64_w, i32_w]
    rfl
  refine pure_ (i := 10) (N := some 37) (v := ?_) (a' := ?_) #[true, true, true, true, true, true, true, true, true, true, true, false, false, false, false, false, false, false] rfl rfl (by kernel_rfl) (fun _ _ _ h => h) (Or.inl ⟨by rfl, ?_⟩) ?_ ?_
  rotate_left
  · intro w'
    go_simp
    with_reducible rfl
  rotate_left
  · simp only [Act.put, List.setIfInBounds_toArray, List.set_cons_zero, List.set_cons_succ, i64_w, i32_w]
    rfl
  refine pure_ (i := 11) (N := some 38) (v := ?_) (a' := ?_) #[true, true, true, true, true, true, true, true, true, true, true, true, false, false, false, false, false, false] rfl rfl (by kernel_rfl) (fun _ _ _ h => h) (Or.inl ⟨by rfl, ?_⟩) ?_ ?_
  rotate_left
  · intro w'
    go_simp
    with_reducible rfl
  rotate_left
  · simp only [Act.put, List.setIfInBounds_toArray, List.set_cons_zero, List.set_cons_succ, i64_w, i32_w]
    rfl
  refine take_ (i := 14) (N := some 41) (v := ?_) (a' := ?_) #[true, true, true, true, true, true, true, true, true, true, true, true, false, false, true, false, false, false] rfl rfl (by kernel_rfl) (fun _ _ _ h => h) (Or.inl ⟨by rfl, ?_⟩) hHeld ?_ ?_
  rotate_left
  · rintro w' ⟨s0, s1⟩
    have c0 : w'.cell? ⟨w.heap.size, 0, none⟩ = some (.int .u64 0) := cell_of_row _ _ _ _ _ _ s0
    have c1 : w'.cell? ⟨w.heap.size, 1, none⟩ = some (.int .i64 e) := cell_of_row _ _ _ _ _ _ s0
    have c2 : w'.cell? ⟨w.heap.size, 2, none⟩ = some (.pointer l) := cell_of_row _ _ _ _ _ _ s0
    go_simp
    with_reducible rfl
  rotate_left
  · simp only [Act.put, List.setIfInBounds_toArray, List.set_cons_zero, List.set_cons_succ, i64_w, i32_w]
    rfl
  refine one_ (i := 12) (N := some 39) #[true, true, true, true, true, true, true, true, true, true, true, true, true, false, true, false, false, false] rfl rfl (by kernel_rfl) (by decide) (fun K hK => ?_)
  refine goes_ Try.func85 (by kernel_rfl) rfl #[.pointer (some ⟨w.heap.size, 0, none⟩)] (by rfl) rfl rfl (by simp only [List.map_toArray, List.map_cons, List.map_nil]; rfl) ?_
  with_reducible refine (nsec_any w.heap.size 0 _ (by omega) (by omega) (cell_of_row _ _ _ _ _ _ hHeld.1)).mono ?_
  rintro e3 w3 ⟨rfl, rfl⟩
  refine ⟨_, rfl, ?_⟩
  refine hK.out _ _ ⟨hHeld.1, hHeld.2⟩ (fun hHeld => ?_)
  clear hK K
  refine norm_ (a' := ?_) ?_ ?_
  rotate_left
  · show Act.put _ (some 39) _ = _
    simp only [Act.put, List.setIfInBounds_toArray, List.set_cons_zero, List.set_cons_succ, i64_w, i32_w]
    rfl
  refine pure_ (i := 13) (N := some 40) (v := ?_) (a' := ?_) #[true, true, true, true, true, true, true, true, true, true, true, true, true, true, true, false, false, false] rfl rfl (by kernel_rfl) (fun _ _ _ h => h) (Or.inl ⟨by rfl, ?_⟩) ?_ ?_
  rotate_left
  · intro w'
    go_simp
    with_reducible rfl
  rotate_left
  · simp only [Act.put, List.setIfInBounds_toArray, List.set_cons_zero, List.set_cons_succ, i64_w, i32_w]
    rfl
  refine one_ (i := 15) (N := some 42) #[true, true, true, true, true, true, true, true, true, true, true, true, true, true, true, true, false, false] rfl rfl (by kernel_rfl) (by decide) (fun K hK => ?_)
  refine goes_ Try.func126 (by kernel_rfl) rfl #[.agg #[.int .u64 0, .int .i64 e, .pointer l]] (by rfl) rfl rfl (by simp only [List.map_toArray, List.map_cons, List.map_nil]; rfl) ?_
  with_reducible refine (HLOC.out _ (H.abs.keeps HI.out hHeld.2)).mono ?_
  rintro e5 w5 ⟨k, rfl, hk, hb5⟩
  refine ⟨_, rfl, ?_⟩
  refine hK.out _ _ ⟨(hb5.block _ (Array.getElem?_eq_some_iff.1 hHeld.1).1).trans hHeld.1, below_le hHeld.2 hb5⟩ (fun hHeld => ?_)
  clear hK K
  refine norm_ (a' := ?_) ?_ ?_
  rotate_left
  · show Act.put _ (some 42) _ = _
    simp only [Act.put, List.setIfInBounds_toArray, List.set_cons_zero, List.set_cons_succ, i64_w, i32_w]
    rfl
  refine one_ (i := 16) (N := some 43) #[true, true, true, true, true, true, true, true, true, true, true, true, true, true, true, true, true, false] rfl rfl (by kernel_rfl) (by decide) (fun K hK => ?_)
  refine goes_ Try.func129 (by kernel_rfl) rfl #[.int .i64 (wrap64 y), .int .i64 (wrap64 (m + dm)), .int .i64 (wrap64 (d + dd)), .int .i64 h, .int .i64 mi, .int .i64 s, .int .i64 (wrap64 0), .pointer (some ⟨k, 0, none⟩)] (by rfl) rfl rfl (by simp only [List.map_toArray, List.map_cons, List.map_nil]; rfl) ?_
  with_reducible refine (HDT.out k _ hk).mono ?_
  rintro e6 w6 ⟨rfl, hb6⟩
  refine ⟨_, rfl, ?_⟩
  refine hK.out _ _ ⟨(hb6.block _ (Array.getElem?_eq_some_iff.1 hHeld.1).1).trans hHeld.1, below_le hHeld.2 hb6⟩ (fun hHeld => ?_)
  clear hK K
  refine norm_ (a' := ?_) ?_ ?_
  rotate_left
  · show Act.put _ (some 43) _ = _
    simp only [Act.put, List.setIfInBounds_toArray, List.set_cons_zero, List.set_cons_succ, i64_w, i32_w]
    rfl
  refine last_ (i := 17) (N := none) #[true, true, true, true, true, true, true, true, true, true, true, true, true, true, true, true, true, true] rfl rfl (by kernel_rfl) (by decide) (fun K hK => ?_)
  rw [if_pos (by rfl)]
  refine wp_store_row 74 _ _ rfl (w.heap.size + 1) #[.int .u64 0, .int .i64 (dayGo y (m + dm) (d + dd) * 86400 + (h * 3600 + mi * 60 + s) + 62135596800 - off), .pointer l] rfl rfl 74 #[.int .u64 0, .int .i64 0, .pointer none] ((hHeld.2.block _ (Array.getElem?_eq_some_iff.1 hres).1).trans hres) timeSize rfl (by simp [Value.oneCell']) ?_
  refine hK.out _ _ ?_
  clear hK K
  refine done_ (by kernel_rfl) ?_
  go_wp2_with fail
  have hres6 := (hHeld.2.block _ (Array.getElem?_eq_some_iff.1 hres).1).trans hres
  refine bodyPost_ret (v := .agg #[.int .u64 0, .int .i64 (dayGo y (m + dm) (d + dd) * 86400 + (h * 3600 + mi * 60 + s) + 62135596800 - off), .pointer l]) ?_ rfl ⟨rfl, ?_⟩
  · exact results_time rfl _ _ (w.heap.size + 1) _ rfl rfl (setRow_heap _ _ _ _ _ _ hres6)
  · exact below_setRow (below_le HBO.out hHeld.2) (by omega) _
end Go.Proofs.Ytbgbeohiafiacaa.Cal

namespace Go.Proofs.Ytbgbeohiafiacaa.Cal
open Go Go.RowKit Go.Proofs.YtbgbeohiafiacaaW.PrintWords Go.Proofs.YtbgbeohiafiacaaW.PrintLast
set_option linter.unusedVariables false
set_option linter.unusedSimpArgs false

set_option maxRecDepth 100000 in
set_option maxHeartbeats 4000000 in
theorem div60_any (e : Int) (l : Option Addr) (h0 : 0 ≤ e) (h1 : e ≤ 900000000000) (w : World) :
    Calls Try.prog 149 #[tv 0 e l, .int .i64 60000000000] w fun e' w' => (∃ v, e' = .returned (.tuple #[v, .int .i64 (e % 60 * 1000000000)])) ∧ Below w.heap.size w w' := by
  have HN := Lib.hid (fun (g : Nat) w' hc => nsec_any g 0 w' (by omega) (by omega) hc)
  have HS := Lib.hid (fun (g : Nat) w' hc hc1 => sec_any g 0 e w' (by omega) (by omega) hc hc1)
  have hd : decide (e < 0) = false := decide_eq_false (by omega)
  unfold tv
  go_enter Try.func149, Try.ntmps149
  go_wp2_with fail
  refine (HN.out w.heap.size _ (by simp [go_sem])).mono ?_
  rintro e' w1 ⟨rfl, rfl⟩
  go_wp2_with fail
  refine (HS.out w.heap.size _ (by simp [go_sem]) (by simp [go_sem])).mono ?_
  rintro e' w1 ⟨rfl, rfl⟩
  go_wp2_with fail
  go_ret2
  exact ⟨⟨_, rfl⟩, (Below.refl _ _).alloc (Nat.le_refl _) _⟩

set_option maxRecDepth 100000 in
set_option maxHeartbeats 4000000 in
theorem div1_any (e : Int) (l : Option Addr) (h0 : 0 ≤ e) (h1 : e ≤ 900000000000) (w : World) :
    Calls Try.prog 149 #[tv 0 e l, .int .i64 1000000000] w fun e' w' => (∃ v, e' = .returned (.tuple #[v, .int .i64 0])) ∧ Below w.heap.size w w' := by
  have HN := Lib.hid (fun (g : Nat) w' hc => nsec_any g 0 w' (by omega) (by omega) hc)
  have HS := Lib.hid (fun (g : Nat) w' hc hc1 => sec_any g 0 e w' (by omega) (by omega) hc hc1)
  have hd : decide (e < 0) = false := decide_eq_false (by omega)
  unfold tv
  go_enter Try.func149, Try.ntmps149
  go_wp2_with fail
  refine (HN.out w.heap.size _ (by simp [go_sem])).mono ?_
  rintro e' w1 ⟨rfl, rfl⟩
  go_wp2_with fail
  refine (HS.out w.heap.size _ (by simp [go_sem]) (by simp [go_sem])).mono ?_
  rintro e' w1 ⟨rfl, rfl⟩
  go_wp2_with fail
  go_ret2
  exact ⟨⟨_, rfl⟩, (Below.refl _ _).alloc (Nat.le_refl _) _⟩

set_option maxRecDepth 100000 in
set_option maxHeartbeats 4000000 in
theorem trunc60_any (e : Int) (l : Option Addr) (h0 : 0 ≤ e) (h1 : e ≤ 900000000000) (w : World) :
    Calls Try.prog 134 #[tv 0 e l, .int .i64 60000000000] w fun e' w' => e' = .returned (tv 0 (e - e % 60) l) ∧ Below w.heap.size w w' := by
  have HT := Lib.hid (fun (g : Nat) w' hc => strip_any g 0 w' (by omega) (by omega) hc)
  have HD := Lib.hid (fun w' => div60_any e l h0 h1 w')
  have HA : Hid (∀ w', Calls Try.prog 123 #[tv 0 e l, .int .i64 (-(e % 60 * 1000000000))] w' fun e' w2 => e' = .returned (tv 0 (e - e % 60) l) ∧ Below w'.heap.size w' w2) := Lib.hid (fun w' => by
    have := addWhole_any (-(e % 60)) e l (by omega) h1 (by omega) (by omega) w'
    rw [show 1000000000 * -(e % 60) = -(e % 60 * 1000000000) by omega] at this
    exact this)
  unfold tv at HD HA ⊢
  go_enter Try.func134, Try.ntmps134
  go_wp2_with fail
  refine (HT.out w.heap.size _ (by simp [go_sem])).mono ?_
  rintro e' w1 ⟨rfl, rfl⟩
  go_wp2_with fail
  refine (HD.out _).mono ?_
  rintro e' w2 ⟨⟨v, rfl⟩, hb2⟩
  have hrow := (hb2.block w.heap.size (by simp; omega)).trans ((((Below.refl _ _).alloc (Nat.le_refl _) _).block w.heap.size (by simp)).trans (heap_alloc_new w (.cells #[.int .u64 0, .int .i64 e, .pointer l] 74)))
  have HRES := Lib.hid ((hb2.block (w.heap.size + 1) (by simp)).trans (heap_two w (.cells #[.int .u64 0, .int .i64 e, .pointer l] 74) (.cells #[.int .u64 0, .int .i64 0, .pointer none] 74)))
  have HB2 := Lib.hid (below_le (((Below.refl w.heap.size w).alloc (Nat.le_refl _) _).alloc (by simp) _) hb2)
  have c0 : w2.cell? ⟨w.heap.size, 0, none⟩ = some (.int .u64 0) := cell_of_row _ _ _ _ _ _ hrow
  have c1 : w2.cell? ⟨w.heap.size, 1, none⟩ = some (.int .i64 e) := cell_of_row _ _ _ _ _ _ hrow
  have c2 : w2.cell? ⟨w.heap.size, 2, none⟩ = some (.pointer l) := cell_of_row _ _ _ _ _ _ hrow
  clear hb2 hrow HD HT
  go_wp2_with fail
  refine (HA.out _).mono ?_
  rintro e' w3 ⟨rfl, hb3⟩
  have HR3 := Lib.hid ((hb3.block _ (Array.getElem?_eq_some_iff.1 HRES.out).1).trans HRES.out)
  have HB3 := Lib.hid (below_le HB2.out hb3)
  clear hb3 c0 c1 c2
  go_wp2_with (refine wpList_store_row rfl 74 _ _ rfl (w.heap.size + 1) #[.int .u64 0, .int .i64 (e - e % 60), .pointer l] rfl rfl 74 _ HR3.out timeSize rfl (by simp [Value.oneCell']) ?_)
  refine bodyPost_ret (v := .agg #[.int .u64 0, .int .i64 (e - e % 60), .pointer l]) ?_ rfl ⟨rfl, ?_⟩
  · exact results_time rfl _ _ (w.heap.size + 1) _ rfl rfl (setRow_heap _ _ _ _ _ _ HR3.out)
  · exact below_setRow HB3.out (by omega) _

set_option maxRecDepth 100000 in
set_option maxHeartbeats 4000000 in
theorem trunc1_any (e : Int) (l : Option Addr) (h0 : 0 ≤ e) (h1 : e ≤ 900000000000) (w : World) :
    Calls Try.prog 134 #[tv 0 e l, .int .i64 1000000000] w fun e' w' => e' = .returned (tv 0 (e) l) ∧ Below w.heap.size w w' := by
  have HT := Lib.hid (fun (g : Nat) w' hc => strip_any g 0 w' (by omega) (by omega) hc)
  have HD := Lib.hid (fun w' => div1_any e l h0 h1 w')
  have HA : Hid (∀ w', Calls Try.prog 123 #[tv 0 e l, .int .i64 0] w' fun e' w2 => e' = .returned (tv 0 e l) ∧ Below w'.heap.size w' w2) := Lib.hid (fun w' => by
    have := addWhole_any 0 e l (by omega) h1 (by omega) (by omega) w'
    rw [show (1000000000 : Int) * 0 = 0 by omega, Int.add_zero] at this
    exact this)
  unfold tv at HD HA ⊢
  go_enter Try.func134, Try.ntmps134
  go_wp2_with fail
  refine (HT.out w.heap.size _ (by simp [go_sem])).mono ?_
  rintro e' w1 ⟨rfl, rfl⟩
  go_wp2_with fail
  refine (HD.out _).mono ?_
  rintro e' w2 ⟨⟨v, rfl⟩, hb2⟩
  have hrow := (hb2.block w.heap.size (by simp; omega)).trans ((((Below.refl _ _).alloc (Nat.le_refl _) _).block w.heap.size (by simp)).trans (heap_alloc_new w (.cells #[.int .u64 0, .int .i64 e, .pointer l] 74)))
  have HRES := Lib.hid ((hb2.block (w.heap.size + 1) (by simp)).trans (heap_two w (.cells #[.int .u64 0, .int .i64 e, .pointer l] 74) (.cells #[.int .u64 0, .int .i64 0, .pointer none] 74)))
  have HB2 := Lib.hid (below_le (((Below.refl w.heap.size w).alloc (Nat.le_refl _) _).alloc (by simp) _) hb2)
  have c0 : w2.cell? ⟨w.heap.size, 0, none⟩ = some (.int .u64 0) := cell_of_row _ _ _ _ _ _ hrow
  have c1 : w2.cell? ⟨w.heap.size, 1, none⟩ = some (.int .i64 e) := cell_of_row _ _ _ _ _ _ hrow
  have c2 : w2.cell? ⟨w.heap.size, 2, none⟩ = some (.pointer l) := cell_of_row _ _ _ _ _ _ hrow
  clear hb2 hrow HD HT
  go_wp2_with fail
  refine (HA.out _).mono ?_
  rintro e' w3 ⟨rfl, hb3⟩
  have HR3 := Lib.hid ((hb3.block _ (Array.getElem?_eq_some_iff.1 HRES.out).1).trans HRES.out)
  have HB3 := Lib.hid (below_le HB2.out hb3)
  clear hb3 c0 c1 c2
  go_wp2_with (refine wpList_store_row rfl 74 _ _ rfl (w.heap.size + 1) #[.int .u64 0, .int .i64 (e), .pointer l] rfl rfl 74 _ HR3.out timeSize rfl (by simp [Value.oneCell']) ?_)
  refine bodyPost_ret (v := .agg #[.int .u64 0, .int .i64 (e), .pointer l]) ?_ rfl ⟨rfl, ?_⟩
  · exact results_time rfl _ _ (w.heap.size + 1) _ rfl rfl (setRow_heap _ _ _ _ _ _ HR3.out)
  · exact below_setRow HB3.out (by omega) _

end Go.Proofs.Ytbgbeohiafiacaa.Cal

namespace Go.Proofs.Ytbgbeohiafiacaa.Cal
open Go Go.RowKit Go.Proofs.YtbgbeohiafiacaaW.PrintWords Go.Proofs.YtbgbeohiafiacaaW.PrintLast
set_option linter.unusedVariables false
set_option linter.unusedSimpArgs false

theorem and_u64 {a b : Nat} (ha : a < 2 ^ 64) (hb : b < 2 ^ 64) : bits .and .u64 (a : Int) (b : Int) = ((a &&& b : Nat) : Int) := by
  have e : IntKind.u64.bits = 64 := rfl
  unfold bits
  rw [e]
  show IntKind.u64.wrap ((BitVec.ofInt 64 (a : Int) &&& BitVec.ofInt 64 (b : Int)).toNat : Int) = _
  rw [BitVec.ofInt_natCast, BitVec.ofInt_natCast, BitVec.toNat_and, BitVec.toNat_ofNat, BitVec.toNat_ofNat, Nat.mod_eq_of_lt ha, Nat.mod_eq_of_lt hb, IntKind.wrap_u64]
  have : a &&& b < 2 ^ 64 := Nat.lt_of_le_of_lt Nat.and_le_left ha
  omega
theorem shl_one {d : Int} (h0 : 0 ≤ d) (h1 : d < 64) : IntKind.u64.wrap (2 ^ min (IntKind.u64.wrap d).toNat 64) = ((2 ^ d.toNat : Nat) : Int) := by
  have e : IntKind.u64.wrap d = d := by rw [IntKind.wrap_u64]; omega
  have hlt : 2 ^ d.toNat < 2 ^ 64 := Nat.pow_lt_pow_right (by omega) (by omega)
  have hm : min d.toNat 64 = d.toNat := Nat.min_eq_left (by omega)
  rw [e, hm, IntKind.wrap_u64]
  have hc : ((2 : Int) ^ d.toNat) = ((2 ^ d.toNat : Nat) : Int) := by push_cast; rfl
  rw [hc]
  generalize 2 ^ d.toNat = n at *
  omega
theorem pow_and (b d : Nat) : 2 ^ d &&& b = if b.testBit d = true then 2 ^ d else 0 := by
  apply Nat.eq_of_testBit_eq
  intro i
  rw [Nat.testBit_and, Nat.testBit_two_pow]
  by_cases hi : d = i
  · subst hi
    cases h : b.testBit d <;> simp [h]
  · cases h : b.testBit d <;> simp [hi, h, Nat.testBit_two_pow]
theorem bit_and {b : Nat} {d : Int} (hb : b < 2 ^ 64) (h0 : 0 ≤ d) (h1 : d < 64) : bits .and .u64 (IntKind.u64.wrap (2 ^ min (IntKind.u64.wrap d).toNat 64)) (b : Int) = if inB b d = true then ((2 ^ d.toNat : Nat) : Int) else 0 := by
  have hlt : 2 ^ d.toNat < 2 ^ 64 := Nat.pow_lt_pow_right (by omega) (by omega)
  rw [shl_one h0 h1, and_u64 hlt hb, pow_and]
  unfold inB
  split <;> rfl
theorem bit_gt {b : Nat} {d : Int} (hb : b < 2 ^ 64) (h0 : 0 ≤ d) (h1 : d < 64) : decide (0 < bits .and .u64 (IntKind.u64.wrap (2 ^ min (IntKind.u64.wrap d).toNat 64)) (b : Int)) = inB b d := by
  rw [bit_and hb h0 h1]
  have : 0 < 2 ^ d.toNat := Nat.two_pow_pos _
  cases h : inB b d
  · simp
  · simp only [if_true, decide_eq_true_eq]
    omega
theorem bit_eq {b : Nat} {d : Int} (hb : b < 2 ^ 64) (h0 : 0 ≤ d) (h1 : d < 64) : (bits .and .u64 (IntKind.u64.wrap (2 ^ min (IntKind.u64.wrap d).toNat 64)) (b : Int) == 0) = !inB b d := by
  rw [bit_and hb h0 h1]
  have : 0 < 2 ^ d.toNat := Nat.two_pow_pos _
  cases h : inB b d
  · simp
  · simp only [if_true, Bool.not_true, beq_eq_false_iff_ne]
    generalize 2 ^ d.toNat = n at *
    omega
theorem star_gt {b : Nat} (hb : b < 2 ^ 64) : decide (0 < bits .and .u64 (b : Int) 9223372036854775808) = inB b 63 := by
  have := and_u64 hb (show 2 ^ 63 < 2 ^ 64 by omega)
  rw [show ((2 ^ 63 : Nat) : Int) = 9223372036854775808 from rfl, Nat.and_comm, pow_and] at this
  rw [this]
  unfold inB
  rw [show (63 : Int).toNat = 63 from rfl]
  cases h : b.testBit 63 <;> simp

/-- the program's schedule of sets -/
def SpecRow (w : World) (g : Nat) (S : Sets) (loc : Option Addr) : Prop :=
  w.heap[g]? = some (.cells #[.int .u64 (S.sec : Int), .int .u64 (S.min : Int), .int .u64 (S.hour : Int), .int .u64 (S.dom : Int), .int .u64 (S.month : Int), .int .u64 (S.dow : Int), .pointer loc] 134 (0, 0))
theorem SpecRow.below {w w' : World} {g : Nat} {S : Sets} {loc : Option Addr} (h : SpecRow w g S loc) (hb : Below w.heap.size w w') : SpecRow w' g S loc := (hb.block g (Array.getElem?_eq_some_iff.1 h).1).trans h
def Sets.ok (S : Sets) : Prop := S.sec < 2 ^ 64 ∧ S.min < 2 ^ 64 ∧ S.hour < 2 ^ 64 ∧ S.dom < 2 ^ 64 ∧ S.month < 2 ^ 64 ∧ S.dow < 2 ^ 64

set_option maxRecDepth 100000 in
set_option maxHeartbeats 4000000 in
theorem dayMatches_any {l : Option Addr} {off : Int} {Inv : World → Prop} {Loc : World → Nat → Prop} (H : Clock l off Inv Loc) (S : Sets) (hS : S.ok) (g : Nat) (loc : Option Addr) (e : Int) (w : World) (he : EOk e) (hI : Inv w) (hg : SpecRow w g S loc) :
    Calls Try.prog 131 #[.pointer (some ⟨g, 0, none⟩), tv 0 e l] w fun e' w' => e' = .returned (.bool (dayB S (e - 62135596800 + off))) ∧ Below w.heap.size w w' := by
  obtain ⟨hv, -⟩ := date_L (e - 62135596800 + off)
  have hmd := mdays_bd (yearL (e - 62135596800 + off)) (monthL (e - 62135596800 + off))
  have hw : 0 ≤ wdL (e - 62135596800 + off) ∧ wdL (e - 62135596800 + off) < 7 := by unfold wdL; omega
  have HD := Lib.hid (fun w' hI' => tDay_any H.abs 0 e w' (by omega) (by omega) he hI')
  have HW := Lib.hid (fun w' hI' => tWeekday_any H.abs 0 e w' (by omega) (by omega) he hI')
  unfold dayB
  obtain ⟨v1, v2, v3, v4⟩ := hv
  generalize mdayL (e - 62135596800 + off) = d at *
  generalize wdL (e - 62135596800 + off) = wd at *
  have d1 : 1 ≤ d := v3
  have d2 : d ≤ 31 := by omega
  clear v1 v2 v3 v4 hmd
  have HI := Lib.hid hI
  have HG := Lib.hid hg
  have hgl : g < w.heap.size := (Array.getElem?_eq_some_iff.1 hg).1
  clear hI hg
  unfold tv at HD HW ⊢
  go_enter Try.func131, Try.ntmps131
  go_upto_region 1 with fail
  generalize hW0 : World.alloc w _ = wo
  have hbo : Below w.heap.size w wo := by rw [← hW0]; exact (Below.refl _ _).alloc (Nat.le_refl _) _
  have hrow : wo.heap[w.heap.size]? = some (.cells #[.int .u64 0, .int .i64 e, .pointer l] 74 (0, 0)) := by rw [← hW0]; exact heap_alloc_new w _
  have hspec : SpecRow wo g S loc := HG.out.below hbo
  clear hW0
  refine start_ (n := 11) (S := fun w' => w'.heap[w.heap.size]? = some (.cells #[.int .u64 0, .int .i64 e, .pointer l] 74 (0, 0)) ∧ SpecRow w' g S loc ∧ Below wo.heap.size wo w') (ds := []) #[false, false, false, false, false, false, false, false, false, false, false] (by kernel_rfl) rfl rfl ⟨hrow, hspec, (Below.refl _ _).drew⟩ (fun hHeld => ?_)
  refine pure_ (i := 4) (N := some 11) (v := ?_) (a' := ?_) #[false, false, false, false, true, false, false, false, false, false, false] rfl rfl (by kernel_rfl) (fun _ _ _ h => h) (Or.inl ⟨by rfl, ?_⟩) ?_ ?_
  rotate_left
  · intro w'
    go_simp
    with_reducible rfl
  rotate_left
  · simp only [Act.put, List.setIfInBounds_toArray, List.set_cons_zero, List.set_cons_succ, i64_w, i32_w]
    rfl
  refine pure_ (i := 5) (N := some 12) (v := ?_) (a' := ?_) #[false, false, false, false, true, true, false, false, false, false, false] rfl rfl (by kernel_rfl) (fun _ _ _ h => h) (Or.inl ⟨by rfl, ?_⟩) ?_ ?_
  rotate_left
  · intro w'
    go_simp
    with_reducible rfl
  rotate_left
  · simp only [Act.put, List.setIfInBounds_toArray, List.set_cons_zero, List.set_cons_succ, i64_w, i32_w]
    rfl
  refine pure_ (i := 6) (N := some 13) (v := ?_) (a' := ?_) #[false, false, false, false, true, true, true, false, false, false, false] rfl rfl (by kernel_rfl) (fun _ _ _ h => h) (Or.inl ⟨by rfl, ?_⟩) ?_ ?_
  rotate_left
  · intro w'
    go_simp
    with_reducible rfl
  rotate_left
  · simp only [Act.put, List.setIfInBounds_toArray, List.set_cons_zero, List.set_cons_succ, i64_w, i32_w]
    rfl
  refine take_ (i := 0) (N := some 7) (v := ?_) (a' := ?_) #[true, false, false, false, true, true, true, false, false, false, false] rfl rfl (by kernel_rfl) (fun _ _ _ h => h) (Or.inl ⟨by rfl, ?_⟩) hHeld ?_ ?_
  rotate_left
  · rintro w' ⟨s0, s1, s2⟩
    have c0 : w'.cell? ⟨w.heap.size, 0, none⟩ = some (.int .u64 0) := cell_of_row _ _ _ _ _ _ s0
    have c1 : w'.cell? ⟨w.heap.size, 1, none⟩ = some (.int .i64 e) := cell_of_row _ _ _ _ _ _ s0
    have c2 : w'.cell? ⟨w.heap.size, 2, none⟩ = some (.pointer l) := cell_of_row _ _ _ _ _ _ s0
    go_simp
    with_reducible rfl
  rotate_left
  · simp only [Act.put, List.setIfInBounds_toArray, List.set_cons_zero, List.set_cons_succ, i64_w, i32_w]
    rfl
  refine take_ (i := 7) (N := some 14) (v := ?_) (a' := ?_) #[true, false, false, false, true, true, true, true, false, false, false] rfl rfl (by kernel_rfl) (fun _ _ _ h => h) (Or.inl ⟨by rfl, ?_⟩) hHeld ?_ ?_
  rotate_left
  · rintro w' ⟨s0, s1, s2⟩
    have c3 : w'.cell? ⟨g, 3, none⟩ = some (.int .u64 (S.dom : Int)) := cell_of_row _ _ _ _ _ _ s1
    go_simp
    with_reducible rfl
  rotate_left
  · simp only [Act.put, List.setIfInBounds_toArray, List.set_cons_zero, List.set_cons_succ, i64_w, i32_w]
    rfl
  refine one_ (i := 1) (N := some 8) #[true, true, false, false, true, true, true, true, false, false, false] rfl rfl (by kernel_rfl) (by decide) (fun K hK => ?_)
  refine goes_ Try.func119 (by kernel_rfl) rfl #[.agg #[.int .u64 0, .int .i64 e, .pointer l]] (by rfl) rfl rfl (by simp only [List.map_toArray, List.map_cons, List.map_nil]; rfl) ?_
  with_reducible refine (HD.out _ (H.abs.keeps (H.abs.keeps HI.out hbo) hHeld.2.2)).mono ?_
  rintro e3 w3 ⟨rfl, hb3⟩
  refine ⟨_, rfl, ?_⟩
  refine hK.out _ _ ⟨(hb3.block _ (Array.getElem?_eq_some_iff.1 hHeld.1).1).trans hHeld.1, hHeld.2.1.below hb3, below_le hHeld.2.2 hb3⟩ (fun hHeld => ?_)
  clear hK K
  refine norm_ (a' := ?_) ?_ ?_
  rotate_left
  · show Act.put _ (some 8) _ = _
    simp only [Act.put, List.setIfInBounds_toArray, List.set_cons_zero, List.set_cons_succ, i64_w, i32_w]
    rfl
  refine pure_ (i := 2) (N := some 9) (v := ?_) (a' := ?_) #[true, true, true, false, true, true, true, true, false, false, false] rfl rfl (by kernel_rfl) (fun _ _ _ h => h) (Or.inl ⟨by rfl, ?_⟩) ?_ ?_
  rotate_left
  · intro w'
    go_simp
    with_reducible rfl
  rotate_left
  · simp only [Act.put, List.setIfInBounds_toArray, List.set_cons_zero, List.set_cons_succ, i64_w, i32_w]
    rfl
  refine pure_ (i := 3) (N := some 10) (v := ?_) (a' := ?_) #[true, true, true, true, true, true, true, true, false, false, false] rfl rfl (by kernel_rfl) (fun _ _ _ h => h) (Or.inl ⟨by rfl, ?_⟩) ?_ ?_
  rotate_left
  · intro w'
    go_simp
    with_reducible rfl
  rotate_left
  · simp only [Act.put, List.setIfInBounds_toArray, List.set_cons_zero, List.set_cons_succ, i64_w, i32_w]
    rfl
  refine pure_ (i := 8) (N := some 15) (v := ?_) (a' := ?_) #[true, true, true, true, true, true, true, true, true, false, false] rfl rfl (by kernel_rfl) (fun _ _ _ h => h) (Or.inl ⟨by rfl, ?_⟩) ?_ ?_
  rotate_left
  · intro w'
    go_simp
    with_reducible rfl
  rotate_left
  · simp only [Act.put, List.setIfInBounds_toArray, List.set_cons_zero, List.set_cons_succ, i64_w, i32_w]
    rfl
  refine pure_ (i := 9) (N := some 16) (v := ?_) (a' := ?_) #[true, true, true, true, true, true, true, true, true, true, false] rfl rfl (by kernel_rfl) (fun _ _ _ h => h) (Or.inl ⟨by rfl, ?_⟩) ?_ ?_
  rotate_left
  · intro w'
    go_simp
    with_reducible rfl
  rotate_left
  · simp only [Act.put, List.setIfInBounds_toArray, List.set_cons_zero, List.set_cons_succ, i64_w, i32_w]
    rfl
  refine pure_ (i := 10) (N := some 5) (v := ?_) (a' := ?_) #[true, true, true, true, true, true, true, true, true, true, true] rfl rfl (by kernel_rfl) (fun _ _ _ h => h) (Or.inl ⟨by rfl, ?_⟩) ?_ ?_
  rotate_left
  · intro w'
    go_simp
    with_reducible rfl
  rotate_left
  · simp only [Act.put, List.setIfInBounds_toArray, List.set_cons_zero, List.set_cons_succ, i64_w, i32_w]
    rfl
  refine done_ (by kernel_rfl) ?_
  obtain ⟨hr1, hs1, hB1⟩ := hHeld
  have hl1 := below_le hbo hB1
  rw [bit_gt hS.2.2.2.1 (by omega) (by omega)]
  clear hrow hspec
  generalize IntKind.u64.wrap (2 ^ min (IntKind.u64.wrap d).toNat 64) = junk
  go_upto_region 2 with fail
  refine start_ (n := 11) (S := fun w' => w'.heap[w.heap.size]? = some (.cells #[.int .u64 0, .int .i64 e, .pointer l] 74 (0, 0)) ∧ SpecRow w' g S loc ∧ Below w.heap.size w w') (ds := []) #[false, false, false, false, false, false, false, false, false, false, false] (by kernel_rfl) rfl rfl ⟨hr1, hs1, hl1.drew⟩ (fun hHeld => ?_)
  refine pure_ (i := 4) (N := some 21) (v := ?_) (a' := ?_) #[false, false, false, false, true, false, false, false, false, false, false] rfl rfl (by kernel_rfl) (fun _ _ _ h => h) (Or.inl ⟨by rfl, ?_⟩) ?_ ?_
  rotate_left
  · intro w'
    go_simp
    with_reducible rfl
  rotate_left
  · simp only [Act.put, List.setIfInBounds_toArray, List.set_cons_zero, List.set_cons_succ, i64_w, i32_w]
    rfl
  refine pure_ (i := 5) (N := some 22) (v := ?_) (a' := ?_) #[false, false, false, false, true, true, false, false, false, false, false] rfl rfl (by kernel_rfl) (fun _ _ _ h => h) (Or.inl ⟨by rfl, ?_⟩) ?_ ?_
  rotate_left
  · intro w'
    go_simp
    with_reducible rfl
  rotate_left
  · simp only [Act.put, List.setIfInBounds_toArray, List.set_cons_zero, List.set_cons_succ, i64_w, i32_w]
    rfl
  refine pure_ (i := 6) (N := some 23) (v := ?_) (a' := ?_) #[false, false, false, false, true, true, true, false, false, false, false] rfl rfl (by kernel_rfl) (fun _ _ _ h => h) (Or.inl ⟨by rfl, ?_⟩) ?_ ?_
  rotate_left
  · intro w'
    go_simp
    with_reducible rfl
  rotate_left
  · simp only [Act.put, List.setIfInBounds_toArray, List.set_cons_zero, List.set_cons_succ, i64_w, i32_w]
    rfl
  refine take_ (i := 0) (N := some 17) (v := ?_) (a' := ?_) #[true, false, false, false, true, true, true, false, false, false, false] rfl rfl (by kernel_rfl) (fun _ _ _ h => h) (Or.inl ⟨by rfl, ?_⟩) hHeld ?_ ?_
  rotate_left
  · rintro w' ⟨s0, s1, s2⟩
    have c0 : w'.cell? ⟨w.heap.size, 0, none⟩ = some (.int .u64 0) := cell_of_row _ _ _ _ _ _ s0
    have c1 : w'.cell? ⟨w.heap.size, 1, none⟩ = some (.int .i64 e) := cell_of_row _ _ _ _ _ _ s0
    have c2 : w'.cell? ⟨w.heap.size, 2, none⟩ = some (.pointer l) := cell_of_row _ _ _ _ _ _ s0
    go_simp
    with_reducible rfl
  rotate_left
  · simp only [Act.put, List.setIfInBounds_toArray, List.set_cons_zero, List.set_cons_succ, i64_w, i32_w]
    rfl
  refine take_ (i := 7) (N := some 24) (v := ?_) (a' := ?_) #[true, false, false, false, true, true, true, true, false, false, false] rfl rfl (by kernel_rfl) (fun _ _ _ h => h) (Or.inl ⟨by rfl, ?_⟩) hHeld ?_ ?_
  rotate_left
  · rintro w' ⟨s0, s1, s2⟩
    have c3 : w'.cell? ⟨g, 5, none⟩ = some (.int .u64 (S.dow : Int)) := cell_of_row _ _ _ _ _ _ s1
    go_simp
    with_reducible rfl
  rotate_left
  · simp only [Act.put, List.setIfInBounds_toArray, List.set_cons_zero, List.set_cons_succ, i64_w, i32_w]
    rfl
  refine one_ (i := 1) (N := some 18) #[true, true, false, false, true, true, true, true, false, false, false] rfl rfl (by kernel_rfl) (by decide) (fun K hK => ?_)
  refine goes_ Try.func148 (by kernel_rfl) rfl #[.agg #[.int .u64 0, .int .i64 e, .pointer l]] (by rfl) rfl rfl (by simp only [List.map_toArray, List.map_cons, List.map_nil]; rfl) ?_
  with_reducible refine (HW.out _ (H.abs.keeps HI.out hHeld.2.2)).mono ?_
  rintro e4 w4 ⟨rfl, hb4⟩
  refine ⟨_, rfl, ?_⟩
  refine hK.out _ _ ⟨(hb4.block _ (Array.getElem?_eq_some_iff.1 hHeld.1).1).trans hHeld.1, hHeld.2.1.below hb4, below_le hHeld.2.2 hb4⟩ (fun hHeld => ?_)
  clear hK K
  refine norm_ (a' := ?_) ?_ ?_
  rotate_left
  · show Act.put _ (some 18) _ = _
    simp only [Act.put, List.setIfInBounds_toArray, List.set_cons_zero, List.set_cons_succ, i64_w, i32_w]
    rfl
  refine pure_ (i := 2) (N := some 19) (v := ?_) (a' := ?_) #[true, true, true, false, true, true, true, true, false, false, false] rfl rfl (by kernel_rfl) (fun _ _ _ h => h) (Or.inl ⟨by rfl, ?_⟩) ?_ ?_
  rotate_left
  · intro w'
    go_simp
    with_reducible rfl
  rotate_left
  · simp only [Act.put, List.setIfInBounds_toArray, List.set_cons_zero, List.set_cons_succ, i64_w, i32_w]
    rfl
  refine pure_ (i := 3) (N := some 20) (v := ?_) (a' := ?_) #[true, true, true, true, true, true, true, true, false, false, false] rfl rfl (by kernel_rfl) (fun _ _ _ h => h) (Or.inl ⟨by rfl, ?_⟩) ?_ ?_
  rotate_left
  · intro w'
    go_simp
    with_reducible rfl
  rotate_left
  · simp only [Act.put, List.setIfInBounds_toArray, List.set_cons_zero, List.set_cons_succ, i64_w, i32_w]
    rfl
  refine pure_ (i := 8) (N := some 25) (v := ?_) (a' := ?_) #[true, true, true, true, true, true, true, true, true, false, false] rfl rfl (by kernel_rfl) (fun _ _ _ h => h) (Or.inl ⟨by rfl, ?_⟩) ?_ ?_
  rotate_left
  · intro w'
    go_simp
    with_reducible rfl
  rotate_left
  · simp only [Act.put, List.setIfInBounds_toArray, List.set_cons_zero, List.set_cons_succ, i64_w, i32_w]
    rfl
  refine pure_ (i := 9) (N := some 26) (v := ?_) (a' := ?_) #[true, true, true, true, true, true, true, true, true, true, false] rfl rfl (by kernel_rfl) (fun _ _ _ h => h) (Or.inl ⟨by rfl, ?_⟩) ?_ ?_
  rotate_left
  · intro w'
    go_simp
    with_reducible rfl
  rotate_left
  · simp only [Act.put, List.setIfInBounds_toArray, List.set_cons_zero, List.set_cons_succ, i64_w, i32_w]
    rfl
  refine pure_ (i := 10) (N := some 6) (v := ?_) (a' := ?_) #[true, true, true, true, true, true, true, true, true, true, true] rfl rfl (by kernel_rfl) (fun _ _ _ h => h) (Or.inl ⟨by rfl, ?_⟩) ?_ ?_
  rotate_left
  · intro w'
    go_simp
    with_reducible rfl
  rotate_left
  · simp only [Act.put, List.setIfInBounds_toArray, List.set_cons_zero, List.set_cons_succ, i64_w, i32_w]
    rfl
  refine done_ (by kernel_rfl) ?_
  obtain ⟨hr2, hs2, hB2⟩ := hHeld
  rw [bit_gt hS.2.2.2.2.2 (by omega) (by omega)]
  generalize IntKind.u64.wrap (2 ^ min (IntKind.u64.wrap wd).toNat 64) = junk2
  have e1 := star_gt hS.2.2.2.1
  have e2 := star_gt hS.2.2.2.2.2
  have c3 : w4.cell? ⟨g, 3, none⟩ = some (.int .u64 (S.dom : Int)) := cell_of_row _ _ _ _ _ _ hs2
  have c5 : w4.cell? ⟨g, 5, none⟩ = some (.int .u64 (S.dow : Int)) := cell_of_row _ _ _ _ _ _ hs2
  clear hr1 hs1 hB1 hr2 hs2 hl1
  cases h1 : inB S.dom 63 <;> cases h2 : inB S.dow 63 <;> rw [h1] at e1 <;> rw [h2] at e2 <;> cases h3 : inB S.dom d <;> cases h4 : inB S.dow wd
  all_goals
    go_wp2_with fail
    all_goals
      go_ret
      exact ⟨by simp [h1, h2], hB2⟩
end Go.Proofs.Ytbgbeohiafiacaa.Cal
