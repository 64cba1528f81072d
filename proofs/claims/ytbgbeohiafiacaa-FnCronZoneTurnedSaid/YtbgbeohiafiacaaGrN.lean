/- Lemmas and walks on the way to the law, merged by wip/tools/pack.py: Zone2, ImplN3, Fixed. Conditions: none. -/
import Derived.Test.YtbgbeohiafiacaaGrM
import Derived.Test.YtbgbeohiafiacaaGrH
import Derived.Deep.AppendLies
namespace Go.Proofs.Ytbgbeohiafiacaa.Cal
open Go Go.RowKit Go.Proofs.YtbgbeohiafiacaaW.PrintWords Go.Proofs.YtbgbeohiafiacaaW.PrintLast
set_option linter.unusedVariables false
set_option linter.unusedSimpArgs false

set_option maxRecDepth 100000 in
set_option maxHeartbeats 4000000 in
theorem dateFixed_any (off : Int) (o0 : -90000 ≤ off) (o1 : off ≤ 90000) (k : Nat) (y m d h mi s ns : Int) (w : World) (y0 : 0 ≤ y) (y1 : y ≤ 10100) (m0 : 1 ≤ m) (m1 : m ≤ 13) (d0 : 1 ≤ d) (d1 : d ≤ 40) (hy : m < 3 → 1 ≤ y)
    (h0 : 0 ≤ h) (h1 : h < 24) (mi0 : 0 ≤ mi) (mi1 : mi < 60) (s0 : 0 ≤ s) (s1 : s < 60) (n0 : 0 ≤ ns) (n1 : ns < 1000000000) (hu : FixedAt off w k) :
    Calls Try.prog 129 #[.int .i64 y, .int .i64 m, .int .i64 d, .int .i64 h, .int .i64 mi, .int .i64 s, .int .i64 ns, .pointer (some ⟨k, 0, none⟩)] w
      fun e w' => e = .returned (tv ns (dayGo y m d * 86400 + (h * 3600 + mi * 60 + s) + 62135596800 - off) (some ⟨k, 0, none⟩)) ∧ Below w.heap.size w w' := by
  have hdd : Hid (∀ y m : Int, 0 ≤ y → y ≤ 10101 → 1 ≤ m → m ≤ 12 → -719600 ≤ dayOf y m d ∧ dayOf y m d ≤ 4000000) := Lib.hid (by
    intro y m a1 a2 a3 a4
    have c1 := cum_nonneg (y := y) a3 (by omega)
    have c2 := cum_lt (y := y) (m := m) (m' := 13) a3 (by omega) (by omega)
    have c3 := cum_last y
    have c4 := lp_01 y
    have c5 := mdays_bd y m
    unfold dayOf ystart
    omega)
  have HN := Lib.hid (fun hi lo base a b w => norm_in hi lo base a b w)
  have HS := Lib.hid (fun (g : Nat) w' hc0 hc2 hf2 hu' => setLocFixed_any g k ns off none w' n0 (by omega) hc0 hc2 hf2 hu')
  by_cases h13 : m = 13
  · subst h13
    have H12 := Lib.hid (fun w => norm_12 y (by omega) (by omega) w)
    have HD := Lib.hid (fun w => dateToAbs_any (y + 1) 1 d (by omega) (by omega) (by omega) (by omega) d0 d1 (by omega) w)
    have hb := hdd.out (y + 1) 1 (by omega) (by omega) (by omega) (by omega)
    have HG : Hid (dayGo y 13 d = dayOf (y + 1) 1 d) := Lib.hid (by unfold dayGo; rw [if_pos rfl])
    rw [HG.out]
    generalize dayOf (y + 1) 1 d = D at *
    clear hdd hy HG
    go_enter Try.func129, Try.ntmps129
    go_wp2_with fail
    refine (H12.out _).mono ?_
    rintro e1 w1 ⟨rfl, rfl⟩
    go_wp2_with fail
    refine (HN.out s ns 1000000000 n0 n1 _).mono ?_
    rintro e1 w1 ⟨rfl, rfl⟩
    go_wp2_with fail
    refine (HN.out mi s 60 s0 s1 _).mono ?_
    rintro e1 w1 ⟨rfl, rfl⟩
    go_wp2_with fail
    refine (HN.out h mi 60 mi0 mi1 _).mono ?_
    rintro e1 w1 ⟨rfl, rfl⟩
    go_wp2_with fail
    refine (HN.out d h 24 h0 h1 _).mono ?_
    rintro e1 w1 ⟨rfl, rfl⟩
    go_wp2_with fail
    refine (HD.out _).mono ?_
    rintro e1 w1 ⟨rfl, rfl⟩
    have HW : Hid (wrap64 (wrap64 (wrap64 (wrap64 (D + absK) * 86400) + (h * 3600 + mi * 60 + s)) + -9223372028741760000) = D * 86400 + (h * 3600 + mi * 60 + s)) := Lib.hid (wrap_days D _ hb.1 hb.2 (by omega) (by omega))
    have u0 : -900000000000 ≤ D * 86400 + (h * 3600 + mi * 60 + s) := by omega
    have u1 : D * 86400 + (h * 3600 + mi * 60 + s) ≤ 900000000000 := by omega
    go_wp2_with fail
    rw [HW.out]
    clear HW
    generalize hue : D * 86400 + (h * 3600 + mi * 60 + s) = u at *
    have HUE := Lib.hid hue
    clear hue
    have HL := Lib.hid (fun w' hu' => lookupFixed_any k off u w' hu' (by omega))
    refine (HL.out _ (hu.below ((Below.refl _ _).alloc (Nat.le_refl _) _))).mono ?_
    rintro e1 wl ⟨nm, rfl, hbl⟩
    by_cases hoff : off = 0
    · have HU := Lib.hid (unixTime_any u ns n0 n1 (by omega) (by omega))
      have hoff' := Lib.hid hoff
      subst hoff
      go_wp2_with fail
      refine (HU.out _).mono ?_
      rintro e1 w1 ⟨rfl, hb1x⟩
      have hb1 := below_le hbl hb1x
      clear hb1x hbl
      have HB1 := Lib.hid (((Below.refl w.heap.size w).alloc (Nat.le_refl _) _).trans (hb1.mono (by simp)))
      have hc16 : w1.cell? ⟨w.heap.size, 0, none⟩ = some (.int .u64 0) := (hb1.cell (p := ⟨w.heap.size, 0, none⟩) (by simp)).trans (by simp [go_sem])
      have hc17 : w1.cell? ⟨w.heap.size, 1, none⟩ = some (.int .i64 0) := (hb1.cell (p := ⟨w.heap.size, 1, none⟩) (by simp)).trans (by simp [go_sem])
      have hc18 : w1.cell? ⟨w.heap.size, 2, none⟩ = some (.pointer none) := (hb1.cell (p := ⟨w.heap.size, 2, none⟩) (by simp)).trans (by simp [go_sem])
      have hf16 : w1.frozen? ⟨w.heap.size, 0, none⟩ = false := (hb1.frozen (p := ⟨w.heap.size, 0, none⟩) (by simp)).trans (by simp [go_sem])
      have hf17 : w1.frozen? ⟨w.heap.size, 1, none⟩ = false := (hb1.frozen (p := ⟨w.heap.size, 1, none⟩) (by simp)).trans (by simp [go_sem])
      have hf18 : w1.frozen? ⟨w.heap.size, 2, none⟩ = false := (hb1.frozen (p := ⟨w.heap.size, 2, none⟩) (by simp)).trans (by simp [go_sem])
      have hrow := (hb1.block w.heap.size (by simp)).trans (heap_alloc_new w (.cells #[.int .u64 0, .int .i64 0, .pointer none] 74))
      have HROW := Lib.hid (((Below.refl _ _).alloc (Nat.le_refl _) (.cells #[.int .u64 ns, .int .i64 (u + 62135596800), .pointer (some ⟨k, 0, none⟩)] 74) |>.block w.heap.size (by simpa using (Array.getElem?_eq_some_iff.1 hrow).1)).trans (row3_set (x := .int .u64 ns) (y := .int .i64 (u + 62135596800)) (z := .pointer (some ⟨k, 0, none⟩)) hrow))
      clear hrow
      have hsz1 : w.heap.size < w1.heap.size := by have := hb1.size; simp at this; omega
      have hu1 := Lib.hid (hu.below HB1.out)
      clear hb1
      unfold tv at *
      go_wp2_with fail
      refine (HS.out w1.heap.size _ (by simp [go_sem]) (by simp [go_sem]) (by simp [go_sem]) (hu1.out.below (by go_grown))).mono ?_
      rintro e1 w2 ⟨rfl, rfl⟩
      go_wp2_with fail
      refine bodyPost_ret (v := .agg #[.int .u64 ns, .int .i64 (u + 62135596800), .pointer (some ⟨k, 0, none⟩)]) (results_time rfl _ _ w.heap.size _ rfl rfl HROW.out) rfl ⟨by rw [HUE.out, show u + 62135596800 - 0 = u + 62135596800 by omega]; rfl, ?_⟩
      have hz := HB1.out.size
      exact (((HB1.out.setCell (p := ⟨w.heap.size, 0, none⟩) (Nat.le_refl _) _).setCell (p := ⟨w.heap.size, 1, none⟩) (Nat.le_refl _) _).setCell (p := ⟨w.heap.size, 2, none⟩) (Nat.le_refl _) _).alloc (by simpa using hz) _
    · have HU := Lib.hid (unixTime_any (u - off) ns n0 n1 (by omega) (by omega))
      have hwo : wrap64 (u - off) = u - off := by unfold wrap64; omega
      have hl1 : decide (u - off < -9223372036854775808) = false := decide_eq_false (by omega)
      have hl2 : decide (u - off ≥ 9223372036854775807) = false := decide_eq_false (by omega)
      have hl3 : decide (9223372036854775807 ≤ u - off) = false := decide_eq_false (by omega)
      go_wp2_with fail
      refine (HU.out _).mono ?_
      rintro e1 w1 ⟨rfl, hb1x⟩
      have hb1 := below_le hbl hb1x
      clear hb1x hbl
      have HB1 := Lib.hid (((Below.refl w.heap.size w).alloc (Nat.le_refl _) _).trans (hb1.mono (by simp)))
      have hc16 : w1.cell? ⟨w.heap.size, 0, none⟩ = some (.int .u64 0) := (hb1.cell (p := ⟨w.heap.size, 0, none⟩) (by simp)).trans (by simp [go_sem])
      have hc17 : w1.cell? ⟨w.heap.size, 1, none⟩ = some (.int .i64 0) := (hb1.cell (p := ⟨w.heap.size, 1, none⟩) (by simp)).trans (by simp [go_sem])
      have hc18 : w1.cell? ⟨w.heap.size, 2, none⟩ = some (.pointer none) := (hb1.cell (p := ⟨w.heap.size, 2, none⟩) (by simp)).trans (by simp [go_sem])
      have hf16 : w1.frozen? ⟨w.heap.size, 0, none⟩ = false := (hb1.frozen (p := ⟨w.heap.size, 0, none⟩) (by simp)).trans (by simp [go_sem])
      have hf17 : w1.frozen? ⟨w.heap.size, 1, none⟩ = false := (hb1.frozen (p := ⟨w.heap.size, 1, none⟩) (by simp)).trans (by simp [go_sem])
      have hf18 : w1.frozen? ⟨w.heap.size, 2, none⟩ = false := (hb1.frozen (p := ⟨w.heap.size, 2, none⟩) (by simp)).trans (by simp [go_sem])
      have hrow := (hb1.block w.heap.size (by simp)).trans (heap_alloc_new w (.cells #[.int .u64 0, .int .i64 0, .pointer none] 74))
      have HROW := Lib.hid (((Below.refl _ _).alloc (Nat.le_refl _) (.cells #[.int .u64 ns, .int .i64 ((u - off) + 62135596800), .pointer (some ⟨k, 0, none⟩)] 74) |>.block w.heap.size (by simpa using (Array.getElem?_eq_some_iff.1 hrow).1)).trans (row3_set (x := .int .u64 ns) (y := .int .i64 ((u - off) + 62135596800)) (z := .pointer (some ⟨k, 0, none⟩)) hrow))
      clear hrow
      have hsz1 : w.heap.size < w1.heap.size := by have := hb1.size; simp at this; omega
      have hu1 := Lib.hid (hu.below HB1.out)
      clear hb1
      unfold tv at *
      go_wp2_with fail
      refine (HS.out w1.heap.size _ (by simp [go_sem]) (by simp [go_sem]) (by simp [go_sem]) (hu1.out.below (by go_grown))).mono ?_
      rintro e1 w2 ⟨rfl, rfl⟩
      go_wp2_with fail
      refine bodyPost_ret (v := .agg #[.int .u64 ns, .int .i64 ((u - off) + 62135596800), .pointer (some ⟨k, 0, none⟩)]) (results_time rfl _ _ w.heap.size _ rfl rfl HROW.out) rfl ⟨by rw [HUE.out, show u + 62135596800 - off = (u - off) + 62135596800 by omega]; rfl, ?_⟩
      have hz := HB1.out.size
      exact (((HB1.out.setCell (p := ⟨w.heap.size, 0, none⟩) (Nat.le_refl _) _).setCell (p := ⟨w.heap.size, 1, none⟩) (Nat.le_refl _) _).setCell (p := ⟨w.heap.size, 2, none⟩) (Nat.le_refl _) _).alloc (by simpa using hz) _
  · have m12 : m ≤ 12 := by omega
    have HD := Lib.hid (fun w => dateToAbs_any y m d (by omega) (by omega) (by omega) (by omega) d0 d1 hy w)
    have hb := hdd.out y m (by omega) (by omega) (by omega) (by omega)
    have HG : Hid (dayGo y m d = dayOf y m d) := Lib.hid (by unfold dayGo; rw [if_neg h13])
    have HM : Hid (m - 1 + 1 = m) := Lib.hid (by omega)
    rw [HG.out]
    generalize dayOf y m d = D at *
    clear hdd hy HG h13
    go_enter Try.func129, Try.ntmps129
    go_wp2_with fail
    refine (HN.out y (m - 1) 12 (by omega) (by omega) _).mono ?_
    rintro e1 w1 ⟨rfl, rfl⟩
    go_wp2_with fail
    refine (HN.out s ns 1000000000 n0 n1 _).mono ?_
    rintro e1 w1 ⟨rfl, rfl⟩
    go_wp2_with fail
    refine (HN.out mi s 60 s0 s1 _).mono ?_
    rintro e1 w1 ⟨rfl, rfl⟩
    go_wp2_with fail
    refine (HN.out h mi 60 mi0 mi1 _).mono ?_
    rintro e1 w1 ⟨rfl, rfl⟩
    go_wp2_with fail
    refine (HN.out d h 24 h0 h1 _).mono ?_
    rintro e1 w1 ⟨rfl, rfl⟩
    go_wp2_with fail
    refine (HD.out _).mono ?_
    rintro e1 w1 ⟨rfl, rfl⟩
    have HW : Hid (wrap64 (wrap64 (wrap64 (wrap64 (D + absK) * 86400) + (h * 3600 + mi * 60 + s)) + -9223372028741760000) = D * 86400 + (h * 3600 + mi * 60 + s)) := Lib.hid (wrap_days D _ hb.1 hb.2 (by omega) (by omega))
    have u0 : -900000000000 ≤ D * 86400 + (h * 3600 + mi * 60 + s) := by omega
    have u1 : D * 86400 + (h * 3600 + mi * 60 + s) ≤ 900000000000 := by omega
    go_wp2_with fail
    rw [HW.out]
    clear HW
    generalize hue : D * 86400 + (h * 3600 + mi * 60 + s) = u at *
    have HUE := Lib.hid hue
    clear hue
    have HL := Lib.hid (fun w' hu' => lookupFixed_any k off u w' hu' (by omega))
    refine (HL.out _ (hu.below ((Below.refl _ _).alloc (Nat.le_refl _) _))).mono ?_
    rintro e1 wl ⟨nm, rfl, hbl⟩
    by_cases hoff : off = 0
    · have HU := Lib.hid (unixTime_any u ns n0 n1 (by omega) (by omega))
      have hoff' := Lib.hid hoff
      subst hoff
      go_wp2_with fail
      refine (HU.out _).mono ?_
      rintro e1 w1 ⟨rfl, hb1x⟩
      have hb1 := below_le hbl hb1x
      clear hb1x hbl
      have HB1 := Lib.hid (((Below.refl w.heap.size w).alloc (Nat.le_refl _) _).trans (hb1.mono (by simp)))
      have hc16 : w1.cell? ⟨w.heap.size, 0, none⟩ = some (.int .u64 0) := (hb1.cell (p := ⟨w.heap.size, 0, none⟩) (by simp)).trans (by simp [go_sem])
      have hc17 : w1.cell? ⟨w.heap.size, 1, none⟩ = some (.int .i64 0) := (hb1.cell (p := ⟨w.heap.size, 1, none⟩) (by simp)).trans (by simp [go_sem])
      have hc18 : w1.cell? ⟨w.heap.size, 2, none⟩ = some (.pointer none) := (hb1.cell (p := ⟨w.heap.size, 2, none⟩) (by simp)).trans (by simp [go_sem])
      have hf16 : w1.frozen? ⟨w.heap.size, 0, none⟩ = false := (hb1.frozen (p := ⟨w.heap.size, 0, none⟩) (by simp)).trans (by simp [go_sem])
      have hf17 : w1.frozen? ⟨w.heap.size, 1, none⟩ = false := (hb1.frozen (p := ⟨w.heap.size, 1, none⟩) (by simp)).trans (by simp [go_sem])
      have hf18 : w1.frozen? ⟨w.heap.size, 2, none⟩ = false := (hb1.frozen (p := ⟨w.heap.size, 2, none⟩) (by simp)).trans (by simp [go_sem])
      have hrow := (hb1.block w.heap.size (by simp)).trans (heap_alloc_new w (.cells #[.int .u64 0, .int .i64 0, .pointer none] 74))
      have HROW := Lib.hid (((Below.refl _ _).alloc (Nat.le_refl _) (.cells #[.int .u64 ns, .int .i64 (u + 62135596800), .pointer (some ⟨k, 0, none⟩)] 74) |>.block w.heap.size (by simpa using (Array.getElem?_eq_some_iff.1 hrow).1)).trans (row3_set (x := .int .u64 ns) (y := .int .i64 (u + 62135596800)) (z := .pointer (some ⟨k, 0, none⟩)) hrow))
      clear hrow
      have hsz1 : w.heap.size < w1.heap.size := by have := hb1.size; simp at this; omega
      have hu1 := Lib.hid (hu.below HB1.out)
      clear hb1
      unfold tv at *
      go_wp2_with fail
      refine (HS.out w1.heap.size _ (by simp [go_sem]) (by simp [go_sem]) (by simp [go_sem]) (hu1.out.below (by go_grown))).mono ?_
      rintro e1 w2 ⟨rfl, rfl⟩
      go_wp2_with fail
      refine bodyPost_ret (v := .agg #[.int .u64 ns, .int .i64 (u + 62135596800), .pointer (some ⟨k, 0, none⟩)]) (results_time rfl _ _ w.heap.size _ rfl rfl HROW.out) rfl ⟨by rw [HUE.out, show u + 62135596800 - 0 = u + 62135596800 by omega]; rfl, ?_⟩
      have hz := HB1.out.size
      exact (((HB1.out.setCell (p := ⟨w.heap.size, 0, none⟩) (Nat.le_refl _) _).setCell (p := ⟨w.heap.size, 1, none⟩) (Nat.le_refl _) _).setCell (p := ⟨w.heap.size, 2, none⟩) (Nat.le_refl _) _).alloc (by simpa using hz) _
    · have HU := Lib.hid (unixTime_any (u - off) ns n0 n1 (by omega) (by omega))
      have hwo : wrap64 (u - off) = u - off := by unfold wrap64; omega
      have hl1 : decide (u - off < -9223372036854775808) = false := decide_eq_false (by omega)
      have hl2 : decide (u - off ≥ 9223372036854775807) = false := decide_eq_false (by omega)
      have hl3 : decide (9223372036854775807 ≤ u - off) = false := decide_eq_false (by omega)
      go_wp2_with fail
      refine (HU.out _).mono ?_
      rintro e1 w1 ⟨rfl, hb1x⟩
      have hb1 := below_le hbl hb1x
      clear hb1x hbl
      have HB1 := Lib.hid (((Below.refl w.heap.size w).alloc (Nat.le_refl _) _).trans (hb1.mono (by simp)))
      have hc16 : w1.cell? ⟨w.heap.size, 0, none⟩ = some (.int .u64 0) := (hb1.cell (p := ⟨w.heap.size, 0, none⟩) (by simp)).trans (by simp [go_sem])
      have hc17 : w1.cell? ⟨w.heap.size, 1, none⟩ = some (.int .i64 0) := (hb1.cell (p := ⟨w.heap.size, 1, none⟩) (by simp)).trans (by simp [go_sem])
      have hc18 : w1.cell? ⟨w.heap.size, 2, none⟩ = some (.pointer none) := (hb1.cell (p := ⟨w.heap.size, 2, none⟩) (by simp)).trans (by simp [go_sem])
      have hf16 : w1.frozen? ⟨w.heap.size, 0, none⟩ = false := (hb1.frozen (p := ⟨w.heap.size, 0, none⟩) (by simp)).trans (by simp [go_sem])
      have hf17 : w1.frozen? ⟨w.heap.size, 1, none⟩ = false := (hb1.frozen (p := ⟨w.heap.size, 1, none⟩) (by simp)).trans (by simp [go_sem])
      have hf18 : w1.frozen? ⟨w.heap.size, 2, none⟩ = false := (hb1.frozen (p := ⟨w.heap.size, 2, none⟩) (by simp)).trans (by simp [go_sem])
      have hrow := (hb1.block w.heap.size (by simp)).trans (heap_alloc_new w (.cells #[.int .u64 0, .int .i64 0, .pointer none] 74))
      have HROW := Lib.hid (((Below.refl _ _).alloc (Nat.le_refl _) (.cells #[.int .u64 ns, .int .i64 ((u - off) + 62135596800), .pointer (some ⟨k, 0, none⟩)] 74) |>.block w.heap.size (by simpa using (Array.getElem?_eq_some_iff.1 hrow).1)).trans (row3_set (x := .int .u64 ns) (y := .int .i64 ((u - off) + 62135596800)) (z := .pointer (some ⟨k, 0, none⟩)) hrow))
      clear hrow
      have hsz1 : w.heap.size < w1.heap.size := by have := hb1.size; simp at this; omega
      have hu1 := Lib.hid (hu.below HB1.out)
      clear hb1
      unfold tv at *
      go_wp2_with fail
      refine (HS.out w1.heap.size _ (by simp [go_sem]) (by simp [go_sem]) (by simp [go_sem]) (hu1.out.below (by go_grown))).mono ?_
      rintro e1 w2 ⟨rfl, rfl⟩
      go_wp2_with fail
      refine bodyPost_ret (v := .agg #[.int .u64 ns, .int .i64 ((u - off) + 62135596800), .pointer (some ⟨k, 0, none⟩)]) (results_time rfl _ _ w.heap.size _ rfl rfl HROW.out) rfl ⟨by rw [HUE.out, show u + 62135596800 - off = (u - off) + 62135596800 by omega]; rfl, ?_⟩
      have hz := HB1.out.size
      exact (((HB1.out.setCell (p := ⟨w.heap.size, 0, none⟩) (Nat.le_refl _) _).setCell (p := ⟨w.heap.size, 1, none⟩) (Nat.le_refl _) _).setCell (p := ⟨w.heap.size, 2, none⟩) (Nat.le_refl _) _).alloc (by simpa using hz) _

theorem clock_fixed (off : Int) (o0 : -90000 ≤ off) (o1 : off ≤ 90000) (k : Nat) : Clock (some ⟨k, 0, none⟩) off (fun w => FixedAt off w k) (fun w j => j = k ∧ FixedAt off w k) where
  abs := ⟨o0, o1, fun h hb => h.below hb, fun n e w h0 h1 he hI => absSecFixed_any n e off k h0 h1 he o0 o1 w hI⟩
  locK := fun h hb => ⟨h.1, h.2.below hb⟩
  loc := fun n e w hI => (locFixed_any n e k w).mono fun _ _ ⟨h1, h2⟩ => ⟨k, h1, ⟨rfl, hI.below h2⟩, h2⟩
  date := fun j y m d h mi s w a1 a2 a3 a4 a5 a6 a7 a8 a9 b1 b2 b3 b4 hu => by
    obtain ⟨rfl, hu⟩ := hu
    exact dateFixed_any off o0 o1 j y m d h mi s 0 w a1 a2 a3 a4 a5 a6 a7 a8 a9 b1 b2 b3 b4 (by omega) (by omega) hu
  inn := fun n e l' j w h0 h1 hu => by
    obtain ⟨rfl, hu⟩ := hu
    exact inFixed_any n e off l' j w h0 h1 hu
end Go.Proofs.Ytbgbeohiafiacaa.Cal

namespace Go.Proofs.Ytbgbeohiafiacaa.Cal
open Go Go.RowKit Go.Proofs.YtbgbeohiafiacaaW.PrintWords Go.Proofs.YtbgbeohiafiacaaW.PrintLast Go.Proofs.Ytbgbeohiafiacaa.Sched
set_option linter.unusedVariables false
set_option linter.unusedSimpArgs false

/-- where Zi holds, the zone's clocks are off seconds ahead of UTC -/
structure ZoneIn (zv : Value) (off : Int) (Zi : World → Prop) : Prop where
  keep : ∀ {w w' : World}, Zi w → Below w.heap.size w w' → Zi w'
  gives : ∀ w : World, Zi w → Calls Try.prog 35 #[zv] w fun e w2 =>
    ∃ (l : Option Addr) (Inv : World → Prop) (Loc : World → Nat → Prop) (k : Nat), Clock l off Inv Loc ∧ LocS Loc ∧ e = .returned (.pointer (some ⟨k, 0, none⟩)) ∧ Loc w2 k ∧ Inv w2 ∧ Below w.heap.size w w2

set_option maxRecDepth 100000 in
set_option maxHeartbeats 4000000 in
theorem implNext_in (z0 z1 z2 z3 : Value) (off : Int) (Zi : World → Prop) (hz : ZoneIn (.agg #[z0, z1, z2, z3]) off Zi) (d : Int) (S : Sets) (hS : S.ok) (sec nano : Int) (s0 : -62135596800 ≤ sec) (s1 : sec ≤ 253402300799) (n0 : 0 ≤ nano) (n1 : nano < 1000000000)
    (o0 : -86400 ≤ off) (o1 : off ≤ 86400) (o60 : off % 60 = 0) (hy : 0 ≤ off ∨ ∀ x, monthB S x = true) (w : World) (hZi : Zi w) :
    Calls Try.prog 11 #[.agg (setsCells d S), .agg #[.int .i64 sec, .int .i64 nano], .agg #[z0, z1, z2, z3]] w fun e w' => ∃ r : Option Int, Least S (sec + 1 + off) (yearL (sec + 1 + off) + 5) r ∧ e = .returned (.tuple #[.agg (ansI off r), .bool r.isSome]) ∧ Below w.heap.size w w' := by
  have HSC := Lib.hid (fun w' => schedSets_any d S w')
  have HZ := Lib.hid (fun w' (hi : Zi w') => hz.gives w' hi)
  have HK : Hid (∀ {w1 w2 : World}, Zi w1 → Below w1.heap.size w1 w2 → Zi w2) := Lib.hid (fun h hb => hz.keep h hb)
  have hmf : ∀ (fn : Fn) (first cap : Array Value) (w : World), (Instr.makeFunc fn first cap).run Try.prog w = .ok (.func fn first cap) w := fun _ _ _ _ => rfl
  have hlim : yearL (sec + 1 + off) + 5 ≤ 10010 := by have := year_top (L := sec + 1 + off) (by omega); omega
  have hy1 : 1 ≤ yearL (sec + 1 + off) ∨ ∀ x, monthB S x = true := by
    rcases hy with h | h
    · exact .inl (year_one (by omega))
    · exact .inr h
  have HPAR : Hid (∀ (Inv : World → Prop) (w' : World) (g : Nat), Inv w' → SpecRow w' g S none → Par off Inv w' g S (sec + 1 + off) (yearL (sec + 1 + off) + 5)) := Lib.hid (fun Inv w' g hI hg => ⟨hI, hg, hS, by omega, o0, o1, by omega, hlim, hy1⟩)
  have HL : Hid (∀ r, Least S (sec + 1 + off) (yearL (sec + 1 + off) + 5) r → ∀ L, r = some L → 0 < L + 62135596800 - off ∧ L + 62135596800 - off ≤ 900000000000) := Lib.hid (by
    rintro r hr L rfl
    obtain ⟨h1, h2, h3, h4⟩ := hr
    have h5 := lim_lt (L := L) (y := 10011) (by omega)
    rw [show ystart (10011 + 1) = 2937280 from by decide] at h5
    exact ⟨by omega, by omega⟩)
  clear hlim hy1 hy hz
  go_enter Try.func11, Try.ntmps11
  go_upto_region 1 with fail
  generalize hW : World.alloc (World.alloc (World.alloc (World.alloc w _) _) _) _ = wo
  have hr0 : wo.heap[w.heap.size]? = some (.cells (setsCells d S) 27 (0, 0)) := by
    rw [← hW, Below.heap_alloc _ _ _ (by simp; try omega), Below.heap_alloc _ _ _ (by simp; try omega), Below.heap_alloc _ _ _ (by simp)]
    exact heap_alloc_new w _
  have hr1 : wo.heap[w.heap.size + 1]? = some (.cells #[.int .i64 sec, .int .i64 nano] 33 (0, 0)) := by
    rw [← hW, Below.heap_alloc _ _ _ (by simp; try omega), Below.heap_alloc _ _ _ (by simp)]
    exact heap_two w _ _
  have hr2 : wo.heap[w.heap.size + 1 + 1]? = some (.cells #[z0, z1, z2, z3] 41 (0, 0)) := by
    rw [← hW, Below.heap_alloc _ _ _ (by simp)]
    have := heap_two (w.alloc (.cells (setsCells d S) 27)) (.cells #[.int .i64 sec, .int .i64 nano] 33) (.cells #[z0, z1, z2, z3] 41)
    rw [show (w.alloc (.cells (setsCells d S) 27)).heap.size = w.heap.size + 1 by simp] at this
    exact this
  have hres : wo.heap[w.heap.size + 1 + 1 + 1]? = some (.cells #[.int .i64 0, .int .i64 0] 33 (0, 0)) := by
    rw [← hW]
    have := heap_two ((w.alloc (.cells (setsCells d S) 27)).alloc (.cells #[.int .i64 sec, .int .i64 nano] 33)) (.cells #[z0, z1, z2, z3] 41) (.cells #[.int .i64 0, .int .i64 0] 33)
    rw [show ((w.alloc (.cells (setsCells d S) 27)).alloc (.cells #[.int .i64 sec, .int .i64 nano] 33)).heap.size = w.heap.size + 1 + 1 by simp] at this
    exact this
  have hB : Below w.heap.size w wo := by
    rw [← hW]
    exact ((((Below.refl _ _).alloc (Nat.le_refl _) _).alloc (by simp) _).alloc (by simp only [World.alloc]; simp; try omega) _).alloc (by simp; try omega) _
  have hZo : Zi wo := HK.out hZi hB
  clear hW
  refine start_ (n := 15) (S := fun w' => w'.heap[w.heap.size]? = some (.cells (setsCells d S) 27 (0, 0)) ∧ w'.heap[w.heap.size + 1]? = some (.cells #[.int .i64 sec, .int .i64 nano] 33 (0, 0)) ∧ w'.heap[w.heap.size + 1 + 1]? = some (.cells #[z0, z1, z2, z3] 41 (0, 0)) ∧ Below wo.heap.size wo w' ∧ Zi w') (ds := [13]) #[false, false, false, false, false, false, false, false, false, false, false, false, false, false, false] (by kernel_rfl) rfl rfl ⟨hr0, hr1, hr2, (Below.refl _ _).drew, HK.out hZo (Below.refl _ _).drew⟩ (fun hHeld => ?_)
  refine take_ (i := 0) (N := some 8) (v := ?_) (a' := ?_) #[true, false, false, false, false, false, false, false, false, false, false, false, false, false, false] rfl rfl (by kernel_rfl) (fun _ _ _ h => h) (Or.inl ⟨by rfl, ?_⟩) hHeld ?_ ?_
  rotate_left
  · rintro w' ⟨s0, s1, s2, s3, s4⟩
    refine exec_load_row _ _ w' 27 (.tmp 3) ?_ (w.heap.size) ?_ _ _ _ _ s0 Try.underlying27 rfl schedSize
    · rfl
    · rfl
  rotate_left
  · simp only [Act.put, List.setIfInBounds_toArray, List.set_cons_zero, List.set_cons_succ, i64_w, i32_w]
    rfl
  refine take_ (i := 2) (N := some 10) (v := ?_) (a' := ?_) #[true, false, true, false, false, false, false, false, false, false, false, false, false, false, false] rfl rfl (by kernel_rfl) (fun _ _ _ h => h) (Or.inl ⟨by rfl, ?_⟩) hHeld ?_ ?_
  rotate_left
  · rintro w' ⟨s0, s1, s2, s3, s4⟩
    refine exec_load_row _ _ w' 33 (.tmp 4) ?_ (w.heap.size + 1) ?_ _ _ _ _ s1 Try.underlying33 rfl instSize
    · rfl
    · rfl
  rotate_left
  · simp only [Act.put, List.setIfInBounds_toArray, List.set_cons_zero, List.set_cons_succ, i64_w, i32_w]
    rfl
  refine take_ (i := 3) (N := some 11) (v := ?_) (a' := ?_) #[true, false, true, true, false, false, false, false, false, false, false, false, false, false, false] rfl rfl (by kernel_rfl) (fun _ _ _ h => h) (Or.inl ⟨by rfl, ?_⟩) hHeld ?_ ?_
  rotate_left
  · rintro w' ⟨s0, s1, s2, s3, s4⟩
    refine exec_load_row _ _ w' 41 (.tmp 5) ?_ (w.heap.size + 1 + 1) ?_ _ _ _ _ s2 Try.underlying41 rfl zoneSize
    · rfl
    · rfl
  rotate_left
  · simp only [Act.put, List.setIfInBounds_toArray, List.set_cons_zero, List.set_cons_succ, i64_w, i32_w]
    rfl
  refine one_ (i := 1) (N := some 9) #[true, true, true, true, false, false, false, false, false, false, false, false, false, false, false] rfl rfl (by kernel_rfl) (by decide) (fun K hK => ?_)
  refine goes_ Try.func29 (by kernel_rfl) rfl #[.agg (setsCells d S), .pointer none] (by rfl) rfl rfl (by simp only [List.map_toArray, List.map_cons, List.map_nil]; rfl) ?_
  with_reducible refine (HSC.out _).mono ?_
  rintro e1 w1 ⟨g, rfl, hg1, hb1⟩
  refine ⟨_, rfl, ?_⟩
  have hna : ∀ w' : World, (nilAhead 339 132 (.pointer (some ⟨g, 0, none⟩)) "Next").run Try.prog w' = .ok (some false) w' := fun w' => by rfl
  refine hK.out _ _ ⟨(hb1.block _ (Array.getElem?_eq_some_iff.1 hHeld.1).1).trans hHeld.1, (hb1.block _ (Array.getElem?_eq_some_iff.1 hHeld.2.1).1).trans hHeld.2.1, (hb1.block _ (Array.getElem?_eq_some_iff.1 hHeld.2.2.1).1).trans hHeld.2.2.1, below_le hHeld.2.2.2.1 hb1, HK.out hHeld.2.2.2.2 hb1⟩ (fun hHeld => ?_)
  clear hK K
  refine norm_ (a' := ?_) ?_ ?_
  rotate_left
  · show Act.put _ (some 9) _ = _
    simp only [Act.put, List.setIfInBounds_toArray, List.set_cons_zero, List.set_cons_succ, i64_w, i32_w]
    rfl
  refine pure_ (i := 6) (N := some 14) (v := ?_) (a' := ?_) #[true, true, true, true, false, false, true, false, false, false, false, false, false, false, false] rfl rfl (by kernel_rfl) (fun _ _ _ h => h) (Or.inl ⟨by rfl, ?_⟩) ?_ ?_
  rotate_left
  · intro w'
    go_simp
    with_reducible rfl
  rotate_left
  · simp only [Act.put, List.setIfInBounds_toArray, List.set_cons_zero, List.set_cons_succ, i64_w, i32_w]
    rfl
  refine pure_ (i := 7) (N := some 15) (v := ?_) (a' := ?_) #[true, true, true, true, false, false, true, true, false, false, false, false, false, false, false] rfl rfl (by kernel_rfl) (fun _ _ _ h => h) (Or.inl ⟨by rfl, ?_⟩) ?_ ?_
  rotate_left
  · intro w'
    go_simp
    with_reducible rfl
  rotate_left
  · simp only [Act.put, List.setIfInBounds_toArray, List.set_cons_zero, List.set_cons_succ, i64_w, i32_w]
    rfl
  refine pure_ (i := 8) (N := some 16) (v := ?_) (a' := ?_) #[true, true, true, true, false, false, true, true, true, false, false, false, false, false, false] rfl rfl (by kernel_rfl) (fun _ _ _ h => h) (Or.inl ⟨by rfl, ?_⟩) ?_ ?_
  rotate_left
  · intro w'
    go_simp
    with_reducible rfl
  rotate_left
  · simp only [Act.put, List.setIfInBounds_toArray, List.set_cons_zero, List.set_cons_succ, i64_w, i32_w]
    rfl
  refine one_ (i := 4) (N := some 12) #[true, true, true, true, true, false, true, true, true, false, false, false, false, false, false] rfl rfl (by kernel_rfl) (by decide) (fun K hK => ?_)
  refine goes_ Try.func35 (by kernel_rfl) rfl #[.agg #[z0, z1, z2, z3]] (by rfl) rfl rfl (by simp only [List.map_toArray, List.map_cons, List.map_nil]; rfl) ?_
  with_reducible refine (HZ.out _ hHeld.2.2.2.2).mono ?_
  rintro e4 w4 ⟨l, Inv, Loc, k, H, hls, rfl, hk, hI4, hb4⟩
  refine ⟨_, rfl, ?_⟩
  have hg4 := hg1.below hb4
  refine hK.out _ _ ⟨(hb4.block _ (Array.getElem?_eq_some_iff.1 hHeld.1).1).trans hHeld.1, (hb4.block _ (Array.getElem?_eq_some_iff.1 hHeld.2.1).1).trans hHeld.2.1, (hb4.block _ (Array.getElem?_eq_some_iff.1 hHeld.2.2.1).1).trans hHeld.2.2.1, below_le hHeld.2.2.2.1 hb4, HK.out hHeld.2.2.2.2 hb4⟩ (fun hHeld => ?_)
  clear hK K
  refine norm_ (a' := ?_) ?_ ?_
  rotate_left
  · show Act.put _ (some 12) _ = _
    simp only [Act.put, List.setIfInBounds_toArray, List.set_cons_zero, List.set_cons_succ, i64_w, i32_w]
    rfl
  refine one_ (i := 5) (N := some 13) #[true, true, true, true, true, true, true, true, true, false, false, false, false, false, false] rfl rfl (by kernel_rfl) (by decide) (fun K hK => ?_)
  refine goes_ Try.func34 (by kernel_rfl) rfl #[.agg #[.int .i64 sec, .int .i64 nano], .pointer (some ⟨k, 0, none⟩)] (by rfl) rfl rfl (by simp only [List.map_toArray, List.map_cons, List.map_nil]; rfl) ?_
  with_reducible refine (moment_any H k sec nano n0 n1 (by omega) (by omega) _ hk).mono ?_
  rintro e5 w5 ⟨rfl, hb5⟩
  refine ⟨_, rfl, ?_⟩
  have hg5 := hg4.below hb5
  have hI5 := H.abs.keeps hI4 hb5
  refine hK.out _ _ ⟨(hb5.block _ (Array.getElem?_eq_some_iff.1 hHeld.1).1).trans hHeld.1, (hb5.block _ (Array.getElem?_eq_some_iff.1 hHeld.2.1).1).trans hHeld.2.1, (hb5.block _ (Array.getElem?_eq_some_iff.1 hHeld.2.2.1).1).trans hHeld.2.2.1, below_le hHeld.2.2.2.1 hb5, HK.out hHeld.2.2.2.2 hb5⟩ (fun hHeld => ?_)
  clear hK K
  refine norm_ (a' := ?_) ?_ ?_
  rotate_left
  · show Act.put _ (some 13) _ = _
    simp only [Act.put, List.setIfInBounds_toArray, List.set_cons_zero, List.set_cons_succ, i64_w, i32_w]
    rfl
  refine one_ (i := 9) (N := some 17) #[true, true, true, true, true, true, true, true, true, true, false, false, false, false, false] rfl rfl (by kernel_rfl) (by decide) (fun K hK => ?_)
  refine call_ (f := 125) #[.pointer (some ⟨g, 0, none⟩), .agg #[.int .u64 nano, .int .i64 (sec + 62135596800), .pointer l]] (by rfl) rfl (by go_simp; rfl) ?_
  refine (next_any H hls (HPAR.out Inv _ g hI5 hg5) o60 nano (sec + 62135596800) n0 n1 (by omega) (by omega) (by omega) rfl).mono ?_
  rintro e9 w9 ⟨r, hr, rfl, hb9⟩
  refine ⟨_, rfl, ?_⟩
  refine hK.out _ _ ⟨(hb9.block _ (Array.getElem?_eq_some_iff.1 hHeld.1).1).trans hHeld.1, (hb9.block _ (Array.getElem?_eq_some_iff.1 hHeld.2.1).1).trans hHeld.2.1, (hb9.block _ (Array.getElem?_eq_some_iff.1 hHeld.2.2.1).1).trans hHeld.2.2.1, below_le hHeld.2.2.2.1 hb9, HK.out hHeld.2.2.2.2 hb9⟩ (fun hHeld => ?_)
  clear hK K
  refine norm_ (a' := ?_) ?_ ?_
  rotate_left
  · show Act.put _ (some 17) _ = _
    simp only [Act.put, List.setIfInBounds_toArray, List.set_cons_zero, List.set_cons_succ, i64_w, i32_w]
    rfl
  refine one_ (i := 10) (N := some 18) #[true, true, true, true, true, true, true, true, true, true, true, false, false, false, false] rfl rfl (by kernel_rfl) (by decide) (fun K hK => ?_)
  refine goes_ Try.func33 (by kernel_rfl) rfl #[ansT l off r] (by rfl) rfl rfl (by simp only [List.map_toArray, List.map_cons, List.map_nil]; rfl) ?_
  with_reducible refine (answer_any l off r (HL.out r hr) _).mono ?_
  rintro e10 w10 ⟨rfl, hb10⟩
  refine ⟨_, rfl, ?_⟩
  refine hK.out _ _ ⟨(hb10.block _ (Array.getElem?_eq_some_iff.1 hHeld.1).1).trans hHeld.1, (hb10.block _ (Array.getElem?_eq_some_iff.1 hHeld.2.1).1).trans hHeld.2.1, (hb10.block _ (Array.getElem?_eq_some_iff.1 hHeld.2.2.1).1).trans hHeld.2.2.1, below_le hHeld.2.2.2.1 hb10, HK.out hHeld.2.2.2.2 hb10⟩ (fun hHeld => ?_)
  clear hK K
  refine norm_ (a' := ?_) ?_ ?_
  rotate_left
  · show Act.put _ (some 18) _ = _
    simp only [Act.put, List.setIfInBounds_toArray, List.set_cons_zero, List.set_cons_succ, i64_w, i32_w]
    rfl
  refine pure_ (i := 11) (N := some 19) (v := ?_) (a' := ?_) #[true, true, true, true, true, true, true, true, true, true, true, true, false, false, false] rfl rfl (by kernel_rfl) (fun _ _ _ h => h) (Or.inl ⟨by rfl, ?_⟩) ?_ ?_
  rotate_left
  · intro w'
    go_simp
    with_reducible rfl
  rotate_left
  · simp only [Act.put, List.setIfInBounds_toArray, List.set_cons_zero, List.set_cons_succ, i64_w, i32_w]
    rfl
  refine pure_ (i := 12) (N := some 20) (v := ?_) (a' := ?_) #[true, true, true, true, true, true, true, true, true, true, true, true, true, false, false] rfl rfl (by kernel_rfl) (fun _ _ _ h => h) (Or.inl ⟨by rfl, ?_⟩) ?_ ?_
  rotate_left
  · intro w'
    go_simp
    with_reducible rfl
  rotate_left
  · simp only [Act.put, List.setIfInBounds_toArray, List.set_cons_zero, List.set_cons_succ, i64_w, i32_w]
    rfl
  refine last_ (i := 13) (N := none) #[true, true, true, true, true, true, true, true, true, true, true, true, true, true, false] rfl rfl (by kernel_rfl) (by decide) (fun K hK => ?_)
  rw [if_pos (by rfl)]
  refine wp_store_row 33 _ _ rfl (w.heap.size + 1 + 1 + 1) (ansI off r) rfl rfl 33 #[.int .i64 0, .int .i64 0] ((hHeld.2.2.2.1.block _ (Array.getElem?_eq_some_iff.1 hres).1).trans hres) (by rw [ansI_size]; exact instSize) (by rw [ansI_size]; rfl) (ansI_one off r) ?_
  refine hK.out _ _ ?_
  clear hK K
  refine pure_ (i := 14) (N := some 7) (v := ?_) (a' := ?_) #[true, true, true, true, true, true, true, true, true, true, true, true, true, true, true] rfl rfl (by kernel_rfl) (fun _ _ _ h => h) (Or.inl ⟨by rfl, ?_⟩) ?_ ?_
  rotate_left
  · intro w'
    go_simp
    with_reducible rfl
  rotate_left
  · simp only [Act.put, List.setIfInBounds_toArray, List.set_cons_zero, List.set_cons_succ, i64_w, i32_w]
    rfl
  refine done_ (by kernel_rfl) ?_
  go_wp2_with fail
  have hres6 := (hHeld.2.2.2.1.block _ (Array.getElem?_eq_some_iff.1 hres).1).trans hres
  refine bodyPost_ret (v := .tuple #[.agg (ansI off r), .bool r.isSome]) ?_ rfl ⟨r, hr, rfl, ?_⟩
  · exact results_inst (fn := Try.f11) (p := 6) (u := 7) rfl _ _ (w.heap.size + 1 + 1 + 1) _ (ansI_size off r) rfl (setRow_heap _ _ _ _ _ _ hres6)
  · exact below_setRow (below_le hB hHeld.2.2.2.1) (by omega) _
end Go.Proofs.Ytbgbeohiafiacaa.Cal

namespace Go.Proofs.Ytbgbeohiafiacaa.Cal
open Go Go.RowKit Go.Proofs.YtbgbeohiafiacaaW.PrintWords Go.Proofs.YtbgbeohiafiacaaW.PrintLast
set_option linter.unusedVariables false
set_option linter.unusedSimpArgs false

def zoneC (A B C D : Nat) : Array Value := #[.slice (some ⟨A, 0, none⟩) 1 1, .slice (some ⟨B, 0, none⟩) 1 1, .slice (some ⟨C, 0, none⟩) 1 1, .slice (some ⟨D, 0, none⟩) 1 1]
structure ZoneMem (off : Int) (A B C D : Nat) (w : World) : Prop where
  a : w.cell? ⟨A, 0, none⟩ = some (.int .i64 off)
  b : w.cell? ⟨B, 0, none⟩ = some (.bool false)
  c : w.cell? ⟨C, 0, none⟩ = some (.int .i64 (-9223372036854775808))
  d : w.cell? ⟨D, 0, none⟩ = some (.int .i64 0)
  ha : A < w.heap.size
  hb : B < w.heap.size
  hc : C < w.heap.size
  hd : D < w.heap.size
theorem ZoneMem.below {off : Int} {A B C D : Nat} {w w' : World} (h : ZoneMem off A B C D w) (hb : Below w.heap.size w w') : ZoneMem off A B C D w' where
  a := (hb.cell (p := ⟨A, 0, none⟩) h.ha).trans h.a
  b := (hb.cell (p := ⟨B, 0, none⟩) h.hb).trans h.b
  c := (hb.cell (p := ⟨C, 0, none⟩) h.hc).trans h.c
  d := (hb.cell (p := ⟨D, 0, none⟩) h.hd).trans h.d
  ha := Nat.lt_of_lt_of_le h.ha hb.size
  hb := Nat.lt_of_lt_of_le h.hb hb.size
  hc := Nat.lt_of_lt_of_le h.hc hb.size
  hd := Nat.lt_of_lt_of_le h.hd hb.size

theorem locS_fixed (off : Int) (k : Nat) : LocS (fun w j => j = k ∧ FixedAt off w k) := by
  rintro w w' j T n x y ⟨rfl, Z, U, c, c', nm, h⟩ hT hb hs
  refine ⟨rfl, Z, U, c, c', nm, ?_⟩
  have c0 : w.cell? ⟨T, 0, none⟩ = some (.int .u64 n) := cell_of_row _ _ _ _ _ _ hT
  have n1 : j ≠ T := by
    intro e; subst e
    rw [h.utc] at c0
    simp at c0
  have n2 : Z ≠ T := by
    intro e; subst e
    rw [h.z0] at c0
    simp at c0
  have n3 : U ≠ T := by
    intro e; subst e
    rw [h.t0] at c0
    simp at c0
  exact ⟨(World.cell?_of_block (hb j n1)).trans h.utc, (World.cell?_of_block (hb j n1)).trans h.zone, (World.cell?_of_block (hb j n1)).trans h.tx, (World.cell?_of_block (hb j n1)).trans h.cz,
    (World.cell?_of_block (hb Z n2)).trans h.z0, (World.cell?_of_block (hb Z n2)).trans h.z1, (World.cell?_of_block (hb Z n2)).trans h.z2, (World.cell?_of_block (hb U n3)).trans h.t0, (World.cell?_of_block (hb U n3)).trans h.t1,
    Nat.lt_of_lt_of_le h.hk hs, Nat.lt_of_lt_of_le h.hZ hs, Nat.lt_of_lt_of_le h.hT hs⟩

theorem fixed_any (off : Int) (w : World) : Calls Try.prog 25 #[.int .i64 off] w fun e w' => ∃ A B C D, e = .returned (.agg (zoneC A B C D)) ∧ ZoneMem off A B C D w' ∧ Below w.heap.size w w' := by
  go_enter Try.func25, Try.ntmps25
  go_wp2_with fail
  refine bodyPost_ret (v := .agg (zoneC (w.heap.size + 1) (w.heap.size + 1 + 1) (w.heap.size + 1 + 1 + 1) (w.heap.size + 1 + 1 + 1 + 1))) (results_cell_row (fn := Try.f25) (p := 2) rfl _ _ w.heap.size 41 (zoneC (w.heap.size + 1) (w.heap.size + 1 + 1) (w.heap.size + 1 + 1 + 1) (w.heap.size + 1 + 1 + 1 + 1)) (0, 0) _ rfl ?_ Try.underlying41 rfl zoneSize) rfl ⟨_, _, _, _, rfl, ⟨by simp [go_sem], by simp [go_sem], by simp [go_sem], by simp [go_sem], by simp, by simp, by simp, by simp⟩, by go_grown⟩
  rw [Below.heap_alloc _ _ _ (by simp; try omega), Below.heap_alloc _ _ _ (by simp; try omega), Below.heap_alloc _ _ _ (by simp; try omega), Below.heap_alloc _ _ _ (by simp; try omega)]
  exact heap_alloc_new w _

theorem info_zone : ∃ i, Try.prog.info? 163 = some i ∧ i.zero = some (.agg #[.string ⟨#[]⟩, .int .i64 0, .bool false]) ∧ i.size = 3 ∧ i.bytes = 32 := by
  obtain ⟨i, h⟩ : ∃ i, Try.prog.info? 163 = some i := Option.isSome_iff_exists.1 (by kernel_rfl)
  refine ⟨i, h, ?_⟩
  have h2 : (Try.prog.info? 163).map (fun i => (i.zero, i.size, i.bytes)) = some (some (.agg #[.string ⟨#[]⟩, .int .i64 0, .bool false]), 3, 32) := by kernel_rfl
  rw [h] at h2
  simp only [Option.map_some, Option.some.injEq, Prod.mk.injEq] at h2
  exact h2
theorem info_trans : ∃ i, Try.prog.info? 165 = some i ∧ i.zero = some (.agg #[.int .i64 0, .int .u8 0, .bool false, .bool false]) ∧ i.size = 4 ∧ i.bytes = 16 := by
  obtain ⟨i, h⟩ : ∃ i, Try.prog.info? 165 = some i := Option.isSome_iff_exists.1 (by kernel_rfl)
  refine ⟨i, h, ?_⟩
  have h2 : (Try.prog.info? 165).map (fun i => (i.zero, i.size, i.bytes)) = some (some (.agg #[.int .i64 0, .int .u8 0, .bool false, .bool false]), 4, 16) := by kernel_rfl
  rw [h] at h2
  simp only [Option.map_some, Option.some.injEq, Prod.mk.injEq] at h2
  exact h2
def nmZ : ByteArray := ⟨#[122, 111, 110, 101]⟩
def locC (z t : Value) : Array Value := #[.bool false, .string nmZ, z, t, .string ⟨#[]⟩, .int .i64 0, .int .i64 0, .pointer none]
/-- the Location that is being made: the zones so far -/
def LocRow (w : World) (k : Nat) (z t : Value) : Prop := w.heap[k]? = some (.cells (locC z t) 161 (0, 0))

theorem own_cells {w : World} {base size g cap : Nat} {e : TypeId} {news : List Value} (h : w.ownsRow base e size (.slice (some ⟨g, 0, none⟩) (0 + 1) cap) (0 + 1) ([] ++ news)) (j : Nat) (hj : j < size) : w.cell? ⟨g, j, none⟩ = news[j]? := by
  obtain ⟨h1, h2⟩ := h
  rcases h2 with ⟨h3, -⟩ | ⟨g', cap', cur, h3, -, h5, h6, -, h8, h9⟩
  · cases h3
  · simp only [Value.slice.injEq, Option.some.injEq, Addr.mk.injEq] at h3
    obtain ⟨⟨rfl, -, -⟩, -, rfl⟩ := h3
    rw [cell_of_row _ _ _ _ _ _ h5]
    rw [List.nil_append] at h9
    rw [← h9, List.getElem?_take_of_lt (by omega)]
    simp
theorem row_lt' {w : World} {g : Nat} {o : Obj} (h : w.heap[g]? = some o) : g < w.heap.size := (Array.getElem?_eq_some_iff.1 h).1
set_option maxRecDepth 100000 in
set_option maxHeartbeats 4000000 in
theorem zzZone_any (off : Int) (A B C D : Nat) (w : World) (hz : ZoneMem off A B C D w) :
    Calls Try.prog 59 #[.slice (some ⟨A, 0, none⟩) 1 1, .slice (some ⟨B, 0, none⟩) 1 1, .slice (some ⟨C, 0, none⟩) 1 1, .slice (some ⟨D, 0, none⟩) 1 1] w fun e w' =>
      ∃ k, e = .returned (.pointer (some ⟨k, 0, none⟩)) ∧ FixedAt off w' k ∧ Below w.heap.size w w' := by
  obtain ⟨iz, hiz, hzz, hsz, hyz⟩ := info_zone
  have HI := Lib.hid hiz
  have HZ := Lib.hid hzz
  have HSI := Lib.hid hsz
  have HY := Lib.hid hyz
  obtain ⟨it, hit, hzt, hst, hyt⟩ := info_trans
  have TI := Lib.hid hit
  have TZ := Lib.hid hzt
  have TS := Lib.hid hst
  have TY := Lib.hid hyt
  clear hiz hzz hsz hyz hit hzt hst hyt
  have HM := Lib.hid hz
  clear hz
  go_enter Try.func59, Try.ntmps59
  go_wp2_with fail
  have h0 : Hid (LocRow (w.alloc (.cells (locC (.slice none 0 0) (.slice none 0 0)) 161)) w.heap.size (.slice none 0 0) (.slice none 0 0)) := Lib.hid (heap_alloc_new w _)
  have hm0 := Lib.hid (HM.out.below ((Below.refl w.heap.size w).alloc (Nat.le_refl _) (.cells (locC (.slice none 0 0) (.slice none 0 0)) 161)))
  have hb0 : Hid (Below w.heap.size w (w.alloc (.cells (locC (.slice none 0 0) (.slice none 0 0)) 161))) := Lib.hid ((Below.refl w.heap.size w).alloc (Nat.le_refl _) _)
  go_loopw [18] (fun v18 wr => Hid (ZoneMem off A B C D wr) ∧ Hid (Below w.heap.size w wr) ∧ ((v18 = .int .i64 0 ∧ Hid (LocRow wr w.heap.size (.slice none 0 0) (.slice none 0 0))) ∨
    (v18 = .int .i64 1 ∧ ∃ Z c, Hid (LocRow wr w.heap.size (.slice (some ⟨Z, 0, none⟩) 1 c) (.slice none 0 0) ∧ wr.cell? ⟨Z, 0, none⟩ = some (.string nmZ) ∧ wr.cell? ⟨Z, 1, none⟩ = some (.int .i64 off) ∧ wr.cell? ⟨Z, 2, none⟩ = some (.bool false) ∧ Z < wr.heap.size)))) (fun v18 _ => 1 - (intOf v18).toNat)
  case atStart => exact ⟨hm0, hb0, .inl ⟨rfl, h0⟩⟩
  case round =>
    obtain ⟨HMr, HBr, hcase⟩ := hrel
    clear h0 hm0 hb0
    rcases hcase with ⟨rfl, HL⟩ | ⟨rfl, Z, c, HL⟩
    · have hca := HMr.out.a
      go_upto_region 5 with fail
      clear hca
      obtain ⟨wo, rfl⟩ : ∃ wo : World, wo = wr := ⟨_, rfl⟩
      have hl0 := HL.out
      have hm0 := HMr.out
      refine start_ (n := 16) (S := fun w' => LocRow w' w.heap.size (.slice none 0 0) (.slice none 0 0) ∧ ZoneMem off A B C D w' ∧ Below wo.heap.size wo w') (ds := [12, 15]) #[false, false, false, false, false, false, false, false, false, false, false, false, false, false, false, false] (by kernel_rfl) rfl rfl ⟨hl0, hm0.below (Below.refl _ _).drew, (Below.refl _ _).drew⟩ (fun hHeld => ?_)
      refine pure_ (i := 0) (N := some 23) (v := ?_) (a' := ?_) #[true, false, false, false, false, false, false, false, false, false, false, false, false, false, false, false] rfl rfl (by kernel_rfl) (fun _ _ _ h => h) (Or.inl ⟨by rfl, ?_⟩) ?_ ?_
      rotate_left
      · intro w'
        go_simp
        with_reducible rfl
      rotate_left
      · simp only [Act.put, List.setIfInBounds_toArray, List.set_cons_zero, List.set_cons_succ, i64_w, i32_w]
        rfl
      refine pure_ (i := 1) (N := some 24) (v := ?_) (a' := ?_) #[true, true, false, false, false, false, false, false, false, false, false, false, false, false, false, false] rfl rfl (by kernel_rfl) (fun _ _ _ h => h) (Or.inl ⟨by rfl, ?_⟩) ?_ ?_
      rotate_left
      · intro w'
        go_simp
        with_reducible rfl
      rotate_left
      · simp only [Act.put, List.setIfInBounds_toArray, List.set_cons_zero, List.set_cons_succ, i64_w, i32_w]
        rfl
      refine pure_ (i := 2) (N := some 25) (v := ?_) (a' := ?_) #[true, true, true, false, false, false, false, false, false, false, false, false, false, false, false, false] rfl rfl (by kernel_rfl) (fun _ _ _ h => h) (Or.inl ⟨by rfl, ?_⟩) ?_ ?_
      rotate_left
      · intro w'
        go_simp
        with_reducible rfl
      rotate_left
      · simp only [Act.put, List.setIfInBounds_toArray, List.set_cons_zero, List.set_cons_succ, i64_w, i32_w]
        rfl
      refine pure_ (i := 3) (N := some 26) (v := ?_) (a' := ?_) #[true, true, true, true, false, false, false, false, false, false, false, false, false, false, false, false] rfl rfl (by kernel_rfl) (fun _ _ _ h => h) (Or.inl ⟨by rfl, ?_⟩) ?_ ?_
      rotate_left
      · intro w'
        go_simp
        with_reducible rfl
      rotate_left
      · simp only [Act.put, List.setIfInBounds_toArray, List.set_cons_zero, List.set_cons_succ, i64_w, i32_w]
        rfl
      refine pure_ (i := 5) (N := some 28) (v := ?_) (a' := ?_) #[true, true, true, true, false, true, false, false, false, false, false, false, false, false, false, false] rfl rfl (by kernel_rfl) (fun _ _ _ h => h) (Or.inl ⟨by rfl, ?_⟩) ?_ ?_
      rotate_left
      · intro w'
        go_simp
        with_reducible rfl
      rotate_left
      · simp only [Act.put, List.setIfInBounds_toArray, List.set_cons_zero, List.set_cons_succ, i64_w, i32_w]
        rfl
      refine pure_ (i := 6) (N := some 29) (v := ?_) (a' := ?_) #[true, true, true, true, false, true, true, false, false, false, false, false, false, false, false, false] rfl rfl (by kernel_rfl) (fun _ _ _ h => h) (Or.inl ⟨by rfl, ?_⟩) ?_ ?_
      rotate_left
      · intro w'
        go_simp
        with_reducible rfl
      rotate_left
      · simp only [Act.put, List.setIfInBounds_toArray, List.set_cons_zero, List.set_cons_succ, i64_w, i32_w]
        rfl
      refine pure_ (i := 7) (N := some 30) (v := ?_) (a' := ?_) #[true, true, true, true, false, true, true, true, false, false, false, false, false, false, false, false] rfl rfl (by kernel_rfl) (fun _ _ _ h => h) (Or.inl ⟨by rfl, ?_⟩) ?_ ?_
      rotate_left
      · intro w'
        go_simp
        with_reducible rfl
      rotate_left
      · simp only [Act.put, List.setIfInBounds_toArray, List.set_cons_zero, List.set_cons_succ, i64_w, i32_w]
        rfl
      refine pure_ (i := 8) (N := some 31) (v := ?_) (a' := ?_) #[true, true, true, true, false, true, true, true, true, false, false, false, false, false, false, false] rfl rfl (by kernel_rfl) (fun _ _ _ h => h) (Or.inl ⟨by rfl, ?_⟩) ?_ ?_
      rotate_left
      · intro w'
        go_simp
        with_reducible rfl
      rotate_left
      · simp only [Act.put, List.setIfInBounds_toArray, List.set_cons_zero, List.set_cons_succ, i64_w, i32_w]
        rfl
      refine take_ (i := 4) (N := some 27) (v := ?_) (a' := ?_) #[true, true, true, true, true, true, true, true, true, false, false, false, false, false, false, false] rfl rfl (by kernel_rfl) (fun _ _ _ h => h) (Or.inl ⟨by rfl, ?_⟩) hHeld ?_ ?_
      rotate_left
      · rintro w' ⟨s0, s1, s2⟩
        have c2 : w'.cell? ⟨w.heap.size, 2, none⟩ = some (.slice none 0 0) := cell_of_row _ _ _ _ _ _ s0
        go_simp
        with_reducible rfl
      rotate_left
      · simp only [Act.put, List.setIfInBounds_toArray, List.set_cons_zero, List.set_cons_succ, i64_w, i32_w]
        rfl
      refine take_ (i := 9) (N := some 32) (v := ?_) (a' := ?_) #[true, true, true, true, true, true, true, true, true, true, false, false, false, false, false, false] rfl rfl (by kernel_rfl) (fun _ _ _ h => h) (Or.inl ⟨by rfl, ?_⟩) hHeld ?_ ?_
      rotate_left
      · rintro w' ⟨s0, s1, s2⟩
        have c2 := s1.b
        go_simp
        with_reducible rfl
      rotate_left
      · simp only [Act.put, List.setIfInBounds_toArray, List.set_cons_zero, List.set_cons_succ, i64_w, i32_w]
        rfl
      refine pure_ (i := 10) (N := some 33) (v := ?_) (a' := ?_) #[true, true, true, true, true, true, true, true, true, true, true, false, false, false, false, false] rfl rfl (by kernel_rfl) (fun _ _ _ h => h) (Or.inl ⟨by rfl, ?_⟩) ?_ ?_
      rotate_left
      · intro w'
        go_simp
        with_reducible rfl
      rotate_left
      · simp only [Act.put, List.setIfInBounds_toArray, List.set_cons_zero, List.set_cons_succ, i64_w, i32_w]
        rfl
      refine one_ (i := 11) (N := some 34) #[true, true, true, true, true, true, true, true, true, true, true, true, false, false, false, false] rfl rfl (by kernel_rfl) (by decide) (fun K hK => ?_)
      refine value_ (w1 := ?_) (v := ?_) (by rfl) rfl ?_ ?_
      rotate_left 2
      · go_simp
        constructor
        · rfl
        · rfl
      refine hK.out _ _ ⟨(((Below.refl _ _).alloc (Nat.le_refl _) _).block _ (row_lt' hHeld.1)).trans hHeld.1, hHeld.2.1.below ((Below.refl _ _).alloc (Nat.le_refl _) _), hHeld.2.2.alloc hHeld.2.2.size _⟩ (fun hHeld => ?_)
      clear hK K
      refine norm_ (a' := ?_) ?_ ?_
      rotate_left
      · show Act.put _ (some 34) _ = _
        simp only [Act.put, List.setIfInBounds_toArray, List.set_cons_zero, List.set_cons_succ, i64_w, i32_w]
        rfl
      refine last_ (i := 12) (N := some 35) #[true, true, true, true, true, true, true, true, true, true, true, true, true, false, false, false] rfl rfl (by kernel_rfl) (by decide) (fun K hK => ?_)
      rw [if_pos (by rfl)]
      refine wp_append_lies _ _ _ _ rfl 0 163 iz (.agg #[.string ⟨#[]⟩, .int .i64 0, .bool false]) 3 32 Try.underlying157 HI.out HZ.out HSI.out HY.out rfl (by omega) (.slice none 0 0) 0 [] rfl ⟨rfl, .inl ⟨rfl, rfl⟩⟩ ⟨wo.heap.size, 0, none⟩ 1 1 [.string nmZ, .int .i64 off, .bool false] rfl rfl (World.news_of_block (heap_alloc_new _ _)) (by simp [Value.oneCell']) (by omega) (by simp only [maxLen]; omega) (by omega) (Nat.zero_le _) (wo.heap.size + 1) (by simp) ?_
      intro g7 cap w7 hown hgrow hat hlt
      have hl7 := (hgrow.block _ (row_lt' hHeld.1) (by simp [Value.ownBlock])).trans hHeld.1
      have c27 : w7.cell? ⟨w.heap.size, 2, none⟩ = some (.slice none 0 0) := cell_of_row _ _ _ _ _ _ hl7
      have f27 : w7.frozen? ⟨w.heap.size, 2, none⟩ = false := frozen_of_row _ _ _ _ _ hl7
      refine hK.out _ _ ?_
      clear hK K
      refine norm_ (a' := ?_) ?_ ?_
      rotate_left
      · show Act.put _ (some 35) _ = _
        simp only [Act.put, List.setIfInBounds_toArray, List.set_cons_zero, List.set_cons_succ, i64_w, i32_w]
        rfl
      refine pure_ (i := 13) (N := some 36) (v := ?_) (a' := ?_) #[true, true, true, true, true, true, true, true, true, true, true, true, true, true, false, false] rfl rfl (by kernel_rfl) (fun _ _ _ h => h) (Or.inl ⟨by rfl, ?_⟩) ?_ ?_
      rotate_left
      · intro w'
        go_simp
        with_reducible rfl
      rotate_left
      · simp only [Act.put, List.setIfInBounds_toArray, List.set_cons_zero, List.set_cons_succ, i64_w, i32_w]
        rfl
      refine pure_ (i := 14) (N := some 37) (v := ?_) (a' := ?_) #[true, true, true, true, true, true, true, true, true, true, true, true, true, true, true, false] rfl rfl (by kernel_rfl) (fun _ _ _ h => h) (Or.inl ⟨by rfl, ?_⟩) ?_ ?_
      rotate_left
      · intro w'
        go_simp
        with_reducible rfl
      rotate_left
      · simp only [Act.put, List.setIfInBounds_toArray, List.set_cons_zero, List.set_cons_succ, i64_w, i32_w]
        rfl
      refine last_ (i := 15) (N := none) #[true, true, true, true, true, true, true, true, true, true, true, true, true, true, true, true] rfl rfl (by kernel_rfl) (by decide) (fun K hK => ?_)
      refine skip_ (w1 := ?_) (by rfl) rfl ?_ ?_
      rotate_left
      · go_simp
        rfl
      refine hK.out _ _ ?_
      clear hK K
      refine done_ (by kernel_rfl) ?_
      have hk : w.heap.size < wo.heap.size := row_lt' hl0
      have hg7 : g7 = wo.heap.size + 1 := by
        rcases hat with h | h
        · simp [Value.ownBlock] at h
        · exact h
      have hc0 := own_cells hown 0 (by omega)
      have hc1 := own_cells hown 1 (by omega)
      have hc2 := own_cells hown 2 (by omega)
      have hB8 : Below w.heap.size w (w7.setCell ⟨w.heap.size, 2, none⟩ (.slice (some ⟨g7, 0, none⟩) 1 cap)) := (Below.grown (below_le HBr.out hHeld.2.2) hgrow (by have := hHeld.2.2.size; omega) (by simp [Value.ownBlock])).setCell (p := ⟨w.heap.size, 2, none⟩) (Nat.le_refl _) _
      have hL8 := heap_setCell_same w7 w.heap.size 2 _ _ (.slice (some ⟨g7, 0, none⟩) 1 cap) hl7
      have ho : (w7.setCell ⟨w.heap.size, 2, none⟩ (.slice (some ⟨g7, 0, none⟩) 1 cap)).heap[g7]? = w7.heap[g7]? := heap_setCell_other _ _ _ _ (by show g7 ≠ w.heap.size; omega)
      have HX : Hid (LocRow (w7.setCell ⟨w.heap.size, 2, none⟩ (.slice (some ⟨g7, 0, none⟩) 1 cap)) w.heap.size (.slice (some ⟨g7, 0, none⟩) 1 cap) (.slice none 0 0) ∧ (w7.setCell ⟨w.heap.size, 2, none⟩ (.slice (some ⟨g7, 0, none⟩) 1 cap)).cell? ⟨g7, 0, none⟩ = some (.string nmZ) ∧ (w7.setCell ⟨w.heap.size, 2, none⟩ (.slice (some ⟨g7, 0, none⟩) 1 cap)).cell? ⟨g7, 1, none⟩ = some (.int .i64 off) ∧ (w7.setCell ⟨w.heap.size, 2, none⟩ (.slice (some ⟨g7, 0, none⟩) 1 cap)).cell? ⟨g7, 2, none⟩ = some (.bool false) ∧ g7 < (w7.setCell ⟨w.heap.size, 2, none⟩ (.slice (some ⟨g7, 0, none⟩) 1 cap)).heap.size) :=
        Lib.hid ⟨hL8, (World.cell?_of_block ho).trans hc0, (World.cell?_of_block ho).trans hc1, (World.cell?_of_block ho).trans hc2, by simpa using hlt⟩
      have HB8 := Lib.hid hB8
      clear hHeld hgrow hown hat hlt hl7 c27 f27 hL8 ho hc0 hc1 hc2 hB8 hg7 hk hl0 hm0 HL HMr HBr
      generalize w7.setCell ⟨w.heap.size, 2, none⟩ (.slice (some ⟨g7, 0, none⟩) 1 cap) = w8 at *
      go_wp2_with fail
      exact ⟨⟨Lib.hid (HM.out.below HB8.out), HB8, .inr ⟨rfl, g7, cap, HX⟩⟩, by simp [intOf]⟩
    · go_wp2_with fail
      go_loopw [41] (fun v41 wr => Hid (ZoneMem off A B C D wr) ∧ Hid (Below w.heap.size w wr) ∧ ((v41 = .int .i64 0 ∧ Hid (LocRow wr w.heap.size (.slice (some ⟨Z, 0, none⟩) 1 c) (.slice none 0 0) ∧ wr.cell? ⟨Z, 0, none⟩ = some (.string nmZ) ∧ wr.cell? ⟨Z, 1, none⟩ = some (.int .i64 off) ∧ wr.cell? ⟨Z, 2, none⟩ = some (.bool false) ∧ Z < wr.heap.size)) ∨
        (v41 = .int .i64 1 ∧ Hid (FixedAt off wr w.heap.size)))) (fun v41 _ => 1 - (intOf v41).toNat)
      case atStart => exact ⟨HMr, HBr, .inl ⟨rfl, HL⟩⟩
      case round =>
        obtain ⟨HMs, HBs, hcase⟩ := hrel
        clear HL HMr HBr
        rcases hcase with ⟨rfl, HL⟩ | ⟨rfl, HF⟩
        · have hca := HMs.out.c
          go_upto_region 10 with fail
          clear hca
          obtain ⟨wo, hwo⟩ : ∃ wo : World, wo = wr := ⟨_, rfl⟩
          subst hwo
          have hl0 := HL.out.1
          have hm0 := HMs.out
          refine start_ (n := 17) (S := fun w' => LocRow w' w.heap.size (.slice (some ⟨Z, 0, none⟩) 1 c) (.slice none 0 0) ∧ ZoneMem off A B C D w' ∧ Below wo.heap.size wo w') (ds := [13, 16]) #[false, false, false, false, false, false, false, false, false, false, false, false, false, false, false, false, false] (by kernel_rfl) rfl rfl ⟨hl0, hm0.below (Below.refl _ _).drew, (Below.refl _ _).drew⟩ (fun hHeld => ?_)
          refine pure_ (i := 0) (N := some 46) (v := ?_) (a' := ?_) #[true, false, false, false, false, false, false, false, false, false, false, false, false, false, false, false, false] rfl rfl (by kernel_rfl) (fun _ _ _ h => h) (Or.inl ⟨by rfl, ?_⟩) ?_ ?_
          rotate_left
          · intro w'
            go_simp
            with_reducible rfl
          rotate_left
          · simp only [Act.put, List.setIfInBounds_toArray, List.set_cons_zero, List.set_cons_succ, i64_w, i32_w]
            rfl
          refine pure_ (i := 1) (N := some 47) (v := ?_) (a' := ?_) #[true, true, false, false, false, false, false, false, false, false, false, false, false, false, false, false, false] rfl rfl (by kernel_rfl) (fun _ _ _ h => h) (Or.inl ⟨by rfl, ?_⟩) ?_ ?_
          rotate_left
          · intro w'
            go_simp
            with_reducible rfl
          rotate_left
          · simp only [Act.put, List.setIfInBounds_toArray, List.set_cons_zero, List.set_cons_succ, i64_w, i32_w]
            rfl
          refine pure_ (i := 2) (N := some 48) (v := ?_) (a' := ?_) #[true, true, true, false, false, false, false, false, false, false, false, false, false, false, false, false, false] rfl rfl (by kernel_rfl) (fun _ _ _ h => h) (Or.inl ⟨by rfl, ?_⟩) ?_ ?_
          rotate_left
          · intro w'
            go_simp
            with_reducible rfl
          rotate_left
          · simp only [Act.put, List.setIfInBounds_toArray, List.set_cons_zero, List.set_cons_succ, i64_w, i32_w]
            rfl
          refine pure_ (i := 3) (N := some 49) (v := ?_) (a' := ?_) #[true, true, true, true, false, false, false, false, false, false, false, false, false, false, false, false, false] rfl rfl (by kernel_rfl) (fun _ _ _ h => h) (Or.inl ⟨by rfl, ?_⟩) ?_ ?_
          rotate_left
          · intro w'
            go_simp
            with_reducible rfl
          rotate_left
          · simp only [Act.put, List.setIfInBounds_toArray, List.set_cons_zero, List.set_cons_succ, i64_w, i32_w]
            rfl
          refine pure_ (i := 5) (N := some 51) (v := ?_) (a' := ?_) #[true, true, true, true, false, true, false, false, false, false, false, false, false, false, false, false, false] rfl rfl (by kernel_rfl) (fun _ _ _ h => h) (Or.inl ⟨by rfl, ?_⟩) ?_ ?_
          rotate_left
          · intro w'
            go_simp
            with_reducible rfl
          rotate_left
          · simp only [Act.put, List.setIfInBounds_toArray, List.set_cons_zero, List.set_cons_succ, i64_w, i32_w]
            rfl
          refine pure_ (i := 6) (N := some 52) (v := ?_) (a' := ?_) #[true, true, true, true, false, true, true, false, false, false, false, false, false, false, false, false, false] rfl rfl (by kernel_rfl) (fun _ _ _ h => h) (Or.inl ⟨by rfl, ?_⟩) ?_ ?_
          rotate_left
          · intro w'
            go_simp
            with_reducible rfl
          rotate_left
          · simp only [Act.put, List.setIfInBounds_toArray, List.set_cons_zero, List.set_cons_succ, i64_w, i32_w]
            rfl
          refine pure_ (i := 7) (N := some 53) (v := ?_) (a' := ?_) #[true, true, true, true, false, true, true, true, false, false, false, false, false, false, false, false, false] rfl rfl (by kernel_rfl) (fun _ _ _ h => h) (Or.inl ⟨by rfl, ?_⟩) ?_ ?_
          rotate_left
          · intro w'
            go_simp
            with_reducible rfl
          rotate_left
          · simp only [Act.put, List.setIfInBounds_toArray, List.set_cons_zero, List.set_cons_succ, i64_w, i32_w]
            rfl
          refine pure_ (i := 8) (N := some 54) (v := ?_) (a' := ?_) #[true, true, true, true, false, true, true, true, true, false, false, false, false, false, false, false, false] rfl rfl (by kernel_rfl) (fun _ _ _ h => h) (Or.inl ⟨by rfl, ?_⟩) ?_ ?_
          rotate_left
          · intro w'
            go_simp
            with_reducible rfl
          rotate_left
          · simp only [Act.put, List.setIfInBounds_toArray, List.set_cons_zero, List.set_cons_succ, i64_w, i32_w]
            rfl
          refine take_ (i := 4) (N := some 50) (v := ?_) (a' := ?_) #[true, true, true, true, true, true, true, true, true, false, false, false, false, false, false, false, false] rfl rfl (by kernel_rfl) (fun _ _ _ h => h) (Or.inl ⟨by rfl, ?_⟩) hHeld ?_ ?_
          rotate_left
          · rintro w' ⟨s0, s1, s2⟩
            have c2 : w'.cell? ⟨w.heap.size, 3, none⟩ = some (.slice none 0 0) := cell_of_row _ _ _ _ _ _ s0
            go_simp
            with_reducible rfl
          rotate_left
          · simp only [Act.put, List.setIfInBounds_toArray, List.set_cons_zero, List.set_cons_succ, i64_w, i32_w]
            rfl
          refine take_ (i := 9) (N := some 55) (v := ?_) (a' := ?_) #[true, true, true, true, true, true, true, true, true, true, false, false, false, false, false, false, false] rfl rfl (by kernel_rfl) (fun _ _ _ h => h) (Or.inl ⟨by rfl, ?_⟩) hHeld ?_ ?_
          rotate_left
          · rintro w' ⟨s0, s1, s2⟩
            have c2 := s1.d
            go_simp
            with_reducible rfl
          rotate_left
          · simp only [Act.put, List.setIfInBounds_toArray, List.set_cons_zero, List.set_cons_succ, i64_w, i32_w]
            rfl
          refine pure_ (i := 10) (N := some 56) (v := ?_) (a' := ?_) #[true, true, true, true, true, true, true, true, true, true, true, false, false, false, false, false, false] rfl rfl (by kernel_rfl) (fun _ _ _ h => h) (Or.inl ⟨by rfl, ?_⟩) ?_ ?_
          rotate_left
          · intro w'
            go_simp
            with_reducible rfl
          rotate_left
          · simp only [Act.put, List.setIfInBounds_toArray, List.set_cons_zero, List.set_cons_succ, i64_w, i32_w]
            rfl
          refine pure_ (i := 11) (N := some 57) (v := ?_) (a' := ?_) #[true, true, true, true, true, true, true, true, true, true, true, true, false, false, false, false, false] rfl rfl (by kernel_rfl) (fun _ _ _ h => h) (Or.inl ⟨by rfl, ?_⟩) ?_ ?_
          rotate_left
          · intro w'
            go_simp
            with_reducible rfl
          rotate_left
          · simp only [Act.put, List.setIfInBounds_toArray, List.set_cons_zero, List.set_cons_succ, i64_w, i32_w]
            rfl
          refine one_ (i := 12) (N := some 58) #[true, true, true, true, true, true, true, true, true, true, true, true, true, false, false, false, false] rfl rfl (by kernel_rfl) (by decide) (fun K hK => ?_)
          refine value_ (w1 := ?_) (v := ?_) (by rfl) rfl ?_ ?_
          rotate_left 2
          · go_simp
            constructor
            · rfl
            · rfl
          refine hK.out _ _ ⟨(((Below.refl _ _).alloc (Nat.le_refl _) _).block _ (row_lt' hHeld.1)).trans hHeld.1, hHeld.2.1.below ((Below.refl _ _).alloc (Nat.le_refl _) _), hHeld.2.2.alloc hHeld.2.2.size _⟩ (fun hHeld => ?_)
          clear hK K
          refine norm_ (a' := ?_) ?_ ?_
          rotate_left
          · show Act.put _ (some 58) _ = _
            simp only [Act.put, List.setIfInBounds_toArray, List.set_cons_zero, List.set_cons_succ, i64_w, i32_w]
            rfl
          refine last_ (i := 13) (N := some 59) #[true, true, true, true, true, true, true, true, true, true, true, true, true, true, false, false, false] rfl rfl (by kernel_rfl) (by decide) (fun K hK => ?_)
          rw [if_pos (by rfl)]
          refine wp_append_lies _ _ _ _ rfl 0 165 it (.agg #[.int .i64 0, .int .u8 0, .bool false, .bool false]) 4 16 Try.underlying158 TI.out TZ.out TS.out TY.out rfl (by omega) (.slice none 0 0) 0 [] rfl ⟨rfl, .inl ⟨rfl, rfl⟩⟩ ⟨wo.heap.size, 0, none⟩ 1 1 [.int .i64 (-9223372036854775808), .int .u8 0, .bool false, .bool false] rfl rfl (World.news_of_block (heap_alloc_new _ _)) (by simp [Value.oneCell']) (by omega) (by simp only [maxLen]; omega) (by omega) (Nat.zero_le _) (wo.heap.size + 1) (by simp) ?_
          intro g7 cap w7 hown hgrow hat hlt
          have hl7 := (hgrow.block _ (row_lt' hHeld.1) (by simp [Value.ownBlock])).trans hHeld.1
          have c27 : w7.cell? ⟨w.heap.size, 3, none⟩ = some (.slice none 0 0) := cell_of_row _ _ _ _ _ _ hl7
          have f27 : w7.frozen? ⟨w.heap.size, 3, none⟩ = false := frozen_of_row _ _ _ _ _ hl7
          refine hK.out _ _ ?_
          clear hK K
          refine norm_ (a' := ?_) ?_ ?_
          rotate_left
          · show Act.put _ (some 59) _ = _
            simp only [Act.put, List.setIfInBounds_toArray, List.set_cons_zero, List.set_cons_succ, i64_w, i32_w]
            rfl
          refine pure_ (i := 14) (N := some 60) (v := ?_) (a' := ?_) #[true, true, true, true, true, true, true, true, true, true, true, true, true, true, true, false, false] rfl rfl (by kernel_rfl) (fun _ _ _ h => h) (Or.inl ⟨by rfl, ?_⟩) ?_ ?_
          rotate_left
          · intro w'
            go_simp
            with_reducible rfl
          rotate_left
          · simp only [Act.put, List.setIfInBounds_toArray, List.set_cons_zero, List.set_cons_succ, i64_w, i32_w]
            rfl
          refine pure_ (i := 15) (N := some 61) (v := ?_) (a' := ?_) #[true, true, true, true, true, true, true, true, true, true, true, true, true, true, true, true, false] rfl rfl (by kernel_rfl) (fun _ _ _ h => h) (Or.inl ⟨by rfl, ?_⟩) ?_ ?_
          rotate_left
          · intro w'
            go_simp
            with_reducible rfl
          rotate_left
          · simp only [Act.put, List.setIfInBounds_toArray, List.set_cons_zero, List.set_cons_succ, i64_w, i32_w]
            rfl
          refine last_ (i := 16) (N := none) #[true, true, true, true, true, true, true, true, true, true, true, true, true, true, true, true, true] rfl rfl (by kernel_rfl) (by decide) (fun K hK => ?_)
          refine skip_ (w1 := ?_) (by rfl) rfl ?_ ?_
          rotate_left
          · go_simp
            rfl
          refine hK.out _ _ ?_
          clear hK K
          refine done_ (by kernel_rfl) ?_
          have hk : w.heap.size < wo.heap.size := row_lt' hl0
          have hg7 : g7 = wo.heap.size + 1 := by
            rcases hat with h | h
            · simp [Value.ownBlock] at h
            · exact h
          have hc0 := own_cells hown 0 (by omega)
          have hc1 := own_cells hown 1 (by omega)
          obtain ⟨-, y0, y1, y2, hZ⟩ := HL.out
          have hZk : Z ≠ w.heap.size := by
            intro e
            rw [e, cell_of_row _ _ _ _ _ _ hl0] at y0
            simp [locC] at y0
          have hW7 : Below wo.heap.size wo w7 := Below.grown hHeld.2.2 hgrow (by have := hHeld.2.2.size; omega) (by simp [Value.ownBlock])
          have hB8 : Below w.heap.size w (w7.setCell ⟨w.heap.size, 3, none⟩ (.slice (some ⟨g7, 0, none⟩) 1 cap)) := (below_le HBs.out hW7).setCell (p := ⟨w.heap.size, 3, none⟩) (Nat.le_refl _) _
          have hL8 := heap_setCell_same w7 w.heap.size 3 _ _ (.slice (some ⟨g7, 0, none⟩) 1 cap) hl7
          have ho : (w7.setCell ⟨w.heap.size, 3, none⟩ (.slice (some ⟨g7, 0, none⟩) 1 cap)).heap[g7]? = w7.heap[g7]? := heap_setCell_other _ _ _ _ (by show g7 ≠ w.heap.size; omega)
          have hoz : (w7.setCell ⟨w.heap.size, 3, none⟩ (.slice (some ⟨g7, 0, none⟩) 1 cap)).heap[Z]? = w7.heap[Z]? := heap_setCell_other _ _ _ _ hZk
          have hZ7 : w7.heap[Z]? = wo.heap[Z]? := hW7.block Z hZ
          have hx : FixedRow (w7.setCell ⟨w.heap.size, 3, none⟩ (.slice (some ⟨g7, 0, none⟩) 1 cap)) w.heap.size off Z g7 c cap nmZ := by
            refine ⟨cell_of_row _ _ _ _ _ _ hL8, cell_of_row _ _ _ _ _ _ hL8, cell_of_row _ _ _ _ _ _ hL8, cell_of_row _ _ _ _ _ _ hL8,
              (World.cell?_of_block (hoz.trans hZ7)).trans y0, (World.cell?_of_block (hoz.trans hZ7)).trans y1, (World.cell?_of_block (hoz.trans hZ7)).trans y2,
              (World.cell?_of_block ho).trans hc0, (World.cell?_of_block ho).trans hc1, ?_, ?_, ?_⟩
            · have := hW7.size; simp; omega
            · have := hW7.size; simp; omega
            · simpa using hlt
          have HX : Hid (FixedAt off (w7.setCell ⟨w.heap.size, 3, none⟩ (.slice (some ⟨g7, 0, none⟩) 1 cap)) w.heap.size) := Lib.hid ⟨_, _, _, _, _, hx⟩
          have HB8 := Lib.hid hB8
          clear hHeld hgrow hown hat hlt hl7 c27 f27 hL8 ho hoz hZ7 hx hW7 hc0 hc1 hB8 hg7 hk hl0 hm0 HL HMs HBs y0 y1 y2 hZ hZk
          generalize w7.setCell ⟨w.heap.size, 3, none⟩ (.slice (some ⟨g7, 0, none⟩) 1 cap) = w8 at *
          go_wp2_with fail
          exact ⟨⟨Lib.hid (HM.out.below HB8.out), HB8, .inr ⟨rfl, HX⟩⟩, by simp [intOf]⟩
        · go_wp2_with fail
          go_ret
          exact ⟨_, rfl, HF.out, HBs.out⟩

theorem locationFixed_any (off : Int) (o0 : -90000 ≤ off) (o1 : off ≤ 90000) (A B C D : Nat) : ZoneIn (.agg (zoneC A B C D)) off (ZoneMem off A B C D) where
  keep := fun h hb => h.below hb
  gives := fun w hz => by
    have HZZ := Lib.hid (fun w' hz' => zzZone_any off A B C D w' hz')
    have hz1 := Lib.hid (fun o => hz.below ((Below.refl w.heap.size w).alloc (Nat.le_refl _) o))
    unfold zoneC
    go_enter Try.func35, Try.ntmps35
    go_wp2_with fail
    refine (HZZ.out _ (hz1.out _)).mono ?_
    rintro e w1 ⟨k, rfl, hf, hb1⟩
    have HB1 := Lib.hid (((Below.refl w.heap.size w).alloc (Nat.le_refl _) _).trans (hb1.mono (by simp)))
    have HF1 := Lib.hid hf
    clear hb1 hf
    go_wp2_with fail
    go_ret
    exact ⟨_, _, _, k, clock_fixed off o0 o1 k, locS_fixed off k, rfl, ⟨rfl, HF1.out⟩, HF1.out, HB1.out⟩
end Go.Proofs.Ytbgbeohiafiacaa.Cal
