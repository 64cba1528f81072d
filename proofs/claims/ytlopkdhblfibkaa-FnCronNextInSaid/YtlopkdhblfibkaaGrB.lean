/- Lemmas and walks on the way to the law, merged by wip/tools/pack.py: ZTime2, Time3, ZTime3, Time4, Time5, ZTime4. Conditions: none. -/
import Derived.Test.YtlopkdhblfibkaaGrA
import Derived.Handy
import Derived.Test.YtlopkdhblfibkaaWWordsT
import Derived.Test.YtlopkdhblfibkaaWLastT
import Derived.Deep.DeepCutAuto
import Derived.WalkMore
import Derived.Laws.CopyOwn
namespace Go.Proofs.Ytlopkdhblfibkaa.Cal
open Go Go.RowKit
set_option linter.unusedVariables false
set_option linter.unusedSimpArgs false
structure AbsZ (l : Option Addr) (off : Int → Int) (Inv : World → Prop) : Prop where
 off0 : ∀ u, -90000 ≤ off u
 off1 : ∀ u, off u ≤ 90000
 keeps : ∀ {w w' : World}, Inv w → Below w.heap.size w w' → Inv w'
 calls : ∀ (n e : Int) (w : World), 0 ≤ n → n < 1073741824 → EOk e → Inv w →
  Calls Try.prog 80 #[tv n e l] w fun e' w' => e' = .returned (.int .u64 (e - 62135596800 + off (e - 62135596800) + 9223372028741760000)) ∧ Below w.heap.size w w'
theorem absZ_utc : AbsZ none (fun _ => 0) (fun _ => True) :=
 ⟨fun _ => by omega, fun _ => by omega, fun _ _ => trivial, fun n e w h0 h1 he _ => (absSecUtc_any n e h0 h1 he w).mono fun e' w' ⟨h, hb⟩ => ⟨by rw [h, show e - 62135596800 + 0 + 9223372028741760000 = e + 9223371966606163200 by omega], hb⟩⟩
theorem tYear_z {l : Option Addr} {off : Int → Int} {Inv : World → Prop} (H : AbsZ l off Inv) (n e : Int) (w : World) (h0 : 0 ≤ n) (h1 : n < 1073741824) (he : EOk e) (hI : Inv w) :
  Calls Try.prog 71 #[tv n e l] w fun e' w' => e' = .returned (.int .i64 (yearL (e - 62135596800 + off (e - 62135596800)))) ∧ Below w.heap.size w w' := by
 obtain ⟨e1, e2, e3, e4⟩ := l_days he (H.off0 (e - 62135596800)) (H.off1 (e - 62135596800))
 have HA := Lib.hid (fun o => H.calls n e (w.alloc o) h0 h1 he (H.keeps hI ((Below.refl _ _).alloc (Nat.le_refl _) o)))
 have HD := Lib.hid (fun w' => absDays_any (e - 62135596800 + off (e - 62135596800) + 9223372028741760000) e3 e4 w')
 rw [e1] at HD
 have HR : Hid (yearL (e - 62135596800 + off (e - 62135596800)) = yearA (dayL (e - 62135596800 + off (e - 62135596800)) + absK)) := Lib.hid (rfl)
 clear he hI H e1 e3 e4
 generalize e - 62135596800 + off (e - 62135596800) = L at *
 generalize dayL L + absK = A at *
 have hb := parts_bd A
 have H1 := Lib.hid (fun w => split_any A (by have := e2.1; omega) e2.2 w)
 have H2 := Lib.hid (fun w => ydaySplit_any (aydA A) hb.2.2.1 hb.2.2.2.1 w)
 have H3 := Lib.hid (fun w => janFeb_any A w)
 have H4 := Lib.hid (fun w => year_any A e2 w)
 have H5 := Lib.hid (fun w => month_any A w)
 have H6 := Lib.hid (fun w => weekday_any A (by have := e2.1; omega) e2.2 w)
 clear hb
 rw [HR.out]
 unfold tv at *
 go_enter Try.func71, Try.ntmps71
 go_wp2_with fail
 refine (HA.out _).mono ?_
 rintro e' w1 ⟨rfl, hb1⟩
 have HB := Lib.hid (((Below.refl w.heap.size w).alloc (Nat.le_refl _) _).trans (hb1.mono (by simp)))
 clear hb1
 go_wp2_with fail
 refine (HD.out _).mono ?_
 rintro e' w2 ⟨rfl, rfl⟩
 go_wp2_with fail
 refine (H1.out _).mono ?_
 rintro e' w2 ⟨rfl, rfl⟩
 go_wp2_with fail
 refine (H3.out _).mono ?_
 rintro e' w2 ⟨rfl, rfl⟩
 go_wp2_with fail
 refine (H4.out _).mono ?_
 rintro e' w2 ⟨rfl, rfl⟩
 go_wp2_with fail
 go_ret
 exact ⟨rfl, HB.out⟩
theorem tMonth_z {l : Option Addr} {off : Int → Int} {Inv : World → Prop} (H : AbsZ l off Inv) (n e : Int) (w : World) (h0 : 0 ≤ n) (h1 : n < 1073741824) (he : EOk e) (hI : Inv w) :
  Calls Try.prog 72 #[tv n e l] w fun e' w' => e' = .returned (.int .i64 (monthL (e - 62135596800 + off (e - 62135596800)))) ∧ Below w.heap.size w w' := by
 obtain ⟨e1, e2, e3, e4⟩ := l_days he (H.off0 (e - 62135596800)) (H.off1 (e - 62135596800))
 have HA := Lib.hid (fun o => H.calls n e (w.alloc o) h0 h1 he (H.keeps hI ((Below.refl _ _).alloc (Nat.le_refl _) o)))
 have HD := Lib.hid (fun w' => absDays_any (e - 62135596800 + off (e - 62135596800) + 9223372028741760000) e3 e4 w')
 rw [e1] at HD
 have HR : Hid (monthL (e - 62135596800 + off (e - 62135596800)) = monthA (dayL (e - 62135596800 + off (e - 62135596800)) + absK)) := Lib.hid (rfl)
 clear he hI H e1 e3 e4
 generalize e - 62135596800 + off (e - 62135596800) = L at *
 generalize dayL L + absK = A at *
 have hb := parts_bd A
 have H1 := Lib.hid (fun w => split_any A (by have := e2.1; omega) e2.2 w)
 have H2 := Lib.hid (fun w => ydaySplit_any (aydA A) hb.2.2.1 hb.2.2.2.1 w)
 have H3 := Lib.hid (fun w => janFeb_any A w)
 have H4 := Lib.hid (fun w => year_any A e2 w)
 have H5 := Lib.hid (fun w => month_any A w)
 have H6 := Lib.hid (fun w => weekday_any A (by have := e2.1; omega) e2.2 w)
 clear hb
 rw [HR.out]
 unfold tv at *
 go_enter Try.func72, Try.ntmps72
 go_wp2_with fail
 refine (HA.out _).mono ?_
 rintro e' w1 ⟨rfl, hb1⟩
 have HB := Lib.hid (((Below.refl w.heap.size w).alloc (Nat.le_refl _) _).trans (hb1.mono (by simp)))
 clear hb1
 go_wp2_with fail
 refine (HD.out _).mono ?_
 rintro e' w2 ⟨rfl, rfl⟩
 go_wp2_with fail
 refine (H1.out _).mono ?_
 rintro e' w2 ⟨rfl, rfl⟩
 go_wp2_with fail
 refine (H2.out _).mono ?_
 rintro e' w2 ⟨rfl, rfl⟩
 go_wp2_with fail
 refine (H3.out _).mono ?_
 rintro e' w2 ⟨rfl, rfl⟩
 go_wp2_with fail
 refine (H5.out _).mono ?_
 rintro e' w2 ⟨rfl, rfl⟩
 go_wp2_with fail
 go_ret
 exact ⟨rfl, HB.out⟩
theorem tDay_z {l : Option Addr} {off : Int → Int} {Inv : World → Prop} (H : AbsZ l off Inv) (n e : Int) (w : World) (h0 : 0 ≤ n) (h1 : n < 1073741824) (he : EOk e) (hI : Inv w) :
  Calls Try.prog 64 #[tv n e l] w fun e' w' => e' = .returned (.int .i64 (mdayL (e - 62135596800 + off (e - 62135596800)))) ∧ Below w.heap.size w w' := by
 obtain ⟨e1, e2, e3, e4⟩ := l_days he (H.off0 (e - 62135596800)) (H.off1 (e - 62135596800))
 have HA := Lib.hid (fun o => H.calls n e (w.alloc o) h0 h1 he (H.keeps hI ((Below.refl _ _).alloc (Nat.le_refl _) o)))
 have HD := Lib.hid (fun w' => absDays_any (e - 62135596800 + off (e - 62135596800) + 9223372028741760000) e3 e4 w')
 rw [e1] at HD
 have HR : Hid (mdayL (e - 62135596800 + off (e - 62135596800)) = 1 + (5 * aydA (dayL (e - 62135596800 + off (e - 62135596800)) + absK) + 461) % 153 / 5) := Lib.hid (rfl)
 clear he hI H e1 e3 e4
 generalize e - 62135596800 + off (e - 62135596800) = L at *
 generalize dayL L + absK = A at *
 have hb := parts_bd A
 have H1 := Lib.hid (fun w => split_any A (by have := e2.1; omega) e2.2 w)
 have H2 := Lib.hid (fun w => ydaySplit_any (aydA A) hb.2.2.1 hb.2.2.2.1 w)
 have H3 := Lib.hid (fun w => janFeb_any A w)
 have H4 := Lib.hid (fun w => year_any A e2 w)
 have H5 := Lib.hid (fun w => month_any A w)
 have H6 := Lib.hid (fun w => weekday_any A (by have := e2.1; omega) e2.2 w)
 clear hb
 rw [HR.out]
 unfold tv at *
 go_enter Try.func64, Try.ntmps64
 go_wp2_with fail
 refine (HA.out _).mono ?_
 rintro e' w1 ⟨rfl, hb1⟩
 have HB := Lib.hid (((Below.refl w.heap.size w).alloc (Nat.le_refl _) _).trans (hb1.mono (by simp)))
 clear hb1
 go_wp2_with fail
 refine (HD.out _).mono ?_
 rintro e' w2 ⟨rfl, rfl⟩
 go_wp2_with fail
 refine (H1.out _).mono ?_
 rintro e' w2 ⟨rfl, rfl⟩
 go_wp2_with fail
 refine (H2.out _).mono ?_
 rintro e' w2 ⟨rfl, rfl⟩
 go_wp2_with fail
 go_ret
 exact ⟨rfl, HB.out⟩
theorem tWeekday_z {l : Option Addr} {off : Int → Int} {Inv : World → Prop} (H : AbsZ l off Inv) (n e : Int) (w : World) (h0 : 0 ≤ n) (h1 : n < 1073741824) (he : EOk e) (hI : Inv w) :
  Calls Try.prog 92 #[tv n e l] w fun e' w' => e' = .returned (.int .i64 (wdL (e - 62135596800 + off (e - 62135596800)))) ∧ Below w.heap.size w w' := by
 obtain ⟨e1, e2, e3, e4⟩ := l_days he (H.off0 (e - 62135596800)) (H.off1 (e - 62135596800))
 have HA := Lib.hid (fun o => H.calls n e (w.alloc o) h0 h1 he (H.keeps hI ((Below.refl _ _).alloc (Nat.le_refl _) o)))
 have HD := Lib.hid (fun w' => absDays_any (e - 62135596800 + off (e - 62135596800) + 9223372028741760000) e3 e4 w')
 rw [e1] at HD
 have HR : Hid (wdL (e - 62135596800 + off (e - 62135596800)) = (dayL (e - 62135596800 + off (e - 62135596800)) + absK + 3) % 7) := Lib.hid (by unfold wdL; rw [week_is]; congr 1; omega)
 clear he hI H e1 e3 e4
 generalize e - 62135596800 + off (e - 62135596800) = L at *
 generalize dayL L + absK = A at *
 have hb := parts_bd A
 have H1 := Lib.hid (fun w => split_any A (by have := e2.1; omega) e2.2 w)
 have H2 := Lib.hid (fun w => ydaySplit_any (aydA A) hb.2.2.1 hb.2.2.2.1 w)
 have H3 := Lib.hid (fun w => janFeb_any A w)
 have H4 := Lib.hid (fun w => year_any A e2 w)
 have H5 := Lib.hid (fun w => month_any A w)
 have H6 := Lib.hid (fun w => weekday_any A (by have := e2.1; omega) e2.2 w)
 clear hb
 rw [HR.out]
 unfold tv at *
 go_enter Try.func92, Try.ntmps92
 go_wp2_with fail
 refine (HA.out _).mono ?_
 rintro e' w1 ⟨rfl, hb1⟩
 have HB := Lib.hid (((Below.refl w.heap.size w).alloc (Nat.le_refl _) _).trans (hb1.mono (by simp)))
 clear hb1
 go_wp2_with fail
 refine (HD.out _).mono ?_
 rintro e' w2 ⟨rfl, rfl⟩
 go_wp2_with fail
 refine (H6.out _).mono ?_
 rintro e' w2 ⟨rfl, rfl⟩
 go_wp2_with fail
 go_ret
 exact ⟨rfl, HB.out⟩
theorem tHour_z {l : Option Addr} {off : Int → Int} {Inv : World → Prop} (H : AbsZ l off Inv) (n e : Int) (w : World) (h0 : 0 ≤ n) (h1 : n < 1073741824) (he : EOk e) (hI : Inv w) :
  Calls Try.prog 76 #[tv n e l] w fun e' w' => e' = .returned (.int .i64 (hourL (e - 62135596800 + off (e - 62135596800)))) ∧ Below w.heap.size w w' := by
 obtain ⟨-, -, e3, e4⟩ := l_days he (H.off0 (e - 62135596800)) (H.off1 (e - 62135596800))
 have HA := Lib.hid (fun o => H.calls n e (w.alloc o) h0 h1 he (H.keeps hI ((Below.refl _ _).alloc (Nat.le_refl _) o)))
 have HR : Hid (hourL (e - 62135596800 + off (e - 62135596800)) = (e - 62135596800 + off (e - 62135596800) + 9223372028741760000) % 86400 / 3600) := Lib.hid (by unfold hourL; omega)
 clear he hI H
 generalize e - 62135596800 + off (e - 62135596800) = L at *
 rw [HR.out]
 unfold tv at *
 go_enter Try.func76, Try.ntmps76
 go_wp2_with fail
 refine (HA.out _).mono ?_
 rintro e' w1 ⟨rfl, hb1⟩
 have HB := Lib.hid (((Below.refl w.heap.size w).alloc (Nat.le_refl _) _).trans (hb1.mono (by simp)))
 clear hb1
 go_wp2_with fail
 go_ret
 exact ⟨rfl, HB.out⟩
theorem tMinute_z {l : Option Addr} {off : Int → Int} {Inv : World → Prop} (H : AbsZ l off Inv) (n e : Int) (w : World) (h0 : 0 ≤ n) (h1 : n < 1073741824) (he : EOk e) (hI : Inv w) :
  Calls Try.prog 77 #[tv n e l] w fun e' w' => e' = .returned (.int .i64 (minL (e - 62135596800 + off (e - 62135596800)))) ∧ Below w.heap.size w w' := by
 obtain ⟨-, -, e3, e4⟩ := l_days he (H.off0 (e - 62135596800)) (H.off1 (e - 62135596800))
 have HA := Lib.hid (fun o => H.calls n e (w.alloc o) h0 h1 he (H.keeps hI ((Below.refl _ _).alloc (Nat.le_refl _) o)))
 have HR : Hid (minL (e - 62135596800 + off (e - 62135596800)) = (e - 62135596800 + off (e - 62135596800) + 9223372028741760000) % 3600 / 60) := Lib.hid (by unfold minL; omega)
 clear he hI H
 generalize e - 62135596800 + off (e - 62135596800) = L at *
 rw [HR.out]
 unfold tv at *
 go_enter Try.func77, Try.ntmps77
 go_wp2_with fail
 refine (HA.out _).mono ?_
 rintro e' w1 ⟨rfl, hb1⟩
 have HB := Lib.hid (((Below.refl w.heap.size w).alloc (Nat.le_refl _) _).trans (hb1.mono (by simp)))
 clear hb1
 go_wp2_with fail
 go_ret
 exact ⟨rfl, HB.out⟩
theorem tSecond_z {l : Option Addr} {off : Int → Int} {Inv : World → Prop} (H : AbsZ l off Inv) (n e : Int) (w : World) (h0 : 0 ≤ n) (h1 : n < 1073741824) (he : EOk e) (hI : Inv w) :
  Calls Try.prog 79 #[tv n e l] w fun e' w' => e' = .returned (.int .i64 (secL (e - 62135596800 + off (e - 62135596800)))) ∧ Below w.heap.size w w' := by
 obtain ⟨-, -, e3, e4⟩ := l_days he (H.off0 (e - 62135596800)) (H.off1 (e - 62135596800))
 have HA := Lib.hid (fun o => H.calls n e (w.alloc o) h0 h1 he (H.keeps hI ((Below.refl _ _).alloc (Nat.le_refl _) o)))
 have HR : Hid (secL (e - 62135596800 + off (e - 62135596800)) = (e - 62135596800 + off (e - 62135596800) + 9223372028741760000) % 60) := Lib.hid (by unfold secL; omega)
 clear he hI H
 generalize e - 62135596800 + off (e - 62135596800) = L at *
 rw [HR.out]
 unfold tv at *
 go_enter Try.func79, Try.ntmps79
 go_wp2_with fail
 refine (HA.out _).mono ?_
 rintro e' w1 ⟨rfl, hb1⟩
 have HB := Lib.hid (((Below.refl w.heap.size w).alloc (Nat.le_refl _) _).trans (hb1.mono (by simp)))
 clear hb1
 go_wp2_with fail
 go_ret
 exact ⟨rfl, HB.out⟩
end Go.Proofs.Ytlopkdhblfibkaa.Cal
namespace Go.Proofs.Ytlopkdhblfibkaa.Cal
open Go Go.RowKit Go.Proofs.YtlopkdhblfibkaaW.PrintWords Go.Proofs.YtlopkdhblfibkaaW.PrintLast
set_option linter.unusedVariables false
set_option linter.unusedSimpArgs false
theorem below_le {W w1 w2 : World} (h1 : Below W.heap.size W w1) (h2 : Below w1.heap.size w1 w2) : Below W.heap.size W w2 := h1.trans (h2.mono h1.size)
theorem tNano_any (n e : Int) (l : Option Addr) (w : World) (h0 : 0 ≤ n) (h1 : n < 1073741824) :
  Calls Try.prog 41 #[tv n e l] w fun e' w' => e' = .returned (.int .i64 n) ∧ Below w.heap.size w w' := by
 have HN := Lib.hid (fun (g : Nat) w' hc => nsec_any g n w' h0 h1 hc)
 unfold tv
 go_enter Try.func41, Try.ntmps41
 go_wp2_with fail
 refine (HN.out w.heap.size _ (by simp [go_sem])).mono ?_
 rintro e' w1 ⟨rfl, rfl⟩
 go_wp2_with fail
 go_ret
 exact ⟨rfl, (Below.refl _ _).alloc (Nat.le_refl _) _⟩
end Go.Proofs.Ytlopkdhblfibkaa.Cal
namespace Go.Proofs.Ytlopkdhblfibkaa.Cal
open Go Go.RowKit Go.Proofs.YtlopkdhblfibkaaW.PrintWords Go.Proofs.YtlopkdhblfibkaaW.PrintLast
set_option linter.unusedVariables false
set_option linter.unusedSimpArgs false
structure ClockZ (l : Option Addr) (off : Int → Int) (Inv : World → Prop) (Loc : World → Nat → Prop) : Prop where
 abs : AbsZ l off Inv
 locK : ∀ {w w' : World} {k : Nat}, Loc w k → Below w.heap.size w w' → Loc w' k
 loc : ∀ (n e : Int) (w : World), Inv w → Calls Try.prog 70 #[tv n e l] w fun e' w' => ∃ g, e' = .returned (.pointer (some ⟨g, 0, none⟩)) ∧ Loc w' g ∧ Below w.heap.size w w'
 date : ∀ (k : Nat) (y m d h mi s : Int) (w : World), 0 ≤ y → y ≤ 10100 → 1 ≤ m → m ≤ 13 → 1 ≤ d → d ≤ 40 → (m < 3 → 1 ≤ y) → 0 ≤ h → h < 24 → 0 ≤ mi → mi < 60 → 0 ≤ s → s < 60 → Loc w k →
  Calls Try.prog 73 #[.int .i64 y, .int .i64 m, .int .i64 d, .int .i64 h, .int .i64 mi, .int .i64 s, .int .i64 0, .pointer (some ⟨k, 0, none⟩)] w
   fun e w' => e = .returned (tv 0 (dt off (dayGo y m d * 86400 + (h * 3600 + mi * 60 + s)) + 62135596800) l) ∧ Below w.heap.size w w'
 inn : ∀ (n e : Int) (l' : Option Addr) (k : Nat) (w : World), 0 ≤ n → n < 1073741824 → Loc w k → Calls Try.prog 37 #[tv n e l', .pointer (some ⟨k, 0, none⟩)] w fun e' w' => e' = .returned (tv n e l) ∧ Below w.heap.size w w'
theorem clockZ_utc : ClockZ none (fun _ => 0) (fun _ => True) UtcAt where
 abs := absZ_utc
 locK := fun h hb => h.below hb
 loc := fun n e w _ => (locUtc_any n e w).mono fun _ _ ⟨g, h1, h2, h3, _⟩ => ⟨g, h1, h2, h3⟩
 date := fun k y m d h mi s w a1 a2 a3 a4 a5 a6 a7 a8 a9 b1 b2 b3 b4 hu => (dateUtc_any k y m d h mi s 0 w a1 a2 a3 a4 a5 a6 a7 a8 a9 b1 b2 b3 b4 (by omega) (by omega) hu).mono fun _ _ ⟨h1, h2⟩ => ⟨by rw [h1]; unfold dt; rw [Int.sub_zero], h2⟩
 inn := fun n e l' k w h0 h1 hu => inUtc_any n e l' k w h0 h1 hu
theorem tDate_z {l : Option Addr} {off : Int → Int} {Inv : World → Prop} (H : AbsZ l off Inv) (n e : Int) (w : World) (h0 : 0 ≤ n) (h1 : n < 1073741824) (he : EOk e) (hI : Inv w) :
  Calls Try.prog 90 #[tv n e l] w fun e' w' => e' = .returned (.tuple #[.int .i64 (yearL (e - 62135596800 + off (e - 62135596800))), .int .i64 (monthL (e - 62135596800 + off (e - 62135596800))), .int .i64 (mdayL (e - 62135596800 + off (e - 62135596800)))]) ∧ Below w.heap.size w w' := by
 obtain ⟨e1, e2, e3, e4⟩ := l_days he (H.off0 (e - 62135596800)) (H.off1 (e - 62135596800))
 have HA := Lib.hid (fun o => H.calls n e (w.alloc o) h0 h1 he (H.keeps hI ((Below.refl _ _).alloc (Nat.le_refl _) o)))
 have HD := Lib.hid (fun w' => absDays_any (e - 62135596800 + off (e - 62135596800) + 9223372028741760000) e3 e4 w')
 rw [e1] at HD
 have HR : Hid (yearL (e - 62135596800 + off (e - 62135596800)) = yearA (dayL (e - 62135596800 + off (e - 62135596800)) + absK) ∧ monthL (e - 62135596800 + off (e - 62135596800)) = monthA (dayL (e - 62135596800 + off (e - 62135596800)) + absK) ∧ mdayL (e - 62135596800 + off (e - 62135596800)) = mdayA (dayL (e - 62135596800 + off (e - 62135596800)) + absK)) := Lib.hid ⟨rfl, rfl, rfl⟩
 clear he hI H e1 e3 e4
 generalize e - 62135596800 + off (e - 62135596800) = L at *
 generalize dayL L + absK = A at *
 have H6 := Lib.hid (fun w => dateA_any A e2 w)
 rw [HR.out.1, HR.out.2.1, HR.out.2.2]
 unfold tv at *
 go_enter Try.func90, Try.ntmps90
 go_wp2_with fail
 refine (HA.out _).mono ?_
 rintro e' w1 ⟨rfl, hb1⟩
 have HB := Lib.hid (((Below.refl w.heap.size w).alloc (Nat.le_refl _) _).trans (hb1.mono (by simp)))
 clear hb1
 go_wp2_with fail
 refine (HD.out _).mono ?_
 rintro e' w2 ⟨rfl, rfl⟩
 go_wp2_with fail
 refine (H6.out _).mono ?_
 rintro e' w2 ⟨rfl, rfl⟩
 go_wp2_with fail
 go_ret3
 exact ⟨rfl, HB.out⟩
theorem tClock_z {l : Option Addr} {off : Int → Int} {Inv : World → Prop} (H : AbsZ l off Inv) (n e : Int) (w : World) (h0 : 0 ≤ n) (h1 : n < 1073741824) (he : EOk e) (hI : Inv w) :
  Calls Try.prog 91 #[tv n e l] w fun e' w' => e' = .returned (.tuple #[.int .i64 (hourL (e - 62135596800 + off (e - 62135596800))), .int .i64 (minL (e - 62135596800 + off (e - 62135596800))), .int .i64 (secL (e - 62135596800 + off (e - 62135596800)))]) ∧ Below w.heap.size w w' := by
 obtain ⟨-, -, e3, e4⟩ := l_days he (H.off0 (e - 62135596800)) (H.off1 (e - 62135596800))
 have HA := Lib.hid (fun o => H.calls n e (w.alloc o) h0 h1 he (H.keeps hI ((Below.refl _ _).alloc (Nat.le_refl _) o)))
 have HC := Lib.hid (fun w' => absClock_any (e - 62135596800 + off (e - 62135596800) + 9223372028741760000) e3 e4 w')
 have HR : Hid (hourL (e - 62135596800 + off (e - 62135596800)) = (e - 62135596800 + off (e - 62135596800) + 9223372028741760000) % 86400 / 3600 ∧ minL (e - 62135596800 + off (e - 62135596800)) = (e - 62135596800 + off (e - 62135596800) + 9223372028741760000) % 3600 / 60 ∧ secL (e - 62135596800 + off (e - 62135596800)) = (e - 62135596800 + off (e - 62135596800) + 9223372028741760000) % 60) := Lib.hid (by unfold hourL minL secL; omega)
 clear he hI H e3 e4
 generalize e - 62135596800 + off (e - 62135596800) = L at *
 rw [HR.out.1, HR.out.2.1, HR.out.2.2]
 unfold tv at *
 go_enter Try.func91, Try.ntmps91
 go_wp2_with fail
 refine (HA.out _).mono ?_
 rintro e' w1 ⟨rfl, hb1⟩
 have HB := Lib.hid (((Below.refl w.heap.size w).alloc (Nat.le_refl _) _).trans (hb1.mono (by simp)))
 clear hb1
 go_wp2_with fail
 refine (HC.out _).mono ?_
 rintro e' w2 ⟨rfl, rfl⟩
 go_wp2_with fail
 go_ret3
 exact ⟨rfl, HB.out⟩
end Go.Proofs.Ytlopkdhblfibkaa.Cal
namespace Go.Proofs.Ytlopkdhblfibkaa.Cal
open Go Go.RowKit Go.Proofs.YtlopkdhblfibkaaW.PrintWords Go.Proofs.YtlopkdhblfibkaaW.PrintLast
set_option linter.unusedVariables false
set_option linter.unusedSimpArgs false
theorem heap_two (w : World) (o o' : Obj) : ((w.alloc o).alloc o').heap[w.heap.size + 1]? = some o' := by
 have := heap_alloc_new (w.alloc o) o'
 rw [show (w.alloc o).heap.size = w.heap.size + 1 by simp] at this
 exact this
end Go.Proofs.Ytlopkdhblfibkaa.Cal
namespace Go.Proofs.Ytlopkdhblfibkaa.Cal
open Go Go.RowKit Go.Proofs.YtlopkdhblfibkaaW.PrintWords Go.Proofs.YtlopkdhblfibkaaW.PrintLast
set_option linter.unusedVariables false
set_option linter.unusedSimpArgs false
set_option maxRecDepth 100000 in
set_option maxHeartbeats 4000000 in
theorem div60_any (e : Int) (l : Option Addr) (h0 : 0 ≤ e) (h1 : e ≤ 900000000000) (w : World) :
  Calls Try.prog 93 #[tv 0 e l, .int .i64 60000000000] w fun e' w' => (∃ v, e' = .returned (.tuple #[v, .int .i64 (e % 60 * 1000000000)])) ∧ Below w.heap.size w w' := by
 have HN := Lib.hid (fun (g : Nat) w' hc => nsec_any g 0 w' (by omega) (by omega) hc)
 have HS := Lib.hid (fun (g : Nat) w' hc hc1 => sec_any g 0 e w' (by omega) (by omega) hc hc1)
 have hd : decide (e < 0) = false := decide_eq_false (by omega)
 unfold tv
 go_enter Try.func93, Try.ntmps93
 go_wp2_with fail
 refine (HN.out w.heap.size _ (by simp [go_sem])).mono ?_
 rintro e' w1 ⟨rfl, rfl⟩
 go_wp2_with fail
 refine (HS.out w.heap.size _ (by simp [go_sem]) (by simp [go_sem])).mono ?_
 rintro e' w1 ⟨rfl, rfl⟩
 go_wp2_with fail
 go_ret2
 exact ⟨⟨_, rfl⟩, (Below.refl _ _).alloc (Nat.le_refl _) _⟩
set_option maxRecDepth 100000 in
set_option maxHeartbeats 4000000 in
theorem div1_any (e : Int) (l : Option Addr) (h0 : 0 ≤ e) (h1 : e ≤ 900000000000) (w : World) :
  Calls Try.prog 93 #[tv 0 e l, .int .i64 1000000000] w fun e' w' => (∃ v, e' = .returned (.tuple #[v, .int .i64 0])) ∧ Below w.heap.size w w' := by
 have HN := Lib.hid (fun (g : Nat) w' hc => nsec_any g 0 w' (by omega) (by omega) hc)
 have HS := Lib.hid (fun (g : Nat) w' hc hc1 => sec_any g 0 e w' (by omega) (by omega) hc hc1)
 have hd : decide (e < 0) = false := decide_eq_false (by omega)
 unfold tv
 go_enter Try.func93, Try.ntmps93
 go_wp2_with fail
 refine (HN.out w.heap.size _ (by simp [go_sem])).mono ?_
 rintro e' w1 ⟨rfl, rfl⟩
 go_wp2_with fail
 refine (HS.out w.heap.size _ (by simp [go_sem]) (by simp [go_sem])).mono ?_
 rintro e' w1 ⟨rfl, rfl⟩
 go_wp2_with fail
 go_ret2
 exact ⟨⟨_, rfl⟩, (Below.refl _ _).alloc (Nat.le_refl _) _⟩
set_option maxRecDepth 100000 in
set_option maxHeartbeats 4000000 in
theorem trunc60_any (e : Int) (l : Option Addr) (h0 : 0 ≤ e) (h1 : e ≤ 900000000000) (w : World) :
  Calls Try.prog 78 #[tv 0 e l, .int .i64 60000000000] w fun e' w' => e' = .returned (tv 0 (e - e % 60) l) ∧ Below w.heap.size w w' := by
 have HT := Lib.hid (fun (g : Nat) w' hc => strip_any g 0 w' (by omega) (by omega) hc)
 have HD := Lib.hid (fun w' => div60_any e l h0 h1 w')
 have HA : Hid (∀ w', Calls Try.prog 67 #[tv 0 e l, .int .i64 (-(e % 60 * 1000000000))] w' fun e' w2 => e' = .returned (tv 0 (e - e % 60) l) ∧ Below w'.heap.size w' w2) := Lib.hid (fun w' => by
  have := addWhole_any (-(e % 60)) e l (by omega) h1 (by omega) (by omega) w'
  rw [show 1000000000 * -(e % 60) = -(e % 60 * 1000000000) by omega] at this
  exact this)
 unfold tv at HD HA ⊢
 go_enter Try.func78, Try.ntmps78
 go_wp2_with fail
 refine (HT.out w.heap.size _ (by simp [go_sem])).mono ?_
 rintro e' w1 ⟨rfl, rfl⟩
 go_wp2_with fail
 refine (HD.out _).mono ?_
 rintro e' w2 ⟨⟨v, rfl⟩, hb2⟩
 have hrow := (hb2.block w.heap.size (by simp; omega)).trans ((((Below.refl _ _).alloc (Nat.le_refl _) _).block w.heap.size (by simp)).trans (heap_alloc_new w (.cells #[.int .u64 0, .int .i64 e, .pointer l] 59)))
 have HRES := Lib.hid ((hb2.block (w.heap.size + 1) (by simp)).trans (heap_two w (.cells #[.int .u64 0, .int .i64 e, .pointer l] 59) (.cells #[.int .u64 0, .int .i64 0, .pointer none] 59)))
 have HB2 := Lib.hid (below_le (((Below.refl w.heap.size w).alloc (Nat.le_refl _) _).alloc (by simp) _) hb2)
 have c0 : w2.cell? ⟨w.heap.size, 0, none⟩ = some (.int .u64 0) := cell_of_row _ _ _ _ _ _ hrow
 have c1 : w2.cell? ⟨w.heap.size, 1, none⟩ = some (.int .i64 e) := cell_of_row _ _ _ _ _ _ hrow
 have c2 : w2.cell? ⟨w.heap.size, 2, none⟩ = some (.pointer l) := cell_of_row _ _ _ _ _ _ hrow
 clear hb2 hrow HD HT
 go_wp2_with fail
 refine (HA.out _).mono ?_
 rintro e' w3 ⟨rfl, hb3⟩
 have HR3 := Lib.hid ((hb3.block _ (Array.getElem?_eq_some_iff.1 HRES.out).1).trans HRES.out)
 have HB3 := Lib.hid (below_le HB2.out hb3)
 clear hb3 c0 c1 c2
 go_wp2_with (refine wpList_store_row rfl 59 _ _ rfl (w.heap.size + 1) #[.int .u64 0, .int .i64 (e - e % 60), .pointer l] rfl rfl 59 _ HR3.out timeSize rfl (by simp [Value.oneCell']) ?_)
 refine bodyPost_ret (v := .agg #[.int .u64 0, .int .i64 (e - e % 60), .pointer l]) ?_ rfl ⟨rfl, ?_⟩
 ·exact results_time rfl _ _ (w.heap.size + 1) _ rfl rfl (setRow_heap _ _ _ _ _ _ HR3.out)
 ·exact below_setRow HB3.out (by omega) _
set_option maxRecDepth 100000 in
set_option maxHeartbeats 4000000 in
theorem trunc1_any (e : Int) (l : Option Addr) (h0 : 0 ≤ e) (h1 : e ≤ 900000000000) (w : World) :
  Calls Try.prog 78 #[tv 0 e l, .int .i64 1000000000] w fun e' w' => e' = .returned (tv 0 (e) l) ∧ Below w.heap.size w w' := by
 have HT := Lib.hid (fun (g : Nat) w' hc => strip_any g 0 w' (by omega) (by omega) hc)
 have HD := Lib.hid (fun w' => div1_any e l h0 h1 w')
 have HA : Hid (∀ w', Calls Try.prog 67 #[tv 0 e l, .int .i64 0] w' fun e' w2 => e' = .returned (tv 0 e l) ∧ Below w'.heap.size w' w2) := Lib.hid (fun w' => by
  have := addWhole_any 0 e l (by omega) h1 (by omega) (by omega) w'
  rw [show (1000000000 : Int) * 0 = 0 by omega, Int.add_zero] at this
  exact this)
 unfold tv at HD HA ⊢
 go_enter Try.func78, Try.ntmps78
 go_wp2_with fail
 refine (HT.out w.heap.size _ (by simp [go_sem])).mono ?_
 rintro e' w1 ⟨rfl, rfl⟩
 go_wp2_with fail
 refine (HD.out _).mono ?_
 rintro e' w2 ⟨⟨v, rfl⟩, hb2⟩
 have hrow := (hb2.block w.heap.size (by simp; omega)).trans ((((Below.refl _ _).alloc (Nat.le_refl _) _).block w.heap.size (by simp)).trans (heap_alloc_new w (.cells #[.int .u64 0, .int .i64 e, .pointer l] 59)))
 have HRES := Lib.hid ((hb2.block (w.heap.size + 1) (by simp)).trans (heap_two w (.cells #[.int .u64 0, .int .i64 e, .pointer l] 59) (.cells #[.int .u64 0, .int .i64 0, .pointer none] 59)))
 have HB2 := Lib.hid (below_le (((Below.refl w.heap.size w).alloc (Nat.le_refl _) _).alloc (by simp) _) hb2)
 have c0 : w2.cell? ⟨w.heap.size, 0, none⟩ = some (.int .u64 0) := cell_of_row _ _ _ _ _ _ hrow
 have c1 : w2.cell? ⟨w.heap.size, 1, none⟩ = some (.int .i64 e) := cell_of_row _ _ _ _ _ _ hrow
 have c2 : w2.cell? ⟨w.heap.size, 2, none⟩ = some (.pointer l) := cell_of_row _ _ _ _ _ _ hrow
 clear hb2 hrow HD HT
 go_wp2_with fail
 refine (HA.out _).mono ?_
 rintro e' w3 ⟨rfl, hb3⟩
 have HR3 := Lib.hid ((hb3.block _ (Array.getElem?_eq_some_iff.1 HRES.out).1).trans HRES.out)
 have HB3 := Lib.hid (below_le HB2.out hb3)
 clear hb3 c0 c1 c2
 go_wp2_with (refine wpList_store_row rfl 59 _ _ rfl (w.heap.size + 1) #[.int .u64 0, .int .i64 (e), .pointer l] rfl rfl 59 _ HR3.out timeSize rfl (by simp [Value.oneCell']) ?_)
 refine bodyPost_ret (v := .agg #[.int .u64 0, .int .i64 (e), .pointer l]) ?_ rfl ⟨rfl, ?_⟩
 ·exact results_time rfl _ _ (w.heap.size + 1) _ rfl rfl (setRow_heap _ _ _ _ _ _ HR3.out)
 ·exact below_setRow HB3.out (by omega) _
end Go.Proofs.Ytlopkdhblfibkaa.Cal
namespace Go.Proofs.Ytlopkdhblfibkaa.Cal
open Go Go.RowKit Go.Proofs.YtlopkdhblfibkaaW.PrintWords Go.Proofs.YtlopkdhblfibkaaW.PrintLast
set_option linter.unusedVariables false
set_option linter.unusedSimpArgs false
set_option maxRecDepth 100000 in
set_option maxHeartbeats 4000000 in
theorem addDate_z {l : Option Addr} {off : Int → Int} {Inv : World → Prop} {Loc : World → Nat → Prop} (H : ClockZ l off Inv Loc) (dm dd e : Int) (w : World) (he : EOk e) (hI : Inv w)
  (hy0 : 0 ≤ yearL (e - 62135596800 + off (e - 62135596800))) (hy2 : monthL (e - 62135596800 + off (e - 62135596800)) < 3 → 1 ≤ yearL (e - 62135596800 + off (e - 62135596800))) (hy1 : yearL (e - 62135596800 + off (e - 62135596800)) ≤ 10100) (hd : dm = 1 ∧ dd = 0 ∨ dm = 0 ∧ dd = 1) :
  Calls Try.prog 74 #[tv 0 e l, .int .i64 0, .int .i64 dm, .int .i64 dd] w fun e' w' =>
   e' = .returned (tv 0 (dt off (dayGo (yearL (e - 62135596800 + off (e - 62135596800))) (monthL (e - 62135596800 + off (e - 62135596800)) + dm) (mdayL (e - 62135596800 + off (e - 62135596800)) + dd) * 86400 + (hourL (e - 62135596800 + off (e - 62135596800)) * 3600 + minL (e - 62135596800 + off (e - 62135596800)) * 60 + secL (e - 62135596800 + off (e - 62135596800)))) + 62135596800) l) ∧ Below w.heap.size w w' := by
 obtain ⟨hv, -⟩ := date_L (e - 62135596800 + off (e - 62135596800))
 have hmd := mdays_bd (yearL (e - 62135596800 + off (e - 62135596800))) (monthL (e - 62135596800 + off (e - 62135596800)))
 have hh : 0 ≤ hourL (e - 62135596800 + off (e - 62135596800)) ∧ hourL (e - 62135596800 + off (e - 62135596800)) < 24 ∧ 0 ≤ minL (e - 62135596800 + off (e - 62135596800)) ∧ minL (e - 62135596800 + off (e - 62135596800)) < 60 ∧ 0 ≤ secL (e - 62135596800 + off (e - 62135596800)) ∧ secL (e - 62135596800 + off (e - 62135596800)) < 60 := by unfold hourL minL secL; omega
 have HD := Lib.hid (fun w' hI' => tDate_z H.abs 0 e w' (by omega) (by omega) he hI')
 have HC := Lib.hid (fun w' hI' => tClock_z H.abs 0 e w' (by omega) (by omega) he hI')
 obtain ⟨v1, v2, v3, v4⟩ := hv
 have HI0 := Lib.hid (fun o o' => H.abs.keeps hI ((((Below.refl w.heap.size w).alloc (Nat.le_refl _) o).alloc (by simp) o')))
 generalize yearL (e - 62135596800 + off (e - 62135596800)) = y at *
 generalize monthL (e - 62135596800 + off (e - 62135596800)) = m at *
 generalize mdayL (e - 62135596800 + off (e - 62135596800)) = d at *
 generalize hourL (e - 62135596800 + off (e - 62135596800)) = h at *
 generalize minL (e - 62135596800 + off (e - 62135596800)) = mi at *
 generalize secL (e - 62135596800 + off (e - 62135596800)) = s at *
 obtain ⟨h0, h1, mi0, mi1, s0, s1⟩ := hh
 have b1 : 1 ≤ m + dm := by omega
 have b2 : m + dm ≤ 13 := by omega
 have b3 : 1 ≤ d + dd := by omega
 have b4 : d + dd ≤ 40 := by omega
 have e1 : wrap64 (m + dm) = m + dm := by unfold wrap64; omega
 have e2 : wrap64 (d + dd) = d + dd := by unfold wrap64; omega
 have e3 : wrap64 y = y := by unfold wrap64; omega
 have HDT : Hid (∀ (k : Nat) (w' : World), Loc w' k → Calls Try.prog 73 #[.int .i64 (wrap64 y), .int .i64 (wrap64 (m + dm)), .int .i64 (wrap64 (d + dd)), .int .i64 h, .int .i64 mi, .int .i64 s, .int .i64 (wrap64 0), .pointer (some ⟨k, 0, none⟩)] w'
   fun e w2 => e = .returned (tv 0 (dt off (dayGo y (m + dm) (d + dd) * 86400 + (h * 3600 + mi * 60 + s)) + 62135596800) l) ∧ Below w'.heap.size w' w2) := Lib.hid (by
  intro k w' hk
  rw [e1, e2, e3, show wrap64 0 = 0 by unfold wrap64; omega]
  exact H.date k y (m + dm) (d + dd) h mi s w' (by omega) hy1 (by omega) (by omega) (by omega) (by omega) (by omega) h0 h1 mi0 mi1 s0 s1 hk)
 have HLOC := Lib.hid (fun w' hI' => H.loc 0 e w' hI')
 clear hI e1 e2 e3
 unfold tv at HD HC HDT HLOC ⊢
 go_enter Try.func74, Try.ntmps74
 go_wp2_with fail
 refine (HD.out _ (HI0.out _ _)).mono ?_
 rintro e' w1 ⟨rfl, hb1⟩
 have HB1 := Lib.hid (below_le (((Below.refl w.heap.size w).alloc (Nat.le_refl _) _).alloc (by simp) _) hb1)
 have hrow := (hb1.block w.heap.size (by simp; omega)).trans ((((Below.refl _ _).alloc (Nat.le_refl _) _).block w.heap.size (by simp)).trans (heap_alloc_new w (.cells #[.int .u64 0, .int .i64 e, .pointer l] 59)))
 have hres := (hb1.block (w.heap.size + 1) (by simp)).trans (heap_two w (.cells #[.int .u64 0, .int .i64 e, .pointer l] 59) (.cells #[.int .u64 0, .int .i64 0, .pointer none] 59))
 have HI1 := Lib.hid (H.abs.keeps (HI0.out _ _) hb1)
 have c0 : w1.cell? ⟨w.heap.size, 0, none⟩ = some (.int .u64 0) := cell_of_row _ _ _ _ _ _ hrow
 have c1 : w1.cell? ⟨w.heap.size, 1, none⟩ = some (.int .i64 e) := cell_of_row _ _ _ _ _ _ hrow
 have c2 : w1.cell? ⟨w.heap.size, 2, none⟩ = some (.pointer l) := cell_of_row _ _ _ _ _ _ hrow
 have HROW := Lib.hid hrow
 have HRES := Lib.hid hres
 clear hb1 hrow hres
 go_wp2_with fail
 refine (HC.out _ HI1.out).mono ?_
 rintro e' wo ⟨rfl, hbo⟩
 have hrow := (hbo.block _ (Array.getElem?_eq_some_iff.1 HROW.out).1).trans HROW.out
 have hres := (hbo.block _ (Array.getElem?_eq_some_iff.1 HRES.out).1).trans HRES.out
 have HI := Lib.hid (H.abs.keeps HI1.out hbo)
 have HBO := Lib.hid (below_le HB1.out hbo)
 clear hbo HI1 HB1 HROW HRES c0 c1 c2 HD HC HI0
 go_upto_region 3 with fail
 refine start_ (n := 18) (S := fun w' => w'.heap[w.heap.size]? = some (.cells #[.int .u64 0, .int .i64 e, .pointer l] 59 (0, 0)) ∧ Below wo.heap.size wo w') (ds := [17]) #[false, false, false, false, false, false, false, false, false, false, false, false, false, false, false, false, false, false] (by kernel_rfl) rfl rfl ⟨hrow, (Below.refl _ _).drew⟩ (fun hHeld => ?_)
 refine pure_ (i := 0) (N := some 27) (v := ?_) (a' := ?_) #[true, false, false, false, false, false, false, false, false, false, false, false, false, false, false, false, false, false] rfl rfl (by kernel_rfl) (fun _ _ _ h => h) (Or.inl ⟨by rfl, ?_⟩) ?_ ?_
 rotate_left
 ·intro w'
  go_simp
  with_reducible rfl
 rotate_left
 ·simp only [Act.put, List.setIfInBounds_toArray, List.set_cons_zero, List.set_cons_succ, i64_w, i32_w]
  rfl
 refine pure_ (i := 1) (N := some 28) (v := ?_) (a' := ?_) #[true, true, false, false, false, false, false, false, false, false, false, false, false, false, false, false, false, false] rfl rfl (by kernel_rfl) (fun _ _ _ h => h) (Or.inl ⟨by rfl, ?_⟩) ?_ ?_
 rotate_left
 ·intro w'
  go_simp
  with_reducible rfl
 rotate_left
 ·simp only [Act.put, List.setIfInBounds_toArray, List.set_cons_zero, List.set_cons_succ, i64_w, i32_w]
  rfl
 refine pure_ (i := 2) (N := some 29) (v := ?_) (a' := ?_) #[true, true, true, false, false, false, false, false, false, false, false, false, false, false, false, false, false, false] rfl rfl (by kernel_rfl) (fun _ _ _ h => h) (Or.inl ⟨by rfl, ?_⟩) ?_ ?_
 rotate_left
 ·intro w'
  go_simp
  with_reducible rfl
 rotate_left
 ·simp only [Act.put, List.setIfInBounds_toArray, List.set_cons_zero, List.set_cons_succ, i64_w, i32_w]
  rfl
 refine pure_ (i := 3) (N := some 30) (v := ?_) (a' := ?_) #[true, true, true, true, false, false, false, false, false, false, false, false, false, false, false, false, false, false] rfl rfl (by kernel_rfl) (fun _ _ _ h => h) (Or.inl ⟨by rfl, ?_⟩) ?_ ?_
 rotate_left
 ·intro w'
  go_simp
  with_reducible rfl
 rotate_left
 ·simp only [Act.put, List.setIfInBounds_toArray, List.set_cons_zero, List.set_cons_succ, i64_w, i32_w]
  rfl
 refine pure_ (i := 4) (N := some 31) (v := ?_) (a' := ?_) #[true, true, true, true, true, false, false, false, false, false, false, false, false, false, false, false, false, false] rfl rfl (by kernel_rfl) (fun _ _ _ h => h) (Or.inl ⟨by rfl, ?_⟩) ?_ ?_
 rotate_left
 ·intro w'
  go_simp
  with_reducible rfl
 rotate_left
 ·simp only [Act.put, List.setIfInBounds_toArray, List.set_cons_zero, List.set_cons_succ, i64_w, i32_w]
  rfl
 refine pure_ (i := 5) (N := some 32) (v := ?_) (a' := ?_) #[true, true, true, true, true, true, false, false, false, false, false, false, false, false, false, false, false, false] rfl rfl (by kernel_rfl) (fun _ _ _ h => h) (Or.inl ⟨by rfl, ?_⟩) ?_ ?_
 rotate_left
 ·intro w'
  go_simp
  with_reducible rfl
 rotate_left
 ·simp only [Act.put, List.setIfInBounds_toArray, List.set_cons_zero, List.set_cons_succ, i64_w, i32_w]
  rfl
 refine pure_ (i := 6) (N := some 33) (v := ?_) (a' := ?_) #[true, true, true, true, true, true, true, false, false, false, false, false, false, false, false, false, false, false] rfl rfl (by kernel_rfl) (fun _ _ _ h => h) (Or.inl ⟨by rfl, ?_⟩) ?_ ?_
 rotate_left
 ·intro w'
  go_simp
  with_reducible rfl
 rotate_left
 ·simp only [Act.put, List.setIfInBounds_toArray, List.set_cons_zero, List.set_cons_succ, i64_w, i32_w]
  rfl
 refine pure_ (i := 7) (N := some 34) (v := ?_) (a' := ?_) #[true, true, true, true, true, true, true, true, false, false, false, false, false, false, false, false, false, false] rfl rfl (by kernel_rfl) (fun _ _ _ h => h) (Or.inl ⟨by rfl, ?_⟩) ?_ ?_
 rotate_left
 ·intro w'
  go_simp
  with_reducible rfl
 rotate_left
 ·simp only [Act.put, List.setIfInBounds_toArray, List.set_cons_zero, List.set_cons_succ, i64_w, i32_w]
  rfl
 refine pure_ (i := 8) (N := some 35) (v := ?_) (a' := ?_) #[true, true, true, true, true, true, true, true, true, false, false, false, false, false, false, false, false, false] rfl rfl (by kernel_rfl) (fun _ _ _ h => h) (Or.inl ⟨by rfl, ?_⟩) ?_ ?_
 rotate_left
 ·intro w'
  go_simp
  with_reducible rfl
 rotate_left
 ·simp only [Act.put, List.setIfInBounds_toArray, List.set_cons_zero, List.set_cons_succ, i64_w, i32_w]
  rfl
 refine pure_ (i := 9) (N := some 36) (v := ?_) (a' := ?_) #[true, true, true, true, true, true, true, true, true, true, false, false, false, false, false, false, false, false] rfl rfl (by kernel_rfl) (fun _ _ _ h => h) (Or.inl ⟨by rfl, ?_⟩) ?_ ?_
 rotate_left
 ·intro w'
  go_simp
  with_reducible rfl
 rotate_left
 ·simp only [Act.put, List.setIfInBounds_toArray, List.set_cons_zero, List.set_cons_succ, i64_w, i32_w]
  rfl
 refine pure_ (i := 10) (N := some 37) (v := ?_) (a' := ?_) #[true, true, true, true, true, true, true, true, true, true, true, false, false, false, false, false, false, false] rfl rfl (by kernel_rfl) (fun _ _ _ h => h) (Or.inl ⟨by rfl, ?_⟩) ?_ ?_
 rotate_left
 ·intro w'
  go_simp
  with_reducible rfl
 rotate_left
 ·simp only [Act.put, List.setIfInBounds_toArray, List.set_cons_zero, List.set_cons_succ, i64_w, i32_w]
  rfl
 refine pure_ (i := 11) (N := some 38) (v := ?_) (a' := ?_) #[true, true, true, true, true, true, true, true, true, true, true, true, false, false, false, false, false, false] rfl rfl (by kernel_rfl) (fun _ _ _ h => h) (Or.inl ⟨by rfl, ?_⟩) ?_ ?_
 rotate_left
 ·intro w'
  go_simp
  with_reducible rfl
 rotate_left
 ·simp only [Act.put, List.setIfInBounds_toArray, List.set_cons_zero, List.set_cons_succ, i64_w, i32_w]
  rfl
 refine take_ (i := 14) (N := some 41) (v := ?_) (a' := ?_) #[true, true, true, true, true, true, true, true, true, true, true, true, false, false, true, false, false, false] rfl rfl (by kernel_rfl) (fun _ _ _ h => h) (Or.inl ⟨by rfl, ?_⟩) hHeld ?_ ?_
 rotate_left
 ·rintro w' ⟨s0, s1⟩
  have c0 : w'.cell? ⟨w.heap.size, 0, none⟩ = some (.int .u64 0) := cell_of_row _ _ _ _ _ _ s0
  have c1 : w'.cell? ⟨w.heap.size, 1, none⟩ = some (.int .i64 e) := cell_of_row _ _ _ _ _ _ s0
  have c2 : w'.cell? ⟨w.heap.size, 2, none⟩ = some (.pointer l) := cell_of_row _ _ _ _ _ _ s0
  go_simp
  with_reducible rfl
 rotate_left
 ·simp only [Act.put, List.setIfInBounds_toArray, List.set_cons_zero, List.set_cons_succ, i64_w, i32_w]
  rfl
 refine one_ (i := 12) (N := some 39) #[true, true, true, true, true, true, true, true, true, true, true, true, true, false, true, false, false, false] rfl rfl (by kernel_rfl) (by decide) (fun K hK => ?_)
 refine goes_ Try.func45 (by kernel_rfl) rfl #[.pointer (some ⟨w.heap.size, 0, none⟩)] (by rfl) rfl rfl (by simp only [List.map_toArray, List.map_cons, List.map_nil]; rfl) ?_
 with_reducible refine (nsec_any w.heap.size 0 _ (by omega) (by omega) (cell_of_row _ _ _ _ _ _ hHeld.1)).mono ?_
 rintro e3 w3 ⟨rfl, rfl⟩
 refine ⟨_, rfl, ?_⟩
 refine hK.out _ _ ⟨hHeld.1, hHeld.2⟩ (fun hHeld => ?_)
 clear hK K
 refine norm_ (a' := ?_) ?_ ?_
 rotate_left
 ·show Act.put _ (some 39) _ = _
  simp only [Act.put, List.setIfInBounds_toArray, List.set_cons_zero, List.set_cons_succ, i64_w, i32_w]
  rfl
 refine pure_ (i := 13) (N := some 40) (v := ?_) (a' := ?_) #[true, true, true, true, true, true, true, true, true, true, true, true, true, true, true, false, false, false] rfl rfl (by kernel_rfl) (fun _ _ _ h => h) (Or.inl ⟨by rfl, ?_⟩) ?_ ?_
 rotate_left
 ·intro w'
  go_simp
  with_reducible rfl
 rotate_left
 ·simp only [Act.put, List.setIfInBounds_toArray, List.set_cons_zero, List.set_cons_succ, i64_w, i32_w]
  rfl
 refine one_ (i := 15) (N := some 42) #[true, true, true, true, true, true, true, true, true, true, true, true, true, true, true, true, false, false] rfl rfl (by kernel_rfl) (by decide) (fun K hK => ?_)
 refine goes_ Try.func70 (by kernel_rfl) rfl #[.agg #[.int .u64 0, .int .i64 e, .pointer l]] (by rfl) rfl rfl (by simp only [List.map_toArray, List.map_cons, List.map_nil]; rfl) ?_
 with_reducible refine (HLOC.out _ (H.abs.keeps HI.out hHeld.2)).mono ?_
 rintro e5 w5 ⟨k, rfl, hk, hb5⟩
 refine ⟨_, rfl, ?_⟩
 refine hK.out _ _ ⟨(hb5.block _ (Array.getElem?_eq_some_iff.1 hHeld.1).1).trans hHeld.1, below_le hHeld.2 hb5⟩ (fun hHeld => ?_)
 clear hK K
 refine norm_ (a' := ?_) ?_ ?_
 rotate_left
 ·show Act.put _ (some 42) _ = _
  simp only [Act.put, List.setIfInBounds_toArray, List.set_cons_zero, List.set_cons_succ, i64_w, i32_w]
  rfl
 refine one_ (i := 16) (N := some 43) #[true, true, true, true, true, true, true, true, true, true, true, true, true, true, true, true, true, false] rfl rfl (by kernel_rfl) (by decide) (fun K hK => ?_)
 refine goes_ Try.func73 (by kernel_rfl) rfl #[.int .i64 (wrap64 y), .int .i64 (wrap64 (m + dm)), .int .i64 (wrap64 (d + dd)), .int .i64 h, .int .i64 mi, .int .i64 s, .int .i64 (wrap64 0), .pointer (some ⟨k, 0, none⟩)] (by rfl) rfl rfl (by simp only [List.map_toArray, List.map_cons, List.map_nil]; rfl) ?_
 with_reducible refine (HDT.out k _ hk).mono ?_
 rintro e6 w6 ⟨rfl, hb6⟩
 refine ⟨_, rfl, ?_⟩
 refine hK.out _ _ ⟨(hb6.block _ (Array.getElem?_eq_some_iff.1 hHeld.1).1).trans hHeld.1, below_le hHeld.2 hb6⟩ (fun hHeld => ?_)
 clear hK K
 refine norm_ (a' := ?_) ?_ ?_
 rotate_left
 ·show Act.put _ (some 43) _ = _
  simp only [Act.put, List.setIfInBounds_toArray, List.set_cons_zero, List.set_cons_succ, i64_w, i32_w]
  rfl
 refine last_ (i := 17) (N := none) #[true, true, true, true, true, true, true, true, true, true, true, true, true, true, true, true, true, true] rfl rfl (by kernel_rfl) (by decide) (fun K hK => ?_)
 rw [if_pos (by rfl)]
 refine wp_store_row 59 _ _ rfl (w.heap.size + 1) #[.int .u64 0, .int .i64 (dt off (dayGo y (m + dm) (d + dd) * 86400 + (h * 3600 + mi * 60 + s)) + 62135596800), .pointer l] rfl rfl 59 #[.int .u64 0, .int .i64 0, .pointer none] ((hHeld.2.block _ (Array.getElem?_eq_some_iff.1 hres).1).trans hres) timeSize rfl (by simp [Value.oneCell']) ?_
 refine hK.out _ _ ?_
 clear hK K
 refine done_ (by kernel_rfl) ?_
 go_wp2_with fail
 have hres6 := (hHeld.2.block _ (Array.getElem?_eq_some_iff.1 hres).1).trans hres
 refine bodyPost_ret (v := .agg #[.int .u64 0, .int .i64 (dt off (dayGo y (m + dm) (d + dd) * 86400 + (h * 3600 + mi * 60 + s)) + 62135596800), .pointer l]) ?_ rfl ⟨rfl, ?_⟩
 ·exact results_time rfl _ _ (w.heap.size + 1) _ rfl rfl (setRow_heap _ _ _ _ _ _ hres6)
 ·exact below_setRow (below_le HBO.out hHeld.2) (by omega) _
end Go.Proofs.Ytlopkdhblfibkaa.Cal
