/- Lemmas and walks on the way to the law, merged by wip/tools/pack.py: Time2, Date, Time3. Conditions: none. -/
import Derived.Test.YtbgbeohiafiacaaGrA
import Derived.Handy
import Derived.Test.YtbgbeohiafiacaaWWords
import Derived.Test.YtbgbeohiafiacaaWLast
import Derived.Deep.DeepCutAuto
import Derived.WalkMore
import Derived.Laws.CopyOwn
namespace Go.Proofs.Ytbgbeohiafiacaa.Cal
open Go Go.RowKit
set_option linter.unusedVariables false
set_option linter.unusedSimpArgs false

theorem addFirst_any (n e : Int) (l : Option Addr) (h0 : 0 ≤ n) (h1 : n < 1000000000) (he0 : -1000000 ≤ e) (he1 : e ≤ 900000000000) (w : World) :
    Calls Try.prog 123 #[tv n e l, .int .i64 (1000000000 - n)] w fun e' w' => e' = .returned (tv 0 (e + 1) l) ∧ Below w.heap.size w w' := by
  unfold tv
  have HN := Lib.hid (fun (g : Nat) w' hc => nsec_any g n w' h0 (by omega) hc)
  have HA := Lib.hid (fun (g : Nat) w' hc0 hc1 hf => addSec_any g 0 e 1 w' (by omega) (by omega) he0 (by omega) (by omega) (by omega) hc0 hc1 hf)
  have hno := andNot_low (x := n) h0 (by omega)
  have hor : bits .or .u64 0 0 = 0 := by decide
  have hand := and_hi (x := 0) (by omega) (by omega)
  by_cases hn : n = 0
  · subst hn
    go_enter Try.func123, Try.ntmps123
    go_wp2_with fail
    refine (HN.out _ _ (by simp [go_sem])).mono ?_
    rintro e' w' ⟨rfl, rfl⟩
    go_wp2_with fail
    refine (HA.out w.heap.size _ (by simp [go_sem]) (by simp [go_sem]) (by simp [go_sem])).mono ?_
    rintro e' w' ⟨rfl, rfl⟩
    go_wp2_with fail
    exact bodyPost_ret (v := .agg #[.int .u64 0, .int .i64 (e + 1), .pointer l]) (by simp [results, Try.results123, go_sem]) rfl ⟨rfl, by go_grown⟩
  · go_enter Try.func123, Try.ntmps123
    go_wp2_with fail
    refine (HN.out _ _ (by simp [go_sem])).mono ?_
    rintro e' w' ⟨rfl, rfl⟩
    have r1 : (1000000000 - n) / 1000000000 + 1 = 1 := by omega
    have r2 : n + (1000000000 - n) - 1000000000 = 0 := by omega
    have hq : (1000000000 - n).tdiv 1000000000 = 0 := by
      rw [Int.tdiv_eq_ediv_of_nonneg (by omega)]
      omega
    have hm : (1000000000 - n).tmod 1000000000 = 1000000000 - n := by
      rw [Int.tmod_eq_emod_of_nonneg (by omega)]
      omega
    have R1 := Lib.hid r1
    have R2 := Lib.hid r2
    clear r1 r2
    go_wp2_with fail
    simp only [R1.out, R2.out, hor]
    refine (HA.out w.heap.size _ (by simp [go_sem]) (by simp [go_sem]) (by simp [go_sem])).mono ?_
    rintro e' w' ⟨rfl, rfl⟩
    go_wp2_with fail
    exact bodyPost_ret (v := .agg #[.int .u64 0, .int .i64 (e + 1), .pointer l]) (by simp [results, Try.results123, go_sem]) rfl ⟨rfl, by go_grown⟩

theorem addWhole_any (k e : Int) (l : Option Addr) (he0 : -1000000 ≤ e) (he1 : e ≤ 900000000000) (hk0 : -1000000 ≤ k) (hk1 : k ≤ 1000000) (w : World) :
    Calls Try.prog 123 #[tv 0 e l, .int .i64 (1000000000 * k)] w fun e' w' => e' = .returned (tv 0 (e + k) l) ∧ Below w.heap.size w w' := by
  unfold tv
  have HN := Lib.hid (fun (g : Nat) w' hc => nsec_any g 0 w' (by omega) (by omega) hc)
  have HA := Lib.hid (fun (g : Nat) w' hc0 hc1 hf => addSec_any g 0 e k w' (by omega) (by omega) he0 (by omega) (by omega) (by omega) hc0 hc1 hf)
  have hno := andNot_low (x := 0) (by omega) (by omega)
  have hor : bits .or .u64 0 0 = 0 := by decide
  have hand := and_hi (x := 0) (by omega) (by omega)
  have hq : (1000000000 * k).tdiv 1000000000 = k := Int.mul_tdiv_cancel_left _ (by omega)
  have hm : (1000000000 * k).tmod 1000000000 = 0 := Int.mul_tmod_right _ _
  go_enter Try.func123, Try.ntmps123
  go_wp2_with fail
  refine (HN.out _ _ (by simp [go_sem])).mono ?_
  rintro e' w' ⟨rfl, rfl⟩
  go_wp2_with fail
  refine (HA.out w.heap.size _ (by simp [go_sem]) (by simp [go_sem]) (by simp [go_sem])).mono ?_
  rintro e' w' ⟨rfl, rfl⟩
  go_wp2_with fail
  exact bodyPost_ret (v := .agg #[.int .u64 0, .int .i64 (e + k), .pointer l]) (by simp [results, Try.results123, go_sem]) rfl ⟨rfl, by go_grown⟩

theorem locUtc_any (n e : Int) (w : World) :
    Calls Try.prog 126 #[tv n e none] w fun e' w' => ∃ g, e' = .returned (.pointer (some ⟨g, 0, none⟩)) ∧ UtcAt w' g ∧ Below w.heap.size w w' ∧ w.heap.size ≤ g := by
  unfold tv
  go_enter Try.func126, Try.ntmps126
  go_wp2_with fail
  refine (utc_any _).mono ?_
  rintro e' w' ⟨rfl, h0, h2, hb, hlt⟩
  go_wp2_with fail
  go_ret
  have hg : (w.alloc (.cells #[.int .u64 n, .int .i64 e, .pointer none] 74)).heap.size = w.heap.size + 1 := by simp
  rw [hg] at h0 h2 hlt
  exact ⟨_, rfl, ⟨h0, h2, hlt⟩, ((Below.refl _ _).alloc (Nat.le_refl _) _).trans (hb.mono (by simp)), by simp⟩

theorem getNil_any (w : World) :
    Calls Try.prog 150 #[.pointer none] w fun e' w' => ∃ g, e' = .returned (.pointer (some ⟨g, 0, none⟩)) ∧ UtcAt w' g ∧ Below w.heap.size w w' ∧ w.heap.size ≤ g := by
  go_enter Try.func150, Try.ntmps150
  go_wp2_with fail
  refine (utc_any _).mono ?_
  rintro e' w' ⟨rfl, h0, h2, hb, hlt⟩
  go_wp2_with fail
  go_ret
  exact ⟨_, rfl, ⟨h0, h2, hlt⟩, hb, Nat.le_refl _⟩

theorem getUtc_any (g : Nat) (w : World) :
    Calls Try.prog 150 #[.pointer (some ⟨g, 0, none⟩)] w fun e' w' => e' = .returned (.pointer (some ⟨g, 0, none⟩)) ∧ w = w' := by
  go_enter Try.func150, Try.ntmps150
  go_wp2_with fail
  go_ret
  exact ⟨rfl, rfl⟩

theorem inUtc_any (n e : Int) (l : Option Addr) (k : Nat) (w : World) (h0 : 0 ≤ n) (h1 : n < 1073741824) (hu : UtcAt w k) :
    Calls Try.prog 57 #[tv n e l, .pointer (some ⟨k, 0, none⟩)] w fun e' w' => e' = .returned (tv n e none) ∧ Below w.heap.size w w' := by
  unfold tv
  have hlt := hu.2.2
  have HS := Lib.hid (fun (g : Nat) w' hc0 hc2 hf2 hu' => setLocUtc_any g k n l w' h0 h1 hc0 hc2 hf2 hu')
  go_enter Try.func57, Try.ntmps57
  go_wp2_with fail
  refine (HS.out w.heap.size _ (by simp [go_sem]) (by simp [go_sem]) (by simp [go_sem]) (hu.below (((Below.refl _ _).alloc (Nat.le_refl _) _).alloc (by simp) _))).mono ?_
  rintro e' w' ⟨rfl, rfl⟩
  go_wp2_with fail
  exact bodyPost_ret (v := .agg #[.int .u64 n, .int .i64 e, .pointer none]) (by simp [results, Try.results57, go_sem]) rfl ⟨rfl, by go_grown⟩

/-- seconds of UTC's clocks that the program speaks of -/
def EOk (e : Int) : Prop := -86400 ≤ e ∧ e ≤ 400000000000

theorem absSecUtc_any (n e : Int) (h0 : 0 ≤ n) (h1 : n < 1073741824) (he : EOk e) (w : World) :
    Calls Try.prog 136 #[tv n e none] w fun e' w' => e' = .returned (.int .u64 (e + 9223371966606163200)) ∧ Below w.heap.size w w' := by
  unfold tv
  obtain ⟨he0, he1⟩ := he
  have HU := Lib.hid (fun (g : Nat) w' hc0 hc1 => unixSec_any g n e w' h0 h1 (by omega) (by omega) hc0 hc1)
  have hG := Lib.hid getNil_any
  have E : e - 62135596800 + 9223372028741760000 = e + 9223371966606163200 := by omega
  have HE := Lib.hid E
  clear E
  by_cases hbig : e ≤ 70248612607
  · skip
    go_enter Try.func136, Try.ntmps136
    go_wp2_with fail
    refine (hG.out _).mono ?_
    rintro e' w1 ⟨g, rfl, ⟨u0, u2, ult⟩, hb, hge⟩
    have hc0 : w1.cell? ⟨w.heap.size, 0, none⟩ = some (.int .u64 n) := (hb.cell (p := ⟨w.heap.size, 0, none⟩) (by simp)).trans (by simp [go_sem])
    have hc1 : w1.cell? ⟨w.heap.size, 1, none⟩ = some (.int .i64 e) := (hb.cell (p := ⟨w.heap.size, 1, none⟩) (by simp)).trans (by simp [go_sem])
    have HB := Lib.hid (((Below.refl w.heap.size w).alloc (Nat.le_refl _) _).trans (hb.mono (by simp)))
    clear hb hge
    go_wp2_with fail
    refine (HU.out _ _ hc0 hc1).mono ?_
    rintro e' w2 ⟨rfl, rfl⟩
    go_wp2_with fail
    go_ret
    refine ⟨?_, HB.out⟩
    rw [← HE.out]
    rfl
  · skip
    go_enter Try.func136, Try.ntmps136
    go_wp2_with fail
    refine (hG.out _).mono ?_
    rintro e' w1 ⟨g, rfl, ⟨u0, u2, ult⟩, hb, hge⟩
    have hc0 : w1.cell? ⟨w.heap.size, 0, none⟩ = some (.int .u64 n) := (hb.cell (p := ⟨w.heap.size, 0, none⟩) (by simp)).trans (by simp [go_sem])
    have hc1 : w1.cell? ⟨w.heap.size, 1, none⟩ = some (.int .i64 e) := (hb.cell (p := ⟨w.heap.size, 1, none⟩) (by simp)).trans (by simp [go_sem])
    have HB := Lib.hid (((Below.refl w.heap.size w).alloc (Nat.le_refl _) _).trans (hb.mono (by simp)))
    clear hb hge
    go_wp2_with fail
    refine (HU.out _ _ hc0 hc1).mono ?_
    rintro e' w2 ⟨rfl, rfl⟩
    have HE2 : Hid (IntKind.u64.wrap (wrap64 (e - 62135596800 + 9223372028741760000)) = e + 9223371966606163200) := Lib.hid (by
      unfold wrap64
      rw [IntKind.wrap_u64]
      omega)
    go_wp2_with fail
    go_ret
    refine ⟨?_, HB.out⟩
    rw [← HE2.out]
    rfl

/-- how the clocks of a place l, ahead of UTC by off seconds, are read -/
structure AbsSec (l : Option Addr) (off : Int) (Inv : World → Prop) : Prop where
  off0 : -90000 ≤ off
  off1 : off ≤ 90000
  keeps : ∀ {w w' : World}, Inv w → Below w.heap.size w w' → Inv w'
  calls : ∀ (n e : Int) (w : World), 0 ≤ n → n < 1073741824 → EOk e → Inv w →
    Calls Try.prog 136 #[tv n e l] w fun e' w' => e' = .returned (.int .u64 (e - 62135596800 + off + 9223372028741760000)) ∧ Below w.heap.size w w'

theorem absSec_utc : AbsSec none 0 (fun _ => True) :=
  ⟨by omega, by omega, fun _ _ => trivial, fun n e w h0 h1 he _ => (absSecUtc_any n e h0 h1 he w).mono fun e' w' ⟨h, hb⟩ => ⟨by rw [h, show e - 62135596800 + 0 + 9223372028741760000 = e + 9223371966606163200 by omega], hb⟩⟩

theorem l_days {e off : Int} (he : EOk e) (h0 : -90000 ≤ off) (h1 : off ≤ 90000) : (e - 62135596800 + off + 9223372028741760000) / 86400 = dayL (e - 62135596800 + off) + absK ∧ AOk (dayL (e - 62135596800 + off) + absK) ∧
    0 ≤ e - 62135596800 + off + 9223372028741760000 ∧ e - 62135596800 + off + 9223372028741760000 ≤ 18446744073709551615 := by
  obtain ⟨a, b⟩ := he
  unfold dayL absK AOk
  refine ⟨by omega, ⟨by omega, by omega⟩, by omega, by omega⟩

theorem tYear_any {l : Option Addr} {off : Int} {Inv : World → Prop} (H : AbsSec l off Inv) (n e : Int) (w : World) (h0 : 0 ≤ n) (h1 : n < 1073741824) (he : EOk e) (hI : Inv w) :
    Calls Try.prog 127 #[tv n e l] w fun e' w' => e' = .returned (.int .i64 (yearL (e - 62135596800 + off))) ∧ Below w.heap.size w w' := by
  obtain ⟨e1, e2, e3, e4⟩ := l_days he H.off0 H.off1
  have HA := Lib.hid (fun o => H.calls n e (w.alloc o) h0 h1 he (H.keeps hI ((Below.refl _ _).alloc (Nat.le_refl _) o)))
  have HD := Lib.hid (fun w' => absDays_any (e - 62135596800 + off + 9223372028741760000) e3 e4 w')
  rw [e1] at HD
  have HR : Hid (yearL (e - 62135596800 + off) = yearA (dayL (e - 62135596800 + off) + absK)) := Lib.hid (rfl)
  clear he hI H e1 e3 e4
  generalize e - 62135596800 + off = L at *
  generalize dayL L + absK = A at *
  have hb := parts_bd A
  have H1 := Lib.hid (fun w => split_any A (by have := e2.1; omega) e2.2 w)
  have H2 := Lib.hid (fun w => ydaySplit_any (aydA A) hb.2.2.1 hb.2.2.2.1 w)
  have H3 := Lib.hid (fun w => janFeb_any A w)
  have H4 := Lib.hid (fun w => year_any A e2 w)
  have H5 := Lib.hid (fun w => month_any A w)
  have H6 := Lib.hid (fun w => weekday_any A (by have := e2.1; omega) e2.2 w)
  clear hb
  rw [HR.out]
  unfold tv at *
  go_enter Try.func127, Try.ntmps127
  go_wp2_with fail
  refine (HA.out _).mono ?_
  rintro e' w1 ⟨rfl, hb1⟩
  have HB := Lib.hid (((Below.refl w.heap.size w).alloc (Nat.le_refl _) _).trans (hb1.mono (by simp)))
  clear hb1
  go_wp2_with fail
  refine (HD.out _).mono ?_
  rintro e' w2 ⟨rfl, rfl⟩
  go_wp2_with fail
  refine (H1.out _).mono ?_
  rintro e' w2 ⟨rfl, rfl⟩
  go_wp2_with fail
  refine (H3.out _).mono ?_
  rintro e' w2 ⟨rfl, rfl⟩
  go_wp2_with fail
  refine (H4.out _).mono ?_
  rintro e' w2 ⟨rfl, rfl⟩
  go_wp2_with fail
  go_ret
  exact ⟨rfl, HB.out⟩

theorem tMonth_any {l : Option Addr} {off : Int} {Inv : World → Prop} (H : AbsSec l off Inv) (n e : Int) (w : World) (h0 : 0 ≤ n) (h1 : n < 1073741824) (he : EOk e) (hI : Inv w) :
    Calls Try.prog 128 #[tv n e l] w fun e' w' => e' = .returned (.int .i64 (monthL (e - 62135596800 + off))) ∧ Below w.heap.size w w' := by
  obtain ⟨e1, e2, e3, e4⟩ := l_days he H.off0 H.off1
  have HA := Lib.hid (fun o => H.calls n e (w.alloc o) h0 h1 he (H.keeps hI ((Below.refl _ _).alloc (Nat.le_refl _) o)))
  have HD := Lib.hid (fun w' => absDays_any (e - 62135596800 + off + 9223372028741760000) e3 e4 w')
  rw [e1] at HD
  have HR : Hid (monthL (e - 62135596800 + off) = monthA (dayL (e - 62135596800 + off) + absK)) := Lib.hid (rfl)
  clear he hI H e1 e3 e4
  generalize e - 62135596800 + off = L at *
  generalize dayL L + absK = A at *
  have hb := parts_bd A
  have H1 := Lib.hid (fun w => split_any A (by have := e2.1; omega) e2.2 w)
  have H2 := Lib.hid (fun w => ydaySplit_any (aydA A) hb.2.2.1 hb.2.2.2.1 w)
  have H3 := Lib.hid (fun w => janFeb_any A w)
  have H4 := Lib.hid (fun w => year_any A e2 w)
  have H5 := Lib.hid (fun w => month_any A w)
  have H6 := Lib.hid (fun w => weekday_any A (by have := e2.1; omega) e2.2 w)
  clear hb
  rw [HR.out]
  unfold tv at *
  go_enter Try.func128, Try.ntmps128
  go_wp2_with fail
  refine (HA.out _).mono ?_
  rintro e' w1 ⟨rfl, hb1⟩
  have HB := Lib.hid (((Below.refl w.heap.size w).alloc (Nat.le_refl _) _).trans (hb1.mono (by simp)))
  clear hb1
  go_wp2_with fail
  refine (HD.out _).mono ?_
  rintro e' w2 ⟨rfl, rfl⟩
  go_wp2_with fail
  refine (H1.out _).mono ?_
  rintro e' w2 ⟨rfl, rfl⟩
  go_wp2_with fail
  refine (H2.out _).mono ?_
  rintro e' w2 ⟨rfl, rfl⟩
  go_wp2_with fail
  refine (H3.out _).mono ?_
  rintro e' w2 ⟨rfl, rfl⟩
  go_wp2_with fail
  refine (H5.out _).mono ?_
  rintro e' w2 ⟨rfl, rfl⟩
  go_wp2_with fail
  go_ret
  exact ⟨rfl, HB.out⟩

theorem tDay_any {l : Option Addr} {off : Int} {Inv : World → Prop} (H : AbsSec l off Inv) (n e : Int) (w : World) (h0 : 0 ≤ n) (h1 : n < 1073741824) (he : EOk e) (hI : Inv w) :
    Calls Try.prog 119 #[tv n e l] w fun e' w' => e' = .returned (.int .i64 (mdayL (e - 62135596800 + off))) ∧ Below w.heap.size w w' := by
  obtain ⟨e1, e2, e3, e4⟩ := l_days he H.off0 H.off1
  have HA := Lib.hid (fun o => H.calls n e (w.alloc o) h0 h1 he (H.keeps hI ((Below.refl _ _).alloc (Nat.le_refl _) o)))
  have HD := Lib.hid (fun w' => absDays_any (e - 62135596800 + off + 9223372028741760000) e3 e4 w')
  rw [e1] at HD
  have HR : Hid (mdayL (e - 62135596800 + off) = 1 + (5 * aydA (dayL (e - 62135596800 + off) + absK) + 461) % 153 / 5) := Lib.hid (rfl)
  clear he hI H e1 e3 e4
  generalize e - 62135596800 + off = L at *
  generalize dayL L + absK = A at *
  have hb := parts_bd A
  have H1 := Lib.hid (fun w => split_any A (by have := e2.1; omega) e2.2 w)
  have H2 := Lib.hid (fun w => ydaySplit_any (aydA A) hb.2.2.1 hb.2.2.2.1 w)
  have H3 := Lib.hid (fun w => janFeb_any A w)
  have H4 := Lib.hid (fun w => year_any A e2 w)
  have H5 := Lib.hid (fun w => month_any A w)
  have H6 := Lib.hid (fun w => weekday_any A (by have := e2.1; omega) e2.2 w)
  clear hb
  rw [HR.out]
  unfold tv at *
  go_enter Try.func119, Try.ntmps119
  go_wp2_with fail
  refine (HA.out _).mono ?_
  rintro e' w1 ⟨rfl, hb1⟩
  have HB := Lib.hid (((Below.refl w.heap.size w).alloc (Nat.le_refl _) _).trans (hb1.mono (by simp)))
  clear hb1
  go_wp2_with fail
  refine (HD.out _).mono ?_
  rintro e' w2 ⟨rfl, rfl⟩
  go_wp2_with fail
  refine (H1.out _).mono ?_
  rintro e' w2 ⟨rfl, rfl⟩
  go_wp2_with fail
  refine (H2.out _).mono ?_
  rintro e' w2 ⟨rfl, rfl⟩
  go_wp2_with fail
  go_ret
  exact ⟨rfl, HB.out⟩

theorem tWeekday_any {l : Option Addr} {off : Int} {Inv : World → Prop} (H : AbsSec l off Inv) (n e : Int) (w : World) (h0 : 0 ≤ n) (h1 : n < 1073741824) (he : EOk e) (hI : Inv w) :
    Calls Try.prog 148 #[tv n e l] w fun e' w' => e' = .returned (.int .i64 (wdL (e - 62135596800 + off))) ∧ Below w.heap.size w w' := by
  obtain ⟨e1, e2, e3, e4⟩ := l_days he H.off0 H.off1
  have HA := Lib.hid (fun o => H.calls n e (w.alloc o) h0 h1 he (H.keeps hI ((Below.refl _ _).alloc (Nat.le_refl _) o)))
  have HD := Lib.hid (fun w' => absDays_any (e - 62135596800 + off + 9223372028741760000) e3 e4 w')
  rw [e1] at HD
  have HR : Hid (wdL (e - 62135596800 + off) = (dayL (e - 62135596800 + off) + absK + 3) % 7) := Lib.hid (by unfold wdL; rw [week_is]; congr 1; omega)
  clear he hI H e1 e3 e4
  generalize e - 62135596800 + off = L at *
  generalize dayL L + absK = A at *
  have hb := parts_bd A
  have H1 := Lib.hid (fun w => split_any A (by have := e2.1; omega) e2.2 w)
  have H2 := Lib.hid (fun w => ydaySplit_any (aydA A) hb.2.2.1 hb.2.2.2.1 w)
  have H3 := Lib.hid (fun w => janFeb_any A w)
  have H4 := Lib.hid (fun w => year_any A e2 w)
  have H5 := Lib.hid (fun w => month_any A w)
  have H6 := Lib.hid (fun w => weekday_any A (by have := e2.1; omega) e2.2 w)
  clear hb
  rw [HR.out]
  unfold tv at *
  go_enter Try.func148, Try.ntmps148
  go_wp2_with fail
  refine (HA.out _).mono ?_
  rintro e' w1 ⟨rfl, hb1⟩
  have HB := Lib.hid (((Below.refl w.heap.size w).alloc (Nat.le_refl _) _).trans (hb1.mono (by simp)))
  clear hb1
  go_wp2_with fail
  refine (HD.out _).mono ?_
  rintro e' w2 ⟨rfl, rfl⟩
  go_wp2_with fail
  refine (H6.out _).mono ?_
  rintro e' w2 ⟨rfl, rfl⟩
  go_wp2_with fail
  go_ret
  exact ⟨rfl, HB.out⟩

theorem tHour_any {l : Option Addr} {off : Int} {Inv : World → Prop} (H : AbsSec l off Inv) (n e : Int) (w : World) (h0 : 0 ≤ n) (h1 : n < 1073741824) (he : EOk e) (hI : Inv w) :
    Calls Try.prog 132 #[tv n e l] w fun e' w' => e' = .returned (.int .i64 (hourL (e - 62135596800 + off))) ∧ Below w.heap.size w w' := by
  obtain ⟨-, -, e3, e4⟩ := l_days he H.off0 H.off1
  have HA := Lib.hid (fun o => H.calls n e (w.alloc o) h0 h1 he (H.keeps hI ((Below.refl _ _).alloc (Nat.le_refl _) o)))
  have HR : Hid (hourL (e - 62135596800 + off) = (e - 62135596800 + off + 9223372028741760000) % 86400 / 3600) := Lib.hid (by unfold hourL; omega)
  clear he hI H
  generalize e - 62135596800 + off = L at *
  rw [HR.out]
  unfold tv at *
  go_enter Try.func132, Try.ntmps132
  go_wp2_with fail
  refine (HA.out _).mono ?_
  rintro e' w1 ⟨rfl, hb1⟩
  have HB := Lib.hid (((Below.refl w.heap.size w).alloc (Nat.le_refl _) _).trans (hb1.mono (by simp)))
  clear hb1
  go_wp2_with fail
  go_ret
  exact ⟨rfl, HB.out⟩

theorem tMinute_any {l : Option Addr} {off : Int} {Inv : World → Prop} (H : AbsSec l off Inv) (n e : Int) (w : World) (h0 : 0 ≤ n) (h1 : n < 1073741824) (he : EOk e) (hI : Inv w) :
    Calls Try.prog 133 #[tv n e l] w fun e' w' => e' = .returned (.int .i64 (minL (e - 62135596800 + off))) ∧ Below w.heap.size w w' := by
  obtain ⟨-, -, e3, e4⟩ := l_days he H.off0 H.off1
  have HA := Lib.hid (fun o => H.calls n e (w.alloc o) h0 h1 he (H.keeps hI ((Below.refl _ _).alloc (Nat.le_refl _) o)))
  have HR : Hid (minL (e - 62135596800 + off) = (e - 62135596800 + off + 9223372028741760000) % 3600 / 60) := Lib.hid (by unfold minL; omega)
  clear he hI H
  generalize e - 62135596800 + off = L at *
  rw [HR.out]
  unfold tv at *
  go_enter Try.func133, Try.ntmps133
  go_wp2_with fail
  refine (HA.out _).mono ?_
  rintro e' w1 ⟨rfl, hb1⟩
  have HB := Lib.hid (((Below.refl w.heap.size w).alloc (Nat.le_refl _) _).trans (hb1.mono (by simp)))
  clear hb1
  go_wp2_with fail
  go_ret
  exact ⟨rfl, HB.out⟩

theorem tSecond_any {l : Option Addr} {off : Int} {Inv : World → Prop} (H : AbsSec l off Inv) (n e : Int) (w : World) (h0 : 0 ≤ n) (h1 : n < 1073741824) (he : EOk e) (hI : Inv w) :
    Calls Try.prog 135 #[tv n e l] w fun e' w' => e' = .returned (.int .i64 (secL (e - 62135596800 + off))) ∧ Below w.heap.size w w' := by
  obtain ⟨-, -, e3, e4⟩ := l_days he H.off0 H.off1
  have HA := Lib.hid (fun o => H.calls n e (w.alloc o) h0 h1 he (H.keeps hI ((Below.refl _ _).alloc (Nat.le_refl _) o)))
  have HR : Hid (secL (e - 62135596800 + off) = (e - 62135596800 + off + 9223372028741760000) % 60) := Lib.hid (by unfold secL; omega)
  clear he hI H
  generalize e - 62135596800 + off = L at *
  rw [HR.out]
  unfold tv at *
  go_enter Try.func135, Try.ntmps135
  go_wp2_with fail
  refine (HA.out _).mono ?_
  rintro e' w1 ⟨rfl, hb1⟩
  have HB := Lib.hid (((Below.refl w.heap.size w).alloc (Nat.le_refl _) _).trans (hb1.mono (by simp)))
  clear hb1
  go_wp2_with fail
  go_ret
  exact ⟨rfl, HB.out⟩

end Go.Proofs.Ytbgbeohiafiacaa.Cal

namespace Go.Proofs.Ytbgbeohiafiacaa.Cal
open Go Go.RowKit
set_option linter.unusedVariables false
set_option linter.unusedSimpArgs false

theorem norm_in (hi lo base : Int) (h0 : 0 ≤ lo) (h1 : lo < base) (w : World) :
    Calls Try.prog 143 #[.int .i64 hi, .int .i64 lo, .int .i64 base] w fun e w' => e = .returned (.tuple #[.int .i64 hi, .int .i64 lo]) ∧ w = w' := by
  have h2 : ¬ base ≤ lo := by omega
  go_enter Try.func143, Try.ntmps143
  go_wp2
  go_ret2
  exact ⟨rfl, rfl⟩

theorem norm_12 (hi : Int) (h0 : -1000000 ≤ hi) (h1 : hi ≤ 1000000) (w : World) :
    Calls Try.prog 143 #[.int .i64 hi, .int .i64 12, .int .i64 12] w fun e w' => e = .returned (.tuple #[.int .i64 (hi + 1), .int .i64 0]) ∧ w = w' := by
  go_enter Try.func143, Try.ntmps143
  go_wp2
  go_ret2
  exact ⟨rfl, rfl⟩

theorem dateToAbs_any (y m d : Int) (y0 : 0 ≤ y) (y1 : y ≤ 20000) (m0 : 1 ≤ m) (m1 : m ≤ 12) (d0 : 1 ≤ d) (d1 : d ≤ 40) (hy : m < 3 → 1 ≤ y) (w : World) :
    Calls Try.prog 144 #[.int .i64 y, .int .i64 m, .int .i64 d] w fun e w' => e = .returned (.int .u64 (dayOf y m d + absK)) ∧ w = w' := by
  have ha := absDay_is y m d m0 m1
  have HA := Lib.hid ha
  have HU : Hid (absDay y m d = 146097 * ((y - (if m < 3 then 1 else 0) + 292277022400) / 100) / 4 + (1461 * ((y - (if m < 3 then 1 else 0) + 292277022400) % 100) / 4 + (979 * (m + 12 * (if m < 3 then 1 else 0)) - 2919) / 32 + d - 1)) := Lib.hid rfl
  clear ha
  by_cases h : m < 3
  · have HV : Hid (dayOf y m d + absK = 146097 * ((y - 1 + 292277022400) / 100) / 4 + (1461 * ((y - 1 + 292277022400) % 100) / 4 + (979 * (m + 12) - 2919) / 32 + d - 1)) := Lib.hid (by rw [← HA.out, HU.out, if_pos h]; omega)
    clear HA HU
    rw [HV.out]
    have hy1 := hy h
    have s1 : 0 ≤ 1461 * ((y - 1 + 292277022400) % 100) / 4 + (979 * (m + 12) - 2919) / 32 + d - 1 := by omega
    have s2 : 1461 * ((y - 1 + 292277022400) % 100) / 4 + (979 * (m + 12) - 2919) / 32 + d - 1 ≤ 100000 := by omega
    clear hy
    go_enter Try.func144, Try.ntmps144
    go_wp2
    go_ret
    exact ⟨rfl, rfl⟩
  · have HV : Hid (dayOf y m d + absK = 146097 * ((y + 292277022400) / 100) / 4 + (1461 * ((y + 292277022400) % 100) / 4 + (979 * m - 2919) / 32 + d - 1)) := Lib.hid (by rw [← HA.out, HU.out, if_neg h]; simp)
    clear HA HU
    rw [HV.out]
    have s1 : 0 ≤ 1461 * ((y + 292277022400) % 100) / 4 + (979 * m - 2919) / 32 + d - 1 := by omega
    have s2 : 1461 * ((y + 292277022400) % 100) / 4 + (979 * m - 2919) / 32 + d - 1 ≤ 100000 := by omega
    clear hy
    go_enter Try.func144, Try.ntmps144
    go_wp2
    go_ret
    exact ⟨rfl, rfl⟩

set_option maxRecDepth 100000 in
theorem lookupUtc_any (k : Nat) (u : Int) (w : World) (hu : UtcAt w k) :
    Calls Try.prog 145 #[.pointer (some ⟨k, 0, none⟩), .int .i64 u] w fun e w' => e = .returned (.tuple #[.string ⟨#[85, 84, 67]⟩, .int .i64 0, .int .i64 (-9223372036854775808), .int .i64 9223372036854775807, .bool false]) ∧ w = w' := by
  obtain ⟨-, u2, -⟩ := hu
  have HG := Lib.hid (fun w' => getUtc_any k w')
  go_enter Try.func145, Try.ntmps145
  go_wp2_with fail
  refine (HG.out _).mono ?_
  rintro e w1 ⟨rfl, rfl⟩
  go_wp2_with fail
  go_returns
  exact ⟨rfl, rfl⟩

theorem timeSize : (Try.prog.info? 74).map (·.size) = some 3 := by kernel_rfl

theorem results_time {fn : Func} {p : Tmp} (h : fn.results = #[.cell p 74]) (tmps : Array Value) (w : World) (g : Nat) (cs : Array Value) (h3 : cs.size = 3)
    (hp : tmps.getD p undef = .pointer (some ⟨g, 0, none⟩)) (hs : w.heap[g]? = some (.cells cs 74 (0, 0))) :
    (results fn tmps).run Try.prog w = .ok (.agg cs) w := by
  have hp' : tmps[p]?.getD undef = .pointer (some ⟨g, 0, none⟩) := by simpa using hp
  simp only [results, h]
  simp [asAddr, hp', run_loadVar_row w g _ _ _ _ _ hs Try.underlying74 rfl (by rw [timeSize, h3])]

theorem row3_set {w : World} {g : Nat} {a b c x y z : Value} {T : TypeId} (h : w.heap[g]? = some (.cells #[a, b, c] T (0, 0))) :
    (((w.setCell ⟨g, 0, none⟩ x).setCell ⟨g, 1, none⟩ y).setCell ⟨g, 2, none⟩ z).heap[g]? = some (.cells #[x, y, z] T (0, 0)) := by
  have h1 := heap_setCell_same w g 0 _ _ x h
  have h2 := heap_setCell_same _ g 1 _ _ y h1
  have h3 := heap_setCell_same _ g 2 _ _ z h2
  exact h3

/-- the day of a date whose month may be the thirteenth -/
def dayGo (y m d : Int) : Int := if m = 13 then dayOf (y + 1) 1 d else dayOf y m d

theorem wrap_days (D s : Int) (h0 : -719600 ≤ D) (h1 : D ≤ 4000000) (s0 : 0 ≤ s) (s1 : s ≤ 86399) :
    wrap64 (wrap64 (wrap64 (wrap64 (D + absK) * 86400) + s) + -9223372028741760000) = D * 86400 + s := by
  unfold wrap64 absK
  omega

set_option maxRecDepth 100000 in
set_option maxHeartbeats 1000000 in
theorem dateUtc_any (k : Nat) (y m d h mi s ns : Int) (w : World) (y0 : 0 ≤ y) (y1 : y ≤ 10100) (m0 : 1 ≤ m) (m1 : m ≤ 13) (d0 : 1 ≤ d) (d1 : d ≤ 40) (hy : m < 3 → 1 ≤ y)
    (h0 : 0 ≤ h) (h1 : h < 24) (mi0 : 0 ≤ mi) (mi1 : mi < 60) (s0 : 0 ≤ s) (s1 : s < 60) (n0 : 0 ≤ ns) (n1 : ns < 1000000000) (hu : UtcAt w k) :
    Calls Try.prog 129 #[.int .i64 y, .int .i64 m, .int .i64 d, .int .i64 h, .int .i64 mi, .int .i64 s, .int .i64 ns, .pointer (some ⟨k, 0, none⟩)] w
      fun e w' => e = .returned (tv ns (dayGo y m d * 86400 + (h * 3600 + mi * 60 + s) + 62135596800) none) ∧ Below w.heap.size w w' := by
  have hdd : Hid (∀ y m : Int, 0 ≤ y → y ≤ 10101 → 1 ≤ m → m ≤ 12 → -719600 ≤ dayOf y m d ∧ dayOf y m d ≤ 4000000) := Lib.hid (by
    intro y m a1 a2 a3 a4
    have c1 := cum_nonneg (y := y) a3 (by omega)
    have c2 := cum_lt (y := y) (m := m) (m' := 13) a3 (by omega) (by omega)
    have c3 := cum_last y
    have c4 := lp_01 y
    have c5 := mdays_bd y m
    unfold dayOf ystart
    omega)
  have HN := Lib.hid (fun hi lo base a b w => norm_in hi lo base a b w)
  have HS := Lib.hid (fun (g : Nat) w' hc0 hc2 hf2 hu' => setLocUtc_any g k ns none w' n0 (by omega) hc0 hc2 hf2 hu')
  by_cases h13 : m = 13
  · subst h13
    have H12 := Lib.hid (fun w => norm_12 y (by omega) (by omega) w)
    have HD := Lib.hid (fun w => dateToAbs_any (y + 1) 1 d (by omega) (by omega) (by omega) (by omega) d0 d1 (by omega) w)
    have hb := hdd.out (y + 1) 1 (by omega) (by omega) (by omega) (by omega)
    have HG : Hid (dayGo y 13 d = dayOf (y + 1) 1 d) := Lib.hid (by unfold dayGo; rw [if_pos rfl])
    rw [HG.out]
    generalize dayOf (y + 1) 1 d = D at *
    clear hdd hy HG
    go_enter Try.func129, Try.ntmps129
    go_wp2_with fail
    refine (H12.out _).mono ?_
    rintro e1 w1 ⟨rfl, rfl⟩
    go_wp2_with fail
    refine (HN.out s ns 1000000000 n0 n1 _).mono ?_
    rintro e1 w1 ⟨rfl, rfl⟩
    go_wp2_with fail
    refine (HN.out mi s 60 s0 s1 _).mono ?_
    rintro e1 w1 ⟨rfl, rfl⟩
    go_wp2_with fail
    refine (HN.out h mi 60 mi0 mi1 _).mono ?_
    rintro e1 w1 ⟨rfl, rfl⟩
    go_wp2_with fail
    refine (HN.out d h 24 h0 h1 _).mono ?_
    rintro e1 w1 ⟨rfl, rfl⟩
    go_wp2_with fail
    refine (HD.out _).mono ?_
    rintro e1 w1 ⟨rfl, rfl⟩
    have HW : Hid (wrap64 (wrap64 (wrap64 (wrap64 (D + absK) * 86400) + (h * 3600 + mi * 60 + s)) + -9223372028741760000) = D * 86400 + (h * 3600 + mi * 60 + s)) := Lib.hid (wrap_days D _ hb.1 hb.2 (by omega) (by omega))
    have u0 : -1000000000000 ≤ D * 86400 + (h * 3600 + mi * 60 + s) := by omega
    have u1 : D * 86400 + (h * 3600 + mi * 60 + s) ≤ 1000000000000 := by omega
    go_wp2_with fail
    rw [HW.out]
    clear HW
    generalize hue : D * 86400 + (h * 3600 + mi * 60 + s) = u at *
    have HUE := Lib.hid hue
    clear hue
    have HU := Lib.hid (unixTime_any u ns n0 n1 u0 u1)
    have HL := Lib.hid (fun w' hu' => lookupUtc_any k u w' hu')
    refine (HL.out _ (hu.below ((Below.refl _ _).alloc (Nat.le_refl _) _))).mono ?_
    rintro e1 w1 ⟨rfl, rfl⟩
    go_wp2_with fail
    refine (HU.out _).mono ?_
    rintro e1 w1 ⟨rfl, hb1⟩
    have HB1 := Lib.hid (((Below.refl w.heap.size w).alloc (Nat.le_refl _) _).trans (hb1.mono (by simp)))
    have hc16 : w1.cell? ⟨w.heap.size, 0, none⟩ = some (.int .u64 0) := (hb1.cell (p := ⟨w.heap.size, 0, none⟩) (by simp)).trans (by simp [go_sem])
    have hc17 : w1.cell? ⟨w.heap.size, 1, none⟩ = some (.int .i64 0) := (hb1.cell (p := ⟨w.heap.size, 1, none⟩) (by simp)).trans (by simp [go_sem])
    have hc18 : w1.cell? ⟨w.heap.size, 2, none⟩ = some (.pointer none) := (hb1.cell (p := ⟨w.heap.size, 2, none⟩) (by simp)).trans (by simp [go_sem])
    have hf16 : w1.frozen? ⟨w.heap.size, 0, none⟩ = false := (hb1.frozen (p := ⟨w.heap.size, 0, none⟩) (by simp)).trans (by simp [go_sem])
    have hf17 : w1.frozen? ⟨w.heap.size, 1, none⟩ = false := (hb1.frozen (p := ⟨w.heap.size, 1, none⟩) (by simp)).trans (by simp [go_sem])
    have hf18 : w1.frozen? ⟨w.heap.size, 2, none⟩ = false := (hb1.frozen (p := ⟨w.heap.size, 2, none⟩) (by simp)).trans (by simp [go_sem])
    have hrow := (hb1.block w.heap.size (by simp)).trans (heap_alloc_new w (.cells #[.int .u64 0, .int .i64 0, .pointer none] 74))
    have HROW := Lib.hid (((Below.refl _ _).alloc (Nat.le_refl _) (.cells #[.int .u64 ns, .int .i64 (u + 62135596800), .pointer none] 74) |>.block w.heap.size (by simpa using (Array.getElem?_eq_some_iff.1 hrow).1)).trans (row3_set (x := .int .u64 ns) (y := .int .i64 (u + 62135596800)) (z := .pointer none) hrow))
    clear hrow
    have hsz1 : w.heap.size < w1.heap.size := by have := hb1.size; simp at this; omega
    have hu1 := Lib.hid (hu.below HB1.out)
    clear hb1
    unfold tv at *
    go_wp2_with fail
    refine (HS.out w1.heap.size _ (by simp [go_sem]) (by simp [go_sem]) (by simp [go_sem]) (hu1.out.below (by go_grown))).mono ?_
    rintro e1 w2 ⟨rfl, rfl⟩
    go_wp2_with fail
    refine bodyPost_ret (v := .agg #[.int .u64 ns, .int .i64 (u + 62135596800), .pointer none]) (results_time rfl _ _ w.heap.size _ rfl rfl HROW.out) rfl ⟨by rw [HUE.out]; rfl, ?_⟩
    have hz := HB1.out.size
    exact (((HB1.out.setCell (p := ⟨w.heap.size, 0, none⟩) (Nat.le_refl _) _).setCell (p := ⟨w.heap.size, 1, none⟩) (Nat.le_refl _) _).setCell (p := ⟨w.heap.size, 2, none⟩) (Nat.le_refl _) _).alloc (by simpa using hz) _
  · have m12 : m ≤ 12 := by omega
    have HD := Lib.hid (fun w => dateToAbs_any y m d (by omega) (by omega) (by omega) (by omega) d0 d1 hy w)
    have hb := hdd.out y m (by omega) (by omega) (by omega) (by omega)
    have HG : Hid (dayGo y m d = dayOf y m d) := Lib.hid (by unfold dayGo; rw [if_neg h13])
    have HM : Hid (m - 1 + 1 = m) := Lib.hid (by omega)
    rw [HG.out]
    generalize dayOf y m d = D at *
    clear hdd hy HG h13
    go_enter Try.func129, Try.ntmps129
    go_wp2_with fail
    refine (HN.out y (m - 1) 12 (by omega) (by omega) _).mono ?_
    rintro e1 w1 ⟨rfl, rfl⟩
    go_wp2_with fail
    refine (HN.out s ns 1000000000 n0 n1 _).mono ?_
    rintro e1 w1 ⟨rfl, rfl⟩
    go_wp2_with fail
    refine (HN.out mi s 60 s0 s1 _).mono ?_
    rintro e1 w1 ⟨rfl, rfl⟩
    go_wp2_with fail
    refine (HN.out h mi 60 mi0 mi1 _).mono ?_
    rintro e1 w1 ⟨rfl, rfl⟩
    go_wp2_with fail
    refine (HN.out d h 24 h0 h1 _).mono ?_
    rintro e1 w1 ⟨rfl, rfl⟩
    go_wp2_with fail
    refine (HD.out _).mono ?_
    rintro e1 w1 ⟨rfl, rfl⟩
    have HW : Hid (wrap64 (wrap64 (wrap64 (wrap64 (D + absK) * 86400) + (h * 3600 + mi * 60 + s)) + -9223372028741760000) = D * 86400 + (h * 3600 + mi * 60 + s)) := Lib.hid (wrap_days D _ hb.1 hb.2 (by omega) (by omega))
    have u0 : -1000000000000 ≤ D * 86400 + (h * 3600 + mi * 60 + s) := by omega
    have u1 : D * 86400 + (h * 3600 + mi * 60 + s) ≤ 1000000000000 := by omega
    go_wp2_with fail
    rw [HW.out]
    clear HW
    generalize hue : D * 86400 + (h * 3600 + mi * 60 + s) = u at *
    have HUE := Lib.hid hue
    clear hue
    have HU := Lib.hid (unixTime_any u ns n0 n1 u0 u1)
    have HL := Lib.hid (fun w' hu' => lookupUtc_any k u w' hu')
    refine (HL.out _ (hu.below ((Below.refl _ _).alloc (Nat.le_refl _) _))).mono ?_
    rintro e1 w1 ⟨rfl, rfl⟩
    go_wp2_with fail
    refine (HU.out _).mono ?_
    rintro e1 w1 ⟨rfl, hb1⟩
    have HB1 := Lib.hid (((Below.refl w.heap.size w).alloc (Nat.le_refl _) _).trans (hb1.mono (by simp)))
    have hc16 : w1.cell? ⟨w.heap.size, 0, none⟩ = some (.int .u64 0) := (hb1.cell (p := ⟨w.heap.size, 0, none⟩) (by simp)).trans (by simp [go_sem])
    have hc17 : w1.cell? ⟨w.heap.size, 1, none⟩ = some (.int .i64 0) := (hb1.cell (p := ⟨w.heap.size, 1, none⟩) (by simp)).trans (by simp [go_sem])
    have hc18 : w1.cell? ⟨w.heap.size, 2, none⟩ = some (.pointer none) := (hb1.cell (p := ⟨w.heap.size, 2, none⟩) (by simp)).trans (by simp [go_sem])
    have hf16 : w1.frozen? ⟨w.heap.size, 0, none⟩ = false := (hb1.frozen (p := ⟨w.heap.size, 0, none⟩) (by simp)).trans (by simp [go_sem])
    have hf17 : w1.frozen? ⟨w.heap.size, 1, none⟩ = false := (hb1.frozen (p := ⟨w.heap.size, 1, none⟩) (by simp)).trans (by simp [go_sem])
    have hf18 : w1.frozen? ⟨w.heap.size, 2, none⟩ = false := (hb1.frozen (p := ⟨w.heap.size, 2, none⟩) (by simp)).trans (by simp [go_sem])
    have hrow := (hb1.block w.heap.size (by simp)).trans (heap_alloc_new w (.cells #[.int .u64 0, .int .i64 0, .pointer none] 74))
    have HROW := Lib.hid (((Below.refl _ _).alloc (Nat.le_refl _) (.cells #[.int .u64 ns, .int .i64 (u + 62135596800), .pointer none] 74) |>.block w.heap.size (by simpa using (Array.getElem?_eq_some_iff.1 hrow).1)).trans (row3_set (x := .int .u64 ns) (y := .int .i64 (u + 62135596800)) (z := .pointer none) hrow))
    clear hrow
    have hsz1 : w.heap.size < w1.heap.size := by have := hb1.size; simp at this; omega
    have hu1 := Lib.hid (hu.below HB1.out)
    clear hb1
    unfold tv at *
    go_wp2_with fail
    refine (HS.out w1.heap.size _ (by simp [go_sem]) (by simp [go_sem]) (by simp [go_sem]) (hu1.out.below (by go_grown))).mono ?_
    rintro e1 w2 ⟨rfl, rfl⟩
    go_wp2_with fail
    refine bodyPost_ret (v := .agg #[.int .u64 ns, .int .i64 (u + 62135596800), .pointer none]) (results_time rfl _ _ w.heap.size _ rfl rfl HROW.out) rfl ⟨by rw [HUE.out]; rfl, ?_⟩
    have hz := HB1.out.size
    exact (((HB1.out.setCell (p := ⟨w.heap.size, 0, none⟩) (Nat.le_refl _) _).setCell (p := ⟨w.heap.size, 1, none⟩) (Nat.le_refl _) _).setCell (p := ⟨w.heap.size, 2, none⟩) (Nat.le_refl _) _).alloc (by simpa using hz) _
end Go.Proofs.Ytbgbeohiafiacaa.Cal

namespace Go.Proofs.Ytbgbeohiafiacaa.Cal
open Go Go.RowKit Go.Proofs.YtbgbeohiafiacaaW.PrintWords Go.Proofs.YtbgbeohiafiacaaW.PrintLast
set_option linter.unusedVariables false
set_option linter.unusedSimpArgs false

theorem below_le {W w1 w2 : World} (h1 : Below W.heap.size W w1) (h2 : Below w1.heap.size w1 w2) : Below W.heap.size W w2 := h1.trans (h2.mono h1.size)

/-- the clocks of a place l, off seconds ahead of UTC; Loc: a pointer to this place -/
structure Clock (l : Option Addr) (off : Int) (Inv : World → Prop) (Loc : World → Nat → Prop) : Prop where
  abs : AbsSec l off Inv
  locK : ∀ {w w' : World} {k : Nat}, Loc w k → Below w.heap.size w w' → Loc w' k
  loc : ∀ (n e : Int) (w : World), Inv w → Calls Try.prog 126 #[tv n e l] w fun e' w' => ∃ g, e' = .returned (.pointer (some ⟨g, 0, none⟩)) ∧ Loc w' g ∧ Below w.heap.size w w'
  date : ∀ (k : Nat) (y m d h mi s : Int) (w : World), 0 ≤ y → y ≤ 10100 → 1 ≤ m → m ≤ 13 → 1 ≤ d → d ≤ 40 → (m < 3 → 1 ≤ y) → 0 ≤ h → h < 24 → 0 ≤ mi → mi < 60 → 0 ≤ s → s < 60 → Loc w k →
    Calls Try.prog 129 #[.int .i64 y, .int .i64 m, .int .i64 d, .int .i64 h, .int .i64 mi, .int .i64 s, .int .i64 0, .pointer (some ⟨k, 0, none⟩)] w
      fun e w' => e = .returned (tv 0 (dayGo y m d * 86400 + (h * 3600 + mi * 60 + s) + 62135596800 - off) l) ∧ Below w.heap.size w w'
  inn : ∀ (n e : Int) (l' : Option Addr) (k : Nat) (w : World), 0 ≤ n → n < 1073741824 → Loc w k → Calls Try.prog 57 #[tv n e l', .pointer (some ⟨k, 0, none⟩)] w fun e' w' => e' = .returned (tv n e l) ∧ Below w.heap.size w w'

theorem clock_utc : Clock none 0 (fun _ => True) UtcAt where
  abs := absSec_utc
  locK := fun h hb => h.below hb
  loc := fun n e w _ => (locUtc_any n e w).mono fun _ _ ⟨g, h1, h2, h3, _⟩ => ⟨g, h1, h2, h3⟩
  date := fun k y m d h mi s w a1 a2 a3 a4 a5 a6 a7 a8 a9 b1 b2 b3 b4 hu => (dateUtc_any k y m d h mi s 0 w a1 a2 a3 a4 a5 a6 a7 a8 a9 b1 b2 b3 b4 (by omega) (by omega) hu).mono fun _ _ ⟨h1, h2⟩ => ⟨by rw [h1, Int.sub_zero], h2⟩
  inn := fun n e l' k w h0 h1 hu => inUtc_any n e l' k w h0 h1 hu

theorem tDate_any {l : Option Addr} {off : Int} {Inv : World → Prop} (H : AbsSec l off Inv) (n e : Int) (w : World) (h0 : 0 ≤ n) (h1 : n < 1073741824) (he : EOk e) (hI : Inv w) :
    Calls Try.prog 146 #[tv n e l] w fun e' w' => e' = .returned (.tuple #[.int .i64 (yearL (e - 62135596800 + off)), .int .i64 (monthL (e - 62135596800 + off)), .int .i64 (mdayL (e - 62135596800 + off))]) ∧ Below w.heap.size w w' := by
  obtain ⟨e1, e2, e3, e4⟩ := l_days he H.off0 H.off1
  have HA := Lib.hid (fun o => H.calls n e (w.alloc o) h0 h1 he (H.keeps hI ((Below.refl _ _).alloc (Nat.le_refl _) o)))
  have HD := Lib.hid (fun w' => absDays_any (e - 62135596800 + off + 9223372028741760000) e3 e4 w')
  rw [e1] at HD
  have HR : Hid (yearL (e - 62135596800 + off) = yearA (dayL (e - 62135596800 + off) + absK) ∧ monthL (e - 62135596800 + off) = monthA (dayL (e - 62135596800 + off) + absK) ∧ mdayL (e - 62135596800 + off) = mdayA (dayL (e - 62135596800 + off) + absK)) := Lib.hid ⟨rfl, rfl, rfl⟩
  clear he hI H e1 e3 e4
  generalize e - 62135596800 + off = L at *
  generalize dayL L + absK = A at *
  have H6 := Lib.hid (fun w => dateA_any A e2 w)
  rw [HR.out.1, HR.out.2.1, HR.out.2.2]
  unfold tv at *
  go_enter Try.func146, Try.ntmps146
  go_wp2_with fail
  refine (HA.out _).mono ?_
  rintro e' w1 ⟨rfl, hb1⟩
  have HB := Lib.hid (((Below.refl w.heap.size w).alloc (Nat.le_refl _) _).trans (hb1.mono (by simp)))
  clear hb1
  go_wp2_with fail
  refine (HD.out _).mono ?_
  rintro e' w2 ⟨rfl, rfl⟩
  go_wp2_with fail
  refine (H6.out _).mono ?_
  rintro e' w2 ⟨rfl, rfl⟩
  go_wp2_with fail
  go_ret3
  exact ⟨rfl, HB.out⟩

theorem tClock_any {l : Option Addr} {off : Int} {Inv : World → Prop} (H : AbsSec l off Inv) (n e : Int) (w : World) (h0 : 0 ≤ n) (h1 : n < 1073741824) (he : EOk e) (hI : Inv w) :
    Calls Try.prog 147 #[tv n e l] w fun e' w' => e' = .returned (.tuple #[.int .i64 (hourL (e - 62135596800 + off)), .int .i64 (minL (e - 62135596800 + off)), .int .i64 (secL (e - 62135596800 + off))]) ∧ Below w.heap.size w w' := by
  obtain ⟨-, -, e3, e4⟩ := l_days he H.off0 H.off1
  have HA := Lib.hid (fun o => H.calls n e (w.alloc o) h0 h1 he (H.keeps hI ((Below.refl _ _).alloc (Nat.le_refl _) o)))
  have HC := Lib.hid (fun w' => absClock_any (e - 62135596800 + off + 9223372028741760000) e3 e4 w')
  have HR : Hid (hourL (e - 62135596800 + off) = (e - 62135596800 + off + 9223372028741760000) % 86400 / 3600 ∧ minL (e - 62135596800 + off) = (e - 62135596800 + off + 9223372028741760000) % 3600 / 60 ∧ secL (e - 62135596800 + off) = (e - 62135596800 + off + 9223372028741760000) % 60) := Lib.hid (by unfold hourL minL secL; omega)
  clear he hI H e3 e4
  generalize e - 62135596800 + off = L at *
  rw [HR.out.1, HR.out.2.1, HR.out.2.2]
  unfold tv at *
  go_enter Try.func147, Try.ntmps147
  go_wp2_with fail
  refine (HA.out _).mono ?_
  rintro e' w1 ⟨rfl, hb1⟩
  have HB := Lib.hid (((Below.refl w.heap.size w).alloc (Nat.le_refl _) _).trans (hb1.mono (by simp)))
  clear hb1
  go_wp2_with fail
  refine (HC.out _).mono ?_
  rintro e' w2 ⟨rfl, rfl⟩
  go_wp2_with fail
  go_ret3
  exact ⟨rfl, HB.out⟩

theorem tNano_any (n e : Int) (l : Option Addr) (w : World) (h0 : 0 ≤ n) (h1 : n < 1073741824) :
    Calls Try.prog 71 #[tv n e l] w fun e' w' => e' = .returned (.int .i64 n) ∧ Below w.heap.size w w' := by
  have HN := Lib.hid (fun (g : Nat) w' hc => nsec_any g n w' h0 h1 hc)
  unfold tv
  go_enter Try.func71, Try.ntmps71
  go_wp2_with fail
  refine (HN.out w.heap.size _ (by simp [go_sem])).mono ?_
  rintro e' w1 ⟨rfl, rfl⟩
  go_wp2_with fail
  go_ret
  exact ⟨rfl, (Below.refl _ _).alloc (Nat.le_refl _) _⟩
end Go.Proofs.Ytbgbeohiafiacaa.Cal
