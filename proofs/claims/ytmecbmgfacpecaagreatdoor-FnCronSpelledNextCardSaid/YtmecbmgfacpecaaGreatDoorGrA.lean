/- Lemmas and walks on the way to the law, merged by wip/tools/pack.py: Cal, Days, Time, Time2, Date, Time3. Conditions: none. -/
import Derived.Test.YtmecbmgfacpecaaGreatDoorProg
import Derived.WalkKit
import Derived.OwnWalk
import Derived.Lib.Hide
import Derived.Below
import Derived.WalkSmall
import Derived.WalkLawsBesides
import Derived.WalkSpells
import Derived.Outline
import Derived.Laws.Rows
import Derived.Laws.Tables
import Derived.Laws.ResultCell
import Derived.Deep.QuietTactic
import Derived.BigQuiet
import Derived.Deep.DeepCutAuto
import Derived.Deep.DeepMust
import Derived.Handy
import Derived.Test.YtmecbmgfacpecaaGreatDoorWWordsT
import Derived.Test.YtmecbmgfacpecaaGreatDoorWLastT
import Derived.WalkMore
import Derived.Laws.CopyOwn
namespace Go.Proofs.YtmecbmgfacpecaaGreatDoor.Cal
set_option linter.unusedVariables false
def lpN (y : Int) : Int := if y % 4 = 0 ∧ (y % 100 ≠ 0 ∨ y % 400 = 0) then 1 else 0
def mdays (y m : Int) : Int := if m = 2 then 28 + lpN y else if m = 4 ∨ m = 6 ∨ m = 9 ∨ m = 11 then 30 else 31
def ystart (y : Int) : Int := 365 * (y - 1) + (y - 1) / 4 - (y - 1) / 100 + (y - 1) / 400 - 719162
def cum (y m : Int) : Int :=
 if m ≤ 1 then 0 else if m = 2 then 31 else
 (if m = 3 then 59 else if m = 4 then 90 else if m = 5 then 120 else if m = 6 then 151 else if m = 7 then 181 else if m = 8 then 212 else if m = 9 then 243 else if m = 10 then 273 else if m = 11 then 304 else if m = 12 then 334 else 365) + lpN y
def dayOf (y m d : Int) : Int := ystart y + cum y m + d - 1
structure Valid (y m d : Int) : Prop where
 m1 : 1 ≤ m
 m2 : m ≤ 12
 d1 : 1 ≤ d
 d2 : d ≤ mdays y m
theorem lp_01 (y : Int) : lpN y = 0 ∨ lpN y = 1 := by unfold lpN; split <;> simp
theorem ystart_succ (y : Int) : ystart (y + 1) = ystart y + 365 + lpN y := by
 unfold ystart lpN
 split <;> omega
theorem cum_succ (y m : Int) (h1 : 1 ≤ m) (h2 : m ≤ 12) : cum y (m + 1) = cum y m + mdays y m := by
 have : m = 1 ∨ m = 2 ∨ m = 3 ∨ m = 4 ∨ m = 5 ∨ m = 6 ∨ m = 7 ∨ m = 8 ∨ m = 9 ∨ m = 10 ∨ m = 11 ∨ m = 12 := by omega
 rcases this with rfl | rfl | rfl | rfl | rfl | rfl | rfl | rfl | rfl | rfl | rfl | rfl <;> simp [cum, mdays] <;> omega
theorem cum_one (y : Int) : cum y 1 = 0 := rfl
theorem cum_last (y : Int) : cum y 13 = 365 + lpN y := rfl
theorem mdays_bd (y m : Int) : 28 ≤ mdays y m ∧ mdays y m ≤ 31 := by
 have := lp_01 y
 unfold mdays
 split
 ·omega
 ·split <;> omega
theorem ystart_mono {a b : Int} (h : a < b) : ystart a + 365 ≤ ystart b := by
 unfold ystart; omega
theorem ystart_le {a b : Int} (h : a ≤ b) : ystart a ≤ ystart b := by
 unfold ystart; omega
theorem ystart_year {a b : Int} (h : a < b) : ystart (a + 1) ≤ ystart b := ystart_le (by omega)
theorem cum_step (y : Int) : ∀ (n : Nat) (m : Int), 1 ≤ m → m + n ≤ 12 → cum y m + mdays y m ≤ cum y (m + n + 1)
 | 0, m, h1, h2 => by rw [show m + ((0 : Nat) : Int) + 1 = m + 1 by omega, cum_succ y m h1 (by omega)]; omega
 | n + 1, m, h1, h2 => by
  have := cum_step y n m h1 (by omega)
  rw [show m + ((n + 1 : Nat) : Int) + 1 = (m + n + 1) + 1 by omega, cum_succ y (m + n + 1) (by omega) (by omega)]
  have := mdays_bd y (m + n + 1)
  omega
theorem cum_lt {y m m' : Int} (h1 : 1 ≤ m) (h : m < m') (h2 : m' ≤ 13) : cum y m + mdays y m ≤ cum y m' := by
 have := cum_step y (m' - m - 1).toNat m h1 (by omega)
 rw [show m + ((m' - m - 1).toNat : Int) + 1 = m' by omega] at this
 exact this
theorem cum_nonneg {y m : Int} (h1 : 1 ≤ m) (h2 : m ≤ 13) : 0 ≤ cum y m := by
 by_cases h : m = 1
 ·subst h; exact Int.le_refl 0
 ·have := cum_lt (y := y) (m := 1) (m' := m) (by omega) (by omega) h2
  have := mdays_bd y 1
  have := cum_one y
  omega
theorem day_year {y m d : Int} (h : Valid y m d) : ystart y ≤ dayOf y m d ∧ dayOf y m d < ystart (y + 1) := by
 obtain ⟨m1, m2, d1, d2⟩ := h
 have a := cum_nonneg (y := y) m1 (by omega)
 have b := cum_lt (y := y) m1 (m' := 13) (by omega) (by omega)
 have c := cum_last y
 have e := ystart_succ y
 unfold dayOf
 omega
theorem year_of {y y' D : Int} (h1 : ystart y ≤ D) (h2 : D < ystart (y + 1)) (h3 : ystart y' ≤ D) (h4 : D < ystart (y' + 1)) : y = y' := by
 rcases Int.lt_trichotomy y y' with h | h | h
 ·have := ystart_year h; omega
 ·exact h
 ·have := ystart_year h; omega
theorem date_unique {y m d y' m' d' : Int} (h : Valid y m d) (h' : Valid y' m' d') (e : dayOf y m d = dayOf y' m' d') : y = y' ∧ m = m' ∧ d = d' := by
 have a := day_year h
 have b := day_year h'
 have hy := year_of a.1 a.2 (by rw [e]; exact b.1) (by rw [e]; exact b.2)
 subst hy
 obtain ⟨m1, m2, d1, d2⟩ := h
 obtain ⟨m1', m2', d1', d2'⟩ := h'
 unfold dayOf at e
 have hm : m = m' := by
  rcases Int.lt_trichotomy m m' with h | h | h
  ·have := cum_lt (y := y) m1 h (by omega); omega
  ·exact h
  ·have := cum_lt (y := y) m1' h (by omega); omega
 subst hm
 exact ⟨rfl, rfl, by omega⟩
def absK : Int := 106751991073400
def cenA (A : Int) : Int := (4 * A + 3) / 146097
def cdA (A : Int) : Int := (4 * A + 3) % 146097 / 4 * 4 + 3
def cyA (A : Int) : Int := cdA A / 1461
def aydA (A : Int) : Int := cdA A % 1461 / 4
def jfA (A : Int) : Int := if 306 ≤ aydA A then 1 else 0
def amA (A : Int) : Int := (5 * aydA A + 461) / 153
def yearA (A : Int) : Int := cenA A * 100 - 292277022400 + cyA A + jfA A
def monthA (A : Int) : Int := amA A - 12 * jfA A
def mdayA (A : Int) : Int := 1 + (5 * aydA A + 461) % 153 / 5
def absDay (y m d : Int) : Int :=
 let jf := if m < 3 then 1 else 0
 let Y := y - jf + 292277022400
 146097 * (Y / 100) / 4 + (1461 * (Y % 100) / 4 + (979 * (m + 12 * jf) - 2919) / 32 + d - 1)
theorem cen_core (Y : Int) : 146097 * (Y / 100) / 4 + 1461 * (Y % 100) / 4 = 365 * Y + Y / 4 - Y / 100 + Y / 400 := by
 have h1 : Y = 100 * (Y / 100) + Y % 100 := by omega
 have h2 : 146097 * (Y / 100) / 4 = 36524 * (Y / 100) + (Y / 100) / 4 := by omega
 have h3 : 1461 * (Y % 100) / 4 = 365 * (Y % 100) + (Y % 100) / 4 := by omega
 have h4 : Y / 4 = 25 * (Y / 100) + (Y % 100) / 4 := by omega
 have h5 : Y / 400 = (Y / 100) / 4 := by omega
 omega
theorem cen_abs (Y : Int) : 146097 * ((Y + 292277022400) / 100) / 4 + 1461 * ((Y + 292277022400) % 100) / 4 = 365 * Y + Y / 4 - Y / 100 + Y / 400 + 106751990353932 := by
 rw [cen_core]
 omega
theorem month_part (y m : Int) (h1 : 1 ≤ m) (h2 : m ≤ 12) : ystart y + cum y m = 365 * (y - (if m < 3 then 1 else 0)) + (y - (if m < 3 then 1 else 0)) / 4 - (y - (if m < 3 then 1 else 0)) / 100 + (y - (if m < 3 then 1 else 0)) / 400 + (979 * (m + 12 * (if m < 3 then 1 else 0)) - 2919) / 32 - 719162 - 306 := by
 have : m = 1 ∨ m = 2 ∨ m = 3 ∨ m = 4 ∨ m = 5 ∨ m = 6 ∨ m = 7 ∨ m = 8 ∨ m = 9 ∨ m = 10 ∨ m = 11 ∨ m = 12 := by omega
 have hs := ystart_succ y
 have e : ystart (y + 1) = 365 * y + y / 4 - y / 100 + y / 400 - 719162 := by unfold ystart; rw [show y + 1 - 1 = y by omega]
 have e' : ystart y = 365 * (y - 1) + (y - 1) / 4 - (y - 1) / 100 + (y - 1) / 400 - 719162 := rfl
 generalize ystart (y + 1) = a at *
 generalize ystart y = b at *
 rcases this with rfl | rfl | rfl | rfl | rfl | rfl | rfl | rfl | rfl | rfl | rfl | rfl <;> simp [cum] <;> omega
theorem absDay_is (y m d : Int) (h1 : 1 ≤ m) (h2 : m ≤ 12) : absDay y m d = dayOf y m d + absK := by
 have hm := month_part y m h1 h2
 unfold absDay dayOf absK
 have hc := cen_abs (y - (if m < 3 then 1 else 0))
 generalize (if m < 3 then 1 else 0 : Int) = jf at *
 simp only
 omega
theorem ayd_month (a : Int) (h0 : 0 ≤ a) (h1 : a ≤ 365) :
  (979 * ((5 * a + 461) / 153) - 2919) / 32 + (1 + (5 * a + 461) % 153 / 5) - 1 = a := by omega
theorem cen_parts2 (A : Int) : (4 * A + 3) % 146097 / 4 = 36524 → cenA A % 4 = 3 := by
 unfold cenA
 intro e
 have h1 : 4 * A + 3 = 146097 * ((4 * A + 3) / 146097) + (4 * A + 3) % 146097 := by omega
 have h2 : (4 * A + 3) % 146097 < 146097 := by omega
 generalize (4 * A + 3) % 146097 = r at *
 generalize (4 * A + 3) / 146097 = c at *
 have h3 : r = 146096 := by omega
 subst h3
 omega
theorem cen_parts (A : Int) : A = 146097 * cenA A / 4 + (4 * A + 3) % 146097 / 4 ∧ 0 ≤ (4 * A + 3) % 146097 / 4 ∧ (4 * A + 3) % 146097 / 4 ≤ 36524 := by
 unfold cenA
 refine ⟨by omega, by omega, by omega⟩
theorem cy_parts (c : Int) (h0 : 0 ≤ c) (h1 : c ≤ 36524) : c = 1461 * ((c * 4 + 3) / 1461) / 4 + (c * 4 + 3) % 1461 / 4 ∧ 0 ≤ (c * 4 + 3) / 1461 ∧ (c * 4 + 3) / 1461 ≤ 99 ∧ 0 ≤ (c * 4 + 3) % 1461 / 4 ∧ (c * 4 + 3) % 1461 / 4 ≤ 365 ∧
  ((c * 4 + 3) % 1461 / 4 = 365 → (c * 4 + 3) / 1461 % 4 = 3 ∧ ((c * 4 + 3) / 1461 = 99 → c = 36524)) := by
 refine ⟨by omega, by omega, by omega, by omega, by omega, fun h => ⟨by omega, fun _ => by omega⟩⟩
theorem date_is (A : Int) : Valid (yearA A) (monthA A) (mdayA A) ∧ dayOf (yearA A) (monthA A) (mdayA A) = A - absK := by
 obtain ⟨a1, a2, a3⟩ := cen_parts A
 have a4 := cen_parts2 A
 have ec : cdA A = (4 * A + 3) % 146097 / 4 * 4 + 3 := rfl
 have ecy : cyA A = cdA A / 1461 := rfl
 have eay : aydA A = cdA A % 1461 / 4 := rfl
 generalize (4 * A + 3) % 146097 / 4 = c at *
 obtain ⟨b1, b2, b3, b4, b5, b6⟩ := cy_parts c a2 a3
 rw [← ec, ← ecy, ← eay] at b1 b6
 rw [← ec, ← eay] at b4 b5
 rw [← ec, ← ecy] at b2 b3
 have b6' : aydA A = 365 → cyA A % 4 = 3 ∧ (cyA A = 99 → cenA A % 4 = 3) := fun e => ⟨(b6 e).1, fun e2 => a4 ((b6 e).2 e2)⟩
 clear ec ecy eay b6 a4
 have hm := ayd_month (aydA A) b4 b5
 have ejf : jfA A = if 306 ≤ aydA A then 1 else 0 := rfl
 have eam : amA A = (5 * aydA A + 461) / 153 := rfl
 have emd : mdayA A = 1 + (5 * aydA A + 461) % 153 / 5 := rfl
 have eyr : yearA A = cenA A * 100 - 292277022400 + cyA A + jfA A := rfl
 have emo : monthA A = amA A - 12 * jfA A := rfl
 generalize cenA A = ce at *
 generalize cyA A = cy at *
 generalize aydA A = ay at *
 generalize amA A = am at *
 generalize mdayA A = md at *
 generalize jfA A = jf at *
 generalize yearA A = y at *
 generalize monthA A = mo at *
 have hm1 : 1 ≤ mo ∧ mo ≤ 12 := by
  subst emo eam ejf
  split <;> omega
 have hjf : (if mo < 3 then 1 else 0 : Int) = jf := by
  subst emo eam ejf
  by_cases h3 : 306 ≤ ay
  ·rw [if_pos h3, if_pos (by omega)]
  ·rw [if_neg h3, if_neg (by omega)]
 have hday : dayOf y mo md = A - absK := by
  have e := absDay_is y mo md hm1.1 hm1.2
  unfold absDay at e
  rw [hjf] at e
  have e1 : y - jf + 292277022400 = ce * 100 + cy := by omega
  have e2 : mo + 12 * jf = am := by omega
  simp only [e1, e2] at e
  have e3 : (ce * 100 + cy) / 100 = ce := by omega
  have e4 : (ce * 100 + cy) % 100 = cy := by omega
  rw [e3, e4] at e
  rw [← eam, ← emd] at hm
  omega
 refine ⟨⟨hm1.1, hm1.2, by omega, ?_⟩, hday⟩
 unfold mdays lpN
 by_cases h3 : 306 ≤ ay
 ·rw [if_pos h3] at ejf
  subst ejf
  by_cases hmo : mo = 2
  ·rw [if_pos hmo]
   have : md ≤ 28 ∨ ay = 365 := by omega
   rcases this with h | h
   ·split <;> omega
   ·obtain ⟨q1, q2⟩ := b6' h
    rw [if_pos (by omega)]
    omega
  ·rw [if_neg hmo]
   split <;> omega
 ·rw [if_neg h3] at ejf
  subst ejf
  rw [if_neg (by omega)]
  split <;> omega
theorem week_is (A : Int) : (A + 3) % 7 = (A - absK + 4) % 7 := by unfold absK; omega
def dayL (L : Int) : Int := L / 86400
def yearL (L : Int) : Int := yearA (dayL L + absK)
def monthL (L : Int) : Int := monthA (dayL L + absK)
def mdayL (L : Int) : Int := mdayA (dayL L + absK)
def hourL (L : Int) : Int := L % 86400 / 3600
def minL (L : Int) : Int := L % 3600 / 60
def secL (L : Int) : Int := L % 60
def wdL (L : Int) : Int := (dayL L + 4) % 7
theorem date_L (L : Int) : Valid (yearL L) (monthL L) (mdayL L) ∧ dayOf (yearL L) (monthL L) (mdayL L) = dayL L := by
 have := date_is (dayL L + absK)
 refine ⟨this.1, ?_⟩
 have h := this.2
 unfold yearL monthL mdayL
 omega
theorem date_eq {L y m d : Int} (h : Valid y m d) (e : dayOf y m d = dayL L) : yearL L = y ∧ monthL L = m ∧ mdayL L = d :=
 date_unique (date_L L).1 h ((date_L L).2.trans e.symm)
theorem year_range (L : Int) : ystart (yearL L) * 86400 ≤ L ∧ L < ystart (yearL L + 1) * 86400 := by
 have h := date_L L
 have := day_year h.1
 rw [h.2] at this
 unfold dayL at this
 omega
theorem year_mono {a b : Int} (h : a ≤ b) : yearL a ≤ yearL b := by
 have ha := year_range a
 have hb := year_range b
 by_cases hc : yearL a ≤ yearL b
 ·exact hc
 ·have := ystart_le (a := yearL b + 1) (b := yearL a) (by omega)
  omega
def mFirst (L : Int) : Int := dayOf (yearL L) (monthL L) 1
def mNext (L : Int) : Int := (mFirst L + mdays (yearL L) (monthL L)) * 86400
def dNext (L : Int) : Int := (L / 86400 + 1) * 86400
def hNext (L : Int) : Int := (L / 3600 + 1) * 3600
def iNext (L : Int) : Int := (L / 60 + 1) * 60
theorem first_valid (L : Int) : Valid (yearL L) (monthL L) 1 := by
 have h := (date_L L).1
 have := mdays_bd (yearL L) (monthL L)
 exact ⟨h.m1, h.m2, by omega, by omega⟩
theorem mNext_gt (L : Int) : L < mNext L ∧ mFirst L * 86400 ≤ L := by
 obtain ⟨h, e⟩ := date_L L
 have h1 := h.d1
 have h2 := h.d2
 unfold mNext mFirst
 unfold dayOf at e ⊢
 unfold dayL at e
 omega
theorem same_month {L x : Int} (h1 : mFirst L * 86400 ≤ x) (h2 : x < mNext L) : monthL x = monthL L ∧ yearL x = yearL L := by
 have hv := first_valid L
 have hd : Valid (yearL L) (monthL L) (dayL x - mFirst L + 1) := ⟨hv.m1, hv.m2, by unfold dayL; omega, by unfold mNext at h2; unfold dayL; omega⟩
 have := date_eq (L := x) hd (by unfold mFirst dayOf; omega)
 exact ⟨this.2.1, this.1⟩
theorem mNext_date (L : Int) : mNext L % 86400 = 0 ∧ mdayL (mNext L) = 1 ∧ monthL (mNext L) = (if monthL L = 12 then 1 else monthL L + 1) ∧ yearL (mNext L) = (if monthL L = 12 then yearL L + 1 else yearL L) := by
 have hv := first_valid L
 have hm0 : mNext L % 86400 = 0 := by unfold mNext; omega
 have hdl : dayL (mNext L) = mFirst L + mdays (yearL L) (monthL L) := by unfold mNext dayL; omega
 by_cases h : monthL L = 12
 ·have hv2 : Valid (yearL L + 1) 1 1 := ⟨by omega, by omega, by omega, by have := mdays_bd (yearL L + 1) 1; omega⟩
  have := date_eq (L := mNext L) hv2 (by
   rw [hdl]
   unfold mFirst dayOf
   rw [h]
   have e1 := ystart_succ (yearL L)
   have e2 := cum_succ (yearL L) 12 (by omega) (by omega)
   have e3 := cum_last (yearL L)
   have e4 := cum_one (yearL L + 1)
   rw [show (12 : Int) + 1 = 13 by omega] at e2
   omega)
  rw [if_pos h, if_pos h]
  exact ⟨hm0, this.2.2, this.2.1, this.1⟩
 ·have h12 : monthL L + 1 ≤ 12 := by have := hv.m2; omega
  have hv2 : Valid (yearL L) (monthL L + 1) 1 := ⟨by have := hv.m1; omega, h12, by omega, by have := mdays_bd (yearL L) (monthL L + 1); omega⟩
  have := date_eq (L := mNext L) hv2 (by
   rw [hdl]
   unfold mFirst dayOf
   have e2 := cum_succ (yearL L) (monthL L) hv.m1 hv.m2
   omega)
  rw [if_neg h, if_neg h]
  exact ⟨hm0, this.2.2, this.2.1, this.1⟩
theorem same_day {L x : Int} (h : x / 86400 = L / 86400) : monthL x = monthL L ∧ yearL x = yearL L ∧ mdayL x = mdayL L ∧ wdL x = wdL L := by
 have : dayL x = dayL L := h
 unfold monthL yearL mdayL wdL
 rw [this]
 exact ⟨rfl, rfl, rfl, rfl⟩
theorem dNext_date (L : Int) : mdayL (dNext L) = 1 ∧ dNext L = mNext L ∨ mdayL (dNext L) = mdayL L + 1 ∧ monthL (dNext L) = monthL L ∧ yearL (dNext L) = yearL L := by
 obtain ⟨h, e⟩ := date_L L
 by_cases hl : mdayL L = mdays (yearL L) (monthL L)
 ·left
  have : dNext L = mNext L := by
   unfold dNext mNext mFirst
   unfold dayOf dayL at *
   omega
  exact ⟨by rw [this]; exact (mNext_date L).2.1, this⟩
 ·right
  have hv2 : Valid (yearL L) (monthL L) (mdayL L + 1) := ⟨h.m1, h.m2, by have := h.d1; omega, by have := h.d2; omega⟩
  have := date_eq (L := dNext L) hv2 (by
   unfold dNext dayL
   unfold dayOf dayL at *
   omega)
  exact ⟨this.2.2, this.2.1, this.1⟩
structure Sets where
 sec : Nat
 min : Nat
 hour : Nat
 dom : Nat
 month : Nat
 dow : Nat
def inB (b : Nat) (k : Int) : Bool := b.testBit k.toNat
def monthB (S : Sets) (L : Int) : Bool := inB S.month (monthL L)
def dayB (S : Sets) (L : Int) : Bool := if inB S.dom 63 || inB S.dow 63 then inB S.dom (mdayL L) && inB S.dow (wdL L) else inB S.dom (mdayL L) || inB S.dow (wdL L)
def hourB (S : Sets) (L : Int) : Bool := inB S.hour (hourL L)
def minB (S : Sets) (L : Int) : Bool := inB S.min (minL L)
def secB (S : Sets) (L : Int) : Bool := inB S.sec (secL L)
structure Fits (S : Sets) (L : Int) : Prop where
 mo : monthB S L = true
 da : dayB S L = true
 ho : hourB S L = true
 mi : minB S L = true
 se : secB S L = true
def NoFit (S : Sets) (a b : Int) : Prop := ∀ x, a ≤ x → x < b → ¬ Fits S x
structure At (S : Sets) (f : Int) (added : Bool) (L : Int) : Prop where
 ge : f ≤ L
 no : NoFit S f L
 mo : added = true → monthB S L = true ∨ L = mFirst L * 86400
 da : added = true → dayB S L = true ∨ L % 86400 = 0
 ho : added = true → hourB S L = true ∨ L % 3600 = 0
 mi : added = true → minB S L = true ∨ L % 60 = 0
theorem at_first (S : Sets) (f : Int) : At S f false f :=
 ⟨Int.le_refl _, (fun x h1 h2 => by omega), (fun h => by cases h), (fun h => by cases h), (fun h => by cases h), (fun h => by cases h)⟩
theorem noFit_to {S : Sets} {f a b : Int} (h : NoFit S f a) (h2 : ∀ x, a ≤ x → x < b → ¬ Fits S x) : NoFit S f b := fun x h1 h3 => by
 by_cases hc : x < a
 ·exact h x h1 hc
 ·exact h2 x (by omega) h3
theorem day_first {L : Int} (h0 : L % 86400 = 0) (h1 : mdayL L = 1) : L = mFirst L * 86400 := by
 have e := (date_L L).2
 rw [h1] at e
 unfold mFirst
 unfold dayL at e
 omega
theorem at_month {S : Sets} {f L : Int} {a : Bool} (h : At S f a L) (hm : monthB S L = false) : At S f true (mNext L) := by
 have hd := mNext_date L
 have hg := mNext_gt L
 refine ⟨by have := h.ge; omega, noFit_to h.no fun x h1 h2 hx => ?_, fun _ => .inr (day_first hd.1 hd.2.1), fun _ => .inr hd.1, fun _ => .inr (by omega), fun _ => .inr (by omega)⟩
 have := same_month (L := L) (x := x) (by omega) h2
 have hmo := hx.mo
 unfold monthB at hmo hm
 rw [this.1, hm] at hmo
 cases hmo
theorem at_day {S : Sets} {f L : Int} {a : Bool} (h : At S f a L) (hm : monthB S L = true) (hd : dayB S L = false) : At S f true (dNext L) ∧ (mdayL (dNext L) = 1 ∨ monthB S (dNext L) = true ∧ yearL (dNext L) = yearL L) := by
 have hgt : L < dNext L := by unfold dNext; omega
 have h0 : dNext L % 86400 = 0 := by unfold dNext; omega
 have hdd := dNext_date L
 have hmo : mdayL (dNext L) = 1 ∨ monthB S (dNext L) = true ∧ yearL (dNext L) = yearL L := by
  rcases hdd with h | h
  ·exact .inl h.1
  ·exact .inr ⟨by unfold monthB at hm ⊢; rw [h.2.1]; exact hm, h.2.2⟩
 refine ⟨⟨by have := h.ge; omega, noFit_to h.no fun x h1 h2 hx => ?_, fun _ => ?_, fun _ => .inr h0, fun _ => .inr (by omega), fun _ => .inr (by omega)⟩, hmo⟩
 ·have := same_day (L := L) (x := x) (by unfold dNext at h2; omega)
  have hda := hx.da
  unfold dayB at hda hd
  rw [this.2.2.1, this.2.2.2, hd] at hda
  cases hda
 ·rcases hmo with h | h
  ·exact .inr (day_first h0 h)
  ·exact .inl h.1
theorem keep_day {S : Sets} {L x : Int} (hm : monthB S L = true) (hd : dayB S L = true) (h : x / 86400 = L / 86400) : monthB S x = true ∧ dayB S x = true ∧ yearL x = yearL L := by
 have := same_day h
 unfold monthB dayB at *
 rw [this.1, this.2.2.1, this.2.2.2]
 exact ⟨hm, hd, this.2.1⟩
theorem next_day_month {S : Sets} {L x : Int} (hm : monthB S L = true) (h : x = dNext L) : monthB S x = true ∨ x = mFirst x * 86400 := by
 subst h
 rcases dNext_date L with h | h
 ·exact .inr (day_first (by unfold dNext; omega) h.1)
 ·exact .inl (by unfold monthB at hm ⊢; rw [h.2.1]; exact hm)
theorem at_hour {S : Sets} {f L : Int} {a : Bool} (h : At S f a L) (hm : monthB S L = true) (hd : dayB S L = true) (hh : hourB S L = false) :
  At S f true (hNext L) ∧ (hourL (hNext L) = 0 ∨ monthB S (hNext L) = true ∧ dayB S (hNext L) = true ∧ yearL (hNext L) = yearL L) := by
 have hgt : L < hNext L := by unfold hNext; omega
 have hno : NoFit S f (hNext L) := noFit_to h.no fun x h1 h2 hx => by
  have e : hourL x = hourL L := by unfold hourL; unfold hNext at h2; omega
  have hho := hx.ho
  unfold hourB at hho hh
  rw [e, hh] at hho
  cases hho
 by_cases hw : hNext L / 86400 = L / 86400
 ·have k := keep_day hm hd hw
  exact ⟨⟨by have := h.ge; omega, hno, fun _ => .inl k.1, fun _ => .inl k.2.1, fun _ => .inr (by unfold hNext; omega), fun _ => .inr (by unfold hNext; omega)⟩, .inr k⟩
 ·have e : hNext L = dNext L := by unfold hNext dNext at *; omega
  exact ⟨⟨by have := h.ge; omega, hno, fun _ => next_day_month hm e, fun _ => .inr (by rw [e]; unfold dNext; omega), fun _ => .inr (by unfold hNext; omega), fun _ => .inr (by unfold hNext; omega)⟩, .inl (by rw [e]; unfold hourL dNext; omega)⟩
theorem keep_hour {S : Sets} {L x : Int} (hh : hourB S L = true) (h : x / 3600 = L / 3600) : hourB S x = true := by
 have : hourL x = hourL L := by unfold hourL; omega
 unfold hourB at *
 rw [this]
 exact hh
theorem at_min {S : Sets} {f L : Int} {a : Bool} (h : At S f a L) (hm : monthB S L = true) (hd : dayB S L = true) (hh : hourB S L = true) (hi : minB S L = false) :
  At S f true (iNext L) ∧ (minL (iNext L) = 0 ∨ monthB S (iNext L) = true ∧ dayB S (iNext L) = true ∧ hourB S (iNext L) = true ∧ yearL (iNext L) = yearL L) := by
 have hgt : L < iNext L := by unfold iNext; omega
 have hno : NoFit S f (iNext L) := noFit_to h.no fun x h1 h2 hx => by
  have e : minL x = minL L := by unfold minL; unfold iNext at h2; omega
  have hho := hx.mi
  unfold minB at hho hi
  rw [e, hi] at hho
  cases hho
 have h60 : iNext L % 60 = 0 := by unfold iNext; omega
 by_cases hw : iNext L / 3600 = L / 3600
 ·have kh := keep_hour hh hw
  have k := keep_day hm hd (x := iNext L) (by omega)
  exact ⟨⟨by have := h.ge; omega, hno, fun _ => .inl k.1, fun _ => .inl k.2.1, fun _ => .inl kh, fun _ => .inr h60⟩, .inr ⟨k.1, k.2.1, kh, k.2.2⟩⟩
 ·have e : iNext L = hNext L := by unfold iNext hNext at *; omega
  have h36 : iNext L % 3600 = 0 := by rw [e]; unfold hNext; omega
  have hz : minL (iNext L) = 0 := by unfold minL; omega
  by_cases hw2 : iNext L / 86400 = L / 86400
  ·have k := keep_day hm hd hw2
   exact ⟨⟨by have := h.ge; omega, hno, fun _ => .inl k.1, fun _ => .inl k.2.1, fun _ => .inr h36, fun _ => .inr h60⟩, .inl hz⟩
  ·have e2 : iNext L = dNext L := by unfold iNext dNext at *; omega
   exact ⟨⟨by have := h.ge; omega, hno, fun _ => next_day_month hm e2, fun _ => .inr (by rw [e2]; unfold dNext; omega), fun _ => .inr h36, fun _ => .inr h60⟩, .inl hz⟩
theorem keep_min {S : Sets} {L x : Int} (hh : minB S L = true) (h : x / 60 = L / 60) : minB S x = true := by
 have : minL x = minL L := by unfold minL; omega
 unfold minB at *
 rw [this]
 exact hh
theorem at_sec {S : Sets} {f L : Int} {a : Bool} (h : At S f a L) (hm : monthB S L = true) (hd : dayB S L = true) (hh : hourB S L = true) (hi : minB S L = true) (hs : secB S L = false) :
  At S f true (L + 1) ∧ (secL (L + 1) = 0 ∨ monthB S (L + 1) = true ∧ dayB S (L + 1) = true ∧ hourB S (L + 1) = true ∧ minB S (L + 1) = true ∧ yearL (L + 1) = yearL L) := by
 have hno : NoFit S f (L + 1) := noFit_to h.no fun x h1 h2 hx => by
  have e : x = L := by omega
  have hho := hx.se
  rw [e, hs] at hho
  cases hho
 by_cases hw : (L + 1) / 60 = L / 60
 ·have ki := keep_min hi hw
  have kh := keep_hour hh (x := L + 1) (by omega)
  have k := keep_day hm hd (x := L + 1) (by omega)
  exact ⟨⟨by have := h.ge; omega, hno, fun _ => .inl k.1, fun _ => .inl k.2.1, fun _ => .inl kh, fun _ => .inl ki⟩, .inr ⟨k.1, k.2.1, kh, ki, k.2.2⟩⟩
 ·have h60 : (L + 1) % 60 = 0 := by omega
  have hz : secL (L + 1) = 0 := h60
  by_cases hw1 : (L + 1) / 3600 = L / 3600
  ·have kh := keep_hour hh hw1
   have k := keep_day hm hd (x := L + 1) (by omega)
   exact ⟨⟨by have := h.ge; omega, hno, fun _ => .inl k.1, fun _ => .inl k.2.1, fun _ => .inl kh, fun _ => .inr h60⟩, .inl hz⟩
  ·have h36 : (L + 1) % 3600 = 0 := by omega
   by_cases hw2 : (L + 1) / 86400 = L / 86400
   ·have k := keep_day hm hd hw2
    exact ⟨⟨by have := h.ge; omega, hno, fun _ => .inl k.1, fun _ => .inl k.2.1, fun _ => .inr h36, fun _ => .inr h60⟩, .inl hz⟩
   ·have e2 : L + 1 = dNext L := by unfold dNext; omega
    exact ⟨⟨by have := h.ge; omega, hno, fun _ => next_day_month hm e2, fun _ => .inr (by rw [e2]; unfold dNext; omega), fun _ => .inr h36, fun _ => .inr h60⟩, .inl hz⟩
def Least (S : Sets) (f lim : Int) : Option Int → Prop
 | some L => f ≤ L ∧ Fits S L ∧ NoFit S f L ∧ yearL L ≤ lim
 | none => ∀ x, f ≤ x → yearL x ≤ lim → ¬ Fits S x
theorem least_none {S : Sets} {f L lim : Int} {a : Bool} (h : At S f a L) (hy : lim < yearL L) : Least S f lim none := fun x h1 h2 => by
 by_cases hx : x < L
 ·exact h.no x h1 hx
 ·have := year_mono (a := L) (b := x) (by omega)
  omega
theorem least_some {S : Sets} {f L lim : Int} {a : Bool} (h : At S f a L) (hm : monthB S L = true) (hd : dayB S L = true) (hh : hourB S L = true) (hi : minB S L = true) (hs : secB S L = true) (hy : yearL L ≤ lim) : Least S f lim (some L) :=
 ⟨h.ge, ⟨hm, hd, hh, hi, hs⟩, h.no, hy⟩
theorem least_unique {S : Sets} {f lim : Int} : ∀ {r r' : Option Int}, Least S f lim r → Least S f lim r' → r = r'
 | none, none, _, _ => rfl
 | some L, none, h, h' => absurd h.2.1 (h' L h.1 h.2.2.2)
 | none, some L, h, h' => absurd h'.2.1 (h L h'.1 h'.2.2.2)
 | some L, some L', h, h' => by
  rcases Int.lt_trichotomy L L' with hl | hl | hl
  ·exact absurd h.2.1 (h'.2.2.1 L h.1 hl)
  ·rw [hl]
  ·exact absurd h'.2.1 (h.2.2.1 L' h'.1 hl)
theorem year_day (f x : Int) (h : x < f + 86400) : yearL x ≤ yearL f + 1 := by
 have a := year_range f
 have b := year_range x
 by_cases hc : yearL x ≤ yearL f + 1
 ·exact hc
 ·have := ystart_mono (a := yearL f + 1) (b := yearL x) (by omega)
  omega
end Go.Proofs.YtmecbmgfacpecaaGreatDoor.Cal
namespace Go.Proofs.YtmecbmgfacpecaaGreatDoor.Cal
open Go Go.RowKit
set_option linter.unusedVariables false
set_option linter.unusedSimpArgs false
theorem mul32_any (c : Int) (h0 : 0 ≤ c) (h1 : c ≤ 146099) (w : World) :
  Calls Tryz.prog 277 #[.int .u32 2939745, .int .u32 c] w fun e w' => e = .returned (.tuple #[.int .u32 (2939745 * c / 4294967296), .int .u32 (2939745 * c % 4294967296)]) ∧ w = w' := by
 have hp : 2939745 * c < 18446744073709551616 := by omega
 have hq : 0 ≤ 2939745 * c := by omega
 go_enter Tryz.func277, Tryz.ntmps277
 go_wp2
 go_ret2
 exact ⟨rfl, rfl⟩
theorem absDays_any (a : Int) (h0 : 0 ≤ a) (h1 : a ≤ 18446744073709551615) (w : World) :
  Calls Tryz.prog 262 #[.int .u64 a] w fun e w' => e = .returned (.int .u64 (a / 86400)) ∧ w = w' := by
 go_enter Tryz.func262, Tryz.ntmps262
 go_wp2
 go_ret
 exact ⟨rfl, rfl⟩
theorem or3_nat (x : Nat) : x ||| 3 = x / 4 * 4 + 3 := by
 have h := Nat.two_pow_add_eq_or_of_lt (i := 2) (b := x % 4) (by omega) (x / 4)
 have h3 := Nat.two_pow_add_eq_or_of_lt (i := 2) (b := 3) (by omega) (x / 4)
 have e : x = 2 ^ 2 * (x / 4) ||| x % 4 := by rw [← h]; omega
 have e4 : x % 4 ||| 3 = 3 := by
  have : x % 4 = 0 ∨ x % 4 = 1 ∨ x % 4 = 2 ∨ x % 4 = 3 := by omega
  rcases this with h | h | h | h <;> rw [h] <;> rfl
 calc x ||| 3 = 2 ^ 2 * (x / 4) ||| (x % 4 ||| 3) := by rw [← Nat.or_assoc, ← e]
  _ = 2 ^ 2 * (x / 4) ||| 3 := by rw [e4]
  _ = 2 ^ 2 * (x / 4) + 3 := h3.symm
  _ = x / 4 * 4 + 3 := by omega
theorem or3_u32 {x : Int} (h0 : 0 ≤ x) (h1 : x < 4294967293) : bits .or .u32 x 3 = x / 4 * 4 + 3 := by
 obtain ⟨n, rfl⟩ : ∃ n : Nat, x = n := ⟨x.toNat, by omega⟩
 have e : IntKind.u32.bits = 32 := rfl
 have h3 := or3_nat n
 have hn : n % 2 ^ 32 = n := Nat.mod_eq_of_lt (by omega)
 unfold bits
 rw [e]
 show IntKind.u32.wrap ((BitVec.ofInt 32 (n : Int) ||| BitVec.ofInt 32 ((3 : Nat) : Int)).toNat : Int) = _
 rw [BitVec.ofInt_natCast, BitVec.ofInt_natCast, BitVec.toNat_or, BitVec.toNat_ofNat, BitVec.toNat_ofNat, hn, show (3 : Nat) % 2 ^ 32 = 3 from rfl, h3, IntKind.wrap_u32]
 omega
theorem and16_u32 {x : Int} (h0 : 0 ≤ x) (h1 : x < 4294967296) : bits .and .u32 x 65535 = x % 65536 := by
 obtain ⟨n, rfl⟩ : ∃ n : Nat, x = n := ⟨x.toNat, by omega⟩
 have e : IntKind.u32.bits = 32 := rfl
 have h3 := Nat.and_two_pow_sub_one_eq_mod n 16
 have hn : n % 2 ^ 32 = n := Nat.mod_eq_of_lt (by omega)
 unfold bits
 rw [e]
 show IntKind.u32.wrap ((BitVec.ofInt 32 (n : Int) &&& BitVec.ofInt 32 ((65535 : Nat) : Int)).toNat : Int) = _
 rw [BitVec.ofInt_natCast, BitVec.ofInt_natCast, BitVec.toNat_and, BitVec.toNat_ofNat, BitVec.toNat_ofNat, hn, show (65535 : Nat) % 2 ^ 32 = 2 ^ 16 - 1 from rfl, h3, IntKind.wrap_u32]
 omega
theorem cy_eq (c : Int) (h0 : 0 ≤ c) (h1 : c ≤ 36524) : 2939745 * (c * 4 + 3) / 4294967296 = (c * 4 + 3) / 1461 ∧ 2939745 * (c * 4 + 3) % 4294967296 / 2939745 / 4 = (c * 4 + 3) % 1461 / 4 := by
 have e : c * 4 + 3 = 1461 * ((c * 4 + 3) / 1461) + (c * 4 + 3) % 1461 := by omega
 have q0 : 0 ≤ (c * 4 + 3) / 1461 := by omega
 have q1 : (c * 4 + 3) / 1461 ≤ 99 := by omega
 have r0 : 0 ≤ (c * 4 + 3) % 1461 := by omega
 have r1 : (c * 4 + 3) % 1461 ≤ 1460 := by omega
 generalize (c * 4 + 3) / 1461 = q at *
 generalize (c * 4 + 3) % 1461 = r at *
 rw [e]
 have h1 : 2939745 * (1461 * q + r) / 4294967296 = q := by omega
 have h2 : 2939745 * (1461 * q + r) % 4294967296 = 149 * q + 2939745 * r := by omega
 have h3 : (149 * q + 2939745 * r) / 2939745 = r := by omega
 rw [h1, h2, h3]
 exact ⟨rfl, rfl⟩
def AOk (A : Int) : Prop := 106751990353932 ≤ A ∧ A ≤ 1000000000000000
set_option maxRecDepth 100000 in
theorem split_any (A : Int) (h0 : 0 ≤ A) (h1 : A ≤ 1000000000000000) (w : World) :
  Calls Tryz.prog 263 #[.int .u64 A] w fun e w' => e = .returned (.tuple #[.int .u64 (cenA A), .int .i64 (cyA A), .int .i64 (aydA A)]) ∧ w = w' := by
 obtain ⟨-, p2, p3⟩ := cen_parts A
 have hcy := cy_eq _ p2 p3
 have hcd : cdA A = (4 * A + 3) % 146097 / 4 * 4 + 3 := rfl
 have hor : bits .or .u32 ((4 * A + 3) % 146097) 3 = cdA A := by
  rw [hcd]
  exact or3_u32 (by omega) (by omega)
 have hv : (Value.tuple #[.int .u64 (cenA A), .int .i64 (cyA A), .int .i64 (aydA A)]) = .tuple #[.int .u64 ((4 * A + 3) / 146097), .int .i64 (2939745 * cdA A / 4294967296), .int .i64 (2939745 * cdA A % 4294967296 / 2939745 / 4)] := by
  rw [hcd, hcy.1, hcy.2]
  rfl
 have HV := Lib.hid hv
 have hb0 : 0 ≤ cdA A := by omega
 have hb1 : cdA A ≤ 146099 := by omega
 have HOR := Lib.hid hor
 clear hcy hcd hv p2 p3 hor
 generalize cdA A = cd at *
 go_enter Tryz.func263, Tryz.ntmps263
 go_wp2_with fail
 rw [HOR.out]
 refine (mul32_any _ hb0 hb1 _).mono ?_
 rintro e w' ⟨rfl, rfl⟩
 go_wp2_with fail
 go_ret3
 exact ⟨by rw [HV.out]; rfl, rfl⟩
set_option maxRecDepth 100000 in
theorem yday_all : ∀ n : Fin 366, (2141 * (n.val : Int) + 197913) / 65536 = (5 * (n.val : Int) + 461) / 153 ∧ (2141 * (n.val : Int) + 197913) % 65536 / 2141 = (5 * (n.val : Int) + 461) % 153 / 5 := by decide +kernel
theorem yday_eq (a : Int) (h0 : 0 ≤ a) (h1 : a ≤ 365) : (2141 * a + 197913) / 65536 = (5 * a + 461) / 153 ∧ (2141 * a + 197913) % 65536 / 2141 = (5 * a + 461) % 153 / 5 := by
 obtain ⟨n, rfl⟩ : ∃ n : Nat, a = n := ⟨a.toNat, by omega⟩
 exact yday_all ⟨n, by omega⟩
theorem ydaySplit_any (a : Int) (h0 : 0 ≤ a) (h1 : a ≤ 365) (w : World) :
  Calls Tryz.prog 264 #[.int .i64 a] w fun e w' => e = .returned (.tuple #[.int .i64 ((5 * a + 461) / 153), .int .i64 (1 + (5 * a + 461) % 153 / 5)]) ∧ w = w' := by
 obtain ⟨e1, e2⟩ := yday_eq a h0 h1
 have hand : bits .and .u32 (2141 * a + 197913) 65535 = (2141 * a + 197913) % 65536 := and16_u32 (by omega) (by omega)
 have E1 := Lib.hid e1
 have E2 := Lib.hid e2
 clear e1 e2
 go_enter Tryz.func264, Tryz.ntmps264
 go_wp2
 go_ret2
 exact ⟨by rw [← E1.out, ← E2.out]; rfl, rfl⟩
theorem janFeb_any (A : Int) (w : World) :
  Calls Tryz.prog 266 #[.int .i64 (aydA A)] w fun e w' => e = .returned (.int .i64 (jfA A)) ∧ w = w' := by
 have hj : jfA A = if 306 ≤ aydA A then 1 else 0 := rfl
 generalize aydA A = a at *
 by_cases h : 306 ≤ a
 ·rw [if_pos h] at hj
  rw [hj]
  clear hj
  go_enter Tryz.func266, Tryz.ntmps266
  go_wp2
  go_ret
  exact ⟨rfl, rfl⟩
 ·rw [if_neg h] at hj
  rw [hj]
  clear hj
  go_enter Tryz.func266, Tryz.ntmps266
  go_wp2
  go_ret
  exact ⟨rfl, rfl⟩
theorem parts_bd (A : Int) : 0 ≤ cyA A ∧ cyA A ≤ 99 ∧ 0 ≤ aydA A ∧ aydA A ≤ 365 ∧ 0 ≤ jfA A ∧ jfA A ≤ 1 ∧ 4 ≤ (5 * aydA A + 461) / 153 - 1 + 2 ∧ (5 * aydA A + 461) / 153 ≤ 14 := by
 obtain ⟨-, p2, p3⟩ := cen_parts A
 have h := cy_parts _ p2 p3
 have hcd : cdA A = (4 * A + 3) % 146097 / 4 * 4 + 3 := rfl
 obtain ⟨_, c0, c1, a0, a1, _⟩ := h
 rw [← hcd] at c0 c1 a0 a1
 have hj : jfA A = if 306 ≤ aydA A then 1 else 0 := rfl
 refine ⟨c0, c1, a0, a1, by rw [hj]; split <;> omega, by rw [hj]; split <;> omega, ?_, ?_⟩ <;> unfold aydA at * <;> omega
theorem year_any (A : Int) (h : AOk A) (w : World) :
  Calls Tryz.prog 267 #[.int .u64 (cenA A), .int .i64 (cyA A), .int .i64 (jfA A)] w fun e w' => e = .returned (.int .i64 (yearA A)) ∧ w = w' := by
 obtain ⟨h0, h1⟩ := h
 obtain ⟨b0, b1, _, _, j0, j1, _, _⟩ := parts_bd A
 have c0 : 2922770224 ≤ cenA A := by unfold cenA; omega
 have c1 : cenA A ≤ 27380000000 := by unfold cenA; omega
 have HY : Hid (yearA A = cenA A * 100 - 292277022400 + cyA A + jfA A) := Lib.hid rfl
 generalize cenA A = c at *
 generalize cyA A = y at *
 generalize jfA A = j at *
 go_enter Tryz.func267, Tryz.ntmps267
 go_wp2
 go_ret
 exact ⟨by rw [HY.out]; rfl, rfl⟩
theorem month_any (A : Int) (w : World) :
  Calls Tryz.prog 268 #[.int .i64 ((5 * aydA A + 461) / 153), .int .i64 (jfA A)] w fun e w' => e = .returned (.int .i64 (monthA A)) ∧ w = w' := by
 obtain ⟨_, _, a0, a1, j0, j1, m0, m1⟩ := parts_bd A
 have HM : Hid (monthA A = (5 * aydA A + 461) / 153 - jfA A * 12) := Lib.hid (by unfold monthA amA; omega)
 generalize (5 * aydA A + 461) / 153 = m at *
 generalize jfA A = j at *
 go_enter Tryz.func268, Tryz.ntmps268
 go_wp2
 go_ret
 exact ⟨by rw [HM.out]; rfl, rfl⟩
theorem weekday_any (A : Int) (h0 : 0 ≤ A) (h1 : A ≤ 1000000000000000) (w : World) :
  Calls Tryz.prog 281 #[.int .u64 A] w fun e w' => e = .returned (.int .i64 ((A + 3) % 7)) ∧ w = w' := by
 go_enter Tryz.func281, Tryz.ntmps281
 go_wp2
 go_ret
 exact ⟨rfl, rfl⟩
theorem absClock_any (a : Int) (h0 : 0 ≤ a) (h1 : a ≤ 18446744073709551615) (w : World) :
  Calls Tryz.prog 280 #[.int .u64 a] w fun e w' => e = .returned (.tuple #[.int .i64 (a % 86400 / 3600), .int .i64 (a % 3600 / 60), .int .i64 (a % 60)]) ∧ w = w' := by
 have E1 : Hid (((a % 86400) - (a % 86400 / 3600) * 3600) / 60 = a % 3600 / 60) := Lib.hid (by omega)
 have E2 : Hid ((a % 86400) - (a % 86400 / 3600) * 3600 - (((a % 86400) - (a % 86400 / 3600) * 3600) / 60) * 60 = a % 60) := Lib.hid (by omega)
 have s0 : 0 ≤ a % 86400 := by omega
 have s1 : a % 86400 ≤ 86399 := by omega
 go_enter Tryz.func280, Tryz.ntmps280
 go_wp2
 go_ret3
 refine ⟨?_, rfl⟩
 rw [← E2.out, ← E1.out]
 rfl
theorem dateA_any (A : Int) (h : AOk A) (w : World) :
  Calls Tryz.prog 279 #[.int .u64 A] w fun e w' => e = .returned (.tuple #[.int .i64 (yearA A), .int .i64 (monthA A), .int .i64 (mdayA A)]) ∧ w = w' := by
 have hb := parts_bd A
 have H1 := Lib.hid (fun w => split_any A (by have := h.1; omega) h.2 w)
 have H2 := Lib.hid (fun w => ydaySplit_any (aydA A) hb.2.2.1 hb.2.2.2.1 w)
 have H3 := Lib.hid (fun w => janFeb_any A w)
 have H4 := Lib.hid (fun w => year_any A h w)
 have H5 := Lib.hid (fun w => month_any A w)
 have HD : Hid (mdayA A = 1 + (5 * aydA A + 461) % 153 / 5) := Lib.hid rfl
 rw [HD.out]
 clear hb h HD
 generalize cenA A = c at *
 generalize cyA A = cy at *
 generalize (5 * aydA A + 461) / 153 = m at *
 generalize 1 + (5 * aydA A + 461) % 153 / 5 = d at *
 generalize aydA A = a at *
 generalize jfA A = j at *
 generalize yearA A = y at *
 generalize monthA A = mo at *
 go_enter Tryz.func279, Tryz.ntmps279
 go_wp2_with fail
 refine (H1.out _).mono ?_
 rintro e w1 ⟨rfl, rfl⟩
 go_wp2_with fail
 refine (H2.out _).mono ?_
 rintro e w1 ⟨rfl, rfl⟩
 go_wp2_with fail
 refine (H3.out _).mono ?_
 rintro e w1 ⟨rfl, rfl⟩
 go_wp2_with fail
 refine (H4.out _).mono ?_
 rintro e w1 ⟨rfl, rfl⟩
 go_wp2_with fail
 refine (H5.out _).mono ?_
 rintro e w1 ⟨rfl, rfl⟩
 go_wp2_with fail
 go_ret3
 exact ⟨rfl, rfl⟩
end Go.Proofs.YtmecbmgfacpecaaGreatDoor.Cal
namespace Go.Proofs.YtmecbmgfacpecaaGreatDoor.Cal
open Go Go.RowKit
set_option linter.unusedVariables false
set_option linter.unusedSimpArgs false
theorem and_hi {x : Int} (h0 : 0 ≤ x) (h1 : x < 9223372036854775808) : bits .and .u64 x 9223372036854775808 = 0 := by
 obtain ⟨n, rfl⟩ : ∃ n : Nat, x = n := ⟨x.toNat, by omega⟩
 have e : IntKind.u64.bits = 64 := rfl
 have hn : n % 2 ^ 64 = n := Nat.mod_eq_of_lt (by omega)
 have h3 : n &&& 2 ^ 63 = 0 := by
  apply Nat.eq_of_testBit_eq
  intro i
  rw [Nat.testBit_and, Nat.testBit_two_pow, Nat.zero_testBit]
  by_cases hi : 63 = i
  ·subst hi
   rw [Nat.testBit_lt_two_pow (by omega)]
   rfl
  ·rw [decide_eq_false hi, Bool.and_false]
 unfold bits
 rw [e]
 show IntKind.u64.wrap ((BitVec.ofInt 64 (n : Int) &&& BitVec.ofInt 64 ((9223372036854775808 : Nat) : Int)).toNat : Int) = _
 rw [BitVec.ofInt_natCast, BitVec.ofInt_natCast, BitVec.toNat_and, BitVec.toNat_ofNat, BitVec.toNat_ofNat, hn, show (9223372036854775808 : Nat) % 2 ^ 64 = 2 ^ 63 from rfl, h3]
 rfl
theorem and_low {x : Int} (h0 : 0 ≤ x) (h1 : x < 1073741824) : bits .and .u64 x 1073741823 = x := by
 obtain ⟨n, rfl⟩ : ∃ n : Nat, x = n := ⟨x.toNat, by omega⟩
 have e : IntKind.u64.bits = 64 := rfl
 have h3 := Nat.and_two_pow_sub_one_eq_mod n 30
 have hn : n % 2 ^ 64 = n := Nat.mod_eq_of_lt (by omega)
 unfold bits
 rw [e]
 show IntKind.u64.wrap ((BitVec.ofInt 64 (n : Int) &&& BitVec.ofInt 64 ((1073741823 : Nat) : Int)).toNat : Int) = _
 rw [BitVec.ofInt_natCast, BitVec.ofInt_natCast, BitVec.toNat_and, BitVec.toNat_ofNat, BitVec.toNat_ofNat, hn, show (1073741823 : Nat) % 2 ^ 64 = 2 ^ 30 - 1 from rfl, h3, IntKind.wrap_u64]
 omega
theorem andNot_low {x : Int} (h0 : 0 ≤ x) (h1 : x < 1073741824) : bits .andNot .u64 x 1073741823 = 0 := by
 obtain ⟨n, rfl⟩ : ∃ n : Nat, x = n := ⟨x.toNat, by omega⟩
 have e : IntKind.u64.bits = 64 := rfl
 have hn : n % 2 ^ 64 = n := Nat.mod_eq_of_lt (by omega)
 unfold bits
 rw [e]
 show IntKind.u64.wrap ((BitVec.ofInt 64 (n : Int) &&& ~~~ BitVec.ofInt 64 ((1073741823 : Nat) : Int)).toNat : Int) = _
 have hz : (BitVec.ofInt 64 (n : Int) &&& ~~~ BitVec.ofInt 64 ((1073741823 : Nat) : Int)) = 0#64 := by
  apply BitVec.eq_of_getLsbD_eq
  intro i hi
  rw [BitVec.ofInt_natCast, BitVec.ofInt_natCast, BitVec.getLsbD_and, BitVec.getLsbD_not, BitVec.getLsbD_ofNat, BitVec.getLsbD_ofNat, BitVec.getLsbD_zero]
  by_cases h30 : i < 30
  ·have : Nat.testBit 1073741823 i = true := by
    have := Nat.testBit_two_pow_sub_one 30 i
    rw [decide_eq_true h30] at this
    exact this
   simp [this, hi]
  ·have : n.testBit i = false := Nat.testBit_lt_two_pow (Nat.lt_of_lt_of_le (show n < 2 ^ 30 by omega) (Nat.pow_le_pow_right (by omega) (by omega)))
   simp [this]
 rw [hz]
 rfl
def tv (n e : Int) (l : Option Addr) : Value := .agg #[.int .u64 n, .int .i64 e, .pointer l]
theorem sec_any (g : Nat) (n e : Int) (w : World) (h0 : 0 ≤ n) (h1 : n < 1073741824) (hc0 : w.cell? ⟨g, 0, none⟩ = some (.int .u64 n)) (hc1 : w.cell? ⟨g, 1, none⟩ = some (.int .i64 e)) :
  Calls Tryz.prog 216 #[.pointer (some ⟨g, 0, none⟩)] w fun e' w' => e' = .returned (.int .i64 e) ∧ w = w' := by
 have hand := and_hi (x := n) h0 (by omega)
 go_enter Tryz.func216, Tryz.ntmps216
 go_wp2_with fail
 go_ret
 exact ⟨rfl, rfl⟩
theorem unixSec_any (g : Nat) (n e : Int) (w : World) (h0 : 0 ≤ n) (h1 : n < 1073741824) (he0 : -1000000 ≤ e) (he1 : e ≤ 1000000000000) (hc0 : w.cell? ⟨g, 0, none⟩ = some (.int .u64 n)) (hc1 : w.cell? ⟨g, 1, none⟩ = some (.int .i64 e)) :
  Calls Tryz.prog 194 #[.pointer (some ⟨g, 0, none⟩)] w fun e' w' => e' = .returned (.int .i64 (e - 62135596800)) ∧ w = w' := by
 have H := Lib.hid (sec_any g n e w h0 h1 hc0 hc1)
 go_enter Tryz.func194, Tryz.ntmps194
 go_wp2_with fail
 refine H.out.mono ?_
 rintro e' w' ⟨rfl, rfl⟩
 go_wp2_with fail
 go_ret
 exact ⟨rfl, rfl⟩
theorem nsec_any (g : Nat) (n : Int) (w : World) (h0 : 0 ≤ n) (h1 : n < 1073741824) (hc0 : w.cell? ⟨g, 0, none⟩ = some (.int .u64 n)) :
  Calls Tryz.prog 195 #[.pointer (some ⟨g, 0, none⟩)] w fun e' w' => e' = .returned (.int .i32 n) ∧ w = w' := by
 have hand := and_low h0 h1
 go_enter Tryz.func195, Tryz.ntmps195
 go_wp2_with fail
 go_ret
 exact ⟨rfl, rfl⟩
theorem utc_any (w : World) :
  Calls Tryz.prog 125 #[] w fun e' w' => e' = .returned (.pointer (some ⟨w.heap.size, 0, none⟩)) ∧ w'.cell? ⟨w.heap.size, 0, none⟩ = some (.bool true) ∧ w'.cell? ⟨w.heap.size, 2, none⟩ = some (.slice none 0 0) ∧ Below w.heap.size w w' ∧ w.heap.size < w'.heap.size := by
 go_enter Tryz.func125, Tryz.ntmps125
 go_wp2_with fail
 go_ret
 refine ⟨rfl, by simp [go_sem], by simp [go_sem], (Below.refl _ _).alloc (Nat.le_refl _) _, by simp⟩
theorem strip_any (g : Nat) (n : Int) (w : World) (h0 : 0 ≤ n) (h1 : n < 1073741824) (hc0 : w.cell? ⟨g, 0, none⟩ = some (.int .u64 n)) :
  Calls Tryz.prog 196 #[.pointer (some ⟨g, 0, none⟩)] w fun e' w' => e' = .returned (.tuple #[]) ∧ w = w' := by
 have hand := and_hi (x := n) h0 (by omega)
 go_enter Tryz.func196, Tryz.ntmps196
 go_wp2_with fail
 refine bodyPost_end (results_none rfl _ _ _) rfl ?_
 exact ⟨rfl, rfl⟩
def UtcAt (w : World) (g : Nat) : Prop := w.cell? ⟨g, 0, none⟩ = some (.bool true) ∧ w.cell? ⟨g, 2, none⟩ = some (.slice none 0 0) ∧ g < w.heap.size
theorem UtcAt.below {w w' : World} {g : Nat} (h : UtcAt w g) (hb : Below w.heap.size w w') : UtcAt w' g :=
 ⟨(hb.cell (p := ⟨g, 0, none⟩) h.2.2).trans h.1, (hb.cell (p := ⟨g, 2, none⟩) h.2.2).trans h.2.1, Nat.lt_of_lt_of_le h.2.2 hb.size⟩
theorem setLocUtc_any (g k : Nat) (n : Int) (l : Option Addr) (w : World) (h0 : 0 ≤ n) (h1 : n < 1073741824) (hc0 : w.cell? ⟨g, 0, none⟩ = some (.int .u64 n)) (hc2 : w.cell? ⟨g, 2, none⟩ = some (.pointer l)) (hf2 : w.frozen? ⟨g, 2, none⟩ = false) (hu : UtcAt w k) :
  Calls Tryz.prog 161 #[.pointer (some ⟨g, 0, none⟩), .pointer (some ⟨k, 0, none⟩)] w fun e' w' => e' = .returned (.tuple #[]) ∧ w' = w.setCell ⟨g, 2, none⟩ (.pointer none) := by
 have H := Lib.hid (strip_any g n w h0 h1 hc0)
 obtain ⟨hu0, _, _⟩ := hu
 go_enter Tryz.func161, Tryz.ntmps161
 go_wp2_with fail
 refine H.out.mono ?_
 rintro e' w' ⟨rfl, rfl⟩
 go_wp2_with fail
 refine bodyPost_end (results_none rfl _ _ _) rfl ?_
 exact ⟨rfl, rfl⟩
theorem addSec_any (g : Nat) (n e d : Int) (w : World) (h0 : 0 ≤ n) (h1 : n < 1073741824) (he0 : -1000000 ≤ e) (he1 : e ≤ 1000000000000) (hd0 : -1000000000 ≤ d) (hd1 : d ≤ 1000000000)
  (hc0 : w.cell? ⟨g, 0, none⟩ = some (.int .u64 n)) (hc1 : w.cell? ⟨g, 1, none⟩ = some (.int .i64 e)) (hf1 : w.frozen? ⟨g, 1, none⟩ = false) :
  Calls Tryz.prog 265 #[.pointer (some ⟨g, 0, none⟩), .int .i64 d] w fun e' w' => e' = .returned (.tuple #[]) ∧ w' = w.setCell ⟨g, 1, none⟩ (.int .i64 (e + d)) := by
 have hand := and_hi (x := n) h0 (by omega)
 by_cases hd : 0 < d
 ·have hgt : e < e + d := by omega
  go_enter Tryz.func265, Tryz.ntmps265
  go_wp2_with fail
  refine bodyPost_end (results_none rfl _ _ _) rfl ?_
  exact ⟨rfl, rfl⟩
 ·have hgt : ¬ e < e + d := by omega
  go_enter Tryz.func265, Tryz.ntmps265
  go_wp2_with fail
  refine bodyPost_end (results_none rfl _ _ _) rfl ?_
  exact ⟨rfl, rfl⟩
theorem unixTime_any (s n : Int) (h0 : 0 ≤ n) (h1 : n < 1000000000) (hs0 : -1000000000000 ≤ s) (hs1 : s ≤ 1000000000000) (w : World) :
  Calls Tryz.prog 160 #[.int .i64 s, .int .i32 n] w fun e' w' => e' = .returned (tv n (s + 62135596800) none) ∧ Below w.heap.size w w' := by
 go_enter Tryz.func160, Tryz.ntmps160
 go_wp2_with fail
 exact bodyPost_ret (v := tv n (s + 62135596800) none) (by simp [results, Tryz.results160, go_sem, tv]) rfl ⟨rfl, ((Below.refl _ _).alloc (Nat.le_refl _) _)⟩
end Go.Proofs.YtmecbmgfacpecaaGreatDoor.Cal
namespace Go.Proofs.YtmecbmgfacpecaaGreatDoor.Cal
open Go Go.RowKit
set_option linter.unusedVariables false
set_option linter.unusedSimpArgs false
theorem addFirst_any (n e : Int) (l : Option Addr) (h0 : 0 ≤ n) (h1 : n < 1000000000) (he0 : -1000000 ≤ e) (he1 : e ≤ 900000000000) (w : World) :
  Calls Tryz.prog 251 #[tv n e l, .int .i64 (1000000000 - n)] w fun e' w' => e' = .returned (tv 0 (e + 1) l) ∧ Below w.heap.size w w' := by
 unfold tv
 have HN := Lib.hid (fun (g : Nat) w' hc => nsec_any g n w' h0 (by omega) hc)
 have HA := Lib.hid (fun (g : Nat) w' hc0 hc1 hf => addSec_any g 0 e 1 w' (by omega) (by omega) he0 (by omega) (by omega) (by omega) hc0 hc1 hf)
 have hno := andNot_low (x := n) h0 (by omega)
 have hor : bits .or .u64 0 0 = 0 := by decide
 have hand := and_hi (x := 0) (by omega) (by omega)
 by_cases hn : n = 0
 ·subst hn
  go_enter Tryz.func251, Tryz.ntmps251
  go_wp2_with fail
  refine (HN.out _ _ (by simp [go_sem])).mono ?_
  rintro e' w' ⟨rfl, rfl⟩
  go_wp2_with fail
  refine (HA.out w.heap.size _ (by simp [go_sem]) (by simp [go_sem]) (by simp [go_sem])).mono ?_
  rintro e' w' ⟨rfl, rfl⟩
  go_wp2_with fail
  exact bodyPost_ret (v := .agg #[.int .u64 0, .int .i64 (e + 1), .pointer l]) (by simp [results, Tryz.results251, go_sem]) rfl ⟨rfl, by go_grown⟩
 ·go_enter Tryz.func251, Tryz.ntmps251
  go_wp2_with fail
  refine (HN.out _ _ (by simp [go_sem])).mono ?_
  rintro e' w' ⟨rfl, rfl⟩
  have r1 : (1000000000 - n) / 1000000000 + 1 = 1 := by omega
  have r2 : n + (1000000000 - n) - 1000000000 = 0 := by omega
  have hq : (1000000000 - n).tdiv 1000000000 = 0 := by
   rw [Int.tdiv_eq_ediv_of_nonneg (by omega)]
   omega
  have hm : (1000000000 - n).tmod 1000000000 = 1000000000 - n := by
   rw [Int.tmod_eq_emod_of_nonneg (by omega)]
   omega
  have R1 := Lib.hid r1
  have R2 := Lib.hid r2
  clear r1 r2
  go_wp2_with fail
  simp only [R1.out, R2.out, hor]
  refine (HA.out w.heap.size _ (by simp [go_sem]) (by simp [go_sem]) (by simp [go_sem])).mono ?_
  rintro e' w' ⟨rfl, rfl⟩
  go_wp2_with fail
  exact bodyPost_ret (v := .agg #[.int .u64 0, .int .i64 (e + 1), .pointer l]) (by simp [results, Tryz.results251, go_sem]) rfl ⟨rfl, by go_grown⟩
theorem addWhole_any (k e : Int) (l : Option Addr) (he0 : -1000000 ≤ e) (he1 : e ≤ 900000000000) (hk0 : -1000000 ≤ k) (hk1 : k ≤ 1000000) (w : World) :
  Calls Tryz.prog 251 #[tv 0 e l, .int .i64 (1000000000 * k)] w fun e' w' => e' = .returned (tv 0 (e + k) l) ∧ Below w.heap.size w w' := by
 unfold tv
 have HN := Lib.hid (fun (g : Nat) w' hc => nsec_any g 0 w' (by omega) (by omega) hc)
 have HA := Lib.hid (fun (g : Nat) w' hc0 hc1 hf => addSec_any g 0 e k w' (by omega) (by omega) he0 (by omega) (by omega) (by omega) hc0 hc1 hf)
 have hno := andNot_low (x := 0) (by omega) (by omega)
 have hor : bits .or .u64 0 0 = 0 := by decide
 have hand := and_hi (x := 0) (by omega) (by omega)
 have hq : (1000000000 * k).tdiv 1000000000 = k := Int.mul_tdiv_cancel_left _ (by omega)
 have hm : (1000000000 * k).tmod 1000000000 = 0 := Int.mul_tmod_right _ _
 go_enter Tryz.func251, Tryz.ntmps251
 go_wp2_with fail
 refine (HN.out _ _ (by simp [go_sem])).mono ?_
 rintro e' w' ⟨rfl, rfl⟩
 go_wp2_with fail
 refine (HA.out w.heap.size _ (by simp [go_sem]) (by simp [go_sem]) (by simp [go_sem])).mono ?_
 rintro e' w' ⟨rfl, rfl⟩
 go_wp2_with fail
 exact bodyPost_ret (v := .agg #[.int .u64 0, .int .i64 (e + k), .pointer l]) (by simp [results, Tryz.results251, go_sem]) rfl ⟨rfl, by go_grown⟩
theorem locUtc_any (n e : Int) (w : World) :
  Calls Tryz.prog 250 #[tv n e none] w fun e' w' => ∃ g, e' = .returned (.pointer (some ⟨g, 0, none⟩)) ∧ UtcAt w' g ∧ Below w.heap.size w w' ∧ w.heap.size ≤ g := by
 unfold tv
 go_enter Tryz.func250, Tryz.ntmps250
 go_wp2_with fail
 refine (utc_any _).mono ?_
 rintro e' w' ⟨rfl, h0, h2, hb, hlt⟩
 go_wp2_with fail
 go_ret
 have hg : (w.alloc (.cells #[.int .u64 n, .int .i64 e, .pointer none] 127)).heap.size = w.heap.size + 1 := by simp
 rw [hg] at h0 h2 hlt
 exact ⟨_, rfl, ⟨h0, h2, hlt⟩, ((Below.refl _ _).alloc (Nat.le_refl _) _).trans (hb.mono (by simp)), by simp⟩
theorem getNil_any (w : World) :
  Calls Tryz.prog 276 #[.pointer none] w fun e' w' => ∃ g, e' = .returned (.pointer (some ⟨g, 0, none⟩)) ∧ UtcAt w' g ∧ Below w.heap.size w w' ∧ w.heap.size ≤ g := by
 go_enter Tryz.func276, Tryz.ntmps276
 go_wp2_with fail
 refine (utc_any _).mono ?_
 rintro e' w' ⟨rfl, h0, h2, hb, hlt⟩
 go_wp2_with fail
 go_ret
 exact ⟨_, rfl, ⟨h0, h2, hlt⟩, hb, Nat.le_refl _⟩
theorem getUtc_any (g : Nat) (w : World) :
  Calls Tryz.prog 276 #[.pointer (some ⟨g, 0, none⟩)] w fun e' w' => e' = .returned (.pointer (some ⟨g, 0, none⟩)) ∧ w = w' := by
 go_enter Tryz.func276, Tryz.ntmps276
 go_wp2_with fail
 go_ret
 exact ⟨rfl, rfl⟩
theorem inUtc_any (n e : Int) (l : Option Addr) (k : Nat) (w : World) (h0 : 0 ≤ n) (h1 : n < 1073741824) (hu : UtcAt w k) :
  Calls Tryz.prog 124 #[tv n e l, .pointer (some ⟨k, 0, none⟩)] w fun e' w' => e' = .returned (tv n e none) ∧ Below w.heap.size w w' := by
 unfold tv
 have hlt := hu.2.2
 have HS := Lib.hid (fun (g : Nat) w' hc0 hc2 hf2 hu' => setLocUtc_any g k n l w' h0 h1 hc0 hc2 hf2 hu')
 go_enter Tryz.func124, Tryz.ntmps124
 go_wp2_with fail
 refine (HS.out w.heap.size _ (by simp [go_sem]) (by simp [go_sem]) (by simp [go_sem]) (hu.below (((Below.refl _ _).alloc (Nat.le_refl _) _).alloc (by simp) _))).mono ?_
 rintro e' w' ⟨rfl, rfl⟩
 go_wp2_with fail
 exact bodyPost_ret (v := .agg #[.int .u64 n, .int .i64 e, .pointer none]) (by simp [results, Tryz.results124, go_sem]) rfl ⟨rfl, by go_grown⟩
def EOk (e : Int) : Prop := -86400 ≤ e ∧ e ≤ 400000000000
theorem absSecUtc_any (n e : Int) (h0 : 0 ≤ n) (h1 : n < 1073741824) (he : EOk e) (w : World) :
  Calls Tryz.prog 261 #[tv n e none] w fun e' w' => e' = .returned (.int .u64 (e + 9223371966606163200)) ∧ Below w.heap.size w w' := by
 unfold tv
 obtain ⟨he0, he1⟩ := he
 have HU := Lib.hid (fun (g : Nat) w' hc0 hc1 => unixSec_any g n e w' h0 h1 (by omega) (by omega) hc0 hc1)
 have hG := Lib.hid getNil_any
 have E : e - 62135596800 + 9223372028741760000 = e + 9223371966606163200 := by omega
 have HE := Lib.hid E
 clear E
 by_cases hbig : e ≤ 70248612607
 ·skip
  go_enter Tryz.func261, Tryz.ntmps261
  go_wp2_with fail
  refine (hG.out _).mono ?_
  rintro e' w1 ⟨g, rfl, ⟨u0, u2, ult⟩, hb, hge⟩
  have hc0 : w1.cell? ⟨w.heap.size, 0, none⟩ = some (.int .u64 n) := (hb.cell (p := ⟨w.heap.size, 0, none⟩) (by simp)).trans (by simp [go_sem])
  have hc1 : w1.cell? ⟨w.heap.size, 1, none⟩ = some (.int .i64 e) := (hb.cell (p := ⟨w.heap.size, 1, none⟩) (by simp)).trans (by simp [go_sem])
  have HB := Lib.hid (((Below.refl w.heap.size w).alloc (Nat.le_refl _) _).trans (hb.mono (by simp)))
  clear hb hge
  go_wp2_with fail
  refine (HU.out _ _ hc0 hc1).mono ?_
  rintro e' w2 ⟨rfl, rfl⟩
  go_wp2_with fail
  go_ret
  refine ⟨?_, HB.out⟩
  rw [← HE.out]
  rfl
 ·skip
  go_enter Tryz.func261, Tryz.ntmps261
  go_wp2_with fail
  refine (hG.out _).mono ?_
  rintro e' w1 ⟨g, rfl, ⟨u0, u2, ult⟩, hb, hge⟩
  have hc0 : w1.cell? ⟨w.heap.size, 0, none⟩ = some (.int .u64 n) := (hb.cell (p := ⟨w.heap.size, 0, none⟩) (by simp)).trans (by simp [go_sem])
  have hc1 : w1.cell? ⟨w.heap.size, 1, none⟩ = some (.int .i64 e) := (hb.cell (p := ⟨w.heap.size, 1, none⟩) (by simp)).trans (by simp [go_sem])
  have HB := Lib.hid (((Below.refl w.heap.size w).alloc (Nat.le_refl _) _).trans (hb.mono (by simp)))
  clear hb hge
  go_wp2_with fail
  refine (HU.out _ _ hc0 hc1).mono ?_
  rintro e' w2 ⟨rfl, rfl⟩
  have HE2 : Hid (IntKind.u64.wrap (wrap64 (e - 62135596800 + 9223372028741760000)) = e + 9223371966606163200) := Lib.hid (by
   unfold wrap64
   rw [IntKind.wrap_u64]
   omega)
  go_wp2_with fail
  go_ret
  refine ⟨?_, HB.out⟩
  rw [← HE2.out]
  rfl
structure AbsSec (l : Option Addr) (off : Int) (Inv : World → Prop) : Prop where
 off0 : -90000 ≤ off
 off1 : off ≤ 90000
 keeps : ∀ {w w' : World}, Inv w → Below w.heap.size w w' → Inv w'
 calls : ∀ (n e : Int) (w : World), 0 ≤ n → n < 1073741824 → EOk e → Inv w →
  Calls Tryz.prog 261 #[tv n e l] w fun e' w' => e' = .returned (.int .u64 (e - 62135596800 + off + 9223372028741760000)) ∧ Below w.heap.size w w'
theorem absSec_utc : AbsSec none 0 (fun _ => True) :=
 ⟨by omega, by omega, fun _ _ => trivial, fun n e w h0 h1 he _ => (absSecUtc_any n e h0 h1 he w).mono fun e' w' ⟨h, hb⟩ => ⟨by rw [h, show e - 62135596800 + 0 + 9223372028741760000 = e + 9223371966606163200 by omega], hb⟩⟩
theorem l_days {e off : Int} (he : EOk e) (h0 : -90000 ≤ off) (h1 : off ≤ 90000) : (e - 62135596800 + off + 9223372028741760000) / 86400 = dayL (e - 62135596800 + off) + absK ∧ AOk (dayL (e - 62135596800 + off) + absK) ∧
  0 ≤ e - 62135596800 + off + 9223372028741760000 ∧ e - 62135596800 + off + 9223372028741760000 ≤ 18446744073709551615 := by
 obtain ⟨a, b⟩ := he
 unfold dayL absK AOk
 refine ⟨by omega, ⟨by omega, by omega⟩, by omega, by omega⟩
theorem tYear_any {l : Option Addr} {off : Int} {Inv : World → Prop} (H : AbsSec l off Inv) (n e : Int) (w : World) (h0 : 0 ≤ n) (h1 : n < 1073741824) (he : EOk e) (hI : Inv w) :
  Calls Tryz.prog 252 #[tv n e l] w fun e' w' => e' = .returned (.int .i64 (yearL (e - 62135596800 + off))) ∧ Below w.heap.size w w' := by
 obtain ⟨e1, e2, e3, e4⟩ := l_days he H.off0 H.off1
 have HA := Lib.hid (fun o => H.calls n e (w.alloc o) h0 h1 he (H.keeps hI ((Below.refl _ _).alloc (Nat.le_refl _) o)))
 have HD := Lib.hid (fun w' => absDays_any (e - 62135596800 + off + 9223372028741760000) e3 e4 w')
 rw [e1] at HD
 have HR : Hid (yearL (e - 62135596800 + off) = yearA (dayL (e - 62135596800 + off) + absK)) := Lib.hid (rfl)
 clear he hI H e1 e3 e4
 generalize e - 62135596800 + off = L at *
 generalize dayL L + absK = A at *
 have hb := parts_bd A
 have H1 := Lib.hid (fun w => split_any A (by have := e2.1; omega) e2.2 w)
 have H2 := Lib.hid (fun w => ydaySplit_any (aydA A) hb.2.2.1 hb.2.2.2.1 w)
 have H3 := Lib.hid (fun w => janFeb_any A w)
 have H4 := Lib.hid (fun w => year_any A e2 w)
 have H5 := Lib.hid (fun w => month_any A w)
 have H6 := Lib.hid (fun w => weekday_any A (by have := e2.1; omega) e2.2 w)
 clear hb
 rw [HR.out]
 unfold tv at *
 go_enter Tryz.func252, Tryz.ntmps252
 go_wp2_with fail
 refine (HA.out _).mono ?_
 rintro e' w1 ⟨rfl, hb1⟩
 have HB := Lib.hid (((Below.refl w.heap.size w).alloc (Nat.le_refl _) _).trans (hb1.mono (by simp)))
 clear hb1
 go_wp2_with fail
 refine (HD.out _).mono ?_
 rintro e' w2 ⟨rfl, rfl⟩
 go_wp2_with fail
 refine (H1.out _).mono ?_
 rintro e' w2 ⟨rfl, rfl⟩
 go_wp2_with fail
 refine (H3.out _).mono ?_
 rintro e' w2 ⟨rfl, rfl⟩
 go_wp2_with fail
 refine (H4.out _).mono ?_
 rintro e' w2 ⟨rfl, rfl⟩
 go_wp2_with fail
 go_ret
 exact ⟨rfl, HB.out⟩
theorem tMonth_any {l : Option Addr} {off : Int} {Inv : World → Prop} (H : AbsSec l off Inv) (n e : Int) (w : World) (h0 : 0 ≤ n) (h1 : n < 1073741824) (he : EOk e) (hI : Inv w) :
  Calls Tryz.prog 253 #[tv n e l] w fun e' w' => e' = .returned (.int .i64 (monthL (e - 62135596800 + off))) ∧ Below w.heap.size w w' := by
 obtain ⟨e1, e2, e3, e4⟩ := l_days he H.off0 H.off1
 have HA := Lib.hid (fun o => H.calls n e (w.alloc o) h0 h1 he (H.keeps hI ((Below.refl _ _).alloc (Nat.le_refl _) o)))
 have HD := Lib.hid (fun w' => absDays_any (e - 62135596800 + off + 9223372028741760000) e3 e4 w')
 rw [e1] at HD
 have HR : Hid (monthL (e - 62135596800 + off) = monthA (dayL (e - 62135596800 + off) + absK)) := Lib.hid (rfl)
 clear he hI H e1 e3 e4
 generalize e - 62135596800 + off = L at *
 generalize dayL L + absK = A at *
 have hb := parts_bd A
 have H1 := Lib.hid (fun w => split_any A (by have := e2.1; omega) e2.2 w)
 have H2 := Lib.hid (fun w => ydaySplit_any (aydA A) hb.2.2.1 hb.2.2.2.1 w)
 have H3 := Lib.hid (fun w => janFeb_any A w)
 have H4 := Lib.hid (fun w => year_any A e2 w)
 have H5 := Lib.hid (fun w => month_any A w)
 have H6 := Lib.hid (fun w => weekday_any A (by have := e2.1; omega) e2.2 w)
 clear hb
 rw [HR.out]
 unfold tv at *
 go_enter Tryz.func253, Tryz.ntmps253
 go_wp2_with fail
 refine (HA.out _).mono ?_
 rintro e' w1 ⟨rfl, hb1⟩
 have HB := Lib.hid (((Below.refl w.heap.size w).alloc (Nat.le_refl _) _).trans (hb1.mono (by simp)))
 clear hb1
 go_wp2_with fail
 refine (HD.out _).mono ?_
 rintro e' w2 ⟨rfl, rfl⟩
 go_wp2_with fail
 refine (H1.out _).mono ?_
 rintro e' w2 ⟨rfl, rfl⟩
 go_wp2_with fail
 refine (H2.out _).mono ?_
 rintro e' w2 ⟨rfl, rfl⟩
 go_wp2_with fail
 refine (H3.out _).mono ?_
 rintro e' w2 ⟨rfl, rfl⟩
 go_wp2_with fail
 refine (H5.out _).mono ?_
 rintro e' w2 ⟨rfl, rfl⟩
 go_wp2_with fail
 go_ret
 exact ⟨rfl, HB.out⟩
theorem tDay_any {l : Option Addr} {off : Int} {Inv : World → Prop} (H : AbsSec l off Inv) (n e : Int) (w : World) (h0 : 0 ≤ n) (h1 : n < 1073741824) (he : EOk e) (hI : Inv w) :
  Calls Tryz.prog 248 #[tv n e l] w fun e' w' => e' = .returned (.int .i64 (mdayL (e - 62135596800 + off))) ∧ Below w.heap.size w w' := by
 obtain ⟨e1, e2, e3, e4⟩ := l_days he H.off0 H.off1
 have HA := Lib.hid (fun o => H.calls n e (w.alloc o) h0 h1 he (H.keeps hI ((Below.refl _ _).alloc (Nat.le_refl _) o)))
 have HD := Lib.hid (fun w' => absDays_any (e - 62135596800 + off + 9223372028741760000) e3 e4 w')
 rw [e1] at HD
 have HR : Hid (mdayL (e - 62135596800 + off) = 1 + (5 * aydA (dayL (e - 62135596800 + off) + absK) + 461) % 153 / 5) := Lib.hid (rfl)
 clear he hI H e1 e3 e4
 generalize e - 62135596800 + off = L at *
 generalize dayL L + absK = A at *
 have hb := parts_bd A
 have H1 := Lib.hid (fun w => split_any A (by have := e2.1; omega) e2.2 w)
 have H2 := Lib.hid (fun w => ydaySplit_any (aydA A) hb.2.2.1 hb.2.2.2.1 w)
 have H3 := Lib.hid (fun w => janFeb_any A w)
 have H4 := Lib.hid (fun w => year_any A e2 w)
 have H5 := Lib.hid (fun w => month_any A w)
 have H6 := Lib.hid (fun w => weekday_any A (by have := e2.1; omega) e2.2 w)
 clear hb
 rw [HR.out]
 unfold tv at *
 go_enter Tryz.func248, Tryz.ntmps248
 go_wp2_with fail
 refine (HA.out _).mono ?_
 rintro e' w1 ⟨rfl, hb1⟩
 have HB := Lib.hid (((Below.refl w.heap.size w).alloc (Nat.le_refl _) _).trans (hb1.mono (by simp)))
 clear hb1
 go_wp2_with fail
 refine (HD.out _).mono ?_
 rintro e' w2 ⟨rfl, rfl⟩
 go_wp2_with fail
 refine (H1.out _).mono ?_
 rintro e' w2 ⟨rfl, rfl⟩
 go_wp2_with fail
 refine (H2.out _).mono ?_
 rintro e' w2 ⟨rfl, rfl⟩
 go_wp2_with fail
 go_ret
 exact ⟨rfl, HB.out⟩
theorem tWeekday_any {l : Option Addr} {off : Int} {Inv : World → Prop} (H : AbsSec l off Inv) (n e : Int) (w : World) (h0 : 0 ≤ n) (h1 : n < 1073741824) (he : EOk e) (hI : Inv w) :
  Calls Tryz.prog 274 #[tv n e l] w fun e' w' => e' = .returned (.int .i64 (wdL (e - 62135596800 + off))) ∧ Below w.heap.size w w' := by
 obtain ⟨e1, e2, e3, e4⟩ := l_days he H.off0 H.off1
 have HA := Lib.hid (fun o => H.calls n e (w.alloc o) h0 h1 he (H.keeps hI ((Below.refl _ _).alloc (Nat.le_refl _) o)))
 have HD := Lib.hid (fun w' => absDays_any (e - 62135596800 + off + 9223372028741760000) e3 e4 w')
 rw [e1] at HD
 have HR : Hid (wdL (e - 62135596800 + off) = (dayL (e - 62135596800 + off) + absK + 3) % 7) := Lib.hid (by unfold wdL; rw [week_is]; congr 1; omega)
 clear he hI H e1 e3 e4
 generalize e - 62135596800 + off = L at *
 generalize dayL L + absK = A at *
 have hb := parts_bd A
 have H1 := Lib.hid (fun w => split_any A (by have := e2.1; omega) e2.2 w)
 have H2 := Lib.hid (fun w => ydaySplit_any (aydA A) hb.2.2.1 hb.2.2.2.1 w)
 have H3 := Lib.hid (fun w => janFeb_any A w)
 have H4 := Lib.hid (fun w => year_any A e2 w)
 have H5 := Lib.hid (fun w => month_any A w)
 have H6 := Lib.hid (fun w => weekday_any A (by have := e2.1; omega) e2.2 w)
 clear hb
 rw [HR.out]
 unfold tv at *
 go_enter Tryz.func274, Tryz.ntmps274
 go_wp2_with fail
 refine (HA.out _).mono ?_
 rintro e' w1 ⟨rfl, hb1⟩
 have HB := Lib.hid (((Below.refl w.heap.size w).alloc (Nat.le_refl _) _).trans (hb1.mono (by simp)))
 clear hb1
 go_wp2_with fail
 refine (HD.out _).mono ?_
 rintro e' w2 ⟨rfl, rfl⟩
 go_wp2_with fail
 refine (H6.out _).mono ?_
 rintro e' w2 ⟨rfl, rfl⟩
 go_wp2_with fail
 go_ret
 exact ⟨rfl, HB.out⟩
theorem tHour_any {l : Option Addr} {off : Int} {Inv : World → Prop} (H : AbsSec l off Inv) (n e : Int) (w : World) (h0 : 0 ≤ n) (h1 : n < 1073741824) (he : EOk e) (hI : Inv w) :
  Calls Tryz.prog 257 #[tv n e l] w fun e' w' => e' = .returned (.int .i64 (hourL (e - 62135596800 + off))) ∧ Below w.heap.size w w' := by
 obtain ⟨-, -, e3, e4⟩ := l_days he H.off0 H.off1
 have HA := Lib.hid (fun o => H.calls n e (w.alloc o) h0 h1 he (H.keeps hI ((Below.refl _ _).alloc (Nat.le_refl _) o)))
 have HR : Hid (hourL (e - 62135596800 + off) = (e - 62135596800 + off + 9223372028741760000) % 86400 / 3600) := Lib.hid (by unfold hourL; omega)
 clear he hI H
 generalize e - 62135596800 + off = L at *
 rw [HR.out]
 unfold tv at *
 go_enter Tryz.func257, Tryz.ntmps257
 go_wp2_with fail
 refine (HA.out _).mono ?_
 rintro e' w1 ⟨rfl, hb1⟩
 have HB := Lib.hid (((Below.refl w.heap.size w).alloc (Nat.le_refl _) _).trans (hb1.mono (by simp)))
 clear hb1
 go_wp2_with fail
 go_ret
 exact ⟨rfl, HB.out⟩
theorem tMinute_any {l : Option Addr} {off : Int} {Inv : World → Prop} (H : AbsSec l off Inv) (n e : Int) (w : World) (h0 : 0 ≤ n) (h1 : n < 1073741824) (he : EOk e) (hI : Inv w) :
  Calls Tryz.prog 258 #[tv n e l] w fun e' w' => e' = .returned (.int .i64 (minL (e - 62135596800 + off))) ∧ Below w.heap.size w w' := by
 obtain ⟨-, -, e3, e4⟩ := l_days he H.off0 H.off1
 have HA := Lib.hid (fun o => H.calls n e (w.alloc o) h0 h1 he (H.keeps hI ((Below.refl _ _).alloc (Nat.le_refl _) o)))
 have HR : Hid (minL (e - 62135596800 + off) = (e - 62135596800 + off + 9223372028741760000) % 3600 / 60) := Lib.hid (by unfold minL; omega)
 clear he hI H
 generalize e - 62135596800 + off = L at *
 rw [HR.out]
 unfold tv at *
 go_enter Tryz.func258, Tryz.ntmps258
 go_wp2_with fail
 refine (HA.out _).mono ?_
 rintro e' w1 ⟨rfl, hb1⟩
 have HB := Lib.hid (((Below.refl w.heap.size w).alloc (Nat.le_refl _) _).trans (hb1.mono (by simp)))
 clear hb1
 go_wp2_with fail
 go_ret
 exact ⟨rfl, HB.out⟩
theorem tSecond_any {l : Option Addr} {off : Int} {Inv : World → Prop} (H : AbsSec l off Inv) (n e : Int) (w : World) (h0 : 0 ≤ n) (h1 : n < 1073741824) (he : EOk e) (hI : Inv w) :
  Calls Tryz.prog 260 #[tv n e l] w fun e' w' => e' = .returned (.int .i64 (secL (e - 62135596800 + off))) ∧ Below w.heap.size w w' := by
 obtain ⟨-, -, e3, e4⟩ := l_days he H.off0 H.off1
 have HA := Lib.hid (fun o => H.calls n e (w.alloc o) h0 h1 he (H.keeps hI ((Below.refl _ _).alloc (Nat.le_refl _) o)))
 have HR : Hid (secL (e - 62135596800 + off) = (e - 62135596800 + off + 9223372028741760000) % 60) := Lib.hid (by unfold secL; omega)
 clear he hI H
 generalize e - 62135596800 + off = L at *
 rw [HR.out]
 unfold tv at *
 go_enter Tryz.func260, Tryz.ntmps260
 go_wp2_with fail
 refine (HA.out _).mono ?_
 rintro e' w1 ⟨rfl, hb1⟩
 have HB := Lib.hid (((Below.refl w.heap.size w).alloc (Nat.le_refl _) _).trans (hb1.mono (by simp)))
 clear hb1
 go_wp2_with fail
 go_ret
 exact ⟨rfl, HB.out⟩
end Go.Proofs.YtmecbmgfacpecaaGreatDoor.Cal
namespace Go.Proofs.YtmecbmgfacpecaaGreatDoor.Cal
open Go Go.RowKit
set_option linter.unusedVariables false
set_option linter.unusedSimpArgs false
theorem norm_in (hi lo base : Int) (h0 : 0 ≤ lo) (h1 : lo < base) (w : World) :
  Calls Tryz.prog 269 #[.int .i64 hi, .int .i64 lo, .int .i64 base] w fun e w' => e = .returned (.tuple #[.int .i64 hi, .int .i64 lo]) ∧ w = w' := by
 have h2 : ¬ base ≤ lo := by omega
 go_enter Tryz.func269, Tryz.ntmps269
 go_wp2
 go_ret2
 exact ⟨rfl, rfl⟩
theorem norm_12 (hi : Int) (h0 : -1000000 ≤ hi) (h1 : hi ≤ 1000000) (w : World) :
  Calls Tryz.prog 269 #[.int .i64 hi, .int .i64 12, .int .i64 12] w fun e w' => e = .returned (.tuple #[.int .i64 (hi + 1), .int .i64 0]) ∧ w = w' := by
 go_enter Tryz.func269, Tryz.ntmps269
 go_wp2
 go_ret2
 exact ⟨rfl, rfl⟩
theorem dateToAbs_any (y m d : Int) (y0 : 0 ≤ y) (y1 : y ≤ 20000) (m0 : 1 ≤ m) (m1 : m ≤ 12) (d0 : 1 ≤ d) (d1 : d ≤ 40) (hy : m < 3 → 1 ≤ y) (w : World) :
  Calls Tryz.prog 270 #[.int .i64 y, .int .i64 m, .int .i64 d] w fun e w' => e = .returned (.int .u64 (dayOf y m d + absK)) ∧ w = w' := by
 have ha := absDay_is y m d m0 m1
 have HA := Lib.hid ha
 have HU : Hid (absDay y m d = 146097 * ((y - (if m < 3 then 1 else 0) + 292277022400) / 100) / 4 + (1461 * ((y - (if m < 3 then 1 else 0) + 292277022400) % 100) / 4 + (979 * (m + 12 * (if m < 3 then 1 else 0)) - 2919) / 32 + d - 1)) := Lib.hid rfl
 clear ha
 by_cases h : m < 3
 ·have HV : Hid (dayOf y m d + absK = 146097 * ((y - 1 + 292277022400) / 100) / 4 + (1461 * ((y - 1 + 292277022400) % 100) / 4 + (979 * (m + 12) - 2919) / 32 + d - 1)) := Lib.hid (by rw [← HA.out, HU.out, if_pos h]; omega)
  clear HA HU
  rw [HV.out]
  have hy1 := hy h
  have s1 : 0 ≤ 1461 * ((y - 1 + 292277022400) % 100) / 4 + (979 * (m + 12) - 2919) / 32 + d - 1 := by omega
  have s2 : 1461 * ((y - 1 + 292277022400) % 100) / 4 + (979 * (m + 12) - 2919) / 32 + d - 1 ≤ 100000 := by omega
  clear hy
  go_enter Tryz.func270, Tryz.ntmps270
  go_wp2
  go_ret
  exact ⟨rfl, rfl⟩
 ·have HV : Hid (dayOf y m d + absK = 146097 * ((y + 292277022400) / 100) / 4 + (1461 * ((y + 292277022400) % 100) / 4 + (979 * m - 2919) / 32 + d - 1)) := Lib.hid (by rw [← HA.out, HU.out, if_neg h]; simp)
  clear HA HU
  rw [HV.out]
  have s1 : 0 ≤ 1461 * ((y + 292277022400) % 100) / 4 + (979 * m - 2919) / 32 + d - 1 := by omega
  have s2 : 1461 * ((y + 292277022400) % 100) / 4 + (979 * m - 2919) / 32 + d - 1 ≤ 100000 := by omega
  clear hy
  go_enter Tryz.func270, Tryz.ntmps270
  go_wp2
  go_ret
  exact ⟨rfl, rfl⟩
set_option maxRecDepth 100000 in
theorem lookupUtc_any (k : Nat) (u : Int) (w : World) (hu : UtcAt w k) :
  Calls Tryz.prog 271 #[.pointer (some ⟨k, 0, none⟩), .int .i64 u] w fun e w' => e = .returned (.tuple #[.string ⟨#[85, 84, 67]⟩, .int .i64 0, .int .i64 (-9223372036854775808), .int .i64 9223372036854775807, .bool false]) ∧ w = w' := by
 obtain ⟨-, u2, -⟩ := hu
 have HG := Lib.hid (fun w' => getUtc_any k w')
 go_enter Tryz.func271, Tryz.ntmps271
 go_wp2_with fail
 refine (HG.out _).mono ?_
 rintro e w1 ⟨rfl, rfl⟩
 go_wp2_with fail
 go_returns
 exact ⟨rfl, rfl⟩
theorem timeSize : (Tryz.prog.info? 127).map (·.size) = some 3 := by kernel_rfl
theorem results_time {fn : Func} {p : Tmp} (h : fn.results = #[.cell p 127]) (tmps : Array Value) (w : World) (g : Nat) (cs : Array Value) (h3 : cs.size = 3)
  (hp : tmps.getD p undef = .pointer (some ⟨g, 0, none⟩)) (hs : w.heap[g]? = some (.cells cs 127 (0, 0))) :
  (results fn tmps).run Tryz.prog w = .ok (.agg cs) w := by
 have hp' : tmps[p]?.getD undef = .pointer (some ⟨g, 0, none⟩) := by simpa using hp
 simp only [results, h]
 simp [asAddr, hp', run_loadVar_row w g _ _ _ _ _ hs Tryz.underlying127 rfl (by rw [timeSize, h3])]
theorem row3_set {w : World} {g : Nat} {a b c x y z : Value} {T : TypeId} (h : w.heap[g]? = some (.cells #[a, b, c] T (0, 0))) :
  (((w.setCell ⟨g, 0, none⟩ x).setCell ⟨g, 1, none⟩ y).setCell ⟨g, 2, none⟩ z).heap[g]? = some (.cells #[x, y, z] T (0, 0)) := by
 have h1 := heap_setCell_same w g 0 _ _ x h
 have h2 := heap_setCell_same _ g 1 _ _ y h1
 have h3 := heap_setCell_same _ g 2 _ _ z h2
 exact h3
def dayGo (y m d : Int) : Int := if m = 13 then dayOf (y + 1) 1 d else dayOf y m d
theorem wrap_days (D s : Int) (h0 : -719600 ≤ D) (h1 : D ≤ 4000000) (s0 : 0 ≤ s) (s1 : s ≤ 86399) :
  wrap64 (wrap64 (wrap64 (wrap64 (D + absK) * 86400) + s) + -9223372028741760000) = D * 86400 + s := by
 unfold wrap64 absK
 omega
set_option maxRecDepth 100000 in
set_option maxHeartbeats 1000000 in
theorem dateUtc_any (k : Nat) (y m d h mi s ns : Int) (w : World) (y0 : 0 ≤ y) (y1 : y ≤ 10100) (m0 : 1 ≤ m) (m1 : m ≤ 13) (d0 : 1 ≤ d) (d1 : d ≤ 40) (hy : m < 3 → 1 ≤ y)
  (h0 : 0 ≤ h) (h1 : h < 24) (mi0 : 0 ≤ mi) (mi1 : mi < 60) (s0 : 0 ≤ s) (s1 : s < 60) (n0 : 0 ≤ ns) (n1 : ns < 1000000000) (hu : UtcAt w k) :
  Calls Tryz.prog 254 #[.int .i64 y, .int .i64 m, .int .i64 d, .int .i64 h, .int .i64 mi, .int .i64 s, .int .i64 ns, .pointer (some ⟨k, 0, none⟩)] w
   fun e w' => e = .returned (tv ns (dayGo y m d * 86400 + (h * 3600 + mi * 60 + s) + 62135596800) none) ∧ Below w.heap.size w w' := by
 have hdd : Hid (∀ y m : Int, 0 ≤ y → y ≤ 10101 → 1 ≤ m → m ≤ 12 → -719600 ≤ dayOf y m d ∧ dayOf y m d ≤ 4000000) := Lib.hid (by
  intro y m a1 a2 a3 a4
  have c1 := cum_nonneg (y := y) a3 (by omega)
  have c2 := cum_lt (y := y) (m := m) (m' := 13) a3 (by omega) (by omega)
  have c3 := cum_last y
  have c4 := lp_01 y
  have c5 := mdays_bd y m
  unfold dayOf ystart
  omega)
 have HN := Lib.hid (fun hi lo base a b w => norm_in hi lo base a b w)
 have HS := Lib.hid (fun (g : Nat) w' hc0 hc2 hf2 hu' => setLocUtc_any g k ns none w' n0 (by omega) hc0 hc2 hf2 hu')
 by_cases h13 : m = 13
 ·subst h13
  have H12 := Lib.hid (fun w => norm_12 y (by omega) (by omega) w)
  have HD := Lib.hid (fun w => dateToAbs_any (y + 1) 1 d (by omega) (by omega) (by omega) (by omega) d0 d1 (by omega) w)
  have hb := hdd.out (y + 1) 1 (by omega) (by omega) (by omega) (by omega)
  have HG : Hid (dayGo y 13 d = dayOf (y + 1) 1 d) := Lib.hid (by unfold dayGo; rw [if_pos rfl])
  rw [HG.out]
  generalize dayOf (y + 1) 1 d = D at *
  clear hdd hy HG
  go_enter Tryz.func254, Tryz.ntmps254
  go_wp2_with fail
  refine (H12.out _).mono ?_
  rintro e1 w1 ⟨rfl, rfl⟩
  go_wp2_with fail
  refine (HN.out s ns 1000000000 n0 n1 _).mono ?_
  rintro e1 w1 ⟨rfl, rfl⟩
  go_wp2_with fail
  refine (HN.out mi s 60 s0 s1 _).mono ?_
  rintro e1 w1 ⟨rfl, rfl⟩
  go_wp2_with fail
  refine (HN.out h mi 60 mi0 mi1 _).mono ?_
  rintro e1 w1 ⟨rfl, rfl⟩
  go_wp2_with fail
  refine (HN.out d h 24 h0 h1 _).mono ?_
  rintro e1 w1 ⟨rfl, rfl⟩
  go_wp2_with fail
  refine (HD.out _).mono ?_
  rintro e1 w1 ⟨rfl, rfl⟩
  have HW : Hid (wrap64 (wrap64 (wrap64 (wrap64 (D + absK) * 86400) + (h * 3600 + mi * 60 + s)) + -9223372028741760000) = D * 86400 + (h * 3600 + mi * 60 + s)) := Lib.hid (wrap_days D _ hb.1 hb.2 (by omega) (by omega))
  have u0 : -1000000000000 ≤ D * 86400 + (h * 3600 + mi * 60 + s) := by omega
  have u1 : D * 86400 + (h * 3600 + mi * 60 + s) ≤ 1000000000000 := by omega
  go_wp2_with fail
  rw [HW.out]
  clear HW
  generalize hue : D * 86400 + (h * 3600 + mi * 60 + s) = u at *
  have HUE := Lib.hid hue
  clear hue
  have HU := Lib.hid (unixTime_any u ns n0 n1 u0 u1)
  have HL := Lib.hid (fun w' hu' => lookupUtc_any k u w' hu')
  refine (HL.out _ (hu.below ((Below.refl _ _).alloc (Nat.le_refl _) _))).mono ?_
  rintro e1 w1 ⟨rfl, rfl⟩
  go_wp2_with fail
  refine (HU.out _).mono ?_
  rintro e1 w1 ⟨rfl, hb1⟩
  have HB1 := Lib.hid (((Below.refl w.heap.size w).alloc (Nat.le_refl _) _).trans (hb1.mono (by simp)))
  have hc16 : w1.cell? ⟨w.heap.size, 0, none⟩ = some (.int .u64 0) := (hb1.cell (p := ⟨w.heap.size, 0, none⟩) (by simp)).trans (by simp [go_sem])
  have hc17 : w1.cell? ⟨w.heap.size, 1, none⟩ = some (.int .i64 0) := (hb1.cell (p := ⟨w.heap.size, 1, none⟩) (by simp)).trans (by simp [go_sem])
  have hc18 : w1.cell? ⟨w.heap.size, 2, none⟩ = some (.pointer none) := (hb1.cell (p := ⟨w.heap.size, 2, none⟩) (by simp)).trans (by simp [go_sem])
  have hf16 : w1.frozen? ⟨w.heap.size, 0, none⟩ = false := (hb1.frozen (p := ⟨w.heap.size, 0, none⟩) (by simp)).trans (by simp [go_sem])
  have hf17 : w1.frozen? ⟨w.heap.size, 1, none⟩ = false := (hb1.frozen (p := ⟨w.heap.size, 1, none⟩) (by simp)).trans (by simp [go_sem])
  have hf18 : w1.frozen? ⟨w.heap.size, 2, none⟩ = false := (hb1.frozen (p := ⟨w.heap.size, 2, none⟩) (by simp)).trans (by simp [go_sem])
  have hrow := (hb1.block w.heap.size (by simp)).trans (heap_alloc_new w (.cells #[.int .u64 0, .int .i64 0, .pointer none] 127))
  have HROW := Lib.hid (((Below.refl _ _).alloc (Nat.le_refl _) (.cells #[.int .u64 ns, .int .i64 (u + 62135596800), .pointer none] 127) |>.block w.heap.size (by simpa using (Array.getElem?_eq_some_iff.1 hrow).1)).trans (row3_set (x := .int .u64 ns) (y := .int .i64 (u + 62135596800)) (z := .pointer none) hrow))
  clear hrow
  have hsz1 : w.heap.size < w1.heap.size := by have := hb1.size; simp at this; omega
  have hu1 := Lib.hid (hu.below HB1.out)
  clear hb1
  unfold tv at *
  go_wp2_with fail
  refine (HS.out w1.heap.size _ (by simp [go_sem]) (by simp [go_sem]) (by simp [go_sem]) (hu1.out.below (by go_grown))).mono ?_
  rintro e1 w2 ⟨rfl, rfl⟩
  go_wp2_with fail
  refine bodyPost_ret (v := .agg #[.int .u64 ns, .int .i64 (u + 62135596800), .pointer none]) (results_time rfl _ _ w.heap.size _ rfl rfl HROW.out) rfl ⟨by rw [HUE.out]; rfl, ?_⟩
  have hz := HB1.out.size
  exact (((HB1.out.setCell (p := ⟨w.heap.size, 0, none⟩) (Nat.le_refl _) _).setCell (p := ⟨w.heap.size, 1, none⟩) (Nat.le_refl _) _).setCell (p := ⟨w.heap.size, 2, none⟩) (Nat.le_refl _) _).alloc (by simpa using hz) _
 ·have m12 : m ≤ 12 := by omega
  have HD := Lib.hid (fun w => dateToAbs_any y m d (by omega) (by omega) (by omega) (by omega) d0 d1 hy w)
  have hb := hdd.out y m (by omega) (by omega) (by omega) (by omega)
  have HG : Hid (dayGo y m d = dayOf y m d) := Lib.hid (by unfold dayGo; rw [if_neg h13])
  have HM : Hid (m - 1 + 1 = m) := Lib.hid (by omega)
  rw [HG.out]
  generalize dayOf y m d = D at *
  clear hdd hy HG h13
  go_enter Tryz.func254, Tryz.ntmps254
  go_wp2_with fail
  refine (HN.out y (m - 1) 12 (by omega) (by omega) _).mono ?_
  rintro e1 w1 ⟨rfl, rfl⟩
  go_wp2_with fail
  refine (HN.out s ns 1000000000 n0 n1 _).mono ?_
  rintro e1 w1 ⟨rfl, rfl⟩
  go_wp2_with fail
  refine (HN.out mi s 60 s0 s1 _).mono ?_
  rintro e1 w1 ⟨rfl, rfl⟩
  go_wp2_with fail
  refine (HN.out h mi 60 mi0 mi1 _).mono ?_
  rintro e1 w1 ⟨rfl, rfl⟩
  go_wp2_with fail
  refine (HN.out d h 24 h0 h1 _).mono ?_
  rintro e1 w1 ⟨rfl, rfl⟩
  go_wp2_with fail
  refine (HD.out _).mono ?_
  rintro e1 w1 ⟨rfl, rfl⟩
  have HW : Hid (wrap64 (wrap64 (wrap64 (wrap64 (D + absK) * 86400) + (h * 3600 + mi * 60 + s)) + -9223372028741760000) = D * 86400 + (h * 3600 + mi * 60 + s)) := Lib.hid (wrap_days D _ hb.1 hb.2 (by omega) (by omega))
  have u0 : -1000000000000 ≤ D * 86400 + (h * 3600 + mi * 60 + s) := by omega
  have u1 : D * 86400 + (h * 3600 + mi * 60 + s) ≤ 1000000000000 := by omega
  go_wp2_with fail
  rw [HW.out]
  clear HW
  generalize hue : D * 86400 + (h * 3600 + mi * 60 + s) = u at *
  have HUE := Lib.hid hue
  clear hue
  have HU := Lib.hid (unixTime_any u ns n0 n1 u0 u1)
  have HL := Lib.hid (fun w' hu' => lookupUtc_any k u w' hu')
  refine (HL.out _ (hu.below ((Below.refl _ _).alloc (Nat.le_refl _) _))).mono ?_
  rintro e1 w1 ⟨rfl, rfl⟩
  go_wp2_with fail
  refine (HU.out _).mono ?_
  rintro e1 w1 ⟨rfl, hb1⟩
  have HB1 := Lib.hid (((Below.refl w.heap.size w).alloc (Nat.le_refl _) _).trans (hb1.mono (by simp)))
  have hc16 : w1.cell? ⟨w.heap.size, 0, none⟩ = some (.int .u64 0) := (hb1.cell (p := ⟨w.heap.size, 0, none⟩) (by simp)).trans (by simp [go_sem])
  have hc17 : w1.cell? ⟨w.heap.size, 1, none⟩ = some (.int .i64 0) := (hb1.cell (p := ⟨w.heap.size, 1, none⟩) (by simp)).trans (by simp [go_sem])
  have hc18 : w1.cell? ⟨w.heap.size, 2, none⟩ = some (.pointer none) := (hb1.cell (p := ⟨w.heap.size, 2, none⟩) (by simp)).trans (by simp [go_sem])
  have hf16 : w1.frozen? ⟨w.heap.size, 0, none⟩ = false := (hb1.frozen (p := ⟨w.heap.size, 0, none⟩) (by simp)).trans (by simp [go_sem])
  have hf17 : w1.frozen? ⟨w.heap.size, 1, none⟩ = false := (hb1.frozen (p := ⟨w.heap.size, 1, none⟩) (by simp)).trans (by simp [go_sem])
  have hf18 : w1.frozen? ⟨w.heap.size, 2, none⟩ = false := (hb1.frozen (p := ⟨w.heap.size, 2, none⟩) (by simp)).trans (by simp [go_sem])
  have hrow := (hb1.block w.heap.size (by simp)).trans (heap_alloc_new w (.cells #[.int .u64 0, .int .i64 0, .pointer none] 127))
  have HROW := Lib.hid (((Below.refl _ _).alloc (Nat.le_refl _) (.cells #[.int .u64 ns, .int .i64 (u + 62135596800), .pointer none] 127) |>.block w.heap.size (by simpa using (Array.getElem?_eq_some_iff.1 hrow).1)).trans (row3_set (x := .int .u64 ns) (y := .int .i64 (u + 62135596800)) (z := .pointer none) hrow))
  clear hrow
  have hsz1 : w.heap.size < w1.heap.size := by have := hb1.size; simp at this; omega
  have hu1 := Lib.hid (hu.below HB1.out)
  clear hb1
  unfold tv at *
  go_wp2_with fail
  refine (HS.out w1.heap.size _ (by simp [go_sem]) (by simp [go_sem]) (by simp [go_sem]) (hu1.out.below (by go_grown))).mono ?_
  rintro e1 w2 ⟨rfl, rfl⟩
  go_wp2_with fail
  refine bodyPost_ret (v := .agg #[.int .u64 ns, .int .i64 (u + 62135596800), .pointer none]) (results_time rfl _ _ w.heap.size _ rfl rfl HROW.out) rfl ⟨by rw [HUE.out]; rfl, ?_⟩
  have hz := HB1.out.size
  exact (((HB1.out.setCell (p := ⟨w.heap.size, 0, none⟩) (Nat.le_refl _) _).setCell (p := ⟨w.heap.size, 1, none⟩) (Nat.le_refl _) _).setCell (p := ⟨w.heap.size, 2, none⟩) (Nat.le_refl _) _).alloc (by simpa using hz) _
end Go.Proofs.YtmecbmgfacpecaaGreatDoor.Cal
namespace Go.Proofs.YtmecbmgfacpecaaGreatDoor.Cal
open Go Go.RowKit Go.Proofs.YtmecbmgfacpecaaGreatDoorW.PrintWords Go.Proofs.YtmecbmgfacpecaaGreatDoorW.PrintLast
set_option linter.unusedVariables false
set_option linter.unusedSimpArgs false
theorem below_le {W w1 w2 : World} (h1 : Below W.heap.size W w1) (h2 : Below w1.heap.size w1 w2) : Below W.heap.size W w2 := h1.trans (h2.mono h1.size)
structure Clock (l : Option Addr) (off : Int) (Inv : World → Prop) (Loc : World → Nat → Prop) : Prop where
 abs : AbsSec l off Inv
 locK : ∀ {w w' : World} {k : Nat}, Loc w k → Below w.heap.size w w' → Loc w' k
 loc : ∀ (n e : Int) (w : World), Inv w → Calls Tryz.prog 250 #[tv n e l] w fun e' w' => ∃ g, e' = .returned (.pointer (some ⟨g, 0, none⟩)) ∧ Loc w' g ∧ Below w.heap.size w w'
 date : ∀ (k : Nat) (y m d h mi s : Int) (w : World), 0 ≤ y → y ≤ 10100 → 1 ≤ m → m ≤ 13 → 1 ≤ d → d ≤ 40 → (m < 3 → 1 ≤ y) → 0 ≤ h → h < 24 → 0 ≤ mi → mi < 60 → 0 ≤ s → s < 60 → Loc w k →
  Calls Tryz.prog 254 #[.int .i64 y, .int .i64 m, .int .i64 d, .int .i64 h, .int .i64 mi, .int .i64 s, .int .i64 0, .pointer (some ⟨k, 0, none⟩)] w
   fun e w' => e = .returned (tv 0 (dayGo y m d * 86400 + (h * 3600 + mi * 60 + s) + 62135596800 - off) l) ∧ Below w.heap.size w w'
 inn : ∀ (n e : Int) (l' : Option Addr) (k : Nat) (w : World), 0 ≤ n → n < 1073741824 → Loc w k → Calls Tryz.prog 124 #[tv n e l', .pointer (some ⟨k, 0, none⟩)] w fun e' w' => e' = .returned (tv n e l) ∧ Below w.heap.size w w'
theorem clock_utc : Clock none 0 (fun _ => True) UtcAt where
 abs := absSec_utc
 locK := fun h hb => h.below hb
 loc := fun n e w _ => (locUtc_any n e w).mono fun _ _ ⟨g, h1, h2, h3, _⟩ => ⟨g, h1, h2, h3⟩
 date := fun k y m d h mi s w a1 a2 a3 a4 a5 a6 a7 a8 a9 b1 b2 b3 b4 hu => (dateUtc_any k y m d h mi s 0 w a1 a2 a3 a4 a5 a6 a7 a8 a9 b1 b2 b3 b4 (by omega) (by omega) hu).mono fun _ _ ⟨h1, h2⟩ => ⟨by rw [h1, Int.sub_zero], h2⟩
 inn := fun n e l' k w h0 h1 hu => inUtc_any n e l' k w h0 h1 hu
theorem tDate_any {l : Option Addr} {off : Int} {Inv : World → Prop} (H : AbsSec l off Inv) (n e : Int) (w : World) (h0 : 0 ≤ n) (h1 : n < 1073741824) (he : EOk e) (hI : Inv w) :
  Calls Tryz.prog 272 #[tv n e l] w fun e' w' => e' = .returned (.tuple #[.int .i64 (yearL (e - 62135596800 + off)), .int .i64 (monthL (e - 62135596800 + off)), .int .i64 (mdayL (e - 62135596800 + off))]) ∧ Below w.heap.size w w' := by
 obtain ⟨e1, e2, e3, e4⟩ := l_days he H.off0 H.off1
 have HA := Lib.hid (fun o => H.calls n e (w.alloc o) h0 h1 he (H.keeps hI ((Below.refl _ _).alloc (Nat.le_refl _) o)))
 have HD := Lib.hid (fun w' => absDays_any (e - 62135596800 + off + 9223372028741760000) e3 e4 w')
 rw [e1] at HD
 have HR : Hid (yearL (e - 62135596800 + off) = yearA (dayL (e - 62135596800 + off) + absK) ∧ monthL (e - 62135596800 + off) = monthA (dayL (e - 62135596800 + off) + absK) ∧ mdayL (e - 62135596800 + off) = mdayA (dayL (e - 62135596800 + off) + absK)) := Lib.hid ⟨rfl, rfl, rfl⟩
 clear he hI H e1 e3 e4
 generalize e - 62135596800 + off = L at *
 generalize dayL L + absK = A at *
 have H6 := Lib.hid (fun w => dateA_any A e2 w)
 rw [HR.out.1, HR.out.2.1, HR.out.2.2]
 unfold tv at *
 go_enter Tryz.func272, Tryz.ntmps272
 go_wp2_with fail
 refine (HA.out _).mono ?_
 rintro e' w1 ⟨rfl, hb1⟩
 have HB := Lib.hid (((Below.refl w.heap.size w).alloc (Nat.le_refl _) _).trans (hb1.mono (by simp)))
 clear hb1
 go_wp2_with fail
 refine (HD.out _).mono ?_
 rintro e' w2 ⟨rfl, rfl⟩
 go_wp2_with fail
 refine (H6.out _).mono ?_
 rintro e' w2 ⟨rfl, rfl⟩
 go_wp2_with fail
 go_ret3
 exact ⟨rfl, HB.out⟩
theorem tClock_any {l : Option Addr} {off : Int} {Inv : World → Prop} (H : AbsSec l off Inv) (n e : Int) (w : World) (h0 : 0 ≤ n) (h1 : n < 1073741824) (he : EOk e) (hI : Inv w) :
  Calls Tryz.prog 273 #[tv n e l] w fun e' w' => e' = .returned (.tuple #[.int .i64 (hourL (e - 62135596800 + off)), .int .i64 (minL (e - 62135596800 + off)), .int .i64 (secL (e - 62135596800 + off))]) ∧ Below w.heap.size w w' := by
 obtain ⟨-, -, e3, e4⟩ := l_days he H.off0 H.off1
 have HA := Lib.hid (fun o => H.calls n e (w.alloc o) h0 h1 he (H.keeps hI ((Below.refl _ _).alloc (Nat.le_refl _) o)))
 have HC := Lib.hid (fun w' => absClock_any (e - 62135596800 + off + 9223372028741760000) e3 e4 w')
 have HR : Hid (hourL (e - 62135596800 + off) = (e - 62135596800 + off + 9223372028741760000) % 86400 / 3600 ∧ minL (e - 62135596800 + off) = (e - 62135596800 + off + 9223372028741760000) % 3600 / 60 ∧ secL (e - 62135596800 + off) = (e - 62135596800 + off + 9223372028741760000) % 60) := Lib.hid (by unfold hourL minL secL; omega)
 clear he hI H e3 e4
 generalize e - 62135596800 + off = L at *
 rw [HR.out.1, HR.out.2.1, HR.out.2.2]
 unfold tv at *
 go_enter Tryz.func273, Tryz.ntmps273
 go_wp2_with fail
 refine (HA.out _).mono ?_
 rintro e' w1 ⟨rfl, hb1⟩
 have HB := Lib.hid (((Below.refl w.heap.size w).alloc (Nat.le_refl _) _).trans (hb1.mono (by simp)))
 clear hb1
 go_wp2_with fail
 refine (HC.out _).mono ?_
 rintro e' w2 ⟨rfl, rfl⟩
 go_wp2_with fail
 go_ret3
 exact ⟨rfl, HB.out⟩
theorem tNano_any (n e : Int) (l : Option Addr) (w : World) (h0 : 0 ≤ n) (h1 : n < 1073741824) :
  Calls Tryz.prog 159 #[tv n e l] w fun e' w' => e' = .returned (.int .i64 n) ∧ Below w.heap.size w w' := by
 have HN := Lib.hid (fun (g : Nat) w' hc => nsec_any g n w' h0 h1 hc)
 unfold tv
 go_enter Tryz.func159, Tryz.ntmps159
 go_wp2_with fail
 refine (HN.out w.heap.size _ (by simp [go_sem])).mono ?_
 rintro e' w1 ⟨rfl, rfl⟩
 go_wp2_with fail
 go_ret
 exact ⟨rfl, (Below.refl _ _).alloc (Nat.le_refl _) _⟩
end Go.Proofs.YtmecbmgfacpecaaGreatDoor.Cal
