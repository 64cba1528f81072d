/- Lemmas and walks on the way to the law, merged by wip/tools/pack.py: Cal, Days, Time, Time2, Date, ZCal. Conditions: none. -/
import Derived.Test.YtlopkdhblfibkaaProg
import Derived.WalkKit
import Derived.OwnWalk
import Derived.Lib.Hide
import Derived.Below
import Derived.WalkSmall
import Derived.WalkLawsBesides
import Derived.WalkSpells
import Derived.Outline
import Derived.Laws.Rows
import Derived.Laws.Tables
import Derived.Laws.ResultCell
import Derived.Deep.QuietTactic
import Derived.BigQuiet
import Derived.Deep.DeepCutAuto
import Derived.Deep.DeepMust
import Derived.Handy
namespace Go.Proofs.Ytlopkdhblfibkaa.Cal
set_option linter.unusedVariables false
def lpN (y : Int) : Int := if y % 4 = 0 ∧ (y % 100 ≠ 0 ∨ y % 400 = 0) then 1 else 0
def mdays (y m : Int) : Int := if m = 2 then 28 + lpN y else if m = 4 ∨ m = 6 ∨ m = 9 ∨ m = 11 then 30 else 31
def ystart (y : Int) : Int := 365 * (y - 1) + (y - 1) / 4 - (y - 1) / 100 + (y - 1) / 400 - 719162
def cum (y m : Int) : Int :=
 if m ≤ 1 then 0 else if m = 2 then 31 else
 (if m = 3 then 59 else if m = 4 then 90 else if m = 5 then 120 else if m = 6 then 151 else if m = 7 then 181 else if m = 8 then 212 else if m = 9 then 243 else if m = 10 then 273 else if m = 11 then 304 else if m = 12 then 334 else 365) + lpN y
def dayOf (y m d : Int) : Int := ystart y + cum y m + d - 1
structure Valid (y m d : Int) : Prop where
 m1 : 1 ≤ m
 m2 : m ≤ 12
 d1 : 1 ≤ d
 d2 : d ≤ mdays y m
theorem lp_01 (y : Int) : lpN y = 0 ∨ lpN y = 1 := by unfold lpN; split <;> simp
theorem ystart_succ (y : Int) : ystart (y + 1) = ystart y + 365 + lpN y := by
 unfold ystart lpN
 split <;> omega
theorem cum_succ (y m : Int) (h1 : 1 ≤ m) (h2 : m ≤ 12) : cum y (m + 1) = cum y m + mdays y m := by
 have : m = 1 ∨ m = 2 ∨ m = 3 ∨ m = 4 ∨ m = 5 ∨ m = 6 ∨ m = 7 ∨ m = 8 ∨ m = 9 ∨ m = 10 ∨ m = 11 ∨ m = 12 := by omega
 rcases this with rfl | rfl | rfl | rfl | rfl | rfl | rfl | rfl | rfl | rfl | rfl | rfl <;> simp [cum, mdays] <;> omega
theorem cum_one (y : Int) : cum y 1 = 0 := rfl
theorem cum_last (y : Int) : cum y 13 = 365 + lpN y := rfl
theorem mdays_bd (y m : Int) : 28 ≤ mdays y m ∧ mdays y m ≤ 31 := by
 have := lp_01 y
 unfold mdays
 split
 ·omega
 ·split <;> omega
theorem ystart_mono {a b : Int} (h : a < b) : ystart a + 365 ≤ ystart b := by
 unfold ystart; omega
theorem ystart_le {a b : Int} (h : a ≤ b) : ystart a ≤ ystart b := by
 unfold ystart; omega
theorem ystart_year {a b : Int} (h : a < b) : ystart (a + 1) ≤ ystart b := ystart_le (by omega)
theorem cum_step (y : Int) : ∀ (n : Nat) (m : Int), 1 ≤ m → m + n ≤ 12 → cum y m + mdays y m ≤ cum y (m + n + 1)
 | 0, m, h1, h2 => by rw [show m + ((0 : Nat) : Int) + 1 = m + 1 by omega, cum_succ y m h1 (by omega)]; omega
 | n + 1, m, h1, h2 => by
  have := cum_step y n m h1 (by omega)
  rw [show m + ((n + 1 : Nat) : Int) + 1 = (m + n + 1) + 1 by omega, cum_succ y (m + n + 1) (by omega) (by omega)]
  have := mdays_bd y (m + n + 1)
  omega
theorem cum_lt {y m m' : Int} (h1 : 1 ≤ m) (h : m < m') (h2 : m' ≤ 13) : cum y m + mdays y m ≤ cum y m' := by
 have := cum_step y (m' - m - 1).toNat m h1 (by omega)
 rw [show m + ((m' - m - 1).toNat : Int) + 1 = m' by omega] at this
 exact this
theorem cum_nonneg {y m : Int} (h1 : 1 ≤ m) (h2 : m ≤ 13) : 0 ≤ cum y m := by
 by_cases h : m = 1
 ·subst h; exact Int.le_refl 0
 ·have := cum_lt (y := y) (m := 1) (m' := m) (by omega) (by omega) h2
  have := mdays_bd y 1
  have := cum_one y
  omega
theorem day_year {y m d : Int} (h : Valid y m d) : ystart y ≤ dayOf y m d ∧ dayOf y m d < ystart (y + 1) := by
 obtain ⟨m1, m2, d1, d2⟩ := h
 have a := cum_nonneg (y := y) m1 (by omega)
 have b := cum_lt (y := y) m1 (m' := 13) (by omega) (by omega)
 have c := cum_last y
 have e := ystart_succ y
 unfold dayOf
 omega
theorem year_of {y y' D : Int} (h1 : ystart y ≤ D) (h2 : D < ystart (y + 1)) (h3 : ystart y' ≤ D) (h4 : D < ystart (y' + 1)) : y = y' := by
 rcases Int.lt_trichotomy y y' with h | h | h
 ·have := ystart_year h; omega
 ·exact h
 ·have := ystart_year h; omega
theorem date_unique {y m d y' m' d' : Int} (h : Valid y m d) (h' : Valid y' m' d') (e : dayOf y m d = dayOf y' m' d') : y = y' ∧ m = m' ∧ d = d' := by
 have a := day_year h
 have b := day_year h'
 have hy := year_of a.1 a.2 (by rw [e]; exact b.1) (by rw [e]; exact b.2)
 subst hy
 obtain ⟨m1, m2, d1, d2⟩ := h
 obtain ⟨m1', m2', d1', d2'⟩ := h'
 unfold dayOf at e
 have hm : m = m' := by
  rcases Int.lt_trichotomy m m' with h | h | h
  ·have := cum_lt (y := y) m1 h (by omega); omega
  ·exact h
  ·have := cum_lt (y := y) m1' h (by omega); omega
 subst hm
 exact ⟨rfl, rfl, by omega⟩
def absK : Int := 106751991073400
def cenA (A : Int) : Int := (4 * A + 3) / 146097
def cdA (A : Int) : Int := (4 * A + 3) % 146097 / 4 * 4 + 3
def cyA (A : Int) : Int := cdA A / 1461
def aydA (A : Int) : Int := cdA A % 1461 / 4
def jfA (A : Int) : Int := if 306 ≤ aydA A then 1 else 0
def amA (A : Int) : Int := (5 * aydA A + 461) / 153
def yearA (A : Int) : Int := cenA A * 100 - 292277022400 + cyA A + jfA A
def monthA (A : Int) : Int := amA A - 12 * jfA A
def mdayA (A : Int) : Int := 1 + (5 * aydA A + 461) % 153 / 5
def absDay (y m d : Int) : Int :=
 let jf := if m < 3 then 1 else 0
 let Y := y - jf + 292277022400
 146097 * (Y / 100) / 4 + (1461 * (Y % 100) / 4 + (979 * (m + 12 * jf) - 2919) / 32 + d - 1)
theorem cen_core (Y : Int) : 146097 * (Y / 100) / 4 + 1461 * (Y % 100) / 4 = 365 * Y + Y / 4 - Y / 100 + Y / 400 := by
 have h1 : Y = 100 * (Y / 100) + Y % 100 := by omega
 have h2 : 146097 * (Y / 100) / 4 = 36524 * (Y / 100) + (Y / 100) / 4 := by omega
 have h3 : 1461 * (Y % 100) / 4 = 365 * (Y % 100) + (Y % 100) / 4 := by omega
 have h4 : Y / 4 = 25 * (Y / 100) + (Y % 100) / 4 := by omega
 have h5 : Y / 400 = (Y / 100) / 4 := by omega
 omega
theorem cen_abs (Y : Int) : 146097 * ((Y + 292277022400) / 100) / 4 + 1461 * ((Y + 292277022400) % 100) / 4 = 365 * Y + Y / 4 - Y / 100 + Y / 400 + 106751990353932 := by
 rw [cen_core]
 omega
theorem month_part (y m : Int) (h1 : 1 ≤ m) (h2 : m ≤ 12) : ystart y + cum y m = 365 * (y - (if m < 3 then 1 else 0)) + (y - (if m < 3 then 1 else 0)) / 4 - (y - (if m < 3 then 1 else 0)) / 100 + (y - (if m < 3 then 1 else 0)) / 400 + (979 * (m + 12 * (if m < 3 then 1 else 0)) - 2919) / 32 - 719162 - 306 := by
 have : m = 1 ∨ m = 2 ∨ m = 3 ∨ m = 4 ∨ m = 5 ∨ m = 6 ∨ m = 7 ∨ m = 8 ∨ m = 9 ∨ m = 10 ∨ m = 11 ∨ m = 12 := by omega
 have hs := ystart_succ y
 have e : ystart (y + 1) = 365 * y + y / 4 - y / 100 + y / 400 - 719162 := by unfold ystart; rw [show y + 1 - 1 = y by omega]
 have e' : ystart y = 365 * (y - 1) + (y - 1) / 4 - (y - 1) / 100 + (y - 1) / 400 - 719162 := rfl
 generalize ystart (y + 1) = a at *
 generalize ystart y = b at *
 rcases this with rfl | rfl | rfl | rfl | rfl | rfl | rfl | rfl | rfl | rfl | rfl | rfl <;> simp [cum] <;> omega
theorem absDay_is (y m d : Int) (h1 : 1 ≤ m) (h2 : m ≤ 12) : absDay y m d = dayOf y m d + absK := by
 have hm := month_part y m h1 h2
 unfold absDay dayOf absK
 have hc := cen_abs (y - (if m < 3 then 1 else 0))
 generalize (if m < 3 then 1 else 0 : Int) = jf at *
 simp only
 omega
theorem ayd_month (a : Int) (h0 : 0 ≤ a) (h1 : a ≤ 365) :
 (979 * ((5 * a + 461) / 153) - 2919) / 32 + (1 + (5 * a + 461) % 153 / 5) - 1 = a := by omega
theorem cen_parts2 (A : Int) : (4 * A + 3) % 146097 / 4 = 36524 → cenA A % 4 = 3 := by
 unfold cenA
 intro e
 have h1 : 4 * A + 3 = 146097 * ((4 * A + 3) / 146097) + (4 * A + 3) % 146097 := by omega
 have h2 : (4 * A + 3) % 146097 < 146097 := by omega
 generalize (4 * A + 3) % 146097 = r at *
 generalize (4 * A + 3) / 146097 = c at *
 have h3 : r = 146096 := by omega
 subst h3
 omega
theorem cen_parts (A : Int) : A = 146097 * cenA A / 4 + (4 * A + 3) % 146097 / 4 ∧ 0 ≤ (4 * A + 3) % 146097 / 4 ∧ (4 * A + 3) % 146097 / 4 ≤ 36524 := by
 unfold cenA
 refine ⟨by omega, by omega, by omega⟩
theorem cy_parts (c : Int) (h0 : 0 ≤ c) (h1 : c ≤ 36524) : c = 1461 * ((c * 4 + 3) / 1461) / 4 + (c * 4 + 3) % 1461 / 4 ∧ 0 ≤ (c * 4 + 3) / 1461 ∧ (c * 4 + 3) / 1461 ≤ 99 ∧ 0 ≤ (c * 4 + 3) % 1461 / 4 ∧ (c * 4 + 3) % 1461 / 4 ≤ 365 ∧
  ((c * 4 + 3) % 1461 / 4 = 365 → (c * 4 + 3) / 1461 % 4 = 3 ∧ ((c * 4 + 3) / 1461 = 99 → c = 36524)) := by
 refine ⟨by omega, by omega, by omega, by omega, by omega, fun h => ⟨by omega, fun _ => by omega⟩⟩
theorem date_is (A : Int) : Valid (yearA A) (monthA A) (mdayA A) ∧ dayOf (yearA A) (monthA A) (mdayA A) = A - absK := by
 obtain ⟨a1, a2, a3⟩ := cen_parts A
 have a4 := cen_parts2 A
 have ec : cdA A = (4 * A + 3) % 146097 / 4 * 4 + 3 := rfl
 have ecy : cyA A = cdA A / 1461 := rfl
 have eay : aydA A = cdA A % 1461 / 4 := rfl
 generalize (4 * A + 3) % 146097 / 4 = c at *
 obtain ⟨b1, b2, b3, b4, b5, b6⟩ := cy_parts c a2 a3
 rw [← ec, ← ecy, ← eay] at b1 b6
 rw [← ec, ← eay] at b4 b5
 rw [← ec, ← ecy] at b2 b3
 have b6' : aydA A = 365 → cyA A % 4 = 3 ∧ (cyA A = 99 → cenA A % 4 = 3) := fun e => ⟨(b6 e).1, fun e2 => a4 ((b6 e).2 e2)⟩
 clear ec ecy eay b6 a4
 have hm := ayd_month (aydA A) b4 b5
 have ejf : jfA A = if 306 ≤ aydA A then 1 else 0 := rfl
 have eam : amA A = (5 * aydA A + 461) / 153 := rfl
 have emd : mdayA A = 1 + (5 * aydA A + 461) % 153 / 5 := rfl
 have eyr : yearA A = cenA A * 100 - 292277022400 + cyA A + jfA A := rfl
 have emo : monthA A = amA A - 12 * jfA A := rfl
 generalize cenA A = ce at *
 generalize cyA A = cy at *
 generalize aydA A = ay at *
 generalize amA A = am at *
 generalize mdayA A = md at *
 generalize jfA A = jf at *
 generalize yearA A = y at *
 generalize monthA A = mo at *
 have hm1 : 1 ≤ mo ∧ mo ≤ 12 := by
  subst emo eam ejf
  split <;> omega
 have hjf : (if mo < 3 then 1 else 0 : Int) = jf := by
  subst emo eam ejf
  by_cases h3 : 306 ≤ ay
  ·rw [if_pos h3, if_pos (by omega)]
  ·rw [if_neg h3, if_neg (by omega)]
 have hday : dayOf y mo md = A - absK := by
  have e := absDay_is y mo md hm1.1 hm1.2
  unfold absDay at e
  rw [hjf] at e
  have e1 : y - jf + 292277022400 = ce * 100 + cy := by omega
  have e2 : mo + 12 * jf = am := by omega
  simp only [e1, e2] at e
  have e3 : (ce * 100 + cy) / 100 = ce := by omega
  have e4 : (ce * 100 + cy) % 100 = cy := by omega
  rw [e3, e4] at e
  rw [← eam, ← emd] at hm
  omega
 refine ⟨⟨hm1.1, hm1.2, by omega, ?_⟩, hday⟩
 unfold mdays lpN
 by_cases h3 : 306 ≤ ay
 ·rw [if_pos h3] at ejf
  subst ejf
  by_cases hmo : mo = 2
  ·rw [if_pos hmo]
   have : md ≤ 28 ∨ ay = 365 := by omega
   rcases this with h | h
   ·split <;> omega
   ·obtain ⟨q1, q2⟩ := b6' h
    rw [if_pos (by omega)]
    omega
  ·rw [if_neg hmo]
   split <;> omega
 ·rw [if_neg h3] at ejf
  subst ejf
  rw [if_neg (by omega)]
  split <;> omega
theorem week_is (A : Int) : (A + 3) % 7 = (A - absK + 4) % 7 := by unfold absK; omega
def dayL (L : Int) : Int := L / 86400
def yearL (L : Int) : Int := yearA (dayL L + absK)
def monthL (L : Int) : Int := monthA (dayL L + absK)
def mdayL (L : Int) : Int := mdayA (dayL L + absK)
def hourL (L : Int) : Int := L % 86400 / 3600
def minL (L : Int) : Int := L % 3600 / 60
def secL (L : Int) : Int := L % 60
def wdL (L : Int) : Int := (dayL L + 4) % 7
theorem date_L (L : Int) : Valid (yearL L) (monthL L) (mdayL L) ∧ dayOf (yearL L) (monthL L) (mdayL L) = dayL L := by
 have := date_is (dayL L + absK)
 refine ⟨this.1, ?_⟩
 have h := this.2
 unfold yearL monthL mdayL
 omega
theorem date_eq {L y m d : Int} (h : Valid y m d) (e : dayOf y m d = dayL L) : yearL L = y ∧ monthL L = m ∧ mdayL L = d :=
 date_unique (date_L L).1 h ((date_L L).2.trans e.symm)
theorem year_range (L : Int) : ystart (yearL L) * 86400 ≤ L ∧ L < ystart (yearL L + 1) * 86400 := by
 have h := date_L L
 have := day_year h.1
 rw [h.2] at this
 unfold dayL at this
 omega
theorem year_mono {a b : Int} (h : a ≤ b) : yearL a ≤ yearL b := by
 have ha := year_range a
 have hb := year_range b
 by_cases hc : yearL a ≤ yearL b
 ·exact hc
 ·have := ystart_le (a := yearL b + 1) (b := yearL a) (by omega)
  omega
def mFirst (L : Int) : Int := dayOf (yearL L) (monthL L) 1
def mNext (L : Int) : Int := (mFirst L + mdays (yearL L) (monthL L)) * 86400
def dNext (L : Int) : Int := (L / 86400 + 1) * 86400
theorem first_valid (L : Int) : Valid (yearL L) (monthL L) 1 := by
 have h := (date_L L).1
 have := mdays_bd (yearL L) (monthL L)
 exact ⟨h.m1, h.m2, by omega, by omega⟩
theorem mNext_gt (L : Int) : L < mNext L ∧ mFirst L * 86400 ≤ L := by
 obtain ⟨h, e⟩ := date_L L
 have h1 := h.d1
 have h2 := h.d2
 unfold mNext mFirst
 unfold dayOf at e ⊢
 unfold dayL at e
 omega
theorem same_month {L x : Int} (h1 : mFirst L * 86400 ≤ x) (h2 : x < mNext L) : monthL x = monthL L ∧ yearL x = yearL L := by
 have hv := first_valid L
 have hd : Valid (yearL L) (monthL L) (dayL x - mFirst L + 1) := ⟨hv.m1, hv.m2, by unfold dayL; omega, by unfold mNext at h2; unfold dayL; omega⟩
 have := date_eq (L := x) hd (by unfold mFirst dayOf; omega)
 exact ⟨this.2.1, this.1⟩
theorem mNext_date (L : Int) : mNext L % 86400 = 0 ∧ mdayL (mNext L) = 1 ∧ monthL (mNext L) = (if monthL L = 12 then 1 else monthL L + 1) ∧ yearL (mNext L) = (if monthL L = 12 then yearL L + 1 else yearL L) := by
 have hv := first_valid L
 have hm0 : mNext L % 86400 = 0 := by unfold mNext; omega
 have hdl : dayL (mNext L) = mFirst L + mdays (yearL L) (monthL L) := by unfold mNext dayL; omega
 by_cases h : monthL L = 12
 ·have hv2 : Valid (yearL L + 1) 1 1 := ⟨by omega, by omega, by omega, by have := mdays_bd (yearL L + 1) 1; omega⟩
  have := date_eq (L := mNext L) hv2 (by
   rw [hdl]
   unfold mFirst dayOf
   rw [h]
   have e1 := ystart_succ (yearL L)
   have e2 := cum_succ (yearL L) 12 (by omega) (by omega)
   have e3 := cum_last (yearL L)
   have e4 := cum_one (yearL L + 1)
   rw [show (12 : Int) + 1 = 13 by omega] at e2
   omega)
  rw [if_pos h, if_pos h]
  exact ⟨hm0, this.2.2, this.2.1, this.1⟩
 ·have h12 : monthL L + 1 ≤ 12 := by have := hv.m2; omega
  have hv2 : Valid (yearL L) (monthL L + 1) 1 := ⟨by have := hv.m1; omega, h12, by omega, by have := mdays_bd (yearL L) (monthL L + 1); omega⟩
  have := date_eq (L := mNext L) hv2 (by
   rw [hdl]
   unfold mFirst dayOf
   have e2 := cum_succ (yearL L) (monthL L) hv.m1 hv.m2
   omega)
  rw [if_neg h, if_neg h]
  exact ⟨hm0, this.2.2, this.2.1, this.1⟩
theorem same_day {L x : Int} (h : x / 86400 = L / 86400) : monthL x = monthL L ∧ yearL x = yearL L ∧ mdayL x = mdayL L ∧ wdL x = wdL L := by
 have : dayL x = dayL L := h
 unfold monthL yearL mdayL wdL
 rw [this]
 exact ⟨rfl, rfl, rfl, rfl⟩
theorem dNext_date (L : Int) : mdayL (dNext L) = 1 ∧ dNext L = mNext L ∨ mdayL (dNext L) = mdayL L + 1 ∧ monthL (dNext L) = monthL L ∧ yearL (dNext L) = yearL L := by
 obtain ⟨h, e⟩ := date_L L
 by_cases hl : mdayL L = mdays (yearL L) (monthL L)
 ·left
  have : dNext L = mNext L := by
   unfold dNext mNext mFirst
   unfold dayOf dayL at *
   omega
  exact ⟨by rw [this]; exact (mNext_date L).2.1, this⟩
 ·right
  have hv2 : Valid (yearL L) (monthL L) (mdayL L + 1) := ⟨h.m1, h.m2, by have := h.d1; omega, by have := h.d2; omega⟩
  have := date_eq (L := dNext L) hv2 (by
   unfold dNext dayL
   unfold dayOf dayL at *
   omega)
  exact ⟨this.2.2, this.2.1, this.1⟩
structure Sets where
 sec : Nat
 min : Nat
 hour : Nat
 dom : Nat
 month : Nat
 dow : Nat
def inB (b : Nat) (k : Int) : Bool := b.testBit k.toNat
def monthB (S : Sets) (L : Int) : Bool := inB S.month (monthL L)
def dayB (S : Sets) (L : Int) : Bool := if inB S.dom 63 || inB S.dow 63 then inB S.dom (mdayL L) && inB S.dow (wdL L) else inB S.dom (mdayL L) || inB S.dow (wdL L)
def hourB (S : Sets) (L : Int) : Bool := inB S.hour (hourL L)
def minB (S : Sets) (L : Int) : Bool := inB S.min (minL L)
def secB (S : Sets) (L : Int) : Bool := inB S.sec (secL L)
structure Fits (S : Sets) (L : Int) : Prop where
 mo : monthB S L = true
 da : dayB S L = true
 ho : hourB S L = true
 mi : minB S L = true
 se : secB S L = true
def NoFit (S : Sets) (a b : Int) : Prop := ∀ x, a ≤ x → x < b → ¬ Fits S x
theorem day_first {L : Int} (h0 : L % 86400 = 0) (h1 : mdayL L = 1) : L = mFirst L * 86400 := by
 have e := (date_L L).2
 rw [h1] at e
 unfold mFirst
 unfold dayL at e
 omega
theorem keep_day {S : Sets} {L x : Int} (hm : monthB S L = true) (hd : dayB S L = true) (h : x / 86400 = L / 86400) : monthB S x = true ∧ dayB S x = true ∧ yearL x = yearL L := by
 have := same_day h
 unfold monthB dayB at *
 rw [this.1, this.2.2.1, this.2.2.2]
 exact ⟨hm, hd, this.2.1⟩
theorem next_day_month {S : Sets} {L x : Int} (hm : monthB S L = true) (h : x = dNext L) : monthB S x = true ∨ x = mFirst x * 86400 := by
 subst h
 rcases dNext_date L with h | h
 ·exact .inr (day_first (by unfold dNext; omega) h.1)
 ·exact .inl (by unfold monthB at hm ⊢; rw [h.2.1]; exact hm)
theorem keep_hour {S : Sets} {L x : Int} (hh : hourB S L = true) (h : x / 3600 = L / 3600) : hourB S x = true := by
 have : hourL x = hourL L := by unfold hourL; omega
 unfold hourB at *
 rw [this]
 exact hh
theorem keep_min {S : Sets} {L x : Int} (hh : minB S L = true) (h : x / 60 = L / 60) : minB S x = true := by
 have : minL x = minL L := by unfold minL; omega
 unfold minB at *
 rw [this]
 exact hh
def Least (S : Sets) (f lim : Int) : Option Int → Prop
 | some L => f ≤ L ∧ Fits S L ∧ NoFit S f L ∧ yearL L ≤ lim
 | none => ∀ x, f ≤ x → yearL x ≤ lim → ¬ Fits S x
theorem year_day (f x : Int) (h : x < f + 86400) : yearL x ≤ yearL f + 1 := by
 have a := year_range f
 have b := year_range x
 by_cases hc : yearL x ≤ yearL f + 1
 ·exact hc
 ·have := ystart_mono (a := yearL f + 1) (b := yearL x) (by omega)
  omega
end Go.Proofs.Ytlopkdhblfibkaa.Cal
namespace Go.Proofs.Ytlopkdhblfibkaa.Cal
open Go Go.RowKit
set_option linter.unusedVariables false
set_option linter.unusedSimpArgs false
theorem mul32_any (c : Int) (h0 : 0 ≤ c) (h1 : c ≤ 146099) (w : World) :
  Calls Try.prog 95 #[.int .u32 2939745, .int .u32 c] w fun e w' => e = .returned (.tuple #[.int .u32 (2939745 * c / 4294967296), .int .u32 (2939745 * c % 4294967296)]) ∧ w = w' := by
 have hp : 2939745 * c < 18446744073709551616 := by omega
 have hq : 0 ≤ 2939745 * c := by omega
 go_enter Try.func95, Try.ntmps95
 go_wp2
 go_ret2
 exact ⟨rfl, rfl⟩
theorem absDays_any (a : Int) (h0 : 0 ≤ a) (h1 : a ≤ 18446744073709551615) (w : World) :
  Calls Try.prog 81 #[.int .u64 a] w fun e w' => e = .returned (.int .u64 (a / 86400)) ∧ w = w' := by
 go_enter Try.func81, Try.ntmps81
 go_wp2
 go_ret
 exact ⟨rfl, rfl⟩
theorem or3_nat (x : Nat) : x ||| 3 = x / 4 * 4 + 3 := by
 have h := Nat.two_pow_add_eq_or_of_lt (i := 2) (b := x % 4) (by omega) (x / 4)
 have h3 := Nat.two_pow_add_eq_or_of_lt (i := 2) (b := 3) (by omega) (x / 4)
 have e : x = 2 ^ 2 * (x / 4) ||| x % 4 := by rw [← h]; omega
 have e4 : x % 4 ||| 3 = 3 := by
  have : x % 4 = 0 ∨ x % 4 = 1 ∨ x % 4 = 2 ∨ x % 4 = 3 := by omega
  rcases this with h | h | h | h <;> rw [h] <;> rfl
 calc x ||| 3 = 2 ^ 2 * (x / 4) ||| (x % 4 ||| 3) := by rw [← Nat.or_assoc, ← e]
  _ = 2 ^ 2 * (x / 4) ||| 3 := by rw [e4]
  _ = 2 ^ 2 * (x / 4) + 3 := h3.symm
  _ = x / 4 * 4 + 3 := by omega
theorem or3_u32 {x : Int} (h0 : 0 ≤ x) (h1 : x < 4294967293) : bits .or .u32 x 3 = x / 4 * 4 + 3 := by
 obtain ⟨n, rfl⟩ : ∃ n : Nat, x = n := ⟨x.toNat, by omega⟩
 have e : IntKind.u32.bits = 32 := rfl
 have h3 := or3_nat n
 have hn : n % 2 ^ 32 = n := Nat.mod_eq_of_lt (by omega)
 unfold bits
 rw [e]
 show IntKind.u32.wrap ((BitVec.ofInt 32 (n : Int) ||| BitVec.ofInt 32 ((3 : Nat) : Int)).toNat : Int) = _
 rw [BitVec.ofInt_natCast, BitVec.ofInt_natCast, BitVec.toNat_or, BitVec.toNat_ofNat, BitVec.toNat_ofNat, hn, show (3 : Nat) % 2 ^ 32 = 3 from rfl, h3, IntKind.wrap_u32]
 omega
theorem and16_u32 {x : Int} (h0 : 0 ≤ x) (h1 : x < 4294967296) : bits .and .u32 x 65535 = x % 65536 := by
 obtain ⟨n, rfl⟩ : ∃ n : Nat, x = n := ⟨x.toNat, by omega⟩
 have e : IntKind.u32.bits = 32 := rfl
 have h3 := Nat.and_two_pow_sub_one_eq_mod n 16
 have hn : n % 2 ^ 32 = n := Nat.mod_eq_of_lt (by omega)
 unfold bits
 rw [e]
 show IntKind.u32.wrap ((BitVec.ofInt 32 (n : Int) &&& BitVec.ofInt 32 ((65535 : Nat) : Int)).toNat : Int) = _
 rw [BitVec.ofInt_natCast, BitVec.ofInt_natCast, BitVec.toNat_and, BitVec.toNat_ofNat, BitVec.toNat_ofNat, hn, show (65535 : Nat) % 2 ^ 32 = 2 ^ 16 - 1 from rfl, h3, IntKind.wrap_u32]
 omega
theorem cy_eq (c : Int) (h0 : 0 ≤ c) (h1 : c ≤ 36524) : 2939745 * (c * 4 + 3) / 4294967296 = (c * 4 + 3) / 1461 ∧ 2939745 * (c * 4 + 3) % 4294967296 / 2939745 / 4 = (c * 4 + 3) % 1461 / 4 := by
 have e : c * 4 + 3 = 1461 * ((c * 4 + 3) / 1461) + (c * 4 + 3) % 1461 := by omega
 have q0 : 0 ≤ (c * 4 + 3) / 1461 := by omega
 have q1 : (c * 4 + 3) / 1461 ≤ 99 := by omega
 have r0 : 0 ≤ (c * 4 + 3) % 1461 := by omega
 have r1 : (c * 4 + 3) % 1461 ≤ 1460 := by omega
 generalize (c * 4 + 3) / 1461 = q at *
 generalize (c * 4 + 3) % 1461 = r at *
 rw [e]
 have h1 : 2939745 * (1461 * q + r) / 4294967296 = q := by omega
 have h2 : 2939745 * (1461 * q + r) % 4294967296 = 149 * q + 2939745 * r := by omega
 have h3 : (149 * q + 2939745 * r) / 2939745 = r := by omega
 rw [h1, h2, h3]
 exact ⟨rfl, rfl⟩
def AOk (A : Int) : Prop := 106751990353932 ≤ A ∧ A ≤ 1000000000000000
set_option maxRecDepth 100000 in
theorem split_any (A : Int) (h0 : 0 ≤ A) (h1 : A ≤ 1000000000000000) (w : World) :
  Calls Try.prog 82 #[.int .u64 A] w fun e w' => e = .returned (.tuple #[.int .u64 (cenA A), .int .i64 (cyA A), .int .i64 (aydA A)]) ∧ w = w' := by
 obtain ⟨-, p2, p3⟩ := cen_parts A
 have hcy := cy_eq _ p2 p3
 have hcd : cdA A = (4 * A + 3) % 146097 / 4 * 4 + 3 := rfl
 have hor : bits .or .u32 ((4 * A + 3) % 146097) 3 = cdA A := by
  rw [hcd]
  exact or3_u32 (by omega) (by omega)
 have hv : (Value.tuple #[.int .u64 (cenA A), .int .i64 (cyA A), .int .i64 (aydA A)]) = .tuple #[.int .u64 ((4 * A + 3) / 146097), .int .i64 (2939745 * cdA A / 4294967296), .int .i64 (2939745 * cdA A % 4294967296 / 2939745 / 4)] := by
  rw [hcd, hcy.1, hcy.2]
  rfl
 have HV := Lib.hid hv
 have hb0 : 0 ≤ cdA A := by omega
 have hb1 : cdA A ≤ 146099 := by omega
 have HOR := Lib.hid hor
 clear hcy hcd hv p2 p3 hor
 generalize cdA A = cd at *
 go_enter Try.func82, Try.ntmps82
 go_wp2_with fail
 rw [HOR.out]
 refine (mul32_any _ hb0 hb1 _).mono ?_
 rintro e w' ⟨rfl, rfl⟩
 go_wp2_with fail
 go_ret3
 exact ⟨by rw [HV.out]; rfl, rfl⟩
set_option maxRecDepth 100000 in
theorem yday_all : ∀ n : Fin 366, (2141 * (n.val : Int) + 197913) / 65536 = (5 * (n.val : Int) + 461) / 153 ∧ (2141 * (n.val : Int) + 197913) % 65536 / 2141 = (5 * (n.val : Int) + 461) % 153 / 5 := by decide +kernel
theorem yday_eq (a : Int) (h0 : 0 ≤ a) (h1 : a ≤ 365) : (2141 * a + 197913) / 65536 = (5 * a + 461) / 153 ∧ (2141 * a + 197913) % 65536 / 2141 = (5 * a + 461) % 153 / 5 := by
 obtain ⟨n, rfl⟩ : ∃ n : Nat, a = n := ⟨a.toNat, by omega⟩
 exact yday_all ⟨n, by omega⟩
theorem ydaySplit_any (a : Int) (h0 : 0 ≤ a) (h1 : a ≤ 365) (w : World) :
  Calls Try.prog 83 #[.int .i64 a] w fun e w' => e = .returned (.tuple #[.int .i64 ((5 * a + 461) / 153), .int .i64 (1 + (5 * a + 461) % 153 / 5)]) ∧ w = w' := by
 obtain ⟨e1, e2⟩ := yday_eq a h0 h1
 have hand : bits .and .u32 (2141 * a + 197913) 65535 = (2141 * a + 197913) % 65536 := and16_u32 (by omega) (by omega)
 have E1 := Lib.hid e1
 have E2 := Lib.hid e2
 clear e1 e2
 go_enter Try.func83, Try.ntmps83
 go_wp2
 go_ret2
 exact ⟨by rw [← E1.out, ← E2.out]; rfl, rfl⟩
theorem janFeb_any (A : Int) (w : World) :
  Calls Try.prog 84 #[.int .i64 (aydA A)] w fun e w' => e = .returned (.int .i64 (jfA A)) ∧ w = w' := by
 have hj : jfA A = if 306 ≤ aydA A then 1 else 0 := rfl
 generalize aydA A = a at *
 by_cases h : 306 ≤ a
 ·rw [if_pos h] at hj
  rw [hj]
  clear hj
  go_enter Try.func84, Try.ntmps84
  go_wp2
  go_ret
  exact ⟨rfl, rfl⟩
 ·rw [if_neg h] at hj
  rw [hj]
  clear hj
  go_enter Try.func84, Try.ntmps84
  go_wp2
  go_ret
  exact ⟨rfl, rfl⟩
theorem parts_bd (A : Int) : 0 ≤ cyA A ∧ cyA A ≤ 99 ∧ 0 ≤ aydA A ∧ aydA A ≤ 365 ∧ 0 ≤ jfA A ∧ jfA A ≤ 1 ∧ 4 ≤ (5 * aydA A + 461) / 153 - 1 + 2 ∧ (5 * aydA A + 461) / 153 ≤ 14 := by
 obtain ⟨-, p2, p3⟩ := cen_parts A
 have h := cy_parts _ p2 p3
 have hcd : cdA A = (4 * A + 3) % 146097 / 4 * 4 + 3 := rfl
 obtain ⟨_, c0, c1, a0, a1, _⟩ := h
 rw [← hcd] at c0 c1 a0 a1
 have hj : jfA A = if 306 ≤ aydA A then 1 else 0 := rfl
 refine ⟨c0, c1, a0, a1, by rw [hj]; split <;> omega, by rw [hj]; split <;> omega, ?_, ?_⟩ <;> unfold aydA at * <;> omega
theorem year_any (A : Int) (h : AOk A) (w : World) :
  Calls Try.prog 85 #[.int .u64 (cenA A), .int .i64 (cyA A), .int .i64 (jfA A)] w fun e w' => e = .returned (.int .i64 (yearA A)) ∧ w = w' := by
 obtain ⟨h0, h1⟩ := h
 obtain ⟨b0, b1, _, _, j0, j1, _, _⟩ := parts_bd A
 have c0 : 2922770224 ≤ cenA A := by unfold cenA; omega
 have c1 : cenA A ≤ 27380000000 := by unfold cenA; omega
 have HY : Hid (yearA A = cenA A * 100 - 292277022400 + cyA A + jfA A) := Lib.hid rfl
 generalize cenA A = c at *
 generalize cyA A = y at *
 generalize jfA A = j at *
 go_enter Try.func85, Try.ntmps85
 go_wp2
 go_ret
 exact ⟨by rw [HY.out]; rfl, rfl⟩
theorem month_any (A : Int) (w : World) :
  Calls Try.prog 86 #[.int .i64 ((5 * aydA A + 461) / 153), .int .i64 (jfA A)] w fun e w' => e = .returned (.int .i64 (monthA A)) ∧ w = w' := by
 obtain ⟨_, _, a0, a1, j0, j1, m0, m1⟩ := parts_bd A
 have HM : Hid (monthA A = (5 * aydA A + 461) / 153 - jfA A * 12) := Lib.hid (by unfold monthA amA; omega)
 generalize (5 * aydA A + 461) / 153 = m at *
 generalize jfA A = j at *
 go_enter Try.func86, Try.ntmps86
 go_wp2
 go_ret
 exact ⟨by rw [HM.out]; rfl, rfl⟩
theorem weekday_any (A : Int) (h0 : 0 ≤ A) (h1 : A ≤ 1000000000000000) (w : World) :
  Calls Try.prog 99 #[.int .u64 A] w fun e w' => e = .returned (.int .i64 ((A + 3) % 7)) ∧ w = w' := by
 go_enter Try.func99, Try.ntmps99
 go_wp2
 go_ret
 exact ⟨rfl, rfl⟩
theorem absClock_any (a : Int) (h0 : 0 ≤ a) (h1 : a ≤ 18446744073709551615) (w : World) :
  Calls Try.prog 98 #[.int .u64 a] w fun e w' => e = .returned (.tuple #[.int .i64 (a % 86400 / 3600), .int .i64 (a % 3600 / 60), .int .i64 (a % 60)]) ∧ w = w' := by
 have E1 : Hid (((a % 86400) - (a % 86400 / 3600) * 3600) / 60 = a % 3600 / 60) := Lib.hid (by omega)
 have E2 : Hid ((a % 86400) - (a % 86400 / 3600) * 3600 - (((a % 86400) - (a % 86400 / 3600) * 3600) / 60) * 60 = a % 60) := Lib.hid (by omega)
 have s0 : 0 ≤ a % 86400 := by omega
 have s1 : a % 86400 ≤ 86399 := by omega
 go_enter Try.func98, Try.ntmps98
 go_wp2
 go_ret3
 refine ⟨?_, rfl⟩
 rw [← E2.out, ← E1.out]
 rfl
theorem dateA_any (A : Int) (h : AOk A) (w : World) :
  Calls Try.prog 97 #[.int .u64 A] w fun e w' => e = .returned (.tuple #[.int .i64 (yearA A), .int .i64 (monthA A), .int .i64 (mdayA A)]) ∧ w = w' := by
 have hb := parts_bd A
 have H1 := Lib.hid (fun w => split_any A (by have := h.1; omega) h.2 w)
 have H2 := Lib.hid (fun w => ydaySplit_any (aydA A) hb.2.2.1 hb.2.2.2.1 w)
 have H3 := Lib.hid (fun w => janFeb_any A w)
 have H4 := Lib.hid (fun w => year_any A h w)
 have H5 := Lib.hid (fun w => month_any A w)
 have HD : Hid (mdayA A = 1 + (5 * aydA A + 461) % 153 / 5) := Lib.hid rfl
 rw [HD.out]
 clear hb h HD
 generalize cenA A = c at *
 generalize cyA A = cy at *
 generalize (5 * aydA A + 461) / 153 = m at *
 generalize 1 + (5 * aydA A + 461) % 153 / 5 = d at *
 generalize aydA A = a at *
 generalize jfA A = j at *
 generalize yearA A = y at *
 generalize monthA A = mo at *
 go_enter Try.func97, Try.ntmps97
 go_wp2_with fail
 refine (H1.out _).mono ?_
 rintro e w1 ⟨rfl, rfl⟩
 go_wp2_with fail
 refine (H2.out _).mono ?_
 rintro e w1 ⟨rfl, rfl⟩
 go_wp2_with fail
 refine (H3.out _).mono ?_
 rintro e w1 ⟨rfl, rfl⟩
 go_wp2_with fail
 refine (H4.out _).mono ?_
 rintro e w1 ⟨rfl, rfl⟩
 go_wp2_with fail
 refine (H5.out _).mono ?_
 rintro e w1 ⟨rfl, rfl⟩
 go_wp2_with fail
 go_ret3
 exact ⟨rfl, rfl⟩
end Go.Proofs.Ytlopkdhblfibkaa.Cal
namespace Go.Proofs.Ytlopkdhblfibkaa.Cal
open Go Go.RowKit
set_option linter.unusedVariables false
set_option linter.unusedSimpArgs false
theorem and_hi {x : Int} (h0 : 0 ≤ x) (h1 : x < 9223372036854775808) : bits .and .u64 x 9223372036854775808 = 0 := by
 obtain ⟨n, rfl⟩ : ∃ n : Nat, x = n := ⟨x.toNat, by omega⟩
 have e : IntKind.u64.bits = 64 := rfl
 have hn : n % 2 ^ 64 = n := Nat.mod_eq_of_lt (by omega)
 have h3 : n &&& 2 ^ 63 = 0 := by
  apply Nat.eq_of_testBit_eq
  intro i
  rw [Nat.testBit_and, Nat.testBit_two_pow, Nat.zero_testBit]
  by_cases hi : 63 = i
  ·subst hi
   rw [Nat.testBit_lt_two_pow (by omega)]
   rfl
  ·rw [decide_eq_false hi, Bool.and_false]
 unfold bits
 rw [e]
 show IntKind.u64.wrap ((BitVec.ofInt 64 (n : Int) &&& BitVec.ofInt 64 ((9223372036854775808 : Nat) : Int)).toNat : Int) = _
 rw [BitVec.ofInt_natCast, BitVec.ofInt_natCast, BitVec.toNat_and, BitVec.toNat_ofNat, BitVec.toNat_ofNat, hn, show (9223372036854775808 : Nat) % 2 ^ 64 = 2 ^ 63 from rfl, h3]
 rfl
theorem and_low {x : Int} (h0 : 0 ≤ x) (h1 : x < 1073741824) : bits .and .u64 x 1073741823 = x := by
 obtain ⟨n, rfl⟩ : ∃ n : Nat, x = n := ⟨x.toNat, by omega⟩
 have e : IntKind.u64.bits = 64 := rfl
 have h3 := Nat.and_two_pow_sub_one_eq_mod n 30
 have hn : n % 2 ^ 64 = n := Nat.mod_eq_of_lt (by omega)
 unfold bits
 rw [e]
 show IntKind.u64.wrap ((BitVec.ofInt 64 (n : Int) &&& BitVec.ofInt 64 ((1073741823 : Nat) : Int)).toNat : Int) = _
 rw [BitVec.ofInt_natCast, BitVec.ofInt_natCast, BitVec.toNat_and, BitVec.toNat_ofNat, BitVec.toNat_ofNat, hn, show (1073741823 : Nat) % 2 ^ 64 = 2 ^ 30 - 1 from rfl, h3, IntKind.wrap_u64]
 omega
theorem andNot_low {x : Int} (h0 : 0 ≤ x) (h1 : x < 1073741824) : bits .andNot .u64 x 1073741823 = 0 := by
 obtain ⟨n, rfl⟩ : ∃ n : Nat, x = n := ⟨x.toNat, by omega⟩
 have e : IntKind.u64.bits = 64 := rfl
 have hn : n % 2 ^ 64 = n := Nat.mod_eq_of_lt (by omega)
 unfold bits
 rw [e]
 show IntKind.u64.wrap ((BitVec.ofInt 64 (n : Int) &&& ~~~ BitVec.ofInt 64 ((1073741823 : Nat) : Int)).toNat : Int) = _
 have hz : (BitVec.ofInt 64 (n : Int) &&& ~~~ BitVec.ofInt 64 ((1073741823 : Nat) : Int)) = 0#64 := by
  apply BitVec.eq_of_getLsbD_eq
  intro i hi
  rw [BitVec.ofInt_natCast, BitVec.ofInt_natCast, BitVec.getLsbD_and, BitVec.getLsbD_not, BitVec.getLsbD_ofNat, BitVec.getLsbD_ofNat, BitVec.getLsbD_zero]
  by_cases h30 : i < 30
  ·have : Nat.testBit 1073741823 i = true := by
    have := Nat.testBit_two_pow_sub_one 30 i
    rw [decide_eq_true h30] at this
    exact this
   simp [this, hi]
  ·have : n.testBit i = false := Nat.testBit_lt_two_pow (Nat.lt_of_lt_of_le (show n < 2 ^ 30 by omega) (Nat.pow_le_pow_right (by omega) (by omega)))
   simp [this]
 rw [hz]
 rfl
def tv (n e : Int) (l : Option Addr) : Value := .agg #[.int .u64 n, .int .i64 e, .pointer l]
theorem sec_any (g : Nat) (n e : Int) (w : World) (h0 : 0 ≤ n) (h1 : n < 1073741824) (hc0 : w.cell? ⟨g, 0, none⟩ = some (.int .u64 n)) (hc1 : w.cell? ⟨g, 1, none⟩ = some (.int .i64 e)) :
  Calls Try.prog 47 #[.pointer (some ⟨g, 0, none⟩)] w fun e' w' => e' = .returned (.int .i64 e) ∧ w = w' := by
 have hand := and_hi (x := n) h0 (by omega)
 go_enter Try.func47, Try.ntmps47
 go_wp2_with fail
 go_ret
 exact ⟨rfl, rfl⟩
theorem unixSec_any (g : Nat) (n e : Int) (w : World) (h0 : 0 ≤ n) (h1 : n < 1073741824) (he0 : -5000000 ≤ e) (he1 : e ≤ 1000000000000) (hc0 : w.cell? ⟨g, 0, none⟩ = some (.int .u64 n)) (hc1 : w.cell? ⟨g, 1, none⟩ = some (.int .i64 e)) :
  Calls Try.prog 44 #[.pointer (some ⟨g, 0, none⟩)] w fun e' w' => e' = .returned (.int .i64 (e - 62135596800)) ∧ w = w' := by
 have H := Lib.hid (sec_any g n e w h0 h1 hc0 hc1)
 go_enter Try.func44, Try.ntmps44
 go_wp2_with fail
 refine H.out.mono ?_
 rintro e' w' ⟨rfl, rfl⟩
 go_wp2_with fail
 go_ret
 exact ⟨rfl, rfl⟩
theorem nsec_any (g : Nat) (n : Int) (w : World) (h0 : 0 ≤ n) (h1 : n < 1073741824) (hc0 : w.cell? ⟨g, 0, none⟩ = some (.int .u64 n)) :
  Calls Try.prog 45 #[.pointer (some ⟨g, 0, none⟩)] w fun e' w' => e' = .returned (.int .i32 n) ∧ w = w' := by
 have hand := and_low h0 h1
 go_enter Try.func45, Try.ntmps45
 go_wp2_with fail
 go_ret
 exact ⟨rfl, rfl⟩
theorem utc_any (w : World) :
  Calls Try.prog 34 #[] w fun e' w' => e' = .returned (.pointer (some ⟨w.heap.size, 0, none⟩)) ∧ w'.cell? ⟨w.heap.size, 0, none⟩ = some (.bool true) ∧ w'.cell? ⟨w.heap.size, 2, none⟩ = some (.slice none 0 0) ∧ Below w.heap.size w w' ∧ w.heap.size < w'.heap.size := by
 go_enter Try.func34, Try.ntmps34
 go_wp2_with fail
 go_ret
 refine ⟨rfl, by simp [go_sem], by simp [go_sem], (Below.refl _ _).alloc (Nat.le_refl _) _, by simp⟩
theorem strip_any (g : Nat) (n : Int) (w : World) (h0 : 0 ≤ n) (h1 : n < 1073741824) (hc0 : w.cell? ⟨g, 0, none⟩ = some (.int .u64 n)) :
  Calls Try.prog 46 #[.pointer (some ⟨g, 0, none⟩)] w fun e' w' => e' = .returned (.tuple #[]) ∧ w = w' := by
 have hand := and_hi (x := n) h0 (by omega)
 go_enter Try.func46, Try.ntmps46
 go_wp2_with fail
 refine bodyPost_end (results_none rfl _ _ _) rfl ?_
 exact ⟨rfl, rfl⟩
def UtcAt (w : World) (g : Nat) : Prop := w.cell? ⟨g, 0, none⟩ = some (.bool true) ∧ w.cell? ⟨g, 2, none⟩ = some (.slice none 0 0) ∧ g < w.heap.size
theorem UtcAt.below {w w' : World} {g : Nat} (h : UtcAt w g) (hb : Below w.heap.size w w') : UtcAt w' g :=
 ⟨(hb.cell (p := ⟨g, 0, none⟩) h.2.2).trans h.1, (hb.cell (p := ⟨g, 2, none⟩) h.2.2).trans h.2.1, Nat.lt_of_lt_of_le h.2.2 hb.size⟩
theorem setLocUtc_any (g k : Nat) (n : Int) (l : Option Addr) (w : World) (h0 : 0 ≤ n) (h1 : n < 1073741824) (hc0 : w.cell? ⟨g, 0, none⟩ = some (.int .u64 n)) (hc2 : w.cell? ⟨g, 2, none⟩ = some (.pointer l)) (hf2 : w.frozen? ⟨g, 2, none⟩ = false) (hu : UtcAt w k) :
  Calls Try.prog 43 #[.pointer (some ⟨g, 0, none⟩), .pointer (some ⟨k, 0, none⟩)] w fun e' w' => e' = .returned (.tuple #[]) ∧ w' = w.setCell ⟨g, 2, none⟩ (.pointer none) := by
 have H := Lib.hid (strip_any g n w h0 h1 hc0)
 obtain ⟨hu0, _, _⟩ := hu
 go_enter Try.func43, Try.ntmps43
 go_wp2_with fail
 refine H.out.mono ?_
 rintro e' w' ⟨rfl, rfl⟩
 go_wp2_with fail
 refine bodyPost_end (results_none rfl _ _ _) rfl ?_
 exact ⟨rfl, rfl⟩
theorem addSec_any (g : Nat) (n e d : Int) (w : World) (h0 : 0 ≤ n) (h1 : n < 1073741824) (he0 : -5000000 ≤ e) (he1 : e ≤ 1000000000000) (hd0 : -1000000000 ≤ d) (hd1 : d ≤ 1000000000)
  (hc0 : w.cell? ⟨g, 0, none⟩ = some (.int .u64 n)) (hc1 : w.cell? ⟨g, 1, none⟩ = some (.int .i64 e)) (hf1 : w.frozen? ⟨g, 1, none⟩ = false) :
  Calls Try.prog 68 #[.pointer (some ⟨g, 0, none⟩), .int .i64 d] w fun e' w' => e' = .returned (.tuple #[]) ∧ w' = w.setCell ⟨g, 1, none⟩ (.int .i64 (e + d)) := by
 have hand := and_hi (x := n) h0 (by omega)
 by_cases hd : 0 < d
 ·have hgt : e < e + d := by omega
  go_enter Try.func68, Try.ntmps68
  go_wp2_with fail
  refine bodyPost_end (results_none rfl _ _ _) rfl ?_
  exact ⟨rfl, rfl⟩
 ·have hgt : ¬ e < e + d := by omega
  go_enter Try.func68, Try.ntmps68
  go_wp2_with fail
  refine bodyPost_end (results_none rfl _ _ _) rfl ?_
  exact ⟨rfl, rfl⟩
theorem unixTime_any (s n : Int) (h0 : 0 ≤ n) (h1 : n < 1000000000) (hs0 : -1000000000000 ≤ s) (hs1 : s ≤ 1000000000000) (w : World) :
  Calls Try.prog 42 #[.int .i64 s, .int .i32 n] w fun e' w' => e' = .returned (tv n (s + 62135596800) none) ∧ Below w.heap.size w w' := by
 go_enter Try.func42, Try.ntmps42
 go_wp2_with fail
 exact bodyPost_ret (v := tv n (s + 62135596800) none) (by simp [results, Try.results42, go_sem, tv]) rfl ⟨rfl, ((Below.refl _ _).alloc (Nat.le_refl _) _)⟩
end Go.Proofs.Ytlopkdhblfibkaa.Cal
namespace Go.Proofs.Ytlopkdhblfibkaa.Cal
open Go Go.RowKit
set_option linter.unusedVariables false
set_option linter.unusedSimpArgs false
theorem addFirst_any (n e : Int) (l : Option Addr) (h0 : 0 ≤ n) (h1 : n < 1000000000) (he0 : -5000000 ≤ e) (he1 : e ≤ 900000000000) (w : World) :
  Calls Try.prog 67 #[tv n e l, .int .i64 (1000000000 - n)] w fun e' w' => e' = .returned (tv 0 (e + 1) l) ∧ Below w.heap.size w w' := by
 unfold tv
 have HN := Lib.hid (fun (g : Nat) w' hc => nsec_any g n w' h0 (by omega) hc)
 have HA := Lib.hid (fun (g : Nat) w' hc0 hc1 hf => addSec_any g 0 e 1 w' (by omega) (by omega) he0 (by omega) (by omega) (by omega) hc0 hc1 hf)
 have hno := andNot_low (x := n) h0 (by omega)
 have hor : bits .or .u64 0 0 = 0 := by decide
 have hand := and_hi (x := 0) (by omega) (by omega)
 by_cases hn : n = 0
 ·subst hn
  go_enter Try.func67, Try.ntmps67
  go_wp2_with fail
  refine (HN.out _ _ (by simp [go_sem])).mono ?_
  rintro e' w' ⟨rfl, rfl⟩
  go_wp2_with fail
  refine (HA.out w.heap.size _ (by simp [go_sem]) (by simp [go_sem]) (by simp [go_sem])).mono ?_
  rintro e' w' ⟨rfl, rfl⟩
  go_wp2_with fail
  exact bodyPost_ret (v := .agg #[.int .u64 0, .int .i64 (e + 1), .pointer l]) (by simp [results, Try.results67, go_sem]) rfl ⟨rfl, by go_grown⟩
 ·go_enter Try.func67, Try.ntmps67
  go_wp2_with fail
  refine (HN.out _ _ (by simp [go_sem])).mono ?_
  rintro e' w' ⟨rfl, rfl⟩
  have r1 : (1000000000 - n) / 1000000000 + 1 = 1 := by omega
  have r2 : n + (1000000000 - n) - 1000000000 = 0 := by omega
  have hq : (1000000000 - n).tdiv 1000000000 = 0 := by
   rw [Int.tdiv_eq_ediv_of_nonneg (by omega)]
   omega
  have hm : (1000000000 - n).tmod 1000000000 = 1000000000 - n := by
   rw [Int.tmod_eq_emod_of_nonneg (by omega)]
   omega
  have R1 := Lib.hid r1
  have R2 := Lib.hid r2
  clear r1 r2
  go_wp2_with fail
  simp only [R1.out, R2.out, hor]
  refine (HA.out w.heap.size _ (by simp [go_sem]) (by simp [go_sem]) (by simp [go_sem])).mono ?_
  rintro e' w' ⟨rfl, rfl⟩
  go_wp2_with fail
  exact bodyPost_ret (v := .agg #[.int .u64 0, .int .i64 (e + 1), .pointer l]) (by simp [results, Try.results67, go_sem]) rfl ⟨rfl, by go_grown⟩
theorem addWhole_any (k e : Int) (l : Option Addr) (he0 : -5000000 ≤ e) (he1 : e ≤ 900000000000) (hk0 : -1000000 ≤ k) (hk1 : k ≤ 1000000) (w : World) :
  Calls Try.prog 67 #[tv 0 e l, .int .i64 (1000000000 * k)] w fun e' w' => e' = .returned (tv 0 (e + k) l) ∧ Below w.heap.size w w' := by
 unfold tv
 have HN := Lib.hid (fun (g : Nat) w' hc => nsec_any g 0 w' (by omega) (by omega) hc)
 have HA := Lib.hid (fun (g : Nat) w' hc0 hc1 hf => addSec_any g 0 e k w' (by omega) (by omega) he0 (by omega) (by omega) (by omega) hc0 hc1 hf)
 have hno := andNot_low (x := 0) (by omega) (by omega)
 have hor : bits .or .u64 0 0 = 0 := by decide
 have hand := and_hi (x := 0) (by omega) (by omega)
 have hq : (1000000000 * k).tdiv 1000000000 = k := Int.mul_tdiv_cancel_left _ (by omega)
 have hm : (1000000000 * k).tmod 1000000000 = 0 := Int.mul_tmod_right _ _
 go_enter Try.func67, Try.ntmps67
 go_wp2_with fail
 refine (HN.out _ _ (by simp [go_sem])).mono ?_
 rintro e' w' ⟨rfl, rfl⟩
 go_wp2_with fail
 refine (HA.out w.heap.size _ (by simp [go_sem]) (by simp [go_sem]) (by simp [go_sem])).mono ?_
 rintro e' w' ⟨rfl, rfl⟩
 go_wp2_with fail
 exact bodyPost_ret (v := .agg #[.int .u64 0, .int .i64 (e + k), .pointer l]) (by simp [results, Try.results67, go_sem]) rfl ⟨rfl, by go_grown⟩
theorem locUtc_any (n e : Int) (w : World) :
  Calls Try.prog 70 #[tv n e none] w fun e' w' => ∃ g, e' = .returned (.pointer (some ⟨g, 0, none⟩)) ∧ UtcAt w' g ∧ Below w.heap.size w w' ∧ w.heap.size ≤ g := by
 unfold tv
 go_enter Try.func70, Try.ntmps70
 go_wp2_with fail
 refine (utc_any _).mono ?_
 rintro e' w' ⟨rfl, h0, h2, hb, hlt⟩
 go_wp2_with fail
 go_ret
 have hg : (w.alloc (.cells #[.int .u64 n, .int .i64 e, .pointer none] 59)).heap.size = w.heap.size + 1 := by simp
 rw [hg] at h0 h2 hlt
 exact ⟨_, rfl, ⟨h0, h2, hlt⟩, ((Below.refl _ _).alloc (Nat.le_refl _) _).trans (hb.mono (by simp)), by simp⟩
theorem getNil_any (w : World) :
  Calls Try.prog 94 #[.pointer none] w fun e' w' => ∃ g, e' = .returned (.pointer (some ⟨g, 0, none⟩)) ∧ UtcAt w' g ∧ Below w.heap.size w w' ∧ w.heap.size ≤ g := by
 go_enter Try.func94, Try.ntmps94
 go_wp2_with fail
 refine (utc_any _).mono ?_
 rintro e' w' ⟨rfl, h0, h2, hb, hlt⟩
 go_wp2_with fail
 go_ret
 exact ⟨_, rfl, ⟨h0, h2, hlt⟩, hb, Nat.le_refl _⟩
theorem getUtc_any (g : Nat) (w : World) :
  Calls Try.prog 94 #[.pointer (some ⟨g, 0, none⟩)] w fun e' w' => e' = .returned (.pointer (some ⟨g, 0, none⟩)) ∧ w = w' := by
 go_enter Try.func94, Try.ntmps94
 go_wp2_with fail
 go_ret
 exact ⟨rfl, rfl⟩
theorem inUtc_any (n e : Int) (l : Option Addr) (k : Nat) (w : World) (h0 : 0 ≤ n) (h1 : n < 1073741824) (hu : UtcAt w k) :
  Calls Try.prog 37 #[tv n e l, .pointer (some ⟨k, 0, none⟩)] w fun e' w' => e' = .returned (tv n e none) ∧ Below w.heap.size w w' := by
 unfold tv
 have hlt := hu.2.2
 have HS := Lib.hid (fun (g : Nat) w' hc0 hc2 hf2 hu' => setLocUtc_any g k n l w' h0 h1 hc0 hc2 hf2 hu')
 go_enter Try.func37, Try.ntmps37
 go_wp2_with fail
 refine (HS.out w.heap.size _ (by simp [go_sem]) (by simp [go_sem]) (by simp [go_sem]) (hu.below (((Below.refl _ _).alloc (Nat.le_refl _) _).alloc (by simp) _))).mono ?_
 rintro e' w' ⟨rfl, rfl⟩
 go_wp2_with fail
 exact bodyPost_ret (v := .agg #[.int .u64 n, .int .i64 e, .pointer none]) (by simp [results, Try.results37, go_sem]) rfl ⟨rfl, by go_grown⟩
def EOk (e : Int) : Prop := -4000000 ≤ e ∧ e ≤ 400000000000
theorem absSecUtc_any (n e : Int) (h0 : 0 ≤ n) (h1 : n < 1073741824) (he : EOk e) (w : World) :
  Calls Try.prog 80 #[tv n e none] w fun e' w' => e' = .returned (.int .u64 (e + 9223371966606163200)) ∧ Below w.heap.size w w' := by
 unfold tv
 obtain ⟨he0, he1⟩ := he
 have HU := Lib.hid (fun (g : Nat) w' hc0 hc1 => unixSec_any g n e w' h0 h1 (by omega) (by omega) hc0 hc1)
 have hG := Lib.hid getNil_any
 have E : e - 62135596800 + 9223372028741760000 = e + 9223371966606163200 := by omega
 have HE := Lib.hid E
 clear E
 by_cases hbig : e ≤ 70248612607
 ·skip
  go_enter Try.func80, Try.ntmps80
  go_wp2_with fail
  refine (hG.out _).mono ?_
  rintro e' w1 ⟨g, rfl, ⟨u0, u2, ult⟩, hb, hge⟩
  have hc0 : w1.cell? ⟨w.heap.size, 0, none⟩ = some (.int .u64 n) := (hb.cell (p := ⟨w.heap.size, 0, none⟩) (by simp)).trans (by simp [go_sem])
  have hc1 : w1.cell? ⟨w.heap.size, 1, none⟩ = some (.int .i64 e) := (hb.cell (p := ⟨w.heap.size, 1, none⟩) (by simp)).trans (by simp [go_sem])
  have HB := Lib.hid (((Below.refl w.heap.size w).alloc (Nat.le_refl _) _).trans (hb.mono (by simp)))
  clear hb hge
  go_wp2_with fail
  refine (HU.out _ _ hc0 hc1).mono ?_
  rintro e' w2 ⟨rfl, rfl⟩
  go_wp2_with fail
  go_ret
  refine ⟨?_, HB.out⟩
  rw [← HE.out]
  rfl
 ·skip
  go_enter Try.func80, Try.ntmps80
  go_wp2_with fail
  refine (hG.out _).mono ?_
  rintro e' w1 ⟨g, rfl, ⟨u0, u2, ult⟩, hb, hge⟩
  have hc0 : w1.cell? ⟨w.heap.size, 0, none⟩ = some (.int .u64 n) := (hb.cell (p := ⟨w.heap.size, 0, none⟩) (by simp)).trans (by simp [go_sem])
  have hc1 : w1.cell? ⟨w.heap.size, 1, none⟩ = some (.int .i64 e) := (hb.cell (p := ⟨w.heap.size, 1, none⟩) (by simp)).trans (by simp [go_sem])
  have HB := Lib.hid (((Below.refl w.heap.size w).alloc (Nat.le_refl _) _).trans (hb.mono (by simp)))
  clear hb hge
  go_wp2_with fail
  refine (HU.out _ _ hc0 hc1).mono ?_
  rintro e' w2 ⟨rfl, rfl⟩
  have HE2 : Hid (IntKind.u64.wrap (wrap64 (e - 62135596800 + 9223372028741760000)) = e + 9223371966606163200) := Lib.hid (by
   unfold wrap64
   rw [IntKind.wrap_u64]
   omega)
  go_wp2_with fail
  go_ret
  refine ⟨?_, HB.out⟩
  rw [← HE2.out]
  rfl
theorem l_days {e off : Int} (he : EOk e) (h0 : -90000 ≤ off) (h1 : off ≤ 90000) : (e - 62135596800 + off + 9223372028741760000) / 86400 = dayL (e - 62135596800 + off) + absK ∧ AOk (dayL (e - 62135596800 + off) + absK) ∧
  0 ≤ e - 62135596800 + off + 9223372028741760000 ∧ e - 62135596800 + off + 9223372028741760000 ≤ 18446744073709551615 := by
 obtain ⟨a, b⟩ := he
 unfold dayL absK AOk
 refine ⟨by omega, ⟨by omega, by omega⟩, by omega, by omega⟩
end Go.Proofs.Ytlopkdhblfibkaa.Cal
namespace Go.Proofs.Ytlopkdhblfibkaa.Cal
open Go Go.RowKit
set_option linter.unusedVariables false
set_option linter.unusedSimpArgs false
theorem norm_in (hi lo base : Int) (h0 : 0 ≤ lo) (h1 : lo < base) (w : World) :
  Calls Try.prog 87 #[.int .i64 hi, .int .i64 lo, .int .i64 base] w fun e w' => e = .returned (.tuple #[.int .i64 hi, .int .i64 lo]) ∧ w = w' := by
 have h2 : ¬ base ≤ lo := by omega
 go_enter Try.func87, Try.ntmps87
 go_wp2
 go_ret2
 exact ⟨rfl, rfl⟩
theorem norm_12 (hi : Int) (h0 : -1000000 ≤ hi) (h1 : hi ≤ 1000000) (w : World) :
  Calls Try.prog 87 #[.int .i64 hi, .int .i64 12, .int .i64 12] w fun e w' => e = .returned (.tuple #[.int .i64 (hi + 1), .int .i64 0]) ∧ w = w' := by
 go_enter Try.func87, Try.ntmps87
 go_wp2
 go_ret2
 exact ⟨rfl, rfl⟩
theorem dateToAbs_any (y m d : Int) (y0 : 0 ≤ y) (y1 : y ≤ 20000) (m0 : 1 ≤ m) (m1 : m ≤ 12) (d0 : 1 ≤ d) (d1 : d ≤ 40) (hy : m < 3 → 1 ≤ y) (w : World) :
  Calls Try.prog 88 #[.int .i64 y, .int .i64 m, .int .i64 d] w fun e w' => e = .returned (.int .u64 (dayOf y m d + absK)) ∧ w = w' := by
 have ha := absDay_is y m d m0 m1
 have HA := Lib.hid ha
 have HU : Hid (absDay y m d = 146097 * ((y - (if m < 3 then 1 else 0) + 292277022400) / 100) / 4 + (1461 * ((y - (if m < 3 then 1 else 0) + 292277022400) % 100) / 4 + (979 * (m + 12 * (if m < 3 then 1 else 0)) - 2919) / 32 + d - 1)) := Lib.hid rfl
 clear ha
 by_cases h : m < 3
 ·have HV : Hid (dayOf y m d + absK = 146097 * ((y - 1 + 292277022400) / 100) / 4 + (1461 * ((y - 1 + 292277022400) % 100) / 4 + (979 * (m + 12) - 2919) / 32 + d - 1)) := Lib.hid (by rw [← HA.out, HU.out, if_pos h]; omega)
  clear HA HU
  rw [HV.out]
  have hy1 := hy h
  have s1 : 0 ≤ 1461 * ((y - 1 + 292277022400) % 100) / 4 + (979 * (m + 12) - 2919) / 32 + d - 1 := by omega
  have s2 : 1461 * ((y - 1 + 292277022400) % 100) / 4 + (979 * (m + 12) - 2919) / 32 + d - 1 ≤ 100000 := by omega
  clear hy
  go_enter Try.func88, Try.ntmps88
  go_wp2
  go_ret
  exact ⟨rfl, rfl⟩
 ·have HV : Hid (dayOf y m d + absK = 146097 * ((y + 292277022400) / 100) / 4 + (1461 * ((y + 292277022400) % 100) / 4 + (979 * m - 2919) / 32 + d - 1)) := Lib.hid (by rw [← HA.out, HU.out, if_neg h]; simp)
  clear HA HU
  rw [HV.out]
  have s1 : 0 ≤ 1461 * ((y + 292277022400) % 100) / 4 + (979 * m - 2919) / 32 + d - 1 := by omega
  have s2 : 1461 * ((y + 292277022400) % 100) / 4 + (979 * m - 2919) / 32 + d - 1 ≤ 100000 := by omega
  clear hy
  go_enter Try.func88, Try.ntmps88
  go_wp2
  go_ret
  exact ⟨rfl, rfl⟩
set_option maxRecDepth 100000 in
theorem lookupUtc_any (k : Nat) (u : Int) (w : World) (hu : UtcAt w k) :
  Calls Try.prog 89 #[.pointer (some ⟨k, 0, none⟩), .int .i64 u] w fun e w' => e = .returned (.tuple #[.string ⟨#[85, 84, 67]⟩, .int .i64 0, .int .i64 (-9223372036854775808), .int .i64 9223372036854775807, .bool false]) ∧ w = w' := by
 obtain ⟨-, u2, -⟩ := hu
 have HG := Lib.hid (fun w' => getUtc_any k w')
 go_enter Try.func89, Try.ntmps89
 go_wp2_with fail
 refine (HG.out _).mono ?_
 rintro e w1 ⟨rfl, rfl⟩
 go_wp2_with fail
 go_returns
 exact ⟨rfl, rfl⟩
theorem timeSize : (Try.prog.info? 59).map (·.size) = some 3 := by kernel_rfl
theorem results_time {fn : Func} {p : Tmp} (h : fn.results = #[.cell p 59]) (tmps : Array Value) (w : World) (g : Nat) (cs : Array Value) (h3 : cs.size = 3)
  (hp : tmps.getD p undef = .pointer (some ⟨g, 0, none⟩)) (hs : w.heap[g]? = some (.cells cs 59 (0, 0))) :
  (results fn tmps).run Try.prog w = .ok (.agg cs) w := by
 have hp' : tmps[p]?.getD undef = .pointer (some ⟨g, 0, none⟩) := by simpa using hp
 simp only [results, h]
 simp [asAddr, hp', run_loadVar_row w g _ _ _ _ _ hs Try.underlying59 rfl (by rw [timeSize, h3])]
theorem row3_set {w : World} {g : Nat} {a b c x y z : Value} {T : TypeId} (h : w.heap[g]? = some (.cells #[a, b, c] T (0, 0))) :
  (((w.setCell ⟨g, 0, none⟩ x).setCell ⟨g, 1, none⟩ y).setCell ⟨g, 2, none⟩ z).heap[g]? = some (.cells #[x, y, z] T (0, 0)) := by
 have h1 := heap_setCell_same w g 0 _ _ x h
 have h2 := heap_setCell_same _ g 1 _ _ y h1
 have h3 := heap_setCell_same _ g 2 _ _ z h2
 exact h3
def dayGo (y m d : Int) : Int := if m = 13 then dayOf (y + 1) 1 d else dayOf y m d
theorem wrap_days (D s : Int) (h0 : -719600 ≤ D) (h1 : D ≤ 4000000) (s0 : 0 ≤ s) (s1 : s ≤ 86399) :
  wrap64 (wrap64 (wrap64 (wrap64 (D + absK) * 86400) + s) + -9223372028741760000) = D * 86400 + s := by
 unfold wrap64 absK
 omega
set_option maxRecDepth 100000 in
set_option maxHeartbeats 1000000 in
theorem dateUtc_any (k : Nat) (y m d h mi s ns : Int) (w : World) (y0 : 0 ≤ y) (y1 : y ≤ 10100) (m0 : 1 ≤ m) (m1 : m ≤ 13) (d0 : 1 ≤ d) (d1 : d ≤ 40) (hy : m < 3 → 1 ≤ y)
  (h0 : 0 ≤ h) (h1 : h < 24) (mi0 : 0 ≤ mi) (mi1 : mi < 60) (s0 : 0 ≤ s) (s1 : s < 60) (n0 : 0 ≤ ns) (n1 : ns < 1000000000) (hu : UtcAt w k) :
  Calls Try.prog 73 #[.int .i64 y, .int .i64 m, .int .i64 d, .int .i64 h, .int .i64 mi, .int .i64 s, .int .i64 ns, .pointer (some ⟨k, 0, none⟩)] w
   fun e w' => e = .returned (tv ns (dayGo y m d * 86400 + (h * 3600 + mi * 60 + s) + 62135596800) none) ∧ Below w.heap.size w w' := by
 have hdd : Hid (∀ y m : Int, 0 ≤ y → y ≤ 10101 → 1 ≤ m → m ≤ 12 → -719600 ≤ dayOf y m d ∧ dayOf y m d ≤ 4000000) := Lib.hid (by
  intro y m a1 a2 a3 a4
  have c1 := cum_nonneg (y := y) a3 (by omega)
  have c2 := cum_lt (y := y) (m := m) (m' := 13) a3 (by omega) (by omega)
  have c3 := cum_last y
  have c4 := lp_01 y
  have c5 := mdays_bd y m
  unfold dayOf ystart
  omega)
 have HN := Lib.hid (fun hi lo base a b w => norm_in hi lo base a b w)
 have HS := Lib.hid (fun (g : Nat) w' hc0 hc2 hf2 hu' => setLocUtc_any g k ns none w' n0 (by omega) hc0 hc2 hf2 hu')
 by_cases h13 : m = 13
 ·subst h13
  have H12 := Lib.hid (fun w => norm_12 y (by omega) (by omega) w)
  have HD := Lib.hid (fun w => dateToAbs_any (y + 1) 1 d (by omega) (by omega) (by omega) (by omega) d0 d1 (by omega) w)
  have hb := hdd.out (y + 1) 1 (by omega) (by omega) (by omega) (by omega)
  have HG : Hid (dayGo y 13 d = dayOf (y + 1) 1 d) := Lib.hid (by unfold dayGo; rw [if_pos rfl])
  rw [HG.out]
  generalize dayOf (y + 1) 1 d = D at *
  clear hdd hy HG
  go_enter Try.func73, Try.ntmps73
  go_wp2_with fail
  refine (H12.out _).mono ?_
  rintro e1 w1 ⟨rfl, rfl⟩
  go_wp2_with fail
  refine (HN.out s ns 1000000000 n0 n1 _).mono ?_
  rintro e1 w1 ⟨rfl, rfl⟩
  go_wp2_with fail
  refine (HN.out mi s 60 s0 s1 _).mono ?_
  rintro e1 w1 ⟨rfl, rfl⟩
  go_wp2_with fail
  refine (HN.out h mi 60 mi0 mi1 _).mono ?_
  rintro e1 w1 ⟨rfl, rfl⟩
  go_wp2_with fail
  refine (HN.out d h 24 h0 h1 _).mono ?_
  rintro e1 w1 ⟨rfl, rfl⟩
  go_wp2_with fail
  refine (HD.out _).mono ?_
  rintro e1 w1 ⟨rfl, rfl⟩
  have HW : Hid (wrap64 (wrap64 (wrap64 (wrap64 (D + absK) * 86400) + (h * 3600 + mi * 60 + s)) + -9223372028741760000) = D * 86400 + (h * 3600 + mi * 60 + s)) := Lib.hid (wrap_days D _ hb.1 hb.2 (by omega) (by omega))
  have u0 : -1000000000000 ≤ D * 86400 + (h * 3600 + mi * 60 + s) := by omega
  have u1 : D * 86400 + (h * 3600 + mi * 60 + s) ≤ 1000000000000 := by omega
  go_wp2_with fail
  rw [HW.out]
  clear HW
  generalize hue : D * 86400 + (h * 3600 + mi * 60 + s) = u at *
  have HUE := Lib.hid hue
  clear hue
  have HU := Lib.hid (unixTime_any u ns n0 n1 u0 u1)
  have HL := Lib.hid (fun w' hu' => lookupUtc_any k u w' hu')
  refine (HL.out _ (hu.below ((Below.refl _ _).alloc (Nat.le_refl _) _))).mono ?_
  rintro e1 w1 ⟨rfl, rfl⟩
  go_wp2_with fail
  refine (HU.out _).mono ?_
  rintro e1 w1 ⟨rfl, hb1⟩
  have HB1 := Lib.hid (((Below.refl w.heap.size w).alloc (Nat.le_refl _) _).trans (hb1.mono (by simp)))
  have hc16 : w1.cell? ⟨w.heap.size, 0, none⟩ = some (.int .u64 0) := (hb1.cell (p := ⟨w.heap.size, 0, none⟩) (by simp)).trans (by simp [go_sem])
  have hc17 : w1.cell? ⟨w.heap.size, 1, none⟩ = some (.int .i64 0) := (hb1.cell (p := ⟨w.heap.size, 1, none⟩) (by simp)).trans (by simp [go_sem])
  have hc18 : w1.cell? ⟨w.heap.size, 2, none⟩ = some (.pointer none) := (hb1.cell (p := ⟨w.heap.size, 2, none⟩) (by simp)).trans (by simp [go_sem])
  have hf16 : w1.frozen? ⟨w.heap.size, 0, none⟩ = false := (hb1.frozen (p := ⟨w.heap.size, 0, none⟩) (by simp)).trans (by simp [go_sem])
  have hf17 : w1.frozen? ⟨w.heap.size, 1, none⟩ = false := (hb1.frozen (p := ⟨w.heap.size, 1, none⟩) (by simp)).trans (by simp [go_sem])
  have hf18 : w1.frozen? ⟨w.heap.size, 2, none⟩ = false := (hb1.frozen (p := ⟨w.heap.size, 2, none⟩) (by simp)).trans (by simp [go_sem])
  have hrow := (hb1.block w.heap.size (by simp)).trans (heap_alloc_new w (.cells #[.int .u64 0, .int .i64 0, .pointer none] 59))
  have HROW := Lib.hid (((Below.refl _ _).alloc (Nat.le_refl _) (.cells #[.int .u64 ns, .int .i64 (u + 62135596800), .pointer none] 59) |>.block w.heap.size (by simpa using (Array.getElem?_eq_some_iff.1 hrow).1)).trans (row3_set (x := .int .u64 ns) (y := .int .i64 (u + 62135596800)) (z := .pointer none) hrow))
  clear hrow
  have hsz1 : w.heap.size < w1.heap.size := by have := hb1.size; simp at this; omega
  have hu1 := Lib.hid (hu.below HB1.out)
  clear hb1
  unfold tv at *
  go_wp2_with fail
  refine (HS.out w1.heap.size _ (by simp [go_sem]) (by simp [go_sem]) (by simp [go_sem]) (hu1.out.below (by go_grown))).mono ?_
  rintro e1 w2 ⟨rfl, rfl⟩
  go_wp2_with fail
  refine bodyPost_ret (v := .agg #[.int .u64 ns, .int .i64 (u + 62135596800), .pointer none]) (results_time rfl _ _ w.heap.size _ rfl rfl HROW.out) rfl ⟨by rw [HUE.out]; rfl, ?_⟩
  have hz := HB1.out.size
  exact (((HB1.out.setCell (p := ⟨w.heap.size, 0, none⟩) (Nat.le_refl _) _).setCell (p := ⟨w.heap.size, 1, none⟩) (Nat.le_refl _) _).setCell (p := ⟨w.heap.size, 2, none⟩) (Nat.le_refl _) _).alloc (by simpa using hz) _
 ·have m12 : m ≤ 12 := by omega
  have HD := Lib.hid (fun w => dateToAbs_any y m d (by omega) (by omega) (by omega) (by omega) d0 d1 hy w)
  have hb := hdd.out y m (by omega) (by omega) (by omega) (by omega)
  have HG : Hid (dayGo y m d = dayOf y m d) := Lib.hid (by unfold dayGo; rw [if_neg h13])
  have HM : Hid (m - 1 + 1 = m) := Lib.hid (by omega)
  rw [HG.out]
  generalize dayOf y m d = D at *
  clear hdd hy HG h13
  go_enter Try.func73, Try.ntmps73
  go_wp2_with fail
  refine (HN.out y (m - 1) 12 (by omega) (by omega) _).mono ?_
  rintro e1 w1 ⟨rfl, rfl⟩
  go_wp2_with fail
  refine (HN.out s ns 1000000000 n0 n1 _).mono ?_
  rintro e1 w1 ⟨rfl, rfl⟩
  go_wp2_with fail
  refine (HN.out mi s 60 s0 s1 _).mono ?_
  rintro e1 w1 ⟨rfl, rfl⟩
  go_wp2_with fail
  refine (HN.out h mi 60 mi0 mi1 _).mono ?_
  rintro e1 w1 ⟨rfl, rfl⟩
  go_wp2_with fail
  refine (HN.out d h 24 h0 h1 _).mono ?_
  rintro e1 w1 ⟨rfl, rfl⟩
  go_wp2_with fail
  refine (HD.out _).mono ?_
  rintro e1 w1 ⟨rfl, rfl⟩
  have HW : Hid (wrap64 (wrap64 (wrap64 (wrap64 (D + absK) * 86400) + (h * 3600 + mi * 60 + s)) + -9223372028741760000) = D * 86400 + (h * 3600 + mi * 60 + s)) := Lib.hid (wrap_days D _ hb.1 hb.2 (by omega) (by omega))
  have u0 : -1000000000000 ≤ D * 86400 + (h * 3600 + mi * 60 + s) := by omega
  have u1 : D * 86400 + (h * 3600 + mi * 60 + s) ≤ 1000000000000 := by omega
  go_wp2_with fail
  rw [HW.out]
  clear HW
  generalize hue : D * 86400 + (h * 3600 + mi * 60 + s) = u at *
  have HUE := Lib.hid hue
  clear hue
  have HU := Lib.hid (unixTime_any u ns n0 n1 u0 u1)
  have HL := Lib.hid (fun w' hu' => lookupUtc_any k u w' hu')
  refine (HL.out _ (hu.below ((Below.refl _ _).alloc (Nat.le_refl _) _))).mono ?_
  rintro e1 w1 ⟨rfl, rfl⟩
  go_wp2_with fail
  refine (HU.out _).mono ?_
  rintro e1 w1 ⟨rfl, hb1⟩
  have HB1 := Lib.hid (((Below.refl w.heap.size w).alloc (Nat.le_refl _) _).trans (hb1.mono (by simp)))
  have hc16 : w1.cell? ⟨w.heap.size, 0, none⟩ = some (.int .u64 0) := (hb1.cell (p := ⟨w.heap.size, 0, none⟩) (by simp)).trans (by simp [go_sem])
  have hc17 : w1.cell? ⟨w.heap.size, 1, none⟩ = some (.int .i64 0) := (hb1.cell (p := ⟨w.heap.size, 1, none⟩) (by simp)).trans (by simp [go_sem])
  have hc18 : w1.cell? ⟨w.heap.size, 2, none⟩ = some (.pointer none) := (hb1.cell (p := ⟨w.heap.size, 2, none⟩) (by simp)).trans (by simp [go_sem])
  have hf16 : w1.frozen? ⟨w.heap.size, 0, none⟩ = false := (hb1.frozen (p := ⟨w.heap.size, 0, none⟩) (by simp)).trans (by simp [go_sem])
  have hf17 : w1.frozen? ⟨w.heap.size, 1, none⟩ = false := (hb1.frozen (p := ⟨w.heap.size, 1, none⟩) (by simp)).trans (by simp [go_sem])
  have hf18 : w1.frozen? ⟨w.heap.size, 2, none⟩ = false := (hb1.frozen (p := ⟨w.heap.size, 2, none⟩) (by simp)).trans (by simp [go_sem])
  have hrow := (hb1.block w.heap.size (by simp)).trans (heap_alloc_new w (.cells #[.int .u64 0, .int .i64 0, .pointer none] 59))
  have HROW := Lib.hid (((Below.refl _ _).alloc (Nat.le_refl _) (.cells #[.int .u64 ns, .int .i64 (u + 62135596800), .pointer none] 59) |>.block w.heap.size (by simpa using (Array.getElem?_eq_some_iff.1 hrow).1)).trans (row3_set (x := .int .u64 ns) (y := .int .i64 (u + 62135596800)) (z := .pointer none) hrow))
  clear hrow
  have hsz1 : w.heap.size < w1.heap.size := by have := hb1.size; simp at this; omega
  have hu1 := Lib.hid (hu.below HB1.out)
  clear hb1
  unfold tv at *
  go_wp2_with fail
  refine (HS.out w1.heap.size _ (by simp [go_sem]) (by simp [go_sem]) (by simp [go_sem]) (hu1.out.below (by go_grown))).mono ?_
  rintro e1 w2 ⟨rfl, rfl⟩
  go_wp2_with fail
  refine bodyPost_ret (v := .agg #[.int .u64 ns, .int .i64 (u + 62135596800), .pointer none]) (results_time rfl _ _ w.heap.size _ rfl rfl HROW.out) rfl ⟨by rw [HUE.out]; rfl, ?_⟩
  have hz := HB1.out.size
  exact (((HB1.out.setCell (p := ⟨w.heap.size, 0, none⟩) (Nat.le_refl _) _).setCell (p := ⟨w.heap.size, 1, none⟩) (Nat.le_refl _) _).setCell (p := ⟨w.heap.size, 2, none⟩) (Nat.le_refl _) _).alloc (by simpa using hz) _
end Go.Proofs.Ytlopkdhblfibkaa.Cal
namespace Go.Proofs.Ytlopkdhblfibkaa.Cal
open Go
set_option linter.unusedVariables false
set_option linter.unusedSectionVars false
set_option linter.unusedSimpArgs false
def zt (off : Int → Int) (u : Int) : Int := u + off u
def dt (off : Int → Int) (X : Int) : Int := X - off (X - off X)
structure Zn (off : Int → Int) : Prop where
 o0 : ∀ u, -86400 ≤ off u
 o1 : ∀ u, off u ≤ 86400
 m60 : ∀ u, off u % 60 = 0
 step : ∀ u, off (u + 1) ≠ off u → (u + 1 + off u) % 3600 = 0 ∧ (u + 1 + off (u + 1)) % 3600 = 0 ∧ (u + 1 + off u) / 86400 = (u + 1 + off (u + 1)) / 86400 ∧ 3600 ≤ (u + 1 + off u) % 86400 ∧ 3600 ≤ (u + 1 + off (u + 1)) % 86400 ∧ off u - 3600 ≤ off (u + 1)
 gap : ∀ u v, u < v → off (u + 1) ≠ off u → off (v + 1) ≠ off v → 345600 ≤ v - u
theorem zn_const (k : Int) (h0 : -86400 ≤ k) (h1 : k ≤ 86400) (h2 : k % 60 = 0) : Zn (fun _ => k) :=
 ⟨fun _ => h0, fun _ => h1, fun _ => h2, fun _ h => absurd rfl h, fun _ _ _ h => absurd rfl h⟩
section
variable {off : Int → Int} (Z : Zn off)
include Z
theorem up_step {X u : Int} (hX : X % 86400 = 0) (h : X ≤ zt off u) : X ≤ zt off (u + 1) := by
 unfold zt at *
 by_cases hc : off (u + 1) = off u
 ·rw [hc]; omega
 ·obtain ⟨a, b, c, d, e, -⟩ := Z.step u hc
  omega
theorem up_mono {X : Int} (hX : X % 86400 = 0) {u v : Int} (h : X ≤ zt off u) (hv : u ≤ v) : X ≤ zt off v := by
 have key : ∀ n : Nat, X ≤ zt off (u + n) := by
  intro n
  induction n with
  | zero => simpa using h
  | succ n ih =>
   have := up_step Z hX ih
   rw [show u + ((n + 1 : Nat) : Int) = u + (n : Int) + 1 by omega]
   exact this
 have := key (v - u).toNat
 rw [show u + ((v - u).toNat : Int) = v by omega] at this
 exact this
theorem inst_ex {X : Int} (hX : X % 86400 = 0) : ∃ u, zt off u = X ∧ (∀ v, u ≤ v → X ≤ zt off v) ∧ (∀ v, v < u → zt off v < X) := by
 have ha : zt off (X - 86401) < X := by have := Z.o1 (X - 86401); unfold zt; omega
 have key : ∀ n : Nat, X ≤ zt off (X - 86401 + n) → ∃ u, X ≤ zt off u ∧ zt off (u - 1) < X := by
  intro n
  induction n with
  | zero => intro h; rw [show X - 86401 + ((0 : Nat) : Int) = X - 86401 by omega] at h; omega
  | succ n ih =>
   intro h
   by_cases hc : X ≤ zt off (X - 86401 + (n : Int))
   ·exact ih hc
   ·exact ⟨X - 86401 + ((n + 1 : Nat) : Int), h, by rw [show X - 86401 + ((n + 1 : Nat) : Int) - 1 = X - 86401 + (n : Int) by omega]; omega⟩
 obtain ⟨u, h1, h2⟩ := key 172801 (by have := Z.o0 (X - 86401 + ((172801 : Nat) : Int)); unfold zt; omega)
 refine ⟨u, ?_, fun v hv => up_mono Z hX h1 hv, fun v hv => ?_⟩
 ·unfold zt at *
  by_cases hc : off u = off (u - 1)
  ·rw [hc] at h1 ⊢; omega
  ·have := Z.step (u - 1) (by rw [show u - 1 + 1 = u by omega]; exact hc)
   rw [show u - 1 + 1 = u by omega] at this
   obtain ⟨a, b, c, d, e, -⟩ := this
   omega
 ·by_cases hc : X ≤ zt off v
  ·have := up_mono Z hX hc (v := u - 1) (by omega)
   omega
  ·omega
theorem chg {p q : Int} (h : p ≤ q) (hne : off p ≠ off q) : ∃ t, p ≤ t ∧ t < q ∧ off (t + 1) ≠ off t := by
 have key : ∀ n : Nat, off p ≠ off (p + n) → ∃ t, p ≤ t ∧ t < p + n ∧ off (t + 1) ≠ off t := by
  intro n
  induction n with
  | zero => intro h; rw [show p + ((0 : Nat) : Int) = p by omega] at h; exact absurd rfl h
  | succ n ih =>
   intro h
   by_cases hc : off p = off (p + (n : Int))
   ·exact ⟨p + n, by omega, by omega, fun e => h (by rw [hc, ← e, show p + (n : Int) + 1 = p + ((n + 1 : Nat) : Int) by omega])⟩
   ·obtain ⟨t, a, b, c⟩ := ih hc
    exact ⟨t, a, by omega, c⟩
 obtain ⟨t, a, b, c⟩ := key (q - p).toNat (by rw [show p + ((q - p).toNat : Int) = q by omega]; exact hne)
 exact ⟨t, a, by omega, c⟩
theorem two {p q r : Int} (h1 : p ≤ q) (h2 : q ≤ r) (h3 : r - p ≤ 345600) : off p = off q ∨ off q = off r := by
 by_cases a : off p = off q
 ·exact .inl a
 by_cases b : off q = off r
 ·exact .inr b
 obtain ⟨t, a1, a2, a3⟩ := chg Z h1 a
 obtain ⟨t', b1, b2, b3⟩ := chg Z h2 b
 have := Z.gap t t' (by omega) a3 b3
 omega
theorem dt_shows {X v : Int} (hv : zt off v = X) : zt off (dt off X) = X := by
 unfold dt
 obtain ⟨c, hc⟩ : ∃ c, c = X - off X := ⟨_, rfl⟩
 rw [← hc]
 have ov := Z.o0 v; have ov1 := Z.o1 v
 have oX := Z.o0 X; have oX1 := Z.o1 X
 unfold zt at hv ⊢
 by_cases h1 : off c = off v
 ·rw [h1, show X - off v = v by omega]; exact hv
 by_cases h2 : off c = off X
 ·rw [h2, ← hc, h2]; omega
 exfalso
 have h3 : off v ≠ off X := fun e => h1 (by rw [show c = v by omega])
 have T := fun p q r a b c => two Z (p := p) (q := q) (r := r) a b c
 by_cases a1 : c ≤ v
 ·by_cases a2 : v ≤ X
  ·rcases T c v X a1 a2 (by omega) with h | h
   ·exact h1 h
   ·exact h3 h
  ·by_cases a3 : c ≤ X
   ·rcases T c X v a3 (by omega) (by omega) with h | h
    ·exact h2 h
    ·exact h3 h.symm
   ·rcases T X c v (by omega) a1 (by omega) with h | h
    ·exact h2 h.symm
    ·exact h1 h
 ·by_cases a2 : v ≤ X
  ·by_cases a3 : c ≤ X
   ·rcases T v c X (by omega) a3 (by omega) with h | h
    ·exact h1 h.symm
    ·exact h2 h
   ·rcases T v X c a2 (by omega) (by omega) with h | h
    ·exact h3 h
    ·exact h2 h.symm
  ·rcases T X v c (by omega) (by omega) (by omega) with h | h
   ·exact h3 h.symm
   ·exact h1 h.symm
theorem twin {v v' : Int} (h : zt off v = zt off v') (hlt : v < v') : v' = v + 3600 := by
 unfold zt at h
 have a0 := Z.o0 v; have a1 := Z.o1 v; have b0 := Z.o0 v'; have b1 := Z.o1 v'
 obtain ⟨t, t1, t2, t3⟩ := chg Z (p := v) (q := v') (by omega) (by omega)
 have e1 : off t = off v := by
  by_cases hc : off v = off t
  ·exact hc.symm
  ·obtain ⟨s, s1, s2, s3⟩ := chg Z t1 hc
   have := Z.gap s t s2 s3 t3
   omega
 have e2 : off (t + 1) = off v' := by
  by_cases hc : off (t + 1) = off v'
  ·exact hc
  ·obtain ⟨s, s1, s2, s3⟩ := chg Z (p := t + 1) (q := v') (by omega) hc
   have := Z.gap t s (by omega) t3 s3
   omega
 obtain ⟨c1, c2, c3, c4, c5, c6⟩ := Z.step t t3
 rw [e1] at c1 c6
 rw [e2] at c2 c6
 omega
theorem mid {X : Int} (hX : X % 86400 = 0) : zt off (dt off X) = X ∧ (∀ v, dt off X ≤ v → X ≤ zt off v) ∧ (∀ v, v < dt off X → zt off v < X) := by
 obtain ⟨u, h1, h2, h3⟩ := inst_ex Z hX
 have hs := dt_shows Z h1
 have e : dt off X = u := by
  rcases Int.lt_trichotomy (dt off X) u with h | h | h
  ·have := h3 _ h; omega
  ·exact h
  ·have h4 := twin Z (h1.trans hs.symm) h
   have h5 := h2 (dt off X - 1) (by omega)
   have : zt off (dt off X - 1) < X := by
    by_cases hc : off (dt off X) = off (dt off X - 1)
    ·unfold zt at *; rw [← hc]; omega
    ·have := Z.step (dt off X - 1) (by rw [show dt off X - 1 + 1 = dt off X by omega]; exact hc)
     rw [show dt off X - 1 + 1 = dt off X by omega] at this
     unfold zt at hs
     omega
   omega
 rw [e]
 exact ⟨h1, h2, h3⟩
theorem cell_up (u : Int) : ∀ n : Nat, (n : Int) ≤ 3599 - zt off u % 3600 → off (u + n) = off u := by
 intro n
 induction n with
 | zero => intro _; rw [show u + ((0 : Nat) : Int) = u by omega]
 | succ n ih =>
  intro h
  have ih := ih (by omega)
  by_cases hc : off (u + (n : Int) + 1) = off (u + n)
  ·rw [show u + ((n + 1 : Nat) : Int) = u + (n : Int) + 1 by omega, hc, ih]
  ·exfalso
   obtain ⟨a, -⟩ := Z.step _ hc
   rw [ih] at a
   unfold zt at h
   omega
theorem cell_down (u : Int) : ∀ n : Nat, (n : Int) ≤ zt off u % 3600 → off (u - n) = off u := by
 intro n
 induction n with
 | zero => intro _; rw [show u - ((0 : Nat) : Int) = u by omega]
 | succ n ih =>
  intro h
  have ih := ih (by omega)
  by_cases hc : off (u - ((n + 1 : Nat) : Int) + 1) = off (u - ((n + 1 : Nat) : Int))
  ·rw [← hc, show u - ((n + 1 : Nat) : Int) + 1 = u - (n : Int) by omega, ih]
  ·exfalso
   obtain ⟨-, a, -⟩ := Z.step _ hc
   rw [show u - ((n + 1 : Nat) : Int) + 1 = u - (n : Int) by omega, ih] at a
   unfold zt at h
   omega
theorem cell {u v : Int} (h0 : u - zt off u % 3600 ≤ v) (h1 : v < u - zt off u % 3600 + 3600) : off v = off u := by
 by_cases hc : u ≤ v
 ·have := cell_up Z u (v - u).toNat (by omega)
  rw [show u + ((v - u).toNat : Int) = v by omega] at this
  exact this
 ·have := cell_down Z u (u - v).toNat (by omega)
  rw [show u - ((u - v).toNat : Int) = v by omega] at this
  exact this
theorem cell_zt {u v : Int} (h0 : u - zt off u % 3600 ≤ v) (h1 : v < u - zt off u % 3600 + 3600) : zt off v = zt off u + (v - u) := by
 unfold zt
 rw [cell Z h0 h1]
 omega
theorem edge {u : Int} (h : zt off u % 3600 = 0) : zt off (u + 3600) % 3600 = 0 ∧ (zt off (u + 3600) / 86400 = zt off u / 86400 ∨ zt off (u + 3600) = dNext (zt off u)) := by
 have hr : zt off (u + 3600) % 3600 = 0 := by
  by_cases hc : zt off (u + 3600) % 3600 = 0
  ·exact hc
  ·exfalso
   have h1 := cell_zt Z (u := u + 3600) (v := u + 3600 - zt off (u + 3600) % 3600) (by omega) (by omega)
   have h2 := cell_zt Z (u := u) (v := u + 3600 - zt off (u + 3600) % 3600) (by omega) (by omega)
   omega
 refine ⟨hr, ?_⟩
 have hge := up_mono Z (X := zt off u / 86400 * 86400) (by omega) (u := u) (v := u + 3600) (by omega) (by omega)
 by_cases hc : zt off (u + 3600) / 86400 = zt off u / 86400
 ·exact .inl hc
 ·right
  have hX : dNext (zt off u) % 86400 = 0 := by unfold dNext; omega
  obtain ⟨m1, m2, m3⟩ := mid Z hX
  generalize hv : dt off (dNext (zt off u)) = v at *
  have hu : u < v := by
   by_cases hh : v ≤ u
   ·have := m2 u hh; unfold dNext at this; omega
   ·omega
  have hv2 : v ≤ u + 3600 := by
   by_cases hh : u + 3600 < v
   ·have := m3 _ hh; unfold dNext at this; omega
   ·omega
  by_cases he : v = u + 3600
  ·rw [← he]; exact m1
  ·have h2 := cell_zt Z (u := u) (v := v) (by omega) (by omega)
   unfold dNext at *
   omega
end
end Go.Proofs.Ytlopkdhblfibkaa.Cal
