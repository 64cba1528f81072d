/- Lemmas and walks on the way to the law, merged by wip/tools/pack.py: Cal, Days, Time. Conditions: none. -/
import Derived.Test.YtbgbeohiafiacaaProg
import Derived.WalkKit
import Derived.OwnWalk
import Derived.Lib.Hide
import Derived.Below
import Derived.WalkSmall
import Derived.WalkLawsBesides
import Derived.WalkSpells
import Derived.Outline
import Derived.Laws.Rows
import Derived.Laws.Tables
import Derived.Laws.ResultCell
import Derived.Deep.QuietTactic
import Derived.BigQuiet
import Derived.Deep.DeepCutAuto
import Derived.Deep.DeepMust
namespace Go.Proofs.Ytbgbeohiafiacaa.Cal
set_option linter.unusedVariables false

def leapB (y : Int) : Bool := decide (y % 4 = 0 ∧ (y % 100 ≠ 0 ∨ y % 400 = 0))
def lpN (y : Int) : Int := if y % 4 = 0 ∧ (y % 100 ≠ 0 ∨ y % 400 = 0) then 1 else 0
def mdays (y m : Int) : Int := if m = 2 then 28 + lpN y else if m = 4 ∨ m = 6 ∨ m = 9 ∨ m = 11 then 30 else 31
def ystart (y : Int) : Int := 365 * (y - 1) + (y - 1) / 4 - (y - 1) / 100 + (y - 1) / 400 - 719162
def cum (y m : Int) : Int :=
  if m ≤ 1 then 0 else if m = 2 then 31 else
  (if m = 3 then 59 else if m = 4 then 90 else if m = 5 then 120 else if m = 6 then 151 else if m = 7 then 181 else if m = 8 then 212 else if m = 9 then 243 else if m = 10 then 273 else if m = 11 then 304 else if m = 12 then 334 else 365) + lpN y
def dayOf (y m d : Int) : Int := ystart y + cum y m + d - 1

structure Valid (y m d : Int) : Prop where
  m1 : 1 ≤ m
  m2 : m ≤ 12
  d1 : 1 ≤ d
  d2 : d ≤ mdays y m

theorem lp_01 (y : Int) : lpN y = 0 ∨ lpN y = 1 := by unfold lpN; split <;> simp
theorem ystart_succ (y : Int) : ystart (y + 1) = ystart y + 365 + lpN y := by
  unfold ystart lpN
  split <;> omega
theorem cum_succ (y m : Int) (h1 : 1 ≤ m) (h2 : m ≤ 12) : cum y (m + 1) = cum y m + mdays y m := by
  have : m = 1 ∨ m = 2 ∨ m = 3 ∨ m = 4 ∨ m = 5 ∨ m = 6 ∨ m = 7 ∨ m = 8 ∨ m = 9 ∨ m = 10 ∨ m = 11 ∨ m = 12 := by omega
  rcases this with rfl | rfl | rfl | rfl | rfl | rfl | rfl | rfl | rfl | rfl | rfl | rfl <;> simp [cum, mdays] <;> omega
theorem cum_one (y : Int) : cum y 1 = 0 := rfl
theorem cum_last (y : Int) : cum y 13 = 365 + lpN y := rfl
theorem mdays_bd (y m : Int) : 28 ≤ mdays y m ∧ mdays y m ≤ 31 := by
  have := lp_01 y
  unfold mdays
  split
  · omega
  · split <;> omega

theorem ystart_mono {a b : Int} (h : a < b) : ystart a + 365 ≤ ystart b := by
  unfold ystart; omega
theorem ystart_le {a b : Int} (h : a ≤ b) : ystart a ≤ ystart b := by
  unfold ystart; omega
theorem ystart_year {a b : Int} (h : a < b) : ystart (a + 1) ≤ ystart b := ystart_le (by omega)

theorem cum_step (y : Int) : ∀ (n : Nat) (m : Int), 1 ≤ m → m + n ≤ 12 → cum y m + mdays y m ≤ cum y (m + n + 1)
  | 0, m, h1, h2 => by rw [show m + ((0 : Nat) : Int) + 1 = m + 1 by omega, cum_succ y m h1 (by omega)]; omega
  | n + 1, m, h1, h2 => by
    have := cum_step y n m h1 (by omega)
    rw [show m + ((n + 1 : Nat) : Int) + 1 = (m + n + 1) + 1 by omega, cum_succ y (m + n + 1) (by omega) (by omega)]
    have := mdays_bd y (m + n + 1)
    omega
theorem cum_lt {y m m' : Int} (h1 : 1 ≤ m) (h : m < m') (h2 : m' ≤ 13) : cum y m + mdays y m ≤ cum y m' := by
  have := cum_step y (m' - m - 1).toNat m h1 (by omega)
  rw [show m + ((m' - m - 1).toNat : Int) + 1 = m' by omega] at this
  exact this
theorem cum_nonneg {y m : Int} (h1 : 1 ≤ m) (h2 : m ≤ 13) : 0 ≤ cum y m := by
  by_cases h : m = 1
  · subst h; exact Int.le_refl 0
  · have := cum_lt (y := y) (m := 1) (m' := m) (by omega) (by omega) h2
    have := mdays_bd y 1
    have := cum_one y
    omega

/-- a date's day lies in its year -/
theorem day_year {y m d : Int} (h : Valid y m d) : ystart y ≤ dayOf y m d ∧ dayOf y m d < ystart (y + 1) := by
  obtain ⟨m1, m2, d1, d2⟩ := h
  have a := cum_nonneg (y := y) m1 (by omega)
  have b := cum_lt (y := y) m1 (m' := 13) (by omega) (by omega)
  have c := cum_last y
  have e := ystart_succ y
  unfold dayOf
  omega

theorem year_of {y y' D : Int} (h1 : ystart y ≤ D) (h2 : D < ystart (y + 1)) (h3 : ystart y' ≤ D) (h4 : D < ystart (y' + 1)) : y = y' := by
  rcases Int.lt_trichotomy y y' with h | h | h
  · have := ystart_year h; omega
  · exact h
  · have := ystart_year h; omega

theorem date_unique {y m d y' m' d' : Int} (h : Valid y m d) (h' : Valid y' m' d') (e : dayOf y m d = dayOf y' m' d') : y = y' ∧ m = m' ∧ d = d' := by
  have a := day_year h
  have b := day_year h'
  have hy := year_of a.1 a.2 (by rw [e]; exact b.1) (by rw [e]; exact b.2)
  subst hy
  obtain ⟨m1, m2, d1, d2⟩ := h
  obtain ⟨m1', m2', d1', d2'⟩ := h'
  unfold dayOf at e
  have hm : m = m' := by
    rcases Int.lt_trichotomy m m' with h | h | h
    · have := cum_lt (y := y) m1 h (by omega); omega
    · exact h
    · have := cum_lt (y := y) m1' h (by omega); omega
  subst hm
  exact ⟨rfl, rfl, by omega⟩

/-- the date of a day, as the program's algorithm has it: A is the day counted from March 1 of year -292277022400 -/
def absK : Int := 106751991073400
def cenA (A : Int) : Int := (4 * A + 3) / 146097
def cdA (A : Int) : Int := (4 * A + 3) % 146097 / 4 * 4 + 3
def cyA (A : Int) : Int := cdA A / 1461
def aydA (A : Int) : Int := cdA A % 1461 / 4
def jfA (A : Int) : Int := if 306 ≤ aydA A then 1 else 0
def amA (A : Int) : Int := (5 * aydA A + 461) / 153
def yearA (A : Int) : Int := cenA A * 100 - 292277022400 + cyA A + jfA A
def monthA (A : Int) : Int := amA A - 12 * jfA A
def mdayA (A : Int) : Int := 1 + (5 * aydA A + 461) % 153 / 5

/-- the day of a date, as the program's dateToAbsDays has it -/
def absDay (y m d : Int) : Int :=
  let jf := if m < 3 then 1 else 0
  let Y := y - jf + 292277022400
  146097 * (Y / 100) / 4 + (1461 * (Y % 100) / 4 + (979 * (m + 12 * jf) - 2919) / 32 + d - 1)

theorem cen_core (Y : Int) : 146097 * (Y / 100) / 4 + 1461 * (Y % 100) / 4 = 365 * Y + Y / 4 - Y / 100 + Y / 400 := by
  have h1 : Y = 100 * (Y / 100) + Y % 100 := by omega
  have h2 : 146097 * (Y / 100) / 4 = 36524 * (Y / 100) + (Y / 100) / 4 := by omega
  have h3 : 1461 * (Y % 100) / 4 = 365 * (Y % 100) + (Y % 100) / 4 := by omega
  have h4 : Y / 4 = 25 * (Y / 100) + (Y % 100) / 4 := by omega
  have h5 : Y / 400 = (Y / 100) / 4 := by omega
  omega

theorem cen_abs (Y : Int) : 146097 * ((Y + 292277022400) / 100) / 4 + 1461 * ((Y + 292277022400) % 100) / 4 = 365 * Y + Y / 4 - Y / 100 + Y / 400 + 106751990353932 := by
  rw [cen_core]
  omega

theorem month_part (y m : Int) (h1 : 1 ≤ m) (h2 : m ≤ 12) : ystart y + cum y m = 365 * (y - (if m < 3 then 1 else 0)) + (y - (if m < 3 then 1 else 0)) / 4 - (y - (if m < 3 then 1 else 0)) / 100 + (y - (if m < 3 then 1 else 0)) / 400 + (979 * (m + 12 * (if m < 3 then 1 else 0)) - 2919) / 32 - 719162 - 306 := by
  have : m = 1 ∨ m = 2 ∨ m = 3 ∨ m = 4 ∨ m = 5 ∨ m = 6 ∨ m = 7 ∨ m = 8 ∨ m = 9 ∨ m = 10 ∨ m = 11 ∨ m = 12 := by omega
  have hs := ystart_succ y
  have e : ystart (y + 1) = 365 * y + y / 4 - y / 100 + y / 400 - 719162 := by unfold ystart; rw [show y + 1 - 1 = y by omega]
  have e' : ystart y = 365 * (y - 1) + (y - 1) / 4 - (y - 1) / 100 + (y - 1) / 400 - 719162 := rfl
  generalize ystart (y + 1) = a at *
  generalize ystart y = b at *
  rcases this with rfl | rfl | rfl | rfl | rfl | rfl | rfl | rfl | rfl | rfl | rfl | rfl <;> simp [cum] <;> omega

theorem absDay_is (y m d : Int) (h1 : 1 ≤ m) (h2 : m ≤ 12) : absDay y m d = dayOf y m d + absK := by
  have hm := month_part y m h1 h2
  unfold absDay dayOf absK
  have hc := cen_abs (y - (if m < 3 then 1 else 0))
  generalize (if m < 3 then 1 else 0 : Int) = jf at *
  simp only
  omega

theorem ayd_month (a : Int) (h0 : 0 ≤ a) (h1 : a ≤ 365) :
    (979 * ((5 * a + 461) / 153) - 2919) / 32 + (1 + (5 * a + 461) % 153 / 5) - 1 = a := by omega

theorem cen_parts2 (A : Int) : (4 * A + 3) % 146097 / 4 = 36524 → cenA A % 4 = 3 := by
  unfold cenA
  intro e
  have h1 : 4 * A + 3 = 146097 * ((4 * A + 3) / 146097) + (4 * A + 3) % 146097 := by omega
  have h2 : (4 * A + 3) % 146097 < 146097 := by omega
  generalize (4 * A + 3) % 146097 = r at *
  generalize (4 * A + 3) / 146097 = c at *
  have h3 : r = 146096 := by omega
  subst h3
  omega

theorem cen_parts (A : Int) : A = 146097 * cenA A / 4 + (4 * A + 3) % 146097 / 4 ∧ 0 ≤ (4 * A + 3) % 146097 / 4 ∧ (4 * A + 3) % 146097 / 4 ≤ 36524 := by
  unfold cenA
  refine ⟨by omega, by omega, by omega⟩

theorem cy_parts (c : Int) (h0 : 0 ≤ c) (h1 : c ≤ 36524) : c = 1461 * ((c * 4 + 3) / 1461) / 4 + (c * 4 + 3) % 1461 / 4 ∧ 0 ≤ (c * 4 + 3) / 1461 ∧ (c * 4 + 3) / 1461 ≤ 99 ∧ 0 ≤ (c * 4 + 3) % 1461 / 4 ∧ (c * 4 + 3) % 1461 / 4 ≤ 365 ∧
    ((c * 4 + 3) % 1461 / 4 = 365 → (c * 4 + 3) / 1461 % 4 = 3 ∧ ((c * 4 + 3) / 1461 = 99 → c = 36524)) := by
  refine ⟨by omega, by omega, by omega, by omega, by omega, fun h => ⟨by omega, fun _ => by omega⟩⟩

theorem date_is (A : Int) : Valid (yearA A) (monthA A) (mdayA A) ∧ dayOf (yearA A) (monthA A) (mdayA A) = A - absK := by
  obtain ⟨a1, a2, a3⟩ := cen_parts A
  have a4 := cen_parts2 A
  have ec : cdA A = (4 * A + 3) % 146097 / 4 * 4 + 3 := rfl
  have ecy : cyA A = cdA A / 1461 := rfl
  have eay : aydA A = cdA A % 1461 / 4 := rfl
  generalize (4 * A + 3) % 146097 / 4 = c at *
  obtain ⟨b1, b2, b3, b4, b5, b6⟩ := cy_parts c a2 a3
  rw [← ec, ← ecy, ← eay] at b1 b6
  rw [← ec, ← eay] at b4 b5
  rw [← ec, ← ecy] at b2 b3
  have b6' : aydA A = 365 → cyA A % 4 = 3 ∧ (cyA A = 99 → cenA A % 4 = 3) := fun e => ⟨(b6 e).1, fun e2 => a4 ((b6 e).2 e2)⟩
  clear ec ecy eay b6 a4
  have hm := ayd_month (aydA A) b4 b5
  have ejf : jfA A = if 306 ≤ aydA A then 1 else 0 := rfl
  have eam : amA A = (5 * aydA A + 461) / 153 := rfl
  have emd : mdayA A = 1 + (5 * aydA A + 461) % 153 / 5 := rfl
  have eyr : yearA A = cenA A * 100 - 292277022400 + cyA A + jfA A := rfl
  have emo : monthA A = amA A - 12 * jfA A := rfl
  generalize cenA A = ce at *
  generalize cyA A = cy at *
  generalize aydA A = ay at *
  generalize amA A = am at *
  generalize mdayA A = md at *
  generalize jfA A = jf at *
  generalize yearA A = y at *
  generalize monthA A = mo at *
  have hm1 : 1 ≤ mo ∧ mo ≤ 12 := by
    subst emo eam ejf
    split <;> omega
  have hjf : (if mo < 3 then 1 else 0 : Int) = jf := by
    subst emo eam ejf
    by_cases h3 : 306 ≤ ay
    · rw [if_pos h3, if_pos (by omega)]
    · rw [if_neg h3, if_neg (by omega)]
  have hday : dayOf y mo md = A - absK := by
    have e := absDay_is y mo md hm1.1 hm1.2
    unfold absDay at e
    rw [hjf] at e
    have e1 : y - jf + 292277022400 = ce * 100 + cy := by omega
    have e2 : mo + 12 * jf = am := by omega
    simp only [e1, e2] at e
    have e3 : (ce * 100 + cy) / 100 = ce := by omega
    have e4 : (ce * 100 + cy) % 100 = cy := by omega
    rw [e3, e4] at e
    rw [← eam, ← emd] at hm
    omega
  refine ⟨⟨hm1.1, hm1.2, by omega, ?_⟩, hday⟩
  unfold mdays lpN
  by_cases h3 : 306 ≤ ay
  · rw [if_pos h3] at ejf
    subst ejf
    by_cases hmo : mo = 2
    · rw [if_pos hmo]
      have : md ≤ 28 ∨ ay = 365 := by omega
      rcases this with h | h
      · split <;> omega
      · obtain ⟨q1, q2⟩ := b6' h
        rw [if_pos (by omega)]
        omega
    · rw [if_neg hmo]
      split <;> omega
  · rw [if_neg h3] at ejf
    subst ejf
    rw [if_neg (by omega)]
    split <;> omega

/-- the day of the week -/
theorem week_is (A : Int) : (A + 3) % 7 = (A - absK + 4) % 7 := by unfold absK; omega

/-! ## Seconds of clocks -/

def dayL (L : Int) : Int := L / 86400
def yearL (L : Int) : Int := yearA (dayL L + absK)
def monthL (L : Int) : Int := monthA (dayL L + absK)
def mdayL (L : Int) : Int := mdayA (dayL L + absK)
def hourL (L : Int) : Int := L % 86400 / 3600
def minL (L : Int) : Int := L % 3600 / 60
def secL (L : Int) : Int := L % 60
def wdL (L : Int) : Int := (dayL L + 4) % 7

theorem date_L (L : Int) : Valid (yearL L) (monthL L) (mdayL L) ∧ dayOf (yearL L) (monthL L) (mdayL L) = dayL L := by
  have := date_is (dayL L + absK)
  refine ⟨this.1, ?_⟩
  have h := this.2
  unfold yearL monthL mdayL
  omega

/-- a date that counts as the day of a second is the date of the second -/
theorem date_eq {L y m d : Int} (h : Valid y m d) (e : dayOf y m d = dayL L) : yearL L = y ∧ monthL L = m ∧ mdayL L = d :=
  date_unique (date_L L).1 h ((date_L L).2.trans e.symm)

theorem year_range (L : Int) : ystart (yearL L) * 86400 ≤ L ∧ L < ystart (yearL L + 1) * 86400 := by
  have h := date_L L
  have := day_year h.1
  rw [h.2] at this
  unfold dayL at this
  omega

theorem year_mono {a b : Int} (h : a ≤ b) : yearL a ≤ yearL b := by
  have ha := year_range a
  have hb := year_range b
  by_cases hc : yearL a ≤ yearL b
  · exact hc
  · have := ystart_le (a := yearL b + 1) (b := yearL a) (by omega)
    omega

/-- the first second of the month that follows -/
def mFirst (L : Int) : Int := dayOf (yearL L) (monthL L) 1
def mNext (L : Int) : Int := (mFirst L + mdays (yearL L) (monthL L)) * 86400
def dNext (L : Int) : Int := (L / 86400 + 1) * 86400
def hNext (L : Int) : Int := (L / 3600 + 1) * 3600
def iNext (L : Int) : Int := (L / 60 + 1) * 60

theorem first_valid (L : Int) : Valid (yearL L) (monthL L) 1 := by
  have h := (date_L L).1
  have := mdays_bd (yearL L) (monthL L)
  exact ⟨h.m1, h.m2, by omega, by omega⟩

theorem mNext_gt (L : Int) : L < mNext L ∧ mFirst L * 86400 ≤ L := by
  obtain ⟨h, e⟩ := date_L L
  have h1 := h.d1
  have h2 := h.d2
  unfold mNext mFirst
  unfold dayOf at e ⊢
  unfold dayL at e
  omega

/-- within the month -/
theorem same_month {L x : Int} (h1 : mFirst L * 86400 ≤ x) (h2 : x < mNext L) : monthL x = monthL L ∧ yearL x = yearL L := by
  have hv := first_valid L
  have hd : Valid (yearL L) (monthL L) (dayL x - mFirst L + 1) := ⟨hv.m1, hv.m2, by unfold dayL; omega, by unfold mNext at h2; unfold dayL; omega⟩
  have := date_eq (L := x) hd (by unfold mFirst dayOf; omega)
  exact ⟨this.2.1, this.1⟩

theorem mNext_date (L : Int) : mNext L % 86400 = 0 ∧ mdayL (mNext L) = 1 ∧ monthL (mNext L) = (if monthL L = 12 then 1 else monthL L + 1) ∧ yearL (mNext L) = (if monthL L = 12 then yearL L + 1 else yearL L) := by
  have hv := first_valid L
  have hm0 : mNext L % 86400 = 0 := by unfold mNext; omega
  have hdl : dayL (mNext L) = mFirst L + mdays (yearL L) (monthL L) := by unfold mNext dayL; omega
  by_cases h : monthL L = 12
  · have hv2 : Valid (yearL L + 1) 1 1 := ⟨by omega, by omega, by omega, by have := mdays_bd (yearL L + 1) 1; omega⟩
    have := date_eq (L := mNext L) hv2 (by
      rw [hdl]
      unfold mFirst dayOf
      rw [h]
      have e1 := ystart_succ (yearL L)
      have e2 := cum_succ (yearL L) 12 (by omega) (by omega)
      have e3 := cum_last (yearL L)
      have e4 := cum_one (yearL L + 1)
      rw [show (12 : Int) + 1 = 13 by omega] at e2
      omega)
    rw [if_pos h, if_pos h]
    exact ⟨hm0, this.2.2, this.2.1, this.1⟩
  · have h12 : monthL L + 1 ≤ 12 := by have := hv.m2; omega
    have hv2 : Valid (yearL L) (monthL L + 1) 1 := ⟨by have := hv.m1; omega, h12, by omega, by have := mdays_bd (yearL L) (monthL L + 1); omega⟩
    have := date_eq (L := mNext L) hv2 (by
      rw [hdl]
      unfold mFirst dayOf
      have e2 := cum_succ (yearL L) (monthL L) hv.m1 hv.m2
      omega)
    rw [if_neg h, if_neg h]
    exact ⟨hm0, this.2.2, this.2.1, this.1⟩

/-- within the day -/
theorem same_day {L x : Int} (h : x / 86400 = L / 86400) : monthL x = monthL L ∧ yearL x = yearL L ∧ mdayL x = mdayL L ∧ wdL x = wdL L := by
  have : dayL x = dayL L := h
  unfold monthL yearL mdayL wdL
  rw [this]
  exact ⟨rfl, rfl, rfl, rfl⟩

/-- the day that follows: the first of a month, or one further in the same month -/
theorem dNext_date (L : Int) : mdayL (dNext L) = 1 ∧ dNext L = mNext L ∨ mdayL (dNext L) = mdayL L + 1 ∧ monthL (dNext L) = monthL L ∧ yearL (dNext L) = yearL L := by
  obtain ⟨h, e⟩ := date_L L
  by_cases hl : mdayL L = mdays (yearL L) (monthL L)
  · left
    have : dNext L = mNext L := by
      unfold dNext mNext mFirst
      unfold dayOf dayL at *
      omega
    exact ⟨by rw [this]; exact (mNext_date L).2.1, this⟩
  · right
    have hv2 : Valid (yearL L) (monthL L) (mdayL L + 1) := ⟨h.m1, h.m2, by have := h.d1; omega, by have := h.d2; omega⟩
    have := date_eq (L := dNext L) hv2 (by
      unfold dNext dayL
      unfold dayOf dayL at *
      omega)
    exact ⟨this.2.2, this.2.1, this.1⟩

/-! ## Sets of values, and the search -/

structure Sets where
  sec : Nat
  min : Nat
  hour : Nat
  dom : Nat
  month : Nat
  dow : Nat

def inB (b : Nat) (k : Int) : Bool := b.testBit k.toNat
def monthB (S : Sets) (L : Int) : Bool := inB S.month (monthL L)
def dayB (S : Sets) (L : Int) : Bool := if inB S.dom 63 || inB S.dow 63 then inB S.dom (mdayL L) && inB S.dow (wdL L) else inB S.dom (mdayL L) || inB S.dow (wdL L)
def hourB (S : Sets) (L : Int) : Bool := inB S.hour (hourL L)
def minB (S : Sets) (L : Int) : Bool := inB S.min (minL L)
def secB (S : Sets) (L : Int) : Bool := inB S.sec (secL L)

structure Fits (S : Sets) (L : Int) : Prop where
  mo : monthB S L = true
  da : dayB S L = true
  ho : hourB S L = true
  mi : minB S L = true
  se : secB S L = true

def NoFit (S : Sets) (a b : Int) : Prop := ∀ x, a ≤ x → x < b → ¬ Fits S x

/-- where the search may stand: nothing fits from the first second on, and, once a field has been raised, each greater unit fits or begins here -/
structure At (S : Sets) (f : Int) (added : Bool) (L : Int) : Prop where
  ge : f ≤ L
  no : NoFit S f L
  mo : added = true → monthB S L = true ∨ L = mFirst L * 86400
  da : added = true → dayB S L = true ∨ L % 86400 = 0
  ho : added = true → hourB S L = true ∨ L % 3600 = 0
  mi : added = true → minB S L = true ∨ L % 60 = 0

theorem at_first (S : Sets) (f : Int) : At S f false f :=
  ⟨Int.le_refl _, (fun x h1 h2 => by omega), (fun h => by cases h), (fun h => by cases h), (fun h => by cases h), (fun h => by cases h)⟩

theorem noFit_to {S : Sets} {f a b : Int} (h : NoFit S f a) (h2 : ∀ x, a ≤ x → x < b → ¬ Fits S x) : NoFit S f b := fun x h1 h3 => by
  by_cases hc : x < a
  · exact h x h1 hc
  · exact h2 x (by omega) h3

theorem day_first {L : Int} (h0 : L % 86400 = 0) (h1 : mdayL L = 1) : L = mFirst L * 86400 := by
  have e := (date_L L).2
  rw [h1] at e
  unfold mFirst
  unfold dayL at e
  omega

theorem at_month {S : Sets} {f L : Int} {a : Bool} (h : At S f a L) (hm : monthB S L = false) : At S f true (mNext L) := by
  have hd := mNext_date L
  have hg := mNext_gt L
  refine ⟨by have := h.ge; omega, noFit_to h.no fun x h1 h2 hx => ?_, fun _ => .inr (day_first hd.1 hd.2.1), fun _ => .inr hd.1, fun _ => .inr (by omega), fun _ => .inr (by omega)⟩
  have := same_month (L := L) (x := x) (by omega) h2
  have hmo := hx.mo
  unfold monthB at hmo hm
  rw [this.1, hm] at hmo
  cases hmo

theorem at_day {S : Sets} {f L : Int} {a : Bool} (h : At S f a L) (hm : monthB S L = true) (hd : dayB S L = false) : At S f true (dNext L) ∧ (mdayL (dNext L) = 1 ∨ monthB S (dNext L) = true ∧ yearL (dNext L) = yearL L) := by
  have hgt : L < dNext L := by unfold dNext; omega
  have h0 : dNext L % 86400 = 0 := by unfold dNext; omega
  have hdd := dNext_date L
  have hmo : mdayL (dNext L) = 1 ∨ monthB S (dNext L) = true ∧ yearL (dNext L) = yearL L := by
    rcases hdd with h | h
    · exact .inl h.1
    · exact .inr ⟨by unfold monthB at hm ⊢; rw [h.2.1]; exact hm, h.2.2⟩
  refine ⟨⟨by have := h.ge; omega, noFit_to h.no fun x h1 h2 hx => ?_, fun _ => ?_, fun _ => .inr h0, fun _ => .inr (by omega), fun _ => .inr (by omega)⟩, hmo⟩
  · have := same_day (L := L) (x := x) (by unfold dNext at h2; omega)
    have hda := hx.da
    unfold dayB at hda hd
    rw [this.2.2.1, this.2.2.2, hd] at hda
    cases hda
  · rcases hmo with h | h
    · exact .inr (day_first h0 h)
    · exact .inl h.1

/-- a second that begins an hour or less of the day in which the month and the day fit -/
theorem keep_day {S : Sets} {L x : Int} (hm : monthB S L = true) (hd : dayB S L = true) (h : x / 86400 = L / 86400) : monthB S x = true ∧ dayB S x = true ∧ yearL x = yearL L := by
  have := same_day h
  unfold monthB dayB at *
  rw [this.1, this.2.2.1, this.2.2.2]
  exact ⟨hm, hd, this.2.1⟩

theorem next_day_month {S : Sets} {L x : Int} (hm : monthB S L = true) (h : x = dNext L) : monthB S x = true ∨ x = mFirst x * 86400 := by
  subst h
  rcases dNext_date L with h | h
  · exact .inr (day_first (by unfold dNext; omega) h.1)
  · exact .inl (by unfold monthB at hm ⊢; rw [h.2.1]; exact hm)

theorem at_hour {S : Sets} {f L : Int} {a : Bool} (h : At S f a L) (hm : monthB S L = true) (hd : dayB S L = true) (hh : hourB S L = false) :
    At S f true (hNext L) ∧ (hourL (hNext L) = 0 ∨ monthB S (hNext L) = true ∧ dayB S (hNext L) = true ∧ yearL (hNext L) = yearL L) := by
  have hgt : L < hNext L := by unfold hNext; omega
  have hno : NoFit S f (hNext L) := noFit_to h.no fun x h1 h2 hx => by
    have e : hourL x = hourL L := by unfold hourL; unfold hNext at h2; omega
    have hho := hx.ho
    unfold hourB at hho hh
    rw [e, hh] at hho
    cases hho
  by_cases hw : hNext L / 86400 = L / 86400
  · have k := keep_day hm hd hw
    exact ⟨⟨by have := h.ge; omega, hno, fun _ => .inl k.1, fun _ => .inl k.2.1, fun _ => .inr (by unfold hNext; omega), fun _ => .inr (by unfold hNext; omega)⟩, .inr k⟩
  · have e : hNext L = dNext L := by unfold hNext dNext at *; omega
    exact ⟨⟨by have := h.ge; omega, hno, fun _ => next_day_month hm e, fun _ => .inr (by rw [e]; unfold dNext; omega), fun _ => .inr (by unfold hNext; omega), fun _ => .inr (by unfold hNext; omega)⟩, .inl (by rw [e]; unfold hourL dNext; omega)⟩

theorem keep_hour {S : Sets} {L x : Int} (hh : hourB S L = true) (h : x / 3600 = L / 3600) : hourB S x = true := by
  have : hourL x = hourL L := by unfold hourL; omega
  unfold hourB at *
  rw [this]
  exact hh

theorem at_min {S : Sets} {f L : Int} {a : Bool} (h : At S f a L) (hm : monthB S L = true) (hd : dayB S L = true) (hh : hourB S L = true) (hi : minB S L = false) :
    At S f true (iNext L) ∧ (minL (iNext L) = 0 ∨ monthB S (iNext L) = true ∧ dayB S (iNext L) = true ∧ hourB S (iNext L) = true ∧ yearL (iNext L) = yearL L) := by
  have hgt : L < iNext L := by unfold iNext; omega
  have hno : NoFit S f (iNext L) := noFit_to h.no fun x h1 h2 hx => by
    have e : minL x = minL L := by unfold minL; unfold iNext at h2; omega
    have hho := hx.mi
    unfold minB at hho hi
    rw [e, hi] at hho
    cases hho
  have h60 : iNext L % 60 = 0 := by unfold iNext; omega
  by_cases hw : iNext L / 3600 = L / 3600
  · have kh := keep_hour hh hw
    have k := keep_day hm hd (x := iNext L) (by omega)
    exact ⟨⟨by have := h.ge; omega, hno, fun _ => .inl k.1, fun _ => .inl k.2.1, fun _ => .inl kh, fun _ => .inr h60⟩, .inr ⟨k.1, k.2.1, kh, k.2.2⟩⟩
  · have e : iNext L = hNext L := by unfold iNext hNext at *; omega
    have h36 : iNext L % 3600 = 0 := by rw [e]; unfold hNext; omega
    have hz : minL (iNext L) = 0 := by unfold minL; omega
    by_cases hw2 : iNext L / 86400 = L / 86400
    · have k := keep_day hm hd hw2
      exact ⟨⟨by have := h.ge; omega, hno, fun _ => .inl k.1, fun _ => .inl k.2.1, fun _ => .inr h36, fun _ => .inr h60⟩, .inl hz⟩
    · have e2 : iNext L = dNext L := by unfold iNext dNext at *; omega
      exact ⟨⟨by have := h.ge; omega, hno, fun _ => next_day_month hm e2, fun _ => .inr (by rw [e2]; unfold dNext; omega), fun _ => .inr h36, fun _ => .inr h60⟩, .inl hz⟩

theorem keep_min {S : Sets} {L x : Int} (hh : minB S L = true) (h : x / 60 = L / 60) : minB S x = true := by
  have : minL x = minL L := by unfold minL; omega
  unfold minB at *
  rw [this]
  exact hh

theorem at_sec {S : Sets} {f L : Int} {a : Bool} (h : At S f a L) (hm : monthB S L = true) (hd : dayB S L = true) (hh : hourB S L = true) (hi : minB S L = true) (hs : secB S L = false) :
    At S f true (L + 1) ∧ (secL (L + 1) = 0 ∨ monthB S (L + 1) = true ∧ dayB S (L + 1) = true ∧ hourB S (L + 1) = true ∧ minB S (L + 1) = true ∧ yearL (L + 1) = yearL L) := by
  have hno : NoFit S f (L + 1) := noFit_to h.no fun x h1 h2 hx => by
    have e : x = L := by omega
    have hho := hx.se
    rw [e, hs] at hho
    cases hho
  by_cases hw : (L + 1) / 60 = L / 60
  · have ki := keep_min hi hw
    have kh := keep_hour hh (x := L + 1) (by omega)
    have k := keep_day hm hd (x := L + 1) (by omega)
    exact ⟨⟨by have := h.ge; omega, hno, fun _ => .inl k.1, fun _ => .inl k.2.1, fun _ => .inl kh, fun _ => .inl ki⟩, .inr ⟨k.1, k.2.1, kh, ki, k.2.2⟩⟩
  · have h60 : (L + 1) % 60 = 0 := by omega
    have hz : secL (L + 1) = 0 := h60
    by_cases hw1 : (L + 1) / 3600 = L / 3600
    · have kh := keep_hour hh hw1
      have k := keep_day hm hd (x := L + 1) (by omega)
      exact ⟨⟨by have := h.ge; omega, hno, fun _ => .inl k.1, fun _ => .inl k.2.1, fun _ => .inl kh, fun _ => .inr h60⟩, .inl hz⟩
    · have h36 : (L + 1) % 3600 = 0 := by omega
      by_cases hw2 : (L + 1) / 86400 = L / 86400
      · have k := keep_day hm hd hw2
        exact ⟨⟨by have := h.ge; omega, hno, fun _ => .inl k.1, fun _ => .inl k.2.1, fun _ => .inr h36, fun _ => .inr h60⟩, .inl hz⟩
      · have e2 : L + 1 = dNext L := by unfold dNext; omega
        exact ⟨⟨by have := h.ge; omega, hno, fun _ => next_day_month hm e2, fun _ => .inr (by rw [e2]; unfold dNext; omega), fun _ => .inr h36, fun _ => .inr h60⟩, .inl hz⟩

/-- the answer of a search: the least second that fits, up to the end of a year -/
def Least (S : Sets) (f lim : Int) : Option Int → Prop
  | some L => f ≤ L ∧ Fits S L ∧ NoFit S f L ∧ yearL L ≤ lim
  | none => ∀ x, f ≤ x → yearL x ≤ lim → ¬ Fits S x

theorem least_none {S : Sets} {f L lim : Int} {a : Bool} (h : At S f a L) (hy : lim < yearL L) : Least S f lim none := fun x h1 h2 => by
  by_cases hx : x < L
  · exact h.no x h1 hx
  · have := year_mono (a := L) (b := x) (by omega)
    omega

theorem least_some {S : Sets} {f L lim : Int} {a : Bool} (h : At S f a L) (hm : monthB S L = true) (hd : dayB S L = true) (hh : hourB S L = true) (hi : minB S L = true) (hs : secB S L = true) (hy : yearL L ≤ lim) : Least S f lim (some L) :=
  ⟨h.ge, ⟨hm, hd, hh, hi, hs⟩, h.no, hy⟩

theorem least_unique {S : Sets} {f lim : Int} : ∀ {r r' : Option Int}, Least S f lim r → Least S f lim r' → r = r'
  | none, none, _, _ => rfl
  | some L, none, h, h' => absurd h.2.1 (h' L h.1 h.2.2.2)
  | none, some L, h, h' => absurd h'.2.1 (h L h'.1 h'.2.2.2)
  | some L, some L', h, h' => by
    rcases Int.lt_trichotomy L L' with hl | hl | hl
    · exact absurd h.2.1 (h'.2.2.1 L h.1 hl)
    · rw [hl]
    · exact absurd h'.2.1 (h.2.2.1 L' h'.1 hl)

/-! ## 400 years later, and never -/

theorem lp_400 (y : Int) : lpN (y + 400) = lpN y := by
  unfold lpN
  split <;> split <;> omega
theorem mdays_400 (y m : Int) : mdays (y + 400) m = mdays y m := by unfold mdays; rw [lp_400]
theorem ystart_400 (y : Int) : ystart (y + 400) = ystart y + 146097 := by unfold ystart; omega
theorem cum_400 (y m : Int) : cum (y + 400) m = cum y m := by unfold cum; rw [lp_400]

def era : Int := 12622780800

theorem era_date (x : Int) : yearL (x + era) = yearL x + 400 ∧ monthL (x + era) = monthL x ∧ mdayL (x + era) = mdayL x := by
  obtain ⟨h, e⟩ := date_L x
  refine date_eq ⟨h.m1, h.m2, h.d1, by rw [mdays_400]; exact h.d2⟩ ?_
  unfold dayOf at *
  rw [ystart_400, cum_400]
  unfold dayL era at *
  omega

theorem era_fits (S : Sets) (x : Int) : Fits S (x + era) ↔ Fits S x := by
  have hd := era_date x
  have h1 : monthB S (x + era) = monthB S x := by unfold monthB; rw [hd.2.1]
  have h2 : dayB S (x + era) = dayB S x := by
    have : wdL (x + era) = wdL x := by unfold wdL dayL era; omega
    unfold dayB
    rw [hd.2.2, this]
  have h3 : hourB S (x + era) = hourB S x := by
    have : hourL (x + era) = hourL x := by unfold hourL era; omega
    unfold hourB
    rw [this]
  have h4 : minB S (x + era) = minB S x := by
    have : minL (x + era) = minL x := by unfold minL era; omega
    unfold minB
    rw [this]
  have h5 : secB S (x + era) = secB S x := by
    have : secL (x + era) = secL x := by unfold secL era; omega
    unfold secB
    rw [this]
  constructor
  · intro h
    exact ⟨h1 ▸ h.mo, h2 ▸ h.da, h3 ▸ h.ho, h4 ▸ h.mi, h5 ▸ h.se⟩
  · intro h
    exact ⟨h1.trans h.mo, h2.trans h.da, h3.trans h.ho, h4.trans h.mi, h5.trans h.se⟩

theorem era_least {S : Sets} {f lim : Int} : ∀ {r : Option Int}, Least S f lim r → Least S (f + era) (lim + 400) (r.map (· + era))
  | none, h => fun x h1 h2 hx => by
    have e : x = (x - era) + era := by omega
    rw [e] at hx h2
    rw [(era_date _).1] at h2
    exact h (x - era) (by omega) (by omega) ((era_fits S _).1 hx)
  | some L, h => by
    show f + era ≤ L + era ∧ Fits S (L + era) ∧ NoFit S (f + era) (L + era) ∧ yearL (L + era) ≤ lim + 400
    refine ⟨by have := h.1; omega, (era_fits S L).2 h.2.1, fun x h1 h2 hx => ?_, by rw [(era_date L).1]; have := h.2.2.2; omega⟩
    have e : x = (x - era) + era := by omega
    rw [e] at hx
    exact h.2.2.1 (x - era) (by omega) (by omega) ((era_fits S _).1 hx)

/-- nothing fits where a field of the time of day, or the month, has no value -/
theorem never_fits {S : Sets} (h : (∀ k : Int, 0 ≤ k → k ≤ 23 → inB S.hour k = false) ∨ (∀ k : Int, 0 ≤ k → k ≤ 59 → inB S.min k = false) ∨ (∀ k : Int, 0 ≤ k → k ≤ 59 → inB S.sec k = false) ∨ (∀ k : Int, 1 ≤ k → k ≤ 12 → inB S.month k = false)) (x : Int) : ¬ Fits S x := fun hx => by
  have hv := (date_L x).1
  rcases h with h | h | h | h
  · have := hx.ho; unfold hourB at this; rw [h _ (by unfold hourL; omega) (by unfold hourL; omega)] at this; cases this
  · have := hx.mi; unfold minB at this; rw [h _ (by unfold minL; omega) (by unfold minL; omega)] at this; cases this
  · have := hx.se; unfold secB at this; rw [h _ (by unfold secL; omega) (by unfold secL; omega)] at this; cases this
  · have := hx.mo; unfold monthB at this; rw [h _ hv.m1 hv.m2] at this; cases this

/-- nothing fits where the days go by the day of the month alone (a star in the days of the week) and no month of a leap year has one of its days -/
theorem never_days {S : Sets} (hs : inB S.dow 63 = true) (h : ∀ m d : Int, 1 ≤ m → m ≤ 12 → 1 ≤ d → d ≤ mdays 2000 m → inB S.month m = true → inB S.dom d = false) (x : Int) : ¬ Fits S x := fun hx => by
  have hv := (date_L x).1
  have hm := hx.mo
  have hd := hx.da
  unfold monthB at hm
  unfold dayB at hd
  rw [hs, Bool.or_true, if_pos rfl] at hd
  have hle : mdays (yearL x) (monthL x) ≤ mdays 2000 (monthL x) := by
    have := lp_01 (yearL x)
    have e : lpN 2000 = 1 := by decide
    unfold mdays
    rw [e]
    split
    · omega
    · exact Int.le_refl _
  rw [h _ _ hv.m1 hv.m2 hv.d1 (by have := hv.d2; omega) hm] at hd
  cases hd

theorem least_never {S : Sets} {f lim : Int} {r : Option Int} (h : ∀ x, ¬ Fits S x) (hr : Least S f lim r) : r = none := by
  cases r with
  | none => rfl
  | some L => exact absurd hr.2.1 (h L)

/-! ## All days; hours turned -/

def AllDays (S : Sets) : Prop := ∀ x, monthB S x = true ∧ dayB S x = true

theorem allDays_of {S : Sets} (hm : ∀ k : Int, 1 ≤ k → k ≤ 12 → inB S.month k = true) (hd : ∀ k : Int, 1 ≤ k → k ≤ 31 → inB S.dom k = true) (hw : ∀ k : Int, 0 ≤ k → k ≤ 6 → inB S.dow k = true) : AllDays S := fun x => by
  have hv := (date_L x).1
  have := mdays_bd (yearL x) (monthL x)
  refine ⟨hm _ hv.m1 hv.m2, ?_⟩
  unfold dayB
  rw [hd _ hv.d1 (by have := hv.d2; omega), hw (wdL x) (by unfold wdL; omega) (by unfold wdL; omega)]
  simp

/-- some time of day is in the sets -/
def SomeTime (S : Sets) : Prop := (∃ k : Int, 0 ≤ k ∧ k ≤ 23 ∧ inB S.hour k = true) ∧ (∃ k : Int, 0 ≤ k ∧ k ≤ 59 ∧ inB S.min k = true) ∧ (∃ k : Int, 0 ≤ k ∧ k ≤ 59 ∧ inB S.sec k = true)

theorem day_fit {S : Sets} (ha : AllDays S) (ht : SomeTime S) (f : Int) : ∃ x, f ≤ x ∧ x < f + 86400 ∧ Fits S x := by
  obtain ⟨⟨h, h0, h1, hh⟩, ⟨m, m0, m1, hm⟩, ⟨s, s0, s1, hs⟩⟩ := ht
  have key : ∀ x : Int, x % 86400 = 3600 * h + 60 * m + s → Fits S x := fun x e => by
    have e1 : hourL x = h := by unfold hourL; omega
    have e2 : minL x = m := by unfold minL; omega
    have e3 : secL x = s := by unfold secL; omega
    exact ⟨(ha x).1, (ha x).2, by unfold hourB; rw [e1]; exact hh, by unfold minB; rw [e2]; exact hm, by unfold secB; rw [e3]; exact hs⟩
  refine ⟨f + (3600 * h + 60 * m + s - f) % 86400, by omega, by omega, key _ (by omega)⟩

theorem year_day (f x : Int) (h : x < f + 86400) : yearL x ≤ yearL f + 1 := by
  have a := year_range f
  have b := year_range x
  by_cases hc : yearL x ≤ yearL f + 1
  · exact hc
  · have := ystart_mono (a := yearL f + 1) (b := yearL x) (by omega)
    omega

theorem daily_some {S : Sets} (ha : AllDays S) (ht : SomeTime S) {f lim : Int} (hl : yearL f + 1 ≤ lim) {r : Option Int} (hr : Least S f lim r) : ∃ L, r = some L ∧ L < f + 86400 := by
  obtain ⟨x, h1, h2, hx⟩ := day_fit ha ht f
  cases r with
  | none => exact absurd hx (hr x h1 (by have := year_day f x h2; omega))
  | some L =>
    refine ⟨L, rfl, ?_⟩
    by_cases hc : L ≤ x
    · omega
    · exact absurd hx (hr.2.2.1 x h1 (by omega))

theorem daily_none {S : Sets} (ht : ¬ SomeTime S) (x : Int) : ¬ Fits S x := fun hx => ht
  ⟨⟨hourL x, by unfold hourL; omega, by unfold hourL; omega, hx.ho⟩, ⟨minL x, by unfold minL; omega, by unfold minL; omega, hx.mi⟩, ⟨secL x, by unfold secL; omega, by unfold secL; omega, hx.se⟩⟩

structure Turned (S S' : Sets) (h : Int) : Prop where
  a : AllDays S
  b : AllDays S'
  min : S'.min = S.min
  sec : S'.sec = S.sec
  hour : ∀ v : Int, 0 ≤ v → v ≤ 23 → inB S'.hour v = inB S.hour ((v + h) % 24)

theorem turned_fits {S S' : Sets} {h : Int} (T : Turned S S' h) (x : Int) : Fits S (x + 3600 * h) ↔ Fits S' x := by
  have e1 : hourL (x + 3600 * h) = (hourL x + h) % 24 := by unfold hourL; omega
  have e2 : minL (x + 3600 * h) = minL x := by unfold minL; omega
  have e3 : secL (x + 3600 * h) = secL x := by unfold secL; omega
  have h3 : hourB S (x + 3600 * h) = hourB S' x := by
    unfold hourB
    rw [e1, T.hour _ (by unfold hourL; omega) (by unfold hourL; omega)]
  have h4 : minB S (x + 3600 * h) = minB S' x := by unfold minB; rw [e2, T.min]
  have h5 : secB S (x + 3600 * h) = secB S' x := by unfold secB; rw [e3, T.sec]
  constructor
  · intro k
    exact ⟨(T.b x).1, (T.b x).2, h3 ▸ k.ho, h4 ▸ k.mi, h5 ▸ k.se⟩
  · intro k
    exact ⟨(T.a _).1, (T.a _).2, h3.trans k.ho, h4.trans k.mi, h5.trans k.se⟩

theorem turned_least {S S' : Sets} {h : Int} (T : Turned S S' h) {f lim lim' : Int} (hl : yearL (f + 3600 * h) + 1 ≤ lim) (hl' : yearL f + 1 ≤ lim') {r r' : Option Int} (hr : Least S (f + 3600 * h) lim r) (hr' : Least S' f lim' r') :
    r = r'.map (· + 3600 * h) ∧ (r.isSome = true ↔ SomeTime S) := by
  by_cases ht : SomeTime S
  · obtain ⟨L, rfl, hL⟩ := daily_some T.a ht hl hr
    have hr1 : Least S' f lim' (some (L - 3600 * h)) := by
      refine ⟨by have := hr.1; omega, (turned_fits T _).1 (by rw [show L - 3600 * h + 3600 * h = L by omega]; exact hr.2.1), fun x h1 h2 hx => hr.2.2.1 (x + 3600 * h) (by omega) (by omega) ((turned_fits T x).2 hx), ?_⟩
      have := year_day f (L - 3600 * h) (by omega)
      omega
    have := least_unique hr' hr1
    subst this
    refine ⟨?_, by simp [ht]⟩
    show some L = some (L - 3600 * h + 3600 * h)
    rw [show L - 3600 * h + 3600 * h = L by omega]
  · have e := least_never (daily_none ht) hr
    have e' : r' = none := least_never (fun x hx => daily_none ht _ ((turned_fits T x).2 hx)) hr'
    subst e; subst e'
    exact ⟨rfl, by simp [ht]⟩

end Go.Proofs.Ytbgbeohiafiacaa.Cal

namespace Go.Proofs.Ytbgbeohiafiacaa.Cal
open Go Go.RowKit
set_option linter.unusedVariables false
set_option linter.unusedSimpArgs false

theorem mul32_any (c : Int) (h0 : 0 ≤ c) (h1 : c ≤ 146099) (w : World) :
    Calls Try.prog 151 #[.int .u32 2939745, .int .u32 c] w fun e w' => e = .returned (.tuple #[.int .u32 (2939745 * c / 4294967296), .int .u32 (2939745 * c % 4294967296)]) ∧ w = w' := by
  have hp : 2939745 * c < 18446744073709551616 := by omega
  have hq : 0 ≤ 2939745 * c := by omega
  go_enter Try.func151, Try.ntmps151
  go_wp2
  go_ret2
  exact ⟨rfl, rfl⟩

theorem absDays_any (a : Int) (h0 : 0 ≤ a) (h1 : a ≤ 18446744073709551615) (w : World) :
    Calls Try.prog 137 #[.int .u64 a] w fun e w' => e = .returned (.int .u64 (a / 86400)) ∧ w = w' := by
  go_enter Try.func137, Try.ntmps137
  go_wp2
  go_ret
  exact ⟨rfl, rfl⟩

theorem or3_nat (x : Nat) : x ||| 3 = x / 4 * 4 + 3 := by
  have h := Nat.two_pow_add_eq_or_of_lt (i := 2) (b := x % 4) (by omega) (x / 4)
  have h3 := Nat.two_pow_add_eq_or_of_lt (i := 2) (b := 3) (by omega) (x / 4)
  have e : x = 2 ^ 2 * (x / 4) ||| x % 4 := by rw [← h]; omega
  have e4 : x % 4 ||| 3 = 3 := by
    have : x % 4 = 0 ∨ x % 4 = 1 ∨ x % 4 = 2 ∨ x % 4 = 3 := by omega
    rcases this with h | h | h | h <;> rw [h] <;> rfl
  calc x ||| 3 = 2 ^ 2 * (x / 4) ||| (x % 4 ||| 3) := by rw [← Nat.or_assoc, ← e]
    _ = 2 ^ 2 * (x / 4) ||| 3 := by rw [e4]
    _ = 2 ^ 2 * (x / 4) + 3 := h3.symm
    _ = x / 4 * 4 + 3 := by omega

theorem or3_u32 {x : Int} (h0 : 0 ≤ x) (h1 : x < 4294967293) : bits .or .u32 x 3 = x / 4 * 4 + 3 := by
  obtain ⟨n, rfl⟩ : ∃ n : Nat, x = n := ⟨x.toNat, by omega⟩
  have e : IntKind.u32.bits = 32 := rfl
  have h3 := or3_nat n
  have hn : n % 2 ^ 32 = n := Nat.mod_eq_of_lt (by omega)
  unfold bits
  rw [e]
  show IntKind.u32.wrap ((BitVec.ofInt 32 (n : Int) ||| BitVec.ofInt 32 ((3 : Nat) : Int)).toNat : Int) = _
  rw [BitVec.ofInt_natCast, BitVec.ofInt_natCast, BitVec.toNat_or, BitVec.toNat_ofNat, BitVec.toNat_ofNat, hn, show (3 : Nat) % 2 ^ 32 = 3 from rfl, h3, IntKind.wrap_u32]
  omega

theorem and16_u32 {x : Int} (h0 : 0 ≤ x) (h1 : x < 4294967296) : bits .and .u32 x 65535 = x % 65536 := by
  obtain ⟨n, rfl⟩ : ∃ n : Nat, x = n := ⟨x.toNat, by omega⟩
  have e : IntKind.u32.bits = 32 := rfl
  have h3 := Nat.and_two_pow_sub_one_eq_mod n 16
  have hn : n % 2 ^ 32 = n := Nat.mod_eq_of_lt (by omega)
  unfold bits
  rw [e]
  show IntKind.u32.wrap ((BitVec.ofInt 32 (n : Int) &&& BitVec.ofInt 32 ((65535 : Nat) : Int)).toNat : Int) = _
  rw [BitVec.ofInt_natCast, BitVec.ofInt_natCast, BitVec.toNat_and, BitVec.toNat_ofNat, BitVec.toNat_ofNat, hn, show (65535 : Nat) % 2 ^ 32 = 2 ^ 16 - 1 from rfl, h3, IntKind.wrap_u32]
  omega

theorem cy_eq (c : Int) (h0 : 0 ≤ c) (h1 : c ≤ 36524) : 2939745 * (c * 4 + 3) / 4294967296 = (c * 4 + 3) / 1461 ∧ 2939745 * (c * 4 + 3) % 4294967296 / 2939745 / 4 = (c * 4 + 3) % 1461 / 4 := by
  have e : c * 4 + 3 = 1461 * ((c * 4 + 3) / 1461) + (c * 4 + 3) % 1461 := by omega
  have q0 : 0 ≤ (c * 4 + 3) / 1461 := by omega
  have q1 : (c * 4 + 3) / 1461 ≤ 99 := by omega
  have r0 : 0 ≤ (c * 4 + 3) % 1461 := by omega
  have r1 : (c * 4 + 3) % 1461 ≤ 1460 := by omega
  generalize (c * 4 + 3) / 1461 = q at *
  generalize (c * 4 + 3) % 1461 = r at *
  rw [e]
  have h1 : 2939745 * (1461 * q + r) / 4294967296 = q := by omega
  have h2 : 2939745 * (1461 * q + r) % 4294967296 = 149 * q + 2939745 * r := by omega
  have h3 : (149 * q + 2939745 * r) / 2939745 = r := by omega
  rw [h1, h2, h3]
  exact ⟨rfl, rfl⟩

/-- days that the program speaks of: from March 1 of year 0 on -/
def AOk (A : Int) : Prop := 106751990353932 ≤ A ∧ A ≤ 1000000000000000

set_option maxRecDepth 100000 in
theorem split_any (A : Int) (h0 : 0 ≤ A) (h1 : A ≤ 1000000000000000) (w : World) :
    Calls Try.prog 138 #[.int .u64 A] w fun e w' => e = .returned (.tuple #[.int .u64 (cenA A), .int .i64 (cyA A), .int .i64 (aydA A)]) ∧ w = w' := by
  obtain ⟨-, p2, p3⟩ := cen_parts A
  have hcy := cy_eq _ p2 p3
  have hcd : cdA A = (4 * A + 3) % 146097 / 4 * 4 + 3 := rfl
  have hor : bits .or .u32 ((4 * A + 3) % 146097) 3 = cdA A := by
    rw [hcd]
    exact or3_u32 (by omega) (by omega)
  have hv : (Value.tuple #[.int .u64 (cenA A), .int .i64 (cyA A), .int .i64 (aydA A)]) = .tuple #[.int .u64 ((4 * A + 3) / 146097), .int .i64 (2939745 * cdA A / 4294967296), .int .i64 (2939745 * cdA A % 4294967296 / 2939745 / 4)] := by
    rw [hcd, hcy.1, hcy.2]
    rfl
  have HV := Lib.hid hv
  have hb0 : 0 ≤ cdA A := by omega
  have hb1 : cdA A ≤ 146099 := by omega
  have HOR := Lib.hid hor
  clear hcy hcd hv p2 p3 hor
  generalize cdA A = cd at *
  go_enter Try.func138, Try.ntmps138
  go_wp2_with fail
  rw [HOR.out]
  refine (mul32_any _ hb0 hb1 _).mono ?_
  rintro e w' ⟨rfl, rfl⟩
  go_wp2_with fail
  go_ret3
  exact ⟨by rw [HV.out]; rfl, rfl⟩

set_option maxRecDepth 100000 in
theorem yday_all : ∀ n : Fin 366, (2141 * (n.val : Int) + 197913) / 65536 = (5 * (n.val : Int) + 461) / 153 ∧ (2141 * (n.val : Int) + 197913) % 65536 / 2141 = (5 * (n.val : Int) + 461) % 153 / 5 := by decide +kernel

theorem yday_eq (a : Int) (h0 : 0 ≤ a) (h1 : a ≤ 365) : (2141 * a + 197913) / 65536 = (5 * a + 461) / 153 ∧ (2141 * a + 197913) % 65536 / 2141 = (5 * a + 461) % 153 / 5 := by
  obtain ⟨n, rfl⟩ : ∃ n : Nat, a = n := ⟨a.toNat, by omega⟩
  exact yday_all ⟨n, by omega⟩

theorem ydaySplit_any (a : Int) (h0 : 0 ≤ a) (h1 : a ≤ 365) (w : World) :
    Calls Try.prog 139 #[.int .i64 a] w fun e w' => e = .returned (.tuple #[.int .i64 ((5 * a + 461) / 153), .int .i64 (1 + (5 * a + 461) % 153 / 5)]) ∧ w = w' := by
  obtain ⟨e1, e2⟩ := yday_eq a h0 h1
  have hand : bits .and .u32 (2141 * a + 197913) 65535 = (2141 * a + 197913) % 65536 := and16_u32 (by omega) (by omega)
  have E1 := Lib.hid e1
  have E2 := Lib.hid e2
  clear e1 e2
  go_enter Try.func139, Try.ntmps139
  go_wp2
  go_ret2
  exact ⟨by rw [← E1.out, ← E2.out]; rfl, rfl⟩

theorem janFeb_any (A : Int) (w : World) :
    Calls Try.prog 140 #[.int .i64 (aydA A)] w fun e w' => e = .returned (.int .i64 (jfA A)) ∧ w = w' := by
  have hj : jfA A = if 306 ≤ aydA A then 1 else 0 := rfl
  generalize aydA A = a at *
  by_cases h : 306 ≤ a
  · rw [if_pos h] at hj
    rw [hj]
    clear hj
    go_enter Try.func140, Try.ntmps140
    go_wp2
    go_ret
    exact ⟨rfl, rfl⟩
  · rw [if_neg h] at hj
    rw [hj]
    clear hj
    go_enter Try.func140, Try.ntmps140
    go_wp2
    go_ret
    exact ⟨rfl, rfl⟩

theorem parts_bd (A : Int) : 0 ≤ cyA A ∧ cyA A ≤ 99 ∧ 0 ≤ aydA A ∧ aydA A ≤ 365 ∧ 0 ≤ jfA A ∧ jfA A ≤ 1 ∧ 4 ≤ (5 * aydA A + 461) / 153 - 1 + 2 ∧ (5 * aydA A + 461) / 153 ≤ 14 := by
  obtain ⟨-, p2, p3⟩ := cen_parts A
  have h := cy_parts _ p2 p3
  have hcd : cdA A = (4 * A + 3) % 146097 / 4 * 4 + 3 := rfl
  obtain ⟨_, c0, c1, a0, a1, _⟩ := h
  rw [← hcd] at c0 c1 a0 a1
  have hj : jfA A = if 306 ≤ aydA A then 1 else 0 := rfl
  refine ⟨c0, c1, a0, a1, by rw [hj]; split <;> omega, by rw [hj]; split <;> omega, ?_, ?_⟩ <;> unfold aydA at * <;> omega

theorem year_any (A : Int) (h : AOk A) (w : World) :
    Calls Try.prog 141 #[.int .u64 (cenA A), .int .i64 (cyA A), .int .i64 (jfA A)] w fun e w' => e = .returned (.int .i64 (yearA A)) ∧ w = w' := by
  obtain ⟨h0, h1⟩ := h
  obtain ⟨b0, b1, _, _, j0, j1, _, _⟩ := parts_bd A
  have c0 : 2922770224 ≤ cenA A := by unfold cenA; omega
  have c1 : cenA A ≤ 27380000000 := by unfold cenA; omega
  have HY : Hid (yearA A = cenA A * 100 - 292277022400 + cyA A + jfA A) := Lib.hid rfl
  generalize cenA A = c at *
  generalize cyA A = y at *
  generalize jfA A = j at *
  go_enter Try.func141, Try.ntmps141
  go_wp2
  go_ret
  exact ⟨by rw [HY.out]; rfl, rfl⟩

theorem month_any (A : Int) (w : World) :
    Calls Try.prog 142 #[.int .i64 ((5 * aydA A + 461) / 153), .int .i64 (jfA A)] w fun e w' => e = .returned (.int .i64 (monthA A)) ∧ w = w' := by
  obtain ⟨_, _, a0, a1, j0, j1, m0, m1⟩ := parts_bd A
  have HM : Hid (monthA A = (5 * aydA A + 461) / 153 - jfA A * 12) := Lib.hid (by unfold monthA amA; omega)
  generalize (5 * aydA A + 461) / 153 = m at *
  generalize jfA A = j at *
  go_enter Try.func142, Try.ntmps142
  go_wp2
  go_ret
  exact ⟨by rw [HM.out]; rfl, rfl⟩

theorem weekday_any (A : Int) (h0 : 0 ≤ A) (h1 : A ≤ 1000000000000000) (w : World) :
    Calls Try.prog 155 #[.int .u64 A] w fun e w' => e = .returned (.int .i64 ((A + 3) % 7)) ∧ w = w' := by
  go_enter Try.func155, Try.ntmps155
  go_wp2
  go_ret
  exact ⟨rfl, rfl⟩

theorem absClock_any (a : Int) (h0 : 0 ≤ a) (h1 : a ≤ 18446744073709551615) (w : World) :
    Calls Try.prog 154 #[.int .u64 a] w fun e w' => e = .returned (.tuple #[.int .i64 (a % 86400 / 3600), .int .i64 (a % 3600 / 60), .int .i64 (a % 60)]) ∧ w = w' := by
  have E1 : Hid (((a % 86400) - (a % 86400 / 3600) * 3600) / 60 = a % 3600 / 60) := Lib.hid (by omega)
  have E2 : Hid ((a % 86400) - (a % 86400 / 3600) * 3600 - (((a % 86400) - (a % 86400 / 3600) * 3600) / 60) * 60 = a % 60) := Lib.hid (by omega)
  have s0 : 0 ≤ a % 86400 := by omega
  have s1 : a % 86400 ≤ 86399 := by omega
  go_enter Try.func154, Try.ntmps154
  go_wp2
  go_ret3
  refine ⟨?_, rfl⟩
  rw [← E2.out, ← E1.out]
  rfl

theorem dateA_any (A : Int) (h : AOk A) (w : World) :
    Calls Try.prog 153 #[.int .u64 A] w fun e w' => e = .returned (.tuple #[.int .i64 (yearA A), .int .i64 (monthA A), .int .i64 (mdayA A)]) ∧ w = w' := by
  have hb := parts_bd A
  have H1 := Lib.hid (fun w => split_any A (by have := h.1; omega) h.2 w)
  have H2 := Lib.hid (fun w => ydaySplit_any (aydA A) hb.2.2.1 hb.2.2.2.1 w)
  have H3 := Lib.hid (fun w => janFeb_any A w)
  have H4 := Lib.hid (fun w => year_any A h w)
  have H5 := Lib.hid (fun w => month_any A w)
  have HD : Hid (mdayA A = 1 + (5 * aydA A + 461) % 153 / 5) := Lib.hid rfl
  rw [HD.out]
  clear hb h HD
  generalize cenA A = c at *
  generalize cyA A = cy at *
  generalize (5 * aydA A + 461) / 153 = m at *
  generalize 1 + (5 * aydA A + 461) % 153 / 5 = d at *
  generalize aydA A = a at *
  generalize jfA A = j at *
  generalize yearA A = y at *
  generalize monthA A = mo at *
  go_enter Try.func153, Try.ntmps153
  go_wp2_with fail
  refine (H1.out _).mono ?_
  rintro e w1 ⟨rfl, rfl⟩
  go_wp2_with fail
  refine (H2.out _).mono ?_
  rintro e w1 ⟨rfl, rfl⟩
  go_wp2_with fail
  refine (H3.out _).mono ?_
  rintro e w1 ⟨rfl, rfl⟩
  go_wp2_with fail
  refine (H4.out _).mono ?_
  rintro e w1 ⟨rfl, rfl⟩
  go_wp2_with fail
  refine (H5.out _).mono ?_
  rintro e w1 ⟨rfl, rfl⟩
  go_wp2_with fail
  go_ret3
  exact ⟨rfl, rfl⟩
end Go.Proofs.Ytbgbeohiafiacaa.Cal

namespace Go.Proofs.Ytbgbeohiafiacaa.Cal
open Go Go.RowKit
set_option linter.unusedVariables false
set_option linter.unusedSimpArgs false

theorem and_hi {x : Int} (h0 : 0 ≤ x) (h1 : x < 9223372036854775808) : bits .and .u64 x 9223372036854775808 = 0 := by
  obtain ⟨n, rfl⟩ : ∃ n : Nat, x = n := ⟨x.toNat, by omega⟩
  have e : IntKind.u64.bits = 64 := rfl
  have hn : n % 2 ^ 64 = n := Nat.mod_eq_of_lt (by omega)
  have h3 : n &&& 2 ^ 63 = 0 := by
    apply Nat.eq_of_testBit_eq
    intro i
    rw [Nat.testBit_and, Nat.testBit_two_pow, Nat.zero_testBit]
    by_cases hi : 63 = i
    · subst hi
      rw [Nat.testBit_lt_two_pow (by omega)]
      rfl
    · rw [decide_eq_false hi, Bool.and_false]
  unfold bits
  rw [e]
  show IntKind.u64.wrap ((BitVec.ofInt 64 (n : Int) &&& BitVec.ofInt 64 ((9223372036854775808 : Nat) : Int)).toNat : Int) = _
  rw [BitVec.ofInt_natCast, BitVec.ofInt_natCast, BitVec.toNat_and, BitVec.toNat_ofNat, BitVec.toNat_ofNat, hn, show (9223372036854775808 : Nat) % 2 ^ 64 = 2 ^ 63 from rfl, h3]
  rfl

theorem and_low {x : Int} (h0 : 0 ≤ x) (h1 : x < 1073741824) : bits .and .u64 x 1073741823 = x := by
  obtain ⟨n, rfl⟩ : ∃ n : Nat, x = n := ⟨x.toNat, by omega⟩
  have e : IntKind.u64.bits = 64 := rfl
  have h3 := Nat.and_two_pow_sub_one_eq_mod n 30
  have hn : n % 2 ^ 64 = n := Nat.mod_eq_of_lt (by omega)
  unfold bits
  rw [e]
  show IntKind.u64.wrap ((BitVec.ofInt 64 (n : Int) &&& BitVec.ofInt 64 ((1073741823 : Nat) : Int)).toNat : Int) = _
  rw [BitVec.ofInt_natCast, BitVec.ofInt_natCast, BitVec.toNat_and, BitVec.toNat_ofNat, BitVec.toNat_ofNat, hn, show (1073741823 : Nat) % 2 ^ 64 = 2 ^ 30 - 1 from rfl, h3, IntKind.wrap_u64]
  omega

theorem andNot_low {x : Int} (h0 : 0 ≤ x) (h1 : x < 1073741824) : bits .andNot .u64 x 1073741823 = 0 := by
  obtain ⟨n, rfl⟩ : ∃ n : Nat, x = n := ⟨x.toNat, by omega⟩
  have e : IntKind.u64.bits = 64 := rfl
  have hn : n % 2 ^ 64 = n := Nat.mod_eq_of_lt (by omega)
  unfold bits
  rw [e]
  show IntKind.u64.wrap ((BitVec.ofInt 64 (n : Int) &&& ~~~ BitVec.ofInt 64 ((1073741823 : Nat) : Int)).toNat : Int) = _
  have hz : (BitVec.ofInt 64 (n : Int) &&& ~~~ BitVec.ofInt 64 ((1073741823 : Nat) : Int)) = 0#64 := by
    apply BitVec.eq_of_getLsbD_eq
    intro i hi
    rw [BitVec.ofInt_natCast, BitVec.ofInt_natCast, BitVec.getLsbD_and, BitVec.getLsbD_not, BitVec.getLsbD_ofNat, BitVec.getLsbD_ofNat, BitVec.getLsbD_zero]
    by_cases h30 : i < 30
    · have : Nat.testBit 1073741823 i = true := by
        have := Nat.testBit_two_pow_sub_one 30 i
        rw [decide_eq_true h30] at this
        exact this
      simp [this, hi]
    · have : n.testBit i = false := Nat.testBit_lt_two_pow (Nat.lt_of_lt_of_le (show n < 2 ^ 30 by omega) (Nat.pow_le_pow_right (by omega) (by omega)))
      simp [this]
  rw [hz]
  rfl

/-- a Time value -/
def tv (n e : Int) (l : Option Addr) : Value := .agg #[.int .u64 n, .int .i64 e, .pointer l]

theorem sec_any (g : Nat) (n e : Int) (w : World) (h0 : 0 ≤ n) (h1 : n < 1073741824) (hc0 : w.cell? ⟨g, 0, none⟩ = some (.int .u64 n)) (hc1 : w.cell? ⟨g, 1, none⟩ = some (.int .i64 e)) :
    Calls Try.prog 101 #[.pointer (some ⟨g, 0, none⟩)] w fun e' w' => e' = .returned (.int .i64 e) ∧ w = w' := by
  have hand := and_hi (x := n) h0 (by omega)
  go_enter Try.func101, Try.ntmps101
  go_wp2_with fail
  go_ret
  exact ⟨rfl, rfl⟩

theorem unixSec_any (g : Nat) (n e : Int) (w : World) (h0 : 0 ≤ n) (h1 : n < 1073741824) (he0 : -1000000 ≤ e) (he1 : e ≤ 1000000000000) (hc0 : w.cell? ⟨g, 0, none⟩ = some (.int .u64 n)) (hc1 : w.cell? ⟨g, 1, none⟩ = some (.int .i64 e)) :
    Calls Try.prog 84 #[.pointer (some ⟨g, 0, none⟩)] w fun e' w' => e' = .returned (.int .i64 (e - 62135596800)) ∧ w = w' := by
  have H := Lib.hid (sec_any g n e w h0 h1 hc0 hc1)
  go_enter Try.func84, Try.ntmps84
  go_wp2_with fail
  refine H.out.mono ?_
  rintro e' w' ⟨rfl, rfl⟩
  go_wp2_with fail
  go_ret
  exact ⟨rfl, rfl⟩

theorem nsec_any (g : Nat) (n : Int) (w : World) (h0 : 0 ≤ n) (h1 : n < 1073741824) (hc0 : w.cell? ⟨g, 0, none⟩ = some (.int .u64 n)) :
    Calls Try.prog 85 #[.pointer (some ⟨g, 0, none⟩)] w fun e' w' => e' = .returned (.int .i32 n) ∧ w = w' := by
  have hand := and_low h0 h1
  go_enter Try.func85, Try.ntmps85
  go_wp2_with fail
  go_ret
  exact ⟨rfl, rfl⟩

/-- the cells of a Location that is UTC -/
theorem utc_any (w : World) :
    Calls Try.prog 58 #[] w fun e' w' => e' = .returned (.pointer (some ⟨w.heap.size, 0, none⟩)) ∧ w'.cell? ⟨w.heap.size, 0, none⟩ = some (.bool true) ∧ w'.cell? ⟨w.heap.size, 2, none⟩ = some (.slice none 0 0) ∧ Below w.heap.size w w' ∧ w.heap.size < w'.heap.size := by
  go_enter Try.func58, Try.ntmps58
  go_wp2_with fail
  go_ret
  refine ⟨rfl, by simp [go_sem], by simp [go_sem], (Below.refl _ _).alloc (Nat.le_refl _) _, by simp⟩

theorem strip_any (g : Nat) (n : Int) (w : World) (h0 : 0 ≤ n) (h1 : n < 1073741824) (hc0 : w.cell? ⟨g, 0, none⟩ = some (.int .u64 n)) :
    Calls Try.prog 86 #[.pointer (some ⟨g, 0, none⟩)] w fun e' w' => e' = .returned (.tuple #[]) ∧ w = w' := by
  have hand := and_hi (x := n) h0 (by omega)
  go_enter Try.func86, Try.ntmps86
  go_wp2_with fail
  refine bodyPost_end (results_none rfl _ _ _) rfl ?_
  exact ⟨rfl, rfl⟩

/-- a location pointer stands for UTC -/
def UtcAt (w : World) (g : Nat) : Prop := w.cell? ⟨g, 0, none⟩ = some (.bool true) ∧ w.cell? ⟨g, 2, none⟩ = some (.slice none 0 0) ∧ g < w.heap.size

theorem UtcAt.below {w w' : World} {g : Nat} (h : UtcAt w g) (hb : Below w.heap.size w w') : UtcAt w' g :=
  ⟨(hb.cell (p := ⟨g, 0, none⟩) h.2.2).trans h.1, (hb.cell (p := ⟨g, 2, none⟩) h.2.2).trans h.2.1, Nat.lt_of_lt_of_le h.2.2 hb.size⟩

theorem setLocUtc_any (g k : Nat) (n : Int) (l : Option Addr) (w : World) (h0 : 0 ≤ n) (h1 : n < 1073741824) (hc0 : w.cell? ⟨g, 0, none⟩ = some (.int .u64 n)) (hc2 : w.cell? ⟨g, 2, none⟩ = some (.pointer l)) (hf2 : w.frozen? ⟨g, 2, none⟩ = false) (hu : UtcAt w k) :
    Calls Try.prog 73 #[.pointer (some ⟨g, 0, none⟩), .pointer (some ⟨k, 0, none⟩)] w fun e' w' => e' = .returned (.tuple #[]) ∧ w' = w.setCell ⟨g, 2, none⟩ (.pointer none) := by
  have H := Lib.hid (strip_any g n w h0 h1 hc0)
  obtain ⟨hu0, _, _⟩ := hu
  go_enter Try.func73, Try.ntmps73
  go_wp2_with fail
  refine H.out.mono ?_
  rintro e' w' ⟨rfl, rfl⟩
  go_wp2_with fail
  refine bodyPost_end (results_none rfl _ _ _) rfl ?_
  exact ⟨rfl, rfl⟩

theorem addSec_any (g : Nat) (n e d : Int) (w : World) (h0 : 0 ≤ n) (h1 : n < 1073741824) (he0 : -1000000 ≤ e) (he1 : e ≤ 1000000000000) (hd0 : -1000000000 ≤ d) (hd1 : d ≤ 1000000000)
    (hc0 : w.cell? ⟨g, 0, none⟩ = some (.int .u64 n)) (hc1 : w.cell? ⟨g, 1, none⟩ = some (.int .i64 e)) (hf1 : w.frozen? ⟨g, 1, none⟩ = false) :
    Calls Try.prog 124 #[.pointer (some ⟨g, 0, none⟩), .int .i64 d] w fun e' w' => e' = .returned (.tuple #[]) ∧ w' = w.setCell ⟨g, 1, none⟩ (.int .i64 (e + d)) := by
  have hand := and_hi (x := n) h0 (by omega)
  by_cases hd : 0 < d
  · have hgt : e < e + d := by omega
    go_enter Try.func124, Try.ntmps124
    go_wp2_with fail
    refine bodyPost_end (results_none rfl _ _ _) rfl ?_
    exact ⟨rfl, rfl⟩
  · have hgt : ¬ e < e + d := by omega
    go_enter Try.func124, Try.ntmps124
    go_wp2_with fail
    refine bodyPost_end (results_none rfl _ _ _) rfl ?_
    exact ⟨rfl, rfl⟩

theorem unixTime_any (s n : Int) (h0 : 0 ≤ n) (h1 : n < 1000000000) (hs0 : -1000000000000 ≤ s) (hs1 : s ≤ 1000000000000) (w : World) :
    Calls Try.prog 72 #[.int .i64 s, .int .i32 n] w fun e' w' => e' = .returned (tv n (s + 62135596800) none) ∧ Below w.heap.size w w' := by
  go_enter Try.func72, Try.ntmps72
  go_wp2_with fail
  exact bodyPost_ret (v := tv n (s + 62135596800) none) (by simp [results, Try.results72, go_sem, tv]) rfl ⟨rfl, ((Below.refl _ _).alloc (Nat.le_refl _) _)⟩
end Go.Proofs.Ytbgbeohiafiacaa.Cal
