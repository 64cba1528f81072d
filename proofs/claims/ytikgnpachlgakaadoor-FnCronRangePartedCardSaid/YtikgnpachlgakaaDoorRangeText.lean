/- Ranges of small numbers, as texts and as sets: the plain part of FnCronRangeParted (no program in sight but the readers' definitions). -/
import Derived.Test.YtikgnpachlgakaaDoorSpecValue
import Derived.Test.YtikgnpachlgakaaDoorGetField
namespace Go.Proofs.YtikgnpachlgakaaDoor.Cron
open Go Go.RowKit Go.Proofs.YtikgnpachlgakaaDoor.Text Go.Proofs.YtikgnpachlgakaaDoor.Bits
set_option linter.unusedVariables false

/-- the digits of a number below 100 -/
def dig (i : Nat) : List UInt8 := if i < 10 then [UInt8.ofNat (48 + i)] else [UInt8.ofNat (48 + i / 10), UInt8.ofNat (48 + i % 10)]

theorem decDigits_dig (i : Nat) (h : i < 100) : Lib.decDigits i = dig i := by
  unfold Lib.decDigits dig
  by_cases h1 : i < 10
  · rw [dif_pos h1, if_pos h1]
  · rw [dif_neg h1, if_neg h1, Lib.decDigits, dif_pos (by omega)]
    rfl

theorem dig_range : ∀ i : Fin 100, ∀ c ∈ dig i.val, 48 ≤ c.toNat ∧ c.toNat ≤ 57 := by decide
theorem dig_months : ∀ i : Fin 100, lookL (ba (dig i.val)) monthsL = none := by decide
theorem dig_dow : ∀ i : Fin 100, lookL (ba (dig i.val)) dowL = none := by decide
theorem dig_mp : ∀ i : Fin 100, mp (dig i.val) = some i.val := by decide

theorem dig_low (i : Nat) (h : i < 100) : lowB (ba (dig i)) = ba (dig i) := by
  have hr := dig_range ⟨i, h⟩
  rw [low_ascii (ba (dig i)) (by rw [ba_list]; intro c hc; have := hr c hc; omega), ba_list]
  congr 1
  rw [List.map_congr_left (g := id)]
  · simp
  · intro c hc
    have := hr c hc
    unfold low8
    rw [if_neg (by omega)]
    rfl

theorem valK_dig (k i : Nat) (h : i < 100) : valK k (dig i) = some i := by
  unfold valK
  by_cases h4 : k = 4
  · rw [if_pos h4, valN, dig_low i h, dig_months ⟨i, h⟩]
    exact dig_mp ⟨i, h⟩
  · rw [if_neg h4]
    by_cases h5 : k = 5
    · rw [if_pos h5, valN, dig_low i h, dig_dow ⟨i, h⟩]
      exact dig_mp ⟨i, h⟩
    · rw [if_neg h5]
      exact dig_mp ⟨i, h⟩

/-- the text of a range -/
def rangeText (a b : Nat) : List UInt8 := dig a ++ 45 :: dig b

theorem dig_ne (i : Nat) (h : i < 100) (c : UInt8) (hc : c.toNat < 48) : ∀ x ∈ dig i, x ≠ c := by
  intro x hx e
  have := dig_range ⟨i, h⟩ x hx
  subst e
  omega

theorem range_ne (a b : Nat) (ha : a < 100) (hb : b < 100) (c : UInt8) (hc : c.toNat < 48) (h45 : c ≠ 45) : ∀ x ∈ rangeText a b, x ≠ c := by
  intro x hx
  unfold rangeText at hx
  rw [List.mem_append, List.mem_cons] at hx
  rcases hx with hx | hx | hx
  · exact dig_ne a ha c hc x hx
  · rw [hx]; exact fun e => h45 e.symm
  · exact dig_ne b hb c hc x hx

theorem slash_free (a b : Nat) (ha : a < 100) (hb : b < 100) : splitL 47 (rangeText a b) = [rangeText a b] :=
  splitL_plain _ (range_ne a b ha hb 47 (by decide) (by decide))

theorem hyphen_parts (a b : Nat) (ha : a < 100) (hb : b < 100) : splitL 45 (rangeText a b) = [dig a, dig b] := by
  unfold rangeText
  rw [splitL_part _ _ (dig_ne a ha 45 (by decide)), splitL_plain _ (dig_ne b hb 45 (by decide))]

theorem dig_star (i : Nat) (h : i < 100) : ¬ (dig i = [42] ∨ dig i = [63]) := by
  rintro (e | e)
  · have := dig_range ⟨i, h⟩ 42 (by show (42 : UInt8) ∈ dig i; rw [e]; simp)
    exact absurd this (by decide)
  · have := dig_range ⟨i, h⟩ 63 (by show (63 : UInt8) ∈ dig i; rw [e]; simp)
    exact absurd this (by decide)

theorem rangeS_text (k lo hi a b : Nat) (h1 : lo ≤ a) (h2 : a ≤ b) (h3 : b ≤ hi) (hh : hi < 100) : rangeS (valK k) lo hi (rangeText a b) = some (steps a b 1) := by
  have ha : a < 100 := by omega
  have hb : b < 100 := by omega
  rw [rangeS_some (slash_free a b ha hb) (hyphen_parts a b ha hb) (a := a) (b := b) (st := false) (by
    rw [ends_else _ (dig_star a ha), valK_dig k a ha]
    simp only [endsRest]
    rw [valK_dig k b hb])]
  simp only [rangeFin, stepOf, bitsOf]
  rw [if_neg (by omega), if_neg (by omega), if_neg (by omega), if_neg (by omega)]
  simp

theorem fieldS_one (k lo hi a b : Nat) (h1 : lo ≤ a) (h2 : a ≤ b) (h3 : b ≤ hi) (hh : hi < 100) : fieldS (valK k) lo hi (rangeText a b) = some (steps a b 1) := by
  have hp : partsL 44 (rangeText a b) = [rangeText a b] := by
    unfold partsL
    rw [splitL_plain _ (range_ne a b (by omega) (by omega) 44 (by decide) (by decide))]
    rw [List.filter_cons_of_pos (by simp [rangeText]), List.filter_nil]
  unfold fieldS
  rw [hp]
  simp only [fieldGo]
  rw [rangeS_text k lo hi a b h1 h2 h3 hh]
  simp

theorem steps_join (a m b : Nat) (h1 : a ≤ m) (h2 : m ≤ b) : steps a m 1 ||| steps (m + 1) b 1 = steps a b 1 := by
  unfold steps
  rw [mkBits_or]
  apply mkBits_ext
  intro j _
  simp only [Nat.mod_one, beq_self_eq_true, Bool.and_true]
  rw [Bool.eq_iff_iff]
  simp
  omega

theorem fieldS_two (k lo hi a m b : Nat) (h1 : lo ≤ a) (h2 : a ≤ m) (h3 : m < b) (h4 : b ≤ hi) (hh : hi < 100) : fieldS (valK k) lo hi (rangeText a m ++ 44 :: rangeText (m + 1) b) = some (steps a b 1) := by
  have hp : partsL 44 (rangeText a m ++ 44 :: rangeText (m + 1) b) = [rangeText a m, rangeText (m + 1) b] := by
    unfold partsL
    rw [splitL_part _ _ (range_ne a m (by omega) (by omega) 44 (by decide) (by decide)), splitL_plain _ (range_ne (m + 1) b (by omega) (by omega) 44 (by decide) (by decide))]
    rw [List.filter_cons_of_pos (by simp [rangeText]), List.filter_cons_of_pos (by simp [rangeText]), List.filter_nil]
  unfold fieldS
  rw [hp]
  simp only [fieldGo]
  rw [rangeS_text k lo hi a m h1 h2 (by omega) hh]
  simp only
  rw [rangeS_text k lo hi (m + 1) b (by omega) (by omega) h4 hh]
  simp only [Nat.zero_or, steps_join a m b h2 (by omega)]

end Go.Proofs.YtikgnpachlgakaaDoor.Cron
