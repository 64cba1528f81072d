/- The reference's item against the program's, put together (no walk). -/
import Derived.Test.YtikgnpachlgakaaDoorSpecEnds
namespace Go.Proofs.YtikgnpachlgakaaDoor.Cron
open Go Go.Proofs.YtikgnpachlgakaaDoor.Text Go.Proofs.YtikgnpachlgakaaDoor.Bits
set_option linter.unusedVariables false

/-- with the ends' readings known: the bits -/
def coreBits (lo hi : Nat) (ra rb : Option Nat) (step : Nat) : Option Nat :=
  match ra, rb with
  | some a, some b => bitsOf lo hi a b step false
  | _, _ => none

/-- what is known when the step has been read -/
structure Mid (r : Option Nat) (lo hi : Nat) (low high : Int) (star : Bool) (step v : Int) : Prop where
  vs : v = 0 ∨ v = 1 ∨ v = 2
  bad : v = 0 → r = none
  fine : v = 1 → ∃ k : Nat, step = k ∧ 1 ≤ k ∧ k < 1099511627776 ∧
    ((star = true ∧ low = lo ∧ high = hi ∧ r = bitsOf lo hi lo hi k (if 1 < k then false else true)) ∨
     (star = false ∧ ∃ ra rb, Rel ra low ∧ Rel rb high ∧ r = coreBits lo hi ra rb k))

theorem rangeS_eq {val : List UInt8 → Option Nat} {lo hi : Nat} {s p : List UInt8} {ps : List (List UInt8)} (h1 : splitL 47 s = p :: ps) :
    rangeS val lo hi s = match ends val lo hi (splitL 45 p) with | none => none | some (a, b, st) => rangeFin lo hi ((splitL 45 p).length == 1) a b st ps := by
  unfold rangeS
  rw [h1]
  rfl

theorem if_same (c : Prop) [Decidable c] (x : Bool) : (if c then x else x) = x := by split <;> rfl

theorem rangeS_many {val : List UInt8 → Option Nat} {lo hi : Nat} {s p t t2 : List UInt8} {ps : List (List UInt8)} (h1 : splitL 47 s = p :: t :: t2 :: ps) : rangeS val lo hi s = none := by
  rw [rangeS_eq h1]
  cases ends val lo hi (splitL 45 p) with
  | none => rfl
  | some x => obtain ⟨a, b, st⟩ := x; rfl

theorem mid_one {val : List UInt8 → Option Nat} {lo hi : Nat} {s p : List UInt8} {low high v : Int} {star single : Bool} (h1 : splitL 47 s = [p])
    (he : EndsIs (ends val lo hi (splitL 45 p)) lo hi low high star single v) : Mid (rangeS val lo hi s) lo hi low high star 1 v := by
  refine ⟨he.vs, fun h => ?_, fun h => ⟨1, rfl, by omega, by omega, ?_⟩⟩
  · rw [rangeS_eq h1, he.bad h]
  · rw [rangeS_eq h1]
    rcases he.fine h with ⟨hs, hl, hh, hr⟩ | ⟨hs, ra, rb, ha, hb, _, hr⟩
    · left
      refine ⟨hs, hl, hh, ?_⟩
      rw [hr]
      simp only [rangeFin, stepOf]
      rfl
    · right
      refine ⟨hs, ra, rb, ha, hb, ?_⟩
      rw [hr]
      cases ra <;> cases rb <;> rfl

theorem bitsOf_zero (lo hi a b : Nat) (st : Bool) : bitsOf lo hi a b 0 st = none := by
  unfold bitsOf
  split
  · rfl
  · split
    · rfl
    · split
      · rfl
      · rfl

theorem mid_two {val : List UInt8 → Option Nat} {lo hi : Nat} {s p t : List UInt8} {low high v n v2 v3 : Int} {star single : Bool} (h2 : hi ≤ 62) (h1 : splitL 47 s = [p, t])
    (hsg : single = ((splitL 45 p).length == 1))
    (he : EndsIs (ends val lo hi (splitL 45 p)) lo hi low high star single v)
    (hvs2 : v2 = 0 ∨ v2 = 1 ∨ v2 = 2)
    (hf2 : v2 = 1 → ∃ m : Nat, mp t = some m ∧ n = m ∧ 1 ≤ m ∧ m < 1099511627776) (hb2 : v2 = 0 → mp t = none ∨ mp t = some 0)
    (hvs : v3 = 0 ∨ v3 = 1 ∨ v3 = 2) (hw0 : v3 = 0 → v = 0 ∨ v2 = 0) (hw1 : v3 = 1 → v = 1 ∧ v2 = 1) :
    Mid (rangeS val lo hi s) lo hi low (if single && !star then (hi : Int) else high) star n v3 := by
  refine ⟨hvs, fun h => ?_, fun h => ?_⟩
  · rw [rangeS_eq h1]
    rcases hw0 h with h | h
    · rw [he.bad h]
    · cases hr : ends val lo hi (splitL 45 p) with
      | none => rfl
      | some x =>
        obtain ⟨a, b, st⟩ := x
        simp only [rangeFin, stepOf]
        rcases hb2 h with e | e
        · rw [e]
        · rw [e]; exact bitsOf_zero _ _ _ _ _
  · obtain ⟨hv, hv2⟩ := hw1 h
    obtain ⟨m, hm, hn, hm1, hm2⟩ := hf2 hv2
    refine ⟨m, hn, hm1, hm2, ?_⟩
    rw [rangeS_eq h1]
    rcases he.fine hv with ⟨hs, hl, hh, hr⟩ | ⟨hs, ra, rb, ha, hb, hab, hr⟩
    · left
      subst hs
      refine ⟨rfl, hl, by simpa using hh, ?_⟩
      rw [hr]
      simp only [rangeFin, stepOf, hm]
      split <;> rfl
    · right
      subst hs
      refine ⟨rfl, ?_⟩
      rw [hr]
      cases single with
      | true =>
        obtain rfl := hab rfl
        refine ⟨ra, some hi, ha, .inl ⟨hi, rfl, by simp only [Bool.not_false, Bool.and_true, if_true]; omega⟩, ?_⟩
        cases ra with
        | none => rfl
        | some a =>
          simp only [both, coreBits, rangeFin, stepOf, hm, ← hsg, if_true]
          rw [if_same]
      | false =>
        refine ⟨ra, rb, ha, by simpa using hb, ?_⟩
        cases ra with
        | none => rfl
        | some a =>
          cases rb with
          | none => rfl
          | some b =>
            simp only [both, coreBits, rangeFin, stepOf, hm, ← hsg, if_same, Bool.false_eq_true, if_false]

theorem rel_lt {r : Option Nat} {n : Int} {hi : Nat} (h : Rel r n) (hh : hi ≤ 62) (hn : n ≤ hi) : ∃ a : Nat, r = some a ∧ n = a := by
  rcases h with ⟨a, ha, he⟩ | ⟨_, he⟩
  · exact ⟨a, ha, by omega⟩
  · omega

theorem rel_nonneg {r : Option Nat} {n : Int} (h : Rel r n) : 0 ≤ n ∧ n ≤ 1099511627776 := by
  rcases h with ⟨a, ha, he⟩ | ⟨_, he⟩ <;> omega

/-- outside: the program refuses it, too -/
theorem core_out {lo hi : Nat} {low high : Int} {ra rb : Option Nat} {k : Nat} (hh : hi ≤ 62) (ha : Rel ra low) (hb : Rel rb high) (h : low < lo ∨ (hi : Int) < high ∨ high < low) : coreBits lo hi ra rb k = none := by
  unfold coreBits
  cases ra with
  | none => rfl
  | some a =>
    cases rb with
    | none => rfl
    | some b =>
      rcases ha with ⟨a', e1, e2⟩ | ⟨e1, _⟩
      · injection e1 with e1
        subst e1
        rcases hb with ⟨b', e3, e4⟩ | ⟨e3, _⟩
        · injection e3 with e3
          subst e3
          show bitsOf lo hi a b k false = none
          unfold bitsOf
          by_cases x1 : a < lo
          · rw [if_pos x1]
          · rw [if_neg x1]
            by_cases x2 : hi < b
            · rw [if_pos x2]
            · rw [if_neg x2]
              by_cases x3 : b < a
              · rw [if_pos x3]
              · omega
        · cases e3
      · cases e1

theorem core_in {lo hi : Nat} {low high : Int} {ra rb : Option Nat} {k : Nat} (hh : hi ≤ 62) (ha : Rel ra low) (hb : Rel rb high) (h1 : (lo : Int) ≤ low) (h2 : high ≤ hi) (h3 : low ≤ high) (hk : 1 ≤ k) :
    ∃ a b : Nat, low = a ∧ high = b ∧ a ≤ b ∧ b ≤ hi ∧ coreBits lo hi ra rb k = some (steps a b k ||| 0) := by
  obtain ⟨b, rfl, hb'⟩ := rel_lt hb hh h2
  obtain ⟨a, rfl, ha'⟩ := rel_lt ha hh (show low ≤ hi by omega)
  refine ⟨a, b, ha', hb', by omega, by omega, ?_⟩
  show bitsOf lo hi a b k false = _
  unfold bitsOf
  rw [if_neg (by omega), if_neg (by omega), if_neg (by omega), if_neg (by omega)]
  rfl

theorem star_in {lo hi k : Nat} {st : Bool} (h1 : lo ≤ hi) (hk : 1 ≤ k) : bitsOf lo hi lo hi k st = some (steps lo hi k ||| (if st then 9223372036854775808 else 0)) := by
  unfold bitsOf
  rw [if_neg (by omega), if_neg (by omega), if_neg (by omega), if_neg (by omega)]

/-- the set that the reference's loop makes -/
def stepSet (a b k : Nat) : Nat → Bool := fun j => decide (a ≤ j) && decide (j ≤ b) && ((j - a) % k == 0)

theorem stepSet_bits {a b k : Nat} (hb : b ≤ 62) : mkBits (stepSet a b k) 63 = steps a b k := by
  unfold steps
  apply eq_mkBits
  · exact Nat.lt_of_lt_of_le (mkBits_lt _ 63) (by decide)
  · intro j hj
    rw [mkBits_test]
    unfold stepSet
    by_cases h : j < 63
    · simp [h]
    · have : ¬ j ≤ b := by omega
      simp [this]

end Go.Proofs.YtikgnpachlgakaaDoor.Cron
