/- Lemmas and walks on the way to the law, merged by wip/tools/pack.py: SpecEnds, ItemMid, Sets. Conditions: none. -/
import Derived.Test.YtikgnpachlgakaaGreatDoorGrD
import Derived.Test.YtikgnpachlgakaaGreatDoorPrA
import Derived.Test.YtikgnpachlgakaaGreatDoorGrA
import Derived.Test.YtikgnpachlgakaaGreatDoorGrB
import Derived.Laws.Rows
import Derived.Laws.Tables
import Derived.Laws.ResultCell
import Derived.Laws.CopyOwn
import Derived.ChangeKeysEq
namespace Go.Proofs.YtikgnpachlgakaaGreatDoor.Cron
open Go Go.RowKit Go.Proofs.YtikgnpachlgakaaGreatDoorW.PrintWords Go.Proofs.YtikgnpachlgakaaGreatDoorW.PrintMore Go.Proofs.YtikgnpachlgakaaGreatDoor.Pr Go.Proofs.YtikgnpachlgakaaGreatDoor.Text
set_option linter.unusedVariables false

def both (ra rb : Option Nat) : Option (Nat × Nat × Bool) :=
  match ra, rb with
  | some a, some b => some (a, b, false)
  | _, _ => none

/-- what the reference's reading of an item's ends says of the program's -/
structure EndsIs (r : Option (Nat × Nat × Bool)) (lo hi : Nat) (low high : Int) (star single : Bool) (v : Int) : Prop where
  vs : v = 0 ∨ v = 1 ∨ v = 2
  bad : v = 0 → r = none
  fine : v = 1 → (star = true ∧ low = lo ∧ high = hi ∧ r = some (lo, hi, true)) ∨ (star = false ∧ ∃ ra rb, Rel ra low ∧ Rel rb high ∧ (single = true → ra = rb) ∧ r = both ra rb)

theorem worse_f (a b : Int) (ha : a = 0 ∨ a = 1 ∨ a = 2) (hb : b = 0 ∨ b = 1 ∨ b = 2) : ∃ v, spec_worse.f a b = some v ∧ (v = 0 ∨ v = 1 ∨ v = 2) ∧ (v = 0 → a = 0 ∨ b = 0) ∧ (v = 1 → a = 1 ∧ b = 1) ∧ (a = 0 ∨ b = 0 → v = 0) ∧ (a = 1 ∧ b = 1 → v = 1) := by
  unfold spec_worse.f mx
  rcases ha with rfl | rfl | rfl <;> rcases hb with rfl | rfl | rfl <;> simp

/-- what a reading of a value, a number or a name, says -/
structure ValSays (r : Option Nat) (n v : Int) : Prop where
  lo : 0 ≤ n
  hi : n ≤ 1099511627776
  vs : v = 0 ∨ v = 1 ∨ v = 2
  fine : v = 1 → Rel r n
  bad : v = 0 → r = none ∧ n = 0

theorem ValIs.says {r : Option Nat} {n v : Int} (h : ValIs r n v) : ValSays r n v := ⟨h.lo, h.hi, h.vs, h.fine, h.bad⟩

def ReadsLike (val : List UInt8 → Option Nat) (kind : Int) : Prop :=
  ∀ s : ByteArray, s.size ≤ 4294967296 → ∃ k n v, spec_CronValue.f k kind s = some (n, v) ∧ ValSays (val s.data.toList) n v

theorem value_plain {kind : Int} (h4 : kind ≠ 4) (h5 : kind ≠ 5) : ReadsLike mp kind := by
  intro s hs
  obtain ⟨k, n, v, hk, hv⟩ := number_is s hs
  refine ⟨k + 2, n, v, ?_, hv.says⟩
  unfold spec_CronValue.f
  rw [if_neg h4]
  simp only [spec_CronValue.j0, spec_CronValue.j2]
  have : (kind == 5) = false := by simpa using h5
  rw [this]
  simp only [Bool.false_eq_true, if_false]
  rw [hk]
  rfl

theorem rdOf_zero {x : ByteArray} {l : List ByteArray} : rdOf ByteArray.empty (x :: l) 0 = x := rfl
theorem rdOf_one {x y : ByteArray} {l : List ByteArray} : rdOf ByteArray.empty (x :: y :: l) 1 = y := rfl

theorem ends_is (val : List UInt8 → Option Nat) (kind : Int) (HV : ReadsLike val kind) (lo hi : Nat) (p : ByteArray) (hp : p.size ≤ 4294967296) :
    ∃ k low high star single v, spec_cronEnds.f k lo hi kind p = some (low, high, star, single, v) ∧ single = ((splitL 45 p.data.toList).length == 1) ∧ EndsIs (ends val lo hi (splitL 45 p.data.toList)) lo hi low high star single v := by
  obtain ⟨K, hK⟩ := pieces_f 45 p (by omega)
  obtain ⟨q, qs, hqs⟩ : ∃ q qs, splitL 45 p.data.toList = q :: qs := by
    cases h : splitL 45 p.data.toList with
    | nil => exact absurd h (splitL_ne _ _)
    | cons q qs => exact ⟨q, qs, rfl⟩
  have hq : splitB 45 p = ba q :: qs.map ba := by rw [splitB, hqs]; rfl
  have hsz : ∀ x ∈ splitL 45 p.data.toList, (ba x).size ≤ 4294967296 := by
    intro x hx
    have := splitL_size 45 _ x hx
    rw [← size_list] at this
    rw [ba_size]
    omega
  rw [hq] at hK
  have hlen : (((ba q :: qs.map ba).length : Nat) : Int) = (qs.length : Int) + 1 := by simp
  have hsg : ((((ba q :: qs.map ba).length : Nat) : Int) == 1) = ((splitL 45 p.data.toList).length == 1) := by
    rw [hlen, hqs]
    cases qs with
    | nil => rfl
    | cons a t => simp; omega
  by_cases hst : q = [42] ∨ q = [63]
  · -- a star
    have hends := ends_star (val := val) (lo := lo) (hi := hi) qs hst
    have key : ∀ k, K + 2 ≤ k → ∃ v : Int, (v = 1 ∨ v = 2) ∧ spec_cronEnds.f k lo hi kind p = some ((lo : Int), (hi : Int), true, (splitL 45 p.data.toList).length == 1, v) := by
      intro k hk
      have hk' := hK k (by omega)
      obtain ⟨k, rfl⟩ : ∃ m, k = m + 1 := ⟨k - 1, by omega⟩
      unfold spec_cronEnds.f
      have hk2 : spec_cronPieces.f (k + 1) p 45 = some (ba q :: qs.map ba) := hk'
      rw [hk2]
      simp only [Option.bind_some]
      rw [if_pos (by simp)]
      have hj : ∀ b, b = true → ∃ v : Int, (v = 1 ∨ v = 2) ∧ spec_cronEnds.j0 (k + 1) (ba q :: qs.map ba) b lo hi kind = some ((lo : Int), (hi : Int), true, (splitL 45 p.data.toList).length == 1, v) := by
        rintro _ rfl
        simp only [spec_cronEnds.j0, if_true, hsg]
        split
        · exact ⟨2, .inr rfl, rfl⟩
        · rw [if_pos (by simp)]
          split
          · split
            · exact ⟨1, .inl rfl, rfl⟩
            · split
              · exact ⟨1, .inl rfl, rfl⟩
              · exact ⟨2, .inr rfl, rfl⟩
          · exact ⟨1, .inl rfl, rfl⟩
      by_cases h42 : (rdOf ByteArray.empty (ba q :: qs.map ba) 0).toList = ([42] : List UInt8)
      · rw [if_pos h42]
        exact hj true rfl
      · rw [if_neg h42]
        refine hj _ ?_
        rcases hst with h | h
        · exact absurd (by rw [rdOf_zero, toList_data, ba_list, h]) h42
        · rw [rdOf_zero, toList_data, ba_list, h]; rfl
    obtain ⟨v, hv, hf⟩ := key (K + 2) (Nat.le_refl _)
    refine ⟨K + 2, lo, hi, true, _, v, hf, rfl, ?_⟩
    rw [hqs, hends]
    exact ⟨by omega, fun h => by omega, fun _ => .inl ⟨rfl, rfl, rfl, rfl⟩⟩
  · have hends := ends_else (val := val) (lo := lo) (hi := hi) qs hst
    have hn42 : ∀ l, ¬ (rdOf ByteArray.empty (ba q :: l) 0).toList = ([42] : List UInt8) := fun l h => hst (.inl (by rw [rdOf_zero, toList_data, ba_list] at h; exact h))
    have hn63 : ∀ l, ((rdOf ByteArray.empty (ba q :: l) 0).toList == ([63] : List UInt8)) = false := fun l => eq63_false (fun h => hst (.inr h))
    obtain ⟨k1, n1, v1, hk1, hv1⟩ := HV (ba q) (hsz q (by rw [hqs]; simp))
    rw [ba_list] at hv1
    have hmono1 : ∀ k, k1 ≤ k → spec_CronValue.f k kind (ba q) = some (n1, v1) := fun k hk => at_rounds (fun k => spec_CronValue.mono kind (ba q) k) hk hk1
    rw [hqs, hends]
    cases qs with
    | nil =>
      have key : ∀ k, K + k1 + 2 ≤ k → spec_cronEnds.f k lo hi kind p = some (n1, n1, false, true, v1) := by
        intro k hk
        have hk2 : spec_cronPieces.f k p 45 = some [ba q] := hK k (by omega)
        unfold spec_cronEnds.f
        rw [hk2]
        simp only [Option.bind_some]
        rw [if_pos (by simp), if_neg (hn42 _), hn63]
        obtain ⟨k, rfl⟩ : ∃ m, k = m + 1 := ⟨k - 1, by omega⟩
        simp only [spec_cronEnds.j0, Bool.false_eq_true, if_false, rdOf_zero]
        rw [if_pos (by simp), hmono1 k (by omega)]
        simp
      refine ⟨_, n1, n1, false, true, v1, key _ (Nat.le_refl _), rfl, ⟨hv1.vs, fun h => ?_, fun h => .inr ⟨rfl, val q, val q, hv1.fine h, hv1.fine h, fun _ => rfl, ?_⟩⟩⟩
      · rw [(hv1.bad h).1]; rfl
      · cases val q <;> rfl
    | cons e2 qs =>
      cases qs with
      | nil =>
        obtain ⟨k2, n2, v2, hk2, hv2⟩ := HV (ba e2) (hsz e2 (by rw [hqs]; simp))
        rw [ba_list] at hv2
        have hmono2 : ∀ k, k2 ≤ k → spec_CronValue.f k kind (ba e2) = some (n2, v2) := fun k hk => at_rounds (fun k => spec_CronValue.mono kind (ba e2) k) hk hk2
        obtain ⟨v, hw, hvs, h0, h1, _, _⟩ := worse_f v1 v2 hv1.vs hv2.vs
        have key : ∀ k, K + k1 + k2 + 2 ≤ k → spec_cronEnds.f k lo hi kind p = some (n1, n2, false, false, v) := by
          intro k hk
          have hk2 : spec_cronPieces.f k p 45 = some [ba q, ba e2] := hK k (by omega)
          unfold spec_cronEnds.f
          rw [hk2]
          simp only [Option.bind_some]
          rw [if_pos (by simp), if_neg (hn42 _), hn63]
          obtain ⟨k, rfl⟩ : ∃ m, k = m + 1 := ⟨k - 1, by omega⟩
          simp only [spec_cronEnds.j0, Bool.false_eq_true, if_false, rdOf_zero, rdOf_one]
          rw [if_pos (by simp), hmono1 k (by omega)]
          simp only [Option.bind_some]
          rw [if_neg (by simp), if_pos (by simp), if_pos (by simp), hmono2 k (by omega)]
          simp only [Option.bind_some]
          rw [hw]
          rfl
        refine ⟨_, n1, n2, false, false, v, key _ (Nat.le_refl _), rfl, ⟨hvs, fun h => ?_, fun h => .inr ⟨rfl, val q, val e2, hv1.fine (h1 h).1, hv2.fine (h1 h).2, (fun e => by cases e), ?_⟩⟩⟩
        · rcases h0 h with h | h
          · rw [(hv1.bad h).1]; rfl
          · cases hq' : val q with
            | none => rfl
            | some a => simp only [endsRest, (hv2.bad h).1]
        · cases val q <;> simp only [endsRest, both]
          cases val e2 <;> rfl
      | cons e3 qs =>
        have key : ∀ k, K + k1 + 2 ≤ k → spec_cronEnds.f k lo hi kind p = some (0, 0, false, false, 0) := by
          intro k hk
          have hk2 : spec_cronPieces.f k p 45 = some (ba q :: ba e2 :: ba e3 :: qs.map ba) := hK k (by omega)
          unfold spec_cronEnds.f
          rw [hk2]
          simp only [Option.bind_some]
          rw [if_pos (by simp; omega), if_neg (hn42 _), hn63]
          obtain ⟨k, rfl⟩ : ∃ m, k = m + 1 := ⟨k - 1, by omega⟩
          simp only [spec_cronEnds.j0, Bool.false_eq_true, if_false, rdOf_zero]
          rw [if_pos (by simp; omega), hmono1 k (by omega)]
          simp only [Option.bind_some]
          rw [if_neg (by simp; omega), if_neg (by simp; omega)]
        refine ⟨_, 0, 0, false, false, 0, key _ (Nat.le_refl _), by simp, ⟨.inl rfl, fun _ => ?_, fun h => by omega⟩⟩
        cases val q <;> rfl

end Go.Proofs.YtikgnpachlgakaaGreatDoor.Cron

namespace Go.Proofs.YtikgnpachlgakaaGreatDoor.Cron
open Go Go.Proofs.YtikgnpachlgakaaGreatDoor.Text Go.Proofs.YtikgnpachlgakaaGreatDoor.Bits
set_option linter.unusedVariables false

/-- with the ends' readings known: the bits -/
def coreBits (lo hi : Nat) (ra rb : Option Nat) (step : Nat) : Option Nat :=
  match ra, rb with
  | some a, some b => bitsOf lo hi a b step false
  | _, _ => none

/-- what is known when the step has been read -/
structure Mid (r : Option Nat) (lo hi : Nat) (low high : Int) (star : Bool) (step v : Int) : Prop where
  vs : v = 0 ∨ v = 1 ∨ v = 2
  bad : v = 0 → r = none
  fine : v = 1 → ∃ k : Nat, step = k ∧ 1 ≤ k ∧ k < 1099511627776 ∧
    ((star = true ∧ low = lo ∧ high = hi ∧ r = bitsOf lo hi lo hi k (if 1 < k then false else true)) ∨
     (star = false ∧ ∃ ra rb, Rel ra low ∧ Rel rb high ∧ r = coreBits lo hi ra rb k))

theorem rangeS_eq {val : List UInt8 → Option Nat} {lo hi : Nat} {s p : List UInt8} {ps : List (List UInt8)} (h1 : splitL 47 s = p :: ps) :
    rangeS val lo hi s = match ends val lo hi (splitL 45 p) with | none => none | some (a, b, st) => rangeFin lo hi ((splitL 45 p).length == 1) a b st ps := by
  unfold rangeS
  rw [h1]
  rfl

theorem if_same (c : Prop) [Decidable c] (x : Bool) : (if c then x else x) = x := by split <;> rfl

theorem rangeS_many {val : List UInt8 → Option Nat} {lo hi : Nat} {s p t t2 : List UInt8} {ps : List (List UInt8)} (h1 : splitL 47 s = p :: t :: t2 :: ps) : rangeS val lo hi s = none := by
  rw [rangeS_eq h1]
  cases ends val lo hi (splitL 45 p) with
  | none => rfl
  | some x => obtain ⟨a, b, st⟩ := x; rfl

theorem mid_one {val : List UInt8 → Option Nat} {lo hi : Nat} {s p : List UInt8} {low high v : Int} {star single : Bool} (h1 : splitL 47 s = [p])
    (he : EndsIs (ends val lo hi (splitL 45 p)) lo hi low high star single v) : Mid (rangeS val lo hi s) lo hi low high star 1 v := by
  refine ⟨he.vs, fun h => ?_, fun h => ⟨1, rfl, by omega, by omega, ?_⟩⟩
  · rw [rangeS_eq h1, he.bad h]
  · rw [rangeS_eq h1]
    rcases he.fine h with ⟨hs, hl, hh, hr⟩ | ⟨hs, ra, rb, ha, hb, _, hr⟩
    · left
      refine ⟨hs, hl, hh, ?_⟩
      rw [hr]
      simp only [rangeFin, stepOf]
      rfl
    · right
      refine ⟨hs, ra, rb, ha, hb, ?_⟩
      rw [hr]
      cases ra <;> cases rb <;> rfl

theorem bitsOf_zero (lo hi a b : Nat) (st : Bool) : bitsOf lo hi a b 0 st = none := by
  unfold bitsOf
  split
  · rfl
  · split
    · rfl
    · split
      · rfl
      · rfl

theorem mid_two {val : List UInt8 → Option Nat} {lo hi : Nat} {s p t : List UInt8} {low high v n v2 v3 : Int} {star single : Bool} (h2 : hi ≤ 62) (h1 : splitL 47 s = [p, t])
    (hsg : single = ((splitL 45 p).length == 1))
    (he : EndsIs (ends val lo hi (splitL 45 p)) lo hi low high star single v)
    (hvs2 : v2 = 0 ∨ v2 = 1 ∨ v2 = 2)
    (hf2 : v2 = 1 → ∃ m : Nat, mp t = some m ∧ n = m ∧ 1 ≤ m ∧ m < 1099511627776) (hb2 : v2 = 0 → mp t = none ∨ mp t = some 0)
    (hvs : v3 = 0 ∨ v3 = 1 ∨ v3 = 2) (hw0 : v3 = 0 → v = 0 ∨ v2 = 0) (hw1 : v3 = 1 → v = 1 ∧ v2 = 1) :
    Mid (rangeS val lo hi s) lo hi low (if single && !star then (hi : Int) else high) star n v3 := by
  refine ⟨hvs, fun h => ?_, fun h => ?_⟩
  · rw [rangeS_eq h1]
    rcases hw0 h with h | h
    · rw [he.bad h]
    · cases hr : ends val lo hi (splitL 45 p) with
      | none => rfl
      | some x =>
        obtain ⟨a, b, st⟩ := x
        simp only [rangeFin, stepOf]
        rcases hb2 h with e | e
        · rw [e]
        · rw [e]; exact bitsOf_zero _ _ _ _ _
  · obtain ⟨hv, hv2⟩ := hw1 h
    obtain ⟨m, hm, hn, hm1, hm2⟩ := hf2 hv2
    refine ⟨m, hn, hm1, hm2, ?_⟩
    rw [rangeS_eq h1]
    rcases he.fine hv with ⟨hs, hl, hh, hr⟩ | ⟨hs, ra, rb, ha, hb, hab, hr⟩
    · left
      subst hs
      refine ⟨rfl, hl, by simpa using hh, ?_⟩
      rw [hr]
      simp only [rangeFin, stepOf, hm]
      split <;> rfl
    · right
      subst hs
      refine ⟨rfl, ?_⟩
      rw [hr]
      cases single with
      | true =>
        obtain rfl := hab rfl
        refine ⟨ra, some hi, ha, .inl ⟨hi, rfl, by simp only [Bool.not_false, Bool.and_true, if_true]; omega⟩, ?_⟩
        cases ra with
        | none => rfl
        | some a =>
          simp only [both, coreBits, rangeFin, stepOf, hm, ← hsg, if_true]
          rw [if_same]
      | false =>
        refine ⟨ra, rb, ha, by simpa using hb, ?_⟩
        cases ra with
        | none => rfl
        | some a =>
          cases rb with
          | none => rfl
          | some b =>
            simp only [both, coreBits, rangeFin, stepOf, hm, ← hsg, if_same, Bool.false_eq_true, if_false]

theorem rel_lt {r : Option Nat} {n : Int} {hi : Nat} (h : Rel r n) (hh : hi ≤ 62) (hn : n ≤ hi) : ∃ a : Nat, r = some a ∧ n = a := by
  rcases h with ⟨a, ha, he⟩ | ⟨_, he⟩
  · exact ⟨a, ha, by omega⟩
  · omega

theorem rel_nonneg {r : Option Nat} {n : Int} (h : Rel r n) : 0 ≤ n ∧ n ≤ 1099511627776 := by
  rcases h with ⟨a, ha, he⟩ | ⟨_, he⟩ <;> omega

/-- outside: the program refuses it, too -/
theorem core_out {lo hi : Nat} {low high : Int} {ra rb : Option Nat} {k : Nat} (hh : hi ≤ 62) (ha : Rel ra low) (hb : Rel rb high) (h : low < lo ∨ (hi : Int) < high ∨ high < low) : coreBits lo hi ra rb k = none := by
  unfold coreBits
  cases ra with
  | none => rfl
  | some a =>
    cases rb with
    | none => rfl
    | some b =>
      rcases ha with ⟨a', e1, e2⟩ | ⟨e1, _⟩
      · injection e1 with e1
        subst e1
        rcases hb with ⟨b', e3, e4⟩ | ⟨e3, _⟩
        · injection e3 with e3
          subst e3
          show bitsOf lo hi a b k false = none
          unfold bitsOf
          by_cases x1 : a < lo
          · rw [if_pos x1]
          · rw [if_neg x1]
            by_cases x2 : hi < b
            · rw [if_pos x2]
            · rw [if_neg x2]
              by_cases x3 : b < a
              · rw [if_pos x3]
              · omega
        · cases e3
      · cases e1

theorem core_in {lo hi : Nat} {low high : Int} {ra rb : Option Nat} {k : Nat} (hh : hi ≤ 62) (ha : Rel ra low) (hb : Rel rb high) (h1 : (lo : Int) ≤ low) (h2 : high ≤ hi) (h3 : low ≤ high) (hk : 1 ≤ k) :
    ∃ a b : Nat, low = a ∧ high = b ∧ a ≤ b ∧ b ≤ hi ∧ coreBits lo hi ra rb k = some (steps a b k ||| 0) := by
  obtain ⟨b, rfl, hb'⟩ := rel_lt hb hh h2
  obtain ⟨a, rfl, ha'⟩ := rel_lt ha hh (show low ≤ hi by omega)
  refine ⟨a, b, ha', hb', by omega, by omega, ?_⟩
  show bitsOf lo hi a b k false = _
  unfold bitsOf
  rw [if_neg (by omega), if_neg (by omega), if_neg (by omega), if_neg (by omega)]
  rfl

theorem star_in {lo hi k : Nat} {st : Bool} (h1 : lo ≤ hi) (hk : 1 ≤ k) : bitsOf lo hi lo hi k st = some (steps lo hi k ||| (if st then 9223372036854775808 else 0)) := by
  unfold bitsOf
  rw [if_neg (by omega), if_neg (by omega), if_neg (by omega), if_neg (by omega)]

/-- the set that the reference's loop makes -/
def stepSet (a b k : Nat) : Nat → Bool := fun j => decide (a ≤ j) && decide (j ≤ b) && ((j - a) % k == 0)

theorem stepSet_bits {a b k : Nat} (hb : b ≤ 62) : mkBits (stepSet a b k) 63 = steps a b k := by
  unfold steps
  apply eq_mkBits
  · exact Nat.lt_of_lt_of_le (mkBits_lt _ 63) (by decide)
  · intro j hj
    rw [mkBits_test]
    unfold stepSet
    by_cases h : j < 63
    · simp [h]
    · have : ¬ j ≤ b := by omega
      simp [this]

end Go.Proofs.YtikgnpachlgakaaGreatDoor.Cron

namespace Go.Proofs.YtikgnpachlgakaaGreatDoor.Cron
open Go Go.RowKit Go.Proofs.YtikgnpachlgakaaGreatDoor.Bits
set_option linter.unusedVariables false

/-- the cells of a set -/
def setCells (star : Bool) (p : Nat → Bool) : Array Value := #[.bool star] ++ ((Array.range 63).map fun j => .bool (p j))

theorem setCells_size (star : Bool) (p : Nat → Bool) : (setCells star p).size = 64 := by simp [setCells]

theorem setCells_zero (star : Bool) (p : Nat → Bool) : (setCells star p)[0]? = some (.bool star) := by
  unfold setCells
  rw [Array.getElem?_append_left (by simp)]
  simp

theorem setCells_at (star : Bool) (p : Nat → Bool) (j : Nat) (h : j < 63) : (setCells star p)[j + 1]? = some (.bool (p j)) := by
  unfold setCells
  rw [Array.getElem?_append_right (by simp)]
  simp [h]

theorem setCells_out (star : Bool) (p : Nat → Bool) (j : Nat) (h : 64 ≤ j) : (setCells star p)[j]? = none := by
  rw [Array.getElem?_eq_none]
  rw [setCells_size]; exact h

theorem setCells_one (star : Bool) (p : Nat → Bool) : (setCells star p).all (·.oneCell') = true := by
  rw [Array.all_eq_true_iff_forall_mem]
  intro v hv
  unfold setCells at hv
  rw [Array.mem_append] at hv
  rcases hv with hv | hv
  · simp at hv; subst hv; rfl
  · rw [Array.mem_map] at hv
    obtain ⟨j, _, rfl⟩ := hv
    rfl

theorem setCells_star (star b : Bool) (p : Nat → Bool) : (setCells star p).setIfInBounds 0 (.bool b) = setCells b p := by
  apply Array.ext_getElem?
  intro i
  rw [Array.getElem?_setIfInBounds]
  cases i with
  | zero => rw [if_pos rfl, if_pos (by rw [setCells_size]; decide), setCells_zero]
  | succ i =>
    rw [if_neg (by omega)]
    by_cases h : i < 63
    · rw [setCells_at _ _ _ h, setCells_at _ _ _ h]
    · rw [setCells_out _ _ _ (by omega), setCells_out _ _ _ (by omega)]

theorem setCells_put (star b : Bool) (p : Nat → Bool) (j : Nat) (hj : j < 63) : (setCells star p).setIfInBounds (j + 1) (.bool b) = setCells star (fun i => if i = j then b else p i) := by
  apply Array.ext_getElem?
  intro i
  rw [Array.getElem?_setIfInBounds]
  cases i with
  | zero => rw [if_neg (by omega), setCells_zero, setCells_zero]
  | succ i =>
    by_cases h : i < 63
    · rw [setCells_at _ _ _ h, setCells_at _ _ _ h]
      by_cases e : i = j
      · subst e
        rw [if_pos rfl, if_pos (by rw [setCells_size]; omega), if_pos rfl]
      · rw [if_neg (by omega), if_neg e]
    · rw [setCells_out _ _ _ (by omega), setCells_out _ _ _ (by omega), if_neg (by omega)]

theorem setCells_ext {star : Bool} {p q : Nat → Bool} (h : ∀ j, j < 63 → p j = q j) : setCells star p = setCells star q := by
  apply Array.ext_getElem?
  intro i
  cases i with
  | zero => rw [setCells_zero, setCells_zero]
  | succ i =>
    by_cases hi : i < 63
    · rw [setCells_at _ _ _ hi, setCells_at _ _ _ hi, h i hi]
    · rw [setCells_out _ _ _ (by omega), setCells_out _ _ _ (by omega)]

def noSet : Nat → Bool := fun _ => false

/-- the block of a set -/
def IsSet (w : World) (g : Nat) (star : Bool) (p : Nat → Bool) : Prop := w.heap[g]? = some (.cells (setCells star p) 53 (0, 0))

theorem IsSet.lt {w : World} {g : Nat} {star : Bool} {p : Nat → Bool} (h : IsSet w g star p) : g < w.heap.size := (Array.getElem?_eq_some_iff.1 h).1

theorem IsSet.below {w w' : World} {g : Nat} {star : Bool} {p : Nat → Bool} (h : IsSet w g star p) (hb : Below w.heap.size w w') : IsSet w' g star p :=
  (hb.block g h.lt).trans h

theorem IsSet.cell0 {w : World} {g : Nat} {star : Bool} {p : Nat → Bool} (h : IsSet w g star p) : w.cell? ⟨g, 0, none⟩ = some (.bool star) :=
  (cell_of_row w g 0 _ _ _ h).trans (setCells_zero star p)

theorem IsSet.cellAt {w : World} {g : Nat} {star : Bool} {p : Nat → Bool} (h : IsSet w g star p) (j : Nat) (hj : j < 63) : w.cell? ⟨g, j + 1, none⟩ = some (.bool (p j)) :=
  (cell_of_row w g (j + 1) _ _ _ h).trans (setCells_at star p j hj)

theorem IsSet.free {w : World} {g : Nat} {star : Bool} {p : Nat → Bool} (h : IsSet w g star p) (j : Nat) : w.frozen? ⟨g, j, none⟩ = false :=
  frozen_of_row w g j _ _ h

theorem IsSet.put {w : World} {g : Nat} {star : Bool} {p : Nat → Bool} (h : IsSet w g star p) (j : Nat) (hj : j < 63) (b : Bool) : IsSet (w.setCell ⟨g, j + 1, none⟩ (.bool b)) g star (fun i => if i = j then b else p i) := by
  unfold IsSet
  rw [heap_setCell_same w g (j + 1) _ _ _ h, setCells_put star b p j hj]

theorem IsSet.putStar {w : World} {g : Nat} {star : Bool} {p : Nat → Bool} (h : IsSet w g star p) (b : Bool) : IsSet (w.setCell ⟨g, 0, none⟩ (.bool b)) g b p := by
  unfold IsSet
  rw [heap_setCell_same w g 0 _ _ _ h, setCells_star]

theorem IsSet.other {w : World} {g : Nat} {star : Bool} {p : Nat → Bool} (h : IsSet w g star p) {a : Addr} (ha : g ≠ a.block) (v : Value) : IsSet (w.setCell a v) g star p := by
  unfold IsSet
  rw [heap_setCell_other w a g v ha]
  exact h

theorem isSet_new (w : World) (star : Bool) (p : Nat → Bool) : IsSet (w.alloc (.cells (setCells star p) 53 (0, 0))) w.heap.size star p :=
  heap_alloc_new w _

theorem setSize : (Tryz.prog.info? 53).map (·.size) = some 64 := by kernel_rfl

theorem zero_set : setCells false noSet = (setCells false noSet) := rfl

theorem run_alloc_set (w : World) : (Instr.alloc 53 true (.tuple #[])).run Tryz.prog w = .ok (.pointer (some ⟨w.heap.size, 0, none⟩)) (w.alloc (.cells (setCells false noSet) 53 (0, 0))) := by kernel_rfl

theorem built_set : (Tryz.prog.built 53 []) = some (setCells false noSet) := by kernel_rfl

theorem IsSet.store {w : World} {g : Nat} {star : Bool} {p : Nat → Bool} (h : IsSet w g star p) (st : Bool) (q : Nat → Bool) : IsSet (w.setRow g (setCells st q)) g st q :=
  setRow_heap w g _ _ _ _ h

theorem IsSet.row_other {w : World} {g k : Nat} {star : Bool} {p : Nat → Bool} (h : IsSet w g star p) (hk : g ≠ k) (cs : Array Value) : IsSet (w.setRow k cs) g star p :=
  (setRow_other w k g cs hk).trans h

section
variable {ops : Array Oper} {rest : List Oper} {o : Oper} {a : Act} {w : World} {Q : Exit → Act → World → Prop}

theorem wpList_build_set (hg : o.guard = none) (ho : o.op = .build 53 #[])
    (h : wpList Tryz.prog ops Q rest (a.put o.dst (.agg (setCells false noSet))) w) : wpList Tryz.prog ops Q (o :: rest) a w := by
  have e : ((#[] : Array (Nat × Operand)).map fun (i, x) => (i, a.eval x)).toList = [] := by simp
  refine wpList_build hg 53 #[] ho (by rw [e, built_set]; exact Option.isSome_some) ?_
  rw [e, built_set, Option.getD_some]
  exact h

theorem wpList_store_set (hg : o.guard = none) (x y : Operand) (ho : o.op = .store 53 x y) (g : Nat) (st : Bool) (q : Nat → Bool)
    (hx : a.eval x = .pointer (some ⟨g, 0, none⟩)) (hy : a.eval y = .agg (setCells st q)) (st0 : Bool) (q0 : Nat → Bool) (hs : IsSet w g st0 q0)
    (h : wpList Tryz.prog ops Q rest (a.put o.dst undef) (w.setRow g (setCells st q))) : wpList Tryz.prog ops Q (o :: rest) a w :=
  wpList_store_row hg 53 x y ho g _ hx hy _ _ hs (by rw [setSize, setCells_size]) (by rw [setCells_size, setCells_size]) (setCells_one st q) h

theorem wpList_load_set (hg : o.guard = none) (x : Operand) (ho : o.op = .load 53 x) (g : Nat) (st : Bool) (q : Nat → Bool)
    (hx : a.eval x = .pointer (some ⟨g, 0, none⟩)) (hs : IsSet w g st q)
    (h : wpList Tryz.prog ops Q rest (a.put o.dst (.agg (setCells st q))) w) : wpList Tryz.prog ops Q (o :: rest) a w := by
  exact wpList_load_row hg 53 x ho g hx _ _ _ _ hs Tryz.underlying53 rfl (by rw [setSize, setCells_size]) h
end

theorem run_load_set (w : World) (g : Nat) (st : Bool) (q : Nat → Bool) (hs : IsSet w g st q) : (loadVar 53 ⟨g, 0, none⟩).run Tryz.prog w = .ok (.agg (setCells st q)) w := by
  exact run_loadVar_row w g _ _ _ _ _ hs Tryz.underlying53 rfl (by rw [setSize, setCells_size])

theorem results_set {fn : Func} {p u : Tmp} (h : fn.results = #[.cell p 53, .tmp u]) (tmps : Array Value) (w : World) (g : Nat) (st : Bool) (q : Nat → Bool)
    (hp : tmps.getD p undef = .pointer (some ⟨g, 0, none⟩)) (hs : IsSet w g st q) :
    (results fn tmps).run Tryz.prog w = .ok (.tuple #[.agg (setCells st q), tmps.getD u undef]) w := by
  rw [results_cell_tmp h, hp]
  simp only [asAddr, Sem.run_pure, Result.andThen_ok, run_load_set w g st q hs]

/-- the cells of the values alone -/
def inCells (p : Nat → Bool) : Array Value := (Array.range 63).map fun j => .bool (p j)

theorem inCells_size (p : Nat → Bool) : (inCells p).size = 63 := by simp [inCells]
theorem inCells_at (p : Nat → Bool) (j : Nat) (h : j < 63) : (inCells p)[j]? = some (.bool (p j)) := by simp [inCells, h]

theorem sizeIn : (Tryz.prog.info? 51).map (·.size) = some 63 := by kernel_rfl
theorem sizeBool : (Tryz.prog.info? 4).map (·.size) = some 1 := by kernel_rfl

theorem run_load_in (w : World) (g : Nat) (st : Bool) (q : Nat → Bool) (hs : IsSet w g st q) : (loadVar 51 ⟨g, 1, none⟩).run Tryz.prog w = .ok (.agg (inCells q)) w := by
  have hl : (loadCells ⟨g, 1, none⟩ (inCells q).toList.length).run Tryz.prog w = .ok (inCells q).toList.toArray w :=
    run_loadCells_list (P := Tryz.prog) w ⟨g, 1, none⟩ (inCells q).toList (fun j v hv => by
      have hj : j < 63 := by
        have := (List.getElem?_eq_some_iff.1 hv).1
        rw [Array.length_toList, inCells_size] at this
        exact this
      have hadd : (⟨g, 1, none⟩ : Addr).add j = ⟨g, j + 1, none⟩ := by
        unfold Addr.add
        split
        · rename_i h; subst h; rfl
        · simp; omega
      rw [hadd, hs.cellAt j hj]
      have := inCells_at q j hj
      rw [← Array.getElem?_toList] at this
      rw [← this, hv])
  rw [Array.length_toList, inCells_size] at hl
  cases hq : Tryz.prog.info? 51 with
  | none => have := sizeIn; simp [hq] at this
  | some i =>
    have hsz : i.size = 63 := by have := sizeIn; simpa [hq] using this
    have hagg : (isAgg 51).run Tryz.prog w = .ok true w := by
      unfold isAgg
      rw [Sem.run_bind, run_underlying Tryz.underlying51 w]
      rfl
    simp only [Array.toArray_toList] at hl
    simp [loadVar, Sem.run_bind, hagg, sizeOf, typeInfo, hq, hsz, hl]

theorem run_index_in (q : Nat → Bool) (n : Nat) (h : n < 63) (w : World) : (Instr.index 51 (.agg (inCells q)) (.int .i64 n)).run Tryz.prog w = .ok (.bool (q n)) w := by
  cases hq : Tryz.prog.info? 4 with
  | none => have := sizeBool; simp [hq] at this
  | some i =>
    have hsz : i.size = 1 := by have := sizeBool; simpa [hq] using this
    have hp := run_part_plain (P := Tryz.prog) (e := 4) (by kernel_rfl) (w := w) (inCells_at q n h)
    have hlt : (n : Int) < 63 := by omega
    simp [Instr.index, run_underlying Tryz.underlying51, asIntOf, sizeOf, typeInfo, hq, hsz, hp, Sem.run_bind]
    intro h'
    omega

section
variable {ops : Array Oper} {rest : List Oper} {o : Oper} {a : Act} {w : World} {Q : Exit → Act → World → Prop}
theorem wpList_load_in (hgd : o.guard = none) (x : Operand) (ho : o.op = .load 51 x) (g : Nat) (st : Bool) (q : Nat → Bool)
    (hx : a.eval x = .pointer (some ⟨g, 1, none⟩)) (hs : IsSet w g st q)
    (h : wpList Tryz.prog ops Q rest (a.put o.dst (.agg (inCells q))) w) : wpList Tryz.prog ops Q (o :: rest) a w := by
  refine wpList_plain hgd fun K hK => ?_
  unfold Oper.wp execOp
  simp only [ho, hx, Instr.loadAt, Instr.sureAddr, Sem.run_bind, Sem.run_pure, Result.andThen_ok, run_load_in w g st q hs]
  exact hK _ _ h
end

theorem run_box_set (st : Bool) (p : Nat → Bool) (w : World) : (Instr.box 53 (.agg (setCells st p))).run Tryz.prog w = .ok (.pointer (some ⟨w.heap.size, 0, none⟩)) (w.alloc (.cells (setCells st p) 53 (0, 0))) := by
  rfl

section
variable {ops : Array Oper} {rest : List Oper} {o : Oper} {a : Act} {w : World} {Q : Exit → Act → World → Prop}
/-- the same for an operation that is guarded, and carried out -/
theorem wpList_load_set' (hw : Region.wanted o (yielded ops a.tmps) = true) (x : Operand) (ho : o.op = .load 53 x) (g : Nat) (st : Bool) (q : Nat → Bool)
    (hx : a.eval x = .pointer (some ⟨g, 0, none⟩)) (hs : IsSet w g st q)
    (h : wpList Tryz.prog ops Q rest (a.put o.dst (.agg (setCells st q))) w) : wpList Tryz.prog ops Q (o :: rest) a w := by
  refine wpList_step fun K hK => ?_
  rw [if_pos hw]
  exact wp_load_row 53 x ho g hx _ _ _ _ hs Tryz.underlying53 rfl (by rw [setSize, setCells_size]) (hK _ _ h)
end

theorem isSet_lit (w : World) : IsSet (w.alloc (.cells #[.bool false, .bool false, .bool false, .bool false, .bool false, .bool false, .bool false, .bool false, .bool false, .bool false, .bool false, .bool false, .bool false, .bool false, .bool false, .bool false, .bool false, .bool false, .bool false, .bool false, .bool false, .bool false, .bool false, .bool false, .bool false, .bool false, .bool false, .bool false, .bool false, .bool false, .bool false, .bool false, .bool false, .bool false, .bool false, .bool false, .bool false, .bool false, .bool false, .bool false, .bool false, .bool false, .bool false, .bool false, .bool false, .bool false, .bool false, .bool false, .bool false, .bool false, .bool false, .bool false, .bool false, .bool false, .bool false, .bool false, .bool false, .bool false, .bool false, .bool false, .bool false, .bool false, .bool false, .bool false] 53)) w.heap.size false noSet :=
  (heap_alloc_new w _).trans (by kernel_rfl)

end Go.Proofs.YtikgnpachlgakaaGreatDoor.Cron
