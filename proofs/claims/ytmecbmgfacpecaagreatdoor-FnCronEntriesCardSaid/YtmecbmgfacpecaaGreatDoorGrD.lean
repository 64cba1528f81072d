/- Lemmas and walks on the way to the law, merged by wip/tools/pack.py: SpecEnds, ItemMid, Sets, CronItem, ItemLaw, Fields. Conditions: none. -/
import Derived.Test.YtmecbmgfacpecaaGreatDoorGrC
set_option linter.unusedVariables false
set_option linter.unusedSimpArgs false
namespace Go.Proofs.YtmecbmgfacpecaaGreatDoor.Cron
open Go Go.RowKit Go.Proofs.YtmecbmgfacpecaaGreatDoorW.PrintWords Go.Proofs.YtmecbmgfacpecaaGreatDoorW.PrintMore Go.Proofs.YtmecbmgfacpecaaGreatDoor.Pr Go.Proofs.YtmecbmgfacpecaaGreatDoor.Text
def both (ra rb : Option Nat) : Option (Nat × Nat × Bool) :=
 match ra, rb with
 | some a, some b => some (a, b, false)
 | _, _ => none
structure EndsIs (r : Option (Nat × Nat × Bool)) (lo hi : Nat) (low high : Int) (star single : Bool) (v : Int) : Prop where
 vs : v = 0 ∨ v = 1 ∨ v = 2
 bad : v = 0 → r = none
 fine : v = 1 → (star = true ∧ low = lo ∧ high = hi ∧ r = some (lo, hi, true)) ∨ (star = false ∧ ∃ ra rb, Rel ra low ∧ Rel rb high ∧ (single = true → ra = rb) ∧ r = both ra rb)
theorem worse_f (a b : Int) (ha : a = 0 ∨ a = 1 ∨ a = 2) (hb : b = 0 ∨ b = 1 ∨ b = 2) : ∃ v, spec_worse.f a b = some v ∧ (v = 0 ∨ v = 1 ∨ v = 2) ∧ (v = 0 → a = 0 ∨ b = 0) ∧ (v = 1 → a = 1 ∧ b = 1) ∧ (a = 0 ∨ b = 0 → v = 0) ∧ (a = 1 ∧ b = 1 → v = 1) := by
 unfold spec_worse.f mx;rcases ha with rfl | rfl | rfl <;> rcases hb with rfl | rfl | rfl <;> simp
structure ValSays (r : Option Nat) (n v : Int) : Prop where
 lo : 0 ≤ n
 hi : n ≤ 1099511627776
 vs : v = 0 ∨ v = 1 ∨ v = 2
 fine : v = 1 → Rel r n
 bad : v = 0 → r = none ∧ n = 0
theorem ValIs.says {r : Option Nat} {n v : Int} (h : ValIs r n v) : ValSays r n v := ⟨h.lo, h.hi, h.vs, h.fine, h.bad⟩
def ReadsLike (val : List UInt8 → Option Nat) (kind : Int) : Prop :=
 ∀ s : ByteArray, s.size ≤ 4294967296 → ∃ k n v, spec_CronValue.f k kind s = some (n, v) ∧ ValSays (val s.data.toList) n v
theorem rdOf_zero {x : ByteArray} {l : List ByteArray} : rdOf ByteArray.empty (x :: l) 0 = x := rfl
theorem rdOf_one {x y : ByteArray} {l : List ByteArray} : rdOf ByteArray.empty (x :: y :: l) 1 = y := rfl
theorem ends_is (val : List UInt8 → Option Nat) (kind : Int) (HV : ReadsLike val kind) (lo hi : Nat) (p : ByteArray) (hp : p.size ≤ 4294967296) :
  ∃ k low high star single v, spec_cronEnds.f k lo hi kind p = some (low, high, star, single, v) ∧ single = ((splitL 45 p.data.toList).length == 1) ∧ EndsIs (ends val lo hi (splitL 45 p.data.toList)) lo hi low high star single v := by
 obtain ⟨K, hK⟩ := pieces_f 45 p (by omega)
 obtain ⟨q, qs, hqs⟩ : ∃ q qs, splitL 45 p.data.toList = q :: qs := by
  cases h : splitL 45 p.data.toList with
  | nil => exact absurd h (splitL_ne _ _)
  | cons q qs => exact ⟨q, qs, rfl⟩
 have hq : splitB 45 p = ba q :: qs.map ba := by rw [splitB, hqs]; rfl
 have hsz : ∀ x ∈ splitL 45 p.data.toList, (ba x).size ≤ 4294967296 := by
  intro x hx;have := splitL_size 45 _ x hx;rw [← size_list] at this;rw [ba_size];omega
 rw [hq] at hK;have hlen : (((ba q :: qs.map ba).length : Nat) : Int) = (qs.length : Int) + 1 := by simp
 have hsg : ((((ba q :: qs.map ba).length : Nat) : Int) == 1) = ((splitL 45 p.data.toList).length == 1) := by
  rw [hlen, hqs];cases qs with
  | nil => rfl
  | cons a t => simp; omega
 by_cases hst : q = [42] ∨ q = [63]
 ·-- a star
  have hends := ends_star (val := val) (lo := lo) (hi := hi) qs hst
  have key : ∀ k, K + 2 ≤ k → ∃ v : Int, (v = 1 ∨ v = 2) ∧ spec_cronEnds.f k lo hi kind p = some ((lo : Int), (hi : Int), true, (splitL 45 p.data.toList).length == 1, v) := by
   intro k hk;have hk' := hK k (by omega);obtain ⟨k, rfl⟩ : ∃ m, k = m + 1 := ⟨k - 1, by omega⟩
   unfold spec_cronEnds.f;have hk2 : spec_cronPieces.f (k + 1) p 45 = some (ba q :: qs.map ba) := hk';rw [hk2];simp only [Option.bind_some];rw [if_pos (by simp)]
   have hj : ∀ b, b = true → ∃ v : Int, (v = 1 ∨ v = 2) ∧ spec_cronEnds.j0 (k + 1) (ba q :: qs.map ba) b lo hi kind = some ((lo : Int), (hi : Int), true, (splitL 45 p.data.toList).length == 1, v) := by
    rintro _ rfl;simp only [spec_cronEnds.j0, if_true, hsg];split
    ·exact ⟨2, .inr rfl, rfl⟩
    ·rw [if_pos (by simp)];split
     ·split
      ·exact ⟨1, .inl rfl, rfl⟩
      ·split
       ·exact ⟨1, .inl rfl, rfl⟩
       ·exact ⟨2, .inr rfl, rfl⟩
     ·exact ⟨1, .inl rfl, rfl⟩
   by_cases h42 : (rdOf ByteArray.empty (ba q :: qs.map ba) 0).toList = ([42] : List UInt8)
   ·rw [if_pos h42];exact hj true rfl
   ·rw [if_neg h42];refine hj _ ?_;rcases hst with h | h
    ·exact absurd (by rw [rdOf_zero, toList_data, ba_list, h]) h42
    ·rw [rdOf_zero, toList_data, ba_list, h]; rfl
  obtain ⟨v, hv, hf⟩ := key (K + 2) (Nat.le_refl _);refine ⟨K + 2, lo, hi, true, _, v, hf, rfl, ?_⟩;rw [hqs, hends];exact ⟨by omega, fun h => by omega, fun _ => .inl ⟨rfl, rfl, rfl, rfl⟩⟩
 ·have hends := ends_else (val := val) (lo := lo) (hi := hi) qs hst;have hn42 : ∀ l, ¬ (rdOf ByteArray.empty (ba q :: l) 0).toList = ([42] : List UInt8) := fun l h => hst (.inl (by rw [rdOf_zero, toList_data, ba_list] at h; exact h))
  have hn63 : ∀ l, ((rdOf ByteArray.empty (ba q :: l) 0).toList == ([63] : List UInt8)) = false := fun l => eq63_false (fun h => hst (.inr h))
  obtain ⟨k1, n1, v1, hk1, hv1⟩ := HV (ba q) (hsz q (by rw [hqs]; simp));rw [ba_list] at hv1;have hmono1 : ∀ k, k1 ≤ k → spec_CronValue.f k kind (ba q) = some (n1, v1) := fun k hk => at_rounds (fun k => spec_CronValue.mono kind (ba q) k) hk hk1
  rw [hqs, hends];cases qs with
  | nil =>
   have key : ∀ k, K + k1 + 2 ≤ k → spec_cronEnds.f k lo hi kind p = some (n1, n1, false, true, v1) := by
    intro k hk;have hk2 : spec_cronPieces.f k p 45 = some [ba q] := hK k (by omega);unfold spec_cronEnds.f;rw [hk2];simp only [Option.bind_some];rw [if_pos (by simp), if_neg (hn42 _), hn63];obtain ⟨k, rfl⟩ : ∃ m, k = m + 1 := ⟨k - 1, by omega⟩
    simp only [spec_cronEnds.j0, Bool.false_eq_true, if_false, rdOf_zero];rw [if_pos (by simp), hmono1 k (by omega)];simp
   refine ⟨_, n1, n1, false, true, v1, key _ (Nat.le_refl _), rfl, ⟨hv1.vs, fun h => ?_, fun h => .inr ⟨rfl, val q, val q, hv1.fine h, hv1.fine h, fun _ => rfl, ?_⟩⟩⟩
   ·rw [(hv1.bad h).1]; rfl
   ·cases val q <;> rfl
  | cons e2 qs =>
   cases qs with
   | nil =>
    obtain ⟨k2, n2, v2, hk2, hv2⟩ := HV (ba e2) (hsz e2 (by rw [hqs]; simp));rw [ba_list] at hv2;have hmono2 : ∀ k, k2 ≤ k → spec_CronValue.f k kind (ba e2) = some (n2, v2) := fun k hk => at_rounds (fun k => spec_CronValue.mono kind (ba e2) k) hk hk2
    obtain ⟨v, hw, hvs, h0, h1, _, _⟩ := worse_f v1 v2 hv1.vs hv2.vs
    have key : ∀ k, K + k1 + k2 + 2 ≤ k → spec_cronEnds.f k lo hi kind p = some (n1, n2, false, false, v) := by
     intro k hk;have hk2 : spec_cronPieces.f k p 45 = some [ba q, ba e2] := hK k (by omega);unfold spec_cronEnds.f;rw [hk2];simp only [Option.bind_some];rw [if_pos (by simp), if_neg (hn42 _), hn63];obtain ⟨k, rfl⟩ : ∃ m, k = m + 1 := ⟨k - 1, by omega⟩
     simp only [spec_cronEnds.j0, Bool.false_eq_true, if_false, rdOf_zero, rdOf_one];rw [if_pos (by simp), hmono1 k (by omega)];simp only [Option.bind_some];rw [if_neg (by simp), if_pos (by simp), if_pos (by simp), hmono2 k (by omega)];simp only [Option.bind_some];rw [hw];rfl
    refine ⟨_, n1, n2, false, false, v, key _ (Nat.le_refl _), rfl, ⟨hvs, fun h => ?_, fun h => .inr ⟨rfl, val q, val e2, hv1.fine (h1 h).1, hv2.fine (h1 h).2, (fun e => by cases e), ?_⟩⟩⟩
    ·rcases h0 h with h | h
     ·rw [(hv1.bad h).1]; rfl
     ·cases hq' : val q with
      | none => rfl
      | some a => simp only [endsRest, (hv2.bad h).1]
    ·cases val q <;> simp only [endsRest, both]
     cases val e2 <;> rfl
   | cons e3 qs =>
    have key : ∀ k, K + k1 + 2 ≤ k → spec_cronEnds.f k lo hi kind p = some (0, 0, false, false, 0) := by
     intro k hk;have hk2 : spec_cronPieces.f k p 45 = some (ba q :: ba e2 :: ba e3 :: qs.map ba) := hK k (by omega);unfold spec_cronEnds.f;rw [hk2];simp only [Option.bind_some];rw [if_pos (by simp; omega), if_neg (hn42 _), hn63];obtain ⟨k, rfl⟩ : ∃ m, k = m + 1 := ⟨k - 1, by omega⟩
     simp only [spec_cronEnds.j0, Bool.false_eq_true, if_false, rdOf_zero];rw [if_pos (by simp; omega), hmono1 k (by omega)];simp only [Option.bind_some];rw [if_neg (by simp; omega), if_neg (by simp; omega)]
    refine ⟨_, 0, 0, false, false, 0, key _ (Nat.le_refl _), by simp, ⟨.inl rfl, fun _ => ?_, fun h => by omega⟩⟩;cases val q <;> rfl
end Go.Proofs.YtmecbmgfacpecaaGreatDoor.Cron
namespace Go.Proofs.YtmecbmgfacpecaaGreatDoor.Cron
open Go Go.Proofs.YtmecbmgfacpecaaGreatDoor.Text Go.Proofs.YtmecbmgfacpecaaGreatDoor.Bits
def coreBits (lo hi : Nat) (ra rb : Option Nat) (step : Nat) : Option Nat :=
 match ra, rb with
 | some a, some b => bitsOf lo hi a b step false
 | _, _ => none
structure Mid (r : Option Nat) (lo hi : Nat) (low high : Int) (star : Bool) (step v : Int) : Prop where
 vs : v = 0 ∨ v = 1 ∨ v = 2
 bad : v = 0 → r = none
 fine : v = 1 → ∃ k : Nat, step = k ∧ 1 ≤ k ∧ k < 1099511627776 ∧
  ((star = true ∧ low = lo ∧ high = hi ∧ r = bitsOf lo hi lo hi k (if 1 < k then false else true)) ∨
   (star = false ∧ ∃ ra rb, Rel ra low ∧ Rel rb high ∧ r = coreBits lo hi ra rb k))
theorem rangeS_eq {val : List UInt8 → Option Nat} {lo hi : Nat} {s p : List UInt8} {ps : List (List UInt8)} (h1 : splitL 47 s = p :: ps) :
  rangeS val lo hi s = match ends val lo hi (splitL 45 p) with | none => none | some (a, b, st) => rangeFin lo hi ((splitL 45 p).length == 1) a b st ps := by
 unfold rangeS;rw [h1];rfl
theorem if_same (c : Prop) [Decidable c] (x : Bool) : (if c then x else x) = x := by split <;> rfl
theorem rangeS_many {val : List UInt8 → Option Nat} {lo hi : Nat} {s p t t2 : List UInt8} {ps : List (List UInt8)} (h1 : splitL 47 s = p :: t :: t2 :: ps) : rangeS val lo hi s = none := by
 rw [rangeS_eq h1];cases ends val lo hi (splitL 45 p) with
 | none => rfl
 | some x => obtain ⟨a, b, st⟩ := x; rfl
theorem mid_one {val : List UInt8 → Option Nat} {lo hi : Nat} {s p : List UInt8} {low high v : Int} {star single : Bool} (h1 : splitL 47 s = [p])
  (he : EndsIs (ends val lo hi (splitL 45 p)) lo hi low high star single v) : Mid (rangeS val lo hi s) lo hi low high star 1 v := by
 refine ⟨he.vs, fun h => ?_, fun h => ⟨1, rfl, by omega, by omega, ?_⟩⟩
 ·rw [rangeS_eq h1, he.bad h]
 ·rw [rangeS_eq h1];rcases he.fine h with ⟨hs, hl, hh, hr⟩ | ⟨hs, ra, rb, ha, hb, _, hr⟩
  ·left
   refine ⟨hs, hl, hh, ?_⟩;rw [hr];simp only [rangeFin, stepOf];rfl
  ·right
   refine ⟨hs, ra, rb, ha, hb, ?_⟩;rw [hr];cases ra <;> cases rb <;> rfl
theorem bitsOf_zero (lo hi a b : Nat) (st : Bool) : bitsOf lo hi a b 0 st = none := by
 unfold bitsOf;split
 ·rfl
 ·split
  ·rfl
  ·split
   ·rfl
   ·rfl
theorem mid_two {val : List UInt8 → Option Nat} {lo hi : Nat} {s p t : List UInt8} {low high v n v2 v3 : Int} {star single : Bool} (h2 : hi ≤ 62) (h1 : splitL 47 s = [p, t])
  (hsg : single = ((splitL 45 p).length == 1))
  (he : EndsIs (ends val lo hi (splitL 45 p)) lo hi low high star single v)
  (hvs2 : v2 = 0 ∨ v2 = 1 ∨ v2 = 2)
  (hf2 : v2 = 1 → ∃ m : Nat, mp t = some m ∧ n = m ∧ 1 ≤ m ∧ m < 1099511627776) (hb2 : v2 = 0 → mp t = none ∨ mp t = some 0)
  (hvs : v3 = 0 ∨ v3 = 1 ∨ v3 = 2) (hw0 : v3 = 0 → v = 0 ∨ v2 = 0) (hw1 : v3 = 1 → v = 1 ∧ v2 = 1) :
  Mid (rangeS val lo hi s) lo hi low (if single && !star then (hi : Int) else high) star n v3 := by
 refine ⟨hvs, fun h => ?_, fun h => ?_⟩
 ·rw [rangeS_eq h1];rcases hw0 h with h | h
  ·rw [he.bad h]
  ·cases hr : ends val lo hi (splitL 45 p) with
   | none => rfl
   | some x =>
    obtain ⟨a, b, st⟩ := x;simp only [rangeFin, stepOf];rcases hb2 h with e | e
    ·rw [e]
    ·rw [e]; exact bitsOf_zero _ _ _ _ _
 ·obtain ⟨hv, hv2⟩ := hw1 h;obtain ⟨m, hm, hn, hm1, hm2⟩ := hf2 hv2;refine ⟨m, hn, hm1, hm2, ?_⟩;rw [rangeS_eq h1];rcases he.fine hv with ⟨hs, hl, hh, hr⟩ | ⟨hs, ra, rb, ha, hb, hab, hr⟩
  ·left
   subst hs;refine ⟨rfl, hl, by simpa using hh, ?_⟩;rw [hr];simp only [rangeFin, stepOf, hm];split <;> rfl
  ·right
   subst hs;refine ⟨rfl, ?_⟩;rw [hr];cases single with
   | true =>
    obtain rfl := hab rfl;refine ⟨ra, some hi, ha, .inl ⟨hi, rfl, by simp only [Bool.not_false, Bool.and_true, if_true]; omega⟩, ?_⟩;cases ra with
    | none => rfl
    | some a =>
     simp only [both, coreBits, rangeFin, stepOf, hm, ← hsg, if_true];rw [if_same]
   | false =>
    refine ⟨ra, rb, ha, by simpa using hb, ?_⟩;cases ra with
    | none => rfl
    | some a =>
     cases rb with
     | none => rfl
     | some b =>
      simp only [both, coreBits, rangeFin, stepOf, hm, ← hsg, if_same, Bool.false_eq_true, if_false]
theorem rel_lt {r : Option Nat} {n : Int} {hi : Nat} (h : Rel r n) (hh : hi ≤ 62) (hn : n ≤ hi) : ∃ a : Nat, r = some a ∧ n = a := by
 rcases h with ⟨a, ha, he⟩ | ⟨_, he⟩
 ·exact ⟨a, ha, by omega⟩
 ·omega
theorem core_out {lo hi : Nat} {low high : Int} {ra rb : Option Nat} {k : Nat} (hh : hi ≤ 62) (ha : Rel ra low) (hb : Rel rb high) (h : low < lo ∨ (hi : Int) < high ∨ high < low) : coreBits lo hi ra rb k = none := by
 unfold coreBits;cases ra with
 | none => rfl
 | some a =>
  cases rb with
  | none => rfl
  | some b =>
   rcases ha with ⟨a', e1, e2⟩ | ⟨e1, _⟩
   ·injection e1 with e1
    subst e1;rcases hb with ⟨b', e3, e4⟩ | ⟨e3, _⟩
    ·injection e3 with e3
     subst e3;show bitsOf lo hi a b k false = none
     unfold bitsOf;by_cases x1 : a < lo
     ·rw [if_pos x1]
     ·rw [if_neg x1];by_cases x2 : hi < b
      ·rw [if_pos x2]
      ·rw [if_neg x2];by_cases x3 : b < a
       ·rw [if_pos x3]
       ·omega
    ·cases e3
   ·cases e1
theorem core_in {lo hi : Nat} {low high : Int} {ra rb : Option Nat} {k : Nat} (hh : hi ≤ 62) (ha : Rel ra low) (hb : Rel rb high) (h1 : (lo : Int) ≤ low) (h2 : high ≤ hi) (h3 : low ≤ high) (hk : 1 ≤ k) :
  ∃ a b : Nat, low = a ∧ high = b ∧ a ≤ b ∧ b ≤ hi ∧ coreBits lo hi ra rb k = some (steps a b k ||| 0) := by
 obtain ⟨b, rfl, hb'⟩ := rel_lt hb hh h2;obtain ⟨a, rfl, ha'⟩ := rel_lt ha hh (show low ≤ hi by omega);refine ⟨a, b, ha', hb', by omega, by omega, ?_⟩;show bitsOf lo hi a b k false = _
 unfold bitsOf;rw [if_neg (by omega), if_neg (by omega), if_neg (by omega), if_neg (by omega)];rfl
theorem star_in {lo hi k : Nat} {st : Bool} (h1 : lo ≤ hi) (hk : 1 ≤ k) : bitsOf lo hi lo hi k st = some (steps lo hi k ||| (if st then 9223372036854775808 else 0)) := by
 unfold bitsOf;rw [if_neg (by omega), if_neg (by omega), if_neg (by omega), if_neg (by omega)]
def stepSet (a b k : Nat) : Nat → Bool := fun j => decide (a ≤ j) && decide (j ≤ b) && ((j - a) % k == 0)
theorem stepSet_bits {a b k : Nat} (hb : b ≤ 62) : mkBits (stepSet a b k) 63 = steps a b k := by
 unfold steps;apply eq_mkBits
 ·exact Nat.lt_of_lt_of_le (mkBits_lt _ 63) (by decide)
 ·intro j hj;rw [mkBits_test];unfold stepSet;by_cases h : j < 63
  ·simp [h]
  ·have : ¬ j ≤ b := by omega
   simp [this]
end Go.Proofs.YtmecbmgfacpecaaGreatDoor.Cron
namespace Go.Proofs.YtmecbmgfacpecaaGreatDoor.Cron
open Go Go.RowKit Go.Proofs.YtmecbmgfacpecaaGreatDoor.Bits
def setCells (star : Bool) (p : Nat → Bool) : Array Value := #[.bool star] ++ ((Array.range 63).map fun j => .bool (p j))
theorem setCells_size (star : Bool) (p : Nat → Bool) : (setCells star p).size = 64 := by simp [setCells]
theorem setCells_zero (star : Bool) (p : Nat → Bool) : (setCells star p)[0]? = some (.bool star) := by
 unfold setCells;rw [Array.getElem?_append_left (by simp)];simp
theorem setCells_at (star : Bool) (p : Nat → Bool) (j : Nat) (h : j < 63) : (setCells star p)[j + 1]? = some (.bool (p j)) := by
 unfold setCells;rw [Array.getElem?_append_right (by simp)];simp [h]
theorem setCells_out (star : Bool) (p : Nat → Bool) (j : Nat) (h : 64 ≤ j) : (setCells star p)[j]? = none := by
 rw [Array.getElem?_eq_none];rw [setCells_size]; exact h
theorem setCells_one (star : Bool) (p : Nat → Bool) : (setCells star p).all (·.oneCell') = true := by
 rw [Array.all_eq_true_iff_forall_mem];intro v hv;unfold setCells at hv;rw [Array.mem_append] at hv;rcases hv with hv | hv
 ·simp at hv; subst hv; rfl
 ·rw [Array.mem_map] at hv;obtain ⟨j, _, rfl⟩ := hv;rfl
theorem setCells_star (star b : Bool) (p : Nat → Bool) : (setCells star p).setIfInBounds 0 (.bool b) = setCells b p := by
 apply Array.ext_getElem?
 intro i;rw [Array.getElem?_setIfInBounds];cases i with
 | zero => rw [if_pos rfl, if_pos (by rw [setCells_size]; decide), setCells_zero]
 | succ i =>
  rw [if_neg (by omega)];by_cases h : i < 63
  ·rw [setCells_at _ _ _ h, setCells_at _ _ _ h]
  ·rw [setCells_out _ _ _ (by omega), setCells_out _ _ _ (by omega)]
theorem setCells_put (star b : Bool) (p : Nat → Bool) (j : Nat) (hj : j < 63) : (setCells star p).setIfInBounds (j + 1) (.bool b) = setCells star (fun i => if i = j then b else p i) := by
 apply Array.ext_getElem?
 intro i;rw [Array.getElem?_setIfInBounds];cases i with
 | zero => rw [if_neg (by omega), setCells_zero, setCells_zero]
 | succ i =>
  by_cases h : i < 63
  ·rw [setCells_at _ _ _ h, setCells_at _ _ _ h];by_cases e : i = j
   ·subst e;rw [if_pos rfl, if_pos (by rw [setCells_size]; omega), if_pos rfl]
   ·rw [if_neg (by omega), if_neg e]
  ·rw [setCells_out _ _ _ (by omega), setCells_out _ _ _ (by omega), if_neg (by omega)]
theorem setCells_ext {star : Bool} {p q : Nat → Bool} (h : ∀ j, j < 63 → p j = q j) : setCells star p = setCells star q := by
 apply Array.ext_getElem?
 intro i;cases i with
 | zero => rw [setCells_zero, setCells_zero]
 | succ i =>
  by_cases hi : i < 63
  ·rw [setCells_at _ _ _ hi, setCells_at _ _ _ hi, h i hi]
  ·rw [setCells_out _ _ _ (by omega), setCells_out _ _ _ (by omega)]
def noSet : Nat → Bool := fun _ => false
def IsSet (w : World) (g : Nat) (star : Bool) (p : Nat → Bool) : Prop := w.heap[g]? = some (.cells (setCells star p) 56 (0, 0))
theorem IsSet.lt {w : World} {g : Nat} {star : Bool} {p : Nat → Bool} (h : IsSet w g star p) : g < w.heap.size := (Array.getElem?_eq_some_iff.1 h).1
theorem IsSet.below {w w' : World} {g : Nat} {star : Bool} {p : Nat → Bool} (h : IsSet w g star p) (hb : Below w.heap.size w w') : IsSet w' g star p :=
 (hb.block g h.lt).trans h
theorem IsSet.cell0 {w : World} {g : Nat} {star : Bool} {p : Nat → Bool} (h : IsSet w g star p) : w.cell? ⟨g, 0, none⟩ = some (.bool star) :=
 (cell_of_row w g 0 _ _ _ h).trans (setCells_zero star p)
theorem IsSet.cellAt {w : World} {g : Nat} {star : Bool} {p : Nat → Bool} (h : IsSet w g star p) (j : Nat) (hj : j < 63) : w.cell? ⟨g, j + 1, none⟩ = some (.bool (p j)) :=
 (cell_of_row w g (j + 1) _ _ _ h).trans (setCells_at star p j hj)
theorem IsSet.free {w : World} {g : Nat} {star : Bool} {p : Nat → Bool} (h : IsSet w g star p) (j : Nat) : w.frozen? ⟨g, j, none⟩ = false :=
 frozen_of_row w g j _ _ h
theorem IsSet.put {w : World} {g : Nat} {star : Bool} {p : Nat → Bool} (h : IsSet w g star p) (j : Nat) (hj : j < 63) (b : Bool) : IsSet (w.setCell ⟨g, j + 1, none⟩ (.bool b)) g star (fun i => if i = j then b else p i) := by
 unfold IsSet;rw [heap_setCell_same w g (j + 1) _ _ _ h, setCells_put star b p j hj]
theorem IsSet.putStar {w : World} {g : Nat} {star : Bool} {p : Nat → Bool} (h : IsSet w g star p) (b : Bool) : IsSet (w.setCell ⟨g, 0, none⟩ (.bool b)) g b p := by
 unfold IsSet;rw [heap_setCell_same w g 0 _ _ _ h, setCells_star]
theorem IsSet.other {w : World} {g : Nat} {star : Bool} {p : Nat → Bool} (h : IsSet w g star p) {a : Addr} (ha : g ≠ a.block) (v : Value) : IsSet (w.setCell a v) g star p := by
 unfold IsSet;rw [heap_setCell_other w a g v ha];exact h
theorem isSet_new (w : World) (star : Bool) (p : Nat → Bool) : IsSet (w.alloc (.cells (setCells star p) 56 (0, 0))) w.heap.size star p :=
 heap_alloc_new w _
theorem setSize : (Tryz.prog.info? 56).map (·.size) = some 64 := by kernel_rfl
theorem run_alloc_set (w : World) : (Instr.alloc 56 true (.tuple #[])).run Tryz.prog w = .ok (.pointer (some ⟨w.heap.size, 0, none⟩)) (w.alloc (.cells (setCells false noSet) 56 (0, 0))) := by kernel_rfl
theorem built_set : (Tryz.prog.built 56 []) = some (setCells false noSet) := by kernel_rfl
theorem IsSet.store {w : World} {g : Nat} {star : Bool} {p : Nat → Bool} (h : IsSet w g star p) (st : Bool) (q : Nat → Bool) : IsSet (w.setRow g (setCells st q)) g st q :=
 setRow_heap w g _ _ _ _ h
theorem IsSet.row_other {w : World} {g k : Nat} {star : Bool} {p : Nat → Bool} (h : IsSet w g star p) (hk : g ≠ k) (cs : Array Value) : IsSet (w.setRow k cs) g star p :=
 (setRow_other w k g cs hk).trans h
section
variable {ops : Array Oper} {rest : List Oper} {o : Oper} {a : Act} {w : World} {Q : Exit → Act → World → Prop}
theorem wpList_build_set (hg : o.guard = none) (ho : o.op = .build 56 #[])
  (h : wpList Tryz.prog ops Q rest (a.put o.dst (.agg (setCells false noSet))) w) : wpList Tryz.prog ops Q (o :: rest) a w := by
 have e : ((#[] : Array (Nat × Operand)).map fun (i, x) => (i, a.eval x)).toList = [] := by simp
 refine wpList_build hg 56 #[] ho (by rw [e, built_set]; exact Option.isSome_some) ?_;rw [e, built_set, Option.getD_some];exact h
theorem wpList_store_set (hg : o.guard = none) (x y : Operand) (ho : o.op = .store 56 x y) (g : Nat) (st : Bool) (q : Nat → Bool)
  (hx : a.eval x = .pointer (some ⟨g, 0, none⟩)) (hy : a.eval y = .agg (setCells st q)) (st0 : Bool) (q0 : Nat → Bool) (hs : IsSet w g st0 q0)
  (h : wpList Tryz.prog ops Q rest (a.put o.dst undef) (w.setRow g (setCells st q))) : wpList Tryz.prog ops Q (o :: rest) a w :=
 wpList_store_row hg 56 x y ho g _ hx hy _ _ hs (by rw [setSize, setCells_size]) (by rw [setCells_size, setCells_size]) (setCells_one st q) h
theorem wpList_load_set (hg : o.guard = none) (x : Operand) (ho : o.op = .load 56 x) (g : Nat) (st : Bool) (q : Nat → Bool)
  (hx : a.eval x = .pointer (some ⟨g, 0, none⟩)) (hs : IsSet w g st q)
  (h : wpList Tryz.prog ops Q rest (a.put o.dst (.agg (setCells st q))) w) : wpList Tryz.prog ops Q (o :: rest) a w := by
 exact wpList_load_row hg 56 x ho g hx _ _ _ _ hs Tryz.underlying56 rfl (by rw [setSize, setCells_size]) h
end
theorem run_load_set (w : World) (g : Nat) (st : Bool) (q : Nat → Bool) (hs : IsSet w g st q) : (loadVar 56 ⟨g, 0, none⟩).run Tryz.prog w = .ok (.agg (setCells st q)) w := by
 exact run_loadVar_row w g _ _ _ _ _ hs Tryz.underlying56 rfl (by rw [setSize, setCells_size])
theorem results_set {fn : Func} {p u : Tmp} (h : fn.results = #[.cell p 56, .tmp u]) (tmps : Array Value) (w : World) (g : Nat) (st : Bool) (q : Nat → Bool)
  (hp : tmps.getD p undef = .pointer (some ⟨g, 0, none⟩)) (hs : IsSet w g st q) :
  (results fn tmps).run Tryz.prog w = .ok (.tuple #[.agg (setCells st q), tmps.getD u undef]) w := by
 rw [results_cell_tmp h, hp];simp only [asAddr, Sem.run_pure, Result.andThen_ok, run_load_set w g st q hs]
def inCells (p : Nat → Bool) : Array Value := (Array.range 63).map fun j => .bool (p j)
theorem inCells_size (p : Nat → Bool) : (inCells p).size = 63 := by simp [inCells]
theorem inCells_at (p : Nat → Bool) (j : Nat) (h : j < 63) : (inCells p)[j]? = some (.bool (p j)) := by simp [inCells, h]
theorem sizeIn : (Tryz.prog.info? 54).map (·.size) = some 63 := by kernel_rfl
theorem sizeBool : (Tryz.prog.info? 4).map (·.size) = some 1 := by kernel_rfl
theorem run_load_in (w : World) (g : Nat) (st : Bool) (q : Nat → Bool) (hs : IsSet w g st q) : (loadVar 54 ⟨g, 1, none⟩).run Tryz.prog w = .ok (.agg (inCells q)) w := by
 have hl : (loadCells ⟨g, 1, none⟩ (inCells q).toList.length).run Tryz.prog w = .ok (inCells q).toList.toArray w :=
  run_loadCells_list (P := Tryz.prog) w ⟨g, 1, none⟩ (inCells q).toList (fun j v hv => by
   have hj : j < 63 := by
    have := (List.getElem?_eq_some_iff.1 hv).1;rw [Array.length_toList, inCells_size] at this;exact this
   have hadd : (⟨g, 1, none⟩ : Addr).add j = ⟨g, j + 1, none⟩ := by
    unfold Addr.add;split
    ·rename_i h; subst h; rfl
    ·simp; omega
   rw [hadd, hs.cellAt j hj];have := inCells_at q j hj;rw [← Array.getElem?_toList] at this;rw [← this, hv])
 rw [Array.length_toList, inCells_size] at hl;cases hq : Tryz.prog.info? 54 with
 | none => have := sizeIn; simp [hq] at this
 | some i =>
  have hsz : i.size = 63 := by have := sizeIn; simpa [hq] using this
  have hagg : (isAgg 54).run Tryz.prog w = .ok true w := by
   unfold isAgg;rw [Sem.run_bind, run_underlying Tryz.underlying54 w];rfl
  simp only [Array.toArray_toList] at hl;simp [loadVar, Sem.run_bind, hagg, sizeOf, typeInfo, hq, hsz, hl]
theorem run_index_in (q : Nat → Bool) (n : Nat) (h : n < 63) (w : World) : (Instr.index 54 (.agg (inCells q)) (.int .i64 n)).run Tryz.prog w = .ok (.bool (q n)) w := by
 cases hq : Tryz.prog.info? 4 with
 | none => have := sizeBool; simp [hq] at this
 | some i =>
  have hsz : i.size = 1 := by have := sizeBool; simpa [hq] using this
  have hp := run_part_plain (P := Tryz.prog) (e := 4) (by kernel_rfl) (w := w) (inCells_at q n h);have hlt : (n : Int) < 63 := by omega
  simp [Instr.index, run_underlying Tryz.underlying54, asIntOf, sizeOf, typeInfo, hq, hsz, hp, Sem.run_bind];intro h';omega
section
variable {ops : Array Oper} {rest : List Oper} {o : Oper} {a : Act} {w : World} {Q : Exit → Act → World → Prop}
theorem wpList_load_in (hgd : o.guard = none) (x : Operand) (ho : o.op = .load 54 x) (g : Nat) (st : Bool) (q : Nat → Bool)
  (hx : a.eval x = .pointer (some ⟨g, 1, none⟩)) (hs : IsSet w g st q)
  (h : wpList Tryz.prog ops Q rest (a.put o.dst (.agg (inCells q))) w) : wpList Tryz.prog ops Q (o :: rest) a w := by
 refine wpList_plain hgd fun K hK => ?_
 unfold Oper.wp execOp;simp only [ho, hx, Instr.loadAt, Instr.sureAddr, Sem.run_bind, Sem.run_pure, Result.andThen_ok, run_load_in w g st q hs];exact hK _ _ h
end
theorem run_box_set (st : Bool) (p : Nat → Bool) (w : World) : (Instr.box 56 (.agg (setCells st p))).run Tryz.prog w = .ok (.pointer (some ⟨w.heap.size, 0, none⟩)) (w.alloc (.cells (setCells st p) 56 (0, 0))) := by
 rfl
theorem isSet_lit (w : World) : IsSet (w.alloc (.cells #[.bool false, .bool false, .bool false, .bool false, .bool false, .bool false, .bool false, .bool false, .bool false, .bool false, .bool false, .bool false, .bool false, .bool false, .bool false, .bool false, .bool false, .bool false, .bool false, .bool false, .bool false, .bool false, .bool false, .bool false, .bool false, .bool false, .bool false, .bool false, .bool false, .bool false, .bool false, .bool false, .bool false, .bool false, .bool false, .bool false, .bool false, .bool false, .bool false, .bool false, .bool false, .bool false, .bool false, .bool false, .bool false, .bool false, .bool false, .bool false, .bool false, .bool false, .bool false, .bool false, .bool false, .bool false, .bool false, .bool false, .bool false, .bool false, .bool false, .bool false, .bool false, .bool false, .bool false, .bool false] 56)) w.heap.size false noSet :=
 (heap_alloc_new w _).trans (by kernel_rfl)
end Go.Proofs.YtmecbmgfacpecaaGreatDoor.Cron
namespace Go.Proofs.YtmecbmgfacpecaaGreatDoor.Cron
open Go Go.RowKit Go.Proofs.YtmecbmgfacpecaaGreatDoor.Text Go.Proofs.YtmecbmgfacpecaaGreatDoor.Bits Go.Proofs.YtmecbmgfacpecaaGreatDoorW.PrintWords Go.Proofs.YtmecbmgfacpecaaGreatDoorW.PrintLast Go.Proofs.YtmecbmgfacpecaaGreatDoorW.PrintMore Go.Proofs.YtmecbmgfacpecaaGreatDoor.Pr
def setBits (star : Bool) (p : Nat → Bool) : Nat := mkBits p 63 ||| (if star then 9223372036854775808 else 0)
structure ItemIs (r : Option Nat) (star : Bool) (p : Nat → Bool) (v : Int) : Prop where
 vs : v = 0 ∨ v = 1 ∨ v = 2
 bad : v = 0 → r = none
 fine : v = 1 → r = some (setBits star p)
 none_ : v ≠ 1 → star = false ∧ p = noSet
def ItemPost (w : World) (r : Option Nat) (e : Ending) (w' : World) : Prop :=
 ∃ star p v, e = .returned (.tuple #[.agg (setCells star p), .int .i64 v]) ∧ ItemIs r star p v ∧ Below w.heap.size w w'
theorem pieces_any (c : UInt8) (s : ByteArray) (hs : s.size ≤ 8796093022206) (w : World) :
  Calls Tryz.prog 56 #[.string s, .int .u8 (c.toNat : Int)] w fun e w' => ∃ g n cap, e = .returned (.slice (some ⟨g, 0, none⟩) n cap) ∧ w.heap.size ≤ g ∧ Texts w' g n cap (splitB c s) ∧ Below w.heap.size w w' := by
 obtain ⟨k, hk⟩ := (pieces_f c s hs).rounds;refine (spec_cronPieces.calls k s (c.toNat : Int) _ w hk).mono ?_;rintro e w' ⟨v, rfl, hR, hb⟩;obtain ⟨g, n, cap, rfl, hg, ht⟩ := texts_of_R hR (splitB_ne c s);exact ⟨g, n, cap, rfl, hg, ht, hb⟩
theorem box_row (w : World) (o : Obj) (c : Array Value) (T : TypeId) {w1 : World} (hb : Below ((w.alloc (.cells c T)).alloc o).heap.size ((w.alloc (.cells c T)).alloc o) w1) : w1.heap[w.heap.size]? = some (.cells c T (0, 0)) :=
 (hb.block w.heap.size (by simp; omega)).trans (heap_alloc2_old w _ _)
theorem item_zero {r : Option Nat} {v : Int} (h0 : v = 0 ∨ v = 2) (h : v = 0 → r = none) : ItemIs r false noSet v :=
 ⟨by omega, h, fun e => by omega, fun _ => ⟨rfl, rfl⟩⟩
def rg58_4.T4 : Bool × List (List Nat × List Nat) := (true, [([], []), ([], []), ([1], [1]), ([2], [2]), ([0, 3], [0, 3]), ([4], [4]), ([5], [5]), ([5], [5]), ([5], [5]), ([5], [5]), ([5], [5]), ([6, 4, 0, 1, 2, 3, 4, 5, 6], [6]), ([7, 11, 0, 1, 2, 3, 4, 5, 6, 7, 11], [7]), ([8, 12, 0, 1, 2, 3, 4, 5, 6, 7, 8, 11, 12], [8]), ([9, 13, 0, 1, 2, 3, 4, 5, 6, 7, 8, 9, 11, 12, 13], [9]), ([10, 14, 0, 1, 2, 3, 4, 5, 6, 7, 8, 9, 10, 11, 12, 13, 14], [10])])
def rg58_4.B4 : List Nat := [0, 0, 2, 6, 15, 31, 63, 63, 63, 63, 63, 127, 2303, 6655, 15359, 32767]
theorem rg58_4.tab4 : rtab .any (opsOf Tryz.f58 4) = rg58_4.T4 := by kernel_rfl
theorem rg58_4.bits4 : waitsOk rg58_4.T4.2 rg58_4.B4 = true := by kernel_rfl
theorem stepSet_start (a b k : Nat) : setCells false (fun j => stepSet a b k j && decide (j < a)) = setCells false noSet := by
 congr 1
 funext j
 unfold stepSet noSet;by_cases h : a ≤ j
 ·have : ¬ j < a := by omega
  simp [this]
 ·simp [h]
theorem stepSet_next {a b k n : Nat} (hn : a ≤ n) (hb : n ≤ b) : (fun i => if i = n then ((n - a) % k == 0) else (stepSet a b k i && decide (i < n))) = (fun i => stepSet a b k i && decide (i < n + 1)) := by
 funext i
 by_cases h : i = n
 ·subst h;have h3 : i < i + 1 := by omega
  simp [stepSet, hn, hb, h3]
 ·rw [if_neg h];by_cases h2 : i < n
  ·have : i < n + 1 := by omega
   simp [h2, this]
  ·have : ¬ i < n + 1 := by omega
   simp [h2, this]
theorem stepSet_end {a b k n : Nat} (hn : b < n) : (fun i => stepSet a b k i && decide (i < n)) = stepSet a b k := by
 funext i
 by_cases h : i < n
 ·simp [h]
 ·have : ¬ i ≤ b := by omega
  simp [stepSet, this]
set_option maxRecDepth 100000 in
set_option maxHeartbeats 1600000 in
theorem cronItem_any (val : List UInt8 → Option Nat) (kind : Int) (HV : ReadsLike val kind) (lo hi : Nat) (s : ByteArray) (hs : s.size ≤ 4294967296) (h1 : lo ≤ hi) (h2 : hi ≤ 62) (w : World) :
  Calls Tryz.prog 58 #[.agg #[.int .i64 lo, .int .i64 hi, .int .i64 kind], .string s] w (ItemPost w (rangeS val lo hi s.data.toList)) := by
 have hal := run_alloc_set
 obtain ⟨p, ps, hps⟩ : ∃ p ps, splitL 47 s.data.toList = p :: ps := by
  cases h : splitL 47 s.data.toList with
  | nil => exact absurd h (splitL_ne _ _)
  | cons p ps => exact ⟨p, ps, rfl⟩
 have hsz : ∀ x ∈ splitL 47 s.data.toList, (ba x).size ≤ 4294967296 := by
  intro x hx;have := splitL_size 47 _ x hx;rw [← size_list] at this;rw [ba_size];omega
 have hpsB : splitB 47 s = ba p :: ps.map ba := by rw [splitB, hps]; rfl
 have HP := Lib.hid hps;have HPB := Lib.hid hpsB;have HSZ := Lib.hid hsz;clear hps hpsB hsz;go_enter Tryz.func58, Tryz.ntmps58;go_wp2_with fail
 refine (pieces_any 47 s (by omega) _).mono ?_;rintro e w1 ⟨g1, n1, c1, rfl, hg1, ht1, hb1⟩;have hbx := box_row w _ _ _ hb1
 have hset : IsSet w1 (w.heap.size + 1) false noSet := by
  refine (hb1.block (w.heap.size + 1) (by simp)).trans ?_;exact (heap_alloc2_new w _ _).trans (by kernel_rfl)
 have hB1 : Below w.heap.size w w1 := (((Below.refl _ _).alloc (Nat.le_refl _) _).alloc (by simp) _).trans (hb1.mono (by simp; omega));have hz1 : w.heap.size + 1 < w1.heap.size := by have := hb1.size; simp at this; omega
 have hx0 : w1.cell? ⟨w.heap.size, 0, none⟩ = some (.int .i64 lo) := cell_of_row _ _ _ _ _ _ hbx;have hx1 : w1.cell? ⟨w.heap.size, 1, none⟩ = some (.int .i64 hi) := cell_of_row _ _ _ _ _ _ hbx;have hx2 : w1.cell? ⟨w.heap.size, 2, none⟩ = some (.int .i64 kind) := cell_of_row _ _ _ _ _ _ hbx;have hc0 : w1.cell? ⟨g1, 0, none⟩ = some (.string (ba p)) := ht1.at_ 0 _ (by rw [HPB.out]; rfl);have hn1 : n1 = ps.length + 1 := by rw [ht1.len, HPB.out]; simp
 have HN := Lib.hid hn1;have hn0 : 0 < n1 := by omega
 have HSET := Lib.hid hset;have HBX := Lib.hid hbx;clear hb1 hbx hset hn1 hg1;by_cases hmany : 2 < n1
 ·have HX : Hid (rangeS val lo hi s.data.toList = none) := by
   have hl := HN.out
   obtain ⟨t, t2, ps', rfl⟩ : ∃ t t2 ps', ps = t :: t2 :: ps' := by
    match ps, hl with
    | [], hl => simp at hl; omega
    | [t], hl => simp at hl; omega
    | t :: t2 :: ps', _ => exact ⟨t, t2, ps', rfl⟩
   exact Lib.hid (rangeS_many HP.out)
  go_wp2_with (first | (refine wpList_build_set rfl rfl ?_) | (refine wpList_store_set rfl _ _ rfl (w.heap.size + 1) false noSet rfl rfl _ _ HSET.out ?_))
  refine bodyPost_ret (v := .tuple #[.agg (setCells false noSet), .int .i64 0]) ?_ rfl ?_
  ·exact results_set (fn := Tryz.f58) (p := 4) (u := 5) rfl _ _ (w.heap.size + 1) false noSet rfl (HSET.out.store _ _)
  exact ⟨false, noSet, 0, rfl, item_zero (.inl rfl) (fun _ => HX.out), below_setRow hB1 (by omega) _⟩
 ·obtain ⟨ke, low, high, star, single, v, hke, hsg, hen⟩ := ends_is val kind HV lo hi (ba p) (HSZ.out p (by rw [HP.out]; simp));rw [ba_list] at hsg hen
  have HE := Lib.hid hen;have HK := Lib.hid hke;have HSG := Lib.hid hsg;clear hen hke hsg;go_upto_region 4 with fail
  obtain ⟨w2, rfl⟩ : ∃ w2 : World, w2 = w1 := ⟨_, rfl⟩
  go_cut [7, 8, 9, 10, 11] (fun v7 v8 v9 v10 v11 wc => v7 = .int .i64 low ∧ v8 = .int .i64 high ∧ v9 = .bool star ∧ v10 = .bool single ∧ v11 = .int .i64 v ∧ Below w2.heap.size w2 wc)
  case first =>
   have HC := Lib.hid (fun w' => spec_cronEnds.calls ke lo hi kind (ba p) low high star single v w' HK.out);refine start_ (n := 16) (S := fun w' => w'.cell? ⟨w.heap.size, 0, none⟩ = some (.int .i64 lo) ∧ w'.cell? ⟨w.heap.size, 1, none⟩ = some (.int .i64 hi) ∧ w'.cell? ⟨w.heap.size, 2, none⟩ = some (.int .i64 kind) ∧ w'.cell? ⟨g1, 0, none⟩ = some (.string (ba p))) (ds := []) #[nn, nn, nn, nn, nn, nn, nn, nn, nn, nn, nn, nn, nn, nn, nn, nn] (by kernel_rfl) rfl rfl ⟨hx0, hx1, hx2, hc0⟩ (fun hHeld => ?_);refine with_tabW rg58_4.tab4 rg58_4.bits4 (fun HT_ HW_ => ?_);refine pure_ (i := 1) (N := some 25) (v := ?_) (a' := ?_) #[nn, yy, nn, nn, nn, nn, nn, nn, nn, nn, nn, nn, nn, nn, nn, nn] rfl rfl (any_of HT_.out (by kernel_rfl)) (fun _ _ _ h => h) (Or.inl ⟨by rfl, ?_⟩) ?_ ?_;rotate_left
   ·intro w';go_simp;with_reducible rfl
   rotate_left
   ·simp only [nrm];rfl
   refine pure_ (i := 2) (N := some 26) (v := ?_) (a' := ?_) #[nn, yy, yy, nn, nn, nn, nn, nn, nn, nn, nn, nn, nn, nn, nn, nn] rfl rfl (any_of HT_.out (by kernel_rfl)) (fun _ _ _ h => h) (Or.inl ⟨by rfl, ?_⟩) ?_ ?_;rotate_left
   ·intro w';go_simp;with_reducible rfl
   rotate_left
   ·simp only [nrm];rfl
   refine take_ (i := 0) (N := some 24) (v := ?_) (a' := ?_) #[yy, yy, yy, nn, nn, nn, nn, nn, nn, nn, nn, nn, nn, nn, nn, nn] rfl rfl (take_ofW HT_.out HW_.out (by kernel_rfl)) (fun _ _ _ h => h) (Or.inl ⟨by rfl, ?_⟩) hHeld ?_ ?_;rotate_left
   ·rintro w' ⟨s0, s1, s2, s3⟩;go_simp;with_reducible rfl
   rotate_left
   ·simp only [nrm];rfl
   refine take_ (i := 3) (N := some 27) (v := ?_) (a' := ?_) #[yy, yy, yy, yy, nn, nn, nn, nn, nn, nn, nn, nn, nn, nn, nn, nn] rfl rfl (take_ofW HT_.out HW_.out (by kernel_rfl)) (fun _ _ _ h => h) (Or.inl ⟨by rfl, ?_⟩) hHeld ?_ ?_;rotate_left
   ·rintro w' ⟨s0, s1, s2, s3⟩;go_simp;with_reducible rfl
   rotate_left
   ·simp only [nrm];rfl
   refine one_ (i := 4) (N := some 28) #[yy, yy, yy, yy, yy, nn, nn, nn, nn, nn, nn, nn, nn, nn, nn, nn] rfl rfl (one_of HT_.out (by kernel_rfl)) (by decide) (fun K hK => ?_);refine goes_ Tryz.func120 (by kernel_rfl) rfl #[.agg #[.int .i64 lo, .int .i64 hi, .int .i64 kind], .string (ba p)] (by rfl) rfl rfl (by simp only [List.map_toArray, List.map_cons, List.map_nil]; rfl) ?_;with_reducible refine (HC.out _).mono ?_
   rintro e w3 ⟨rfl, hb3⟩;refine ⟨_, rfl, ?_⟩;refine hK.out _ _ ⟨(hb3.cell (p := ⟨w.heap.size, 0, none⟩) (by show w.heap.size < w2.heap.size; omega)).trans hx0, (hb3.cell (p := ⟨w.heap.size, 1, none⟩) (by show w.heap.size < w2.heap.size; omega)).trans hx1, (hb3.cell (p := ⟨w.heap.size, 2, none⟩) (by show w.heap.size < w2.heap.size; omega)).trans hx2, (hb3.cell (p := ⟨g1, 0, none⟩) ht1.lt).trans hc0⟩ (fun hHeld => ?_);clear hK K;refine norm_ (a' := ?_) ?_ ?_;rotate_left
   ·show Act.put _ (some 28) _ = _
    simp only [nrm];rfl
   refine pure_ (i := 5) (N := some 23) (v := ?_) (a' := ?_) #[yy, yy, yy, yy, yy, yy, nn, nn, nn, nn, nn, nn, nn, nn, nn, nn] rfl rfl (any_of HT_.out (by kernel_rfl)) (fun _ _ _ h => h) (Or.inl ⟨by rfl, ?_⟩) ?_ ?_;rotate_left
   ·intro w';go_simp;with_reducible rfl
   rotate_left
   ·simp only [nrm];rfl
   refine pure_ (i := 6) (N := some 29) (v := ?_) (a' := ?_) #[yy, yy, yy, yy, yy, yy, yy, nn, nn, nn, nn, nn, nn, nn, nn, nn] rfl rfl (any_of HT_.out (by kernel_rfl)) (fun _ _ _ h => h) (Or.inl ⟨by rfl, ?_⟩) ?_ ?_;rotate_left
   ·intro w';go_simp;with_reducible rfl
   rotate_left
   ·simp only [nrm];rfl
   refine pure_ (i := 7) (N := some 30) (v := ?_) (a' := ?_) #[yy, yy, yy, yy, yy, yy, yy, yy, nn, nn, nn, nn, nn, nn, nn, nn] rfl rfl (any_of HT_.out (by kernel_rfl)) (fun _ _ _ h => h) (Or.inl ⟨by rfl, ?_⟩) ?_ ?_;rotate_left
   ·intro w';go_simp;with_reducible rfl
   rotate_left
   ·simp only [nrm];rfl
   refine pure_ (i := 8) (N := some 31) (v := ?_) (a' := ?_) #[yy, yy, yy, yy, yy, yy, yy, yy, yy, nn, nn, nn, nn, nn, nn, nn] rfl rfl (any_of HT_.out (by kernel_rfl)) (fun _ _ _ h => h) (Or.inl ⟨by rfl, ?_⟩) ?_ ?_;rotate_left
   ·intro w';go_simp;with_reducible rfl
   rotate_left
   ·simp only [nrm];rfl
   refine pure_ (i := 9) (N := some 32) (v := ?_) (a' := ?_) #[yy, yy, yy, yy, yy, yy, yy, yy, yy, yy, nn, nn, nn, nn, nn, nn] rfl rfl (any_of HT_.out (by kernel_rfl)) (fun _ _ _ h => h) (Or.inl ⟨by rfl, ?_⟩) ?_ ?_;rotate_left
   ·intro w';go_simp;with_reducible rfl
   rotate_left
   ·simp only [nrm];rfl
   refine pure_ (i := 10) (N := some 33) (v := ?_) (a' := ?_) #[yy, yy, yy, yy, yy, yy, yy, yy, yy, yy, yy, nn, nn, nn, nn, nn] rfl rfl (any_of HT_.out (by kernel_rfl)) (fun _ _ _ h => h) (Or.inl ⟨by rfl, ?_⟩) ?_ ?_;rotate_left
   ·intro w';go_simp;with_reducible rfl
   rotate_left
   ·simp only [nrm];rfl
   refine pure_ (i := 11) (N := some 7) (v := ?_) (a' := ?_) #[yy, yy, yy, yy, yy, yy, yy, yy, yy, yy, yy, yy, nn, nn, nn, nn] rfl rfl (any_of HT_.out (by kernel_rfl)) (fun _ _ _ h => h) (Or.inl ⟨by rfl, ?_⟩) ?_ ?_;rotate_left
   ·intro w';go_simp;with_reducible rfl
   rotate_left
   ·simp only [nrm];rfl
   refine pure_ (i := 12) (N := some 8) (v := ?_) (a' := ?_) #[yy, yy, yy, yy, yy, yy, yy, yy, yy, yy, yy, yy, yy, nn, nn, nn] rfl rfl (any_of HT_.out (by kernel_rfl)) (fun _ _ _ h => h) (Or.inl ⟨by rfl, ?_⟩) ?_ ?_;rotate_left
   ·intro w';go_simp;with_reducible rfl
   rotate_left
   ·simp only [nrm];rfl
   refine pure_ (i := 13) (N := some 9) (v := ?_) (a' := ?_) #[yy, yy, yy, yy, yy, yy, yy, yy, yy, yy, yy, yy, yy, yy, nn, nn] rfl rfl (any_of HT_.out (by kernel_rfl)) (fun _ _ _ h => h) (Or.inl ⟨by rfl, ?_⟩) ?_ ?_;rotate_left
   ·intro w';go_simp;with_reducible rfl
   rotate_left
   ·simp only [nrm];rfl
   refine pure_ (i := 14) (N := some 10) (v := ?_) (a' := ?_) #[yy, yy, yy, yy, yy, yy, yy, yy, yy, yy, yy, yy, yy, yy, yy, nn] rfl rfl (any_of HT_.out (by kernel_rfl)) (fun _ _ _ h => h) (Or.inl ⟨by rfl, ?_⟩) ?_ ?_;rotate_left
   ·intro w';go_simp;with_reducible rfl
   rotate_left
   ·simp only [nrm];rfl
   refine pure_ (i := 15) (N := some 11) (v := ?_) (a' := ?_) #[yy, yy, yy, yy, yy, yy, yy, yy, yy, yy, yy, yy, yy, yy, yy, yy] rfl rfl (any_of HT_.out (by kernel_rfl)) (fun _ _ _ h => h) (Or.inl ⟨by rfl, ?_⟩) ?_ ?_;rotate_left
   ·intro w';go_simp;with_reducible rfl
   rotate_left
   ·simp only [nrm];rfl
   refine done_ (done_of HT_.out (by kernel_rfl)) ?_;go_wp2_with fail
   go_meet
   exact ⟨rfl, rfl, rfl, rfl, rfl, (Below.refl _ _).drew.trans hb3⟩
  case rest =>
   obtain ⟨rfl, rfl, rfl, rfl, rfl, hb3⟩ := hcut;obtain ⟨wo, rfl⟩ : ∃ wo : World, wo = wc := ⟨_, rfl⟩
   have hB3 : Below w.heap.size w wo := below_of_le hB1 hb3;have hz3 : w.heap.size + 1 < wo.heap.size := Nat.lt_of_lt_of_le hz1 hb3.size;have hy0 : wo.cell? ⟨w.heap.size, 0, none⟩ = some (.int .i64 lo) := (hb3.cell (p := ⟨w.heap.size, 0, none⟩) (by show w.heap.size < w2.heap.size; omega)).trans hx0;have hy1 : wo.cell? ⟨w.heap.size, 1, none⟩ = some (.int .i64 hi) := (hb3.cell (p := ⟨w.heap.size, 1, none⟩) (by show w.heap.size < w2.heap.size; omega)).trans hx1;have HSET3 := Lib.hid (HSET.out.below hb3);have ht3 := ht1.below hb3;clear hx0 hx1 hx2 hc0 HSET HBX ht1 hB1 hz1 hb3 HK;go_upto_region 6 with fail
   go_upto_if 36 with fail
   go_cut [8, 11, 12] (fun v8 v11 v12 wd => ∃ high' v' step : Int, v8 = .int .i64 high' ∧ v11 = .int .i64 v' ∧ v12 = .int .i64 step ∧ Hid (Mid (rangeS val lo hi s.data.toList) lo hi low high' star step v') ∧ Below wo.heap.size wo wd)
   case first =>
    match hps : ps, HN.out, HP.out, HPB.out with
    | [], hl, hp1, _ =>
     have hq : ((n1 : Int) == 2) = false := by rw [hl]; rfl
     go_wp2_with fail
     go_meet
     exact ⟨high, v, 1, rfl, rfl, rfl, Lib.hid (mid_one hp1 HE.out), Below.refl _ _⟩
    | [t], hl, hp1, hpb =>
     have hq : ((n1 : Int) == 2) = true := by rw [hl]; rfl
     have hq1 : 1 < n1 := by rw [hl]; simp
     have hc1 : wo.cell? ⟨g1, 1, none⟩ = some (.string (ba t)) := ht3.at_ 1 _ (by rw [hpb]; rfl);obtain ⟨ks, n, v2, hks, hvs2, hf2, hb2⟩ := step_is (ba t) (HSZ.out t (by rw [hp1]; simp));rw [ba_list] at hf2 hb2
     obtain ⟨v3, hw3, hvs3, hw0, hw1, _, _⟩ := worse_f v v2 HE.out.vs hvs2;have HM := Lib.hid (mid_two h2 hp1 HSG.out HE.out hvs2 hf2 hb2 hvs3 hw0 hw1);have HC1 := Lib.hid (fun w' => spec_CronStep.calls ks (ba t) n v2 w' hks);have HC2 := Lib.hid (fun w' => spec_worse.calls v v2 v3 w' hw3);have hz3' : w.heap.size < wo.heap.size := by omega
     clear hl hp1 hpb hks hvs2 hf2 hb2 hw3 hvs3 hw0 hw1;cases single <;> cases star
     all_goals
      go_wp2_with (first | (go_at_call 121; go_must (refine (HC1.out _).mono ?_); rintro e w4 ⟨rfl, hb4⟩; obtain ⟨hl1, hl2⟩ := bcell hb4; have hz4 : w.heap.size < w4.heap.size := Nat.lt_of_lt_of_le hz3' hb4.size) | (go_at_call 57; go_must (refine (HC2.out _).mono ?_); rintro e w5 ⟨rfl, hb5⟩; obtain ⟨hl3, hl4⟩ := bcell hb5))
      go_meet
      exact ⟨_, v3, n, rfl, rfl, rfl, Lib.hid (by simpa using HM.out), below_of_le hb4 hb5⟩
    | t :: t2 :: r, hl, _, _ => exact absurd hl (by simp; omega)
   case rest =>
    obtain ⟨high', v', step, rfl, rfl, rfl, HM, hb4⟩ := hcut;have hB4 : Below w.heap.size w wc := below_of_le hB3 hb4;have hz4 : w.heap.size + 1 < wc.heap.size := Nat.lt_of_lt_of_le hz3 hb4.size;have hd0 : wc.cell? ⟨w.heap.size, 0, none⟩ = some (.int .i64 lo) := (hb4.cell (p := ⟨w.heap.size, 0, none⟩) (by show w.heap.size < wo.heap.size; omega)).trans hy0;have hd1 : wc.cell? ⟨w.heap.size, 1, none⟩ = some (.int .i64 hi) := (hb4.cell (p := ⟨w.heap.size, 1, none⟩) (by show w.heap.size < wo.heap.size; omega)).trans hy1;have HS := Lib.hid (HSET3.out.below hb4);clear hy0 hy1 HSET3 ht3 hz3 hB3 hb4 HE HSG HP HPB HN HSZ;by_cases hv : v' = 1
    ·subst hv;obtain ⟨k, rfl, hk1, hk2, hcore⟩ := HM.out.fine rfl;clear HM
     -- in or out
     by_cases hout : low < lo ∨ (hi : Int) < high' ∨ high' < low
     ·have HX : Hid (rangeS val lo hi s.data.toList = none) := by
       rcases hcore with ⟨_, e1, e2, _⟩ | ⟨_, ra, rb, ha, hb, hr⟩
       ·omega
       ·exact Lib.hid (hr.trans (core_out h2 ha hb hout))
      clear hcore;by_cases x1 : low < lo
      ·go_wp2_with (first | (refine wpList_build_set rfl rfl ?_) | (refine wpList_store_set rfl _ _ rfl (w.heap.size + 1) false noSet rfl rfl _ _ HS.out ?_))
       refine bodyPost_ret (v := .tuple #[.agg (setCells false noSet), .int .i64 0]) ?_ rfl ?_
       ·exact results_set (fn := Tryz.f58) (p := 4) (u := 5) rfl _ _ (w.heap.size + 1) false noSet rfl (HS.out.store _ _)
       exact ⟨false, noSet, 0, rfl, item_zero (.inl rfl) (fun _ => HX.out), below_setRow hB4 (by omega) _⟩
      ·by_cases x2 : (hi : Int) < high'
       ·go_wp2_with (first | (refine wpList_build_set rfl rfl ?_) | (refine wpList_store_set rfl _ _ rfl (w.heap.size + 1) false noSet rfl rfl _ _ HS.out ?_))
        refine bodyPost_ret (v := .tuple #[.agg (setCells false noSet), .int .i64 0]) ?_ rfl ?_
        ·exact results_set (fn := Tryz.f58) (p := 4) (u := 5) rfl _ _ (w.heap.size + 1) false noSet rfl (HS.out.store _ _)
        exact ⟨false, noSet, 0, rfl, item_zero (.inl rfl) (fun _ => HX.out), below_setRow hB4 (by omega) _⟩
       ·have x3 : high' < low := by omega
        clear hout;go_wp2_with (first | (refine wpList_build_set rfl rfl ?_) | (refine wpList_store_set rfl _ _ rfl (w.heap.size + 1) false noSet rfl rfl _ _ HS.out ?_))
        refine bodyPost_ret (v := .tuple #[.agg (setCells false noSet), .int .i64 0]) ?_ rfl ?_
        ·exact results_set (fn := Tryz.f58) (p := 4) (u := 5) rfl _ _ (w.heap.size + 1) false noSet rfl (HS.out.store _ _)
        exact ⟨false, noSet, 0, rfl, item_zero (.inl rfl) (fun _ => HX.out), below_setRow hB4 (by omega) _⟩
     ·obtain ⟨a, b, rfl, rfl, hab, hbh, hX⟩ : ∃ a b : Nat, low = a ∧ high' = b ∧ a ≤ b ∧ b ≤ hi ∧ rangeS val lo hi s.data.toList = some (setBits (star && (k == 1)) (stepSet a b k)) := by
       rcases hcore with ⟨e0, e1, e2, hr⟩ | ⟨e0, ra, rb, ha, hb, hr⟩
       ·refine ⟨lo, hi, e1, e2, h1, Nat.le_refl _, ?_⟩;rw [hr, star_in h1 hk1, e0];unfold setBits;rw [stepSet_bits h2];by_cases hk : 1 < k
        ·rw [if_pos hk, show (k == 1) = false by simp; omega]; rfl
        ·rw [if_neg hk, show k = 1 by omega]; rfl
       ·obtain ⟨a, b, ea, eb, hab, hbh, hc⟩ := core_in (lo := lo) h2 ha hb (by omega) (by omega) (by omega) hk1;refine ⟨a, b, ea, eb, hab, hbh, ?_⟩;rw [hr, hc, e0];unfold setBits;rw [stepSet_bits (by omega)];rfl
      have HX := Lib.hid hX;have ho1 : (lo : Int) ≤ a := by omega
      have ho2 : (b : Int) ≤ hi := by omega
      have ho3 : (a : Int) ≤ b := by omega
      clear hcore hX hout;go_wp2_with fail
      have hsz0 : w.heap.size + 1 < wc.heap.size := hz4;go_loopw [16] (fun v16 wr => ∃ n : Nat, v16 = .int .i64 n ∧ a ≤ n ∧ n ≤ b + 1 ∧ Hid (IsSet wr wc.heap.size false (fun i => stepSet a b k i && decide (i < n))) ∧ Hid (IsSet wr (w.heap.size + 1) false noSet) ∧ Below w.heap.size w wr) (fun v16 _ => b + 1 - (intOf v16).toNat)
      case atStart =>
       refine ⟨a, rfl, Nat.le_refl _, by omega, Lib.hid ?_, Lib.hid ?_, ?_⟩
       ·refine (heap_alloc_new wc _).trans ?_;rw [stepSet_start];kernel_rfl
       ·exact HS.out.below ((Below.refl _ _).alloc (Nat.le_refl _) _)
       ·exact hB4.alloc (by omega) _
      case round =>
       obtain ⟨n, rfl, hna, hnb, HI, HR, hBr⟩ := hrel;by_cases hle : n ≤ b
       ·have hc := HI.out.cellAt n (by omega);have hf := HI.out.free (n + 1);have hc2 : wr.cell? ⟨wc.heap.size, 1 + n, none⟩ = some (.bool (stepSet a b k n && decide (n < n))) := by rw [Nat.add_comm]; exact hc
        have hf2 : wr.frozen? ⟨wc.heap.size, 1 + n, none⟩ = false := by rw [Nat.add_comm]; exact hf
        have hlt63 : n < 63 := by omega
        clear hc hf
        have hmod : (((n : Int) - a) % k == 0) = ((n - a) % k == 0) := by
         rw [show ((n : Int) - a) = ((n - a : Nat) : Int) by omega];rw [Bool.eq_iff_iff];simp only [beq_iff_eq];omega
        have hp0 : (0 : Int) ≤ (n : Int) - a := by omega
        go_wp2_with fail
        go_roundw
        case rel =>
         refine ⟨n + 1, by go_num, by omega, by omega, Lib.hid ?_, Lib.hid ?_, ?_⟩
         ·have h := HI.out.put n hlt63 ((n - a) % k == 0);rw [stepSet_next hna hle, Nat.add_comm n 1] at h;rw [Nat.add_comm n 1];exact h
         ·exact HR.out.other (by show w.heap.size + 1 ≠ wc.heap.size; omega) _
         ·exact hBr.setCell (by show w.heap.size ≤ wc.heap.size; omega) _
        case measure => simp [intOf]; omega
       ·have he := HI.out;rw [stepSet_end (show b < n by omega)] at he;have hc := he.cell0;have hf := he.free 0
        have hk1' : ((k : Int) == 1) = (k == 1) := by
         rw [Bool.eq_iff_iff];simp only [beq_iff_eq];omega
        cases star with
        | true =>
         have HL := Lib.hid (he.putStar (k == 1));have HR2 := Lib.hid (HR.out.other (a := ⟨wc.heap.size, 0, none⟩) (by show w.heap.size + 1 ≠ wc.heap.size; omega) (.bool (k == 1)));clear he;go_wp2_with (first | (refine wpList_load_set rfl _ rfl wc.heap.size (k == 1) (stepSet a b k) rfl HL.out ?_) | (refine wpList_store_set rfl _ _ rfl (w.heap.size + 1) (k == 1) (stepSet a b k) rfl rfl _ _ HR2.out ?_))
         refine bodyPost_ret (v := .tuple #[.agg (setCells (k == 1) (stepSet a b k)), .int .i64 1]) ?_ rfl ?_
         ·exact results_set (fn := Tryz.f58) (p := 4) (u := 5) rfl _ _ (w.heap.size + 1) _ _ rfl (HR2.out.store _ _)
         exact ⟨_, _, 1, rfl, ⟨by omega, fun h => by omega, fun _ => HX.out, fun h => absurd rfl h⟩, below_setRow (hBr.setCell (by show w.heap.size ≤ wc.heap.size; omega) _) (by omega) _⟩
        | false =>
         have HL := Lib.hid (he.putStar false);have HR2 := Lib.hid (HR.out.other (a := ⟨wc.heap.size, 0, none⟩) (by show w.heap.size + 1 ≠ wc.heap.size; omega) (.bool false));clear he;go_wp2_with (first | (refine wpList_load_set rfl _ rfl wc.heap.size false (stepSet a b k) rfl HL.out ?_) | (refine wpList_store_set rfl _ _ rfl (w.heap.size + 1) false (stepSet a b k) rfl rfl _ _ HR2.out ?_))
         refine bodyPost_ret (v := .tuple #[.agg (setCells false (stepSet a b k)), .int .i64 1]) ?_ rfl ?_
         ·exact results_set (fn := Tryz.f58) (p := 4) (u := 5) rfl _ _ (w.heap.size + 1) _ _ rfl (HR2.out.store _ _)
         exact ⟨_, _, 1, rfl, ⟨by omega, fun h => by omega, fun _ => HX.out, fun h => absurd rfl h⟩, below_setRow (hBr.setCell (by show w.heap.size ≤ wc.heap.size; omega) _) (by omega) _⟩
    ·have HX : Hid (v' = 0 → rangeS val lo hi s.data.toList = none) := Lib.hid HM.out.bad;have hv0 : v' = 0 ∨ v' = 2 := by rcases HM.out.vs with h | h | h <;> omega
     have hne : (v' != 1) = true := by simpa using hv
     have HV0 := Lib.hid hv0;clear HM hv hv0;go_wp2_with (first | (refine wpList_build_set rfl rfl ?_) | (refine wpList_store_set rfl _ _ rfl (w.heap.size + 1) false noSet rfl rfl _ _ HS.out ?_))
     refine bodyPost_ret (v := .tuple #[.agg (setCells false noSet), .int .i64 v']) ?_ rfl ?_
     ·exact results_set (fn := Tryz.f58) (p := 4) (u := 5) rfl _ _ (w.heap.size + 1) false noSet rfl (HS.out.store _ _)
     exact ⟨false, noSet, v', rfl, item_zero HV0.out HX.out, below_setRow hB4 (by omega) _⟩
end Go.Proofs.YtmecbmgfacpecaaGreatDoor.Cron
namespace Go.Proofs.YtmecbmgfacpecaaGreatDoor.Cron
open Go Go.RowKit Go.Proofs.YtmecbmgfacpecaaGreatDoor.Text Go.Proofs.YtmecbmgfacpecaaGreatDoor.Bits
theorem reads_nil : Reads none mp G := by
 refine ⟨fun h hb => h.below hb, fun h => h, fun h => mp_le h, fun s w hs hg => ?_⟩;cases h : mp s.data.toList with
 | none => exact (valueNil_bad s (by omega) h w hg).mono fun e w' ⟨t, x, he, hb⟩ => ⟨⟨t, x, he⟩, hb⟩
 | some n => exact (valueNil_ok s (by omega) n h w).mono fun e w' ⟨he, hb⟩ => ⟨he, hb⟩
end Go.Proofs.YtmecbmgfacpecaaGreatDoor.Cron
namespace Go.Proofs.YtmecbmgfacpecaaGreatDoor.Cron
open Go Go.RowKit Go.Proofs.YtmecbmgfacpecaaGreatDoor.Text Go.Proofs.YtmecbmgfacpecaaGreatDoor.Bits Go.Proofs.YtmecbmgfacpecaaGreatDoorW.PrintWords Go.Proofs.YtmecbmgfacpecaaGreatDoorW.PrintLast Go.Proofs.YtmecbmgfacpecaaGreatDoorW.PrintMore Go.Proofs.YtmecbmgfacpecaaGreatDoor.Pr
def loK (k : Nat) : Nat := if k = 3 ∨ k = 4 then 1 else 0
def hiK (k : Nat) : Nat := if k = 2 then 23 else if k = 3 then 31 else if k = 4 then 12 else if k = 5 then 6 else 59
theorem loK_le (k : Nat) : loK k ≤ hiK k := by unfold loK hiK; split <;> (repeat' split) <;> omega
theorem hiK_le (k : Nat) : hiK k ≤ 62 := by unfold hiK; (repeat' split) <;> omega
theorem drawn_below {w w' : World} (h : Drawn0 w w') : Below w.heap.size w w' := by
 first
  | exact h
  | (obtain ⟨n, rfl⟩ := h; exact pw_below_drewN (Below.refl _ _) n)
theorem high_f (k : Nat) : spec_CronHigh.f k = some (hiK k : Nat) := by
 unfold spec_CronHigh.f hiK;by_cases h2 : k = 2
 ·subst h2; rfl
 ·rw [if_neg (by omega), if_neg h2];by_cases h3 : k = 3
  ·subst h3; rfl
  ·rw [if_neg (by omega), if_neg h3];by_cases h4 : k = 4
   ·subst h4; rfl
   ·rw [if_neg (by omega), if_neg h4];by_cases h5 : k = 5
    ·subst h5; rfl
    ·rw [if_neg (by omega), if_neg h5]; rfl
theorem low_f (k : Nat) : spec_CronLow.f k = some (loK k : Nat) := by
 unfold spec_CronLow.f loK;by_cases h3 : k = 3
 ·subst h3; rfl
 ·rw [if_neg (by omega)];by_cases h4 : k = 4
  ·subst h4; rfl
  ·rw [if_neg (by omega), if_neg (by omega)]; rfl
theorem boundsOf_any (k : Nat) (w : World) : Calls Tryz.prog 22 #[.int .i64 k] w fun e w' => e = .returned (.agg #[.int .i64 (loK k : Nat), .int .i64 (hiK k : Nat), .int .i64 k]) ∧ Below w.heap.size w w' :=
 spec_CronBoundsOf.calls k _ _ _ w (by unfold spec_CronBoundsOf.f; rw [low_f, high_f]; rfl)
theorem sizeBounds : (Tryz.prog.info? 185).map (·.size) = some 3 := by kernel_rfl
theorem results_bounds {fn : Func} {p : Tmp} (h : fn.results = #[.cell p 185]) (tmps : Array Value) (w : World) (g : Nat) (cs : Array Value)
  (hp : tmps.getD p undef = .pointer (some ⟨g, 0, none⟩)) (hs : w.heap[g]? = some (.cells cs 185 (0, 0))) (hz : cs.size = 3) :
  (results fn tmps).run Tryz.prog w = .ok (.agg cs) w := by
 have hp' : tmps[p]?.getD undef = .pointer (some ⟨g, 0, none⟩) := by simpa using hp
 have hl : (loadVar 185 ⟨g, 0, none⟩).run Tryz.prog w = .ok (.agg cs) w := run_loadVar_row w g _ _ _ _ _ hs Tryz.underlying185 rfl (by rw [sizeBounds, hz]);simp only [results, h];simp [asAddr, hp', hl]
theorem store3_row {w : World} {g : Nat} {a b c x y z : Value} {T : TypeId} (h : w.heap[g]? = some (.cells #[a, b, c] T (0, 0))) :
  (((w.setCell ⟨g, 0, none⟩ x).setCell ⟨g, 1, none⟩ y).setCell ⟨g, 2, none⟩ z).heap[g]? = some (.cells #[x, y, z] T (0, 0)) := by
 have h1 := heap_setCell_same w g 0 _ _ x h;have h2 := heap_setCell_same _ g 1 _ _ y h1;have h3 := heap_setCell_same _ g 2 _ _ z h2;simpa using h3
theorem seconds_any (w : World) : Calls Tryz.prog 106 #[] w fun e w' => e = .returned (.agg #[.int .u64 0, .int .u64 59, .map none]) ∧ Below w.heap.size w w' := by
 go_enter Tryz.func106, Tryz.ntmps106;go_wp2
 refine bodyPost_ret (v := .agg #[.int .u64 0, .int .u64 59, .map none]) ?_ rfl ?_
 ·exact results_bounds (fn := Tryz.f106) (p := 0) rfl _ _ w.heap.size _ rfl (heap_alloc_new w _) rfl
 exact ⟨rfl, (Below.refl _ _).alloc (Nat.le_refl _) _⟩
theorem minutes_any (w : World) : Calls Tryz.prog 107 #[] w fun e w' => e = .returned (.agg #[.int .u64 0, .int .u64 59, .map none]) ∧ Below w.heap.size w w' := by
 go_enter Tryz.func107, Tryz.ntmps107;go_wp2
 refine bodyPost_ret (v := .agg #[.int .u64 0, .int .u64 59, .map none]) ?_ rfl ?_
 ·exact results_bounds (fn := Tryz.f107) (p := 0) rfl _ _ w.heap.size _ rfl (heap_alloc_new w _) rfl
 exact ⟨rfl, (Below.refl _ _).alloc (Nat.le_refl _) _⟩
theorem hours_any (w : World) : Calls Tryz.prog 108 #[] w fun e w' => e = .returned (.agg #[.int .u64 0, .int .u64 23, .map none]) ∧ Below w.heap.size w w' := by
 go_enter Tryz.func108, Tryz.ntmps108;go_wp2
 refine bodyPost_ret (v := .agg #[.int .u64 0, .int .u64 23, .map none]) ?_ rfl ?_
 ·exact results_bounds (fn := Tryz.f108) (p := 0) rfl _ _ w.heap.size _ rfl (heap_alloc_new w _) rfl
 exact ⟨rfl, (Below.refl _ _).alloc (Nat.le_refl _) _⟩
theorem dom_any (w : World) : Calls Tryz.prog 109 #[] w fun e w' => e = .returned (.agg #[.int .u64 1, .int .u64 31, .map none]) ∧ Below w.heap.size w w' := by
 go_enter Tryz.func109, Tryz.ntmps109;go_wp2
 refine bodyPost_ret (v := .agg #[.int .u64 1, .int .u64 31, .map none]) ?_ rfl ?_
 ·exact results_bounds (fn := Tryz.f109) (p := 0) rfl _ _ w.heap.size _ rfl (heap_alloc_new w _) rfl
 exact ⟨rfl, (Below.refl _ _).alloc (Nat.le_refl _) _⟩
end Go.Proofs.YtmecbmgfacpecaaGreatDoor.Cron
