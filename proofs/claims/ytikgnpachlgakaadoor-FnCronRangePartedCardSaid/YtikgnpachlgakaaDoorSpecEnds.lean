/- What the reference's cronEnds answers, held against the program's ends of an item. -/
import Derived.Test.YtikgnpachlgakaaDoorSpecNumber
import Derived.Test.YtikgnpachlgakaaDoorPrA
namespace Go.Proofs.YtikgnpachlgakaaDoor.Cron
open Go Go.RowKit Go.Proofs.YtikgnpachlgakaaDoorW.PrintWords Go.Proofs.YtikgnpachlgakaaDoorW.PrintMore Go.Proofs.YtikgnpachlgakaaDoor.Pr Go.Proofs.YtikgnpachlgakaaDoor.Text
set_option linter.unusedVariables false

def both (ra rb : Option Nat) : Option (Nat × Nat × Bool) :=
  match ra, rb with
  | some a, some b => some (a, b, false)
  | _, _ => none

/-- what the reference's reading of an item's ends says of the program's -/
structure EndsIs (r : Option (Nat × Nat × Bool)) (lo hi : Nat) (low high : Int) (star single : Bool) (v : Int) : Prop where
  vs : v = 0 ∨ v = 1 ∨ v = 2
  bad : v = 0 → r = none
  fine : v = 1 → (star = true ∧ low = lo ∧ high = hi ∧ r = some (lo, hi, true)) ∨ (star = false ∧ ∃ ra rb, Rel ra low ∧ Rel rb high ∧ (single = true → ra = rb) ∧ r = both ra rb)

theorem worse_f (a b : Int) (ha : a = 0 ∨ a = 1 ∨ a = 2) (hb : b = 0 ∨ b = 1 ∨ b = 2) : ∃ v, spec_worse.f a b = some v ∧ (v = 0 ∨ v = 1 ∨ v = 2) ∧ (v = 0 → a = 0 ∨ b = 0) ∧ (v = 1 → a = 1 ∧ b = 1) ∧ (a = 0 ∨ b = 0 → v = 0) ∧ (a = 1 ∧ b = 1 → v = 1) := by
  unfold spec_worse.f mx
  rcases ha with rfl | rfl | rfl <;> rcases hb with rfl | rfl | rfl <;> simp

/-- what a reading of a value, a number or a name, says -/
structure ValSays (r : Option Nat) (n v : Int) : Prop where
  lo : 0 ≤ n
  hi : n ≤ 1099511627776
  vs : v = 0 ∨ v = 1 ∨ v = 2
  fine : v = 1 → Rel r n
  bad : v = 0 → r = none ∧ n = 0

theorem ValIs.says {r : Option Nat} {n v : Int} (h : ValIs r n v) : ValSays r n v := ⟨h.lo, h.hi, h.vs, h.fine, h.bad⟩

def ReadsLike (val : List UInt8 → Option Nat) (kind : Int) : Prop :=
  ∀ s : ByteArray, s.size ≤ 4294967296 → ∃ k n v, spec_CronValue.f k kind s = some (n, v) ∧ ValSays (val s.data.toList) n v

theorem value_plain {kind : Int} (h4 : kind ≠ 4) (h5 : kind ≠ 5) : ReadsLike mp kind := by
  intro s hs
  obtain ⟨k, n, v, hk, hv⟩ := number_is s hs
  refine ⟨k + 2, n, v, ?_, hv.says⟩
  unfold spec_CronValue.f
  rw [if_neg h4]
  simp only [spec_CronValue.j0, spec_CronValue.j2]
  have : (kind == 5) = false := by simpa using h5
  rw [this]
  simp only [Bool.false_eq_true, if_false]
  rw [hk]
  rfl

theorem rdOf_zero {x : ByteArray} {l : List ByteArray} : rdOf ByteArray.empty (x :: l) 0 = x := rfl
theorem rdOf_one {x y : ByteArray} {l : List ByteArray} : rdOf ByteArray.empty (x :: y :: l) 1 = y := rfl

theorem ends_is (val : List UInt8 → Option Nat) (kind : Int) (HV : ReadsLike val kind) (lo hi : Nat) (p : ByteArray) (hp : p.size ≤ 4294967296) :
    ∃ k low high star single v, spec_cronEnds.f k lo hi kind p = some (low, high, star, single, v) ∧ single = ((splitL 45 p.data.toList).length == 1) ∧ EndsIs (ends val lo hi (splitL 45 p.data.toList)) lo hi low high star single v := by
  obtain ⟨K, hK⟩ := pieces_f 45 p (by omega)
  obtain ⟨q, qs, hqs⟩ : ∃ q qs, splitL 45 p.data.toList = q :: qs := by
    cases h : splitL 45 p.data.toList with
    | nil => exact absurd h (splitL_ne _ _)
    | cons q qs => exact ⟨q, qs, rfl⟩
  have hq : splitB 45 p = ba q :: qs.map ba := by rw [splitB, hqs]; rfl
  have hsz : ∀ x ∈ splitL 45 p.data.toList, (ba x).size ≤ 4294967296 := by
    intro x hx
    have := splitL_size 45 _ x hx
    rw [← size_list] at this
    rw [ba_size]
    omega
  rw [hq] at hK
  have hlen : (((ba q :: qs.map ba).length : Nat) : Int) = (qs.length : Int) + 1 := by simp
  have hsg : ((((ba q :: qs.map ba).length : Nat) : Int) == 1) = ((splitL 45 p.data.toList).length == 1) := by
    rw [hlen, hqs]
    cases qs with
    | nil => rfl
    | cons a t => simp; omega
  by_cases hst : q = [42] ∨ q = [63]
  · -- a star
    have hends := ends_star (val := val) (lo := lo) (hi := hi) qs hst
    have key : ∀ k, K + 2 ≤ k → ∃ v : Int, (v = 1 ∨ v = 2) ∧ spec_cronEnds.f k lo hi kind p = some ((lo : Int), (hi : Int), true, (splitL 45 p.data.toList).length == 1, v) := by
      intro k hk
      have hk' := hK k (by omega)
      obtain ⟨k, rfl⟩ : ∃ m, k = m + 1 := ⟨k - 1, by omega⟩
      unfold spec_cronEnds.f
      have hk2 : spec_cronPieces.f (k + 1) p 45 = some (ba q :: qs.map ba) := hk'
      rw [hk2]
      simp only [Option.bind_some]
      rw [if_pos (by simp)]
      have hj : ∀ b, b = true → ∃ v : Int, (v = 1 ∨ v = 2) ∧ spec_cronEnds.j0 (k + 1) (ba q :: qs.map ba) b lo hi kind = some ((lo : Int), (hi : Int), true, (splitL 45 p.data.toList).length == 1, v) := by
        rintro _ rfl
        simp only [spec_cronEnds.j0, if_true, hsg]
        split
        · exact ⟨2, .inr rfl, rfl⟩
        · rw [if_pos (by simp)]
          split
          · split
            · exact ⟨1, .inl rfl, rfl⟩
            · split
              · exact ⟨1, .inl rfl, rfl⟩
              · exact ⟨2, .inr rfl, rfl⟩
          · exact ⟨1, .inl rfl, rfl⟩
      by_cases h42 : (rdOf ByteArray.empty (ba q :: qs.map ba) 0).toList = ([42] : List UInt8)
      · rw [if_pos h42]
        exact hj true rfl
      · rw [if_neg h42]
        refine hj _ ?_
        rcases hst with h | h
        · exact absurd (by rw [rdOf_zero, toList_data, ba_list, h]) h42
        · rw [rdOf_zero, toList_data, ba_list, h]; rfl
    obtain ⟨v, hv, hf⟩ := key (K + 2) (Nat.le_refl _)
    refine ⟨K + 2, lo, hi, true, _, v, hf, rfl, ?_⟩
    rw [hqs, hends]
    exact ⟨by omega, fun h => by omega, fun _ => .inl ⟨rfl, rfl, rfl, rfl⟩⟩
  · have hends := ends_else (val := val) (lo := lo) (hi := hi) qs hst
    have hn42 : ∀ l, ¬ (rdOf ByteArray.empty (ba q :: l) 0).toList = ([42] : List UInt8) := fun l h => hst (.inl (by rw [rdOf_zero, toList_data, ba_list] at h; exact h))
    have hn63 : ∀ l, ((rdOf ByteArray.empty (ba q :: l) 0).toList == ([63] : List UInt8)) = false := fun l => eq63_false (fun h => hst (.inr h))
    obtain ⟨k1, n1, v1, hk1, hv1⟩ := HV (ba q) (hsz q (by rw [hqs]; simp))
    rw [ba_list] at hv1
    have hmono1 : ∀ k, k1 ≤ k → spec_CronValue.f k kind (ba q) = some (n1, v1) := fun k hk => at_rounds (fun k => spec_CronValue.mono kind (ba q) k) hk hk1
    rw [hqs, hends]
    cases qs with
    | nil =>
      have key : ∀ k, K + k1 + 2 ≤ k → spec_cronEnds.f k lo hi kind p = some (n1, n1, false, true, v1) := by
        intro k hk
        have hk2 : spec_cronPieces.f k p 45 = some [ba q] := hK k (by omega)
        unfold spec_cronEnds.f
        rw [hk2]
        simp only [Option.bind_some]
        rw [if_pos (by simp), if_neg (hn42 _), hn63]
        obtain ⟨k, rfl⟩ : ∃ m, k = m + 1 := ⟨k - 1, by omega⟩
        simp only [spec_cronEnds.j0, Bool.false_eq_true, if_false, rdOf_zero]
        rw [if_pos (by simp), hmono1 k (by omega)]
        simp
      refine ⟨_, n1, n1, false, true, v1, key _ (Nat.le_refl _), rfl, ⟨hv1.vs, fun h => ?_, fun h => .inr ⟨rfl, val q, val q, hv1.fine h, hv1.fine h, fun _ => rfl, ?_⟩⟩⟩
      · rw [(hv1.bad h).1]; rfl
      · cases val q <;> rfl
    | cons e2 qs =>
      cases qs with
      | nil =>
        obtain ⟨k2, n2, v2, hk2, hv2⟩ := HV (ba e2) (hsz e2 (by rw [hqs]; simp))
        rw [ba_list] at hv2
        have hmono2 : ∀ k, k2 ≤ k → spec_CronValue.f k kind (ba e2) = some (n2, v2) := fun k hk => at_rounds (fun k => spec_CronValue.mono kind (ba e2) k) hk hk2
        obtain ⟨v, hw, hvs, h0, h1, _, _⟩ := worse_f v1 v2 hv1.vs hv2.vs
        have key : ∀ k, K + k1 + k2 + 2 ≤ k → spec_cronEnds.f k lo hi kind p = some (n1, n2, false, false, v) := by
          intro k hk
          have hk2 : spec_cronPieces.f k p 45 = some [ba q, ba e2] := hK k (by omega)
          unfold spec_cronEnds.f
          rw [hk2]
          simp only [Option.bind_some]
          rw [if_pos (by simp), if_neg (hn42 _), hn63]
          obtain ⟨k, rfl⟩ : ∃ m, k = m + 1 := ⟨k - 1, by omega⟩
          simp only [spec_cronEnds.j0, Bool.false_eq_true, if_false, rdOf_zero, rdOf_one]
          rw [if_pos (by simp), hmono1 k (by omega)]
          simp only [Option.bind_some]
          rw [if_neg (by simp), if_pos (by simp), if_pos (by simp), hmono2 k (by omega)]
          simp only [Option.bind_some]
          rw [hw]
          rfl
        refine ⟨_, n1, n2, false, false, v, key _ (Nat.le_refl _), rfl, ⟨hvs, fun h => ?_, fun h => .inr ⟨rfl, val q, val e2, hv1.fine (h1 h).1, hv2.fine (h1 h).2, (fun e => by cases e), ?_⟩⟩⟩
        · rcases h0 h with h | h
          · rw [(hv1.bad h).1]; rfl
          · cases hq' : val q with
            | none => rfl
            | some a => simp only [endsRest, (hv2.bad h).1]
        · cases val q <;> simp only [endsRest, both]
          cases val e2 <;> rfl
      | cons e3 qs =>
        have key : ∀ k, K + k1 + 2 ≤ k → spec_cronEnds.f k lo hi kind p = some (0, 0, false, false, 0) := by
          intro k hk
          have hk2 : spec_cronPieces.f k p 45 = some (ba q :: ba e2 :: ba e3 :: qs.map ba) := hK k (by omega)
          unfold spec_cronEnds.f
          rw [hk2]
          simp only [Option.bind_some]
          rw [if_pos (by simp; omega), if_neg (hn42 _), hn63]
          obtain ⟨k, rfl⟩ : ∃ m, k = m + 1 := ⟨k - 1, by omega⟩
          simp only [spec_cronEnds.j0, Bool.false_eq_true, if_false, rdOf_zero]
          rw [if_pos (by simp; omega), hmono1 k (by omega)]
          simp only [Option.bind_some]
          rw [if_neg (by simp; omega), if_neg (by simp; omega)]
        refine ⟨_, 0, 0, false, false, 0, key _ (Nat.le_refl _), by simp, ⟨.inl rfl, fun _ => ?_, fun h => by omega⟩⟩
        cases val q <;> rfl

end Go.Proofs.YtikgnpachlgakaaDoor.Cron
