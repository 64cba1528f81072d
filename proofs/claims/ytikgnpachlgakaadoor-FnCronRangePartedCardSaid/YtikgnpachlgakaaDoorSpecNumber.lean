/- What the reference's CronNumber and CronStep answer, held against mustParseInt's number. -/
import Derived.Test.YtikgnpachlgakaaDoorRange
import Derived.Test.YtikgnpachlgakaaDoorPrA
namespace Go.Proofs.YtikgnpachlgakaaDoor.Cron
open Go Go.RowKit Go.Proofs.YtikgnpachlgakaaDoorW.PrintWords Go.Proofs.YtikgnpachlgakaaDoorW.PrintMore Go.Proofs.YtikgnpachlgakaaDoor.Pr Go.Proofs.YtikgnpachlgakaaDoor.Text
set_option linter.unusedVariables false

/-- a number of the reference and the program's: the same up to 2^40, from there on not told apart -/
def Rel (r : Option Nat) (n : Int) : Prop := (∃ m : Nat, r = some m ∧ n = min (m : Int) 1099511627776) ∨ (r = none ∧ n = 1099511627776)

/-- what a reading of the reference says of the program's -/
structure ValIs (r : Option Nat) (n v : Int) : Prop where
  lo : 0 ≤ n
  hi : n ≤ 1099511627776
  vs : v = 0 ∨ v = 1 ∨ v = 2
  fine : v = 1 → Rel r n
  bad : v = 0 → r = none ∧ n = 0
  zero : v = 2 → n = 0 → r = some 0

def digitsFold (n : Nat) : List UInt8 → Option Nat
  | [] => some n
  | c :: r => if 48 ≤ c.toNat ∧ c.toNat ≤ 57 then digitsFold (min (10 * n + (c.toNat - 48)) 1099511627776) r else none

theorem digitsFold_le : ∀ (l : List UInt8) (n m : Nat), n ≤ 1099511627776 → digitsFold n l = some m → m ≤ 1099511627776
  | [], n, m, h, e => by injection e with e; omega
  | c :: r, n, m, h, e => by
    unfold digitsFold at e
    split at e
    · exact digitsFold_le r _ m (by omega) e
    · cases e

theorem digitsFold_top : ∀ (l : List UInt8) (m : Nat), digitsFold 1099511627776 l = some m → m = 1099511627776
  | [], m, e => by injection e with e; omega
  | c :: r, m, e => by
    unfold digitsFold at e
    split at e
    · rw [Nat.min_eq_right (by omega)] at e
      exact digitsFold_top r m e
    · cases e

theorem fold_none : ∀ (l : List UInt8) (acc : Nat), digitsFold (min acc 1099511627776) l = none → ∀ u, Lib.parseUint10 acc l ≠ .ok u
  | [], acc, e, u => by cases e
  | c :: r, acc, e, u => by
    unfold digitsFold at e
    unfold Lib.parseUint10
    by_cases h : 48 ≤ c.toNat ∧ c.toNat ≤ 57
    · rw [if_pos h] at e ⊢
      split
      · intro x; cases x
      · split
        · intro x; cases x
        · apply fold_none r
          rw [← e]
          congr 1
          omega
    · rw [if_neg h]
      intro x; cases x

theorem fold_some : ∀ (l : List UInt8) (acc n : Nat), digitsFold (min acc 1099511627776) l = some n → (∃ u, Lib.parseUint10 acc l = .ok u ∧ n = min u 1099511627776) ∨ (Lib.parseUint10 acc l = .range ∧ n = 1099511627776)
  | [], acc, n, e => by
    left
    injection e with e
    exact ⟨acc, rfl, e.symm⟩
  | c :: r, acc, n, e => by
    unfold digitsFold at e
    unfold Lib.parseUint10
    by_cases h : 48 ≤ c.toNat ∧ c.toNat ≤ 57
    · rw [if_pos h] at e ⊢
      split
      · right
        refine ⟨rfl, digitsFold_top r n ?_⟩
        rw [← e]
        congr 1
        omega
      · split
        · right
          refine ⟨rfl, digitsFold_top r n ?_⟩
          rw [← e]
          congr 1
          omega
        · apply fold_some r
          rw [← e]
          congr 1
          omega
    · rw [if_neg h] at e
      cases e

theorem parse_zero : ∀ (l : List UInt8) (acc : Nat), Lib.parseUint10 acc l = .ok 0 → acc = 0 ∧ ∀ c ∈ l, c.toNat = 48
  | [], acc, h => by
    unfold Lib.parseUint10 at h
    injection h with h
    exact ⟨h, by simp⟩
  | c :: r, acc, h => by
    unfold Lib.parseUint10 at h
    split at h
    · split at h
      · cases h
      · split at h
        · cases h
        · have := parse_zero r _ h
          refine ⟨by omega, ?_⟩
          intro x hx
          rcases List.mem_cons.1 hx with rfl | hx
          · omega
          · exact this.2 x hx
    · cases h

theorem mp_plain {c : UInt8} {r : List UInt8} (h43 : c.toNat ≠ 43) (h45 : c.toNat ≠ 45) : mp (c :: r) = match Lib.parseUint10 0 (c :: r) with | .ok u => if u < 9223372036854775808 then some u else none | _ => none := by
  have hm : Lib.parseMag (c :: r) = Lib.parseUint10 0 (c :: r) := by unfold Lib.parseMag; rw [if_neg (by simp)]
  unfold mp Lib.atoiAll
  simp only [h43, h45, or_self, if_false, hm]
  rcases e : Lib.parseUint10 0 (c :: r) with u | _ | _
  · simp only [not_false_eq_true, true_and, false_and, if_false]
    by_cases hu : 9223372036854775808 ≤ u
    · rw [if_pos hu, if_neg (by omega)]
    · rw [if_neg hu, if_pos (by omega)]
      simp
  · rfl
  · rfl

theorem mp_rel {c : UInt8} {r : List UInt8} {n : Nat} (h43 : c.toNat ≠ 43) (h45 : c.toNat ≠ 45) (e : digitsFold 0 (c :: r) = some n) : Rel (mp (c :: r)) n := by
  rw [mp_plain h43 h45]
  rcases fold_some (c :: r) 0 n (by simpa using e) with ⟨u, hu, hn⟩ | ⟨hu, hn⟩
  · rw [hu]
    by_cases h : u < 9223372036854775808
    · left
      exact ⟨u, by simp only [if_pos h], by omega⟩
    · right
      exact ⟨by simp only [if_neg h], by omega⟩
  · rw [hu]
    exact .inr ⟨rfl, by omega⟩

theorem mp_bad {c : UInt8} {r : List UInt8} (h43 : c.toNat ≠ 43) (h45 : c.toNat ≠ 45) (e : digitsFold 0 (c :: r) = none) : mp (c :: r) = none := by
  rw [mp_plain h43 h45]
  have := fold_none (c :: r) 0 (by simpa using e)
  split
  · rename_i u hu; exact absurd hu (this u)
  · rfl

theorem parseMag_bad {r : List UInt8} (e : r = [] ∨ digitsFold 0 r = none) : ∀ u, Lib.parseMag r ≠ .ok u := by
  intro u h
  unfold Lib.parseMag at h
  split at h
  · cases h
  · rename_i hne
    rcases e with e | e
    · exact hne e
    · exact fold_none r 0 (by simpa using e) u h

theorem mp_plus {r : List UInt8} (e : r = [] ∨ digitsFold 0 r = none) : mp (43 :: r) = none := by
  unfold mp
  rw [Lib.atoiAll_plus]
  have := parseMag_bad e
  rcases h : Lib.parseMag r with u | _ | _
  · exact absurd h (this u)
  · rfl
  · rfl

theorem mp_minus {r : List UInt8} (e : r = [] ∨ ¬ ∀ c ∈ r, c.toNat = 48) : mp (45 :: r) = none := by
  unfold mp
  rw [Lib.atoiAll_minus]
  rcases h : Lib.parseMag r with u | _ | _
  rotate_left
  · rfl
  · rfl
  · skip
    unfold Lib.signed
    split
    · rename_i v hv
      have hu : u ≠ 0 := by
        rintro rfl
        unfold Lib.parseMag at h
        split at h
        · cases h
        · rename_i hne
          rcases e with e | e
          · exact hne e
          · exact e (parse_zero r 0 h).2
      simp only at hv
      split at hv
      · cases hv
      · injection hv with hv
        rw [if_neg (by omega)]
    · rfl

theorem parse_of_zero {r : List UInt8} (hr : r ≠ []) (e : digitsFold 0 r = some 0) : Lib.parseMag r = .ok 0 := by
  unfold Lib.parseMag
  rw [if_neg hr]
  rcases fold_some r 0 0 (by simpa using e) with ⟨u, hu, hn⟩ | ⟨_, hn⟩
  · rw [hu, show u = 0 by omega]
  · omega

theorem mp_plus_zero {r : List UInt8} (hr : r ≠ []) (e : digitsFold 0 r = some 0) : mp (43 :: r) = some 0 := by
  unfold mp
  rw [Lib.atoiAll_plus, parse_of_zero hr e]
  rfl

theorem mp_minus_zero {r : List UInt8} (hr : r ≠ []) (e : digitsFold 0 r = some 0) : mp (45 :: r) = some 0 := by
  unfold mp
  rw [Lib.atoiAll_minus, parse_of_zero hr e]
  rfl

def pairOf (r : List UInt8) (v : Int) : Int × Int := if r = [] then (0, 0) else match digitsFold 0 r with
  | some m => ((m : Int), v)
  | none => (0, 0)

/-! ### the printed loops -/
theorem isDigit_f (x : Int) : spec_isDigit.f x = some (decide (48 ≤ x ∧ x ≤ 57)) := by
  unfold spec_isDigit.f
  by_cases h : x ≥ 48
  · rw [if_pos h]; simp [show 48 ≤ x from h]
  · rw [if_neg h]; simp [show ¬ 48 ≤ x from h]

theorem number_l0 (s : ByteArray) (hs : s.size ≤ 281474976710655) (v : Int) : ∀ (d k : Nat) (n i : Nat), n ≤ 1099511627776 → i ≤ s.size → s.size - i = d → d < k →
    spec_CronNumber.l0 k s v n (s.size : Int) i = some (match digitsFold n (s.data.toList.drop i) with | some m => ((m : Int), v) | none => (0, 0)) := by
  intro d
  induction d with
  | zero =>
    intro k n i hn hi hd hk
    obtain ⟨k, rfl⟩ : ∃ m, k = m + 1 := ⟨k - 1, by omega⟩
    simp only [spec_CronNumber.l0]
    rw [if_neg (by omega), List.drop_eq_nil_of_le (by rw [← size_list]; omega)]
    rfl
  | succ d ih =>
    intro k n i hn hi hd hk
    obtain ⟨k, rfl⟩ : ∃ m, k = m + 1 := ⟨k - 1, by omega⟩
    have hlt : i < s.data.toList.length := by rw [← size_list]; omega
    have hw : wrap64 ((i : Int) + 1) = ((i + 1 : Nat) : Int) := by rw [wrap_in (by omega) (by omega)]; omega
    simp only [spec_CronNumber.l0]
    rw [if_pos (by omega), if_pos (by omega), if_pos (by omega), bt_list s i hlt, isDigit_f, List.drop_eq_getElem_cons hlt]
    simp only [Option.bind_some]
    rw [digitsFold]
    by_cases h : 48 ≤ (s.data.toList[i]).toNat ∧ (s.data.toList[i]).toNat ≤ 57
    · rw [if_pos h, if_pos (decide_eq_true ⟨by omega, by omega⟩), hw]
      have hv : mn (wrap64 (wrap64 (10 * (n : Int)) + (((s.data.toList[i]).toNat : Int) - 48) % 256)) 1099511627776 = ((min (10 * n + ((s.data.toList[i]).toNat - 48)) 1099511627776 : Nat) : Int) := by
        have e1 : wrap64 (10 * (n : Int)) = 10 * n := wrap_in (by omega) (by omega)
        have e2 : (((s.data.toList[i]).toNat : Int) - 48) % 256 = ((s.data.toList[i]).toNat : Int) - 48 := by omega
        rw [e1, e2, wrap_in (by omega) (by omega)]
        unfold mn
        split <;> omega
      rw [hv]
      exact ih k _ (i + 1) (by omega) (by omega) (by omega) (by omega)
    · rw [if_neg h, decide_eq_false (by omega), if_neg (by decide)]

theorem zeros_l0 (s : ByteArray) (hs : s.size ≤ 281474976710655) : ∀ (d k : Nat) (i : Nat), i ≤ s.size → s.size - i = d → d < k →
    spec_cronZeros.l0 k s (s.size : Int) i = some (decide (∀ c ∈ s.data.toList.drop i, c.toNat = 48)) := by
  intro d
  induction d with
  | zero =>
    intro k i hi hd hk
    obtain ⟨k, rfl⟩ : ∃ m, k = m + 1 := ⟨k - 1, by omega⟩
    simp only [spec_cronZeros.l0]
    rw [if_neg (by omega), List.drop_eq_nil_of_le (by rw [← size_list]; omega)]
    simp
  | succ d ih =>
    intro k i hi hd hk
    obtain ⟨k, rfl⟩ : ∃ m, k = m + 1 := ⟨k - 1, by omega⟩
    have hlt : i < s.data.toList.length := by rw [← size_list]; omega
    have hw : wrap64 ((i : Int) + 1) = ((i + 1 : Nat) : Int) := by rw [wrap_in (by omega) (by omega)]; omega
    simp only [spec_cronZeros.l0]
    rw [if_pos (by omega), if_pos (by omega), if_pos (by omega), bt_list s i hlt, List.drop_eq_getElem_cons hlt]
    by_cases h : (s.data.toList[i]).toNat = 48
    · rw [if_pos (by omega), hw, ih k (i + 1) (by omega) (by omega) (by omega)]
      congr 1
      simp only [List.forall_mem_cons, h, true_and]
    · rw [if_neg (by omega)]
      congr 1
      simp only [List.forall_mem_cons, h, false_and, decide_false]

theorem number_j1 (s : ByteArray) (hs : s.size ≤ 281474976710655) (v : Int) (k : Nat) (hk : s.size + 2 < k) :
    spec_CronNumber.j1 k s v = some (pairOf s.data.toList v) := by
  obtain ⟨k, rfl⟩ : ∃ m, k = m + 1 := ⟨k - 1, by omega⟩
  simp only [spec_CronNumber.j1]
  rw [toList_data]
  by_cases h : s.data.toList = []
  · rw [if_pos h, pairOf, if_pos h]
  · rw [if_neg h, pairOf, if_neg h]
    have := number_l0 s hs v s.size k 0 0 (by omega) (by omega) (by omega) (by omega)
    rw [show ((0 : Nat) : Int) = 0 from rfl, List.drop_zero] at this
    exact this

/-- CronNumber's answer, held against mp. -/
theorem number_is (s : ByteArray) (hs : s.size ≤ 4294967296) : ∃ k n v, spec_CronNumber.f k s = some (n, v) ∧ ValIs (mp s.data.toList) n v := by
  cases hl : s.data.toList with
  | nil =>
    have h0 : s.size = 0 := by rw [size_list, hl]; rfl
    refine ⟨s.size + 5, 0, 0, ?_, ⟨by omega, by omega, .inl rfl, fun h => by omega, fun _ => ⟨rfl, rfl⟩, fun h => by omega⟩⟩
    unfold spec_CronNumber.f
    rw [if_neg (by omega)]
    simp only [spec_CronNumber.j0, Bool.false_eq_true, if_false]
    rw [number_j1 s (by omega) 1 _ (by omega), hl]; rfl
  | cons c r =>
    have h0 : s.size = r.length + 1 := by rw [size_list, hl]; rfl
    have hb : bt s 0 = (c.toNat : Int) := by
      have := bt_list s 0 (by rw [hl]; simp)
      rw [show ((0 : Nat) : Int) = 0 from rfl] at this
      rw [this]
      simp [hl]
    have he : (s.extract 1 s.size).data.toList = r := by
      rw [extract_list, size_list, List.take_length, hl]; rfl
    have hes : (s.extract 1 s.size).size = r.length := by rw [size_list, he]
    by_cases h43 : c.toNat = 43
    · have hc : c = 43 := UInt8.toNat_inj.1 h43
      subst hc
      have key : ∀ k, s.size + 5 ≤ k → spec_CronNumber.f k s = some (pairOf r 2) := by
        intro k hk
        obtain ⟨k, rfl⟩ : ∃ m, k = m + 1 := ⟨k - 1, by omega⟩
        unfold spec_CronNumber.f
        rw [if_pos (by omega), if_pos (by omega), hb, if_pos (by rfl)]
        simp only [spec_CronNumber.j0, if_true]
        rw [if_pos (by omega), number_j1 _ (by omega) 2 _ (by omega), he]
      by_cases hr : r = []
      · exact ⟨s.size + 5, 0, 0, by rw [key _ (Nat.le_refl _), pairOf, if_pos hr], ⟨by omega, by omega, .inl rfl, fun h => by omega, fun _ => ⟨mp_plus (.inl hr), rfl⟩, fun h => by omega⟩⟩
      · cases hd : digitsFold 0 r with
        | none => exact ⟨s.size + 5, 0, 0, by rw [key _ (Nat.le_refl _), pairOf, if_neg hr, hd], ⟨by omega, by omega, .inl rfl, fun h => by omega, fun _ => ⟨mp_plus (.inr hd), rfl⟩, fun h => by omega⟩⟩
        | some m =>
          have := digitsFold_le r 0 m (by omega) hd
          refine ⟨s.size + 5, m, 2, by rw [key _ (Nat.le_refl _), pairOf, if_neg hr, hd], ⟨by omega, by omega, .inr (.inr rfl), fun h => by omega, fun h => by omega, fun _ h0 => ?_⟩⟩
          obtain rfl : m = 0 := by omega
          exact mp_plus_zero hr hd
    · by_cases h45 : c.toNat = 45
      · have hc : c = 45 := UInt8.toNat_inj.1 h45
        subst hc
        have hz : ∀ k, s.size + 5 ≤ k → spec_cronZeros.f k (s.extract 1 s.size) = some (decide (∀ c ∈ r, c.toNat = 48)) := by
          intro k hk
          unfold spec_cronZeros.f
          have := zeros_l0 (s.extract 1 s.size) (by omega) _ k 0 (by omega) rfl (by omega)
          rw [show ((0 : Nat) : Int) = 0 from rfl, List.drop_zero, he] at this
          exact this
        by_cases hall : ∀ c ∈ r, c.toNat = 48
        · have key : ∀ k, s.size + 5 ≤ k → spec_CronNumber.f k s = some (pairOf r 2) := by
            intro k hk
            have hzk := hz k hk
            obtain ⟨k, rfl⟩ : ∃ m, k = m + 1 := ⟨k - 1, by omega⟩
            unfold spec_CronNumber.f
            rw [if_pos (by omega), if_pos (by omega), hb, if_neg (by omega), if_pos (by rfl), if_pos (by omega), hzk, decide_eq_true hall]
            simp only [Option.bind_some, spec_CronNumber.j0, if_true]
            rw [if_pos (by omega), number_j1 _ (by omega) 2 _ (by omega), he]
          by_cases hr : r = []
          · exact ⟨s.size + 5, 0, 0, by rw [key _ (Nat.le_refl _), pairOf, if_pos hr], ⟨by omega, by omega, .inl rfl, fun h => by omega, fun _ => ⟨mp_minus (.inl hr), rfl⟩, fun h => by omega⟩⟩
          · cases hd : digitsFold 0 r with
            | none =>
              exfalso
              have : ∀ l : List UInt8, (∀ c ∈ l, c.toNat = 48) → ∀ n, digitsFold n l ≠ none := by
                intro l
                induction l with
                | nil => intro _ n h; cases h
                | cons x t ih =>
                  intro hx n h
                  unfold digitsFold at h
                  have := hx x (by simp)
                  rw [if_pos (by omega)] at h
                  exact ih (fun c hc => hx c (by simp [hc])) _ h
              exact this r hall 0 hd
            | some m =>
              have := digitsFold_le r 0 m (by omega) hd
              refine ⟨s.size + 5, m, 2, by rw [key _ (Nat.le_refl _), pairOf, if_neg hr, hd], ⟨by omega, by omega, .inr (.inr rfl), fun h => by omega, fun h => by omega, fun _ h0 => ?_⟩⟩
              obtain rfl : m = 0 := by omega
              exact mp_minus_zero hr hd
        · have key : ∀ k, s.size + 5 ≤ k → spec_CronNumber.f k s = some (0, 0) := by
            intro k hk
            have hzk := hz k hk
            obtain ⟨k, rfl⟩ : ∃ m, k = m + 1 := ⟨k - 1, by omega⟩
            unfold spec_CronNumber.f
            rw [if_pos (by omega), if_pos (by omega), hb, if_neg (by omega), if_pos (by rfl), if_pos (by omega), hzk, decide_eq_false hall]
            simp only [Option.bind_some, spec_CronNumber.j0, Bool.false_eq_true, if_false]
            rw [number_j1 s (by omega) 1 _ (by omega), hl]
            rfl
          exact ⟨s.size + 5, 0, 0, key _ (Nat.le_refl _), ⟨by omega, by omega, .inl rfl, fun h => by omega, fun _ => ⟨mp_minus (.inr hall), rfl⟩, fun h => by omega⟩⟩
      · have key : ∀ k, s.size + 5 ≤ k → spec_CronNumber.f k s = some (pairOf (c :: r) 1) := by
          intro k hk
          obtain ⟨k, rfl⟩ : ∃ m, k = m + 1 := ⟨k - 1, by omega⟩
          unfold spec_CronNumber.f
          rw [if_pos (by omega), if_pos (by omega), hb, if_neg (by omega), if_neg (by omega)]
          simp only [spec_CronNumber.j0, Bool.false_eq_true, if_false]
          rw [number_j1 s (by omega) 1 _ (by omega), hl]
        cases hd : digitsFold 0 (c :: r) with
        | none => exact ⟨s.size + 5, 0, 0, by rw [key _ (Nat.le_refl _), pairOf, if_neg (by simp), hd], ⟨by omega, by omega, .inl rfl, fun h => by omega, fun _ => ⟨mp_bad h43 h45 hd, rfl⟩, fun h => by omega⟩⟩
        | some m =>
          have := digitsFold_le (c :: r) 0 m (by omega) hd
          exact ⟨s.size + 5, m, 1, by rw [key _ (Nat.le_refl _), pairOf, if_neg (by simp), hd], ⟨by omega, by omega, .inr (.inl rfl), fun _ => mp_rel h43 h45 hd, fun h => by omega, fun h => by omega⟩⟩

/-- CronStep's answer: fine: the number itself, from 1 to below 2^40; bad: no number, or 0. -/
theorem step_is (s : ByteArray) (hs : s.size ≤ 4294967296) : ∃ k n v, spec_CronStep.f k s = some (n, v) ∧ (v = 0 ∨ v = 1 ∨ v = 2) ∧
    (v = 1 → ∃ m : Nat, mp s.data.toList = some m ∧ n = m ∧ 1 ≤ m ∧ m < 1099511627776) ∧ (v = 0 → mp s.data.toList = none ∨ mp s.data.toList = some 0) := by
  obtain ⟨k, n, v, hk, hv⟩ := number_is s hs
  by_cases h0 : v = 0
  · subst h0
    refine ⟨k + 1, 0, 0, ?_, .inl rfl, fun h => by omega, fun _ => .inl (hv.bad rfl).1⟩
    unfold spec_CronStep.f
    rw [spec_CronNumber.mono s k _ hk]
    simp [spec_CronStep.j0]
  · by_cases hn : n = 0
    · subst hn
      refine ⟨k + 1, 0, 0, ?_, .inl rfl, fun h => by omega, fun _ => ?_⟩
      · unfold spec_CronStep.f
        rw [spec_CronNumber.mono s k _ hk]
        simp [spec_CronStep.j0, h0]
      · by_cases h1 : v = 1
        · rcases hv.fine h1 with ⟨m, hm, he⟩ | ⟨hm, he⟩
          · right
            rw [hm]
            congr 1
            omega
          · omega
        · right
          rcases hv.vs with h | h | h
          · exact absurd h h0
          · exact absurd h h1
          · exact hv.zero h rfl
    · by_cases hh : n = 1099511627776
      · refine ⟨k + 1, 0, 2, ?_, .inr (.inr rfl), fun h => by omega, fun h => by omega⟩
        unfold spec_CronStep.f
        rw [spec_CronNumber.mono s k _ hk]
        simp only [Option.bind_some, if_neg h0, spec_CronStep.j0]
        rw [if_neg (by simpa using hn), if_pos hh]
      · refine ⟨k + 1, n, v, ?_, hv.vs, fun h1 => ?_, fun h => absurd h h0⟩
        · unfold spec_CronStep.f
          rw [spec_CronNumber.mono s k _ hk]
          simp only [Option.bind_some, if_neg h0, spec_CronStep.j0]
          rw [if_neg (by simpa using hn), if_neg hh]
        · have := hv.lo
          rcases hv.fine h1 with ⟨m, hm, he⟩ | ⟨hm, he⟩
          · exact ⟨m, hm, by omega, by omega, by omega⟩
          · omega

end Go.Proofs.YtikgnpachlgakaaDoor.Cron
