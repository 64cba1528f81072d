/- Sets of bits as natural numbers: mkBits, what Go's &, |, ^ and << of unsigned numbers of 64 bits are on them. No program in sight. -/
import Derived.Laws.BitsLemmas
import Derived.WalkKit
namespace Go.Proofs.YtikgnpachlgakaaDoor.Bits
open Go

/-- the number whose bits below n are those of which p holds -/
def mkBits (p : Nat → Bool) : Nat → Nat
  | 0 => 0
  | n + 1 => mkBits p n + if p n then 2 ^ n else 0

theorem mkBits_lt (p : Nat → Bool) (n : Nat) : mkBits p n < 2 ^ n := by
  induction n with
  | zero => simp [mkBits]
  | succ n ih =>
    unfold mkBits
    rw [Nat.pow_succ]
    split <;> omega

theorem mkBits_test (p : Nat → Bool) (n j : Nat) : (mkBits p n).testBit j = (decide (j < n) && p j) := by
  induction n with
  | zero => simp [mkBits]
  | succ n ih =>
    unfold mkBits
    have hl := mkBits_lt p n
    by_cases hp : p n = true
    · rw [if_pos hp]
      by_cases h : j = n
      · subst h
        rw [show mkBits p j + 2 ^ j = 2 ^ j + mkBits p j by omega, Nat.testBit_two_pow_add_eq, ih]
        simp [hp]
      · by_cases h2 : j < n
        · rw [show mkBits p n + 2 ^ n = 2 ^ n + mkBits p n by omega, Nat.testBit_two_pow_add_gt h2, ih]
          simp [h2, Nat.lt_succ_of_lt h2]
        · have h3 : n + 1 ≤ j := by omega
          have h4 : ¬ j < n + 1 := by omega
          rw [Nat.testBit_lt_two_pow]
          · simp [h4]
          · calc _ < 2 ^ (n + 1) := by rw [Nat.pow_succ]; omega
              _ ≤ 2 ^ j := Nat.pow_le_pow_right (by decide) h3
    · rw [if_neg hp, Nat.add_zero, ih]
      by_cases h : j = n
      · subst h; simp [hp]
      · have : (j < n) = (j < n + 1) := by apply propext; omega
        simp [this]

theorem mkBits_ext {p q : Nat → Bool} (n : Nat) (h : ∀ j, j < n → p j = q j) : mkBits p n = mkBits q n := by
  apply Nat.eq_of_testBit_eq
  intro j
  rw [mkBits_test, mkBits_test]
  by_cases hj : j < n
  · simp [hj, h j hj]
  · simp [hj]

theorem eq_mkBits {x n : Nat} {p : Nat → Bool} (hx : x < 2 ^ n) (h : ∀ j, j < n → x.testBit j = p j) : x = mkBits p n := by
  apply Nat.eq_of_testBit_eq
  intro j
  rw [mkBits_test]
  by_cases hj : j < n
  · simp [hj, h j hj]
  · have : x < 2 ^ j := Nat.lt_of_lt_of_le hx (Nat.pow_le_pow_right (by decide) (by omega))
    rw [Nat.testBit_lt_two_pow this]
    simp [hj]

theorem mkBits_or (p q : Nat → Bool) (n : Nat) : mkBits p n ||| mkBits q n = mkBits (fun j => p j || q j) n := by
  apply eq_mkBits (Nat.or_lt_two_pow (mkBits_lt _ _) (mkBits_lt _ _))
  intro j hj
  simp [mkBits_test, hj]

theorem mkBits_and (p q : Nat → Bool) (n : Nat) : mkBits p n &&& mkBits q n = mkBits (fun j => p j && q j) n := by
  apply eq_mkBits (Nat.and_lt_two_pow _ (mkBits_lt _ _))
  intro j hj
  simp [mkBits_test, hj]

theorem mkBits_xor (p q : Nat → Bool) (n : Nat) : mkBits p n ^^^ mkBits q n = mkBits (fun j => p j ^^ q j) n := by
  apply eq_mkBits (Nat.xor_lt_two_pow (mkBits_lt _ _) (mkBits_lt _ _))
  intro j hj
  simp [mkBits_test, hj]

theorem pow_mkBits (i n : Nat) (h : i < n) : 2 ^ i = mkBits (fun j => j == i) n := by
  apply eq_mkBits (Nat.pow_lt_pow_right (by decide) h)
  intro j _
  rw [Nat.testBit_two_pow]
  by_cases h : j = i
  · subst h; simp
  · have : ¬ i = j := fun e => h e.symm
    simp [h, this]

theorem pow1_mkBits (i n : Nat) (h : i ≤ n) : 2 ^ i - 1 = mkBits (fun j => decide (j < i)) n := by
  apply eq_mkBits
  · have := Nat.pow_le_pow_right (n := 2) (by decide) h
    have := Nat.two_pow_pos i
    omega
  · intro j _
    rw [Nat.testBit_two_pow_sub_one]

theorem test_of_mkBits {p : Nat → Bool} {n j : Nat} (hj : j < n) (h : p j = true) : mkBits p n ≠ 0 := by
  intro e
  have := mkBits_test p n j
  rw [e] at this
  simp [hj, h] at this

theorem wrap_u64 (n : Int) : IntKind.u64.wrap n = n % 18446744073709551616 := by simp [IntKind.wrap, IntKind.bits, IntKind.signed]

theorem wraps_u64 (n : Int) (h₀ : 0 ≤ n) (h₁ : n < 2 ^ 64) : IntKind.u64.wrap n = n := by rw [wrap_u64]; omega

theorem and_u64 {a b : Nat} (ha : a < 2 ^ 64) (hb : b < 2 ^ 64) : bits .and .u64 (a : Int) (b : Int) = ((a &&& b : Nat) : Int) :=
  (bits_nat .u64 64 (by decide) wraps_u64 a b ha hb).1

theorem or_u64 {a b : Nat} (ha : a < 2 ^ 64) (hb : b < 2 ^ 64) : bits .or .u64 (a : Int) (b : Int) = ((a ||| b : Nat) : Int) :=
  (bits_nat .u64 64 (by decide) wraps_u64 a b ha hb).2

theorem xor_u64 {a b : Nat} (ha : a < 2 ^ 64) (hb : b < 2 ^ 64) : bits .xor .u64 (a : Int) (b : Int) = ((a ^^^ b : Nat) : Int) := by
  have ha' : a % 2 ^ 64 = a := Nat.mod_eq_of_lt ha
  have hb' : b % 2 ^ 64 = b := Nat.mod_eq_of_lt hb
  have e : IntKind.u64.bits = 64 := rfl
  unfold bits
  rw [e]
  show IntKind.u64.wrap ((BitVec.ofInt 64 (a : Int) ^^^ BitVec.ofInt 64 (b : Int)).toNat : Int) = _
  rw [BitVec.ofInt_natCast, BitVec.ofInt_natCast, BitVec.toNat_xor, BitVec.toNat_ofNat, BitVec.toNat_ofNat, ha', hb']
  exact wraps_u64 _ (Int.natCast_nonneg _) (by exact_mod_cast Nat.xor_lt_two_pow ha hb)

theorem shl_one {i : Int} (h0 : 0 ≤ i) (h : i ≤ 63) : IntKind.u64.wrap (2 ^ i.toNat) = ((2 ^ i.toNat : Nat) : Int) := by
  rw [wraps_u64]
  · rw [Int.natCast_pow]; rfl
  · exact Int.pow_nonneg (by decide)
  · have : (2 : Nat) ^ i.toNat < 2 ^ 64 := Nat.pow_lt_pow_right (by decide) (by omega)
    exact_mod_cast this

theorem max_table : ∀ n, n < 65 → (18446744073709551615 * 2 ^ n) % 18446744073709551616 = mkBits (fun j => decide (n ≤ j)) 64 := by decide +kernel

theorem shl_max {i : Int} (h0 : 0 ≤ i) (h : i ≤ 64) : IntKind.u64.wrap (18446744073709551615 * 2 ^ i.toNat) = ((mkBits (fun j => decide (i.toNat ≤ j)) 64 : Nat) : Int) := by
  rw [wrap_u64, ← max_table i.toNat (by omega), Int.natCast_emod, Int.natCast_mul, Int.natCast_pow]
  rfl

theorem max_u64 : IntKind.u64.max = ((mkBits (fun _ => true) 64 : Nat) : Int) := by decide +kernel

/-- the set of lo, lo + st, lo + 2 st .. up to hi -/
def steps (lo hi st : Nat) : Nat := mkBits (fun j => decide (lo ≤ j) && decide (j ≤ hi) && ((j - lo) % st == 0)) 64

theorem steps_lt (lo hi st : Nat) : steps lo hi st < 2 ^ 64 := mkBits_lt _ _

/-- what the loop has collected ahead of i -/
def below (lo i st : Nat) : Nat := mkBits (fun j => decide (lo ≤ j) && decide (j < i) && ((j - lo) % st == 0)) 64

theorem below_lt (lo i st : Nat) : below lo i st < 2 ^ 64 := mkBits_lt _ _

theorem below_start (lo st : Nat) : below lo lo st = 0 := by
  unfold below
  rw [mkBits_ext (q := fun _ => false)]
  · decide
  · intro j _
    by_cases h : lo ≤ j
    · have : ¬ j < lo := by omega
      simp [this]
    · simp [h]

theorem below_step {lo i st : Nat} (m : Nat) (hi : i = lo + m * st) (hs : 1 ≤ st) (h63 : i ≤ 63) : below lo i st ||| 2 ^ i = below lo (i + st) st := by
  unfold below
  rw [pow_mkBits i 64 (by omega), mkBits_or]
  apply mkBits_ext
  intro j _
  by_cases h1 : j < i
  · have h2 : j < i + st := by omega
    have h3 : (j == i) = false := by simp; omega
    simp [h1, h2, h3]
  · by_cases h2 : j = i
    · subst h2
      have : (j - lo) % st = 0 := by rw [hi]; simp
      simp [this]
      omega
    · have h3 : (j == i) = false := by simpa using h2
      rw [h3, Bool.or_false]
      by_cases h4 : j < i + st
      · have h5 : (j - lo) % st = j - i := by
          have : j - lo = st * m + (j - i) := by rw [Nat.mul_comm]; omega
          rw [this, Nat.mul_add_mod]
          exact Nat.mod_eq_of_lt (by omega)
        have h6 : ((j - lo) % st == 0) = false := by rw [h5]; simp; omega
        simp [h6]
      · simp [h1, h4]

theorem below_end {lo i hi st : Nat} (m : Nat) (hm : i = lo + m * st) (h : hi < i) (hp : i ≤ hi + st) (hlo : lo ≤ hi) : below lo i st = steps lo hi st := by
  unfold below steps
  apply mkBits_ext
  intro j _
  by_cases h1 : j ≤ hi
  · have : j < i := by omega
    simp [h1, this]
  · by_cases h2 : j < i
    · have h6 : ((j - lo) % st == 0) = false := by
        simp
        intro e
        obtain ⟨q, hq⟩ := Nat.dvd_of_mod_eq_zero e
        -- lo + q st = j, hi < j < lo + m st, so q < m, so j ≤ i - st ≤ hi
        have hj : j = lo + st * q := by omega
        have : q < m := by
          apply Nat.lt_of_not_le
          intro hmq
          have := Nat.mul_le_mul_left st hmq
          rw [Nat.mul_comm m st] at hm
          omega
        have h7 := Nat.mul_le_mul_left st (show q + 1 ≤ m from this)
        rw [Nat.mul_add, Nat.mul_one] at h7
        rw [Nat.mul_comm m st] at hm
        omega
      simp [h6]
    · simp [h1, h2]

theorem steps_one (lo hi : Nat) (h : hi ≤ 63) : bits .and .u64 (bits .xor .u64 IntKind.u64.max (IntKind.u64.wrap (18446744073709551615 * 2 ^ ((hi : Int) + 1).toNat))) (IntKind.u64.wrap (18446744073709551615 * 2 ^ (lo : Int).toNat)) = (steps lo hi 1 : Int) ∨ 64 < lo := by
  by_cases hl : lo ≤ 64
  · left
    rw [shl_max (by omega) (by omega), shl_max (by omega) (by omega), max_u64, xor_u64 (mkBits_lt _ _) (mkBits_lt _ _), mkBits_xor, and_u64 (mkBits_lt _ _) (mkBits_lt _ _), mkBits_and]
    congr 1
    apply mkBits_ext
    intro j _
    by_cases a : lo ≤ j <;> by_cases b : j ≤ hi
    · have h1 : j < hi + 1 := by omega
      simp [a, b, h1, Nat.mod_one]
    · have h1 : hi + 1 ≤ j := by omega
      simp [a, b]; omega
    · simp [a]
    · simp [a]
  · right; omega

theorem steps_ne {lo hi st : Nat} (h : lo ≤ hi) (hh : hi ≤ 63) : steps lo hi st ≠ 0 :=
  test_of_mkBits (j := lo) (by omega) (by simp [h])

theorem steps_cut {lo mid hi st : Nat} (h : mid ≤ hi) (hh : hi ≤ 62) : steps lo mid st = steps lo hi st &&& (2 ^ (mid + 1) - 1) := by
  unfold steps
  rw [pow1_mkBits (mid + 1) 64 (by omega), mkBits_and]
  apply mkBits_ext
  intro j _
  by_cases a : j ≤ mid
  · have b : j ≤ hi := by omega
    have c : j < mid + 1 := by omega
    simp [a, b, c]
  · have c : ¬ j < mid + 1 := by omega
    simp [a, c]

end Go.Proofs.YtikgnpachlgakaaDoor.Bits
