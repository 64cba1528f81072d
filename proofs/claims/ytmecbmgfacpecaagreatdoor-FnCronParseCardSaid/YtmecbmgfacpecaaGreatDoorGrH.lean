/- Lemmas and walks on the way to the law, merged by wip/tools/pack.py: Float2, Dur, DurW, DurM, DurF. Conditions: none. -/
import Derived.Test.YtmecbmgfacpecaaGreatDoorGrG
import Derived.Test.YtmecbmgfacpecaaGreatDoorGrA
import Derived.Test.YtmecbmgfacpecaaGreatDoorGrE
namespace Go.Proofs.YtmecbmgfacpecaaGreatDoor.Flo
open Go Ieee
set_option linter.unusedVariables false
set_option linter.unusedSimpArgs false
def Lt (x : Nat) (e : Int) : Prop := ∃ m p, double.read x = .number false m p ∧ (m = 0 ∨ (m.log2 : Int) + p < e)
def Ge (x : Nat) (e : Int) : Prop := (∃ m p, double.read x = .number false m p ∧ m ≠ 0 ∧ e ≤ (m.log2 : Int) + p) ∨ double.read x = .infinity false
theorem lt_pow {n k : Nat} (h : n < 2 ^ k) : n = 0 ∨ n.log2 < k := by
 rcases Nat.eq_zero_or_pos n with h0 | h0
 ·exact .inl h0
 ·exact .inr ((Nat.log2_lt (by omega)).2 h)
theorem cut_bounds (way : Toward) (hw : way = .even ∨ way = .zero) (n d : Nat) : n / 2 ^ d ≤ way.cut false n d + 0 ∧ way.cut false n d ≤ n / 2 ^ d + 1 := by
 unfold Toward.cut;simp only [Nat.one_shiftLeft]
 by_cases h : d ≤ n.log2 + 2
 ·rw [Nat.min_eq_left h]
  rcases hw with rfl | rfl
  ·generalize (decide (2 ^ d < 2 * (n % 2 ^ d)) || 2 ^ d == 2 * (n % 2 ^ d) && n / 2 ^ d % 2 == 1) = b
   cases b <;> simp
  ·simp
 ·rw [Nat.min_eq_right (by omega)];have hn : n < 2 ^ (n.log2 + 1) := Nat.lt_log2_self;have h1 : 2 ^ (n.log2 + 2) = 2 * 2 ^ (n.log2 + 1) := by rw [show n.log2 + 2 = n.log2 + 1 + 1 by omega, Nat.pow_succ]; omega
  have h2 : n < 2 ^ d := Nat.lt_of_lt_of_le hn (Nat.pow_le_pow_right (by omega) (by omega));rw [Nat.div_eq_of_lt h2, Nat.div_eq_of_lt (by omega)]
  rcases hw with rfl | rfl
  ·generalize (decide (2 ^ (n.log2 + 2) < 2 * (n % 2 ^ (n.log2 + 2))) || 2 ^ (n.log2 + 2) == 2 * (n % 2 ^ (n.log2 + 2)) && 0 % 2 == 1) = b
   cases b <;> simp
  ·simp
theorem read_small {R : Nat} (h : R < 4503599627370496) : double.read R = .number false R (-1074) := by
 unfold Format.read;rw [d_sign, d_binade, d_inf, d_least];simp only [show R % 9223372036854775808 = R by omega, show R / 9223372036854775808 % 2 = 0 by omega];rw [if_pos h];rfl
theorem read_mid {R : Nat} (h : 4503599627370496 ≤ R) (h2 : R < 9218868437227405312) : double.read R = .number false (4503599627370496 + R % 4503599627370496) (-1074 + ((R / 4503599627370496 - 1 : Nat) : Int)) := by
 unfold Format.read;rw [d_sign, d_binade, d_inf, d_least];simp only [show R % 9223372036854775808 = R by omega, show R / 9223372036854775808 % 2 = 0 by omega];rw [if_neg (by omega), if_pos h2];rfl
theorem read_inf : double.read 9218868437227405312 = .infinity false := by decide +kernel
theorem log2_mid (r : Nat) (h : r < 4503599627370496) : (4503599627370496 + r).log2 = 52 := log2_is (by show 4503599627370496 ≤ _; omega) (by show _ < 9007199254740992; omega)
theorem lt_rung {R : Nat} {e : Int} (h : (R : Int) ≤ (e + 1023) * 4503599627370496) (h1 : e ≤ 1022) (h0 : -1022 ≤ e) : Lt R (e + 1) := by
 by_cases hs : R < 4503599627370496
 ·refine ⟨_, _, read_small hs, ?_⟩
  rcases lt_pow (n := R) (k := 52) hs with h2 | h2
  ·exact .inl h2
  ·exact .inr (by omega)
 ·refine ⟨_, _, read_mid (by omega) (by omega), .inr ?_⟩;rw [log2_mid _ (Nat.mod_lt _ (by omega))];omega
theorem ge_rung {R : Nat} {e : Int} (h : (e + 1023) * 4503599627370496 ≤ (R : Int)) (h0 : -1022 ≤ e) (hR : R ≤ 9218868437227405312) : Ge R e := by
 by_cases hs : R = 9218868437227405312
 ·exact .inr (by rw [hs]; exact read_inf)
 ·refine .inl ⟨_, _, read_mid (by omega) (by omega), by omega, ?_⟩;rw [log2_mid _ (Nat.mod_lt _ (by omega))];omega
theorem word_pos {r : Nat} (h : r ≤ 9218868437227405312) : double.word false r = r := by
 unfold Format.word;rw [if_neg (by decide)]
theorem shifted (mag : Nat) (a d : Nat) (L : Nat) (hL : mag.log2 = L) (hm : mag ≠ 0) (h : d ≤ L + a) : 2 ^ (L + a - d) ≤ (mag <<< a) / 2 ^ d ∧ (mag <<< a) / 2 ^ d < 2 ^ (L + a - d + 1) := by
 obtain ⟨h1, h2⟩ := log2_bounds (n := mag) (by omega);rw [hL] at h1 h2
 rw [Nat.shiftLeft_eq];have hp := Nat.two_pow_pos d;have ha := Nat.two_pow_pos a;have e1 : 2 ^ (L + a - d) * 2 ^ d = 2 ^ L * 2 ^ a := by rw [← Nat.pow_add, ← Nat.pow_add]; congr 1; omega
 have e2 : 2 ^ (L + a - d + 1) * 2 ^ d = 2 ^ (L + 1) * 2 ^ a := by rw [← Nat.pow_add, ← Nat.pow_add]; congr 1; omega
 constructor
 ·rw [Nat.le_div_iff_mul_le hp, e1];exact Nat.mul_le_mul_right _ h1
 ·rw [Nat.div_lt_iff_lt_mul hp, e2];exact Nat.mul_lt_mul_of_pos_right h2 ha
set_option maxHeartbeats 1000000 in
theorem nearest_lt {mag : Nat} {place e : Int} (h : mag = 0 ∨ (mag.log2 : Int) + place < e) (h0 : -1000 ≤ e) (h1 : e ≤ 1000) : Lt (double.nearest false mag place) (e + 1) := by
 by_cases hm : mag = 0
 ·unfold Format.nearest;rw [if_pos hm, word_pos (by omega)];exact ⟨0, -1074, read_small (by omega), .inl rfl⟩
 ·have h := h.resolve_left hm;obtain ⟨last, hlast⟩ : ∃ last, max (place + (mag.log2 : Int) - (double.fractionBits : Int)) double.leastPlace = last := ⟨_, rfl⟩
  have hl : last = max (place + (mag.log2 : Int) - 52) (-1074) := by rw [← hlast, d_frac, d_least]
  obtain ⟨kept, hkept⟩ : ∃ kept, Toward.even.cut false (mag <<< (place - last).toNat) (last - place).toNat = kept := ⟨_, rfl⟩
  have hk : kept ≤ 9007199254740992 := by
   have hc := (cut_bounds .even (.inl rfl) (mag <<< (place - last).toNat) (last - place).toNat).2;rw [hkept] at hc
   have hn : (mag <<< (place - last).toNat) / 2 ^ (last - place).toNat < 9007199254740992 := by
    by_cases hd : (last - place).toNat ≤ mag.log2 + (place - last).toNat
    ·have := (shifted mag _ _ _ rfl hm hd).2;refine Nat.lt_of_lt_of_le this ?_;rw [show (9007199254740992 : Nat) = 2 ^ 53 from rfl];exact Nat.pow_le_pow_right (by omega) (by omega)
    ·have : (mag <<< (place - last).toNat) < 2 ^ (last - place).toNat := by
      rw [Nat.shiftLeft_eq];have h2 := (log2_bounds (n := mag) (by omega)).2
      calc mag * 2 ^ (place - last).toNat < 2 ^ (mag.log2 + 1) * 2 ^ (place - last).toNat := Nat.mul_lt_mul_of_pos_right h2 (Nat.two_pow_pos _)
       _ = 2 ^ (mag.log2 + 1 + (place - last).toNat) := by rw [← Nat.pow_add]
       _ ≤ 2 ^ (last - place).toNat := Nat.pow_le_pow_right (by omega) (by omega)
     rw [Nat.div_eq_of_lt this];omega
   omega
  have hw : double.nearest false mag place = (last + 1074).toNat * 4503599627370496 + kept := by
   unfold Format.nearest;rw [if_neg hm];simp only [hlast, hkept];rw [d_binade, d_inf, d_least, show (last - -1074 : Int) = last + 1074 by omega];have : (last + 1074).toNat * 4503599627370496 + kept ≤ 9218868437227405312 := by omega
   rw [Nat.min_eq_left this, word_pos this]
  rw [hw];refine lt_rung (e := e) ?_ (by omega) (by omega);omega
set_option maxHeartbeats 1000000 in
theorem nearest_ge {mag : Nat} {place e : Int} (hm : mag ≠ 0) (h : e ≤ (mag.log2 : Int) + place) (h0 : -1000 ≤ e) : Ge (double.nearest false mag place) e := by
 obtain ⟨last, hlast⟩ : ∃ last, max (place + (mag.log2 : Int) - (double.fractionBits : Int)) double.leastPlace = last := ⟨_, rfl⟩
 have hl : last = place + (mag.log2 : Int) - 52 := by rw [← hlast, d_frac, d_least]; omega
 obtain ⟨kept, hkept⟩ : ∃ kept, Toward.even.cut false (mag <<< (place - last).toNat) (last - place).toNat = kept := ⟨_, rfl⟩
 have hk : 4503599627370496 ≤ kept := by
  have hc := (cut_bounds .even (.inl rfl) (mag <<< (place - last).toNat) (last - place).toNat).1;rw [hkept] at hc;have := (shifted mag (place - last).toNat (last - place).toNat _ rfl hm (by omega)).1;rw [show mag.log2 + (place - last).toNat - (last - place).toNat = 52 by omega] at this;exact Nat.le_trans (show 4503599627370496 ≤ 2 ^ 52 by decide) (Nat.le_trans this hc)
 have hw : double.nearest false mag place = min ((last + 1074).toNat * 4503599627370496 + kept) 9218868437227405312 := by
  unfold Format.nearest;rw [if_neg hm];simp only [hlast, hkept];rw [d_binade, d_inf, d_least, show (last - -1074 : Int) = last + 1074 by omega, word_pos (Nat.min_le_right _ _)]
 rw [hw]
 by_cases hb : (last + 1074).toNat * 4503599627370496 + kept ≤ 9218868437227405312
 ·rw [Nat.min_eq_left hb];exact ge_rung (by omega) (by omega) hb
 ·rw [Nat.min_eq_right (by omega)];exact .inr read_inf
theorem log2_mul (a b : Nat) (ha : a ≠ 0) (hb : b ≠ 0) : a.log2 + b.log2 ≤ (a * b).log2 ∧ (a * b).log2 ≤ a.log2 + b.log2 + 1 := by
 obtain ⟨a1, a2⟩ := log2_bounds (n := a) (by omega);obtain ⟨b1, b2⟩ := log2_bounds (n := b) (by omega);have h0 : a * b ≠ 0 := Nat.mul_ne_zero ha hb;refine ⟨(Nat.le_log2 h0).2 (by rw [Nat.pow_add]; exact Nat.mul_le_mul a1 b1), ?_⟩;have : (a * b).log2 < a.log2 + b.log2 + 2 := (Nat.log2_lt h0).2 (by rw [show a.log2 + b.log2 + 2 = a.log2 + 1 + (b.log2 + 1) by omega, Nat.pow_add]; exact Nat.mul_lt_mul'' a2 b2);omega
theorem mul_lt {x y : Nat} {a b : Int} (hx : Lt x a) (hy : Lt y b) (h0 : -1000 ≤ a + b) (h1 : a + b ≤ 1000) : ∃ r, floatBits .mul .f64 x y = some r ∧ Lt r (a + b + 1) := by
 obtain ⟨m, p, hm, hm1⟩ := hx;obtain ⟨n, q, hn, hn1⟩ := hy;unfold floatBits
 show ∃ r, double.mul x y = some r ∧ _
 unfold Format.mul;rw [hm, hn];refine ⟨_, rfl, ?_⟩
 show Lt (double.nearest false (m * n) (p + q)) _
 refine nearest_lt ?_ h0 h1
 by_cases h2 : m = 0
 ·exact .inl (by rw [h2, Nat.zero_mul])
 by_cases h3 : n = 0
 ·exact .inl (by rw [h3, Nat.mul_zero])
 have := (log2_mul m n h2 h3).2;have := hm1.resolve_left h2;have := hn1.resolve_left h3;exact .inr (by omega)
theorem mul_ge {x y : Nat} {a b : Int} (hx : Ge x a) (hy : ∃ n q, double.read y = .number false n q ∧ n ≠ 0 ∧ b ≤ (n.log2 : Int) + q) (h0 : -1000 ≤ a + b) : ∃ r, floatBits .mul .f64 x y = some r ∧ Ge r (a + b) := by
 obtain ⟨n, q, hn, hn0, hn1⟩ := hy;unfold floatBits
 show ∃ r, double.mul x y = some r ∧ _
 unfold Format.mul
 rcases hx with ⟨m, p, hm, hm0, hm1⟩ | hm
 ·rw [hm, hn];refine ⟨_, rfl, ?_⟩
  show Ge (double.nearest false (m * n) (p + q)) _
  exact nearest_ge (Nat.mul_ne_zero hm0 hn0) (by have := (log2_mul m n hm0 hn0).1; omega) h0
 ·rw [hm, hn];unfold Datum.product;simp only [hn0, if_false];refine ⟨_, rfl, ?_⟩
  show Ge (double.word false double.infRung) _
  rw [d_inf, word_pos (by omega)];exact .inr read_inf
theorem div_lt {x y : Nat} {a b : Int} (hx : Lt x a) (hy : Ge y b) (h0 : -1000 ≤ a - b) (h1 : a - b ≤ 1000) : ∃ r, floatBits .quo .f64 x y = some r ∧ Lt r (a - b + 1) := by
 obtain ⟨m, p, hm, hm1⟩ := hx;unfold floatBits
 show ∃ r, double.div x y = some r ∧ _
 unfold Format.div
 rcases hy with ⟨n, q, hn, hn0, hn1⟩ | hn
 ·rw [hm, hn];unfold Datum.quotient;dsimp only;rw [if_neg hn0];refine ⟨_, rfl, ?_⟩;obtain ⟨more, hmore⟩ : ∃ more, double.fractionBits + 2 + n.log2 - m.log2 = more := ⟨_, rfl⟩
  simp only [hmore];have hmo : more = 54 + n.log2 - m.log2 := by rw [← hmore, show double.fractionBits = 52 by decide]
  show Lt (double.nearest false (2 * (m <<< more / n) + (m <<< more % n != 0).toNat) (p - q - more - 1)) _
  refine nearest_lt ?_ h0 h1
  by_cases h2 : m = 0
  ·refine .inl ?_;rw [h2];simp
  have hlm := hm1.resolve_left h2
  have hq : m <<< more / n < 2 ^ (m.log2 + 1 + more - n.log2) := by
   rw [Nat.div_lt_iff_lt_mul (by omega), Nat.shiftLeft_eq];have h3 := (log2_bounds (n := m) (by omega)).2;have h4 := (log2_bounds (n := n) (by omega)).1
   calc m * 2 ^ more < 2 ^ (m.log2 + 1) * 2 ^ more := Nat.mul_lt_mul_of_pos_right h3 (Nat.two_pow_pos _)
    _ = 2 ^ (m.log2 + 1 + more - n.log2) * 2 ^ n.log2 := by rw [← Nat.pow_add, ← Nat.pow_add]; congr 1; omega
    _ ≤ 2 ^ (m.log2 + 1 + more - n.log2) * n := Nat.mul_le_mul_left _ h4
  have hb : (m <<< more % n != 0).toNat ≤ 1 := by cases (m <<< more % n != 0) <;> simp
  have hmag : 2 * (m <<< more / n) + (m <<< more % n != 0).toNat < 2 ^ (m.log2 + 1 + more - n.log2 + 1) := by
   rw [Nat.pow_succ];omega
  rcases lt_pow hmag with h5 | h5
  ·exact .inl h5
  ·exact .inr (by omega)
 ·rw [hm, hn];refine ⟨_, rfl, ?_⟩
  show Lt (double.nearest false 0 0) _
  exact nearest_lt (.inl rfl) h0 h1
theorem toInt_lt {x : Nat} {e : Nat} (hx : Lt x e) (he : e ≤ 63) : ∃ n : Nat, floatToIntVal .f64 x .u64 = some (n : Int) ∧ n < 2 ^ e := by
 obtain ⟨m, p, hm, hm1⟩ := hx
 have e1 : (FloatKind.f64.decode x).toInt .zero = some ((Toward.zero.cut false (m <<< p.toNat) (-p).toNat : Nat) : Int) := by
  show (double.read x).toInt .zero = _
  rw [hm];unfold Datum.toInt Datum.integral;simp [signed]
 have hlt : Toward.zero.cut false (m <<< p.toNat) (-p).toNat < 2 ^ e := by
  have hz : Toward.zero.cut false (m <<< p.toNat) (-p).toNat ≤ (m <<< p.toNat) / 2 ^ (-p).toNat := by
   unfold Toward.cut;simp only [Nat.one_shiftLeft]
   by_cases h : (-p).toNat ≤ (m <<< p.toNat).log2 + 2
   ·rw [Nat.min_eq_left h]; simp
   ·rw [Nat.min_eq_right (by omega)];have hn : (m <<< p.toNat) < 2 ^ ((m <<< p.toNat).log2 + 1) := Nat.lt_log2_self;have h1 : 2 ^ ((m <<< p.toNat).log2 + 2) = 2 * 2 ^ ((m <<< p.toNat).log2 + 1) := by rw [show (m <<< p.toNat).log2 + 2 = (m <<< p.toNat).log2 + 1 + 1 by omega, Nat.pow_succ]; omega
    rw [Nat.div_eq_of_lt (by omega)];simp
  refine Nat.lt_of_le_of_lt hz ?_
  by_cases h2 : m = 0
  ·rw [h2, Nat.zero_shiftLeft, Nat.zero_div];exact Nat.two_pow_pos e
  ·have hl := hm1.resolve_left h2;rw [Nat.shiftLeft_eq, Nat.div_lt_iff_lt_mul (Nat.two_pow_pos _)];have h3 := (log2_bounds (n := m) (by omega)).2
   calc m * 2 ^ p.toNat < 2 ^ (m.log2 + 1) * 2 ^ p.toNat := Nat.mul_lt_mul_of_pos_right h3 (Nat.two_pow_pos _)
    _ = 2 ^ (m.log2 + 1 + p.toNat) := by rw [← Nat.pow_add]
    _ ≤ 2 ^ (e + (-p).toNat) := Nat.pow_le_pow_right (by omega) (by omega)
    _ = 2 ^ e * 2 ^ (-p).toNat := by rw [Nat.pow_add]
 generalize Toward.zero.cut false (m <<< p.toNat) (-p).toNat = n at *;refine ⟨n, ?_, hlt⟩;unfold floatToIntVal;rw [e1];simp only;have : 2 ^ e ≤ 2 ^ 63 := Nat.pow_le_pow_right (by omega) he;rw [if_pos ⟨by show (0 : Int) ≤ n; omega, by show (n : Int) ≤ 18446744073709551615; omega⟩]
theorem fl_lt {n e : Nat} (h : n < 2 ^ e) (he : e ≤ 900) : Lt (fl n) (e + 1) := by
 unfold fl FloatKind.nearest FloatKind.encode
 show Lt (double.nearest (decide ((n : Int) < 0)) (n : Int).natAbs 0) _
 rw [decide_eq_false (by omega), show (n : Int).natAbs = n from rfl];refine nearest_lt ?_ (by omega) (by omega)
 rcases lt_pow h with h1 | h1
 ·exact .inl h1
 ·exact .inr (by omega)
end Go.Proofs.YtmecbmgfacpecaaGreatDoor.Flo
namespace Go.Proofs.YtmecbmgfacpecaaGreatDoor.Dur
open Go Go.Proofs.YtmecbmgfacpecaaGreatDoor.Flo
set_option linter.unusedVariables false
set_option linter.unusedSimpArgs false
def isD (c : UInt8) : Bool := decide (48 ≤ c.toNat) && decide (c.toNat ≤ 57)
def dN (c : UInt8) : Nat := c.toNat - 48
theorem isD_iff {c : UInt8} : isD c = true ↔ 48 ≤ c.toNat ∧ c.toNat ≤ 57 := by unfold isD; simp
theorem dN_lt {c : UInt8} (h : isD c = true) : dN c ≤ 9 := by have := isD_iff.1 h; unfold dN; omega
def leadI : Nat → List UInt8 → Option (Nat × List UInt8)
 | x, [] => some (x, [])
 | x, c :: r => if isD c = true then (if 922337203685477580 < x then none else if 9223372036854775808 < x * 10 + dN c then none else leadI (x * 10 + dN c) r) else some (x, c :: r)
theorem leadI_le : ∀ (l : List UInt8) (x v : Nat) (r : List UInt8), x ≤ 9223372036854775808 → leadI x l = some (v, r) → v ≤ 9223372036854775808 ∧ r.length ≤ l.length
 | [], x, v, r, hx, h => by
  simp only [leadI, Option.some.injEq, Prod.mk.injEq] at h;obtain ⟨rfl, rfl⟩ := h;exact ⟨hx, Nat.le_refl _⟩
 | c :: l, x, v, r, hx, h => by
  unfold leadI at h
  split at h
  ·split at h
   ·cases h
   ·split at h
    ·cases h
    ·have := leadI_le l _ v r (by omega) h;exact ⟨this.1, by simp; omega⟩
  ·simp only [Option.some.injEq, Prod.mk.injEq] at h;obtain ⟨rfl, rfl⟩ := h;exact ⟨hx, Nat.le_refl _⟩
def one64 : Nat := 4607182418800017408
def ten64 : Nat := 4621819117588971520
def mulTen (s : Nat) : Nat := (floatBits .mul .f64 s ten64).getD 0
def leadF : Nat → Nat → Bool → List UInt8 → Nat × Nat × List UInt8
 | x, s, ov, [] => (x, s, [])
 | x, s, ov, c :: r => if isD c = true then (if ov = true then leadF x s true r else if 922337203685477580 < x then leadF x s true r else if 9223372036854775808 < x * 10 + dN c then leadF x s true r else leadF (x * 10 + dN c) (mulTen s) false r) else (x, s, c :: r)
def Scaled (x s : Nat) : Prop := ∃ j : Nat, x < 10 ^ j ∧ (j = 0 ∨ 10 ^ (j - 1) ≤ x) ∧ Ge s (3 * (j : Int))
theorem ten_is : ∃ n q, Ieee.double.read ten64 = .number false n q ∧ n ≠ 0 ∧ (3 : Int) ≤ (n.log2 : Int) + q := ⟨5629499534213120, -49, by decide +kernel, by decide, by decide +kernel⟩
theorem one_ge : Ge one64 0 := .inl ⟨4503599627370496, -52, by decide +kernel, by decide, by decide +kernel⟩
theorem scaled_one : Scaled 0 one64 := ⟨0, by simp, .inl rfl, by simpa using one_ge⟩
theorem pow10_le {j : Nat} (h : 10 ^ (j - 1) ≤ 9223372036854775808) : j ≤ 19 := by
 rcases Nat.lt_or_ge 19 j with h1 | h1
 ·have : 10 ^ 19 ≤ 10 ^ (j - 1) := Nat.pow_le_pow_right (by omega) (by omega);have e : (10 : Nat) ^ 19 = 10000000000000000000 := by decide
  omega
 ·exact h1
theorem Scaled.j_le {x s j : Nat} (hx : x ≤ 9223372036854775808) (h : j = 0 ∨ 10 ^ (j - 1) ≤ x) : j ≤ 19 := by
 rcases h with h | h
 ·omega
 ·exact pow10_le (Nat.le_trans h hx)
theorem Scaled.ten {x s : Nat} (h : Scaled x s) (hx : x ≤ 9223372036854775808) : ∃ r, floatBits .mul .f64 s ten64 = some r ∧ ∀ d, d ≤ 9 → Scaled (x * 10 + d) r := by
 obtain ⟨j, h1, h2, h3⟩ := h;have hj := Scaled.j_le (s := s) hx h2;obtain ⟨r, hr, hg⟩ := mul_ge h3 ten_is (by omega);refine ⟨r, hr, fun d hd => ?_⟩
 by_cases h0 : x * 10 + d = 0
 ·-- still nothing: the scale has not become less
  have hx0 : x = 0 := by omega
  have hj0 : j = 0 := by
   rcases h2 with h2 | h2
   ·exact h2
   ·have := Nat.pow_pos (a := 10) (n := j - 1) (by omega);omega
  subst hj0;refine ⟨0, by omega, .inl rfl, ?_⟩
  rcases hg with ⟨m, p, a, b, c⟩ | hg
  ·exact .inl ⟨m, p, a, b, by omega⟩
  ·exact .inr hg
 ·refine ⟨j + 1, by rw [Nat.pow_succ]; omega, .inr ?_, ?_⟩
  ·rw [Nat.add_sub_cancel]
   rcases h2 with h2 | h2
   ·subst h2;simp only [Nat.pow_zero];omega
   ·have : 10 ^ j = 10 ^ (j - 1) * 10 ∨ j = 0 := by
     rcases Nat.eq_zero_or_pos j with e | e
     ·exact .inr e
     ·refine .inl ?_;rw [← Nat.pow_succ]
      congr 1
      omega
    rcases this with e | e
    ·rw [e]; omega
    ·subst e;simp only [Nat.pow_zero];omega
  ·rw [show (3 : Int) * ((j + 1 : Nat) : Int) = 3 * (j : Int) + 3 by push_cast; omega];exact hg
theorem leadF_scaled : ∀ (l : List UInt8) (x s : Nat) (ov : Bool), Scaled x s → x ≤ 9223372036854775808 → Scaled (leadF x s ov l).1 (leadF x s ov l).2.1 ∧ (leadF x s ov l).1 ≤ 9223372036854775808 ∧ (leadF x s ov l).2.2.length ≤ l.length
 | [], x, s, ov, h, hx => by simp only [leadF]; exact ⟨h, hx, Nat.le_refl _⟩
 | c :: l, x, s, ov, h, hx => by
  unfold leadF
  by_cases hd : isD c = true
  ·rw [if_pos hd];have up : ∀ {a b : Nat}, a ≤ b → a ≤ b + 1 := fun h => by omega
   split
   ·have := leadF_scaled l x s true h hx;exact ⟨this.1, this.2.1, by simp only [List.length_cons]; exact up this.2.2⟩
   ·split
    ·have := leadF_scaled l x s true h hx;exact ⟨this.1, this.2.1, by simp only [List.length_cons]; exact up this.2.2⟩
    ·split
     ·have := leadF_scaled l x s true h hx;exact ⟨this.1, this.2.1, by simp only [List.length_cons]; exact up this.2.2⟩
     ·obtain ⟨r, hr, hs⟩ := h.ten hx;have e : mulTen s = r := by unfold mulTen; rw [hr]; rfl
      have := leadF_scaled l (x * 10 + dN c) (mulTen s) false (by rw [e]; exact hs _ (dN_lt hd)) (by omega);exact ⟨this.1, this.2.1, by simp only [List.length_cons]; exact up this.2.2⟩
  ·rw [if_neg hd];exact ⟨h, hx, Nat.le_refl _⟩
def quoW (unit s : Nat) : Nat := (floatBits .quo .f64 (fl unit) s).getD 0
def mulW (f unit s : Nat) : Nat := (floatBits .mul .f64 (fl f) (quoW unit s)).getD 0
def fracN (f s unit : Nat) : Nat := ((floatToIntVal .f64 (mulW f unit s) .u64).getD 0).toNat
theorem ten_pow : ∀ j : Fin 20, 10 ^ j.val ≤ 2 ^ ((10 * j.val + 2) / 3) := by decide
theorem frac_ok {f s unit : Nat} (h : Scaled f s) (hf : f ≤ 9223372036854775808) (hu : unit ≤ 3600000000000) :
  floatBits .quo .f64 (fl unit) s = some (quoW unit s) ∧ floatBits .mul .f64 (fl f) (quoW unit s) = some (mulW f unit s) ∧ floatToIntVal .f64 (mulW f unit s) .u64 = some ((fracN f s unit : Nat) : Int) ∧ fracN f s unit < 9223372036854775808 := by
 obtain ⟨j, h1, h2, h3⟩ := h;have hj := Scaled.j_le (s := s) hf h2;have hul : Lt (fl unit) 43 := fl_lt (e := 42) (by omega) (by omega);have hfl : Lt (fl f) ((((10 * j + 2) / 3 : Nat) : Int) + 1) := fl_lt (e := (10 * j + 2) / 3) (Nat.lt_of_lt_of_le h1 (ten_pow ⟨j, by omega⟩)) (by omega);obtain ⟨q, hq, hql⟩ := div_lt hul h3 (by omega) (by omega);have eq : quoW unit s = q := by unfold quoW; rw [hq]; rfl
 obtain ⟨r, hr, hrl⟩ := mul_lt hfl hql (by omega) (by omega);have er : mulW f unit s = r := by unfold mulW; rw [eq, hr]; rfl
 have hr63 : Lt r ((63 : Nat) : Int) := by
  obtain ⟨m, p, a, b⟩ := hrl;refine ⟨m, p, a, ?_⟩
  rcases b with b | b
  ·exact .inl b
  ·refine .inr ?_
   push_cast at b ⊢
   omega
 obtain ⟨n, hn, hnl⟩ := toInt_lt hr63 (by omega);have en : fracN f s unit = n := by unfold fracN; rw [er, hn]; rfl
 exact ⟨by rw [eq]; exact hq, by rw [eq, er]; exact hr, by rw [er, en]; exact hn, by rw [en]; exact hnl⟩
def unitN (u : List UInt8) : Option Nat :=
 if u = [110, 115] then some 1 else if u = [117, 115] then some 1000 else if u = [194, 181, 115] then some 1000 else if u = [206, 188, 115] then some 1000 else if u = [109, 115] then some 1000000
 else if u = [115] then some 1000000000 else if u = [109] then some 60000000000 else if u = [104] then some 3600000000000 else none
theorem unit_le {u : List UInt8} {n : Nat} (h : unitN u = some n) : 1 ≤ n ∧ n ≤ 3600000000000 := by
 unfold unitN at h
 (repeat' split at h) <;> first | (cases h; omega) | cases h
def isU (c : UInt8) : Bool := !(isD c || c == 46)
def fracF (r : List UInt8) : Nat × Nat × List UInt8 × Bool :=
 match r with
 | 46 :: t => ((leadF 0 one64 false t).1, (leadF 0 one64 false t).2.1, (leadF 0 one64 false t).2.2, !decide (t.length = (leadF 0 one64 false t).2.2.length))
 | _ => (0, one64, r, false)
def unitF (v f s : Nat) (r : List UInt8) : Option (Nat × List UInt8) :=
 if r.takeWhile isU = [] then none else
 match unitN (r.takeWhile isU) with
 | none => none
 | some n => if 9223372036854775808 / n < v then none else if 0 < f then (if 9223372036854775808 < v * n + fracN f s n then none else some (v * n + fracN f s n, r.dropWhile isU)) else some (v * n, r.dropWhile isU)
def termF (l : List UInt8) : Option (Nat × List UInt8) :=
 match l with
 | [] => none
 | c :: _ =>
  if isD c || c == 46 then
   match leadI 0 l with
   | none => none
   | some (v, r) =>
    if decide (l.length = r.length) && !(fracF r).2.2.2 then none else unitF v (fracF r).1 (fracF r).2.1 (fracF r).2.2.1
  else none
theorem fracF_ok (r : List UInt8) : Scaled (fracF r).1 (fracF r).2.1 ∧ (fracF r).1 ≤ 9223372036854775808 ∧ (fracF r).2.2.1.length ≤ r.length := by
 unfold fracF
 split
 ·rename_i t
  have := leadF_scaled t 0 one64 false scaled_one (by omega);exact ⟨this.1, this.2.1, by simp only [List.length_cons]; omega⟩
 ·exact ⟨scaled_one, by omega, Nat.le_refl _⟩
theorem unitF_ok {v f s n : Nat} {r t : List UInt8} (h : unitF v f s r = some (n, t)) : n ≤ 9223372036854775808 ∧ t.length < r.length := by
 unfold unitF at h
 split at h
 ·cases h
 ·rename_i hne
  have hl : (r.dropWhile isU).length < r.length := by
   have := congrArg List.length (List.takeWhile_append_dropWhile (p := isU) (l := r));rw [List.length_append] at this;have : 0 < (r.takeWhile isU).length := List.length_pos_iff.2 hne;omega
  split at h
  ·cases h
  ·rename_i u hu
   have hu2 := unit_le hu
   split at h
   ·cases h
   ·rename_i hv
    have hvn : v * u ≤ 9223372036854775808 := by
     have : v ≤ 9223372036854775808 / u := by omega
     calc v * u ≤ 9223372036854775808 / u * u := Nat.mul_le_mul_right _ this
      _ ≤ 9223372036854775808 := Nat.div_mul_le_self _ _
    split at h
    ·split at h
     ·cases h
     ·simp only [Option.some.injEq, Prod.mk.injEq] at h;obtain ⟨rfl, rfl⟩ := h;exact ⟨by omega, hl⟩
    ·simp only [Option.some.injEq, Prod.mk.injEq] at h;obtain ⟨rfl, rfl⟩ := h;exact ⟨hvn, hl⟩
theorem termF_ok {l r : List UInt8} {n : Nat} (h : termF l = some (n, r)) : n ≤ 9223372036854775808 ∧ r.length < l.length := by
 unfold termF at h
 split at h
 ·cases h
 ·split at h
  ·split at h
   ·cases h
   ·rename_i v t hv
    split at h
    ·cases h
    ·have h1 := unitF_ok h;have h2 := (leadI_le _ _ _ _ (by omega) hv).2;have h3 := (fracF_ok t).2.2;exact ⟨h1.1, by omega⟩
  ·cases h
def sumF : Nat → Nat → List UInt8 → Option Nat
 | _, d, [] => some d
 | 0, _, _ :: _ => none
 | k + 1, d, c :: l =>
  match termF (c :: l) with
  | none => none
  | some (n, r) => if 9223372036854775808 < (d + n) % 18446744073709551616 then none else sumF k ((d + n) % 18446744073709551616) r
theorem sumF_fuel : ∀ (k m d : Nat) (l : List UInt8), l.length ≤ k → l.length ≤ m → sumF k d l = sumF m d l
 | k, m, d, [], _, _ => by cases k <;> cases m <;> rfl
 | 0, _, _, c :: l, h, _ => by simp at h
 | _ + 1, 0, _, c :: l, _, h => by simp at h
 | k + 1, m + 1, d, c :: l, h1, h2 => by
  unfold sumF
  split
  ·rfl
  ·rename_i n r hr
   have := (termF_ok hr).2;simp only [List.length_cons] at this h1 h2
   split
   ·rfl
   ·exact sumF_fuel k m _ r (by omega) (by omega)
def signF (l : List UInt8) : Bool × List UInt8 :=
 match l with
 | 45 :: r => (true, r)
 | 43 :: r => (false, r)
 | _ => (false, l)
def finF (neg : Bool) (r : Option Nat) : Option Int :=
 match r with
 | none => none
 | some d => if neg = true then some (if d = 9223372036854775808 then -9223372036854775808 else -(d : Int)) else if 9223372036854775807 < d then none else some (d : Int)
def durF (l : List UInt8) : Option Int :=
 if (signF l).2 = [48] then some 0 else if (signF l).2 = [] then none else finF (signF l).1 (sumF (signF l).2.length 0 (signF l).2)
end Go.Proofs.YtmecbmgfacpecaaGreatDoor.Dur
namespace Go.Proofs.YtmecbmgfacpecaaGreatDoor.Cron
open Go Go.RowKit Go.Proofs.YtmecbmgfacpecaaGreatDoor.Text Go.Proofs.YtmecbmgfacpecaaGreatDoorW.PrintWords Go.Proofs.YtmecbmgfacpecaaGreatDoorW.PrintLast Go.Proofs.YtmecbmgfacpecaaGreatDoorW.PrintMore Go.Proofs.YtmecbmgfacpecaaGreatDoor.Dur
set_option linter.unusedVariables false
set_option linter.unusedSimpArgs false
def GE (w : World) : Prop := ∃ tp p, w.var? Tryz.prog "pub-timebook/pub/gotime.errLeadingInt" = some #[.iface tp p]
theorem gLead : Tryz.prog.globalNamed "pub-timebook/pub/gotime.errLeadingInt" = some 4 := by kernel_rfl
theorem GE.below {w w' : World} (h : GE w) (hb : Below w.heap.size w w') : GE w' := by
 obtain ⟨t, p, h1⟩ := h;exact ⟨t, p, var?_below hb gLead (lt_of_var gLead h1) h1⟩
theorem GE.cell {w : World} (h : GE w) : ∃ tp p, w.cell? ⟨4, 0, none⟩ = some (.iface tp p) := by
 obtain ⟨t, p, h1⟩ := h;exact ⟨t, p, by simpa using World.var?_cell gLead h1 0⟩
theorem str_at (l : List UInt8) (i : Nat) (hi : i < l.length) (w : World) : (Instr.index 9 (.string (ba l)) (.int .i64 (i : Nat))).run Tryz.prog w = .ok (.int .u8 (l[i].toNat : Nat)) w := by
 rw [run_index_string w 9 (ba l) .i64 i Tryz.underlying9];rw [dif_pos ⟨by omega, by rw [ba_size]; omega⟩];rfl
theorem str_from (l : List UInt8) (i : Nat) (hi : i ≤ l.length) (w : World) : (Instr.slice 9 (.string (ba l)) (some (.int .i64 (i : Nat))) none none).run Tryz.prog w = .ok (.string (ba (l.drop i))) w := by
 have e : (ba l).extract i (ba l).size = ba (l.drop i) := by rw [extract_ba, ba_list, ba_size, List.take_length]
 have hs := ba_size l;have h1 : (i : Int) ≤ ((ba l).size : Nat) := by omega
 rw [← e];simp [Instr.slice, Instr.sliceBounds, Instr.sliceBound, asIntOf, run_underlying Tryz.underlying9];intro h;omega
theorem str_to (l : List UInt8) (i : Nat) (hi : i ≤ l.length) (w : World) : (Instr.slice 9 (.string (ba l)) none (some (.int .i64 (i : Nat))) none).run Tryz.prog w = .ok (.string (ba (l.take i))) w := by
 have e : (ba l).extract 0 i = ba (l.take i) := by rw [extract_ba, ba_list, List.drop_zero]
 have hs := ba_size l;rw [← e];simp [Instr.slice, Instr.sliceBounds, Instr.sliceBound, asIntOf, run_underlying Tryz.underlying9];intro h;omega
def LeadAns (r : Option (Nat × List UInt8)) (e : Ending) : Prop := match r with
 | some (v, r) => e = .returned (.tuple #[.int .u64 (v : Nat), .string (ba r), .nilIface])
 | none => ∃ t x, e = .returned (.tuple #[.int .u64 0, .string ⟨#[]⟩, .iface t x])
set_option maxRecDepth 100000 in
set_option maxHeartbeats 8000000 in
theorem leadInt_any (l : List UInt8) (hl : l.length ≤ 4294967296) (w : World) (hg : GE w) :
  Calls Tryz.prog 175 #[.string (ba l)] w fun e w' => LeadAns (leadI 0 l) e ∧ Below w.heap.size w w' := by
 obtain ⟨tp, pp, hcell⟩ := hg.cell;have hsz := ba_size l
 go_enter Tryz.func175, Tryz.ntmps175
 go_wp2_with fail
 go_loopw [2, 3, 5] (fun v2 v3 v5 wr => ∃ (x i : Nat), v2 = .int .u64 x ∧ v3 = .string ⟨#[]⟩ ∧ v5 = .int .i64 i ∧ i ≤ l.length ∧ x ≤ 9223372036854775808 ∧ Hid (leadI 0 l = leadI x (l.drop i)) ∧ wr = w) (fun _ _ v5 _ => l.length - (intOf v5).toNat)
 case atStart => exact ⟨0, 0, rfl, rfl, rfl, by omega, by omega, Lib.hid rfl, rfl⟩
 case round =>
  obtain ⟨x, i, rfl, rfl, rfl, hi, hx, HL, hwr⟩ := hrel;have hwr' := hwr.symm;clear hwr;subst hwr';have hfrom := str_from l i hi
  by_cases hil : i < l.length
  ·have hd : decide ((i : Int) < (ba l).size) = true := decide_eq_true (by rw [hsz]; omega);have hidx := str_at l i hil;have hdrop := List.drop_eq_getElem_cons hil;obtain ⟨c, hc⟩ : ∃ c, c = l[i] := ⟨_, rfl⟩
   rw [← hc] at hidx hdrop
   have HDR := Lib.hid hdrop;have hc256 : c.toNat < 256 := c.toNat_lt;clear hdrop hc
   by_cases hlo : c.toNat < 48
   ·have h1 : decide ((c.toNat : Int) < 48) = true := decide_eq_true (by omega);have HND : Hid (isD c = false) := Lib.hid (by unfold isD; rw [decide_eq_false (by omega : ¬ 48 ≤ c.toNat)]; rfl)
    go_upto_region 11 with fail
    refine start_ (n := 7) (S := fun w' => Below w.heap.size w w') (ds := []) #[false, false, false, false, false, false, false] (by kernel_rfl) rfl rfl ((Below.refl _ _).drew) (fun hHeld => ?_);refine pure_ (i := 0) (N := some 36) (v := ?_) (a' := ?_) #[true, false, false, false, false, false, false] rfl rfl (by kernel_rfl) (fun _ _ _ h => h) (Or.inl ⟨by rfl, ?_⟩) ?_ ?_;rotate_left
    ·intro w'
     go_simp
     with_reducible rfl
    rotate_left
    ·simp only [Act.put, List.setIfInBounds_toArray, List.set_cons_zero, List.set_cons_succ, i64_w, i32_w];rfl
    refine pure_ (i := 1) (N := some 37) (v := ?_) (a' := ?_) #[true, true, false, false, false, false, false] rfl rfl (by kernel_rfl) (fun _ _ _ h => h) (Or.inl ⟨by rfl, ?_⟩) ?_ ?_;rotate_left
    ·intro w'
     go_simp
     with_reducible rfl
    rotate_left
    ·simp only [Act.put, List.setIfInBounds_toArray, List.set_cons_zero, List.set_cons_succ, i64_w, i32_w];rfl
    refine pure_ (i := 2) (N := some 38) (v := ?_) (a' := ?_) #[true, true, true, false, false, false, false] rfl rfl (by kernel_rfl) (fun _ _ _ h => h) (Or.inl ⟨by rfl, ?_⟩) ?_ ?_;rotate_left
    ·intro w'
     go_simp
     with_reducible rfl
    rotate_left
    ·simp only [Act.put, List.setIfInBounds_toArray, List.set_cons_zero, List.set_cons_succ, i64_w, i32_w];rfl
    refine pure_ (i := 3) (N := some 39) (v := ?_) (a' := ?_) #[true, true, true, true, false, false, false] rfl rfl (by kernel_rfl) (fun _ _ _ h => h) (Or.inl ⟨by rfl, ?_⟩) ?_ ?_;rotate_left
    ·intro w'
     go_simp
     with_reducible rfl
    rotate_left
    ·simp only [Act.put, List.setIfInBounds_toArray, List.set_cons_zero, List.set_cons_succ, i64_w, i32_w];rfl
    refine pure_ (i := 4) (N := some 2) (v := ?_) (a' := ?_) #[true, true, true, true, true, false, false] rfl rfl (by kernel_rfl) (fun _ _ _ h => h) (Or.inl ⟨by rfl, ?_⟩) ?_ ?_;rotate_left
    ·intro w'
     go_simp
     with_reducible rfl
    rotate_left
    ·simp only [Act.put, List.setIfInBounds_toArray, List.set_cons_zero, List.set_cons_succ, i64_w, i32_w];rfl
    refine pure_ (i := 5) (N := some 3) (v := ?_) (a' := ?_) #[true, true, true, true, true, true, false] rfl rfl (by kernel_rfl) (fun _ _ _ h => h) (Or.inl ⟨by rfl, ?_⟩) ?_ ?_;rotate_left
    ·intro w'
     go_simp
     with_reducible rfl
    rotate_left
    ·simp only [Act.put, List.setIfInBounds_toArray, List.set_cons_zero, List.set_cons_succ, i64_w, i32_w];rfl
    refine pure_ (i := 6) (N := some 4) (v := ?_) (a' := ?_) #[true, true, true, true, true, true, true] rfl rfl (by kernel_rfl) (fun _ _ _ h => h) (Or.inl ⟨by rfl, ?_⟩) ?_ ?_;rotate_left
    ·intro w'
     go_simp
     with_reducible rfl
    rotate_left
    ·simp only [Act.put, List.setIfInBounds_toArray, List.set_cons_zero, List.set_cons_succ, i64_w, i32_w];rfl
    refine done_ (by kernel_rfl) ?_
    go_wp2_with fail
    have hb := hHeld;refine bodyPost_ret (v := .tuple #[.int .u64 (x : Nat), .string (ba (l.drop i)), .nilIface]) (by simp [results, Tryz.results175, go_sem]) rfl ⟨?_, hb⟩;rw [HL.out, HDR.out, leadI, if_neg (by rw [HND.out]; simp)];exact rfl
   ·have h1 : decide ((c.toNat : Int) < 48) = false := decide_eq_false (by omega)
    by_cases hhi : 57 < c.toNat
    ·have h2 : decide ((c.toNat : Int) > 57) = true := decide_eq_true (by omega);have HND : Hid (isD c = false) := Lib.hid (by unfold isD; rw [decide_eq_false (by omega : ¬ c.toNat ≤ 57), Bool.and_false])
     go_upto_region 11 with fail
     refine start_ (n := 7) (S := fun w' => Below w.heap.size w w') (ds := []) #[false, false, false, false, false, false, false] (by kernel_rfl) rfl rfl ((Below.refl _ _).drew) (fun hHeld => ?_);refine pure_ (i := 0) (N := some 36) (v := ?_) (a' := ?_) #[true, false, false, false, false, false, false] rfl rfl (by kernel_rfl) (fun _ _ _ h => h) (Or.inl ⟨by rfl, ?_⟩) ?_ ?_;rotate_left
     ·intro w'
      go_simp
      with_reducible rfl
     rotate_left
     ·simp only [Act.put, List.setIfInBounds_toArray, List.set_cons_zero, List.set_cons_succ, i64_w, i32_w];rfl
     refine pure_ (i := 1) (N := some 37) (v := ?_) (a' := ?_) #[true, true, false, false, false, false, false] rfl rfl (by kernel_rfl) (fun _ _ _ h => h) (Or.inl ⟨by rfl, ?_⟩) ?_ ?_;rotate_left
     ·intro w'
      go_simp
      with_reducible rfl
     rotate_left
     ·simp only [Act.put, List.setIfInBounds_toArray, List.set_cons_zero, List.set_cons_succ, i64_w, i32_w];rfl
     refine pure_ (i := 2) (N := some 38) (v := ?_) (a' := ?_) #[true, true, true, false, false, false, false] rfl rfl (by kernel_rfl) (fun _ _ _ h => h) (Or.inl ⟨by rfl, ?_⟩) ?_ ?_;rotate_left
     ·intro w'
      go_simp
      with_reducible rfl
     rotate_left
     ·simp only [Act.put, List.setIfInBounds_toArray, List.set_cons_zero, List.set_cons_succ, i64_w, i32_w];rfl
     refine pure_ (i := 3) (N := some 39) (v := ?_) (a' := ?_) #[true, true, true, true, false, false, false] rfl rfl (by kernel_rfl) (fun _ _ _ h => h) (Or.inl ⟨by rfl, ?_⟩) ?_ ?_;rotate_left
     ·intro w'
      go_simp
      with_reducible rfl
     rotate_left
     ·simp only [Act.put, List.setIfInBounds_toArray, List.set_cons_zero, List.set_cons_succ, i64_w, i32_w];rfl
     refine pure_ (i := 4) (N := some 2) (v := ?_) (a' := ?_) #[true, true, true, true, true, false, false] rfl rfl (by kernel_rfl) (fun _ _ _ h => h) (Or.inl ⟨by rfl, ?_⟩) ?_ ?_;rotate_left
     ·intro w'
      go_simp
      with_reducible rfl
     rotate_left
     ·simp only [Act.put, List.setIfInBounds_toArray, List.set_cons_zero, List.set_cons_succ, i64_w, i32_w];rfl
     refine pure_ (i := 5) (N := some 3) (v := ?_) (a' := ?_) #[true, true, true, true, true, true, false] rfl rfl (by kernel_rfl) (fun _ _ _ h => h) (Or.inl ⟨by rfl, ?_⟩) ?_ ?_;rotate_left
     ·intro w'
      go_simp
      with_reducible rfl
     rotate_left
     ·simp only [Act.put, List.setIfInBounds_toArray, List.set_cons_zero, List.set_cons_succ, i64_w, i32_w];rfl
     refine pure_ (i := 6) (N := some 4) (v := ?_) (a' := ?_) #[true, true, true, true, true, true, true] rfl rfl (by kernel_rfl) (fun _ _ _ h => h) (Or.inl ⟨by rfl, ?_⟩) ?_ ?_;rotate_left
     ·intro w'
      go_simp
      with_reducible rfl
     rotate_left
     ·simp only [Act.put, List.setIfInBounds_toArray, List.set_cons_zero, List.set_cons_succ, i64_w, i32_w];rfl
     refine done_ (by kernel_rfl) ?_
     go_wp2_with fail
     have hb := hHeld;refine bodyPost_ret (v := .tuple #[.int .u64 (x : Nat), .string (ba (l.drop i)), .nilIface]) (by simp [results, Tryz.results175, go_sem]) rfl ⟨?_, hb⟩;rw [HL.out, HDR.out, leadI, if_neg (by rw [HND.out]; simp)];exact rfl
    ·have h2 : decide ((c.toNat : Int) > 57) = false := decide_eq_false (by omega);have HD : Hid (isD c = true) := Lib.hid (isD_iff.2 ⟨by omega, by omega⟩)
     by_cases hov : 922337203685477580 < x
     ·have h3 : decide ((x : Int) > 922337203685477580) = true := decide_eq_true (by omega)
      go_upto_region 7 with fail
      have hcell0 := hcell;refine start_ (n := 5) (S := fun w' => w'.cell? ⟨4, 0, none⟩ = some (.iface tp pp) ∧ Below w.heap.size w w') (ds := []) #[false, false, false, false, false] (by kernel_rfl) rfl rfl ⟨hcell0, (Below.refl _ _).drew⟩ (fun hHeld => ?_);refine pure_ (i := 0) (N := some 24) (v := ?_) (a' := ?_) #[true, false, false, false, false] rfl rfl (by kernel_rfl) (fun _ _ _ h => h) (Or.inl ⟨by rfl, ?_⟩) ?_ ?_;rotate_left
      ·intro w'
       go_simp
       with_reducible rfl
      rotate_left
      ·simp only [Act.put, List.setIfInBounds_toArray, List.set_cons_zero, List.set_cons_succ, i64_w, i32_w];rfl
      refine pure_ (i := 2) (N := some 2) (v := ?_) (a' := ?_) #[true, false, true, false, false] rfl rfl (by kernel_rfl) (fun _ _ _ h => h) (Or.inl ⟨by rfl, ?_⟩) ?_ ?_;rotate_left
      ·intro w'
       go_simp
       with_reducible rfl
      rotate_left
      ·simp only [Act.put, List.setIfInBounds_toArray, List.set_cons_zero, List.set_cons_succ, i64_w, i32_w];rfl
      refine pure_ (i := 3) (N := some 3) (v := ?_) (a' := ?_) #[true, false, true, true, false] rfl rfl (by kernel_rfl) (fun _ _ _ h => h) (Or.inl ⟨by rfl, ?_⟩) ?_ ?_;rotate_left
      ·intro w'
       go_simp
       with_reducible rfl
      rotate_left
      ·simp only [Act.put, List.setIfInBounds_toArray, List.set_cons_zero, List.set_cons_succ, i64_w, i32_w];rfl
      refine take_ (i := 1) (N := some 25) (v := ?_) (a' := ?_) #[true, true, true, true, false] rfl rfl (by kernel_rfl) (fun _ _ _ h => h) (Or.inl ⟨by rfl, ?_⟩) hHeld ?_ ?_;rotate_left
      ·rintro w' ⟨s0, s1⟩
       go_simp
       with_reducible rfl
      rotate_left
      ·simp only [Act.put, List.setIfInBounds_toArray, List.set_cons_zero, List.set_cons_succ, i64_w, i32_w];rfl
      refine pure_ (i := 4) (N := some 4) (v := ?_) (a' := ?_) #[true, true, true, true, true] rfl rfl (by kernel_rfl) (fun _ _ _ h => h) (Or.inl ⟨by rfl, ?_⟩) ?_ ?_;rotate_left
      ·intro w'
       go_simp
       with_reducible rfl
      rotate_left
      ·simp only [Act.put, List.setIfInBounds_toArray, List.set_cons_zero, List.set_cons_succ, i64_w, i32_w];rfl
      refine done_ (by kernel_rfl) ?_
      go_wp2_with fail
      have hb := hHeld.2;refine bodyPost_ret (v := .tuple #[.int .u64 0, .string ⟨#[]⟩, .iface tp pp]) (by simp [results, Tryz.results175, go_sem]) rfl ⟨?_, hb⟩;rw [HL.out, HDR.out, leadI, if_pos HD.out, if_pos hov];exact ⟨_, _, rfl⟩
     ·have h3 : decide ((x : Int) > 922337203685477580) = false := decide_eq_false (by omega);obtain ⟨dd, hdd⟩ : ∃ dd, dN c = dd := ⟨_, rfl⟩
      have hde : c.toNat = dd + 48 := by rw [← hdd]; unfold dN; omega
      have HDN := Lib.hid hdd;clear hdd;rw [hde] at hidx h1 h2
      by_cases hbig : 9223372036854775808 < x * 10 + dd
      ·have h4 : decide ((x : Int) * 10 + ((dd : Int) + 48) - 48 > 9223372036854775808) = true := decide_eq_true (by omega)
       go_upto_region 10 with fail
       have hcell0 := hcell;refine start_ (n := 5) (S := fun w' => w'.cell? ⟨4, 0, none⟩ = some (.iface tp pp) ∧ Below w.heap.size w w') (ds := []) #[false, false, false, false, false] (by kernel_rfl) rfl rfl ⟨hcell0, (Below.refl _ _).drew⟩ (fun hHeld => ?_);refine pure_ (i := 0) (N := some 34) (v := ?_) (a' := ?_) #[true, false, false, false, false] rfl rfl (by kernel_rfl) (fun _ _ _ h => h) (Or.inl ⟨by rfl, ?_⟩) ?_ ?_;rotate_left
       ·intro w'
        go_simp
        with_reducible rfl
       rotate_left
       ·simp only [Act.put, List.setIfInBounds_toArray, List.set_cons_zero, List.set_cons_succ, i64_w, i32_w];rfl
       refine pure_ (i := 2) (N := some 2) (v := ?_) (a' := ?_) #[true, false, true, false, false] rfl rfl (by kernel_rfl) (fun _ _ _ h => h) (Or.inl ⟨by rfl, ?_⟩) ?_ ?_;rotate_left
       ·intro w'
        go_simp
        with_reducible rfl
       rotate_left
       ·simp only [Act.put, List.setIfInBounds_toArray, List.set_cons_zero, List.set_cons_succ, i64_w, i32_w];rfl
       refine pure_ (i := 3) (N := some 3) (v := ?_) (a' := ?_) #[true, false, true, true, false] rfl rfl (by kernel_rfl) (fun _ _ _ h => h) (Or.inl ⟨by rfl, ?_⟩) ?_ ?_;rotate_left
       ·intro w'
        go_simp
        with_reducible rfl
       rotate_left
       ·simp only [Act.put, List.setIfInBounds_toArray, List.set_cons_zero, List.set_cons_succ, i64_w, i32_w];rfl
       refine take_ (i := 1) (N := some 35) (v := ?_) (a' := ?_) #[true, true, true, true, false] rfl rfl (by kernel_rfl) (fun _ _ _ h => h) (Or.inl ⟨by rfl, ?_⟩) hHeld ?_ ?_;rotate_left
       ·rintro w' ⟨s0, s1⟩
        go_simp
        with_reducible rfl
       rotate_left
       ·simp only [Act.put, List.setIfInBounds_toArray, List.set_cons_zero, List.set_cons_succ, i64_w, i32_w];rfl
       refine pure_ (i := 4) (N := some 4) (v := ?_) (a' := ?_) #[true, true, true, true, true] rfl rfl (by kernel_rfl) (fun _ _ _ h => h) (Or.inl ⟨by rfl, ?_⟩) ?_ ?_;rotate_left
       ·intro w'
        go_simp
        with_reducible rfl
       rotate_left
       ·simp only [Act.put, List.setIfInBounds_toArray, List.set_cons_zero, List.set_cons_succ, i64_w, i32_w];rfl
       refine done_ (by kernel_rfl) ?_
       go_wp2_with fail
       have hb := hHeld.2;refine bodyPost_ret (v := .tuple #[.int .u64 0, .string ⟨#[]⟩, .iface tp pp]) (by simp [results, Tryz.results175, go_sem]) rfl ⟨?_, hb⟩;rw [HL.out, HDR.out, leadI, if_pos HD.out, if_neg hov, HDN.out, if_pos hbig];exact ⟨_, _, rfl⟩
      ·have h4 : decide ((x : Int) * 10 + ((dd : Int) + 48) - 48 > 9223372036854775808) = false := decide_eq_false (by omega)
       go_wp2_with fail
       refine ⟨⟨x * 10 + dd, i + 1, by go_num, rfl, by go_num, by omega, by omega, Lib.hid (by rw [HL.out, HDR.out, leadI, if_pos HD.out, if_neg hov, HDN.out, if_neg hbig]), trivial⟩, by simp [intOf]; omega⟩
  ·have hd : decide ((i : Int) < (ba l).size) = false := decide_eq_false (by rw [hsz]; omega)
   go_upto_region 11 with fail
   refine start_ (n := 7) (S := fun w' => Below w.heap.size w w') (ds := []) #[false, false, false, false, false, false, false] (by kernel_rfl) rfl rfl ((Below.refl _ _).drew) (fun hHeld => ?_);refine pure_ (i := 0) (N := some 36) (v := ?_) (a' := ?_) #[true, false, false, false, false, false, false] rfl rfl (by kernel_rfl) (fun _ _ _ h => h) (Or.inl ⟨by rfl, ?_⟩) ?_ ?_;rotate_left
   ·intro w'
    go_simp
    with_reducible rfl
   rotate_left
   ·simp only [Act.put, List.setIfInBounds_toArray, List.set_cons_zero, List.set_cons_succ, i64_w, i32_w];rfl
   refine pure_ (i := 1) (N := some 37) (v := ?_) (a' := ?_) #[true, true, false, false, false, false, false] rfl rfl (by kernel_rfl) (fun _ _ _ h => h) (Or.inl ⟨by rfl, ?_⟩) ?_ ?_;rotate_left
   ·intro w'
    go_simp
    with_reducible rfl
   rotate_left
   ·simp only [Act.put, List.setIfInBounds_toArray, List.set_cons_zero, List.set_cons_succ, i64_w, i32_w];rfl
   refine pure_ (i := 2) (N := some 38) (v := ?_) (a' := ?_) #[true, true, true, false, false, false, false] rfl rfl (by kernel_rfl) (fun _ _ _ h => h) (Or.inl ⟨by rfl, ?_⟩) ?_ ?_;rotate_left
   ·intro w'
    go_simp
    with_reducible rfl
   rotate_left
   ·simp only [Act.put, List.setIfInBounds_toArray, List.set_cons_zero, List.set_cons_succ, i64_w, i32_w];rfl
   refine pure_ (i := 3) (N := some 39) (v := ?_) (a' := ?_) #[true, true, true, true, false, false, false] rfl rfl (by kernel_rfl) (fun _ _ _ h => h) (Or.inl ⟨by rfl, ?_⟩) ?_ ?_;rotate_left
   ·intro w'
    go_simp
    with_reducible rfl
   rotate_left
   ·simp only [Act.put, List.setIfInBounds_toArray, List.set_cons_zero, List.set_cons_succ, i64_w, i32_w];rfl
   refine pure_ (i := 4) (N := some 2) (v := ?_) (a' := ?_) #[true, true, true, true, true, false, false] rfl rfl (by kernel_rfl) (fun _ _ _ h => h) (Or.inl ⟨by rfl, ?_⟩) ?_ ?_;rotate_left
   ·intro w'
    go_simp
    with_reducible rfl
   rotate_left
   ·simp only [Act.put, List.setIfInBounds_toArray, List.set_cons_zero, List.set_cons_succ, i64_w, i32_w];rfl
   refine pure_ (i := 5) (N := some 3) (v := ?_) (a' := ?_) #[true, true, true, true, true, true, false] rfl rfl (by kernel_rfl) (fun _ _ _ h => h) (Or.inl ⟨by rfl, ?_⟩) ?_ ?_;rotate_left
   ·intro w'
    go_simp
    with_reducible rfl
   rotate_left
   ·simp only [Act.put, List.setIfInBounds_toArray, List.set_cons_zero, List.set_cons_succ, i64_w, i32_w];rfl
   refine pure_ (i := 6) (N := some 4) (v := ?_) (a' := ?_) #[true, true, true, true, true, true, true] rfl rfl (by kernel_rfl) (fun _ _ _ h => h) (Or.inl ⟨by rfl, ?_⟩) ?_ ?_;rotate_left
   ·intro w'
    go_simp
    with_reducible rfl
   rotate_left
   ·simp only [Act.put, List.setIfInBounds_toArray, List.set_cons_zero, List.set_cons_succ, i64_w, i32_w];rfl
   refine done_ (by kernel_rfl) ?_
   go_wp2_with fail
   have hb := hHeld;refine bodyPost_ret (v := .tuple #[.int .u64 (x : Nat), .string (ba (l.drop i)), .nilIface]) (by simp [results, Tryz.results175, go_sem]) rfl ⟨?_, hb⟩;rw [HL.out, List.drop_eq_nil_of_le (show l.length ≤ i by omega), leadI];exact rfl
def FracAns (r : Nat × Nat × List UInt8) (e : Ending) : Prop := e = .returned (.tuple #[.int .u64 (r.1 : Nat), .float .f64 r.2.1, .string (ba r.2.2)])
set_option maxRecDepth 100000 in
set_option maxHeartbeats 8000000 in
theorem leadFrac_any (l : List UInt8) (hl : l.length ≤ 4294967296) (w : World) :
  Calls Tryz.prog 176 #[.string (ba l)] w fun e w' => FracAns (leadF 0 one64 false l) e ∧ Below w.heap.size w w' := by
 have hsz := ba_size l
 go_enter Tryz.func176, Tryz.ntmps176
 go_wp2_with fail
 go_loopw [2, 3, 5, 6] (fun v2 v3 v5 v6 wr => ∃ (x s i : Nat) (ov : Bool), v2 = .int .u64 x ∧ v3 = .float .f64 s ∧ v5 = .int .i64 i ∧ v6 = .bool ov ∧ i ≤ l.length ∧ x ≤ 9223372036854775808 ∧ Hid (Scaled x s) ∧ Hid (leadF 0 one64 false l = leadF x s ov (l.drop i)) ∧ wr = w) (fun _ _ v5 _ _ => l.length - (intOf v5).toNat)
 case atStart => exact ⟨0, one64, 0, false, rfl, rfl, rfl, rfl, by omega, by omega, Lib.hid scaled_one, Lib.hid rfl, rfl⟩
 case round =>
  obtain ⟨x, s, i, ov, rfl, rfl, rfl, rfl, hi, hx, HSC, HL, hwr⟩ := hrel;have hwr' := hwr.symm;clear hwr;subst hwr';have hfrom := str_from l i hi
  by_cases hil : i < l.length
  ·have hd : decide ((i : Int) < (ba l).size) = true := decide_eq_true (by rw [hsz]; omega);have hidx := str_at l i hil;have hdrop := List.drop_eq_getElem_cons hil;obtain ⟨c, hc⟩ : ∃ c, c = l[i] := ⟨_, rfl⟩
   rw [← hc] at hidx hdrop
   have HDR := Lib.hid hdrop;have hc256 : c.toNat < 256 := c.toNat_lt;clear hdrop hc
   by_cases hlo : c.toNat < 48
   ·have h1 : decide ((c.toNat : Int) < 48) = true := decide_eq_true (by omega);have HND : Hid (isD c = false) := Lib.hid (by unfold isD; rw [decide_eq_false (by omega : ¬ 48 ≤ c.toNat)]; rfl)
    go_upto_region 16 with fail
    refine start_ (n := 8) (S := fun w' => Below w.heap.size w w') (ds := []) #[false, false, false, false, false, false, false, false] (by kernel_rfl) rfl rfl ((Below.refl _ _).drew) (fun hHeld => ?_);refine pure_ (i := 0) (N := some 38) (v := ?_) (a' := ?_) #[true, false, false, false, false, false, false, false] rfl rfl (by kernel_rfl) (fun _ _ _ h => h) (Or.inl ⟨by rfl, ?_⟩) ?_ ?_;rotate_left
    ·intro w'
     go_simp
     with_reducible rfl
    rotate_left
    ·simp only [Act.put, List.setIfInBounds_toArray, List.set_cons_zero, List.set_cons_succ, i64_w, i32_w];rfl
    refine pure_ (i := 1) (N := some 39) (v := ?_) (a' := ?_) #[true, true, false, false, false, false, false, false] rfl rfl (by kernel_rfl) (fun _ _ _ h => h) (Or.inl ⟨by rfl, ?_⟩) ?_ ?_;rotate_left
    ·intro w'
     go_simp
     with_reducible rfl
    rotate_left
    ·simp only [Act.put, List.setIfInBounds_toArray, List.set_cons_zero, List.set_cons_succ, i64_w, i32_w];rfl
    refine pure_ (i := 2) (N := some 40) (v := ?_) (a' := ?_) #[true, true, true, false, false, false, false, false] rfl rfl (by kernel_rfl) (fun _ _ _ h => h) (Or.inl ⟨by rfl, ?_⟩) ?_ ?_;rotate_left
    ·intro w'
     go_simp
     with_reducible rfl
    rotate_left
    ·simp only [Act.put, List.setIfInBounds_toArray, List.set_cons_zero, List.set_cons_succ, i64_w, i32_w];rfl
    refine pure_ (i := 3) (N := some 41) (v := ?_) (a' := ?_) #[true, true, true, true, false, false, false, false] rfl rfl (by kernel_rfl) (fun _ _ _ h => h) (Or.inl ⟨by rfl, ?_⟩) ?_ ?_;rotate_left
    ·intro w'
     go_simp
     with_reducible rfl
    rotate_left
    ·simp only [Act.put, List.setIfInBounds_toArray, List.set_cons_zero, List.set_cons_succ, i64_w, i32_w];rfl
    refine pure_ (i := 4) (N := some 42) (v := ?_) (a' := ?_) #[true, true, true, true, true, false, false, false] rfl rfl (by kernel_rfl) (fun _ _ _ h => h) (Or.inl ⟨by rfl, ?_⟩) ?_ ?_;rotate_left
    ·intro w'
     go_simp
     with_reducible rfl
    rotate_left
    ·simp only [Act.put, List.setIfInBounds_toArray, List.set_cons_zero, List.set_cons_succ, i64_w, i32_w];rfl
    refine pure_ (i := 5) (N := some 2) (v := ?_) (a' := ?_) #[true, true, true, true, true, true, false, false] rfl rfl (by kernel_rfl) (fun _ _ _ h => h) (Or.inl ⟨by rfl, ?_⟩) ?_ ?_;rotate_left
    ·intro w'
     go_simp
     with_reducible rfl
    rotate_left
    ·simp only [Act.put, List.setIfInBounds_toArray, List.set_cons_zero, List.set_cons_succ, i64_w, i32_w];rfl
    refine pure_ (i := 6) (N := some 3) (v := ?_) (a' := ?_) #[true, true, true, true, true, true, true, false] rfl rfl (by kernel_rfl) (fun _ _ _ h => h) (Or.inl ⟨by rfl, ?_⟩) ?_ ?_;rotate_left
    ·intro w'
     go_simp
     with_reducible rfl
    rotate_left
    ·simp only [Act.put, List.setIfInBounds_toArray, List.set_cons_zero, List.set_cons_succ, i64_w, i32_w];rfl
    refine pure_ (i := 7) (N := some 4) (v := ?_) (a' := ?_) #[true, true, true, true, true, true, true, true] rfl rfl (by kernel_rfl) (fun _ _ _ h => h) (Or.inl ⟨by rfl, ?_⟩) ?_ ?_;rotate_left
    ·intro w'
     go_simp
     with_reducible rfl
    rotate_left
    ·simp only [Act.put, List.setIfInBounds_toArray, List.set_cons_zero, List.set_cons_succ, i64_w, i32_w];rfl
    refine done_ (by kernel_rfl) ?_
    go_wp2_with fail
    have hb := hHeld;refine bodyPost_ret (v := .tuple #[.int .u64 (x : Nat), .float .f64 s, .string (ba (l.drop i))]) (by simp [results, Tryz.results176, go_sem]) rfl ⟨?_, hb⟩;unfold FracAns;rw [HL.out, HDR.out, leadF, if_neg (by rw [HND.out]; simp)]
   ·have h1 : decide ((c.toNat : Int) < 48) = false := decide_eq_false (by omega)
    by_cases hhi : 57 < c.toNat
    ·have h2 : decide ((c.toNat : Int) > 57) = true := decide_eq_true (by omega);have HND : Hid (isD c = false) := Lib.hid (by unfold isD; rw [decide_eq_false (by omega : ¬ c.toNat ≤ 57), Bool.and_false])
     go_upto_region 16 with fail
     refine start_ (n := 8) (S := fun w' => Below w.heap.size w w') (ds := []) #[false, false, false, false, false, false, false, false] (by kernel_rfl) rfl rfl ((Below.refl _ _).drew) (fun hHeld => ?_);refine pure_ (i := 0) (N := some 38) (v := ?_) (a' := ?_) #[true, false, false, false, false, false, false, false] rfl rfl (by kernel_rfl) (fun _ _ _ h => h) (Or.inl ⟨by rfl, ?_⟩) ?_ ?_;rotate_left
     ·intro w'
      go_simp
      with_reducible rfl
     rotate_left
     ·simp only [Act.put, List.setIfInBounds_toArray, List.set_cons_zero, List.set_cons_succ, i64_w, i32_w];rfl
     refine pure_ (i := 1) (N := some 39) (v := ?_) (a' := ?_) #[true, true, false, false, false, false, false, false] rfl rfl (by kernel_rfl) (fun _ _ _ h => h) (Or.inl ⟨by rfl, ?_⟩) ?_ ?_;rotate_left
     ·intro w'
      go_simp
      with_reducible rfl
     rotate_left
     ·simp only [Act.put, List.setIfInBounds_toArray, List.set_cons_zero, List.set_cons_succ, i64_w, i32_w];rfl
     refine pure_ (i := 2) (N := some 40) (v := ?_) (a' := ?_) #[true, true, true, false, false, false, false, false] rfl rfl (by kernel_rfl) (fun _ _ _ h => h) (Or.inl ⟨by rfl, ?_⟩) ?_ ?_;rotate_left
     ·intro w'
      go_simp
      with_reducible rfl
     rotate_left
     ·simp only [Act.put, List.setIfInBounds_toArray, List.set_cons_zero, List.set_cons_succ, i64_w, i32_w];rfl
     refine pure_ (i := 3) (N := some 41) (v := ?_) (a' := ?_) #[true, true, true, true, false, false, false, false] rfl rfl (by kernel_rfl) (fun _ _ _ h => h) (Or.inl ⟨by rfl, ?_⟩) ?_ ?_;rotate_left
     ·intro w'
      go_simp
      with_reducible rfl
     rotate_left
     ·simp only [Act.put, List.setIfInBounds_toArray, List.set_cons_zero, List.set_cons_succ, i64_w, i32_w];rfl
     refine pure_ (i := 4) (N := some 42) (v := ?_) (a' := ?_) #[true, true, true, true, true, false, false, false] rfl rfl (by kernel_rfl) (fun _ _ _ h => h) (Or.inl ⟨by rfl, ?_⟩) ?_ ?_;rotate_left
     ·intro w'
      go_simp
      with_reducible rfl
     rotate_left
     ·simp only [Act.put, List.setIfInBounds_toArray, List.set_cons_zero, List.set_cons_succ, i64_w, i32_w];rfl
     refine pure_ (i := 5) (N := some 2) (v := ?_) (a' := ?_) #[true, true, true, true, true, true, false, false] rfl rfl (by kernel_rfl) (fun _ _ _ h => h) (Or.inl ⟨by rfl, ?_⟩) ?_ ?_;rotate_left
     ·intro w'
      go_simp
      with_reducible rfl
     rotate_left
     ·simp only [Act.put, List.setIfInBounds_toArray, List.set_cons_zero, List.set_cons_succ, i64_w, i32_w];rfl
     refine pure_ (i := 6) (N := some 3) (v := ?_) (a' := ?_) #[true, true, true, true, true, true, true, false] rfl rfl (by kernel_rfl) (fun _ _ _ h => h) (Or.inl ⟨by rfl, ?_⟩) ?_ ?_;rotate_left
     ·intro w'
      go_simp
      with_reducible rfl
     rotate_left
     ·simp only [Act.put, List.setIfInBounds_toArray, List.set_cons_zero, List.set_cons_succ, i64_w, i32_w];rfl
     refine pure_ (i := 7) (N := some 4) (v := ?_) (a' := ?_) #[true, true, true, true, true, true, true, true] rfl rfl (by kernel_rfl) (fun _ _ _ h => h) (Or.inl ⟨by rfl, ?_⟩) ?_ ?_;rotate_left
     ·intro w'
      go_simp
      with_reducible rfl
     rotate_left
     ·simp only [Act.put, List.setIfInBounds_toArray, List.set_cons_zero, List.set_cons_succ, i64_w, i32_w];rfl
     refine done_ (by kernel_rfl) ?_
     go_wp2_with fail
     have hb := hHeld;refine bodyPost_ret (v := .tuple #[.int .u64 (x : Nat), .float .f64 s, .string (ba (l.drop i))]) (by simp [results, Tryz.results176, go_sem]) rfl ⟨?_, hb⟩;unfold FracAns;rw [HL.out, HDR.out, leadF, if_neg (by rw [HND.out]; simp)]
    ·have h2 : decide ((c.toNat : Int) > 57) = false := decide_eq_false (by omega);have HD : Hid (isD c = true) := Lib.hid (isD_iff.2 ⟨by omega, by omega⟩)
     cases ov with
     | true =>
      go_wp2_with fail
      refine ⟨⟨x, s, i + 1, true, rfl, rfl, by go_num, rfl, by omega, hx, HSC, Lib.hid (by rw [HL.out, HDR.out, leadF, if_pos HD.out, if_pos rfl]), trivial⟩, by simp [intOf]; omega⟩
     | false =>
      by_cases hov : 922337203685477580 < x
      ·have h3 : decide ((x : Int) > 922337203685477580) = true := decide_eq_true (by omega)
       go_wp2_with fail
       refine ⟨⟨x, s, i + 1, true, rfl, rfl, by go_num, rfl, by omega, hx, HSC, Lib.hid (by rw [HL.out, HDR.out, leadF, if_pos HD.out, if_neg (by simp), if_pos hov]), trivial⟩, by simp [intOf]; omega⟩
      ·have h3 : decide ((x : Int) > 922337203685477580) = false := decide_eq_false (by omega);obtain ⟨dd, hdd⟩ : ∃ dd, dN c = dd := ⟨_, rfl⟩
       have hde : c.toNat = dd + 48 := by rw [← hdd]; unfold dN; omega
       have HDN := Lib.hid hdd;have hdd9 : dd ≤ 9 := by omega
       clear hdd;rw [hde] at hidx h1 h2
       by_cases hbig : 9223372036854775808 < x * 10 + dd
       ·have h4 : decide ((x : Int) * 10 + ((dd : Int) + 48) - 48 > 9223372036854775808) = true := decide_eq_true (by omega)
        go_wp2_with fail
        refine ⟨⟨x, s, i + 1, true, rfl, rfl, by go_num, rfl, by omega, hx, HSC, Lib.hid (by rw [HL.out, HDR.out, leadF, if_pos HD.out, if_neg (by simp), if_neg hov, HDN.out, if_pos hbig]), trivial⟩, by simp [intOf]; omega⟩
       ·have h4 : decide ((x : Int) * 10 + ((dd : Int) + 48) - 48 > 9223372036854775808) = false := decide_eq_false (by omega);obtain ⟨r, hr, hsc⟩ := HSC.out.ten hx;have hmt : mulTen s = r := by unfold mulTen; rw [hr]; rfl
        have hmul : ∀ w' : World, (binOp .mul 290 (.float .f64 s) (.float .f64 4621819117588971520)).run Tryz.prog w' = .ok (.float .f64 r) w' := fun w' => run_floatArith w' hr
        have HSN := Lib.hid (hsc dd hdd9);have HMT := Lib.hid hmt;clear hr hsc hmt
        go_wp2_with fail
        refine ⟨⟨x * 10 + dd, r, i + 1, false, by go_num, rfl, by go_num, rfl, by omega, by omega, HSN, Lib.hid (by rw [HL.out, HDR.out, leadF, if_pos HD.out, if_neg (by simp), if_neg hov, HDN.out, if_neg hbig, HMT.out]), trivial⟩, by simp [intOf]; omega⟩
  ·have hd : decide ((i : Int) < (ba l).size) = false := decide_eq_false (by rw [hsz]; omega)
   go_upto_region 16 with fail
   refine start_ (n := 8) (S := fun w' => Below w.heap.size w w') (ds := []) #[false, false, false, false, false, false, false, false] (by kernel_rfl) rfl rfl ((Below.refl _ _).drew) (fun hHeld => ?_);refine pure_ (i := 0) (N := some 38) (v := ?_) (a' := ?_) #[true, false, false, false, false, false, false, false] rfl rfl (by kernel_rfl) (fun _ _ _ h => h) (Or.inl ⟨by rfl, ?_⟩) ?_ ?_;rotate_left
   ·intro w'
    go_simp
    with_reducible rfl
   rotate_left
   ·simp only [Act.put, List.setIfInBounds_toArray, List.set_cons_zero, List.set_cons_succ, i64_w, i32_w];rfl
   refine pure_ (i := 1) (N := some 39) (v := ?_) (a' := ?_) #[true, true, false, false, false, false, false, false] rfl rfl (by kernel_rfl) (fun _ _ _ h => h) (Or.inl ⟨by rfl, ?_⟩) ?_ ?_;rotate_left
   ·intro w'
    go_simp
    with_reducible rfl
   rotate_left
   ·simp only [Act.put, List.setIfInBounds_toArray, List.set_cons_zero, List.set_cons_succ, i64_w, i32_w];rfl
   refine pure_ (i := 2) (N := some 40) (v := ?_) (a' := ?_) #[true, true, true, false, false, false, false, false] rfl rfl (by kernel_rfl) (fun _ _ _ h => h) (Or.inl ⟨by rfl, ?_⟩) ?_ ?_;rotate_left
   ·intro w'
    go_simp
    with_reducible rfl
   rotate_left
   ·simp only [Act.put, List.setIfInBounds_toArray, List.set_cons_zero, List.set_cons_succ, i64_w, i32_w];rfl
   refine pure_ (i := 3) (N := some 41) (v := ?_) (a' := ?_) #[true, true, true, true, false, false, false, false] rfl rfl (by kernel_rfl) (fun _ _ _ h => h) (Or.inl ⟨by rfl, ?_⟩) ?_ ?_;rotate_left
   ·intro w'
    go_simp
    with_reducible rfl
   rotate_left
   ·simp only [Act.put, List.setIfInBounds_toArray, List.set_cons_zero, List.set_cons_succ, i64_w, i32_w];rfl
   refine pure_ (i := 4) (N := some 42) (v := ?_) (a' := ?_) #[true, true, true, true, true, false, false, false] rfl rfl (by kernel_rfl) (fun _ _ _ h => h) (Or.inl ⟨by rfl, ?_⟩) ?_ ?_;rotate_left
   ·intro w'
    go_simp
    with_reducible rfl
   rotate_left
   ·simp only [Act.put, List.setIfInBounds_toArray, List.set_cons_zero, List.set_cons_succ, i64_w, i32_w];rfl
   refine pure_ (i := 5) (N := some 2) (v := ?_) (a' := ?_) #[true, true, true, true, true, true, false, false] rfl rfl (by kernel_rfl) (fun _ _ _ h => h) (Or.inl ⟨by rfl, ?_⟩) ?_ ?_;rotate_left
   ·intro w'
    go_simp
    with_reducible rfl
   rotate_left
   ·simp only [Act.put, List.setIfInBounds_toArray, List.set_cons_zero, List.set_cons_succ, i64_w, i32_w];rfl
   refine pure_ (i := 6) (N := some 3) (v := ?_) (a' := ?_) #[true, true, true, true, true, true, true, false] rfl rfl (by kernel_rfl) (fun _ _ _ h => h) (Or.inl ⟨by rfl, ?_⟩) ?_ ?_;rotate_left
   ·intro w'
    go_simp
    with_reducible rfl
   rotate_left
   ·simp only [Act.put, List.setIfInBounds_toArray, List.set_cons_zero, List.set_cons_succ, i64_w, i32_w];rfl
   refine pure_ (i := 7) (N := some 4) (v := ?_) (a' := ?_) #[true, true, true, true, true, true, true, true] rfl rfl (by kernel_rfl) (fun _ _ _ h => h) (Or.inl ⟨by rfl, ?_⟩) ?_ ?_;rotate_left
   ·intro w'
    go_simp
    with_reducible rfl
   rotate_left
   ·simp only [Act.put, List.setIfInBounds_toArray, List.set_cons_zero, List.set_cons_succ, i64_w, i32_w];rfl
   refine done_ (by kernel_rfl) ?_
   go_wp2_with fail
   have hb := hHeld;refine bodyPost_ret (v := .tuple #[.int .u64 (x : Nat), .float .f64 s, .string (ba (l.drop i))]) (by simp [results, Tryz.results176, go_sem]) rfl ⟨?_, hb⟩;unfold FracAns;rw [HL.out, List.drop_eq_nil_of_le (show l.length ≤ i by omega), leadF]
end Go.Proofs.YtmecbmgfacpecaaGreatDoor.Cron
namespace Go.Proofs.YtmecbmgfacpecaaGreatDoor.Cron
open Go Go.RowKit Go.Proofs.YtmecbmgfacpecaaGreatDoor.Text Go.Proofs.YtmecbmgfacpecaaGreatDoor.Bits Go.Proofs.YtmecbmgfacpecaaGreatDoor.Dur
set_option linter.unusedVariables false
theorem run_insert_unit (w : World) (r : Nat) (L : List (ByteArray × Int)) (k : ByteArray) (v : Int) (hM : MapAt w r L) (hne : findL k L 0 = none) :
  ∃ w', (Instr.mapUpdate 296 (.map (some r)) (.string k) (.int .u64 v)).run Tryz.prog w = .ok () w' ∧ MapAt w' r (L ++ [(k, v)]) ∧ Below r w w' := by
 have hM' : w.heap[r]? = some (.map (entsGo L 0).toArray L.length) := hM;refine ⟨{ w with heap := w.heap.setIfInBounds r (.map ((entsGo L 0).toArray.push ⟨.string k, .int .u64 v, L.length⟩) (L.length + 1)) }, ?_, ?_, ?_⟩
 ·have hfk := MapKept.run_findKey (P := Tryz.prog) (w := w) (kt := 9) (k := .string k) Tryz.underlying9 (findNow_ents k L 0 0);rw [hne] at hfk;have hck := MapKept.run_checkKey (P := Tryz.prog) (w := w) (kt := 9) (d := .string) (k := .string k) Tryz.underlying9 (by first | trivial | rfl | simp [MapKept.IsKey]) false 9999;simp [Instr.mapUpdate, Sem.run_bind, run_underlying Tryz.underlying296, MapKept.run_getObj_map hM', hck, hfk, MapKept.run_setObj_map _ hM', Result.andThen]
 ·unfold MapAt;rw [(MapKept.heap_set hM').1, ents_snoc];simp
 ·exact ⟨rfl, rfl, rfl, by simp, fun b hb => (MapKept.heap_set hM').2 b (by omega)⟩
section
variable {ops : Array Oper} {rest : List Oper} {o : Oper} {a : Act} {w : World} {Q : Exit → Act → World → Prop}
theorem wpList_insert_unit (hg : o.guard = none) (m x y : Operand) (ho : o.op = .insert 296 m x y) (r : Nat) (k : ByteArray) (v : Int) (hm : a.eval m = .map (some r)) (hx : a.eval x = .string k) (hy : a.eval y = .int .u64 v)
  (L : List (ByteArray × Int)) (hM : MapAt w r L) (hne : findL k L 0 = none)
  (h : ∀ w', MapAt w' r (L ++ [(k, v)]) → Below r w w' → wpList Tryz.prog ops Q rest (a.put o.dst undef) w') : wpList Tryz.prog ops Q (o :: rest) a w := by
 refine wpList_plain hg fun K hK => ?_
 obtain ⟨w', hr, hM', hb⟩ := run_insert_unit w r L k v hM hne;unfold Oper.wp execOp;simp only [ho, hm, hx, hy, hr, Sem.run_bind, Sem.run_pure, Result.andThen_ok];exact hK _ _ (h w' hM' hb)
end
theorem run_lookup_unit (w : World) (r : Nat) (L : List (ByteArray × Int)) (s : ByteArray) (hM : MapAt w r L) :
  (Instr.lookup 296 (.map (some r)) (.string s) true).run Tryz.prog w = .ok (.tuple #[.int .u64 ((lookL s L).getD 0), .bool (lookL s L).isSome]) w := by
 have hM' : w.heap[r]? = some (.map (entsGo L 0).toArray L.length) := hM;have hfk := MapKept.run_findKey (P := Tryz.prog) (w := w) (kt := 9) (k := .string s) Tryz.underlying9 (findNow_ents s L 0 0);have hck := fun em : Bool => MapKept.run_checkKey (P := Tryz.prog) (w := w) (kt := 9) (d := .string) (k := .string s) Tryz.underlying9 (by first | trivial | rfl | simp [MapKept.IsKey]) em 9999
 have hz : (zeroValue 24).run Tryz.prog w = .ok (.int .u64 0) w := Tryz.zeroValue24 w;rw [← look_find s L 0]
 cases hf : findL s L 0 with
 | none =>
  rw [hf] at hfk;simp [Instr.lookup, Sem.run_bind, run_underlying Tryz.underlying296, MapKept.run_getObj_map hM', hck, hfk, hz, Result.andThen]
 | some x =>
  rw [hf] at hfk;simp [Instr.lookup, Sem.run_bind, run_underlying Tryz.underlying296, MapKept.run_getObj_map hM', hck, hfk, Result.andThen]
theorem mapAt_first (w : World) : MapAt (w.alloc (.map #[] 0)) w.heap.size [] := heap_alloc_new w _
theorem run_makeMap_units (w : World) : (Instr.makeMap 296 none).run Tryz.prog w = .ok (.map (some w.heap.size)) (w.alloc (.map #[] 0)) := by rfl
def unitsL : List (ByteArray × Int) := [(⟨#[110, 115]⟩, 1), (⟨#[117, 115]⟩, 1000), (⟨#[194, 181, 115]⟩, 1000), (⟨#[206, 188, 115]⟩, 1000), (⟨#[109, 115]⟩, 1000000), (⟨#[115]⟩, 1000000000), (⟨#[109]⟩, 60000000000), (⟨#[104]⟩, 3600000000000)]
theorem unit_look (u : List UInt8) : lookL (ba u) unitsL = (unitN u).map fun n : Nat => (n : Int) := by
 by_cases h0 : u = [110, 115]
 ·subst h0; decide +kernel
 by_cases h1 : u = [117, 115]
 ·subst h1; decide +kernel
 by_cases h2 : u = [194, 181, 115]
 ·subst h2; decide +kernel
 by_cases h3 : u = [206, 188, 115]
 ·subst h3; decide +kernel
 by_cases h4 : u = [109, 115]
 ·subst h4; decide +kernel
 by_cases h5 : u = [115]
 ·subst h5; decide +kernel
 by_cases h6 : u = [109]
 ·subst h6; decide +kernel
 by_cases h7 : u = [104]
 ·subst h7; decide +kernel
 unfold unitN unitsL;rw [if_neg h0, if_neg h1, if_neg h2, if_neg h3, if_neg h4, if_neg h5, if_neg h6, if_neg h7];simp only [lookL];rw [if_neg (show ¬ ba u = (⟨#[110, 115]⟩ : ByteArray) from fun e => h0 (ba_inj (b := [110, 115]) e)), if_neg (show ¬ ba u = (⟨#[117, 115]⟩ : ByteArray) from fun e => h1 (ba_inj (b := [117, 115]) e)), if_neg (show ¬ ba u = (⟨#[194, 181, 115]⟩ : ByteArray) from fun e => h2 (ba_inj (b := [194, 181, 115]) e)), if_neg (show ¬ ba u = (⟨#[206, 188, 115]⟩ : ByteArray) from fun e => h3 (ba_inj (b := [206, 188, 115]) e)), if_neg (show ¬ ba u = (⟨#[109, 115]⟩ : ByteArray) from fun e => h4 (ba_inj (b := [109, 115]) e)), if_neg (show ¬ ba u = (⟨#[115]⟩ : ByteArray) from fun e => h5 (ba_inj (b := [115]) e)), if_neg (show ¬ ba u = (⟨#[109]⟩ : ByteArray) from fun e => h6 (ba_inj (b := [109]) e)), if_neg (show ¬ ba u = (⟨#[104]⟩ : ByteArray) from fun e => h7 (ba_inj (b := [104]) e))];rfl
set_option maxRecDepth 100000 in
set_option maxHeartbeats 1000000 in
theorem unitMap_any (w : World) : Calls Tryz.prog 177 #[] w fun e w' => ∃ r, e = .returned (.map (some r)) ∧ MapAt w' r unitsL ∧ Below w.heap.size w w' := by
 have hmk := run_makeMap_units
 go_enter Tryz.func177, Tryz.ntmps177
 go_wp2_with (first
  | (refine wpList_insert_unit rfl _ _ _ rfl w.heap.size ⟨#[110, 115]⟩ 1 rfl rfl rfl [] (mapAt_first _) rfl ?_; intro w1 hM1 hb1)
  | (refine wpList_insert_unit rfl _ _ _ rfl w.heap.size ⟨#[117, 115]⟩ 1000 rfl rfl rfl [(⟨#[110, 115]⟩, 1)] hM1 rfl ?_; intro w2 hM2 hb2)
  | (refine wpList_insert_unit rfl _ _ _ rfl w.heap.size ⟨#[194, 181, 115]⟩ 1000 rfl rfl rfl [(⟨#[110, 115]⟩, 1), (⟨#[117, 115]⟩, 1000)] hM2 rfl ?_; intro w3 hM3 hb3)
  | (refine wpList_insert_unit rfl _ _ _ rfl w.heap.size ⟨#[206, 188, 115]⟩ 1000 rfl rfl rfl [(⟨#[110, 115]⟩, 1), (⟨#[117, 115]⟩, 1000), (⟨#[194, 181, 115]⟩, 1000)] hM3 rfl ?_; intro w4 hM4 hb4)
  | (refine wpList_insert_unit rfl _ _ _ rfl w.heap.size ⟨#[109, 115]⟩ 1000000 rfl rfl rfl [(⟨#[110, 115]⟩, 1), (⟨#[117, 115]⟩, 1000), (⟨#[194, 181, 115]⟩, 1000), (⟨#[206, 188, 115]⟩, 1000)] hM4 rfl ?_; intro w5 hM5 hb5)
  | (refine wpList_insert_unit rfl _ _ _ rfl w.heap.size ⟨#[115]⟩ 1000000000 rfl rfl rfl [(⟨#[110, 115]⟩, 1), (⟨#[117, 115]⟩, 1000), (⟨#[194, 181, 115]⟩, 1000), (⟨#[206, 188, 115]⟩, 1000), (⟨#[109, 115]⟩, 1000000)] hM5 rfl ?_; intro w6 hM6 hb6)
  | (refine wpList_insert_unit rfl _ _ _ rfl w.heap.size ⟨#[109]⟩ 60000000000 rfl rfl rfl [(⟨#[110, 115]⟩, 1), (⟨#[117, 115]⟩, 1000), (⟨#[194, 181, 115]⟩, 1000), (⟨#[206, 188, 115]⟩, 1000), (⟨#[109, 115]⟩, 1000000), (⟨#[115]⟩, 1000000000)] hM6 rfl ?_; intro w7 hM7 hb7)
  | (refine wpList_insert_unit rfl _ _ _ rfl w.heap.size ⟨#[104]⟩ 3600000000000 rfl rfl rfl [(⟨#[110, 115]⟩, 1), (⟨#[117, 115]⟩, 1000), (⟨#[194, 181, 115]⟩, 1000), (⟨#[206, 188, 115]⟩, 1000), (⟨#[109, 115]⟩, 1000000), (⟨#[115]⟩, 1000000000), (⟨#[109]⟩, 60000000000)] hM7 rfl ?_; intro w8 hM8 hb8))
 go_ret
 exact ⟨w.heap.size, rfl, hM8, ((Below.refl _ _).alloc (Nat.le_refl _) _).trans (((((((hb1.trans hb2).trans hb3).trans hb4).trans hb5).trans hb6).trans hb7).trans hb8)⟩
end Go.Proofs.YtmecbmgfacpecaaGreatDoor.Cron
namespace Go.Proofs.YtmecbmgfacpecaaGreatDoor.Cron
open Go Go.RowKit Go.Proofs.YtmecbmgfacpecaaGreatDoor.Text Go.Proofs.YtmecbmgfacpecaaGreatDoorW.PrintWords Go.Proofs.YtmecbmgfacpecaaGreatDoorW.PrintLast Go.Proofs.YtmecbmgfacpecaaGreatDoorW.PrintMore Go.Proofs.YtmecbmgfacpecaaGreatDoor.Dur
set_option linter.unusedVariables false
set_option linter.unusedSimpArgs false
theorem viaThen {P : Program} {C : Code} {Q : Exit → Act → World → Prop} {K : Act → World → Prop} {G : Prop} (hK : ∀ a w, Code.wp P C Q a w → K a w) (R : Act → World → Prop) (h1 : ∀ a w, R a w → Code.wp P C Q a w) (h2 : Hid (∀ a w, R a w → K a w) → G) : G := h2 (Lib.hid (fun a w h => hK a w (h1 a w h)))
def DurAns (r : Option Int) (e : Ending) : Prop := match r with
 | some d => e = .returned (.tuple #[.int .i64 d, .nilIface])
 | none => ∃ t x, e = .returned (.tuple #[.int .i64 0, .iface t x])
def strD : Value → Nat
 | .string b => b.size
 | _ => 0
theorem tw_is {l : List UInt8} {i : Nat} (h : ∀ x ∈ l.take i, isU x = true) (h2 : l.drop i = [] ∨ ∃ c r, l.drop i = c :: r ∧ isU c = false) : l.takeWhile isU = l.take i ∧ l.dropWhile isU = l.drop i := by
 have e := List.take_append_drop i l
 have key : ∀ (a b : List UInt8), (∀ x ∈ a, isU x = true) → (b = [] ∨ ∃ c r, b = c :: r ∧ isU c = false) → (a ++ b).takeWhile isU = a ∧ (a ++ b).dropWhile isU = b := by
  intro a
  induction a with
  | nil =>
   intro b _ hb
   rcases hb with rfl | ⟨c, r, rfl, hc⟩
   ·exact ⟨rfl, rfl⟩
   ·simp [List.takeWhile, List.dropWhile, hc]
  | cons y a ih =>
   intro b ha hb;have := ih b (fun x hx => ha x (by simp [hx])) hb;simp [ha y (by simp), this]
 have := key _ _ h h2;rw [e] at this;exact this
theorem list_formD (l : List Value) : ∀ n, l.length = n → l = (List.range n).map (fun i => l.getD i undef) := by
 intro n hn
 apply List.ext_getElem?
 intro i
 by_cases hi : i < n
 ·simp [hn, hi]
 ·simp [hn, hi]
set_option maxRecDepth 100000 in
theorem frame_open (a : Act) (h : a.tmps.size = 209) (hd : a.defers = []) : ∃ u : Nat → Value, (∀ i, u i = a.tmps.getD i undef) ∧ a = { tmps := #[u 0, u 1, u 2, u 3, u 4, u 5, u 6, u 7, u 8, u 9, u 10, u 11, u 12, u 13, u 14, u 15, u 16, u 17, u 18, u 19, u 20, u 21, u 22, u 23, u 24, u 25, u 26, u 27, u 28, u 29, u 30, u 31, u 32, u 33, u 34, u 35, u 36, u 37, u 38, u 39, u 40, u 41, u 42, u 43, u 44, u 45, u 46, u 47, u 48, u 49, u 50, u 51, u 52, u 53, u 54, u 55, u 56, u 57, u 58, u 59, u 60, u 61, u 62, u 63, u 64, u 65, u 66, u 67, u 68, u 69, u 70, u 71, u 72, u 73, u 74, u 75, u 76, u 77, u 78, u 79, u 80, u 81, u 82, u 83, u 84, u 85, u 86, u 87, u 88, u 89, u 90, u 91, u 92, u 93, u 94, u 95, u 96, u 97, u 98, u 99, u 100, u 101, u 102, u 103, u 104, u 105, u 106, u 107, u 108, u 109, u 110, u 111, u 112, u 113, u 114, u 115, u 116, u 117, u 118, u 119, u 120, u 121, u 122, u 123, u 124, u 125, u 126, u 127, u 128, u 129, u 130, u 131, u 132, u 133, u 134, u 135, u 136, u 137, u 138, u 139, u 140, u 141, u 142, u 143, u 144, u 145, u 146, u 147, u 148, u 149, u 150, u 151, u 152, u 153, u 154, u 155, u 156, u 157, u 158, u 159, u 160, u 161, u 162, u 163, u 164, u 165, u 166, u 167, u 168, u 169, u 170, u 171, u 172, u 173, u 174, u 175, u 176, u 177, u 178, u 179, u 180, u 181, u 182, u 183, u 184, u 185, u 186, u 187, u 188, u 189, u 190, u 191, u 192, u 193, u 194, u 195, u 196, u 197, u 198, u 199, u 200, u 201, u 202, u 203, u 204, u 205, u 206, u 207, u 208], defers := [] } := by
 obtain ⟨t, d⟩ := a;dsimp only at *;subst hd;refine ⟨fun i => t.getD i undef, fun i => rfl, ?_⟩;have hl := list_formD t.toList 209 (by simpa using h);have he : t = ((List.range 209).map (fun i => t.toList.getD i undef)).toArray := by rw [← hl]
 have hg : ∀ i, t.toList.getD i undef = t.getD i undef := fun i => by simp [List.getD, Array.getD_eq_getD_getElem?]
 simp only [hg] at he;have e2 : ((List.range 209).map (fun i => t.getD i undef)).toArray = #[t.getD 0 undef, t.getD 1 undef, t.getD 2 undef, t.getD 3 undef, t.getD 4 undef, t.getD 5 undef, t.getD 6 undef, t.getD 7 undef, t.getD 8 undef, t.getD 9 undef, t.getD 10 undef, t.getD 11 undef, t.getD 12 undef, t.getD 13 undef, t.getD 14 undef, t.getD 15 undef, t.getD 16 undef, t.getD 17 undef, t.getD 18 undef, t.getD 19 undef, t.getD 20 undef, t.getD 21 undef, t.getD 22 undef, t.getD 23 undef, t.getD 24 undef, t.getD 25 undef, t.getD 26 undef, t.getD 27 undef, t.getD 28 undef, t.getD 29 undef, t.getD 30 undef, t.getD 31 undef, t.getD 32 undef, t.getD 33 undef, t.getD 34 undef, t.getD 35 undef, t.getD 36 undef, t.getD 37 undef, t.getD 38 undef, t.getD 39 undef, t.getD 40 undef, t.getD 41 undef, t.getD 42 undef, t.getD 43 undef, t.getD 44 undef, t.getD 45 undef, t.getD 46 undef, t.getD 47 undef, t.getD 48 undef, t.getD 49 undef, t.getD 50 undef, t.getD 51 undef, t.getD 52 undef, t.getD 53 undef, t.getD 54 undef, t.getD 55 undef, t.getD 56 undef, t.getD 57 undef, t.getD 58 undef, t.getD 59 undef, t.getD 60 undef, t.getD 61 undef, t.getD 62 undef, t.getD 63 undef, t.getD 64 undef, t.getD 65 undef, t.getD 66 undef, t.getD 67 undef, t.getD 68 undef, t.getD 69 undef, t.getD 70 undef, t.getD 71 undef, t.getD 72 undef, t.getD 73 undef, t.getD 74 undef, t.getD 75 undef, t.getD 76 undef, t.getD 77 undef, t.getD 78 undef, t.getD 79 undef, t.getD 80 undef, t.getD 81 undef, t.getD 82 undef, t.getD 83 undef, t.getD 84 undef, t.getD 85 undef, t.getD 86 undef, t.getD 87 undef, t.getD 88 undef, t.getD 89 undef, t.getD 90 undef, t.getD 91 undef, t.getD 92 undef, t.getD 93 undef, t.getD 94 undef, t.getD 95 undef, t.getD 96 undef, t.getD 97 undef, t.getD 98 undef, t.getD 99 undef, t.getD 100 undef, t.getD 101 undef, t.getD 102 undef, t.getD 103 undef, t.getD 104 undef, t.getD 105 undef, t.getD 106 undef, t.getD 107 undef, t.getD 108 undef, t.getD 109 undef, t.getD 110 undef, t.getD 111 undef, t.getD 112 undef, t.getD 113 undef, t.getD 114 undef, t.getD 115 undef, t.getD 116 undef, t.getD 117 undef, t.getD 118 undef, t.getD 119 undef, t.getD 120 undef, t.getD 121 undef, t.getD 122 undef, t.getD 123 undef, t.getD 124 undef, t.getD 125 undef, t.getD 126 undef, t.getD 127 undef, t.getD 128 undef, t.getD 129 undef, t.getD 130 undef, t.getD 131 undef, t.getD 132 undef, t.getD 133 undef, t.getD 134 undef, t.getD 135 undef, t.getD 136 undef, t.getD 137 undef, t.getD 138 undef, t.getD 139 undef, t.getD 140 undef, t.getD 141 undef, t.getD 142 undef, t.getD 143 undef, t.getD 144 undef, t.getD 145 undef, t.getD 146 undef, t.getD 147 undef, t.getD 148 undef, t.getD 149 undef, t.getD 150 undef, t.getD 151 undef, t.getD 152 undef, t.getD 153 undef, t.getD 154 undef, t.getD 155 undef, t.getD 156 undef, t.getD 157 undef, t.getD 158 undef, t.getD 159 undef, t.getD 160 undef, t.getD 161 undef, t.getD 162 undef, t.getD 163 undef, t.getD 164 undef, t.getD 165 undef, t.getD 166 undef, t.getD 167 undef, t.getD 168 undef, t.getD 169 undef, t.getD 170 undef, t.getD 171 undef, t.getD 172 undef, t.getD 173 undef, t.getD 174 undef, t.getD 175 undef, t.getD 176 undef, t.getD 177 undef, t.getD 178 undef, t.getD 179 undef, t.getD 180 undef, t.getD 181 undef, t.getD 182 undef, t.getD 183 undef, t.getD 184 undef, t.getD 185 undef, t.getD 186 undef, t.getD 187 undef, t.getD 188 undef, t.getD 189 undef, t.getD 190 undef, t.getD 191 undef, t.getD 192 undef, t.getD 193 undef, t.getD 194 undef, t.getD 195 undef, t.getD 196 undef, t.getD 197 undef, t.getD 198 undef, t.getD 199 undef, t.getD 200 undef, t.getD 201 undef, t.getD 202 undef, t.getD 203 undef, t.getD 204 undef, t.getD 205 undef, t.getD 206 undef, t.getD 207 undef, t.getD 208 undef] := by rfl
 rw [← e2, ← he]
set_option maxRecDepth 100000 in
theorem frame_fix (a : Act) (uA : Nat → Value) (h : a.tmps.size = 209) (hd : a.defers = []) (hf : (a.tmps.getD 1 undef = uA 1 ∧ a.tmps.getD 7 undef = uA 7 ∧ a.tmps.getD 21 undef = uA 21 ∧ a.tmps.getD 22 undef = uA 22 ∧ a.tmps.getD 23 undef = uA 23 ∧ a.tmps.getD 24 undef = uA 24 ∧ a.tmps.getD 25 undef = uA 25 ∧ a.tmps.getD 26 undef = uA 26 ∧ a.tmps.getD 27 undef = uA 27 ∧ a.tmps.getD 28 undef = uA 28 ∧ a.tmps.getD 29 undef = uA 29 ∧ a.tmps.getD 30 undef = uA 30 ∧ a.tmps.getD 31 undef = uA 31 ∧ a.tmps.getD 32 undef = uA 32 ∧ a.tmps.getD 33 undef = uA 33 ∧ a.tmps.getD 34 undef = uA 34 ∧ a.tmps.getD 35 undef = uA 35 ∧ a.tmps.getD 36 undef = uA 36 ∧ a.tmps.getD 37 undef = uA 37 ∧ a.tmps.getD 38 undef = uA 38 ∧ a.tmps.getD 39 undef = uA 39 ∧ a.tmps.getD 40 undef = uA 40 ∧ a.tmps.getD 41 undef = uA 41 ∧ a.tmps.getD 42 undef = uA 42 ∧ a.tmps.getD 43 undef = uA 43 ∧ a.tmps.getD 197 undef = uA 197 ∧ a.tmps.getD 198 undef = uA 198 ∧ a.tmps.getD 199 undef = uA 199 ∧ a.tmps.getD 200 undef = uA 200 ∧ a.tmps.getD 201 undef = uA 201 ∧ a.tmps.getD 202 undef = uA 202 ∧ a.tmps.getD 203 undef = uA 203 ∧ a.tmps.getD 204 undef = uA 204 ∧ a.tmps.getD 205 undef = uA 205 ∧ a.tmps.getD 206 undef = uA 206 ∧ a.tmps.getD 207 undef = uA 207 ∧ a.tmps.getD 208 undef = uA 208)) : ∃ u : Nat → Value, (∀ i, u i = a.tmps.getD i undef) ∧ a = { tmps := #[u 0, uA 1, u 2, u 3, u 4, u 5, u 6, uA 7, u 8, u 9, u 10, u 11, u 12, u 13, u 14, u 15, u 16, u 17, u 18, u 19, u 20, uA 21, uA 22, uA 23, uA 24, uA 25, uA 26, uA 27, uA 28, uA 29, uA 30, uA 31, uA 32, uA 33, uA 34, uA 35, uA 36, uA 37, uA 38, uA 39, uA 40, uA 41, uA 42, uA 43, u 44, u 45, u 46, u 47, u 48, u 49, u 50, u 51, u 52, u 53, u 54, u 55, u 56, u 57, u 58, u 59, u 60, u 61, u 62, u 63, u 64, u 65, u 66, u 67, u 68, u 69, u 70, u 71, u 72, u 73, u 74, u 75, u 76, u 77, u 78, u 79, u 80, u 81, u 82, u 83, u 84, u 85, u 86, u 87, u 88, u 89, u 90, u 91, u 92, u 93, u 94, u 95, u 96, u 97, u 98, u 99, u 100, u 101, u 102, u 103, u 104, u 105, u 106, u 107, u 108, u 109, u 110, u 111, u 112, u 113, u 114, u 115, u 116, u 117, u 118, u 119, u 120, u 121, u 122, u 123, u 124, u 125, u 126, u 127, u 128, u 129, u 130, u 131, u 132, u 133, u 134, u 135, u 136, u 137, u 138, u 139, u 140, u 141, u 142, u 143, u 144, u 145, u 146, u 147, u 148, u 149, u 150, u 151, u 152, u 153, u 154, u 155, u 156, u 157, u 158, u 159, u 160, u 161, u 162, u 163, u 164, u 165, u 166, u 167, u 168, u 169, u 170, u 171, u 172, u 173, u 174, u 175, u 176, u 177, u 178, u 179, u 180, u 181, u 182, u 183, u 184, u 185, u 186, u 187, u 188, u 189, u 190, u 191, u 192, u 193, u 194, u 195, u 196, uA 197, uA 198, uA 199, uA 200, uA 201, uA 202, uA 203, uA 204, uA 205, uA 206, uA 207, uA 208], defers := [] } := by
 obtain ⟨u, hu, ha⟩ := frame_open a h hd;obtain ⟨f1, f7, f21, f22, f23, f24, f25, f26, f27, f28, f29, f30, f31, f32, f33, f34, f35, f36, f37, f38, f39, f40, f41, f42, f43, f197, f198, f199, f200, f201, f202, f203, f204, f205, f206, f207, f208⟩ := hf;refine ⟨u, hu, ?_⟩;have e1 : u 1 = uA 1 := (hu 1).trans f1;have e7 : u 7 = uA 7 := (hu 7).trans f7;have e21 : u 21 = uA 21 := (hu 21).trans f21;have e22 : u 22 = uA 22 := (hu 22).trans f22;have e23 : u 23 = uA 23 := (hu 23).trans f23;have e24 : u 24 = uA 24 := (hu 24).trans f24;have e25 : u 25 = uA 25 := (hu 25).trans f25;have e26 : u 26 = uA 26 := (hu 26).trans f26;have e27 : u 27 = uA 27 := (hu 27).trans f27;have e28 : u 28 = uA 28 := (hu 28).trans f28;have e29 : u 29 = uA 29 := (hu 29).trans f29;have e30 : u 30 = uA 30 := (hu 30).trans f30;have e31 : u 31 = uA 31 := (hu 31).trans f31;have e32 : u 32 = uA 32 := (hu 32).trans f32;have e33 : u 33 = uA 33 := (hu 33).trans f33;have e34 : u 34 = uA 34 := (hu 34).trans f34;have e35 : u 35 = uA 35 := (hu 35).trans f35;have e36 : u 36 = uA 36 := (hu 36).trans f36;have e37 : u 37 = uA 37 := (hu 37).trans f37;have e38 : u 38 = uA 38 := (hu 38).trans f38;have e39 : u 39 = uA 39 := (hu 39).trans f39;have e40 : u 40 = uA 40 := (hu 40).trans f40;have e41 : u 41 = uA 41 := (hu 41).trans f41;have e42 : u 42 = uA 42 := (hu 42).trans f42;have e43 : u 43 = uA 43 := (hu 43).trans f43;have e197 : u 197 = uA 197 := (hu 197).trans f197;have e198 : u 198 = uA 198 := (hu 198).trans f198;have e199 : u 199 = uA 199 := (hu 199).trans f199;have e200 : u 200 = uA 200 := (hu 200).trans f200;have e201 : u 201 = uA 201 := (hu 201).trans f201;have e202 : u 202 = uA 202 := (hu 202).trans f202;have e203 : u 203 = uA 203 := (hu 203).trans f203;have e204 : u 204 = uA 204 := (hu 204).trans f204;have e205 : u 205 = uA 205 := (hu 205).trans f205;have e206 : u 206 = uA 206 := (hu 206).trans f206;have e207 : u 207 = uA 207 := (hu 207).trans f207;have e208 : u 208 = uA 208 := (hu 208).trans f208;rw [ha];simp only [e1, e7, e21, e22, e23, e24, e25, e26, e27, e28, e29, e30, e31, e32, e33, e34, e35, e36, e37, e38, e39, e40, e41, e42, e43, e197, e198, e199, e200, e201, e202, e203, e204, e205, e206, e207, e208]
end Go.Proofs.YtmecbmgfacpecaaGreatDoor.Cron
