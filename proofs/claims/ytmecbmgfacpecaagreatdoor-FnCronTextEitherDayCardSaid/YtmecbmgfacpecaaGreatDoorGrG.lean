/- Lemmas and walks on the way to the law, merged by wip/tools/pack.py: Number, Bits, Range, GetBits, GetRange, FieldsL. Conditions: none. -/
import Derived.Test.YtmecbmgfacpecaaGreatDoorGrF
import Derived.Test.YtmecbmgfacpecaaGreatDoorShelfT
import Derived.Laws.BitsLemmas
import Derived.WalkKit
import Derived.Test.YtmecbmgfacpecaaGreatDoorProg
import Derived.OwnWalk
import Derived.Lib.Hide
import Derived.Outline
import Derived.Deep.DeepCutAuto
import Derived.Deep.QuietTactic
import Derived.Deep.RegionWith
import Derived.Deep.DeepMust
import Derived.BigQuiet
import Derived.Lib.FieldsP
import Derived.Lib.SpaceUEq
namespace Go.Proofs.YtmecbmgfacpecaaGreatDoor.Cron
open Go Go.RowKit
set_option linter.unusedVariables false
def G (w : World) : Prop :=
 (∃ tp p, w.var? Tryz.prog "strconv.ErrSyntax" = some #[.iface tp p]) ∧ (∃ tp p, w.var? Tryz.prog "strconv.ErrRange" = some #[.iface tp p])
theorem gSyntax : Tryz.prog.globalNamed "strconv.ErrSyntax" = some 7 := by kernel_rfl
theorem gRange : Tryz.prog.globalNamed "strconv.ErrRange" = some 8 := by kernel_rfl
theorem lt_of_var {w : World} {n : String} {g : Nat} {v : Value} (hg : Tryz.prog.globalNamed n = some g) (h : w.var? Tryz.prog n = some #[v]) : g < w.heap.size := by
 have := World.var?_cell hg h 0
 exact Lib.lt_of_cell (show w.cell? ⟨g, 0, none⟩ = some v by simpa using this)
theorem G.below {w w' : World} (h : G w) (hb : Below w.heap.size w w') : G w' := by
 obtain ⟨⟨t, p, h1⟩, t', p', h2⟩ := h
 exact ⟨⟨t, p, var?_below hb gSyntax (lt_of_var gSyntax h1) h1⟩, t', p', var?_below hb gRange (lt_of_var gRange h2) h2⟩
def mp (l : List UInt8) : Option Nat :=
 match Lib.atoiAll l with
 | .ok v => if 0 ≤ v then some v.toNat else none
 | _ => none
theorem mp_le {l : List UInt8} {n : Nat} (h : mp l = some n) : n ≤ 9223372036854775807 := by
 unfold mp at h
 split at h
 ·rename_i v hv
  have := Lib.atoiAll_bounds hv
  split at h
  ·injection h with h
   omega
  ·cases h
 ·cases h
theorem atoi_ok (s : ByteArray) (hs : s.size ≤ 281474976710656) (v : Int) (h : Lib.atoiAll s.data.toList = .ok v) (w : World) :
  Calls Tryz.prog 207 #[.string s] w fun e w' => e = .returned (.tuple #[.int .i64 v, .nilIface]) ∧ Below w.heap.size w w' :=
 (Tryz.strconv_Atoi_ok s (by omega) v h w).mono fun e w' ⟨he, hw⟩ => ⟨he, by
  rcases hw with rfl | ⟨t, rfl⟩
  ·exact Below.refl _ _
  ·exact Lib.bytesWorld_below _ _ _⟩
theorem atoi_bad (s : ByteArray) (hs : s.size ≤ 281474976710656) (h : ∀ v, Lib.atoiAll s.data.toList ≠ .ok v) (w : World) (hg : G w) :
  Calls Tryz.prog 207 #[.string s] w fun e w' => ∃ v t x, e = .returned (.tuple #[.int .i64 v, .iface t x]) ∧ Below w.heap.size w w' := by
 obtain ⟨⟨t, p, h1⟩, t', p', h2⟩ := hg
 rcases e : Lib.atoiAll s.data.toList with v | _ | _
 ·exact absurd e (h v)
 ·exact (Tryz.strconv_Atoi_syntax_var s hs h (by simp [e]) t p w h1).mono fun e w' ⟨N, he, _, _, hb⟩ => ⟨_, _, _, he, hb⟩
 ·exact (Tryz.strconv_Atoi_range_var s hs e t' p' w h2).mono fun e w' ⟨N, he, _, _, hb⟩ => ⟨_, _, _, he, hb⟩
theorem mustParse_ok (s : ByteArray) (hs : s.size ≤ 281474976710656) (n : Nat) (h : mp s.data.toList = some n) (w : World) :
  Calls Tryz.prog 181 #[.string s] w fun e w' => e = .returned (.tuple #[.int .u64 n, .nilIface]) ∧ Below w.heap.size w w' := by
 have hn := mp_le h
 have hv : Lib.atoiAll s.data.toList = .ok n := by
  unfold mp at h
  split at h
  ·rename_i v hv
   split at h
   ·injection h with h
    rw [hv, show (v : Int) = (n : Nat) by omega]
   ·cases h
  ·cases h
 have H := atoi_ok s hs n hv w
 clear h hv
 go_enter Tryz.func181, Tryz.ntmps181
 go_wp2_with (go_at_call 207; refine H.mono ?_; rintro e w' ⟨rfl, hb⟩)
 go_ret2
 exact ⟨rfl, hb⟩
theorem mustParse_bad (s : ByteArray) (hs : s.size ≤ 281474976710656) (h : mp s.data.toList = none) (w : World) (hg : G w) :
  Calls Tryz.prog 181 #[.string s] w fun e w' => ∃ t x, e = .returned (.tuple #[.int .u64 0, .iface t x]) ∧ Below w.heap.size w w' := by
 by_cases hk : ∃ v, Lib.atoiAll s.data.toList = .ok v
 ·obtain ⟨v, hv⟩ := hk
  have hneg : v < 0 := by
   unfold mp at h
   rw [hv] at h
   simp at h
   omega
  have H := atoi_ok s hs v hv w
  clear h hv
  go_enter Tryz.func181, Tryz.ntmps181
  go_wp2_with (first | (go_at_call 207; refine H.mono ?_; rintro e w' ⟨rfl, hb⟩) | (go_at_call 96; refine (errorsNew_any _ _).mono ?_; rintro e w'' ⟨t, x, rfl, hb2⟩))
  go_ret2
  exact ⟨t, x, rfl, below_of_le hb hb2⟩
 ·have H := atoi_bad s hs (fun v hv => hk ⟨v, hv⟩) w hg
  clear h hk
  go_enter Tryz.func181, Tryz.ntmps181
  go_wp2_with (first | (go_at_call 207; refine H.mono ?_; rintro e w' ⟨v, t, x, rfl, hb⟩) | (go_at_call 96; refine (errorsNew_any _ _).mono ?_; rintro e w'' ⟨t2, x2, rfl, hb2⟩))
  go_ret2
  exact ⟨t2, x2, rfl, below_of_le hb hb2⟩
theorem valueNil_ok (s : ByteArray) (hs : s.size ≤ 281474976710656) (n : Nat) (h : mp s.data.toList = some n) (w : World) :
  Calls Tryz.prog 180 #[.string s, .map none] w fun e w' => e = .returned (.tuple #[.int .u64 n, .nilIface]) ∧ Below w.heap.size w w' := by
 have hm := fun w : World => run_neq_map_nil (P := Tryz.prog) w 183 _ _ none Tryz.underlying183
 go_enter Tryz.func180, Tryz.ntmps180
 go_wp2_with (go_at_call 181; refine (mustParse_ok s hs n h _).mono ?_; rintro e w' ⟨rfl, hb⟩)
 go_ret2
 exact ⟨rfl, hb⟩
theorem valueNil_bad (s : ByteArray) (hs : s.size ≤ 281474976710656) (h : mp s.data.toList = none) (w : World) (hg : G w) :
  Calls Tryz.prog 180 #[.string s, .map none] w fun e w' => ∃ t x, e = .returned (.tuple #[.int .u64 0, .iface t x]) ∧ Below w.heap.size w w' := by
 have hm := fun w : World => run_neq_map_nil (P := Tryz.prog) w 183 _ _ none Tryz.underlying183
 go_enter Tryz.func180, Tryz.ntmps180
 go_wp2_with (go_at_call 181; refine (mustParse_bad s hs h _ hg).mono ?_; rintro e w' ⟨t, x, rfl, hb⟩)
 go_ret2
 exact ⟨t, x, rfl, hb⟩
end Go.Proofs.YtmecbmgfacpecaaGreatDoor.Cron
namespace Go.Proofs.YtmecbmgfacpecaaGreatDoor.Bits
open Go
def mkBits (p : Nat → Bool) : Nat → Nat
 | 0 => 0
 | n + 1 => mkBits p n + if p n then 2 ^ n else 0
theorem mkBits_lt (p : Nat → Bool) (n : Nat) : mkBits p n < 2 ^ n := by
 induction n with
 | zero => simp [mkBits]
 | succ n ih =>
  unfold mkBits
  rw [Nat.pow_succ]
  split <;> omega
theorem mkBits_test (p : Nat → Bool) (n j : Nat) : (mkBits p n).testBit j = (decide (j < n) && p j) := by
 induction n with
 | zero => simp [mkBits]
 | succ n ih =>
  unfold mkBits
  have hl := mkBits_lt p n
  by_cases hp : p n = true
  ·rw [if_pos hp]
   by_cases h : j = n
   ·subst h
    rw [show mkBits p j + 2 ^ j = 2 ^ j + mkBits p j by omega, Nat.testBit_two_pow_add_eq, ih]
    simp [hp]
   ·by_cases h2 : j < n
    ·rw [show mkBits p n + 2 ^ n = 2 ^ n + mkBits p n by omega, Nat.testBit_two_pow_add_gt h2, ih]
     simp [h2, Nat.lt_succ_of_lt h2]
    ·have h3 : n + 1 ≤ j := by omega
     have h4 : ¬ j < n + 1 := by omega
     rw [Nat.testBit_lt_two_pow]
     ·simp [h4]
     ·calc _ < 2 ^ (n + 1) := by rw [Nat.pow_succ]; omega
       _ ≤ 2 ^ j := Nat.pow_le_pow_right (by decide) h3
  ·rw [if_neg hp, Nat.add_zero, ih]
   by_cases h : j = n
   ·subst h; simp [hp]
   ·have : (j < n) = (j < n + 1) := by apply propext; omega
    simp [this]
theorem mkBits_ext {p q : Nat → Bool} (n : Nat) (h : ∀ j, j < n → p j = q j) : mkBits p n = mkBits q n := by
 apply Nat.eq_of_testBit_eq
 intro j
 rw [mkBits_test, mkBits_test]
 by_cases hj : j < n
 ·simp [hj, h j hj]
 ·simp [hj]
theorem eq_mkBits {x n : Nat} {p : Nat → Bool} (hx : x < 2 ^ n) (h : ∀ j, j < n → x.testBit j = p j) : x = mkBits p n := by
 apply Nat.eq_of_testBit_eq
 intro j
 rw [mkBits_test]
 by_cases hj : j < n
 ·simp [hj, h j hj]
 ·have : x < 2 ^ j := Nat.lt_of_lt_of_le hx (Nat.pow_le_pow_right (by decide) (by omega))
  rw [Nat.testBit_lt_two_pow this]
  simp [hj]
theorem mkBits_or (p q : Nat → Bool) (n : Nat) : mkBits p n ||| mkBits q n = mkBits (fun j => p j || q j) n := by
 apply eq_mkBits (Nat.or_lt_two_pow (mkBits_lt _ _) (mkBits_lt _ _))
 intro j hj
 simp [mkBits_test, hj]
theorem mkBits_and (p q : Nat → Bool) (n : Nat) : mkBits p n &&& mkBits q n = mkBits (fun j => p j && q j) n := by
 apply eq_mkBits (Nat.and_lt_two_pow _ (mkBits_lt _ _))
 intro j hj
 simp [mkBits_test, hj]
theorem mkBits_xor (p q : Nat → Bool) (n : Nat) : mkBits p n ^^^ mkBits q n = mkBits (fun j => p j ^^ q j) n := by
 apply eq_mkBits (Nat.xor_lt_two_pow (mkBits_lt _ _) (mkBits_lt _ _))
 intro j hj
 simp [mkBits_test, hj]
theorem pow_mkBits (i n : Nat) (h : i < n) : 2 ^ i = mkBits (fun j => j == i) n := by
 apply eq_mkBits (Nat.pow_lt_pow_right (by decide) h)
 intro j _
 rw [Nat.testBit_two_pow]
 by_cases h : j = i
 ·subst h; simp
 ·have : ¬ i = j := fun e => h e.symm
  simp [h, this]
theorem wrap_u64 (n : Int) : IntKind.u64.wrap n = n % 18446744073709551616 := by simp [IntKind.wrap, IntKind.bits, IntKind.signed]
theorem wraps_u64 (n : Int) (h₀ : 0 ≤ n) (h₁ : n < 2 ^ 64) : IntKind.u64.wrap n = n := by rw [wrap_u64]; omega
theorem and_u64 {a b : Nat} (ha : a < 2 ^ 64) (hb : b < 2 ^ 64) : bits .and .u64 (a : Int) (b : Int) = ((a &&& b : Nat) : Int) :=
 (bits_nat .u64 64 (by decide) wraps_u64 a b ha hb).1
theorem or_u64 {a b : Nat} (ha : a < 2 ^ 64) (hb : b < 2 ^ 64) : bits .or .u64 (a : Int) (b : Int) = ((a ||| b : Nat) : Int) :=
 (bits_nat .u64 64 (by decide) wraps_u64 a b ha hb).2
theorem xor_u64 {a b : Nat} (ha : a < 2 ^ 64) (hb : b < 2 ^ 64) : bits .xor .u64 (a : Int) (b : Int) = ((a ^^^ b : Nat) : Int) := by
 have ha' : a % 2 ^ 64 = a := Nat.mod_eq_of_lt ha
 have hb' : b % 2 ^ 64 = b := Nat.mod_eq_of_lt hb
 have e : IntKind.u64.bits = 64 := rfl
 unfold bits
 rw [e]
 show IntKind.u64.wrap ((BitVec.ofInt 64 (a : Int) ^^^ BitVec.ofInt 64 (b : Int)).toNat : Int) = _
 rw [BitVec.ofInt_natCast, BitVec.ofInt_natCast, BitVec.toNat_xor, BitVec.toNat_ofNat, BitVec.toNat_ofNat, ha', hb']
 exact wraps_u64 _ (Int.natCast_nonneg _) (by exact_mod_cast Nat.xor_lt_two_pow ha hb)
theorem shl_one {i : Int} (h0 : 0 ≤ i) (h : i ≤ 63) : IntKind.u64.wrap (2 ^ i.toNat) = ((2 ^ i.toNat : Nat) : Int) := by
 rw [wraps_u64]
 ·rw [Int.natCast_pow]; rfl
 ·exact Int.pow_nonneg (by decide)
 ·have : (2 : Nat) ^ i.toNat < 2 ^ 64 := Nat.pow_lt_pow_right (by decide) (by omega)
  exact_mod_cast this
theorem max_table : ∀ n, n < 65 → (18446744073709551615 * 2 ^ n) % 18446744073709551616 = mkBits (fun j => decide (n ≤ j)) 64 := by decide +kernel
theorem shl_max {i : Int} (h0 : 0 ≤ i) (h : i ≤ 64) : IntKind.u64.wrap (18446744073709551615 * 2 ^ i.toNat) = ((mkBits (fun j => decide (i.toNat ≤ j)) 64 : Nat) : Int) := by
 rw [wrap_u64, ← max_table i.toNat (by omega), Int.natCast_emod, Int.natCast_mul, Int.natCast_pow]
 rfl
theorem max_u64 : IntKind.u64.max = ((mkBits (fun _ => true) 64 : Nat) : Int) := by decide +kernel
def steps (lo hi st : Nat) : Nat := mkBits (fun j => decide (lo ≤ j) && decide (j ≤ hi) && ((j - lo) % st == 0)) 64
theorem steps_lt (lo hi st : Nat) : steps lo hi st < 2 ^ 64 := mkBits_lt _ _
def below (lo i st : Nat) : Nat := mkBits (fun j => decide (lo ≤ j) && decide (j < i) && ((j - lo) % st == 0)) 64
theorem below_lt (lo i st : Nat) : below lo i st < 2 ^ 64 := mkBits_lt _ _
theorem below_start (lo st : Nat) : below lo lo st = 0 := by
 unfold below
 rw [mkBits_ext (q := fun _ => false)]
 ·decide
 ·intro j _
  by_cases h : lo ≤ j
  ·have : ¬ j < lo := by omega
   simp [this]
  ·simp [h]
theorem below_step {lo i st : Nat} (m : Nat) (hi : i = lo + m * st) (hs : 1 ≤ st) (h63 : i ≤ 63) : below lo i st ||| 2 ^ i = below lo (i + st) st := by
 unfold below
 rw [pow_mkBits i 64 (by omega), mkBits_or]
 apply mkBits_ext
 intro j _
 by_cases h1 : j < i
 ·have h2 : j < i + st := by omega
  have h3 : (j == i) = false := by simp; omega
  simp [h1, h2, h3]
 ·by_cases h2 : j = i
  ·subst h2
   have : (j - lo) % st = 0 := by rw [hi]; simp
   simp [this]
   omega
  ·have h3 : (j == i) = false := by simpa using h2
   rw [h3, Bool.or_false]
   by_cases h4 : j < i + st
   ·have h5 : (j - lo) % st = j - i := by
     have : j - lo = st * m + (j - i) := by rw [Nat.mul_comm]; omega
     rw [this, Nat.mul_add_mod]
     exact Nat.mod_eq_of_lt (by omega)
    have h6 : ((j - lo) % st == 0) = false := by rw [h5]; simp; omega
    simp [h6]
   ·simp [h1, h4]
theorem below_end {lo i hi st : Nat} (m : Nat) (hm : i = lo + m * st) (h : hi < i) (hp : i ≤ hi + st) (hlo : lo ≤ hi) : below lo i st = steps lo hi st := by
 unfold below steps
 apply mkBits_ext
 intro j _
 by_cases h1 : j ≤ hi
 ·have : j < i := by omega
  simp [h1, this]
 ·by_cases h2 : j < i
  ·have h6 : ((j - lo) % st == 0) = false := by
    simp
    intro e
    obtain ⟨q, hq⟩ := Nat.dvd_of_mod_eq_zero e
    -- lo + q st = j, hi < j < lo + m st, so q < m, so j ≤ i - st ≤ hi
    have hj : j = lo + st * q := by omega
    have : q < m := by
     apply Nat.lt_of_not_le
     intro hmq
     have := Nat.mul_le_mul_left st hmq
     rw [Nat.mul_comm m st] at hm
     omega
    have h7 := Nat.mul_le_mul_left st (show q + 1 ≤ m from this)
    rw [Nat.mul_add, Nat.mul_one] at h7
    rw [Nat.mul_comm m st] at hm
    omega
   simp [h6]
  ·simp [h1, h2]
theorem steps_one (lo hi : Nat) (h : hi ≤ 63) : bits .and .u64 (bits .xor .u64 IntKind.u64.max (IntKind.u64.wrap (18446744073709551615 * 2 ^ ((hi : Int) + 1).toNat))) (IntKind.u64.wrap (18446744073709551615 * 2 ^ (lo : Int).toNat)) = (steps lo hi 1 : Int) ∨ 64 < lo := by
 by_cases hl : lo ≤ 64
 ·left
  rw [shl_max (by omega) (by omega), shl_max (by omega) (by omega), max_u64, xor_u64 (mkBits_lt _ _) (mkBits_lt _ _), mkBits_xor, and_u64 (mkBits_lt _ _) (mkBits_lt _ _), mkBits_and]
  congr 1
  apply mkBits_ext
  intro j _
  by_cases a : lo ≤ j <;> by_cases b : j ≤ hi
  ·have h1 : j < hi + 1 := by omega
   simp [a, b, h1, Nat.mod_one]
  ·have h1 : hi + 1 ≤ j := by omega
   simp [a, b]; omega
  ·simp [a]
  ·simp [a]
 ·right; omega
end Go.Proofs.YtmecbmgfacpecaaGreatDoor.Bits
namespace Go.Proofs.YtmecbmgfacpecaaGreatDoor.Cron
open Go Go.Proofs.YtmecbmgfacpecaaGreatDoor.Text Go.Proofs.YtmecbmgfacpecaaGreatDoor.Bits
def endsRest (val : List UInt8 → Option Nat) : Option Nat → List (List UInt8) → Option (Nat × Nat × Bool)
 | none, _ => none
 | some a, [] => some (a, a, false)
 | some a, [e2] => match val e2 with
  | none => none
  | some b => some (a, b, false)
 | some _, _ => none
def ends (val : List UInt8 → Option Nat) (lo hi : Nat) : List (List UInt8) → Option (Nat × Nat × Bool)
 | [] => none
 | e :: r => if e = [42] ∨ e = [63] then some (lo, hi, true) else endsRest val (val e) r
def starBits (b : Bool) : Int := if b then 9223372036854775808 else 0
def StarIs (st : Bool) (q : List UInt8) : Prop := st = true ↔ q = [42] ∨ q = [63]
def stepOf (hi : Nat) (single : Bool) (b : Nat) (star : Bool) : List (List UInt8) → Option (Nat × Nat × Bool)
 | [] => some (1, b, star)
 | [t] => match mp t with
  | none => none
  | some k => some (k, if single then hi else b, if 1 < k then false else star)
 | _ => none
def bitsOf (lo hi a b k : Nat) (star : Bool) : Option Nat :=
 if a < lo then none else if hi < b then none else if b < a then none else if k = 0 then none
 else some (steps a b k ||| (if star then 9223372036854775808 else 0))
def rangeFin (lo hi : Nat) (single : Bool) (a b : Nat) (star : Bool) (ps : List (List UInt8)) : Option Nat :=
 match stepOf hi single b star ps with
 | none => none
 | some (k, b', star') => bitsOf lo hi a b' k star'
def rangeS (val : List UInt8 → Option Nat) (lo hi : Nat) (s : List UInt8) : Option Nat :=
 match splitL 47 s with
 | [] => none
 | p :: ps =>
  match ends val lo hi (splitL 45 p) with
  | none => none
  | some (a, b, star) => rangeFin lo hi ((splitL 45 p).length == 1) a b star ps
theorem rangeS_none {val : List UInt8 → Option Nat} {lo hi : Nat} {s p q : List UInt8} {ps qs : List (List UInt8)} (h1 : splitL 47 s = p :: ps) (h2 : splitL 45 p = q :: qs) (h3 : ends val lo hi (q :: qs) = none) : rangeS val lo hi s = none := by
 unfold rangeS
 rw [h1]
 simp only
 rw [h2, h3]
theorem rangeS_some {val : List UInt8 → Option Nat} {lo hi a b : Nat} {st : Bool} {s p q : List UInt8} {ps qs : List (List UInt8)} (h1 : splitL 47 s = p :: ps) (h2 : splitL 45 p = q :: qs) (h3 : ends val lo hi (q :: qs) = some (a, b, st)) : rangeS val lo hi s = rangeFin lo hi ((q :: qs).length == 1) a b st ps := by
 unfold rangeS
 rw [h1]
 simp only
 rw [h2, h3]
theorem fin_none {lo hi a b : Nat} {sg st : Bool} {ps : List (List UInt8)} (h : stepOf hi sg b st ps = none) : rangeFin lo hi sg a b st ps = none := by unfold rangeFin; rw [h]
theorem fin_some {lo hi a b k b' : Nat} {sg st st' : Bool} {ps : List (List UInt8)} (h : stepOf hi sg b st ps = some (k, b', st')) : rangeFin lo hi sg a b st ps = bitsOf lo hi a b' k st' := by unfold rangeFin; rw [h]
theorem starBits_nat (b : Bool) : starBits b = ((if b then 9223372036854775808 else 0 : Nat) : Int) := by cases b <;> rfl
theorem or_star {n : Nat} (h : n < 2 ^ 64) (b : Bool) : bits .or .u64 (n : Int) (starBits b) = ((n ||| (if b then 9223372036854775808 else 0) : Nat) : Int) := by
 rw [starBits_nat]
 exact or_u64 h (by cases b <;> decide)
theorem ends_star {val : List UInt8 → Option Nat} {lo hi : Nat} {q : List UInt8} (qs : List (List UInt8)) (h : q = [42] ∨ q = [63]) : ends val lo hi (q :: qs) = some (lo, hi, true) := by
 simp only [ends]; rw [if_pos h]
theorem ends_else {val : List UInt8 → Option Nat} {lo hi : Nat} {q : List UInt8} (qs : List (List UInt8)) (h : ¬ (q = [42] ∨ q = [63])) : ends val lo hi (q :: qs) = endsRest val (val q) qs := by
 simp only [ends]; rw [if_neg h]
theorem ends_true {val : List UInt8 → Option Nat} {lo hi : Nat} {q : List UInt8} (qs : List (List UInt8)) (h : StarIs true q) : ends val lo hi (q :: qs) = some (lo, hi, true) :=
 ends_star qs (h.1 rfl)
theorem ends_false {val : List UInt8 → Option Nat} {lo hi : Nat} {q : List UInt8} (qs : List (List UInt8)) (h : StarIs false q) : ends val lo hi (q :: qs) = endsRest val (val q) qs :=
 ends_else qs (fun e => by have := h.2 e; cases this)
theorem eq42 {q : List UInt8} : ((ba q).toList == [42]) = decide (q = [42]) := by rw [toList_data, ba_list]; exact Bool.eq_iff_iff.2 ⟨fun h => decide_eq_true (eq_of_beq h), fun h => beq_iff_eq.2 (of_decide_eq_true h)⟩
theorem eq63 {q : List UInt8} : ((ba q).toList == [63]) = decide (q = [63]) := by rw [toList_data, ba_list]; exact Bool.eq_iff_iff.2 ⟨fun h => decide_eq_true (eq_of_beq h), fun h => beq_iff_eq.2 (of_decide_eq_true h)⟩
theorem eq42_true {q : List UInt8} (h : q = [42]) : ((ba q).toList == [42]) = true := by rw [eq42]; exact decide_eq_true h
theorem eq42_false {q : List UInt8} (h : ¬ q = [42]) : ((ba q).toList == [42]) = false := by rw [eq42]; exact decide_eq_false h
theorem eq63_true {q : List UInt8} (h : q = [63]) : ((ba q).toList == [63]) = true := by rw [eq63]; exact decide_eq_true h
theorem eq63_false {q : List UInt8} (h : ¬ q = [63]) : ((ba q).toList == [63]) = false := by rw [eq63]; exact decide_eq_false h
end Go.Proofs.YtmecbmgfacpecaaGreatDoor.Cron
namespace Go.Proofs.YtmecbmgfacpecaaGreatDoor.Cron
open Go Go.RowKit Go.Proofs.YtmecbmgfacpecaaGreatDoor.Bits
set_option linter.unusedVariables false
theorem int_eq {k : IntKind} {a b : Int} (h : a = b) : Ending.returned (.int k a) = .returned (.int k b) := by rw [h]
theorem getBits_one (lo hi : Nat) (h : lo ≤ hi) (hh : hi ≤ 63) (w : World) :
  Calls Tryz.prog 174 #[.int .u64 lo, .int .u64 hi, .int .u64 1] w fun e w' => e = .returned (.int .u64 (steps lo hi 1)) ∧ w = w' := by
 have hs := Lib.hid (steps_one lo hi hh)
 go_enter Tryz.func174, Tryz.ntmps174
 go_wp2
 go_ret
 refine ⟨int_eq ?_, rfl⟩
 rcases hs.out with e | e
 ·exact e
 ·omega
theorem getBits_more (lo hi st : Nat) (h : lo ≤ hi) (hh : hi ≤ 63) (h2 : 2 ≤ st) (h3 : st ≤ 9223372036854775807) (w : World) :
  Calls Tryz.prog 174 #[.int .u64 lo, .int .u64 hi, .int .u64 st] w fun e w' => e = .returned (.int .u64 (steps lo hi st)) ∧ w = w' := by
 have hne : ((st : Int) == 1) = false := by simp; omega
 go_enter Tryz.func174, Tryz.ntmps174
 go_wp2
 go_loop [7, 8] (fun b i => ∃ n m : Nat, i = .int .u64 n ∧ b = .int .u64 (below lo n st) ∧ Hid (n = lo + m * st) ∧ lo ≤ n ∧ n ≤ hi + st) (fun _ i => hi + st + 1 - (intOf i).toNat)
 case atStart => exact ⟨lo, 0, rfl, by rw [below_start]; rfl, Lib.hid (by simp), by omega, by omega⟩
 case round =>
  obtain ⟨n, m, rfl, rfl, hn, hl, hu⟩ := hrel
  have hb := below_lt lo n st
  by_cases hle : n ≤ hi
  ·have hstep := Lib.hid (below_step m hn.out (by omega) (show n ≤ 63 by omega))
   have hor : bits .or .u64 (below lo n st : Int) (IntKind.u64.wrap (2 ^ n)) = (below lo (n + st) st : Int) := by
    rw [show IntKind.u64.wrap (2 ^ n) = ((2 ^ n : Nat) : Int) from shl_one (i := (n : Int)) (by omega) (by omega), or_u64 hb (Nat.pow_lt_pow_right (by decide) (by omega)), hstep.out]
   go_wp2
   go_round
   case rel =>
    refine ⟨n + st, m + 1, by go_num, ?_, Lib.hid ?_, by omega, by omega⟩
    ·rfl
    ·have := hn.out; rw [Nat.add_mul]; omega
   case measure => simp [intOf]; omega
  ·have hend := Lib.hid (below_end m hn.out (show hi < n by omega) hu h)
   go_wp2
   go_ret
   exact ⟨int_eq (by rw [hend.out]), rfl⟩
theorem getBits_any (lo hi st : Nat) (h : lo ≤ hi) (hh : hi ≤ 63) (h2 : 1 ≤ st) (h3 : st ≤ 9223372036854775807) (w : World) :
  Calls Tryz.prog 174 #[.int .u64 lo, .int .u64 hi, .int .u64 st] w fun e w' => e = .returned (.int .u64 (steps lo hi st)) ∧ w = w' := by
 by_cases e : st = 1
 ·subst e; exact getBits_one lo hi h hh w
 ·exact getBits_more lo hi st h hh (by omega) h3 w
end Go.Proofs.YtmecbmgfacpecaaGreatDoor.Cron
namespace Go.Proofs.YtmecbmgfacpecaaGreatDoor.Cron
open Go Go.RowKit Go.Proofs.YtmecbmgfacpecaaGreatDoor.Text Go.Proofs.YtmecbmgfacpecaaGreatDoor.Bits
set_option linter.unusedVariables false
def Answers (w : World) (r : Option Nat) (e : Ending) (w' : World) : Prop :=
 (match r with
  | some b => e = .returned (.tuple #[.int .u64 b, .nilIface])
  | none => ∃ t x, e = .returned (.tuple #[.int .u64 0, .iface t x])) ∧ Below w.heap.size w w'
structure Reads (m : Option Nat) (val : List UInt8 → Option Nat) (Inv : World → Prop) : Prop where
 keeps : ∀ {w w' : World}, Inv w → Below w.heap.size w w' → Inv w'
 g : ∀ {w : World}, Inv w → G w
 le : ∀ {l n}, val l = some n → n ≤ 9223372036854775807
 calls : ∀ (s : ByteArray) (w : World), s.size ≤ 4294967296 → Inv w → Calls Tryz.prog 180 #[.string s, .map m] w (Answers w (val s.data.toList))
def Slots (r : Option Nat) (v e : Value) : Prop :=
 match r with
 | some n => v = .int .u64 n ∧ e = .nilIface
 | none => v = .int .u64 0 ∧ ∃ t x, e = .iface t x
theorem answers_cases {w : World} {r : Option Nat} {e : Ending} {w' : World} (h : Answers w r e w') : ∃ v x, e = .returned (.tuple #[v, x]) ∧ Hid (Slots r v x) ∧ Below w.heap.size w w' := by
 obtain ⟨h, hb⟩ := h
 cases r with
 | none => obtain ⟨t, x, rfl⟩ := h; exact ⟨_, _, rfl, Lib.hid ⟨rfl, t, x, rfl⟩, hb⟩
 | some n => subst h; exact ⟨_, _, rfl, Lib.hid ⟨rfl, rfl⟩, hb⟩
set_option maxRecDepth 100000 in
set_option maxHeartbeats 1600000 in
theorem rangeA (m : Option Nat) (val : List UInt8 → Option Nat) (Inv : World → Prop) (hR : Reads m val Inv) (lo hi : Nat) (s : ByteArray) (hs : s.size ≤ 4294967296) (h1 : lo ≤ hi) (h2 : hi ≤ 62) (w : World) (hI : Inv w) :
  Calls Tryz.prog 152 #[.string s, .agg #[.int .u64 lo, .int .u64 hi, .map m]] w (Answers w (rangeS val lo hi s.data.toList)) := by
 obtain ⟨p, ps, hps⟩ : ∃ p ps, splitL 47 s.data.toList = p :: ps := by
  cases h : splitL 47 s.data.toList with
  | nil => exact absurd h (splitL_ne _ _)
  | cons p ps => exact ⟨p, ps, rfl⟩
 obtain ⟨q, qs, hqs⟩ : ∃ q qs, splitL 45 p = q :: qs := by
  cases h : splitL 45 p with
  | nil => exact absurd h (splitL_ne _ _)
  | cons q qs => exact ⟨q, qs, rfl⟩
 have hpl : p.length ≤ 4294967296 := by
  have := splitL_size 47 s.data.toList p (by rw [hps]; simp)
  rw [← size_list] at this
  omega
 have hpsB : splitB 47 s = ba p :: ps.map ba := by rw [splitB, hps]; rfl
 have hqsB : splitB 45 (ba p) = ba q :: qs.map ba := by rw [splitB, ba_list, hqs]; rfl
 have HP := Lib.hid hps
 have HQ := Lib.hid hqs
 have HPB := Lib.hid hpsB
 have HQB := Lib.hid hqsB
 clear hps hqs hpsB hqsB
 go_enter Tryz.func152, Tryz.ntmps152
 go_wp2_with fail
 refine (zzSplit_any 47 s (by omega) _).mono ?_
 rintro e w1 ⟨g1, n1, c1, rfl, hg1, ht1, hb1⟩
 have hB1 : Below w.heap.size w w1 := ((Below.refl _ _).alloc (Nat.le_refl _) _).trans (hb1.mono (by simp))
 have hz1 : w.heap.size < w1.heap.size := by have := hb1.size; simp at this; omega
 have hx0 : w1.cell? ⟨w.heap.size, 0, none⟩ = some (.int .u64 lo) := (hb1.cell (p := ⟨w.heap.size, 0, none⟩) (by simp)).trans (by simp [World.cell?_alloc_new])
 have hx1 : w1.cell? ⟨w.heap.size, 1, none⟩ = some (.int .u64 hi) := (hb1.cell (p := ⟨w.heap.size, 1, none⟩) (by simp)).trans (by simp [World.cell?_alloc_new])
 have hx2 : w1.cell? ⟨w.heap.size, 2, none⟩ = some (.map m) := (hb1.cell (p := ⟨w.heap.size, 2, none⟩) (by simp)).trans (by simp [World.cell?_alloc_new])
 have hc0 : w1.cell? ⟨g1, 0, none⟩ = some (.string (ba p)) := ht1.at_ 0 _ (by rw [HPB.out]; rfl)
 have hn1 : 0 < n1 := by rw [ht1.len, HPB.out]; simp
 clear hb1
 go_wp2_with fail
 refine (zzSplit_any 45 (ba p) (by rw [ba_size]; omega) _).mono ?_
 rintro e w2 ⟨g2, n2, c2, rfl, hg2, ht2, hb2⟩
 have hB2 : Below w.heap.size w w2 := below_of_le hB1 hb2
 have hy0 : w2.cell? ⟨w.heap.size, 0, none⟩ = some (.int .u64 lo) := (hb2.cell (p := ⟨w.heap.size, 0, none⟩) hz1).trans hx0
 have hy1 : w2.cell? ⟨w.heap.size, 1, none⟩ = some (.int .u64 hi) := (hb2.cell (p := ⟨w.heap.size, 1, none⟩) hz1).trans hx1
 have hy2 : w2.cell? ⟨w.heap.size, 2, none⟩ = some (.map m) := (hb2.cell (p := ⟨w.heap.size, 2, none⟩) hz1).trans hx2
 have hz2 : w.heap.size < w2.heap.size := Nat.lt_of_lt_of_le hz1 hb2.size
 have ht3 : Texts w2 g1 n1 c1 (splitB 47 s) := ht1.below hb2
 have hd0 : w2.cell? ⟨g2, 0, none⟩ = some (.string (ba q)) := ht2.at_ 0 _ (by rw [HQB.out]; rfl)
 have hn2 : 0 < n2 := by rw [ht2.len, HQB.out]; simp
 have hnn : n2 = qs.length + 1 := by rw [ht2.len, HQB.out]; simp
 obtain ⟨sg, hsg⟩ : ∃ sg : Bool, ((n2 : Int) == 1) = sg := ⟨_, rfl⟩
 have HN := Lib.hid hnn
 have HSG := Lib.hid (show sg = ((q :: qs).length == 1) by rw [← hsg, hnn]; cases qs <;> simp; omega)
 clear hb2 hx0 hx1 hx2 hc0 ht1 hB1 hz1 hg1 hg2 hnn
 go_upto_region 7 with fail
 go_cut [32] (fun v32 wc => ∃ st : Bool, v32 = .bool st ∧ Hid (StarIs st q) ∧ w2 = wc)
 case first =>
  by_cases c1 : q = [42]
  ·have e1 := eq42_true c1
   have HS : Hid (StarIs true q) := Lib.hid (by simp [StarIs, c1])
   clear c1
   go_wp2_with fail
   go_meet
   exact ⟨true, rfl, HS, rfl⟩
  ·have e1 := eq42_false c1
   by_cases c2 : q = [63]
   ·have e2 := eq63_true c2
    have HS : Hid (StarIs true q) := Lib.hid (by simp [StarIs, c2])
    clear c1 c2
    go_wp2_with fail
    go_meet
    exact ⟨true, rfl, HS, rfl⟩
   ·have e2 := eq63_false c2
    have HS : Hid (StarIs false q) := Lib.hid (by simp [StarIs, c1, c2])
    clear c1 c2
    go_wp2_with fail
    go_meet
    exact ⟨false, rfl, HS, rfl⟩
 case rest =>
  obtain ⟨st, rfl, hst, rfl⟩ := hcut
  go_upto_if 32 with fail
  go_cut [6, 7, 13] (fun v6 v7 v13 wc => ∃ (a b : Nat) (sb : Bool), Hid (ends val lo hi (q :: qs) = some (a, b, sb)) ∧ v6 = .int .u64 a ∧ v7 = .int .u64 b ∧ v13 = .int .u64 (starBits sb) ∧ Below w2.heap.size w2 wc)
  case first =>
   cases st with
   | true =>
    have HE := Lib.hid (ends_true (val := val) (lo := lo) (hi := hi) qs hst.out)
    clear hst
    go_wp2_with fail
    go_meet
    exact ⟨lo, hi, true, HE, rfl, rfl, rfl, Below.refl _ _⟩
   | false =>
    have HE := Lib.hid (ends_false (val := val) (lo := lo) (hi := hi) qs hst.out)
    clear hst
    have hIq := hR.keeps hI hB2
    have H := fun (w' : World) (hw' : Inv w') => (hR.calls (ba q) w' (by rw [ba_size]; have := splitL_size 45 p q (by rw [HQ.out]; simp); omega) hw').mono (fun _ _ => answers_cases)
    simp only [ba_list] at H
    have HH := Lib.hid H
    clear H
    go_upto_region 11 with fail
    go_cut [6, 12] (fun v6 v12 wc => Hid (Slots (val q) v6 v12) ∧ Below w2.heap.size w2 wc)
    case first =>
     go_region_with (go_at_call 180; go_must (refine (HH.out _ ?_).mono ?_); (first | exact hIq | exact hR.keeps hIq (Below.refl _ _).drew); rintro e w3 ⟨v3, x3, rfl, hsl, hb3⟩)
     all_goals (go_wp2_with fail; go_meet; exact ⟨hsl, by first | exact hb3 | exact (Below.refl _ _).drew.trans hb3⟩)
    case rest =>
     obtain ⟨hsl, hb3⟩ := hcut
     have hB3 : Below w.heap.size w wc := below_of_le hB2 hb3
     cases hv : val q with
     | none =>
      rw [hv] at hsl HE
      obtain ⟨rfl, t3, x3, rfl⟩ := hsl.out
      have HE2 := Lib.hid (show ends val lo hi (q :: qs) = none from HE.out)
      clear HE hsl
      go_wp2_with fail
      go_ret2
      rw [rangeS_none HP.out HQ.out HE2.out]
      exact ⟨⟨t3, x3, rfl⟩, hB3⟩
     | some a =>
      rw [hv] at hsl HE
      obtain ⟨rfl, rfl⟩ := hsl.out
      clear hsl hv
      have hn := HN.out
      have hIc := hR.keeps hIq hb3
      have ht4 := ht2.below hb3
      cases qs with
      | nil =>
       obtain rfl : sg = true := HSG.out
       have HE2 := Lib.hid (show ends val lo hi [q] = some (a, a, false) from HE.out)
       clear HE hn
       go_wp2_with fail
       go_meet
       exact ⟨a, a, false, HE2, rfl, rfl, rfl, hb3⟩
      | cons e2 qs =>
       obtain rfl : sg = false := by rw [HSG.out]; simp
       cases qs with
       | cons e3 qs =>
        have hq2 : ((n2 : Int) == 2) = false := by rw [hn]; simp; omega
        have HE2 := Lib.hid (show ends val lo hi (q :: e2 :: e3 :: qs) = none from HE.out)
        clear HE hn
        go_wp2_with (go_at_call 96; refine (errorsNew_any _ _).mono ?_; rintro e w4 ⟨t4, x4, rfl, hb4⟩)
        go_ret2
        rw [rangeS_none HP.out HQ.out HE2.out]
        exact ⟨⟨t4, x4, rfl⟩, below_of_le hB3 hb4⟩
       | nil =>
        have hq2 : ((n2 : Int) == 2) = true := by rw [hn]; rfl
        have hn1 : 1 < n2 := by rw [hn]; simp
        have hl1 : ((1 : Nat) : Int) < n2 := by omega
        have hc1 : wc.cell? ⟨g2, 1, none⟩ = some (.string (ba e2)) := ht4.at_ 1 _ (by rw [HQB.out]; rfl)
        have hy4 : wc.cell? ⟨w.heap.size, 2, none⟩ = some (.map m) := (hb3.cell (p := ⟨w.heap.size, 2, none⟩) hz2).trans hy2
        have H2 := fun (w' : World) (hw' : Inv w') => (hR.calls (ba e2) w' (by rw [ba_size]; have := splitL_size 45 p e2 (by rw [HQ.out]; simp); omega) hw').mono (fun _ _ => answers_cases)
        simp only [ba_list] at H2
        have HH2 := Lib.hid H2
        clear H2 hn HH hd0 hy0 hy1 hy2
        go_upto_region 19 with fail
        go_cut [7, 12] (fun v7 v12 wd => Hid (Slots (val e2) v7 v12) ∧ Below wc.heap.size wc wd)
        case first =>
         go_region_with (go_at_call 180; go_must (refine (HH2.out _ ?_).mono ?_); (first | exact hIc | exact hR.keeps hIc (Below.refl _ _).drew); rintro e w3 ⟨v3, x3, rfl, hsl, hb4⟩)
         all_goals (go_wp2_with fail; go_meet; exact ⟨hsl, by first | exact hb4 | exact (Below.refl _ _).drew.trans hb4⟩)
        case rest =>
         obtain ⟨hsl, hb4⟩ := hcut
         cases hv2 : val e2 with
         | none =>
          rw [hv2] at hsl
          obtain ⟨rfl, t3, x3, rfl⟩ := hsl.out
          have HE2 := Lib.hid (show ends val lo hi [q, e2] = none by rw [HE.out]; simp only [endsRest, hv2])
          clear HE hsl hv2
          go_wp2_with fail
          go_ret2
          rw [rangeS_none HP.out HQ.out HE2.out]
          exact ⟨⟨t3, x3, rfl⟩, below_of_le hB3 hb4⟩
         | some b =>
          rw [hv2] at hsl
          obtain ⟨rfl, rfl⟩ := hsl.out
          have HE2 := Lib.hid (show ends val lo hi [q, e2] = some (a, b, false) by rw [HE.out]; simp only [endsRest, hv2])
          clear HE hsl hv2
          go_wp2_with fail
          go_meet
          exact ⟨a, b, false, HE2, rfl, rfl, rfl, below_of_le hb3 hb4⟩
  case rest =>
   obtain ⟨a, b, sb, HE, rfl, rfl, rfl, hb3⟩ := hcut
   have HF := Lib.hid (show rangeS val lo hi s.data.toList = rangeFin lo hi sg a b sb ps by rw [rangeS_some HP.out HQ.out HE.out, HSG.out])
   have hB3 : Below w.heap.size w wc := below_of_le hB2 hb3
   have hz3 : w.heap.size < wc.heap.size := Nat.lt_of_lt_of_le hz2 hb3.size
   have ha0 : wc.cell? ⟨w.heap.size, 0, none⟩ = some (.int .u64 lo) := (hb3.cell (p := ⟨w.heap.size, 0, none⟩) hz2).trans hy0
   have ha1 : wc.cell? ⟨w.heap.size, 1, none⟩ = some (.int .u64 hi) := (hb3.cell (p := ⟨w.heap.size, 1, none⟩) hz2).trans hy1
   have ht4 := ht3.below hb3
   have hg4 : G wc := (hR.g hI).below hB3
   have hm1 : n1 = ps.length + 1 := by rw [ht3.len, HPB.out]; simp
   have HM := Lib.hid hm1
   clear HE HQ HQB HN HSG ht2 ht3 hd0 hn2 hy0 hy1 hy2 hz2 hb3 hB2 hst hsg hm1
   obtain ⟨wo, rfl⟩ : ∃ wo : World, wo = wc := ⟨_, rfl⟩
   go_upto_block 1 with fail
   go_cut [7, 8, 13] (fun v7 v8 v13 wd => ∃ (b' k : Nat) (sb' : Bool), Hid (stepOf hi sg b sb ps = some (k, b', sb')) ∧ k ≤ 9223372036854775807 ∧ v7 = .int .u64 b' ∧ v8 = .int .u64 k ∧ v13 = .int .u64 (starBits sb') ∧ Below wo.heap.size wo wd)
   case first =>
    cases ps with
    | nil =>
     have hq1 : ((n1 : Int) == 1) = true := by rw [HM.out]; rfl
     clear HM
     go_wp2_with fail
     go_meet
     exact ⟨b, 1, sb, Lib.hid rfl, by omega, rfl, rfl, rfl, Below.refl _ _⟩
    | cons t ps =>
     have hq1 : ((n1 : Int) == 1) = false := by rw [HM.out]; simp; omega
     cases ps with
     | cons t2 ps =>
      have hq2 : ((n1 : Int) == 2) = false := by rw [HM.out]; simp; omega
      have HX := Lib.hid (fin_none (lo := lo) (a := a) (show stepOf hi sg b sb (t :: t2 :: ps) = none from rfl))
      clear HM
      go_wp2_with (go_at_call 96; refine (errorsNew_any _ _).mono ?_; rintro e w4 ⟨t4, x4, rfl, hb4⟩)
      go_ret2
      rw [HF.out, HX.out]
      exact ⟨⟨t4, x4, rfl⟩, below_of_le hB3 hb4⟩
     | nil =>
      have hq2 : ((n1 : Int) == 2) = true := by rw [HM.out]; rfl
      have hn1' : 1 < n1 := by rw [HM.out]; simp
      have hc1 : wo.cell? ⟨g1, 1, none⟩ = some (.string (ba t)) := ht4.at_ 1 _ (by rw [HPB.out]; rfl)
      have htl : (ba t).size ≤ 281474976710656 := by
       have := splitL_size 47 s.data.toList t (by rw [HP.out]; simp)
       rw [← size_list] at this
       rw [ba_size]
       omega
      clear HM
      cases hv : mp t with
      | none =>
       have hmp := mustParse_bad (ba t) htl (by rw [ba_list]; exact hv) wo hg4
       have HX := Lib.hid (fin_none (lo := lo) (a := a) (show stepOf hi sg b sb [t] = none by simp only [stepOf, hv]))
       have HMP := Lib.hid hmp
       clear hv hmp
       go_wp2_with (go_at_call 181; go_must (refine HMP.out.mono ?_); rintro e w4 ⟨t4, x4, rfl, hb4⟩)
       go_ret2
       rw [HF.out, HX.out]
       exact ⟨⟨t4, x4, rfl⟩, below_of_le hB3 hb4⟩
      | some k =>
       have hk := mp_le hv
       have hmp := mustParse_ok (ba t) htl k (by rw [ba_list]; exact hv) wo
       have HX := Lib.hid (show stepOf hi sg b sb [t] = some (k, if sg then hi else b, if 1 < k then false else sb) by simp only [stepOf, hv])
       have HMP := Lib.hid hmp
       clear hv hmp
       by_cases hk1 : 1 < k
       ·cases sg with
        | true =>
         go_wp2_with (go_at_call 181; go_must (refine HMP.out.mono ?_); rintro e w4 ⟨rfl, hb4⟩; obtain ⟨hl1, hl2⟩ := bcell hb4)
         go_meet
         exact ⟨hi, k, false, Lib.hid (by rw [HX.out, if_pos hk1]; rfl), hk, rfl, rfl, rfl, hb4⟩
        | false =>
         go_wp2_with (go_at_call 181; go_must (refine HMP.out.mono ?_); rintro e w4 ⟨rfl, hb4⟩; obtain ⟨hl1, hl2⟩ := bcell hb4)
         go_meet
         exact ⟨b, k, false, Lib.hid (by rw [HX.out, if_pos hk1]; rfl), hk, rfl, rfl, rfl, hb4⟩
       ·cases sg with
        | true =>
         go_wp2_with (go_at_call 181; go_must (refine HMP.out.mono ?_); rintro e w4 ⟨rfl, hb4⟩; obtain ⟨hl1, hl2⟩ := bcell hb4)
         go_meet
         exact ⟨hi, k, sb, Lib.hid (by rw [HX.out, if_neg hk1]; rfl), hk, rfl, rfl, rfl, hb4⟩
        | false =>
         go_wp2_with (go_at_call 181; go_must (refine HMP.out.mono ?_); rintro e w4 ⟨rfl, hb4⟩; obtain ⟨hl1, hl2⟩ := bcell hb4)
         go_meet
         exact ⟨b, k, sb, Lib.hid (by rw [HX.out, if_neg hk1]; rfl), hk, rfl, rfl, rfl, hb4⟩
   case rest =>
    obtain ⟨b', k, sb', HX, hk, rfl, rfl, rfl, hb4⟩ := hcut
    have hB4 : Below w.heap.size w wc := below_of_le hB3 hb4
    have hd0 : wc.cell? ⟨w.heap.size, 0, none⟩ = some (.int .u64 lo) := (hb4.cell (p := ⟨w.heap.size, 0, none⟩) hz3).trans ha0
    have hd1 : wc.cell? ⟨w.heap.size, 1, none⟩ = some (.int .u64 hi) := (hb4.cell (p := ⟨w.heap.size, 1, none⟩) hz3).trans ha1
    have HY := Lib.hid (HF.out.trans (fin_some (lo := lo) (a := a) HX.out))
    clear HF HX HP HPB HM ht4 hg4 hz3 ha0 ha1 hb4 hB3
    by_cases x1 : a < lo
    ·go_wp2_with (go_at_call 96; refine (errorsNew_any _ _).mono ?_; rintro e w4 ⟨t4, x4, rfl, hb4⟩)
     go_ret2
     rw [HY.out, bitsOf, if_pos x1]
     exact ⟨⟨t4, x4, rfl⟩, below_of_le hB4 hb4⟩
    by_cases x2 : hi < b'
    ·go_wp2_with (go_at_call 96; refine (errorsNew_any _ _).mono ?_; rintro e w4 ⟨t4, x4, rfl, hb4⟩)
     go_ret2
     rw [HY.out, bitsOf, if_neg x1, if_pos x2]
     exact ⟨⟨t4, x4, rfl⟩, below_of_le hB4 hb4⟩
    by_cases x3 : b' < a
    ·go_wp2_with (go_at_call 96; refine (errorsNew_any _ _).mono ?_; rintro e w4 ⟨t4, x4, rfl, hb4⟩)
     go_ret2
     rw [HY.out, bitsOf, if_neg x1, if_neg x2, if_pos x3]
     exact ⟨⟨t4, x4, rfl⟩, below_of_le hB4 hb4⟩
    by_cases x4 : k = 0
    ·subst x4
     go_wp2_with (go_at_call 96; refine (errorsNew_any _ _).mono ?_; rintro e w4 ⟨t4, x4, rfl, hb4⟩)
     go_ret2
     rw [HY.out, bitsOf, if_neg x1, if_neg x2, if_neg x3, if_pos rfl]
     exact ⟨⟨t4, x4, rfl⟩, below_of_le hB4 hb4⟩
    ·have hk1 : 1 ≤ k := by omega
     have hk0 : ((k : Int) == 0) = false := by simp; omega
     have HZ := Lib.hid (or_star (steps_lt a b' k) sb')
     have HW := Lib.hid (show rangeS val lo hi s.data.toList = some (steps a b' k ||| (if sb' then 9223372036854775808 else 0)) by rw [HY.out, bitsOf, if_neg x1, if_neg x2, if_neg x3, if_neg x4])
     clear HY x4
     go_wp2_with (go_at_call 174; go_must (refine (getBits_any a b' k (by omega) (by omega) hk1 hk _).mono ?_); rintro e w' ⟨rfl, rfl⟩)
     go_ret2
     rw [HW.out]
     exact ⟨by show Ending.returned (.tuple #[.int .u64 (bits .or .u64 (steps a b' k : Int) (starBits sb')), .nilIface]) = _; rw [HZ.out], hB4⟩
end Go.Proofs.YtmecbmgfacpecaaGreatDoor.Cron
namespace Go.Proofs.YtmecbmgfacpecaaGreatDoor.Text
open Go Go.Lib
set_option linter.unusedVariables false
theorem splitL_skip {c : UInt8} : ∀ (u r : List UInt8), (∀ x ∈ u, x ≠ c) → splitL c (u ++ r) = consHead u (splitL c r)
 | [], r, _ => (consHead_nil (splitL_ne c r)).symm
 | x :: u, r, h => by
  rw [List.cons_append, splitL_cons_ne _ (h x (by simp)), splitL_skip u r fun y hy => h y (by simp [hy])]
  cases splitL c r with
  | nil => rfl
  | cons a t => rfl
theorem splitL_plain {c : UInt8} (u : List UInt8) (h : ∀ x ∈ u, x ≠ c) : splitL c u = [u] := by
 have := splitL_skip u [] h
 rw [List.append_nil] at this
 rw [this]
 simp [splitL, consHead]
theorem splitL_part {c : UInt8} (u r : List UInt8) (h : ∀ x ∈ u, x ≠ c) : splitL c (u ++ c :: r) = u :: splitL c r := by
 rw [splitL_skip u _ h, splitL_cons_eq]
 simp [consHead]
def partsL (c : UInt8) (l : List UInt8) : List (List UInt8) := (splitL c l).filter (· ≠ [])
theorem u8_eq {x y : UInt8} (h : x.toNat = y.toNat) : x = y := UInt8.toNat_inj.1 h
theorem dec_at (c : UInt8) (hc : c.toNat < 128) (s : ByteArray) (pos : Nat) (h : pos < s.size) :
  (s.data.toList[pos]? = some c → Utf8.decode s pos = (c.toNat, 1)) ∧
  (s.data.toList[pos]? ≠ some c → (Utf8.decode s pos).1 ≠ c.toNat ∧ ∀ x ∈ (s.data.toList.drop pos).take (Utf8.decode s pos).2, x ≠ c) := by
 rw [decode_N]
 have hl : pos < s.data.toList.length := by rw [← size_list]; exact h
 generalize s.data.toList = l at *
 have g0 : l.getD pos 0 = l[pos] := by simp [List.getD, hl]
 constructor
 ·intro e
  rw [List.getElem?_eq_getElem hl] at e
  injection e with e
  rw [g0, e, decodeN_ascii _ _ _ _ _ hc]
 ·intro e
  rw [List.getElem?_eq_getElem hl] at e
  have e' : l[pos] ≠ c := fun h => e (by rw [h])
  have en : (l.getD pos 0).toNat ≠ c.toNat := by rw [g0]; exact fun h => e' (u8_eq h)
  have hw := decodeN_conts (l.length - pos) (l.getD pos 0).toNat (l.getD (pos + 1) 0).toNat (l.getD (pos + 2) 0).toNat (l.getD (pos + 3) 0).toNat
  refine ⟨?_, ?_⟩
  ·rcases decodeN_cases (l.length - pos) (l.getD pos 0).toNat (l.getD (pos + 1) 0).toNat (l.getD (pos + 2) 0).toNat (l.getD (pos + 3) 0).toNat with ⟨_, q⟩ | ⟨_, _, _, _, q⟩ | ⟨_, _, _, _, _, q⟩ | ⟨q, _⟩ | q
   ·rw [q]; exact en
   ·rw [q]; dsimp only; omega
   ·rw [q]; dsimp only; omega
   ·generalize (decodeN (l.length - pos) (l.getD pos 0).toNat (l.getD (pos + 1) 0).toNat (l.getD (pos + 2) 0).toNat (l.getD (pos + 3) 0).toNat).1 = X at q ⊢
    omega
   ·rw [q]; dsimp only; omega
  ·obtain ⟨w2, w3, w4, w5⟩ := hw
   generalize (decodeN (l.length - pos) (l.getD pos 0).toNat (l.getD (pos + 1) 0).toNat (l.getD (pos + 2) 0).toNat (l.getD (pos + 3) 0).toNat).2 = k at w2 w3 w4 w5 ⊢
   intro x hx hxc
   rw [List.mem_take_iff_getElem] at hx
   obtain ⟨j, hj, hjx⟩ := hx
   have hj' : j < k := by omega
   have hx2 : (l.getD (pos + j) 0) = x := by
    rw [List.getElem_drop] at hjx
    rw [← hjx]
    rw [List.length_drop] at hj
    simp only [List.getD]
    rw [List.getElem?_eq_getElem (by omega)]
    rfl
   have hxn : (l.getD (pos + j) 0).toNat = c.toNat := by rw [hx2, hxc]
   match j, hj' with
   | 0, _ => exact en (by simpa using hxn)
   | 1, _ => have := w2 (by omega); omega
   | 2, _ => have := w3 (by omega); omega
   | 3, _ => have := w4 (by omega); omega
   | j + 4, _ => omega
def spanBa (s : ByteArray) (x : Nat × Nat) : ByteArray := s.extract x.1 x.2
theorem drop_at {l : List UInt8} {n : Nat} {c : UInt8} (h : l[n]? = some c) : l.drop n = c :: l.drop (n + 1) := by
 obtain ⟨h1, h2⟩ := List.getElem?_eq_some_iff.1 h
 rw [List.drop_eq_getElem_cons h1, h2]
theorem spans_is (c : UInt8) (hc : c.toNat < 128) (s : ByteArray) : ∀ (f pos : Nat) (st : Option Nat) (acc : List (Nat × Nat)), s.size ≤ f + pos →
  (∀ a, st = some a → a < pos ∧ ∀ x ∈ (s.data.toList.take pos).drop a, x ≠ c) → pos ≤ s.size →
  (closeSpans s (spansFromP (fun r => r == c.toNat) s f pos st acc)).map (spanBa s) = acc.map (spanBa s) ++ (partsL c (s.data.toList.drop (st.getD pos))).map ba
 | f, pos, st, acc, hf, hst, hp => by
  have hsz := size_list s
  by_cases hlt : pos < s.size
  rotate_left
  ·have hpe : pos = s.size := by omega
   rw [spansFromP_end _ _ _ _ _ _ hlt]
   cases st with
   | none =>
    simp only [closeSpans, Option.getD_none]
    rw [List.drop_eq_nil_of_le (by omega)]
    simp [partsL, splitL]
   | some a =>
    obtain ⟨ha, hno⟩ := hst a rfl
    simp only [closeSpans, Option.getD_some]
    have e1 : (s.data.toList.take pos).drop a = s.data.toList.drop a := by rw [List.take_of_length_le (by omega)]
    rw [e1] at hno
    rw [partsL, splitL_plain _ hno]
    have hne : s.data.toList.drop a ≠ [] := by
     intro h0
     have := congrArg List.length h0
     rw [List.length_drop] at this
     simp at this
     omega
    simp only [List.map_append, List.map_cons, List.map_nil, spanBa, extract_ba]
    rw [List.filter_cons_of_pos (by simpa using hne)]
    simp only [List.filter_nil, List.map_cons, List.map_nil]
    rw [List.take_of_length_le (by omega)]
  ·cases f with
   | zero => omega
   | succ f =>
    have hd := dec_at c hc s pos hlt
    have hw := Lib.width_pos s pos
    have hw2 : (Utf8.decode s pos).2 ≤ s.size - pos := by
     rw [decode_N]
     have hx := decodeN_conts (s.data.toList.length - pos) (s.data.toList.getD pos 0).toNat (s.data.toList.getD (pos + 1) 0).toNat (s.data.toList.getD (pos + 2) 0).toNat (s.data.toList.getD (pos + 3) 0).toNat
     obtain ⟨x1, x2, x3, x4⟩ := hx
     generalize (decodeN (s.data.toList.length - pos) (s.data.toList.getD pos 0).toNat (s.data.toList.getD (pos + 1) 0).toNat (s.data.toList.getD (pos + 2) 0).toNat (s.data.toList.getD (pos + 3) 0).toNat).2 = k at *
     by_cases h4 : 4 ≤ k
     ·have := (x3 h4).2; omega
     ·by_cases h3 : 3 ≤ k
      ·have := (x2 h3).2; omega
      ·by_cases h2 : 2 ≤ k
       ·have := (x1 h2).2; omega
       ·omega
    unfold spansFromP
    rw [if_pos hlt]
    by_cases hb : s.data.toList[pos]? = some c
    ·rw [hd.1 hb]
     simp only [beq_self_eq_true, if_true]
     have hdr := drop_at hb
     cases st with
     | none =>
      dsimp only
      rw [spans_is c hc s f (pos + 1) none acc (by omega) (by simp) (by omega)]
      simp only [Option.getD_none]
      rw [hdr, partsL, partsL, splitL_cons_eq, List.filter_cons_of_neg (by simp)]
     | some a =>
      obtain ⟨ha, hno⟩ := hst a rfl
      dsimp only
      rw [spans_is c hc s f (pos + 1) none _ (by omega) (by simp) (by omega)]
      simp only [Option.getD_none, Option.getD_some]
      have e2 : s.data.toList.drop a = (s.data.toList.take pos).drop a ++ c :: s.data.toList.drop (pos + 1) := by
       rw [← hdr, List.drop_take]
       have := (List.take_append_drop (pos - a) (s.data.toList.drop a)).symm
       rw [List.drop_drop, show a + (pos - a) = pos by omega] at this
       exact this
      have hne : (s.data.toList.take pos).drop a ≠ [] := by
       intro h0
       have := congrArg List.length h0
       rw [List.length_drop, List.length_take] at this
       simp at this
       omega
      rw [e2, partsL, partsL, splitL_part _ _ hno, List.filter_cons_of_pos (by simpa using hne)]
      simp only [List.map_append, List.map_cons, List.map_nil, spanBa, extract_ba, List.append_assoc, List.singleton_append]
    ·obtain ⟨h1, h2⟩ := hd.2 hb
     rw [if_neg (by simpa using h1)]
     generalize (Utf8.decode s pos).2 = k at *
     have hrest : ∀ a, a ≤ pos → (∀ x ∈ (s.data.toList.take pos).drop a, x ≠ c) → ∀ x ∈ (s.data.toList.take (pos + k)).drop a, x ≠ c := by
      intro a ha hno x hx
      have e3 : (s.data.toList.take (pos + k)).drop a = (s.data.toList.take pos).drop a ++ (s.data.toList.drop pos).take k := by
       rw [List.take_add, List.drop_append_of_le_length (by rw [List.length_take]; omega)]
      rw [e3, List.mem_append] at hx
      rcases hx with hx | hx
      ·exact hno x hx
      ·exact h2 x hx
     cases st with
     | none =>
      dsimp only
      rw [spans_is c hc s f (pos + k) (some pos) acc (by omega) (by
       intro a ha
       injection ha with ha
       subst ha
       refine ⟨by omega, hrest _ (Nat.le_refl _) fun x hx => ?_⟩
       rw [List.drop_eq_nil_of_le (by rw [List.length_take]; omega)] at hx
       cases hx) (by omega)]
      rfl
     | some a =>
      obtain ⟨ha, hno⟩ := hst a rfl
      dsimp only
      rw [spans_is c hc s f (pos + k) (some a) acc (by omega) (by
       intro a' ha'
       injection ha' with ha'
       subst ha'
       exact ⟨by omega, hrest _ (by omega) hno⟩) (by omega)]
      rfl
theorem goFields_parts (c : UInt8) (hc : c.toNat < 128) (s : ByteArray) : goFieldsP (fun r => r == c.toNat) s = (partsL c s.data.toList).map ba := by
 have := spans_is c hc s s.size 0 none [] (by omega) (by simp) (by omega)
 simp only [List.map_nil, List.nil_append, Option.getD_none, List.drop_zero] at this
 exact this
end Go.Proofs.YtmecbmgfacpecaaGreatDoor.Text
