/- Lemmas and walks on the way to the law, merged by wip/tools/pack.py: RowArgs, Turned, Bits. Conditions: none. -/
import Derived.Test.YtbgbeohiafiacaaRows
import Derived.Test.YtbgbeohiafiacaaGrK
import Derived.WalkKit
import Derived.ProofKit
import Derived.OpenShut
import Derived.Below
import Derived.Carry
import Derived.Deep.Slices
import Derived.Deep.Fields
import Derived.ChangeSame
import Derived.Test.YtbgbeohiafiacaaGrJ
import Derived.Test.YtbgbeohiafiacaaPrA
import Derived.Laws.BitsLemmas
namespace Go.Proofs.Ytbgbeohiafiacaa.RowArgs
open Go Go.Proofs.Ytbgbeohiafiacaa Go.ChangeShapes Go.WideShapes Go.ChangeAt Go.RowKit Go.Deep Go.Proofs.Ytbgbeohiafiacaa.Cal Go.Proofs.Ytbgbeohiafiacaa.Cron
set_option linter.unusedVariables false
theorem own : ownKnob Try.prog.godebug = none := by kernel_rfl
theorem laidOut : laidOutB Try.prog = true := by kernel_rfl
theorem cells_sched : Try.prog.cellsOf 27 = 8 := by kernel_rfl
theorem cells_inst : Try.prog.cellsOf 33 = 2 := by kernel_rfl
theorem okWide_size {P : Program} {w : World} {r : Reach} {base : Nat} {t : TypeId} {v : Value} {fs : Array Field} {n : Nat} (ht : P.underlying t = some (.struct fs)) (hC : P.cellsOf t = n) (h : Value.okWide P w r base t v) : ∃ cs : Array Value, v = .agg cs ∧ cs.size = n := by
  obtain ⟨cs, h1, h2⟩ := okWide_struct ht h
  exact ⟨cs, h1, h2.trans hC⟩
theorem u64_of {n : Int} (h : (Lit.int .u64 n).wf = true) : 0 ≤ n ∧ n < 18446744073709551616 := by
  simp [Lit.wf] at h
  have h1 : IntKind.u64.min = 0 := by decide
  have h2 : IntKind.u64.max = 18446744073709551615 := by decide
  omega
theorem one_field {P : Program} {fs : Array Field} (hone : oneCellFields P fs = true) (cs : List Value) (j : Nat) (f : Field) (hj : fs[j]? = some f) (v : Value) (hv : cs[j]? = some v) : (cs.drop f.offset).take (P.cellsOf f.type) = [v] := by
  obtain ⟨ho, hk⟩ := hone_of hone j f hj
  rw [ho, hk]
  have hl : j < cs.length := (List.getElem?_eq_some_iff.1 hv).1
  rw [List.drop_eq_getElem_cons hl]
  simp [(List.getElem?_eq_some_iff.1 hv).2]
theorem at_field {H : Type} {enc : TypeId × Value → H} {P : Program} {w : World} {base n : Nat} {spare : Nat → Bool} {held : Bool} {t : TypeId} {fs : Array Field} {cs : List Value} {xs : List (DataW H × List MemPlace)} (hs : P.underlying t = some (.struct fs)) (hone : oneCellFields P fs = true)
    (hg : ∀ (j : Nat) (f : Field), fs[j]? = some f → DataW.trod enc P w base spare held n f.type ((cs.drop f.offset).take (P.cellsOf f.type)) = xs[j]?) (j : Nat) (f : Field) (v : Value) (hj : fs[j]? = some f) (hv : cs[j]? = some v) :
    DataW.trod enc P w base spare held n f.type [v] = xs[j]? := by
  have := hg j f hj
  rw [one_field hone cs j f hj v hv] at this
  exact this
set_option maxRecDepth 100000 in
theorem open_inst {H : Type} {enc : TypeId × Value → H} {w W : World} {spare : Nat → Bool} {held : Bool} {base b2 : Nat} {r : Reach} {v : Value} {d : DataW H} {p : List MemPlace} (hv : Value.okWide Try.prog W r b2 33 v)
    (h : DataW.Trod enc Try.prog w base spare held 33 v d p) : ∃ sec nano : Int, v = .agg #[.int .i64 sec, .int .i64 nano] := by
  obtain ⟨cs, rfl, hsz⟩ := okWide_size Try.underlying33 cells_inst hv
  obtain ⟨l⟩ := cs
  match l, hsz with
  | [c0, c1], _ =>
    obtain ⟨fuel, hf⟩ := h
    obtain ⟨xs, n, _, hx, _, hlen, hg⟩ := DataW.trod_struct Try.underlying33 hf
    have g0 := at_field Try.underlying33 (by kernel_rfl) hg 0 _ c0 rfl rfl
    have g1 := at_field Try.underlying33 (by kernel_rfl) hg 1 _ c1 rfl rfl
    match xs, hlen with
    | [y0, y1], _ =>
      obtain ⟨a0, e0, -⟩ := DataW.trod_int Try.underlying2 (g0.trans rfl)
      obtain ⟨a1, e1, -⟩ := DataW.trod_int Try.underlying3 (g1.trans rfl)
      simp only [List.cons.injEq, and_true] at e0 e1
      subst e0 e1
      exact ⟨a0, a1, rfl⟩
set_option maxRecDepth 100000 in
theorem open_sched {H : Type} {enc : TypeId × Value → H} {w W : World} {spare : Nat → Bool} {held : Bool} {base b2 : Nat} {r : Reach} {v : Value} {d : DataW H} {p : List MemPlace} (hv : Value.okWide Try.prog W r b2 27 v)
    (h : DataW.Trod enc Try.prog w base spare held 27 v d p) : ∃ (ev : Bool) (dl : Int) (S : Sets), S.ok ∧ v = .agg (schedC ev dl S) := by
  obtain ⟨cs, rfl, hsz⟩ := okWide_size Try.underlying27 cells_sched hv
  obtain ⟨l⟩ := cs
  match l, hsz with
  | [c0, c1, c2, c3, c4, c5, c6, c7], _ =>
    obtain ⟨fuel, hf⟩ := h
    obtain ⟨xs, n, _, hx, _, hlen, hg⟩ := DataW.trod_struct Try.underlying27 hf
    have g0 := at_field Try.underlying27 (by kernel_rfl) hg 0 _ c0 rfl rfl
    have g1 := at_field Try.underlying27 (by kernel_rfl) hg 1 _ c1 rfl rfl
    have g2 := at_field Try.underlying27 (by kernel_rfl) hg 2 _ c2 rfl rfl
    have g3 := at_field Try.underlying27 (by kernel_rfl) hg 3 _ c3 rfl rfl
    have g4 := at_field Try.underlying27 (by kernel_rfl) hg 4 _ c4 rfl rfl
    have g5 := at_field Try.underlying27 (by kernel_rfl) hg 5 _ c5 rfl rfl
    have g6 := at_field Try.underlying27 (by kernel_rfl) hg 6 _ c6 rfl rfl
    have g7 := at_field Try.underlying27 (by kernel_rfl) hg 7 _ c7 rfl rfl
    match xs, hlen with
    | [y0, y1, y2, y3, y4, y5, y6, y7], _ =>
      obtain ⟨a0, e0, -⟩ := DataW.trod_bool Try.underlying4 (g0.trans rfl)
      obtain ⟨a1, e1, -⟩ := DataW.trod_int Try.underlying2 (g1.trans rfl)
      obtain ⟨a2, e2, -, k2⟩ := DataW.trod_int Try.underlying25 (g2.trans rfl)
      obtain ⟨a3, e3, -, k3⟩ := DataW.trod_int Try.underlying25 (g3.trans rfl)
      obtain ⟨a4, e4, -, k4⟩ := DataW.trod_int Try.underlying25 (g4.trans rfl)
      obtain ⟨a5, e5, -, k5⟩ := DataW.trod_int Try.underlying25 (g5.trans rfl)
      obtain ⟨a6, e6, -, k6⟩ := DataW.trod_int Try.underlying25 (g6.trans rfl)
      obtain ⟨a7, e7, -, k7⟩ := DataW.trod_int Try.underlying25 (g7.trans rfl)
      simp only [List.cons.injEq, and_true] at e0 e1 e2 e3 e4 e5 e6 e7
      subst e0 e1 e2 e3 e4 e5 e6 e7
      have k2 := u64_of k2
      have k3 := u64_of k3
      have k4 := u64_of k4
      have k5 := u64_of k5
      have k6 := u64_of k6
      have k7 := u64_of k7
      refine ⟨a0, a1, ⟨a2.toNat, a3.toNat, a4.toNat, a5.toNat, a6.toNat, a7.toNat⟩, ⟨by show a2.toNat < _; omega, by show a3.toNat < _; omega, by show a4.toNat < _; omega, by show a5.toNat < _; omega, by show a6.toNat < _; omega, by show a7.toNat < _; omega⟩, ?_⟩
      unfold schedC
      rw [Int.toNat_of_nonneg k2.1, Int.toNat_of_nonneg k3.1, Int.toNat_of_nonneg k4.1, Int.toNat_of_nonneg k5.1, Int.toNat_of_nonneg k6.1, Int.toNat_of_nonneg k7.1]
end Go.Proofs.Ytbgbeohiafiacaa.RowArgs

namespace Go.Proofs.Ytbgbeohiafiacaa.Cron
open Go Go.RowKit Go.Proofs.YtbgbeohiafiacaaW.PrintWords Go.Proofs.YtbgbeohiafiacaaW.PrintLast Go.Proofs.YtbgbeohiafiacaaW.PrintMore Go.Proofs.Ytbgbeohiafiacaa.Cal Go.Proofs.Ytbgbeohiafiacaa.Pr
set_option linter.unusedVariables false
set_option linter.unusedSimpArgs false

def accT (b : Nat) (p : Int) : Nat → Nat
  | 0 => b &&& 2 ^ 63
  | i + 1 => if b.testBit i = true then accT b p i ||| 2 ^ (((i : Int) + p) % 24).toNat else accT b p i
theorem accT_lt {b : Nat} (hb : b < 2 ^ 64) (p : Int) : ∀ i, accT b p i < 2 ^ 64
  | 0 => Nat.lt_of_le_of_lt Nat.and_le_left hb
  | i + 1 => by
    have := accT_lt hb p i
    unfold accT
    split
    · exact Nat.or_lt_two_pow this (Nat.pow_lt_pow_right (by omega) (by omega))
    · exact this
theorem accT_bit (b : Nat) (p : Int) (u : Nat) (hu : u < 24) : ∀ i, (accT b p i).testBit u = true ↔ ∃ v, v < i ∧ b.testBit v = true ∧ (((v : Int) + p) % 24).toNat = u
  | 0 => by
    unfold accT
    rw [Nat.testBit_and, Nat.testBit_two_pow, show decide (63 = u) = false from decide_eq_false (by omega), Bool.and_false]
    constructor
    · intro h; cases h
    · rintro ⟨v, h, _⟩; omega
  | i + 1 => by
    have ih := accT_bit b p u hu i
    unfold accT
    split
    · rename_i hb
      rw [Nat.testBit_or, Nat.testBit_two_pow, Bool.or_eq_true, ih, decide_eq_true_eq]
      constructor
      · rintro (⟨v, h1, h2, h3⟩ | h)
        · exact ⟨v, by omega, h2, h3⟩
        · exact ⟨i, by omega, hb, h⟩
      · rintro ⟨v, h1, h2, h3⟩
        by_cases e : v = i
        · subst e; exact .inr h3
        · exact .inl ⟨v, by omega, h2, h3⟩
    · rename_i hb
      rw [ih]
      constructor
      · rintro ⟨v, h1, h2, h3⟩; exact ⟨v, by omega, h2, h3⟩
      · rintro ⟨v, h1, h2, h3⟩
        by_cases e : v = i
        · subst e; exact absurd h2 hb
        · exact ⟨v, by omega, h2, h3⟩
theorem accT_hour (b : Nat) (h v : Int) (h0 : 0 ≤ v) (h1 : v ≤ 23) : inB (accT b (-h) 24) v = inB b ((v + h) % 24) := by
  unfold inB
  rw [Bool.eq_iff_iff, accT_bit b (-h) v.toNat (by omega) 24]
  constructor
  · rintro ⟨u, u1, u2, u3⟩
    rw [show ((v + h) % 24).toNat = u by omega]
    exact u2
  · intro hb
    exact ⟨((v + h) % 24).toNat, by omega, hb, by omega⟩

theorem or_u64' {a b : Nat} (ha : a < 2 ^ 64) (hb : b < 2 ^ 64) : bits .or .u64 (a : Int) (b : Int) = ((a ||| b : Nat) : Int) := by
  have e : IntKind.u64.bits = 64 := rfl
  unfold bits
  rw [e]
  show IntKind.u64.wrap ((BitVec.ofInt 64 (a : Int) ||| BitVec.ofInt 64 (b : Int)).toNat : Int) = _
  rw [BitVec.ofInt_natCast, BitVec.ofInt_natCast, BitVec.toNat_or, BitVec.toNat_ofNat, BitVec.toNat_ofNat, Nat.mod_eq_of_lt ha, Nat.mod_eq_of_lt hb, IntKind.wrap_u64]
  have : a ||| b < 2 ^ 64 := Nat.or_lt_two_pow ha hb
  omega
theorem floorMod_f (x : Int) (h0 : -1000 ≤ x) (h1 : x ≤ 1000) : spec_floorMod.f x 24 = some (x % 24) := by
  unfold spec_floorMod.f
  rw [floorDiv_f x 24 (by omega) (by omega)]
  simp only [Option.bind_some]
  rw [w64 (x := 24 * (x / 24)) (by omega) (by omega), w64 (by omega) (by omega)]
  congr 1
  omega
theorem turned_l0 {b : Nat} (hb : b < 2 ^ 64) (p : Int) (p0 : -24 ≤ p) (p1 : p ≤ 24) : ∀ (n k i : Nat), 24 - i = n → i ≤ 24 → n < k → spec_CronTurned.l0 k b p 24 ((accT b p i : Nat) : Int) 24 i = some ((accT b p 24 : Nat) : Int) := by
  intro n
  induction n with
  | zero =>
    intro k i hn hi hk
    obtain ⟨k, rfl⟩ : ∃ j, k = j + 1 := ⟨k - 1, by omega⟩
    obtain rfl : i = 24 := by omega
    unfold spec_CronTurned.l0
    rw [if_neg (by omega)]
  | succ n ih =>
    intro k i hn hi hk
    obtain ⟨k, rfl⟩ : ∃ j, k = j + 1 := ⟨k - 1, by omega⟩
    unfold spec_CronTurned.l0
    have hs : shr .u64 (b : Int) (i : Int) = (b : Int) / 2 ^ i := by
      unfold shr
      rw [show min ((i : Int)).toNat IntKind.u64.bits = i by show min ((i : Int)).toNat 64 = i; omega]
    have hsb := shr_bit hb i
    have hw : wrap64 ((i : Int) + 1) = ((i + 1 : Nat) : Int) := by unfold wrap64; omega
    rw [if_pos (by omega), if_pos (by omega), hs, hw]
    by_cases ht : b.testBit i = true
    · rw [ht] at hsb
      rw [if_pos (by simpa using hsb)]
      have hfm : wrap64 ((i : Int) + p) = i + p := by unfold wrap64; omega
      rw [hfm, floorMod_f _ (by omega) (by omega)]
      simp only [Option.bind_some]
      rw [if_pos (by omega)]
      have hm : 0 ≤ ((i : Int) + p) % 24 ∧ ((i : Int) + p) % 24 < 24 := by omega
      have hsl : shl .u64 1 (((i : Int) + p) % 24) = ((2 ^ (((i : Int) + p) % 24).toNat : Nat) : Int) := by
        have hlt : 2 ^ (((i : Int) + p) % 24).toNat < 2 ^ 64 := Nat.pow_lt_pow_right (by omega) (by omega)
        unfold shl
        rw [show min (((i : Int) + p) % 24).toNat IntKind.u64.bits = (((i : Int) + p) % 24).toNat by show min (((i : Int) + p) % 24).toNat 64 = _; omega, Int.one_mul, IntKind.wrap_u64]
        have hc : ((2 : Int) ^ (((i : Int) + p) % 24).toNat) = ((2 ^ (((i : Int) + p) % 24).toNat : Nat) : Int) := by push_cast; rfl
        rw [hc]
        generalize 2 ^ (((i : Int) + p) % 24).toNat = q at *
        omega
      rw [hsl, or_u64' (accT_lt hb p i) (Nat.pow_lt_pow_right (by omega) (by omega))]
      have e : accT b p (i + 1) = accT b p i ||| 2 ^ (((i : Int) + p) % 24).toNat := by
        show (if b.testBit i = true then _ else _) = _
        rw [if_pos ht]
      rw [← e]
      exact ih k (i + 1) (by omega) (by omega) (by omega)
    · have ht' : b.testBit i = false := by simpa using ht
      rw [ht'] at hsb
      rw [if_neg (by simpa using hsb)]
      have e : accT b p (i + 1) = accT b p i := by
        show (if b.testBit i = true then _ else _) = _
        rw [if_neg ht]
      rw [← e]
      exact ih k (i + 1) (by omega) (by omega) (by omega)
theorem turned_any {b : Nat} (hb : b < 2 ^ 64) (h : Int) (h0 : -24 ≤ h) (h1 : h ≤ 24) (w : World) :
    Calls Try.prog 24 #[.int .i64 2, .int .u64 b, .int .i64 (-h)] w fun e w' => e = .returned (.int .u64 (accT b (-h) 24 : Nat)) ∧ Below w.heap.size w w' := by
  refine (spec_CronTurned.calls 30 2 b (-h) _ w ?_).mono fun _ _ h => ⟨h.1, drawn_below h.2⟩
  unfold spec_CronTurned.f
  rw [show spec_CronHigh.f 2 = some 23 from rfl]
  simp only [Option.bind_some]
  have ha : bits .and .u64 (b : Int) 9223372036854775808 = (accT b (-h) 0 : Nat) := and_u64 hb (show 2 ^ 63 < 2 ^ 64 by omega)
  rw [ha, show wrap64 (23 + 1) = 24 by unfold wrap64; omega]
  exact turned_l0 hb (-h) (by omega) (by omega) 24 30 0 rfl (by omega) (by omega)
end Go.Proofs.Ytbgbeohiafiacaa.Cron

namespace Go.Proofs.Ytbgbeohiafiacaa.Bits
open Go

/-- the number whose bits below n are those of which p holds -/
def mkBits (p : Nat → Bool) : Nat → Nat
  | 0 => 0
  | n + 1 => mkBits p n + if p n then 2 ^ n else 0

theorem mkBits_lt (p : Nat → Bool) (n : Nat) : mkBits p n < 2 ^ n := by
  induction n with
  | zero => simp [mkBits]
  | succ n ih =>
    unfold mkBits
    rw [Nat.pow_succ]
    split <;> omega

theorem mkBits_test (p : Nat → Bool) (n j : Nat) : (mkBits p n).testBit j = (decide (j < n) && p j) := by
  induction n with
  | zero => simp [mkBits]
  | succ n ih =>
    unfold mkBits
    have hl := mkBits_lt p n
    by_cases hp : p n = true
    · rw [if_pos hp]
      by_cases h : j = n
      · subst h
        rw [show mkBits p j + 2 ^ j = 2 ^ j + mkBits p j by omega, Nat.testBit_two_pow_add_eq, ih]
        simp [hp]
      · by_cases h2 : j < n
        · rw [show mkBits p n + 2 ^ n = 2 ^ n + mkBits p n by omega, Nat.testBit_two_pow_add_gt h2, ih]
          simp [h2, Nat.lt_succ_of_lt h2]
        · have h3 : n + 1 ≤ j := by omega
          have h4 : ¬ j < n + 1 := by omega
          rw [Nat.testBit_lt_two_pow]
          · simp [h4]
          · calc _ < 2 ^ (n + 1) := by rw [Nat.pow_succ]; omega
              _ ≤ 2 ^ j := Nat.pow_le_pow_right (by decide) h3
    · rw [if_neg hp, Nat.add_zero, ih]
      by_cases h : j = n
      · subst h; simp [hp]
      · have : (j < n) = (j < n + 1) := by apply propext; omega
        simp [this]

theorem mkBits_ext {p q : Nat → Bool} (n : Nat) (h : ∀ j, j < n → p j = q j) : mkBits p n = mkBits q n := by
  apply Nat.eq_of_testBit_eq
  intro j
  rw [mkBits_test, mkBits_test]
  by_cases hj : j < n
  · simp [hj, h j hj]
  · simp [hj]

theorem eq_mkBits {x n : Nat} {p : Nat → Bool} (hx : x < 2 ^ n) (h : ∀ j, j < n → x.testBit j = p j) : x = mkBits p n := by
  apply Nat.eq_of_testBit_eq
  intro j
  rw [mkBits_test]
  by_cases hj : j < n
  · simp [hj, h j hj]
  · have : x < 2 ^ j := Nat.lt_of_lt_of_le hx (Nat.pow_le_pow_right (by decide) (by omega))
    rw [Nat.testBit_lt_two_pow this]
    simp [hj]

theorem mkBits_or (p q : Nat → Bool) (n : Nat) : mkBits p n ||| mkBits q n = mkBits (fun j => p j || q j) n := by
  apply eq_mkBits (Nat.or_lt_two_pow (mkBits_lt _ _) (mkBits_lt _ _))
  intro j hj
  simp [mkBits_test, hj]

theorem mkBits_and (p q : Nat → Bool) (n : Nat) : mkBits p n &&& mkBits q n = mkBits (fun j => p j && q j) n := by
  apply eq_mkBits (Nat.and_lt_two_pow _ (mkBits_lt _ _))
  intro j hj
  simp [mkBits_test, hj]

theorem mkBits_xor (p q : Nat → Bool) (n : Nat) : mkBits p n ^^^ mkBits q n = mkBits (fun j => p j ^^ q j) n := by
  apply eq_mkBits (Nat.xor_lt_two_pow (mkBits_lt _ _) (mkBits_lt _ _))
  intro j hj
  simp [mkBits_test, hj]

theorem pow_mkBits (i n : Nat) (h : i < n) : 2 ^ i = mkBits (fun j => j == i) n := by
  apply eq_mkBits (Nat.pow_lt_pow_right (by decide) h)
  intro j _
  rw [Nat.testBit_two_pow]
  by_cases h : j = i
  · subst h; simp
  · have : ¬ i = j := fun e => h e.symm
    simp [h, this]

theorem pow1_mkBits (i n : Nat) (h : i ≤ n) : 2 ^ i - 1 = mkBits (fun j => decide (j < i)) n := by
  apply eq_mkBits
  · have := Nat.pow_le_pow_right (n := 2) (by decide) h
    have := Nat.two_pow_pos i
    omega
  · intro j _
    rw [Nat.testBit_two_pow_sub_one]

theorem test_of_mkBits {p : Nat → Bool} {n j : Nat} (hj : j < n) (h : p j = true) : mkBits p n ≠ 0 := by
  intro e
  have := mkBits_test p n j
  rw [e] at this
  simp [hj, h] at this

theorem wrap_u64 (n : Int) : IntKind.u64.wrap n = n % 18446744073709551616 := by simp [IntKind.wrap, IntKind.bits, IntKind.signed]

theorem wraps_u64 (n : Int) (h₀ : 0 ≤ n) (h₁ : n < 2 ^ 64) : IntKind.u64.wrap n = n := by rw [wrap_u64]; omega

theorem and_u64 {a b : Nat} (ha : a < 2 ^ 64) (hb : b < 2 ^ 64) : bits .and .u64 (a : Int) (b : Int) = ((a &&& b : Nat) : Int) :=
  (bits_nat .u64 64 (by decide) wraps_u64 a b ha hb).1

theorem or_u64 {a b : Nat} (ha : a < 2 ^ 64) (hb : b < 2 ^ 64) : bits .or .u64 (a : Int) (b : Int) = ((a ||| b : Nat) : Int) :=
  (bits_nat .u64 64 (by decide) wraps_u64 a b ha hb).2

theorem xor_u64 {a b : Nat} (ha : a < 2 ^ 64) (hb : b < 2 ^ 64) : bits .xor .u64 (a : Int) (b : Int) = ((a ^^^ b : Nat) : Int) := by
  have ha' : a % 2 ^ 64 = a := Nat.mod_eq_of_lt ha
  have hb' : b % 2 ^ 64 = b := Nat.mod_eq_of_lt hb
  have e : IntKind.u64.bits = 64 := rfl
  unfold bits
  rw [e]
  show IntKind.u64.wrap ((BitVec.ofInt 64 (a : Int) ^^^ BitVec.ofInt 64 (b : Int)).toNat : Int) = _
  rw [BitVec.ofInt_natCast, BitVec.ofInt_natCast, BitVec.toNat_xor, BitVec.toNat_ofNat, BitVec.toNat_ofNat, ha', hb']
  exact wraps_u64 _ (Int.natCast_nonneg _) (by exact_mod_cast Nat.xor_lt_two_pow ha hb)

theorem shl_one {i : Int} (h0 : 0 ≤ i) (h : i ≤ 63) : IntKind.u64.wrap (2 ^ i.toNat) = ((2 ^ i.toNat : Nat) : Int) := by
  rw [wraps_u64]
  · rw [Int.natCast_pow]; rfl
  · exact Int.pow_nonneg (by decide)
  · have : (2 : Nat) ^ i.toNat < 2 ^ 64 := Nat.pow_lt_pow_right (by decide) (by omega)
    exact_mod_cast this

theorem max_table : ∀ n, n < 65 → (18446744073709551615 * 2 ^ n) % 18446744073709551616 = mkBits (fun j => decide (n ≤ j)) 64 := by decide +kernel

theorem shl_max {i : Int} (h0 : 0 ≤ i) (h : i ≤ 64) : IntKind.u64.wrap (18446744073709551615 * 2 ^ i.toNat) = ((mkBits (fun j => decide (i.toNat ≤ j)) 64 : Nat) : Int) := by
  rw [wrap_u64, ← max_table i.toNat (by omega), Int.natCast_emod, Int.natCast_mul, Int.natCast_pow]
  rfl

theorem max_u64 : IntKind.u64.max = ((mkBits (fun _ => true) 64 : Nat) : Int) := by decide +kernel

/-- the set of lo, lo + st, lo + 2 st .. up to hi -/
def steps (lo hi st : Nat) : Nat := mkBits (fun j => decide (lo ≤ j) && decide (j ≤ hi) && ((j - lo) % st == 0)) 64

theorem steps_lt (lo hi st : Nat) : steps lo hi st < 2 ^ 64 := mkBits_lt _ _

/-- what the loop has collected ahead of i -/
def below (lo i st : Nat) : Nat := mkBits (fun j => decide (lo ≤ j) && decide (j < i) && ((j - lo) % st == 0)) 64

theorem below_lt (lo i st : Nat) : below lo i st < 2 ^ 64 := mkBits_lt _ _

theorem below_start (lo st : Nat) : below lo lo st = 0 := by
  unfold below
  rw [mkBits_ext (q := fun _ => false)]
  · decide
  · intro j _
    by_cases h : lo ≤ j
    · have : ¬ j < lo := by omega
      simp [this]
    · simp [h]

theorem below_step {lo i st : Nat} (m : Nat) (hi : i = lo + m * st) (hs : 1 ≤ st) (h63 : i ≤ 63) : below lo i st ||| 2 ^ i = below lo (i + st) st := by
  unfold below
  rw [pow_mkBits i 64 (by omega), mkBits_or]
  apply mkBits_ext
  intro j _
  by_cases h1 : j < i
  · have h2 : j < i + st := by omega
    have h3 : (j == i) = false := by simp; omega
    simp [h1, h2, h3]
  · by_cases h2 : j = i
    · subst h2
      have : (j - lo) % st = 0 := by rw [hi]; simp
      simp [this]
      omega
    · have h3 : (j == i) = false := by simpa using h2
      rw [h3, Bool.or_false]
      by_cases h4 : j < i + st
      · have h5 : (j - lo) % st = j - i := by
          have : j - lo = st * m + (j - i) := by rw [Nat.mul_comm]; omega
          rw [this, Nat.mul_add_mod]
          exact Nat.mod_eq_of_lt (by omega)
        have h6 : ((j - lo) % st == 0) = false := by rw [h5]; simp; omega
        simp [h6]
      · simp [h1, h4]

theorem below_end {lo i hi st : Nat} (m : Nat) (hm : i = lo + m * st) (h : hi < i) (hp : i ≤ hi + st) (hlo : lo ≤ hi) : below lo i st = steps lo hi st := by
  unfold below steps
  apply mkBits_ext
  intro j _
  by_cases h1 : j ≤ hi
  · have : j < i := by omega
    simp [h1, this]
  · by_cases h2 : j < i
    · have h6 : ((j - lo) % st == 0) = false := by
        simp
        intro e
        obtain ⟨q, hq⟩ := Nat.dvd_of_mod_eq_zero e
        -- lo + q st = j, hi < j < lo + m st, so q < m, so j ≤ i - st ≤ hi
        have hj : j = lo + st * q := by omega
        have : q < m := by
          apply Nat.lt_of_not_le
          intro hmq
          have := Nat.mul_le_mul_left st hmq
          rw [Nat.mul_comm m st] at hm
          omega
        have h7 := Nat.mul_le_mul_left st (show q + 1 ≤ m from this)
        rw [Nat.mul_add, Nat.mul_one] at h7
        rw [Nat.mul_comm m st] at hm
        omega
      simp [h6]
    · simp [h1, h2]

theorem steps_one (lo hi : Nat) (h : hi ≤ 63) : bits .and .u64 (bits .xor .u64 IntKind.u64.max (IntKind.u64.wrap (18446744073709551615 * 2 ^ ((hi : Int) + 1).toNat))) (IntKind.u64.wrap (18446744073709551615 * 2 ^ (lo : Int).toNat)) = (steps lo hi 1 : Int) ∨ 64 < lo := by
  by_cases hl : lo ≤ 64
  · left
    rw [shl_max (by omega) (by omega), shl_max (by omega) (by omega), max_u64, xor_u64 (mkBits_lt _ _) (mkBits_lt _ _), mkBits_xor, and_u64 (mkBits_lt _ _) (mkBits_lt _ _), mkBits_and]
    congr 1
    apply mkBits_ext
    intro j _
    by_cases a : lo ≤ j <;> by_cases b : j ≤ hi
    · have h1 : j < hi + 1 := by omega
      simp [a, b, h1, Nat.mod_one]
    · have h1 : hi + 1 ≤ j := by omega
      simp [a, b]; omega
    · simp [a]
    · simp [a]
  · right; omega

theorem steps_ne {lo hi st : Nat} (h : lo ≤ hi) (hh : hi ≤ 63) : steps lo hi st ≠ 0 :=
  test_of_mkBits (j := lo) (by omega) (by simp [h])

theorem steps_cut {lo mid hi st : Nat} (h : mid ≤ hi) (hh : hi ≤ 62) : steps lo mid st = steps lo hi st &&& (2 ^ (mid + 1) - 1) := by
  unfold steps
  rw [pow1_mkBits (mid + 1) 64 (by omega), mkBits_and]
  apply mkBits_ext
  intro j _
  by_cases a : j ≤ mid
  · have b : j ≤ hi := by omega
    have c : j < mid + 1 := by omega
    simp [a, b, c]
  · have c : ¬ j < mid + 1 := by omega
    simp [a, c]

end Go.Proofs.Ytbgbeohiafiacaa.Bits
