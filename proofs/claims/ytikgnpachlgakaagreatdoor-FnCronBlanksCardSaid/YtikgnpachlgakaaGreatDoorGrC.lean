/- Lemmas and walks on the way to the law, merged by wip/tools/pack.py: Range, GetBits, GetRange. Conditions: none. -/
import Derived.Test.YtikgnpachlgakaaGreatDoorGrB
import Derived.Test.YtikgnpachlgakaaGreatDoorGrA
import Derived.Test.YtikgnpachlgakaaGreatDoorProg
import Derived.WalkKit
import Derived.OwnWalk
import Derived.Lib.Hide
import Derived.Outline
import Derived.Deep.DeepCutAuto
import Derived.Deep.QuietTactic
import Derived.Deep.RegionWith
import Derived.Deep.DeepMust
import Derived.BigQuiet
namespace Go.Proofs.YtikgnpachlgakaaGreatDoor.Cron
open Go Go.Proofs.YtikgnpachlgakaaGreatDoor.Text Go.Proofs.YtikgnpachlgakaaGreatDoor.Bits

/-- the ends of an item that is no star -/
def endsRest (val : List UInt8 → Option Nat) : Option Nat → List (List UInt8) → Option (Nat × Nat × Bool)
  | none, _ => none
  | some a, [] => some (a, a, false)
  | some a, [e2] => match val e2 with
    | none => none
    | some b => some (a, b, false)
  | some _, _ => none

/-- the ends of an item, and whether it is a star -/
def ends (val : List UInt8 → Option Nat) (lo hi : Nat) : List (List UInt8) → Option (Nat × Nat × Bool)
  | [] => none
  | e :: r => if e = [42] ∨ e = [63] then some (lo, hi, true) else endsRest val (val e) r

/-- the mark of a star -/
def starBits (b : Bool) : Int := if b then 9223372036854775808 else 0

def StarIs (st : Bool) (q : List UInt8) : Prop := st = true ↔ q = [42] ∨ q = [63]

/-- the step, the last value and whether the star stays -/
def stepOf (hi : Nat) (single : Bool) (b : Nat) (star : Bool) : List (List UInt8) → Option (Nat × Nat × Bool)
  | [] => some (1, b, star)
  | [t] => match mp t with
    | none => none
    | some k => some (k, if single then hi else b, if 1 < k then false else star)
  | _ => none

/-- the bits of an item -/
def bitsOf (lo hi a b k : Nat) (star : Bool) : Option Nat :=
  if a < lo then none else if hi < b then none else if b < a then none else if k = 0 then none
  else some (steps a b k ||| (if star then 9223372036854775808 else 0))

/-- what follows when the ends are known -/
def rangeFin (lo hi : Nat) (single : Bool) (a b : Nat) (star : Bool) (ps : List (List UInt8)) : Option Nat :=
  match stepOf hi single b star ps with
  | none => none
  | some (k, b', star') => bitsOf lo hi a b' k star'

def rangeS (val : List UInt8 → Option Nat) (lo hi : Nat) (s : List UInt8) : Option Nat :=
  match splitL 47 s with
  | [] => none
  | p :: ps =>
    match ends val lo hi (splitL 45 p) with
    | none => none
    | some (a, b, star) => rangeFin lo hi ((splitL 45 p).length == 1) a b star ps

theorem rangeS_none {val : List UInt8 → Option Nat} {lo hi : Nat} {s p q : List UInt8} {ps qs : List (List UInt8)} (h1 : splitL 47 s = p :: ps) (h2 : splitL 45 p = q :: qs) (h3 : ends val lo hi (q :: qs) = none) : rangeS val lo hi s = none := by
  unfold rangeS
  rw [h1]
  simp only
  rw [h2, h3]

theorem rangeS_some {val : List UInt8 → Option Nat} {lo hi a b : Nat} {st : Bool} {s p q : List UInt8} {ps qs : List (List UInt8)} (h1 : splitL 47 s = p :: ps) (h2 : splitL 45 p = q :: qs) (h3 : ends val lo hi (q :: qs) = some (a, b, st)) : rangeS val lo hi s = rangeFin lo hi ((q :: qs).length == 1) a b st ps := by
  unfold rangeS
  rw [h1]
  simp only
  rw [h2, h3]

theorem fin_none {lo hi a b : Nat} {sg st : Bool} {ps : List (List UInt8)} (h : stepOf hi sg b st ps = none) : rangeFin lo hi sg a b st ps = none := by unfold rangeFin; rw [h]
theorem fin_some {lo hi a b k b' : Nat} {sg st st' : Bool} {ps : List (List UInt8)} (h : stepOf hi sg b st ps = some (k, b', st')) : rangeFin lo hi sg a b st ps = bitsOf lo hi a b' k st' := by unfold rangeFin; rw [h]

theorem starBits_nat (b : Bool) : starBits b = ((if b then 9223372036854775808 else 0 : Nat) : Int) := by cases b <;> rfl
theorem starBits_false : starBits false = 0 := rfl
theorem or_star {n : Nat} (h : n < 2 ^ 64) (b : Bool) : bits .or .u64 (n : Int) (starBits b) = ((n ||| (if b then 9223372036854775808 else 0) : Nat) : Int) := by
  rw [starBits_nat]
  exact or_u64 h (by cases b <;> decide)

theorem ends_star {val : List UInt8 → Option Nat} {lo hi : Nat} {q : List UInt8} (qs : List (List UInt8)) (h : q = [42] ∨ q = [63]) : ends val lo hi (q :: qs) = some (lo, hi, true) := by
  simp only [ends]; rw [if_pos h]

theorem ends_else {val : List UInt8 → Option Nat} {lo hi : Nat} {q : List UInt8} (qs : List (List UInt8)) (h : ¬ (q = [42] ∨ q = [63])) : ends val lo hi (q :: qs) = endsRest val (val q) qs := by
  simp only [ends]; rw [if_neg h]

theorem ends_true {val : List UInt8 → Option Nat} {lo hi : Nat} {q : List UInt8} (qs : List (List UInt8)) (h : StarIs true q) : ends val lo hi (q :: qs) = some (lo, hi, true) :=
  ends_star qs (h.1 rfl)

theorem ends_false {val : List UInt8 → Option Nat} {lo hi : Nat} {q : List UInt8} (qs : List (List UInt8)) (h : StarIs false q) : ends val lo hi (q :: qs) = endsRest val (val q) qs :=
  ends_else qs (fun e => by have := h.2 e; cases this)

theorem eq42 {q : List UInt8} : ((ba q).toList == [42]) = decide (q = [42]) := by rw [toList_data, ba_list]; exact Bool.eq_iff_iff.2 ⟨fun h => decide_eq_true (eq_of_beq h), fun h => beq_iff_eq.2 (of_decide_eq_true h)⟩
theorem eq63 {q : List UInt8} : ((ba q).toList == [63]) = decide (q = [63]) := by rw [toList_data, ba_list]; exact Bool.eq_iff_iff.2 ⟨fun h => decide_eq_true (eq_of_beq h), fun h => beq_iff_eq.2 (of_decide_eq_true h)⟩
theorem eq42_true {q : List UInt8} (h : q = [42]) : ((ba q).toList == [42]) = true := by rw [eq42]; exact decide_eq_true h
theorem eq42_false {q : List UInt8} (h : ¬ q = [42]) : ((ba q).toList == [42]) = false := by rw [eq42]; exact decide_eq_false h
theorem eq63_true {q : List UInt8} (h : q = [63]) : ((ba q).toList == [63]) = true := by rw [eq63]; exact decide_eq_true h
theorem eq63_false {q : List UInt8} (h : ¬ q = [63]) : ((ba q).toList == [63]) = false := by rw [eq63]; exact decide_eq_false h

end Go.Proofs.YtikgnpachlgakaaGreatDoor.Cron

namespace Go.Proofs.YtikgnpachlgakaaGreatDoor.Cron
open Go Go.RowKit Go.Proofs.YtikgnpachlgakaaGreatDoor.Bits
set_option linter.unusedVariables false

theorem int_eq {k : IntKind} {a b : Int} (h : a = b) : Ending.returned (.int k a) = .returned (.int k b) := by rw [h]

theorem getBits_one (lo hi : Nat) (h : lo ≤ hi) (hh : hi ≤ 63) (w : World) :
    Calls Tryz.prog 66 #[.int .u64 lo, .int .u64 hi, .int .u64 1] w fun e w' => e = .returned (.int .u64 (steps lo hi 1)) ∧ w = w' := by
  have hs := Lib.hid (steps_one lo hi hh)
  go_enter Tryz.func66, Tryz.ntmps66
  go_wp2
  go_ret
  refine ⟨int_eq ?_, rfl⟩
  rcases hs.out with e | e
  · exact e
  · omega

theorem getBits_more (lo hi st : Nat) (h : lo ≤ hi) (hh : hi ≤ 63) (h2 : 2 ≤ st) (h3 : st ≤ 9223372036854775807) (w : World) :
    Calls Tryz.prog 66 #[.int .u64 lo, .int .u64 hi, .int .u64 st] w fun e w' => e = .returned (.int .u64 (steps lo hi st)) ∧ w = w' := by
  have hne : ((st : Int) == 1) = false := by simp; omega
  go_enter Tryz.func66, Tryz.ntmps66
  go_wp2
  go_loop [7, 8] (fun b i => ∃ n m : Nat, i = .int .u64 n ∧ b = .int .u64 (below lo n st) ∧ Hid (n = lo + m * st) ∧ lo ≤ n ∧ n ≤ hi + st) (fun _ i => hi + st + 1 - (intOf i).toNat)
  case atStart => exact ⟨lo, 0, rfl, by rw [below_start]; rfl, Lib.hid (by simp), by omega, by omega⟩
  case round =>
    obtain ⟨n, m, rfl, rfl, hn, hl, hu⟩ := hrel
    have hb := below_lt lo n st
    by_cases hle : n ≤ hi
    · have hstep := Lib.hid (below_step m hn.out (by omega) (show n ≤ 63 by omega))
      have hor : bits .or .u64 (below lo n st : Int) (IntKind.u64.wrap (2 ^ n)) = (below lo (n + st) st : Int) := by
        rw [show IntKind.u64.wrap (2 ^ n) = ((2 ^ n : Nat) : Int) from shl_one (i := (n : Int)) (by omega) (by omega), or_u64 hb (Nat.pow_lt_pow_right (by decide) (by omega)), hstep.out]
      go_wp2
      go_round
      case rel =>
        refine ⟨n + st, m + 1, by go_num, ?_, Lib.hid ?_, by omega, by omega⟩
        · rfl
        · have := hn.out; rw [Nat.add_mul]; omega
      case measure => simp [intOf]; omega
    · have hend := Lib.hid (below_end m hn.out (show hi < n by omega) hu h)
      go_wp2
      go_ret
      exact ⟨int_eq (by rw [hend.out]), rfl⟩

theorem getBits_any (lo hi st : Nat) (h : lo ≤ hi) (hh : hi ≤ 63) (h2 : 1 ≤ st) (h3 : st ≤ 9223372036854775807) (w : World) :
    Calls Tryz.prog 66 #[.int .u64 lo, .int .u64 hi, .int .u64 st] w fun e w' => e = .returned (.int .u64 (steps lo hi st)) ∧ w = w' := by
  by_cases e : st = 1
  · subst e; exact getBits_one lo hi h hh w
  · exact getBits_more lo hi st h hh (by omega) h3 w



end Go.Proofs.YtikgnpachlgakaaGreatDoor.Cron

namespace Go.Proofs.YtikgnpachlgakaaGreatDoor.Cron
open Go Go.RowKit Go.Proofs.YtikgnpachlgakaaGreatDoor.Text Go.Proofs.YtikgnpachlgakaaGreatDoor.Bits
set_option linter.unusedVariables false

def Answers (w : World) (r : Option Nat) (e : Ending) (w' : World) : Prop :=
  (match r with
    | some b => e = .returned (.tuple #[.int .u64 b, .nilIface])
    | none => ∃ t x, e = .returned (.tuple #[.int .u64 0, .iface t x])) ∧ Below w.heap.size w w'

/-- a way to read values: what parseIntOrName answers with these names -/
structure Reads (m : Option Nat) (val : List UInt8 → Option Nat) (Inv : World → Prop) : Prop where
  keeps : ∀ {w w' : World}, Inv w → Below w.heap.size w w' → Inv w'
  g : ∀ {w : World}, Inv w → G w
  le : ∀ {l n}, val l = some n → n ≤ 9223372036854775807
  calls : ∀ (s : ByteArray) (w : World), s.size ≤ 4294967296 → Inv w → Calls Tryz.prog 72 #[.string s, .map m] w (Answers w (val s.data.toList))

/-- what a reading of a value leaves in two slots -/
def Slots (r : Option Nat) (v e : Value) : Prop :=
  match r with
  | some n => v = .int .u64 n ∧ e = .nilIface
  | none => v = .int .u64 0 ∧ ∃ t x, e = .iface t x

theorem answers_cases {w : World} {r : Option Nat} {e : Ending} {w' : World} (h : Answers w r e w') : ∃ v x, e = .returned (.tuple #[v, x]) ∧ Hid (Slots r v x) ∧ Below w.heap.size w w' := by
  obtain ⟨h, hb⟩ := h
  cases r with
  | none => obtain ⟨t, x, rfl⟩ := h; exact ⟨_, _, rfl, Lib.hid ⟨rfl, t, x, rfl⟩, hb⟩
  | some n => subst h; exact ⟨_, _, rfl, Lib.hid ⟨rfl, rfl⟩, hb⟩

theorem list_of_ba {s : ByteArray} {l : List UInt8} (h : s.data.toList = l) : s = ba l := by rw [← h, ba_of]

set_option maxRecDepth 100000 in
set_option maxHeartbeats 1600000 in
theorem rangeA (m : Option Nat) (val : List UInt8 → Option Nat) (Inv : World → Prop) (hR : Reads m val Inv) (lo hi : Nat) (s : ByteArray) (hs : s.size ≤ 4294967296) (h1 : lo ≤ hi) (h2 : hi ≤ 62) (w : World) (hI : Inv w) :
    Calls Tryz.prog 60 #[.string s, .agg #[.int .u64 lo, .int .u64 hi, .map m]] w (Answers w (rangeS val lo hi s.data.toList)) := by
  obtain ⟨p, ps, hps⟩ : ∃ p ps, splitL 47 s.data.toList = p :: ps := by
    cases h : splitL 47 s.data.toList with
    | nil => exact absurd h (splitL_ne _ _)
    | cons p ps => exact ⟨p, ps, rfl⟩
  obtain ⟨q, qs, hqs⟩ : ∃ q qs, splitL 45 p = q :: qs := by
    cases h : splitL 45 p with
    | nil => exact absurd h (splitL_ne _ _)
    | cons q qs => exact ⟨q, qs, rfl⟩
  have hpl : p.length ≤ 4294967296 := by
    have := splitL_size 47 s.data.toList p (by rw [hps]; simp)
    rw [← size_list] at this
    omega
  have hpsB : splitB 47 s = ba p :: ps.map ba := by rw [splitB, hps]; rfl
  have hqsB : splitB 45 (ba p) = ba q :: qs.map ba := by rw [splitB, ba_list, hqs]; rfl
  have HP := Lib.hid hps
  have HQ := Lib.hid hqs
  have HPB := Lib.hid hpsB
  have HQB := Lib.hid hqsB
  clear hps hqs hpsB hqsB
  go_enter Tryz.func60, Tryz.ntmps60
  go_wp2_with fail
  refine (zzSplit_any 47 s (by omega) _).mono ?_
  rintro e w1 ⟨g1, n1, c1, rfl, hg1, ht1, hb1⟩
  have hB1 : Below w.heap.size w w1 := ((Below.refl _ _).alloc (Nat.le_refl _) _).trans (hb1.mono (by simp))
  have hz1 : w.heap.size < w1.heap.size := by have := hb1.size; simp at this; omega
  have hx0 : w1.cell? ⟨w.heap.size, 0, none⟩ = some (.int .u64 lo) := (hb1.cell (p := ⟨w.heap.size, 0, none⟩) (by simp)).trans (by simp [World.cell?_alloc_new])
  have hx1 : w1.cell? ⟨w.heap.size, 1, none⟩ = some (.int .u64 hi) := (hb1.cell (p := ⟨w.heap.size, 1, none⟩) (by simp)).trans (by simp [World.cell?_alloc_new])
  have hx2 : w1.cell? ⟨w.heap.size, 2, none⟩ = some (.map m) := (hb1.cell (p := ⟨w.heap.size, 2, none⟩) (by simp)).trans (by simp [World.cell?_alloc_new])
  have hc0 : w1.cell? ⟨g1, 0, none⟩ = some (.string (ba p)) := ht1.at_ 0 _ (by rw [HPB.out]; rfl)
  have hn1 : 0 < n1 := by rw [ht1.len, HPB.out]; simp
  clear hb1
  go_wp2_with fail
  refine (zzSplit_any 45 (ba p) (by rw [ba_size]; omega) _).mono ?_
  rintro e w2 ⟨g2, n2, c2, rfl, hg2, ht2, hb2⟩
  have hB2 : Below w.heap.size w w2 := below_of_le hB1 hb2
  have hy0 : w2.cell? ⟨w.heap.size, 0, none⟩ = some (.int .u64 lo) := (hb2.cell (p := ⟨w.heap.size, 0, none⟩) hz1).trans hx0
  have hy1 : w2.cell? ⟨w.heap.size, 1, none⟩ = some (.int .u64 hi) := (hb2.cell (p := ⟨w.heap.size, 1, none⟩) hz1).trans hx1
  have hy2 : w2.cell? ⟨w.heap.size, 2, none⟩ = some (.map m) := (hb2.cell (p := ⟨w.heap.size, 2, none⟩) hz1).trans hx2
  have hz2 : w.heap.size < w2.heap.size := Nat.lt_of_lt_of_le hz1 hb2.size
  have ht3 : Texts w2 g1 n1 c1 (splitB 47 s) := ht1.below hb2
  have hd0 : w2.cell? ⟨g2, 0, none⟩ = some (.string (ba q)) := ht2.at_ 0 _ (by rw [HQB.out]; rfl)
  have hn2 : 0 < n2 := by rw [ht2.len, HQB.out]; simp
  have hnn : n2 = qs.length + 1 := by rw [ht2.len, HQB.out]; simp
  obtain ⟨sg, hsg⟩ : ∃ sg : Bool, ((n2 : Int) == 1) = sg := ⟨_, rfl⟩
  have HN := Lib.hid hnn
  have HSG := Lib.hid (show sg = ((q :: qs).length == 1) by rw [← hsg, hnn]; cases qs <;> simp; omega)
  clear hb2 hx0 hx1 hx2 hc0 ht1 hB1 hz1 hg1 hg2 hnn
  go_upto_region 7 with fail
  go_cut [32] (fun v32 wc => ∃ st : Bool, v32 = .bool st ∧ Hid (StarIs st q) ∧ w2 = wc)
  case first =>
    by_cases c1 : q = [42]
    · have e1 := eq42_true c1
      have HS : Hid (StarIs true q) := Lib.hid (by simp [StarIs, c1])
      clear c1
      go_wp2_with fail
      go_meet
      exact ⟨true, rfl, HS, rfl⟩
    · have e1 := eq42_false c1
      by_cases c2 : q = [63]
      · have e2 := eq63_true c2
        have HS : Hid (StarIs true q) := Lib.hid (by simp [StarIs, c2])
        clear c1 c2
        go_wp2_with fail
        go_meet
        exact ⟨true, rfl, HS, rfl⟩
      · have e2 := eq63_false c2
        have HS : Hid (StarIs false q) := Lib.hid (by simp [StarIs, c1, c2])
        clear c1 c2
        go_wp2_with fail
        go_meet
        exact ⟨false, rfl, HS, rfl⟩
  case rest =>
    obtain ⟨st, rfl, hst, rfl⟩ := hcut
    go_upto_if 32 with fail
    go_cut [6, 7, 13] (fun v6 v7 v13 wc => ∃ (a b : Nat) (sb : Bool), Hid (ends val lo hi (q :: qs) = some (a, b, sb)) ∧ v6 = .int .u64 a ∧ v7 = .int .u64 b ∧ v13 = .int .u64 (starBits sb) ∧ Below w2.heap.size w2 wc)
    case first =>
      cases st with
      | true =>
        have HE := Lib.hid (ends_true (val := val) (lo := lo) (hi := hi) qs hst.out)
        clear hst
        go_wp2_with fail
        go_meet
        exact ⟨lo, hi, true, HE, rfl, rfl, rfl, Below.refl _ _⟩
      | false =>
        have HE := Lib.hid (ends_false (val := val) (lo := lo) (hi := hi) qs hst.out)
        clear hst
        have hIq := hR.keeps hI hB2
        have H := fun (w' : World) (hw' : Inv w') => (hR.calls (ba q) w' (by rw [ba_size]; have := splitL_size 45 p q (by rw [HQ.out]; simp); omega) hw').mono (fun _ _ => answers_cases)
        simp only [ba_list] at H
        have HH := Lib.hid H
        clear H
        go_upto_region 11 with fail
        go_cut [6, 12] (fun v6 v12 wc => Hid (Slots (val q) v6 v12) ∧ Below w2.heap.size w2 wc)
        case first =>
          go_region_with (go_at_call 72; go_must (refine (HH.out _ ?_).mono ?_); (first | exact hIq | exact hR.keeps hIq (Below.refl _ _).drew); rintro e w3 ⟨v3, x3, rfl, hsl, hb3⟩)
          all_goals (go_wp2_with fail; go_meet; exact ⟨hsl, by first | exact hb3 | exact (Below.refl _ _).drew.trans hb3⟩)
        case rest =>
          obtain ⟨hsl, hb3⟩ := hcut
          have hB3 : Below w.heap.size w wc := below_of_le hB2 hb3
          cases hv : val q with
          | none =>
            rw [hv] at hsl HE
            obtain ⟨rfl, t3, x3, rfl⟩ := hsl.out
            have HE2 := Lib.hid (show ends val lo hi (q :: qs) = none from HE.out)
            clear HE hsl
            go_wp2_with fail
            go_ret2
            rw [rangeS_none HP.out HQ.out HE2.out]
            exact ⟨⟨t3, x3, rfl⟩, hB3⟩
          | some a =>
            rw [hv] at hsl HE
            obtain ⟨rfl, rfl⟩ := hsl.out
            clear hsl hv
            have hn := HN.out
            have hIc := hR.keeps hIq hb3
            have ht4 := ht2.below hb3
            cases qs with
            | nil =>
              obtain rfl : sg = true := HSG.out
              have HE2 := Lib.hid (show ends val lo hi [q] = some (a, a, false) from HE.out)
              clear HE hn
              go_wp2_with fail
              go_meet
              exact ⟨a, a, false, HE2, rfl, rfl, rfl, hb3⟩
            | cons e2 qs =>
              obtain rfl : sg = false := by rw [HSG.out]; simp
              cases qs with
              | cons e3 qs =>
                have hq2 : ((n2 : Int) == 2) = false := by rw [hn]; simp; omega
                have HE2 := Lib.hid (show ends val lo hi (q :: e2 :: e3 :: qs) = none from HE.out)
                clear HE hn
                go_wp2_with (go_at_call 26; refine (errorsNew_any _ _).mono ?_; rintro e w4 ⟨t4, x4, rfl, hb4⟩)
                go_ret2
                rw [rangeS_none HP.out HQ.out HE2.out]
                exact ⟨⟨t4, x4, rfl⟩, below_of_le hB3 hb4⟩
              | nil =>
                have hq2 : ((n2 : Int) == 2) = true := by rw [hn]; rfl
                have hn1 : 1 < n2 := by rw [hn]; simp
                have hl1 : ((1 : Nat) : Int) < n2 := by omega
                have hc1 : wc.cell? ⟨g2, 1, none⟩ = some (.string (ba e2)) := ht4.at_ 1 _ (by rw [HQB.out]; rfl)
                have hy4 : wc.cell? ⟨w.heap.size, 2, none⟩ = some (.map m) := (hb3.cell (p := ⟨w.heap.size, 2, none⟩) hz2).trans hy2
                have H2 := fun (w' : World) (hw' : Inv w') => (hR.calls (ba e2) w' (by rw [ba_size]; have := splitL_size 45 p e2 (by rw [HQ.out]; simp); omega) hw').mono (fun _ _ => answers_cases)
                simp only [ba_list] at H2
                have HH2 := Lib.hid H2
                clear H2 hn HH hd0 hy0 hy1 hy2
                go_upto_region 19 with fail
                go_cut [7, 12] (fun v7 v12 wd => Hid (Slots (val e2) v7 v12) ∧ Below wc.heap.size wc wd)
                case first =>
                  go_region_with (go_at_call 72; go_must (refine (HH2.out _ ?_).mono ?_); (first | exact hIc | exact hR.keeps hIc (Below.refl _ _).drew); rintro e w3 ⟨v3, x3, rfl, hsl, hb4⟩)
                  all_goals (go_wp2_with fail; go_meet; exact ⟨hsl, by first | exact hb4 | exact (Below.refl _ _).drew.trans hb4⟩)
                case rest =>
                  obtain ⟨hsl, hb4⟩ := hcut
                  cases hv2 : val e2 with
                  | none =>
                    rw [hv2] at hsl
                    obtain ⟨rfl, t3, x3, rfl⟩ := hsl.out
                    have HE2 := Lib.hid (show ends val lo hi [q, e2] = none by rw [HE.out]; simp only [endsRest, hv2])
                    clear HE hsl hv2
                    go_wp2_with fail
                    go_ret2
                    rw [rangeS_none HP.out HQ.out HE2.out]
                    exact ⟨⟨t3, x3, rfl⟩, below_of_le hB3 hb4⟩
                  | some b =>
                    rw [hv2] at hsl
                    obtain ⟨rfl, rfl⟩ := hsl.out
                    have HE2 := Lib.hid (show ends val lo hi [q, e2] = some (a, b, false) by rw [HE.out]; simp only [endsRest, hv2])
                    clear HE hsl hv2
                    go_wp2_with fail
                    go_meet
                    exact ⟨a, b, false, HE2, rfl, rfl, rfl, below_of_le hb3 hb4⟩
    case rest =>
      obtain ⟨a, b, sb, HE, rfl, rfl, rfl, hb3⟩ := hcut
      have HF := Lib.hid (show rangeS val lo hi s.data.toList = rangeFin lo hi sg a b sb ps by rw [rangeS_some HP.out HQ.out HE.out, HSG.out])
      have hB3 : Below w.heap.size w wc := below_of_le hB2 hb3
      have hz3 : w.heap.size < wc.heap.size := Nat.lt_of_lt_of_le hz2 hb3.size
      have ha0 : wc.cell? ⟨w.heap.size, 0, none⟩ = some (.int .u64 lo) := (hb3.cell (p := ⟨w.heap.size, 0, none⟩) hz2).trans hy0
      have ha1 : wc.cell? ⟨w.heap.size, 1, none⟩ = some (.int .u64 hi) := (hb3.cell (p := ⟨w.heap.size, 1, none⟩) hz2).trans hy1
      have ht4 := ht3.below hb3
      have hg4 : G wc := (hR.g hI).below hB3
      have hm1 : n1 = ps.length + 1 := by rw [ht3.len, HPB.out]; simp
      have HM := Lib.hid hm1
      clear HE HQ HQB HN HSG ht2 ht3 hd0 hn2 hy0 hy1 hy2 hz2 hb3 hB2 hst hsg hm1
      obtain ⟨wo, rfl⟩ : ∃ wo : World, wo = wc := ⟨_, rfl⟩
      go_upto_block 1 with fail
      go_cut [7, 8, 13] (fun v7 v8 v13 wd => ∃ (b' k : Nat) (sb' : Bool), Hid (stepOf hi sg b sb ps = some (k, b', sb')) ∧ k ≤ 9223372036854775807 ∧ v7 = .int .u64 b' ∧ v8 = .int .u64 k ∧ v13 = .int .u64 (starBits sb') ∧ Below wo.heap.size wo wd)
      case first =>
        cases ps with
        | nil =>
          have hq1 : ((n1 : Int) == 1) = true := by rw [HM.out]; rfl
          clear HM
          go_wp2_with fail
          go_meet
          exact ⟨b, 1, sb, Lib.hid rfl, by omega, rfl, rfl, rfl, Below.refl _ _⟩
        | cons t ps =>
          have hq1 : ((n1 : Int) == 1) = false := by rw [HM.out]; simp; omega
          cases ps with
          | cons t2 ps =>
            have hq2 : ((n1 : Int) == 2) = false := by rw [HM.out]; simp; omega
            have HX := Lib.hid (fin_none (lo := lo) (a := a) (show stepOf hi sg b sb (t :: t2 :: ps) = none from rfl))
            clear HM
            go_wp2_with (go_at_call 26; refine (errorsNew_any _ _).mono ?_; rintro e w4 ⟨t4, x4, rfl, hb4⟩)
            go_ret2
            rw [HF.out, HX.out]
            exact ⟨⟨t4, x4, rfl⟩, below_of_le hB3 hb4⟩
          | nil =>
            have hq2 : ((n1 : Int) == 2) = true := by rw [HM.out]; rfl
            have hn1' : 1 < n1 := by rw [HM.out]; simp
            have hc1 : wo.cell? ⟨g1, 1, none⟩ = some (.string (ba t)) := ht4.at_ 1 _ (by rw [HPB.out]; rfl)
            have htl : (ba t).size ≤ 281474976710656 := by
              have := splitL_size 47 s.data.toList t (by rw [HP.out]; simp)
              rw [← size_list] at this
              rw [ba_size]
              omega
            clear HM
            cases hv : mp t with
            | none =>
              have hmp := mustParse_bad (ba t) htl (by rw [ba_list]; exact hv) wo hg4
              have HX := Lib.hid (fin_none (lo := lo) (a := a) (show stepOf hi sg b sb [t] = none by simp only [stepOf, hv]))
              have HMP := Lib.hid hmp
              clear hv hmp
              go_wp2_with (go_at_call 73; go_must (refine HMP.out.mono ?_); rintro e w4 ⟨t4, x4, rfl, hb4⟩)
              go_ret2
              rw [HF.out, HX.out]
              exact ⟨⟨t4, x4, rfl⟩, below_of_le hB3 hb4⟩
            | some k =>
              have hk := mp_le hv
              have hmp := mustParse_ok (ba t) htl k (by rw [ba_list]; exact hv) wo
              have HX := Lib.hid (show stepOf hi sg b sb [t] = some (k, if sg then hi else b, if 1 < k then false else sb) by simp only [stepOf, hv])
              have HMP := Lib.hid hmp
              clear hv hmp
              by_cases hk1 : 1 < k
              · cases sg with
                | true =>
                  go_wp2_with (go_at_call 73; go_must (refine HMP.out.mono ?_); rintro e w4 ⟨rfl, hb4⟩; obtain ⟨hl1, hl2⟩ := bcell hb4)
                  go_meet
                  exact ⟨hi, k, false, Lib.hid (by rw [HX.out, if_pos hk1]; rfl), hk, rfl, rfl, rfl, hb4⟩
                | false =>
                  go_wp2_with (go_at_call 73; go_must (refine HMP.out.mono ?_); rintro e w4 ⟨rfl, hb4⟩; obtain ⟨hl1, hl2⟩ := bcell hb4)
                  go_meet
                  exact ⟨b, k, false, Lib.hid (by rw [HX.out, if_pos hk1]; rfl), hk, rfl, rfl, rfl, hb4⟩
              · cases sg with
                | true =>
                  go_wp2_with (go_at_call 73; go_must (refine HMP.out.mono ?_); rintro e w4 ⟨rfl, hb4⟩; obtain ⟨hl1, hl2⟩ := bcell hb4)
                  go_meet
                  exact ⟨hi, k, sb, Lib.hid (by rw [HX.out, if_neg hk1]; rfl), hk, rfl, rfl, rfl, hb4⟩
                | false =>
                  go_wp2_with (go_at_call 73; go_must (refine HMP.out.mono ?_); rintro e w4 ⟨rfl, hb4⟩; obtain ⟨hl1, hl2⟩ := bcell hb4)
                  go_meet
                  exact ⟨b, k, sb, Lib.hid (by rw [HX.out, if_neg hk1]; rfl), hk, rfl, rfl, rfl, hb4⟩
      case rest =>
        obtain ⟨b', k, sb', HX, hk, rfl, rfl, rfl, hb4⟩ := hcut
        have hB4 : Below w.heap.size w wc := below_of_le hB3 hb4
        have hd0 : wc.cell? ⟨w.heap.size, 0, none⟩ = some (.int .u64 lo) := (hb4.cell (p := ⟨w.heap.size, 0, none⟩) hz3).trans ha0
        have hd1 : wc.cell? ⟨w.heap.size, 1, none⟩ = some (.int .u64 hi) := (hb4.cell (p := ⟨w.heap.size, 1, none⟩) hz3).trans ha1
        have HY := Lib.hid (HF.out.trans (fin_some (lo := lo) (a := a) HX.out))
        clear HF HX HP HPB HM ht4 hg4 hz3 ha0 ha1 hb4 hB3
        by_cases x1 : a < lo
        · go_wp2_with (go_at_call 26; refine (errorsNew_any _ _).mono ?_; rintro e w4 ⟨t4, x4, rfl, hb4⟩)
          go_ret2
          rw [HY.out, bitsOf, if_pos x1]
          exact ⟨⟨t4, x4, rfl⟩, below_of_le hB4 hb4⟩
        by_cases x2 : hi < b'
        · go_wp2_with (go_at_call 26; refine (errorsNew_any _ _).mono ?_; rintro e w4 ⟨t4, x4, rfl, hb4⟩)
          go_ret2
          rw [HY.out, bitsOf, if_neg x1, if_pos x2]
          exact ⟨⟨t4, x4, rfl⟩, below_of_le hB4 hb4⟩
        by_cases x3 : b' < a
        · go_wp2_with (go_at_call 26; refine (errorsNew_any _ _).mono ?_; rintro e w4 ⟨t4, x4, rfl, hb4⟩)
          go_ret2
          rw [HY.out, bitsOf, if_neg x1, if_neg x2, if_pos x3]
          exact ⟨⟨t4, x4, rfl⟩, below_of_le hB4 hb4⟩
        by_cases x4 : k = 0
        · subst x4
          go_wp2_with (go_at_call 26; refine (errorsNew_any _ _).mono ?_; rintro e w4 ⟨t4, x4, rfl, hb4⟩)
          go_ret2
          rw [HY.out, bitsOf, if_neg x1, if_neg x2, if_neg x3, if_pos rfl]
          exact ⟨⟨t4, x4, rfl⟩, below_of_le hB4 hb4⟩
        · have hk1 : 1 ≤ k := by omega
          have hk0 : ((k : Int) == 0) = false := by simp; omega
          have HZ := Lib.hid (or_star (steps_lt a b' k) sb')
          have HW := Lib.hid (show rangeS val lo hi s.data.toList = some (steps a b' k ||| (if sb' then 9223372036854775808 else 0)) by rw [HY.out, bitsOf, if_neg x1, if_neg x2, if_neg x3, if_neg x4])
          clear HY x4
          go_wp2_with (go_at_call 66; go_must (refine (getBits_any a b' k (by omega) (by omega) hk1 hk _).mono ?_); rintro e w' ⟨rfl, rfl⟩)
          go_ret2
          rw [HW.out]
          exact ⟨by show Ending.returned (.tuple #[.int .u64 (bits .or .u64 (steps a b' k : Int) (starBits sb')), .nilIface]) = _; rw [HZ.out], hB4⟩

end Go.Proofs.YtikgnpachlgakaaGreatDoor.Cron
