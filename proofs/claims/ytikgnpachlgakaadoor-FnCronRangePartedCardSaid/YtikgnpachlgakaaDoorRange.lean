/- What an item of a field's list means (no program in sight). -/
import Derived.Test.YtikgnpachlgakaaDoorSplit
import Derived.Test.YtikgnpachlgakaaDoorNumber
import Derived.Test.YtikgnpachlgakaaDoorBits
namespace Go.Proofs.YtikgnpachlgakaaDoor.Cron
open Go Go.Proofs.YtikgnpachlgakaaDoor.Text Go.Proofs.YtikgnpachlgakaaDoor.Bits

/-- the ends of an item that is no star -/
def endsRest (val : List UInt8 → Option Nat) : Option Nat → List (List UInt8) → Option (Nat × Nat × Bool)
  | none, _ => none
  | some a, [] => some (a, a, false)
  | some a, [e2] => match val e2 with
    | none => none
    | some b => some (a, b, false)
  | some _, _ => none

/-- the ends of an item, and whether it is a star -/
def ends (val : List UInt8 → Option Nat) (lo hi : Nat) : List (List UInt8) → Option (Nat × Nat × Bool)
  | [] => none
  | e :: r => if e = [42] ∨ e = [63] then some (lo, hi, true) else endsRest val (val e) r

/-- the mark of a star -/
def starBits (b : Bool) : Int := if b then 9223372036854775808 else 0

def StarIs (st : Bool) (q : List UInt8) : Prop := st = true ↔ q = [42] ∨ q = [63]

/-- the step, the last value and whether the star stays -/
def stepOf (hi : Nat) (single : Bool) (b : Nat) (star : Bool) : List (List UInt8) → Option (Nat × Nat × Bool)
  | [] => some (1, b, star)
  | [t] => match mp t with
    | none => none
    | some k => some (k, if single then hi else b, if 1 < k then false else star)
  | _ => none

/-- the bits of an item -/
def bitsOf (lo hi a b k : Nat) (star : Bool) : Option Nat :=
  if a < lo then none else if hi < b then none else if b < a then none else if k = 0 then none
  else some (steps a b k ||| (if star then 9223372036854775808 else 0))

/-- what follows when the ends are known -/
def rangeFin (lo hi : Nat) (single : Bool) (a b : Nat) (star : Bool) (ps : List (List UInt8)) : Option Nat :=
  match stepOf hi single b star ps with
  | none => none
  | some (k, b', star') => bitsOf lo hi a b' k star'

def rangeS (val : List UInt8 → Option Nat) (lo hi : Nat) (s : List UInt8) : Option Nat :=
  match splitL 47 s with
  | [] => none
  | p :: ps =>
    match ends val lo hi (splitL 45 p) with
    | none => none
    | some (a, b, star) => rangeFin lo hi ((splitL 45 p).length == 1) a b star ps

theorem rangeS_none {val : List UInt8 → Option Nat} {lo hi : Nat} {s p q : List UInt8} {ps qs : List (List UInt8)} (h1 : splitL 47 s = p :: ps) (h2 : splitL 45 p = q :: qs) (h3 : ends val lo hi (q :: qs) = none) : rangeS val lo hi s = none := by
  unfold rangeS
  rw [h1]
  simp only
  rw [h2, h3]

theorem rangeS_some {val : List UInt8 → Option Nat} {lo hi a b : Nat} {st : Bool} {s p q : List UInt8} {ps qs : List (List UInt8)} (h1 : splitL 47 s = p :: ps) (h2 : splitL 45 p = q :: qs) (h3 : ends val lo hi (q :: qs) = some (a, b, st)) : rangeS val lo hi s = rangeFin lo hi ((q :: qs).length == 1) a b st ps := by
  unfold rangeS
  rw [h1]
  simp only
  rw [h2, h3]

theorem fin_none {lo hi a b : Nat} {sg st : Bool} {ps : List (List UInt8)} (h : stepOf hi sg b st ps = none) : rangeFin lo hi sg a b st ps = none := by unfold rangeFin; rw [h]
theorem fin_some {lo hi a b k b' : Nat} {sg st st' : Bool} {ps : List (List UInt8)} (h : stepOf hi sg b st ps = some (k, b', st')) : rangeFin lo hi sg a b st ps = bitsOf lo hi a b' k st' := by unfold rangeFin; rw [h]

theorem starBits_nat (b : Bool) : starBits b = ((if b then 9223372036854775808 else 0 : Nat) : Int) := by cases b <;> rfl
theorem starBits_false : starBits false = 0 := rfl
theorem or_star {n : Nat} (h : n < 2 ^ 64) (b : Bool) : bits .or .u64 (n : Int) (starBits b) = ((n ||| (if b then 9223372036854775808 else 0) : Nat) : Int) := by
  rw [starBits_nat]
  exact or_u64 h (by cases b <;> decide)

theorem ends_star {val : List UInt8 → Option Nat} {lo hi : Nat} {q : List UInt8} (qs : List (List UInt8)) (h : q = [42] ∨ q = [63]) : ends val lo hi (q :: qs) = some (lo, hi, true) := by
  simp only [ends]; rw [if_pos h]

theorem ends_else {val : List UInt8 → Option Nat} {lo hi : Nat} {q : List UInt8} (qs : List (List UInt8)) (h : ¬ (q = [42] ∨ q = [63])) : ends val lo hi (q :: qs) = endsRest val (val q) qs := by
  simp only [ends]; rw [if_neg h]

theorem ends_true {val : List UInt8 → Option Nat} {lo hi : Nat} {q : List UInt8} (qs : List (List UInt8)) (h : StarIs true q) : ends val lo hi (q :: qs) = some (lo, hi, true) :=
  ends_star qs (h.1 rfl)

theorem ends_false {val : List UInt8 → Option Nat} {lo hi : Nat} {q : List UInt8} (qs : List (List UInt8)) (h : StarIs false q) : ends val lo hi (q :: qs) = endsRest val (val q) qs :=
  ends_else qs (fun e => by have := h.2 e; cases this)

theorem eq42 {q : List UInt8} : ((ba q).toList == [42]) = decide (q = [42]) := by rw [toList_data, ba_list]; exact Bool.eq_iff_iff.2 ⟨fun h => decide_eq_true (eq_of_beq h), fun h => beq_iff_eq.2 (of_decide_eq_true h)⟩
theorem eq63 {q : List UInt8} : ((ba q).toList == [63]) = decide (q = [63]) := by rw [toList_data, ba_list]; exact Bool.eq_iff_iff.2 ⟨fun h => decide_eq_true (eq_of_beq h), fun h => beq_iff_eq.2 (of_decide_eq_true h)⟩
theorem eq42_true {q : List UInt8} (h : q = [42]) : ((ba q).toList == [42]) = true := by rw [eq42]; exact decide_eq_true h
theorem eq42_false {q : List UInt8} (h : ¬ q = [42]) : ((ba q).toList == [42]) = false := by rw [eq42]; exact decide_eq_false h
theorem eq63_true {q : List UInt8} (h : q = [63]) : ((ba q).toList == [63]) = true := by rw [eq63]; exact decide_eq_true h
theorem eq63_false {q : List UInt8} (h : ¬ q = [63]) : ((ba q).toList == [63]) = false := by rw [eq63]; exact decide_eq_false h

end Go.Proofs.YtikgnpachlgakaaDoor.Cron
