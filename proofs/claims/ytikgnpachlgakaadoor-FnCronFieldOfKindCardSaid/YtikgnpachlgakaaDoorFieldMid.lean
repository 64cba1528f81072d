/- The reading of a field item by item: what the program's fold and the reference's verdicts and sets have to do with each other (no program in sight). -/
import Derived.Test.YtikgnpachlgakaaDoorGetField
import Derived.Test.YtikgnpachlgakaaDoorUnion
namespace Go.Proofs.YtikgnpachlgakaaDoor.Cron
open Go Go.RowKit Go.Proofs.YtikgnpachlgakaaDoor.Text Go.Proofs.YtikgnpachlgakaaDoor.Bits
set_option linter.unusedVariables false

/-- the fold over the items so far -/
def upTo (R : List UInt8 → Option Nat) (ps : List (List UInt8)) (i : Nat) : Option Nat := fieldGo R ((ps.take i).filter (· ≠ [])) 0

theorem fieldGo_append (R : List UInt8 → Option Nat) : ∀ (xs ys : List (List UInt8)) (b : Nat), fieldGo R (xs ++ ys) b = (fieldGo R xs b).bind (fieldGo R ys)
  | [], ys, b => rfl
  | x :: xs, ys, b => by
    simp only [List.cons_append, fieldGo]
    cases R x with
    | none => rfl
    | some c => exact fieldGo_append R xs ys _

theorem upTo_empty {R : List UInt8 → Option Nat} {ps : List (List UInt8)} {i : Nat} (h : ps[i]? = some []) : upTo R ps (i + 1) = upTo R ps i := by
  unfold upTo
  rw [List.take_add_one, h]
  simp

theorem upTo_item {R : List UInt8 → Option Nat} {ps : List (List UInt8)} {i : Nat} {x : List UInt8} (h : ps[i]? = some x) (hx : x ≠ []) :
    upTo R ps (i + 1) = (upTo R ps i).bind fun b => (R x).map fun c => b ||| c := by
  unfold upTo
  rw [List.take_add_one, h]
  simp only [Option.toList_some, List.filter_append]
  rw [List.filter_cons_of_pos (by simpa using hx), List.filter_nil, fieldGo_append]
  congr 1
  funext b
  simp only [fieldGo]
  cases R x <;> rfl

theorem upTo_all {val : List UInt8 → Option Nat} {lo hi : Nat} {l : List UInt8} {i : Nat} (h : (splitL 44 l).length ≤ i) : upTo (rangeS val lo hi) (splitL 44 l) i = fieldS val lo hi l := by
  unfold upTo fieldS partsL
  rw [List.take_of_length_le h]

theorem setBits_or (sa sb : Bool) (pa pb : Nat → Bool) : setBits (sa || sb) (fun j => pa j || pb j) = setBits sa pa ||| setBits sb pb := by
  unfold setBits
  rw [← mkBits_or]
  apply Nat.eq_of_testBit_eq
  intro j
  cases sa <;> cases sb <;> simp [Nat.testBit_or, Bool.or_assoc, Bool.or_comm, Bool.or_left_comm]

/-- a verdict and a set, held against a fold -/
structure FieldMid (r : Option Nat) (star : Bool) (p : Nat → Bool) (v : Int) : Prop where
  vs : v = 0 ∨ v = 1 ∨ v = 2
  bad : v = 0 → r = none
  fine : v = 1 → r = some (setBits star p)

theorem mid_start (R : List UInt8 → Option Nat) (ps : List (List UInt8)) : FieldMid (upTo R ps 0) false noSet 1 := by
  refine ⟨by omega, fun h => by omega, fun _ => ?_⟩
  unfold upTo
  simp only [List.take_zero, List.filter_nil, fieldGo]
  congr 1

theorem mid_empty {R : List UInt8 → Option Nat} {ps : List (List UInt8)} {i : Nat} {star : Bool} {p : Nat → Bool} {v v' : Int} (h : FieldMid (upTo R ps i) star p v) (hx : ps[i]? = some [])
    (hv : v' = 0 ∨ v' = 1 ∨ v' = 2) (h0 : v' = 0 → v = 0 ∨ (2 : Int) = 0) (h1 : v' = 1 → v = 1 ∧ (2 : Int) = 1) : FieldMid (upTo R ps (i + 1)) star p v' := by
  rw [upTo_empty hx]
  exact ⟨hv, fun e => by rcases h0 e with e | e; exact h.bad e; omega, fun e => by have := (h1 e).2; omega⟩

theorem mid_item {R : List UInt8 → Option Nat} {ps : List (List UInt8)} {i : Nat} {star sx : Bool} {p px : Nat → Bool} {v vx v' : Int} {x : List UInt8} (h : FieldMid (upTo R ps i) star p v) (hx : ps[i]? = some x) (hne : x ≠ [])
    (hi : ItemIs (R x) sx px vx) (hv : v' = 0 ∨ v' = 1 ∨ v' = 2) (h0 : v' = 0 → v = 0 ∨ vx = 0) (h1 : v' = 1 → v = 1 ∧ vx = 1) : FieldMid (upTo R ps (i + 1)) (star || sx) (fun j => p j || px j) v' := by
  rw [upTo_item hx hne]
  refine ⟨hv, fun e => ?_, fun e => ?_⟩
  · rcases h0 e with e | e
    · rw [h.bad e]; rfl
    · rw [hi.bad e]
      cases upTo R ps i <;> rfl
  · obtain ⟨e1, e2⟩ := h1 e
    rw [h.fine e1, hi.fine e2, setBits_or]
    rfl

end Go.Proofs.YtikgnpachlgakaaDoor.Cron
