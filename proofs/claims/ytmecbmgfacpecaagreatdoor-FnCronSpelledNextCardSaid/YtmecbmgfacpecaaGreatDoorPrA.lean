/- Functions of the program and of its library as plain Lean functions, printed by the kit's print.sh, merged by wip/tools/pack.py. Conditions: none. -/
import Derived.Test.YtmecbmgfacpecaaGreatDoorProg
import Derived.Below
import Derived.Deep.Draws
import Derived.Deep.AppendLies
import Derived.Maps.AppendAt
import Derived.OwnWalk
import Derived.Laws.BytesArg
import Derived.Laws.MakeOwn
import Derived.Laws.OwnMore
import Derived.Deep.OwnRows
import Derived.Tactics
import Derived.Lib.ConvBytes
import Derived.Laws.Slices
import Derived.WalkKit
import Derived.KernelRfl
import Derived.RowKit3
import Derived.Deep.LoopGhost
import Derived.Deep.QuietTactic
import Derived.BigQuiet
import Derived.WideLaws
import Derived.Deep.DeepCutAuto
import Derived.Deep.CutBlock
import Derived.Deep.RegionHeld3
import Derived.Laws.Rows
import Derived.Lib.AppendStr
import Derived.ArgAppend
import Derived.Laws.IdiomCopy
import Derived.OrdersHeld
import Derived.Laws.BitsLemmas
import Derived.RowKit
import Derived.Test.YtmecbmgfacpecaaGreatDoorWWordsT
import Derived.Test.YtmecbmgfacpecaaGreatDoorWLastT
import Derived.Test.YtmecbmgfacpecaaGreatDoorWTabT
import Derived.Test.YtmecbmgfacpecaaGreatDoorWApartT
import Derived.Test.YtmecbmgfacpecaaGreatDoorWKeptT
import Derived.Test.YtmecbmgfacpecaaGreatDoorWShareT
import Derived.Test.YtmecbmgfacpecaaGreatDoorWNT
import Derived.Test.YtmecbmgfacpecaaGreatDoorWEqStructT
import Derived.Test.YtmecbmgfacpecaaGreatDoorWRepsOneT
import Derived.Test.YtmecbmgfacpecaaGreatDoorWInvT
import Derived.Test.YtmecbmgfacpecaaGreatDoorWMoreT
namespace Go.Proofs.YtmecbmgfacpecaaGreatDoor.Pr
open Go.RowKit Go.Proofs.YtmecbmgfacpecaaGreatDoorW.PrintWords Go.Proofs.YtmecbmgfacpecaaGreatDoorW.PrintLast Go.Proofs.YtmecbmgfacpecaaGreatDoorW.PrintMore
attribute [local go_sem] max2_int min2_int max_two min_two max_three min_three max_four min_four   -- for this text's walks alone
set_option linter.unusedVariables false
set_option linter.unusedSimpArgs false
def errW : Option Int → Value
 | none => .nilIface
 | some c => .iface 0 (.int .i64 c)
theorem errW_none : errW none = .nilIface := rfl
theorem errW_some (c : Int) : errW (some c) = .iface 0 (.int .i64 c) := rfl
theorem info9 : (Tryz.prog.info? 9).map (fun i => (i.zero, i.size, i.bytes)) = some (some (.string ⟨#[]⟩), 1, 16) := by kernel_rfl
-- the values' own types
-- the values' own types
def IsS156 (w0 W : World) (g : Nat) (f0 : List Int) (f1 : Int) : Prop := ∃ A0 c0, W.heap[g]? = some (.cells #[.slice A0 f0.length c0, .int .i64 f1] 156 (0, 0)) ∧ w0.heap.size ≤ g ∧ Kd.C (Kd.int .u8) w0 A0 f0.length f0
theorem IsS156.grown {w0 W : World} {g : Nat} {f0 : List Int} {f1 : Int} {W1 : World} {row : Option Nat} (h : IsS156 w0 W g f0 f1) (hw : W.grownBy W1 row) (hne : some g ≠ row) : IsS156 w0 W1 g f0 f1 := by
 obtain ⟨A0, c0, hb, hg, hr0⟩ := h
 exact ⟨A0, c0, blk_grown hb hw hne, hg, hr0⟩
theorem IsS156.kept {w0 W : World} {g : Nat} {f0 : List Int} {f1 : Int} {W1 : World} {S : Nat → Prop} (h : IsS156 w0 W g f0 f1) (hk : Kept W W1 S) (hne : ¬ S g) : IsS156 w0 W1 g f0 f1 := by
 obtain ⟨A0, c0, hb, hg, hr0⟩ := h
 exact ⟨A0, c0, blk_kept hb hk hne, hg, hr0⟩
theorem IsS156.below {w0 W : World} {g : Nat} {f0 : List Int} {f1 : Int} {W1 : World} (h : IsS156 w0 W g f0 f1) (hw : Below W.heap.size W W1) : IsS156 w0 W1 g f0 f1 := h.grown (grown_of_below hw none) (by simp)
theorem IsS156.alloc {w0 W : World} {g : Nat} {f0 : List Int} {f1 : Int} (h : IsS156 w0 W g f0 f1) (o : Obj) : IsS156 w0 (W.alloc o) g f0 f1 := h.below (below_alloc (Below.refl _ _) o)
theorem IsS156.drewN {w0 W : World} {g : Nat} {f0 : List Int} {f1 : Int} (h : IsS156 w0 W g f0 f1) (m : Nat) : IsS156 w0 (W.drewN m) g f0 f1 := h
theorem IsS156.drew {w0 W : World} {g : Nat} {f0 : List Int} {f1 : Int} (h : IsS156 w0 W g f0 f1) : IsS156 w0 W.drew g f0 f1 := h
theorem IsS156.at_ {w0 W : World} {g : Nat} {f0 : List Int} {f1 : Int} {w' : World} {m : Nat} (hq : W.drewN m = w') (h : IsS156 w0 W g f0 f1) : IsS156 w0 w' g f0 f1 := by subst hq; exact IsS156.drewN h m
theorem IsS156.apart {w0 W : World} {g : Nat} {f0 : List Int} {f1 : Int} {α : Type} {d : Kd α} {e : Nat} {base : Nat} {ok : Nat → Prop} {v : Value} {xs : List α} (h : IsS156 w0 W g f0 f1) (ho : d.R e W base ok v xs) (ht : ∀ q, q ∈ e :: d.E → q ≠ 156) : d.R e W base (fun k => ok k ∧ k ≠ g) v xs := by
 obtain ⟨A0, c0, hb, hg, hr0⟩ := h
 exact Kd.R_types ho hb ht
theorem IsS156.own_ne {w0 W : World} {g : Nat} {f0 : List Int} {f1 : Int} {α : Type} {d : Kd α} {e : Nat} {base : Nat} {ok : Nat → Prop} {v : Value} {xs : List α} (h : IsS156 w0 W g f0 f1) (ho : d.R e W base ok v xs) (ht : e ≠ 156) : some g ≠ v.ownBlock := by
 obtain ⟨A0, c0, hb, hg, hr0⟩ := h
 exact Kd.R_ne ho hb ht
theorem IsS156.lt {w0 W : World} {g : Nat} {f0 : List Int} {f1 : Int} (h : IsS156 w0 W g f0 f1) : g < W.heap.size := by
 obtain ⟨A0, c0, hb, hg, hr0⟩ := h
 exact blk_lt hb
theorem IsS156.ge {w0 W : World} {g : Nat} {f0 : List Int} {f1 : Int} (h : IsS156 w0 W g f0 f1) : w0.heap.size ≤ g := by
 obtain ⟨A0, c0, hb, hg, hr0⟩ := h
 exact hg
theorem IsS156.far {w0 W : World} {g : Nat} {f0 : List Int} {f1 : Int} {p : Addr} (h : IsS156 w0 W g f0 f1) (hne : g ≠ p.block) (u : Value) : IsS156 w0 (W.setCell p u) g f0 f1 := by
 obtain ⟨A0, c0, hb, hg, hr0⟩ := h
 exact ⟨A0, c0, blk_far hb hne u, hg, hr0⟩
theorem cellS156_0 {W : World} {g : Nat} {A0 : Option Addr} {c0 : Nat} {f0 : List Int} {f1 : Int} (h : W.heap[g]? = some (.cells #[.slice A0 f0.length c0, .int .i64 f1] 156 (0, 0))) : W.cell? ⟨g, 0, none⟩ = some (.slice A0 f0.length c0) := (blk_cell h 0).trans rfl
theorem cellS156_1 {W : World} {g : Nat} {A0 : Option Addr} {c0 : Nat} {f0 : List Int} {f1 : Int} (h : W.heap[g]? = some (.cells #[.slice A0 f0.length c0, .int .i64 f1] 156 (0, 0))) : W.cell? ⟨g, 1, none⟩ = some (.int .i64 f1) := (blk_cell h 1).trans rfl
theorem IsS156.set_1 {w0 W : World} {g : Nat} {f0 : List Int} {f1 : Int} (h : IsS156 w0 W g f0 f1) (x : Int) : IsS156 w0 (W.setCell ⟨g, 1, none⟩ (.int .i64 x)) g f0 x := by
 obtain ⟨A0, c0, hb, hg, hr0⟩ := h
 exact ⟨A0, c0, by simpa using blk_set hb 1 (.int .i64 x), hg, hr0⟩
theorem IsS156.new (w0 W : World) (A0 : Option Addr) (c0 : Nat) (f0 : List Int) (f1 : Int) (hB : Below w0.heap.size w0 W) (hr0 : Kd.C (Kd.int .u8) w0 A0 f0.length f0) : IsS156 w0 (W.alloc (.cells #[.slice A0 f0.length c0, .int .i64 f1] 156)) W.heap.size f0 f1 := ⟨A0, c0, by simpa using heap_alloc_new W _, hB.size, hr0⟩
end Go.Proofs.YtmecbmgfacpecaaGreatDoor.Pr
namespace Go.Proofs.YtmecbmgfacpecaaGreatDoor.Pr
open Go.RowKit Go.Proofs.YtmecbmgfacpecaaGreatDoorW.PrintWords Go.Proofs.YtmecbmgfacpecaaGreatDoorW.PrintLast Go.Proofs.YtmecbmgfacpecaaGreatDoorW.PrintMore
attribute [local go_sem] max2_int min2_int max_two min_two max_three min_three max_four min_four   -- for this text's walks alone
set_option linter.unusedVariables false
set_option linter.unusedSimpArgs false
def spec_CronHigh.f (a0 : Int) : Option (Int) := if a0 = 2 then (some 23) else (if a0 = 3 then (some 31) else (if a0 = 4 then (some 12) else (if a0 = 5 then (some 6) else (some 59))))
set_option maxHeartbeats 8000000 in
set_option maxRecDepth 100000 in
theorem spec_CronHigh.calls (a0 : Int) (r : Int) (w : World) (h : spec_CronHigh.f a0 = some r) :
  Calls Tryz.prog 61 #[.int .i64 a0] w fun e w' => e = .returned (.int .i64 r) ∧ Drawn0 w w' := by
 have H : (if a0 = 2 then (some 23) else (if a0 = 3 then (some 31) else (if a0 = 4 then (some 12) else (if a0 = 5 then (some 6) else (some 59))))) = some r := h
 clear h
 by_cases c2 : a0 = 2
 ·rw [if_pos c2] at H
  have c2b0 : (a0 == 2) = true := beq_iff_eq.mpr c2
  have c2b1 : (a0 != 2) = false := bne_eq_false_iff_eq.mpr c2
  clear c2
  obtain rfl := Option.some.inj H
  go_enter Tryz.func61, Tryz.ntmps61
  go_wp2
  go_ret
  exact ⟨by first | rfl | (simp; done) | (simp [*]; done), by repeat (first | exact Drawn0.refl _ | apply Drawn0.step)⟩
 ·rw [if_neg c2] at H
  have c2b0 : (a0 == 2) = false := beq_eq_false_iff_ne.mpr c2
  have c2b1 : (a0 != 2) = true := bne_iff_ne.mpr c2
  by_cases c3 : a0 = 3
  ·rw [if_pos c3] at H
   have c3b0 : (a0 == 3) = true := beq_iff_eq.mpr c3
   have c3b1 : (a0 != 3) = false := bne_eq_false_iff_eq.mpr c3
   clear c3
   obtain rfl := Option.some.inj H
   go_enter Tryz.func61, Tryz.ntmps61
   go_wp2
   go_ret
   exact ⟨by first | rfl | (simp; done) | (simp [*]; done), by repeat (first | exact Drawn0.refl _ | apply Drawn0.step)⟩
  ·rw [if_neg c3] at H
   have c3b0 : (a0 == 3) = false := beq_eq_false_iff_ne.mpr c3
   have c3b1 : (a0 != 3) = true := bne_iff_ne.mpr c3
   by_cases c4 : a0 = 4
   ·rw [if_pos c4] at H
    have c4b0 : (a0 == 4) = true := beq_iff_eq.mpr c4
    have c4b1 : (a0 != 4) = false := bne_eq_false_iff_eq.mpr c4
    clear c4
    obtain rfl := Option.some.inj H
    go_enter Tryz.func61, Tryz.ntmps61
    go_wp2
    go_ret
    exact ⟨by first | rfl | (simp; done) | (simp [*]; done), by repeat (first | exact Drawn0.refl _ | apply Drawn0.step)⟩
   ·rw [if_neg c4] at H
    have c4b0 : (a0 == 4) = false := beq_eq_false_iff_ne.mpr c4
    have c4b1 : (a0 != 4) = true := bne_iff_ne.mpr c4
    by_cases c5 : a0 = 5
    ·rw [if_pos c5] at H
     have c5b0 : (a0 == 5) = true := beq_iff_eq.mpr c5
     have c5b1 : (a0 != 5) = false := bne_eq_false_iff_eq.mpr c5
     clear c5
     obtain rfl := Option.some.inj H
     go_enter Tryz.func61, Tryz.ntmps61
     go_wp2
     go_ret
     exact ⟨by first | rfl | (simp; done) | (simp [*]; done), by repeat (first | exact Drawn0.refl _ | apply Drawn0.step)⟩
    ·rw [if_neg c5] at H
     have c5b0 : (a0 == 5) = false := beq_eq_false_iff_ne.mpr c5
     have c5b1 : (a0 != 5) = true := bne_iff_ne.mpr c5
     obtain rfl := Option.some.inj H
     go_enter Tryz.func61, Tryz.ntmps61
     go_wp2
     go_ret
     exact ⟨by first | rfl | (simp; done) | (simp [*]; done), by repeat (first | exact Drawn0.refl _ | apply Drawn0.step)⟩
end Go.Proofs.YtmecbmgfacpecaaGreatDoor.Pr
namespace Go.Proofs.YtmecbmgfacpecaaGreatDoor.Pr
open Go.RowKit Go.Proofs.YtmecbmgfacpecaaGreatDoorW.PrintWords Go.Proofs.YtmecbmgfacpecaaGreatDoorW.PrintLast Go.Proofs.YtmecbmgfacpecaaGreatDoorW.PrintMore
attribute [local go_sem] max2_int min2_int max_two min_two max_three min_three max_four min_four   -- for this text's walks alone
set_option linter.unusedVariables false
set_option linter.unusedSimpArgs false
def spec_CronLow.f (a0 : Int) : Option (Int) := if a0 = 3 then (some 1) else (if a0 = 4 then (some 1) else (some 0))
set_option maxHeartbeats 8000000 in
set_option maxRecDepth 100000 in
theorem spec_CronLow.calls (a0 : Int) (r : Int) (w : World) (h : spec_CronLow.f a0 = some r) :
  Calls Tryz.prog 60 #[.int .i64 a0] w fun e w' => e = .returned (.int .i64 r) ∧ Drawn0 w w' := by
 have H : (if a0 = 3 then (some 1) else (if a0 = 4 then (some 1) else (some 0))) = some r := h
 clear h
 by_cases c2 : a0 = 3
 ·rw [if_pos c2] at H
  have c2b0 : (a0 == 3) = true := beq_iff_eq.mpr c2
  have c2b1 : (a0 != 3) = false := bne_eq_false_iff_eq.mpr c2
  clear c2
  obtain rfl := Option.some.inj H
  go_enter Tryz.func60, Tryz.ntmps60
  go_wp2
  go_ret
  exact ⟨by first | rfl | (simp; done) | (simp [*]; done), by repeat (first | exact Drawn0.refl _ | apply Drawn0.step)⟩
 ·rw [if_neg c2] at H
  have c2b0 : (a0 == 3) = false := beq_eq_false_iff_ne.mpr c2
  have c2b1 : (a0 != 3) = true := bne_iff_ne.mpr c2
  by_cases c3 : a0 = 4
  ·rw [if_pos c3] at H
   have c3b0 : (a0 == 4) = true := beq_iff_eq.mpr c3
   have c3b1 : (a0 != 4) = false := bne_eq_false_iff_eq.mpr c3
   clear c3
   obtain rfl := Option.some.inj H
   go_enter Tryz.func60, Tryz.ntmps60
   go_wp2
   go_ret
   exact ⟨by first | rfl | (simp; done) | (simp [*]; done), by repeat (first | exact Drawn0.refl _ | apply Drawn0.step)⟩
  ·rw [if_neg c3] at H
   have c3b0 : (a0 == 4) = false := beq_eq_false_iff_ne.mpr c3
   have c3b1 : (a0 != 4) = true := bne_iff_ne.mpr c3
   obtain rfl := Option.some.inj H
   go_enter Tryz.func60, Tryz.ntmps60
   go_wp2
   go_ret
   exact ⟨by first | rfl | (simp; done) | (simp [*]; done), by repeat (first | exact Drawn0.refl _ | apply Drawn0.step)⟩
end Go.Proofs.YtmecbmgfacpecaaGreatDoor.Pr
namespace Go.Proofs.YtmecbmgfacpecaaGreatDoor.Pr
open Go.RowKit Go.Proofs.YtmecbmgfacpecaaGreatDoorW.PrintWords Go.Proofs.YtmecbmgfacpecaaGreatDoorW.PrintLast Go.Proofs.YtmecbmgfacpecaaGreatDoorW.PrintMore
attribute [local go_sem] max2_int min2_int max_two min_two max_three min_three max_four min_four   -- for this text's walks alone
set_option linter.unusedVariables false
set_option linter.unusedSimpArgs false
def spec_CronLeap.f (a0 : Int) : Option (Bool) := if (Int.tmod a0 4) = 0 then (if (Int.tmod a0 100) = 0 then (some ((Int.tmod a0 400) == 0)) else (some true)) else (some false)
set_option maxHeartbeats 8000000 in
set_option maxRecDepth 100000 in
theorem spec_CronLeap.calls (a0 : Int) (r : Bool) (w : World) (h : spec_CronLeap.f a0 = some r) :
  Calls Tryz.prog 74 #[.int .i64 a0] w fun e w' => e = .returned (.bool r) ∧ Drawn0 w w' := by
 have H : (if (Int.tmod a0 4) = 0 then (if (Int.tmod a0 100) = 0 then (some ((Int.tmod a0 400) == 0)) else (some true)) else (some false)) = some r := h
 clear h
 by_cases c2 : (Int.tmod a0 4) = 0
 ·rw [if_pos c2] at H
  have c2b0 : ((Int.tmod a0 4) == 0) = true := beq_iff_eq.mpr c2
  have c2b1 : ((Int.tmod a0 4) != 0) = false := bne_eq_false_iff_eq.mpr c2
  clear c2
  by_cases c3 : (Int.tmod a0 100) = 0
  ·rw [if_pos c3] at H
   have c3b0 : ((Int.tmod a0 100) == 0) = true := beq_iff_eq.mpr c3
   have c3b1 : ((Int.tmod a0 100) != 0) = false := bne_eq_false_iff_eq.mpr c3
   clear c3
   obtain rfl := Option.some.inj H
   go_enter Tryz.func74, Tryz.ntmps74
   go_wp2
   go_ret
   exact ⟨by first | rfl | (simp; done) | (simp [*]; done), by repeat (first | exact Drawn0.refl _ | apply Drawn0.step)⟩
  ·rw [if_neg c3] at H
   have c3b0 : ((Int.tmod a0 100) == 0) = false := beq_eq_false_iff_ne.mpr c3
   have c3b1 : ((Int.tmod a0 100) != 0) = true := bne_iff_ne.mpr c3
   obtain rfl := Option.some.inj H
   go_enter Tryz.func74, Tryz.ntmps74
   go_wp2
   go_ret
   exact ⟨by first | rfl | (simp; done) | (simp [*]; done), by repeat (first | exact Drawn0.refl _ | apply Drawn0.step)⟩
 ·rw [if_neg c2] at H
  have c2b0 : ((Int.tmod a0 4) == 0) = false := beq_eq_false_iff_ne.mpr c2
  have c2b1 : ((Int.tmod a0 4) != 0) = true := bne_iff_ne.mpr c2
  obtain rfl := Option.some.inj H
  go_enter Tryz.func74, Tryz.ntmps74
  go_wp2
  go_ret
  exact ⟨by first | rfl | (simp; done) | (simp [*]; done), by repeat (first | exact Drawn0.refl _ | apply Drawn0.step)⟩
end Go.Proofs.YtmecbmgfacpecaaGreatDoor.Pr
namespace Go.Proofs.YtmecbmgfacpecaaGreatDoor.Pr
open Go.RowKit Go.Proofs.YtmecbmgfacpecaaGreatDoorW.PrintWords Go.Proofs.YtmecbmgfacpecaaGreatDoorW.PrintLast Go.Proofs.YtmecbmgfacpecaaGreatDoorW.PrintMore
attribute [local go_sem] max2_int min2_int max_two min_two max_three min_three max_four min_four   -- for this text's walks alone
set_option linter.unusedVariables false
set_option linter.unusedSimpArgs false
def spec_CronMonthDays.f (a0 : Int) (a1 : Int) : Option (Int) := if a1 = 2 then ((spec_CronLeap.f a0).bind fun t181 => (if t181 = true then (some 29) else (some 28))) else (if a1 = 4 then (some 30) else (if a1 = 6 then (some 30) else (if a1 = 9 then (some 30) else (if a1 = 11 then (some 30) else (some 31)))))
set_option maxHeartbeats 8000000 in
set_option maxRecDepth 100000 in
theorem spec_CronMonthDays.calls (a0 : Int) (a1 : Int) (r : Int) (w : World) (h : spec_CronMonthDays.f a0 a1 = some r) :
  Calls Tryz.prog 35 #[.int .i64 a0, .int .i64 a1] w fun e w' => e = .returned (.int .i64 r) ∧ Drawn0 w w' := by
 have H : (if a1 = 2 then ((spec_CronLeap.f a0).bind fun t181 => (if t181 = true then (some 29) else (some 28))) else (if a1 = 4 then (some 30) else (if a1 = 6 then (some 30) else (if a1 = 9 then (some 30) else (if a1 = 11 then (some 30) else (some 31)))))) = some r := h
 clear h
 by_cases c3 : a1 = 2
 ·rw [if_pos c3] at H
  have c3b0 : (a1 == 2) = true := beq_iff_eq.mpr c3
  have c3b1 : (a1 != 2) = false := bne_eq_false_iff_eq.mpr c3
  clear c3
  replace H := Option.bind_eq_some_iff.mp H
  obtain ⟨t181, A40, H⟩ := H
  replace H : (if t181 = true then (some 29) else (some 28)) = some r := H
  have A4 := Aside0.mk A40
  clear A40
  by_cases c5 : t181 = true
  ·subst c5
   have H1 : (some 29) = some r := by rw [if_pos rfl] at H; exact H
   clear H
   have H := H1
   clear H1
   obtain rfl := Option.some.inj H
   go_enter Tryz.func35, Tryz.ntmps35
   go_wp2_with (first | ((with_reducible refine gate_callee (f := 74) rfl ?_); refine goesL_ (some 9) rfl rfl Tryz.func74 (by kernel_rfl) rfl #[.int .i64 a0] rfl (by (try simp only [List.map_toArray, List.map_cons, List.map_nil]); first | done | rfl | (simp only [List.length_drop, List.length_take]; rfl)) ?_; (with_reducible refine (spec_CronLeap.calls a0 true _ A4.out).mono ?_); rintro e w' ⟨rfl, ⟨nd, rfl⟩⟩; refine ⟨_, rfl, ?_⟩))
   go_ret
   exact ⟨by first | rfl | (simp; done) | (simp [*]; done), by repeat (first | exact Drawn0.refl _ | apply Drawn0.step)⟩
  ·replace c5 := Bool.eq_false_iff.mpr c5
   subst c5
   have H1 : (some 28) = some r := by rw [if_neg (show ¬ (false = true) by decide)] at H; exact H
   clear H
   have H := H1
   clear H1
   obtain rfl := Option.some.inj H
   go_enter Tryz.func35, Tryz.ntmps35
   go_wp2_with (first | ((with_reducible refine gate_callee (f := 74) rfl ?_); refine goesL_ (some 9) rfl rfl Tryz.func74 (by kernel_rfl) rfl #[.int .i64 a0] rfl (by (try simp only [List.map_toArray, List.map_cons, List.map_nil]); first | done | rfl | (simp only [List.length_drop, List.length_take]; rfl)) ?_; (with_reducible refine (spec_CronLeap.calls a0 false _ A4.out).mono ?_); rintro e w' ⟨rfl, ⟨nd, rfl⟩⟩; refine ⟨_, rfl, ?_⟩))
   go_ret
   exact ⟨by first | rfl | (simp; done) | (simp [*]; done), by repeat (first | exact Drawn0.refl _ | apply Drawn0.step)⟩
 ·rw [if_neg c3] at H
  have c3b0 : (a1 == 2) = false := beq_eq_false_iff_ne.mpr c3
  have c3b1 : (a1 != 2) = true := bne_iff_ne.mpr c3
  by_cases c6 : a1 = 4
  ·rw [if_pos c6] at H
   have c6b0 : (a1 == 4) = true := beq_iff_eq.mpr c6
   have c6b1 : (a1 != 4) = false := bne_eq_false_iff_eq.mpr c6
   clear c6
   obtain rfl := Option.some.inj H
   go_enter Tryz.func35, Tryz.ntmps35
   go_wp2
   go_ret
   exact ⟨by first | rfl | (simp; done) | (simp [*]; done), by repeat (first | exact Drawn0.refl _ | apply Drawn0.step)⟩
  ·rw [if_neg c6] at H
   have c6b0 : (a1 == 4) = false := beq_eq_false_iff_ne.mpr c6
   have c6b1 : (a1 != 4) = true := bne_iff_ne.mpr c6
   by_cases c7 : a1 = 6
   ·rw [if_pos c7] at H
    have c7b0 : (a1 == 6) = true := beq_iff_eq.mpr c7
    have c7b1 : (a1 != 6) = false := bne_eq_false_iff_eq.mpr c7
    clear c7
    obtain rfl := Option.some.inj H
    go_enter Tryz.func35, Tryz.ntmps35
    go_wp2
    go_ret
    exact ⟨by first | rfl | (simp; done) | (simp [*]; done), by repeat (first | exact Drawn0.refl _ | apply Drawn0.step)⟩
   ·rw [if_neg c7] at H
    have c7b0 : (a1 == 6) = false := beq_eq_false_iff_ne.mpr c7
    have c7b1 : (a1 != 6) = true := bne_iff_ne.mpr c7
    by_cases c8 : a1 = 9
    ·rw [if_pos c8] at H
     have c8b0 : (a1 == 9) = true := beq_iff_eq.mpr c8
     have c8b1 : (a1 != 9) = false := bne_eq_false_iff_eq.mpr c8
     clear c8
     obtain rfl := Option.some.inj H
     go_enter Tryz.func35, Tryz.ntmps35
     go_wp2
     go_ret
     exact ⟨by first | rfl | (simp; done) | (simp [*]; done), by repeat (first | exact Drawn0.refl _ | apply Drawn0.step)⟩
    ·rw [if_neg c8] at H
     have c8b0 : (a1 == 9) = false := beq_eq_false_iff_ne.mpr c8
     have c8b1 : (a1 != 9) = true := bne_iff_ne.mpr c8
     by_cases c9 : a1 = 11
     ·rw [if_pos c9] at H
      have c9b0 : (a1 == 11) = true := beq_iff_eq.mpr c9
      have c9b1 : (a1 != 11) = false := bne_eq_false_iff_eq.mpr c9
      clear c9
      obtain rfl := Option.some.inj H
      go_enter Tryz.func35, Tryz.ntmps35
      go_wp2
      go_ret
      exact ⟨by first | rfl | (simp; done) | (simp [*]; done), by repeat (first | exact Drawn0.refl _ | apply Drawn0.step)⟩
     ·rw [if_neg c9] at H
      have c9b0 : (a1 == 11) = false := beq_eq_false_iff_ne.mpr c9
      have c9b1 : (a1 != 11) = true := bne_iff_ne.mpr c9
      obtain rfl := Option.some.inj H
      go_enter Tryz.func35, Tryz.ntmps35
      go_wp2
      go_ret
      exact ⟨by first | rfl | (simp; done) | (simp [*]; done), by repeat (first | exact Drawn0.refl _ | apply Drawn0.step)⟩
end Go.Proofs.YtmecbmgfacpecaaGreatDoor.Pr
namespace Go.Proofs.YtmecbmgfacpecaaGreatDoor.Pr
open Go.RowKit Go.Proofs.YtmecbmgfacpecaaGreatDoorW.PrintWords Go.Proofs.YtmecbmgfacpecaaGreatDoorW.PrintLast Go.Proofs.YtmecbmgfacpecaaGreatDoorW.PrintMore
attribute [local go_sem] max2_int min2_int max_two min_two max_three min_three max_four min_four   -- for this text's walks alone
set_option linter.unusedVariables false
set_option linter.unusedSimpArgs false
def spec_floorDiv.f (a0 : Int) (a1 : Int) : Option (Int) := if a1 = 0 then (none) else (if (Int.tmod a0 a1) < 0 then (some (wrap64 ((wrap64 (Int.tdiv a0 a1)) - 1))) else (some (wrap64 (Int.tdiv a0 a1))))
set_option maxHeartbeats 8000000 in
set_option maxRecDepth 100000 in
theorem spec_floorDiv.calls (a0 : Int) (a1 : Int) (r : Int) (w : World) (h : spec_floorDiv.f a0 a1 = some r) :
  Calls Tryz.prog 85 #[.int .i64 a0, .int .i64 a1] w fun e w' => e = .returned (.int .i64 r) ∧ Drawn0 w w' := by
 have H : (if a1 = 0 then (none) else (if (Int.tmod a0 a1) < 0 then (some (wrap64 ((wrap64 (Int.tdiv a0 a1)) - 1))) else (some (wrap64 (Int.tdiv a0 a1))))) = some r := h
 clear h
 by_cases c3 : a1 = 0
 ·rw [if_pos c3] at H
  exact absurd H (by simp)
 ·rw [if_neg c3] at H
  have c3b0 : (a1 == 0) = false := beq_eq_false_iff_ne.mpr c3
  have c3b1 : (a1 != 0) = true := bne_iff_ne.mpr c3
  by_cases c4 : (Int.tmod a0 a1) < 0
  ·rw [if_pos c4] at H
   have c4b0 : decide ((Int.tmod a0 a1) < 0) = true := decide_eq_true c4
   clear c4
   obtain rfl := Option.some.inj H
   go_enter Tryz.func85, Tryz.ntmps85
   go_wp2
   go_ret
   exact ⟨by first | rfl | (simp; done) | (simp [*]; done), by repeat (first | exact Drawn0.refl _ | apply Drawn0.step)⟩
  ·rw [if_neg c4] at H
   have c4b0 : decide ((Int.tmod a0 a1) < 0) = false := decide_eq_false c4
   clear c4
   obtain rfl := Option.some.inj H
   go_enter Tryz.func85, Tryz.ntmps85
   go_wp2
   go_ret
   exact ⟨by first | rfl | (simp; done) | (simp [*]; done), by repeat (first | exact Drawn0.refl _ | apply Drawn0.step)⟩
end Go.Proofs.YtmecbmgfacpecaaGreatDoor.Pr
namespace Go.Proofs.YtmecbmgfacpecaaGreatDoor.Pr
open Go.RowKit Go.Proofs.YtmecbmgfacpecaaGreatDoorW.PrintWords Go.Proofs.YtmecbmgfacpecaaGreatDoorW.PrintLast Go.Proofs.YtmecbmgfacpecaaGreatDoorW.PrintMore
attribute [local go_sem] max2_int min2_int max_two min_two max_three min_three max_four min_four   -- for this text's walks alone
set_option linter.unusedVariables false
set_option linter.unusedSimpArgs false
def spec_CronYearStart.f (a0 : Int) : Option (Int) := (spec_floorDiv.f (wrap64 (a0 - 1)) 4).bind fun t182 => ((spec_floorDiv.f (wrap64 (a0 - 1)) 100).bind fun t183 => ((spec_floorDiv.f (wrap64 (a0 - 1)) 400).bind fun t184 => (some (wrap64 ((wrap64 ((wrap64 ((wrap64 ((wrap64 (365 * (wrap64 (a0 - 1)))) + t182)) - t183)) + t184)) - 719162)))))
set_option maxHeartbeats 8000000 in
set_option maxRecDepth 100000 in
theorem spec_CronYearStart.calls (a0 : Int) (r : Int) (w : World) (h : spec_CronYearStart.f a0 = some r) :
  Calls Tryz.prog 130 #[.int .i64 a0] w fun e w' => e = .returned (.int .i64 r) ∧ Drawn0 w w' := by
 have H : ((spec_floorDiv.f (wrap64 (a0 - 1)) 4).bind fun t182 => ((spec_floorDiv.f (wrap64 (a0 - 1)) 100).bind fun t183 => ((spec_floorDiv.f (wrap64 (a0 - 1)) 400).bind fun t184 => (some (wrap64 ((wrap64 ((wrap64 ((wrap64 ((wrap64 (365 * (wrap64 (a0 - 1)))) + t182)) - t183)) + t184)) - 719162)))))) = some r := h
 clear h
 replace H := Option.bind_eq_some_iff.mp H
 obtain ⟨t182, A20, H⟩ := H
 replace H : ((spec_floorDiv.f (wrap64 (a0 - 1)) 100).bind fun t183 => ((spec_floorDiv.f (wrap64 (a0 - 1)) 400).bind fun t184 => (some (wrap64 ((wrap64 ((wrap64 ((wrap64 ((wrap64 (365 * (wrap64 (a0 - 1)))) + t182)) - t183)) + t184)) - 719162))))) = some r := H
 have A2 := Aside0.mk A20
 clear A20
 replace H := Option.bind_eq_some_iff.mp H
 obtain ⟨t183, A30, H⟩ := H
 replace H : ((spec_floorDiv.f (wrap64 (a0 - 1)) 400).bind fun t184 => (some (wrap64 ((wrap64 ((wrap64 ((wrap64 ((wrap64 (365 * (wrap64 (a0 - 1)))) + t182)) - t183)) + t184)) - 719162)))) = some r := H
 have A3 := Aside0.mk A30
 clear A30
 replace H := Option.bind_eq_some_iff.mp H
 obtain ⟨t184, A40, H⟩ := H
 replace H : (some (wrap64 ((wrap64 ((wrap64 ((wrap64 ((wrap64 (365 * (wrap64 (a0 - 1)))) + t182)) - t183)) + t184)) - 719162))) = some r := H
 have A4 := Aside0.mk A40
 clear A40
 obtain rfl := Option.some.inj H
 go_enter Tryz.func130, Tryz.ntmps130
 go_wp2_with (first | ((with_reducible refine gate_callee (f := 85) rfl ?_); refine goesL_ (some 9) rfl rfl Tryz.func85 (by kernel_rfl) rfl #[.int .i64 (wrap64 (a0 - 1)), .int .i64 4] rfl (by (try simp only [List.map_toArray, List.map_cons, List.map_nil]); first | done | rfl | (simp only [List.length_drop, List.length_take]; rfl)) ?_; (with_reducible refine (spec_floorDiv.calls (wrap64 (a0 - 1)) 4 t182 _ A2.out).mono ?_); rintro e w' ⟨rfl, ⟨nd, rfl⟩⟩; refine ⟨_, rfl, ?_⟩) | ((with_reducible refine gate_callee (f := 85) rfl ?_); refine goesL_ (some 12) rfl rfl Tryz.func85 (by kernel_rfl) rfl #[.int .i64 (wrap64 (a0 - 1)), .int .i64 100] rfl (by (try simp only [List.map_toArray, List.map_cons, List.map_nil]); first | done | rfl | (simp only [List.length_drop, List.length_take]; rfl)) ?_; (with_reducible refine (spec_floorDiv.calls (wrap64 (a0 - 1)) 100 t183 _ A3.out).mono ?_); rintro e w' ⟨rfl, ⟨nd, rfl⟩⟩; refine ⟨_, rfl, ?_⟩) | ((with_reducible refine gate_callee (f := 85) rfl ?_); refine goesL_ (some 15) rfl rfl Tryz.func85 (by kernel_rfl) rfl #[.int .i64 (wrap64 (a0 - 1)), .int .i64 400] rfl (by (try simp only [List.map_toArray, List.map_cons, List.map_nil]); first | done | rfl | (simp only [List.length_drop, List.length_take]; rfl)) ?_; (with_reducible refine (spec_floorDiv.calls (wrap64 (a0 - 1)) 400 t184 _ A4.out).mono ?_); rintro e w' ⟨rfl, ⟨nd, rfl⟩⟩; refine ⟨_, rfl, ?_⟩))
 go_ret
 exact ⟨by first | rfl | (simp; done) | (simp [*]; done), by repeat (first | exact Drawn0.refl _ | apply Drawn0.step)⟩
end Go.Proofs.YtmecbmgfacpecaaGreatDoor.Pr
namespace Go.Proofs.YtmecbmgfacpecaaGreatDoor.Pr
open Go.RowKit Go.Proofs.YtmecbmgfacpecaaGreatDoorW.PrintWords Go.Proofs.YtmecbmgfacpecaaGreatDoorW.PrintLast Go.Proofs.YtmecbmgfacpecaaGreatDoorW.PrintMore
attribute [local go_sem] max2_int min2_int max_two min_two max_three min_three max_four min_four   -- for this text's walks alone
set_option linter.unusedVariables false
set_option linter.unusedSimpArgs false
mutual
def spec_CronDateOf.j0 : Nat → Int → Int → Option (Int × Int × Int)
 | 0, _, _ => none
 | k + 1, x0, x3 => spec_CronDateOf.l0 k x0 x3
def spec_CronDateOf.l0 : Nat → Int → Int → Option (Int × Int × Int)
 | 0, _, _ => none
 | k + 1, x0, x3 => (spec_CronYearStart.f (wrap64 (x3 + 1))).bind fun t188 => (if t188 ≤ x0 then (spec_CronDateOf.l0 k x0 (wrap64 (x3 + 1))) else ((spec_CronYearStart.f x3).bind fun t189 => (spec_CronDateOf.l1 k x3 (wrap64 (x0 - t189)) 1)))
def spec_CronDateOf.l1 : Nat → Int → Int → Int → Option (Int × Int × Int)
 | 0, _, _, _ => none
 | k + 1, x3, x4, x5 => (spec_CronMonthDays.f x3 x5).bind fun t190 => (if x4 ≥ t190 then ((spec_CronMonthDays.f x3 x5).bind fun t191 => (spec_CronDateOf.l1 k x3 (wrap64 (x4 - t191)) (wrap64 (x5 + 1)))) else (some (x3, x5, wrap64 (x4 + 1))))
end
def spec_CronDateOf.f (k : Nat) (a0 : Int) : Option (Int × Int × Int) := (spec_floorDiv.f a0 366).bind fun t186 => (if a0 < 0 then ((spec_floorDiv.f a0 365).bind fun t187 => (spec_CronDateOf.j0 k a0 (wrap64 ((wrap64 (1970 + t187)) - 1)))) else (spec_CronDateOf.j0 k a0 (wrap64 (1970 + t186))))
theorem spec_CronDateOf.mono_l : ∀ k, (∀ y0 y1, LeO (spec_CronDateOf.j0 k y0 y1) (spec_CronDateOf.j0 (k + 1) y0 y1)) ∧ (∀ y0 y1, LeO (spec_CronDateOf.l0 k y0 y1) (spec_CronDateOf.l0 (k + 1) y0 y1)) ∧ (∀ y0 y1 y2, LeO (spec_CronDateOf.l1 k y0 y1 y2) (spec_CronDateOf.l1 (k + 1) y0 y1 y2))
 | 0 => ⟨fun _ _ r h => by simp [spec_CronDateOf.j0] at h, fun _ _ r h => by simp [spec_CronDateOf.l0] at h, fun _ _ _ r h => by simp [spec_CronDateOf.l1] at h⟩
 | k + 1 => by
  obtain ⟨ih0, ih1, ih2⟩ := spec_CronDateOf.mono_l k
  refine ⟨?_, ?_, ?_⟩
  ·intro y0 y1
   unfold spec_CronDateOf.j0
   repeat' first
   | (with_reducible exact ih0 _ _)
   | (with_reducible exact ih1 _ _)
   | (with_reducible exact ih2 _ _ _)
   | (with_reducible exact LeO.refl _)
   | (with_reducible exact LeO.none _)
   | (with_reducible refine LeO.ite ?_ ?_)
   | (with_reducible refine LeO.bind ?_ (fun _ => ?_))
   | exact ih0 _ _
   | exact ih1 _ _
   | exact ih2 _ _ _
   | exact LeO.none _
   | refine LeO.ite ?_ ?_
   | refine LeO.bind ?_ (fun _ => ?_)
  ·intro y0 y1
   unfold spec_CronDateOf.l0
   repeat' first
   | (with_reducible exact ih0 _ _)
   | (with_reducible exact ih1 _ _)
   | (with_reducible exact ih2 _ _ _)
   | (with_reducible exact LeO.refl _)
   | (with_reducible exact LeO.none _)
   | (with_reducible refine LeO.ite ?_ ?_)
   | (with_reducible refine LeO.bind ?_ (fun _ => ?_))
   | exact ih0 _ _
   | exact ih1 _ _
   | exact ih2 _ _ _
   | exact LeO.none _
   | refine LeO.ite ?_ ?_
   | refine LeO.bind ?_ (fun _ => ?_)
  ·intro y0 y1 y2
   unfold spec_CronDateOf.l1
   repeat' first
   | (with_reducible exact ih0 _ _)
   | (with_reducible exact ih1 _ _)
   | (with_reducible exact ih2 _ _ _)
   | (with_reducible exact LeO.refl _)
   | (with_reducible exact LeO.none _)
   | (with_reducible refine LeO.ite ?_ ?_)
   | (with_reducible refine LeO.bind ?_ (fun _ => ?_))
   | exact ih0 _ _
   | exact ih1 _ _
   | exact ih2 _ _ _
   | exact LeO.none _
   | refine LeO.ite ?_ ?_
   | refine LeO.bind ?_ (fun _ => ?_)
theorem spec_CronDateOf.mono : ∀ a0 k, LeO (spec_CronDateOf.f k a0) (spec_CronDateOf.f (k + 1) a0) := by
 intro a0 k
 obtain ⟨ih0, ih1, ih2⟩ := spec_CronDateOf.mono_l k
 unfold spec_CronDateOf.f
 repeat' first
   | (with_reducible exact ih0 _ _)
   | (with_reducible exact ih1 _ _)
   | (with_reducible exact ih2 _ _ _)
   | (with_reducible exact LeO.refl _)
   | (with_reducible exact LeO.none _)
   | (with_reducible refine LeO.ite ?_ ?_)
   | (with_reducible refine LeO.bind ?_ (fun _ => ?_))
   | exact ih0 _ _
   | exact ih1 _ _
   | exact ih2 _ _ _
   | exact LeO.none _
   | refine LeO.ite ?_ ?_
   | refine LeO.bind ?_ (fun _ => ?_)
set_option maxHeartbeats 8000000 in
set_option maxRecDepth 100000 in
theorem spec_CronDateOf.calls (k : Nat) (a0 : Int) (r1 : Int) (r2 : Int) (r3 : Int) (w : World) (h : spec_CronDateOf.f k a0 = some (r1, r2, r3)) :
  Calls Tryz.prog 84 #[.int .i64 a0] w fun e w' => e = .returned (.agg #[.int .i64 r1, .int .i64 r2, .int .i64 r3]) ∧ Below w.heap.size w w' := by
 have hu83 := Tryz.underlying83
 have HB := Aside0.mk (Below.refl w.heap.size w)
 have H : ((spec_floorDiv.f a0 366).bind fun t186 => (if a0 < 0 then ((spec_floorDiv.f a0 365).bind fun t187 => (spec_CronDateOf.j0 k a0 (wrap64 ((wrap64 (1970 + t187)) - 1)))) else (spec_CronDateOf.j0 k a0 (wrap64 (1970 + t186))))) = some (r1, r2, r3) := h
 clear h
 replace H := Option.bind_eq_some_iff.mp H
 obtain ⟨t186, A20, H⟩ := H
 replace H : (if a0 < 0 then ((spec_floorDiv.f a0 365).bind fun t187 => (spec_CronDateOf.j0 k a0 (wrap64 ((wrap64 (1970 + t187)) - 1)))) else (spec_CronDateOf.j0 k a0 (wrap64 (1970 + t186)))) = some (r1, r2, r3) := H
 have A2 := Aside0.mk A20
 clear A20
 have HC3 := Aside0.mk H
 clear H
 go_enter Tryz.func84, Tryz.ntmps84
 go_upto_if 10 with (first | ((with_reducible refine gate_dst (N := 2) rfl ?_); refine box_event ?hg (N := 2) ?hd (cs := #[.int .i64 0, .int .i64 0, .int .i64 0]) (t := 83) ?hr ?_; (case hd => rfl); (case hg => rfl); (case hr => first | (go_simp; done) | (go_simp; rfl)); intro gb185 hg w4 hbox hb; have n0_ := Aside0.mk (below_step (by repeat (first | (with_reducible first | exact HB.out | apply below_alloc | apply pw_below_drewN | apply below_drew1) | exact HB.out)) hb); have n1_ := Aside0.mk (hbox); have n2_ := Aside0.mk ((by rw [hg]; exact (below_size (by repeat (first | (with_reducible first | exact HB.out | apply below_alloc | apply pw_below_drewN | apply below_drew1) | exact HB.out))) : w.heap.size ≤ gb185)); have n3_ := Aside0.mk ((by rw [hg]; exact (below_size (by repeat (first | (with_reducible first | exact HB.out | apply below_alloc | apply pw_below_drewN | apply below_drew1) | exact HB.out))) : w.heap.size ≤ gb185)); clear HB; have HB := n0_; have BK185 := n1_; have GW185 := n2_; have GE185 := n3_; clear n0_ n1_ n2_ n3_; clear hb hbox hg) | ((with_reducible refine gate_callee (f := 85) rfl ?_); refine goesL_ (some 7) rfl rfl Tryz.func85 (by kernel_rfl) rfl #[.int .i64 a0, .int .i64 366] rfl (by (try simp only [List.map_toArray, List.map_cons, List.map_nil]); first | done | rfl | (simp only [List.length_drop, List.length_take]; rfl)) ?_; (with_reducible refine (spec_floorDiv.calls a0 366 t186 _ A2.out).mono ?_); rintro e w' ⟨rfl, ⟨nd, rfl⟩⟩; refine ⟨_, rfl, ?_⟩))
 (try simp only [Act.put, List.setIfInBounds_toArray, List.set_cons_zero, List.set_cons_succ])
 go_cut [3] (fun v3 wc => ∃ (kq : Nat) (x3_2 : Int), v3 = .int .i64 x3_2 ∧ Aside0 (spec_CronDateOf.j0 kq a0 x3_2 = some (r1, r2, r3)) ∧ Aside0 (kq ≤ k) ∧ Aside0 (wc.heap[gb185]? = some (.cells #[.int .i64 0, .int .i64 0, .int .i64 0] 83 (0, 0))) ∧ Aside0 (Below w.heap.size w wc))
 case first =>
  have H := HC3.out
  clear HC3
  by_cases c5 : a0 < 0
  ·rw [if_pos c5] at H
   have c5b0 : decide (a0 < 0) = true := decide_eq_true c5
   clear c5
   (first | rw [c5b0] | (simp only [i64_w, i32_w]; rw [c5b0]) | skip)
   replace H := Option.bind_eq_some_iff.mp H
   obtain ⟨t187, A60, H⟩ := H
   replace H : (spec_CronDateOf.j0 k a0 (wrap64 ((wrap64 (1970 + t187)) - 1))) = some (r1, r2, r3) := H
   have A6 := Aside0.mk A60
   clear A60
   have H' := Aside0.mk H
   clear H
   go_wp2_with (first | ((with_reducible refine gate_callee (f := 85) rfl ?_); refine goesL_ (some 12) rfl rfl Tryz.func85 (by kernel_rfl) rfl #[.int .i64 a0, .int .i64 365] rfl (by (try simp only [List.map_toArray, List.map_cons, List.map_nil]); first | done | rfl | (simp only [List.length_drop, List.length_take]; rfl)) ?_; (with_reducible refine (spec_floorDiv.calls a0 365 t187 _ A6.out).mono ?_); rintro e w' ⟨rfl, ⟨nd, rfl⟩⟩; refine ⟨_, rfl, ?_⟩))
   go_meet
   case rel => exact ⟨_, (wrap64 ((wrap64 (1970 + t187)) - 1)), (by first | rfl | (simp; done) | (simp [*]; done)), H', ⟨by first | omega | exact Nat.le_refl _⟩, ⟨by (with_reducible repeat (first | refine blk_drewN ?_ _ | refine blk_drew ?_ | refine blk_alloc ?_ _)); exact BK185.out⟩, ⟨by repeat (first | (with_reducible first | exact HB.out | apply below_alloc | apply pw_below_drewN | apply below_drew1 | refine below_set ?_ GE185.out) | exact HB.out)⟩⟩
  ·rw [if_neg c5] at H
   have c5b0 : decide (a0 < 0) = false := decide_eq_false c5
   clear c5
   (first | rw [c5b0] | (simp only [i64_w, i32_w]; rw [c5b0]) | skip)
   have H' := Aside0.mk H
   clear H
   go_wp2
   go_meet
   case rel => exact ⟨_, (wrap64 (1970 + t186)), (by first | rfl | (simp; done) | (simp [*]; done)), H', ⟨by first | omega | exact Nat.le_refl _⟩, ⟨by (with_reducible repeat (first | refine blk_drewN ?_ _ | refine blk_drew ?_ | refine blk_alloc ?_ _)); exact BK185.out⟩, ⟨by repeat (first | (with_reducible first | exact HB.out | apply below_alloc | apply pw_below_drewN | apply below_drew1 | refine below_set ?_ GE185.out) | exact HB.out)⟩⟩
 case rest =>
  clear HC3
  try clear p2
  try clear c5
  try clear c5b0
  try clear p6
  obtain ⟨kq, x3_2, rfl, HA, HJ2, BK185, HB⟩ := hcut
  cases kq with
  | zero => exact absurd HA.out (by simp [spec_CronDateOf.j0])
  | succ kj2 =>
   have H := HA.out
   clear HA
   simp only [spec_CronDateOf.j0] at H
   have H' := Aside0.mk H
   clear H
   go_wp2
   go_loopg [3] kj2 (fun kq v3 w' => ∃ (x3_2 : Int), v3 = .int .i64 x3_2 ∧ Aside0 (spec_CronDateOf.l0 kq a0 x3_2 = some (r1, r2, r3)) ∧ Aside0 (kq ≤ kj2) ∧ Aside0 (w'.heap[gb185]? = some (.cells #[.int .i64 0, .int .i64 0, .int .i64 0] 83 (0, 0))) ∧ Aside0 (Below w.heap.size w w'))
   case atStart => exact ⟨(x3_2), (by first | rfl | (simp; done) | (simp [*]; done)), H', ⟨Nat.le_refl _⟩, ⟨by (with_reducible repeat (first | refine blk_drewN ?_ _ | refine blk_drew ?_ | refine blk_alloc ?_ _)); exact BK185.out⟩, ⟨by repeat (first | (with_reducible first | exact HB.out | apply below_alloc | apply pw_below_drewN | apply below_drew1 | refine below_set ?_ GE185.out) | exact HB.out)⟩⟩
   case round =>
    clear H'
    try clear p2
    try clear c5
    try clear c5b0
    try clear p6
    try clear p2
    try clear p6
    obtain ⟨x3_2, rfl, HA, HK2, BK185, HB⟩ := hrel
    cases gk with
    | zero => exact absurd HA.out (by simp [spec_CronDateOf.l0])
    | succ k2 =>
     have H := HA.out
     clear HA
     simp only [spec_CronDateOf.l0] at H
     replace H := Option.bind_eq_some_iff.mp H
     obtain ⟨t188, A70, H⟩ := H
     replace H : (if t188 ≤ a0 then (spec_CronDateOf.l0 k2 a0 (wrap64 (x3_2 + 1))) else ((spec_CronYearStart.f x3_2).bind fun t189 => (spec_CronDateOf.l1 k2 x3_2 (wrap64 (a0 - t189)) 1))) = some (r1, r2, r3) := H
     have A7 := Aside0.mk A70
     clear A70
     by_cases c8 : t188 ≤ a0
     ·rw [if_pos c8] at H
      have c8b0 : decide (t188 ≤ a0) = true := decide_eq_true c8
      clear c8
      have H' := Aside0.mk H
      clear H
      go_wp2_with (first | ((with_reducible refine gate_callee (f := 130) rfl ?_); refine goesL_ (some 17) rfl rfl Tryz.func130 (by kernel_rfl) rfl #[.int .i64 (wrap64 (x3_2 + 1))] rfl (by (try simp only [List.map_toArray, List.map_cons, List.map_nil]); first | done | rfl | (simp only [List.length_drop, List.length_take]; rfl)) ?_; (with_reducible refine (spec_CronYearStart.calls (wrap64 (x3_2 + 1)) t188 _ A7.out).mono ?_); rintro e w' ⟨rfl, ⟨nd, rfl⟩⟩; refine ⟨_, rfl, ?_⟩))
      go_roundg k2
      case measure => have := HJ2.out; have := HK2.out; omega
      case rel => exact ⟨(wrap64 (x3_2 + 1)), (by first | rfl | (simp; done) | (simp [*]; done)), H', ⟨by have := HJ2.out; have := HK2.out; omega⟩, ⟨by (with_reducible repeat (first | refine blk_drewN ?_ _ | refine blk_drew ?_ | refine blk_alloc ?_ _)); exact BK185.out⟩, ⟨by repeat (first | (with_reducible first | exact HB.out | apply below_alloc | apply pw_below_drewN | apply below_drew1 | refine below_set ?_ GE185.out) | exact HB.out)⟩⟩
     ·rw [if_neg c8] at H
      have c8b0 : decide (t188 ≤ a0) = false := decide_eq_false c8
      clear c8
      replace H := Option.bind_eq_some_iff.mp H
      obtain ⟨t189, A90, H⟩ := H
      replace H : (spec_CronDateOf.l1 k2 x3_2 (wrap64 (a0 - t189)) 1) = some (r1, r2, r3) := H
      have A9 := Aside0.mk A90
      clear A90
      have H' := Aside0.mk H
      clear H
      go_wp2_with (first | ((with_reducible refine gate_callee (f := 130) rfl ?_); refine goesL_ (some 17) rfl rfl Tryz.func130 (by kernel_rfl) rfl #[.int .i64 (wrap64 (x3_2 + 1))] rfl (by (try simp only [List.map_toArray, List.map_cons, List.map_nil]); first | done | rfl | (simp only [List.length_drop, List.length_take]; rfl)) ?_; (with_reducible refine (spec_CronYearStart.calls (wrap64 (x3_2 + 1)) t188 _ A7.out).mono ?_); rintro e w' ⟨rfl, ⟨nd, rfl⟩⟩; refine ⟨_, rfl, ?_⟩) | ((with_reducible refine gate_callee (f := 130) rfl ?_); refine goesL_ (some 24) rfl rfl Tryz.func130 (by kernel_rfl) rfl #[.int .i64 x3_2] rfl (by (try simp only [List.map_toArray, List.map_cons, List.map_nil]); first | done | rfl | (simp only [List.length_drop, List.length_take]; rfl)) ?_; (with_reducible refine (spec_CronYearStart.calls x3_2 t189 _ A9.out).mono ?_); rintro e w' ⟨rfl, ⟨nd, rfl⟩⟩; refine ⟨_, rfl, ?_⟩))
      go_loopg [4, 5] k2 (fun kq v4 v5 w' => ∃ (x4_3 : Int) (x5_3 : Int), v4 = .int .i64 x4_3 ∧ v5 = .int .i64 x5_3 ∧ Aside0 (spec_CronDateOf.l1 kq x3_2 x4_3 x5_3 = some (r1, r2, r3)) ∧ Aside0 (kq ≤ k2) ∧ Aside0 (w'.heap[gb185]? = some (.cells #[.int .i64 0, .int .i64 0, .int .i64 0] 83 (0, 0))) ∧ Aside0 (Below w.heap.size w w'))
      case atStart => exact ⟨(wrap64 (a0 - t189)), (1), (by first | rfl | (simp; done) | (simp [*]; done)), (by first | rfl | (simp; done) | (simp [*]; done)), H', ⟨Nat.le_refl _⟩, ⟨by (with_reducible repeat (first | refine blk_drewN ?_ _ | refine blk_drew ?_ | refine blk_alloc ?_ _)); exact BK185.out⟩, ⟨by repeat (first | (with_reducible first | exact HB.out | apply below_alloc | apply pw_below_drewN | apply below_drew1 | refine below_set ?_ GE185.out) | exact HB.out)⟩⟩
      case round =>
       clear H'
       try clear c1
       try clear p2
       try clear c5
       try clear c5b0
       try clear p6
       try clear c8
       try clear c8b0
       try clear p2
       try clear p6
       obtain ⟨x4_3, x5_3, rfl, rfl, HA, HK3, BK185, HB⟩ := hrel
       cases gk with
       | zero => exact absurd HA.out (by simp [spec_CronDateOf.l1])
       | succ k3 =>
        have H := HA.out
        clear HA
        simp only [spec_CronDateOf.l1] at H
        replace H := Option.bind_eq_some_iff.mp H
        obtain ⟨t190, A100, H⟩ := H
        replace H : (if x4_3 ≥ t190 then ((spec_CronMonthDays.f x3_2 x5_3).bind fun t191 => (spec_CronDateOf.l1 k3 x3_2 (wrap64 (x4_3 - t191)) (wrap64 (x5_3 + 1)))) else (some (x3_2, x5_3, wrap64 (x4_3 + 1)))) = some (r1, r2, r3) := H
        have A10 := Aside0.mk A100
        clear A100
        by_cases c11 : x4_3 ≥ t190
        ·rw [if_pos c11] at H
         have c11b0 : decide (t190 ≤ x4_3) = true := decide_eq_true c11
         clear c11
         replace H := Option.bind_eq_some_iff.mp H
         obtain ⟨t191, A120, H⟩ := H
         replace H : (spec_CronDateOf.l1 k3 x3_2 (wrap64 (x4_3 - t191)) (wrap64 (x5_3 + 1))) = some (r1, r2, r3) := H
         have A12 := Aside0.mk A120
         clear A120
         have H' := Aside0.mk H
         clear H
         go_wp2_with (first | ((with_reducible refine gate_callee (f := 35) rfl ?_); refine goesL_ (some 29) rfl rfl Tryz.func35 (by kernel_rfl) rfl #[.int .i64 x3_2, .int .i64 x5_3] rfl (by (try simp only [List.map_toArray, List.map_cons, List.map_nil]); first | done | rfl | (simp only [List.length_drop, List.length_take]; rfl)) ?_; (with_reducible refine (spec_CronMonthDays.calls x3_2 x5_3 t190 _ A10.out).mono ?_); rintro e w' ⟨rfl, ⟨nd, rfl⟩⟩; refine ⟨_, rfl, ?_⟩) | ((with_reducible refine gate_callee (f := 35) rfl ?_); refine goesL_ (some 34) rfl rfl Tryz.func35 (by kernel_rfl) rfl #[.int .i64 x3_2, .int .i64 x5_3] rfl (by (try simp only [List.map_toArray, List.map_cons, List.map_nil]); first | done | rfl | (simp only [List.length_drop, List.length_take]; rfl)) ?_; (with_reducible refine (spec_CronMonthDays.calls x3_2 x5_3 t191 _ A12.out).mono ?_); rintro e w' ⟨rfl, ⟨nd, rfl⟩⟩; refine ⟨_, rfl, ?_⟩))
         go_roundg k3
         case measure => have := HJ2.out; have := HK2.out; have := HK3.out; omega
         case rel => exact ⟨(wrap64 (x4_3 - t191)), (wrap64 (x5_3 + 1)), (by first | rfl | (simp; done) | (simp [*]; done)), (by first | rfl | (simp; done) | (simp [*]; done)), H', ⟨by have := HJ2.out; have := HK2.out; have := HK3.out; omega⟩, ⟨by (with_reducible repeat (first | refine blk_drewN ?_ _ | refine blk_drew ?_ | refine blk_alloc ?_ _)); exact BK185.out⟩, ⟨by repeat (first | (with_reducible first | exact HB.out | apply below_alloc | apply pw_below_drewN | apply below_drew1 | refine below_set ?_ GE185.out) | exact HB.out)⟩⟩
        ·rw [if_neg c11] at H
         have c11b0 : decide (t190 ≤ x4_3) = false := decide_eq_false c11
         clear c11
         simp only [Option.some.injEq, Prod.mk.injEq] at H
         obtain ⟨rfl, rfl, rfl⟩ := H
         go_wp2_with (first | ((with_reducible refine gate_callee (f := 35) rfl ?_); refine goesL_ (some 29) rfl rfl Tryz.func35 (by kernel_rfl) rfl #[.int .i64 x3_2, .int .i64 x5_3] rfl (by (try simp only [List.map_toArray, List.map_cons, List.map_nil]); first | done | rfl | (simp only [List.length_drop, List.length_take]; rfl)) ?_; (with_reducible refine (spec_CronMonthDays.calls x3_2 x5_3 t190 _ A10.out).mono ?_); rintro e w' ⟨rfl, ⟨nd, rfl⟩⟩; refine ⟨_, rfl, ?_⟩; (try (rw [drewN_self wr]; generalize hq_ : World.drewN wr _ = wr; have n0_ : Aside0 (wr.heap[gb185]? = some (.cells #[.int .i64 0, .int .i64 0, .int .i64 0] 83 (0, 0))) := ⟨by rw [← hq_]; exact (by (with_reducible repeat (first | refine blk_drewN ?_ _ | refine blk_drew ?_ | refine blk_alloc ?_ _)); exact BK185.out)⟩; have n1_ : Aside0 (Below w.heap.size w wr) := ⟨by rw [← hq_]; exact (by repeat (first | (with_reducible first | exact HB.out | apply below_alloc | apply pw_below_drewN | apply below_drew1 | refine below_set ?_ GE185.out) | exact HB.out))⟩; clear BK185 HB hq_; have BK185 := n0_; have HB := n1_; clear n0_ n1_)); have hcz13_0 : wr.cell? ⟨gb185, 0, none⟩ = some (.int .i64 0) := (blk_cell BK185.out 0).trans rfl; have hcz13_1 : wr.cell? ⟨gb185, 1, none⟩ = some (.int .i64 0) := (blk_cell BK185.out 1).trans rfl; have hcz13_2 : wr.cell? ⟨gb185, 2, none⟩ = some (.int .i64 0) := (blk_cell BK185.out 2).trans rfl; have hfz13_0 := blk_frozen BK185.out 0; have hfz13_1 := blk_frozen BK185.out 1; have hfz13_2 := blk_frozen BK185.out 2))
         refine bodyPost_ret (results_cell_row rfl _ _ gb185 83 #[.int .i64 x3_2, .int .i64 x5_3, .int .i64 (wrap64 (x4_3 + 1))] (0, 0) _ rfl (by (with_reducible repeat (first | refine blk_drewN ?_ _ | refine blk_drew ?_ | refine blk_alloc ?_ _)); refine blk_put (cs := #[.int .i64 x3_2, .int .i64 x5_3, .int .i64 0]) ?_ 2 _ rfl; (with_reducible repeat (first | refine blk_drewN ?_ _ | refine blk_drew ?_ | refine blk_alloc ?_ _)); refine blk_put (cs := #[.int .i64 x3_2, .int .i64 0, .int .i64 0]) ?_ 1 _ rfl; (with_reducible repeat (first | refine blk_drewN ?_ _ | refine blk_drew ?_ | refine blk_alloc ?_ _)); refine blk_put (cs := #[.int .i64 0, .int .i64 0, .int .i64 0]) ?_ 0 _ rfl; (with_reducible repeat (first | refine blk_drewN ?_ _ | refine blk_drew ?_ | refine blk_alloc ?_ _)); exact BK185.out) Tryz.underlying83 rfl (by kernel_rfl)) rfl ?_
         exact ⟨by first | rfl | (simp [errW_none, errW_some] <;> rfl) | (simp [*, errW_none, errW_some] <;> rfl), by repeat (first | (with_reducible first | exact HB.out | apply below_alloc | apply pw_below_drewN | apply below_drew1 | refine below_set ?_ GE185.out) | exact HB.out)⟩
end Go.Proofs.YtmecbmgfacpecaaGreatDoor.Pr
namespace Go.Proofs.YtmecbmgfacpecaaGreatDoor.Pr
open Go.RowKit Go.Proofs.YtmecbmgfacpecaaGreatDoorW.PrintWords Go.Proofs.YtmecbmgfacpecaaGreatDoorW.PrintLast Go.Proofs.YtmecbmgfacpecaaGreatDoorW.PrintMore
attribute [local go_sem] max2_int min2_int max_two min_two max_three min_three max_four min_four   -- for this text's walks alone
set_option linter.unusedVariables false
set_option linter.unusedSimpArgs false
def spec_floorMod.f (a0 : Int) (a1 : Int) : Option (Int) := (spec_floorDiv.f a0 a1).bind fun t194 => (some (wrap64 (a0 - (wrap64 (a1 * t194)))))
set_option maxHeartbeats 8000000 in
set_option maxRecDepth 100000 in
theorem spec_floorMod.calls (a0 : Int) (a1 : Int) (r : Int) (w : World) (h : spec_floorMod.f a0 a1 = some r) :
  Calls Tryz.prog 166 #[.int .i64 a0, .int .i64 a1] w fun e w' => e = .returned (.int .i64 r) ∧ Drawn0 w w' := by
 have H : ((spec_floorDiv.f a0 a1).bind fun t194 => (some (wrap64 (a0 - (wrap64 (a1 * t194)))))) = some r := h
 clear h
 replace H := Option.bind_eq_some_iff.mp H
 obtain ⟨t194, A30, H⟩ := H
 replace H : (some (wrap64 (a0 - (wrap64 (a1 * t194))))) = some r := H
 have A3 := Aside0.mk A30
 clear A30
 obtain rfl := Option.some.inj H
 go_enter Tryz.func166, Tryz.ntmps166
 go_wp2_with (first | ((with_reducible refine gate_callee (f := 85) rfl ?_); refine goesL_ (some 9) rfl rfl Tryz.func85 (by kernel_rfl) rfl #[.int .i64 a0, .int .i64 a1] rfl (by (try simp only [List.map_toArray, List.map_cons, List.map_nil]); first | done | rfl | (simp only [List.length_drop, List.length_take]; rfl)) ?_; (with_reducible refine (spec_floorDiv.calls a0 a1 t194 _ A3.out).mono ?_); rintro e w' ⟨rfl, ⟨nd, rfl⟩⟩; refine ⟨_, rfl, ?_⟩))
 go_ret
 exact ⟨by first | rfl | (simp; done) | (simp [*]; done), by repeat (first | exact Drawn0.refl _ | apply Drawn0.step)⟩
end Go.Proofs.YtmecbmgfacpecaaGreatDoor.Pr
namespace Go.Proofs.YtmecbmgfacpecaaGreatDoor.Pr
open Go.RowKit Go.Proofs.YtmecbmgfacpecaaGreatDoorW.PrintWords Go.Proofs.YtmecbmgfacpecaaGreatDoorW.PrintLast Go.Proofs.YtmecbmgfacpecaaGreatDoorW.PrintMore
attribute [local go_sem] max2_int min2_int max_two min_two max_three min_three max_four min_four   -- for this text's walks alone
set_option linter.unusedVariables false
set_option linter.unusedSimpArgs false
def spec_CronWeekday.f (a0 : Int) : Option (Int) := (spec_floorMod.f (wrap64 (a0 + 4)) 7).bind fun t195 => (some t195)
set_option maxHeartbeats 8000000 in
set_option maxRecDepth 100000 in
theorem spec_CronWeekday.calls (a0 : Int) (r : Int) (w : World) (h : spec_CronWeekday.f a0 = some r) :
  Calls Tryz.prog 129 #[.int .i64 a0] w fun e w' => e = .returned (.int .i64 r) ∧ Drawn0 w w' := by
 have H : ((spec_floorMod.f (wrap64 (a0 + 4)) 7).bind fun t195 => (some t195)) = some r := h
 clear h
 replace H := Option.bind_eq_some_iff.mp H
 obtain ⟨t195, A20, H⟩ := H
 replace H : (some t195) = some r := H
 have A2 := Aside0.mk A20
 clear A20
 obtain rfl := Option.some.inj H
 go_enter Tryz.func129, Tryz.ntmps129
 go_wp2_with (first | ((with_reducible refine gate_callee (f := 166) rfl ?_); refine goesL_ (some 5) rfl rfl Tryz.func166 (by kernel_rfl) rfl #[.int .i64 (wrap64 (a0 + 4)), .int .i64 7] rfl (by (try simp only [List.map_toArray, List.map_cons, List.map_nil]); first | done | rfl | (simp only [List.length_drop, List.length_take]; rfl)) ?_; (with_reducible refine (spec_floorMod.calls (wrap64 (a0 + 4)) 7 t195 _ A2.out).mono ?_); rintro e w' ⟨rfl, ⟨nd, rfl⟩⟩; refine ⟨_, rfl, ?_⟩))
 go_ret
 exact ⟨by first | rfl | (simp; done) | (simp [*]; done), by repeat (first | exact Drawn0.refl _ | apply Drawn0.step)⟩
end Go.Proofs.YtmecbmgfacpecaaGreatDoor.Pr
namespace Go.Proofs.YtmecbmgfacpecaaGreatDoor.Pr
open Go.RowKit Go.Proofs.YtmecbmgfacpecaaGreatDoorW.PrintWords Go.Proofs.YtmecbmgfacpecaaGreatDoorW.PrintLast Go.Proofs.YtmecbmgfacpecaaGreatDoorW.PrintMore
attribute [local go_sem] max2_int min2_int max_two min_two max_three min_three max_four min_four   -- for this text's walks alone
set_option linter.unusedVariables false
set_option linter.unusedSimpArgs false
def spec_CronGood.f (a0_0 : Int) (a0_1 : Int) : Option (Bool) := if (-62135596800) ≤ a0_0 then (if a0_0 ≤ 253402300799 then (if 0 ≤ a0_1 then (some (decide (a0_1 < 1000000000))) else (some false)) else (some false)) else (some false)
set_option maxHeartbeats 8000000 in
set_option maxRecDepth 100000 in
theorem spec_CronGood.calls (a0_0 : Int) (a0_1 : Int) (r : Bool) (w : World) (h : spec_CronGood.f a0_0 a0_1 = some r) :
  Calls Tryz.prog 20 #[.agg #[.int .i64 a0_0, .int .i64 a0_1]] w fun e w' => e = .returned (.bool r) ∧ Below w.heap.size w w' := by
 have hu50 := Tryz.underlying50
 have HB := Aside0.mk (Below.refl w.heap.size w)
 have H : (if (-62135596800) ≤ a0_0 then (if a0_0 ≤ 253402300799 then (if 0 ≤ a0_1 then (some (decide (a0_1 < 1000000000))) else (some false)) else (some false)) else (some false)) = some r := h
 clear h
 by_cases c2 : (-62135596800) ≤ a0_0
 ·rw [if_pos c2] at H
  have c2b0 : decide ((-62135596800) ≤ a0_0) = true := decide_eq_true c2
  clear c2
  by_cases c3 : a0_0 ≤ 253402300799
  ·rw [if_pos c3] at H
   have c3b0 : decide (a0_0 ≤ 253402300799) = true := decide_eq_true c3
   clear c3
   by_cases c4 : 0 ≤ a0_1
   ·rw [if_pos c4] at H
    have c4b0 : decide (0 ≤ a0_1) = true := decide_eq_true c4
    clear c4
    obtain rfl := Option.some.inj H
    go_enter Tryz.func20, Tryz.ntmps20
    go_wp2_with (first | ((with_reducible refine gate_dst (N := 1) rfl ?_); refine box_event ?hg (N := 1) ?hd (cs := #[.int .i64 a0_0, .int .i64 a0_1]) (t := 50) ?hr ?_; (case hd => rfl); (case hg => rfl); (case hr => first | (go_simp; done) | (go_simp; rfl)); intro gb101 hg w5 hbox hb; have n0_ := Aside0.mk (below_step (by repeat (first | (with_reducible first | exact HB.out | apply below_alloc | apply pw_below_drewN | apply below_drew1) | exact HB.out)) hb); have n1_ := Aside0.mk (hbox); have n2_ := Aside0.mk ((by rw [hg]; exact (below_size (by repeat (first | (with_reducible first | exact HB.out | apply below_alloc | apply pw_below_drewN | apply below_drew1) | exact HB.out))) : w.heap.size ≤ gb101)); have n3_ := Aside0.mk ((by rw [hg]; exact (below_size (by repeat (first | (with_reducible first | exact HB.out | apply below_alloc | apply pw_below_drewN | apply below_drew1) | exact HB.out))) : w.heap.size ≤ gb101)); clear HB; have HB := n0_; have BK101 := n1_; have GW101 := n2_; have GE101 := n3_; clear n0_ n1_ n2_ n3_; clear hb hbox hg; have hcz6_0 : w5.cell? ⟨gb101, 0, none⟩ = some (.int .i64 a0_0) := (blk_cell BK101.out 0).trans rfl; have hcz6_1 : w5.cell? ⟨gb101, 1, none⟩ = some (.int .i64 a0_1) := (blk_cell BK101.out 1).trans rfl; have hfz6_0 := blk_frozen BK101.out 0; have hfz6_1 := blk_frozen BK101.out 1))
    go_ret
    exact ⟨by first | rfl | (simp [errW_none, errW_some] <;> rfl) | (simp [*, errW_none, errW_some] <;> rfl), by repeat (first | (with_reducible first | exact HB.out | apply below_alloc | apply pw_below_drewN | apply below_drew1 | refine below_set ?_ GE101.out) | exact HB.out)⟩
   ·rw [if_neg c4] at H
    have c4b0 : decide (0 ≤ a0_1) = false := decide_eq_false c4
    clear c4
    obtain rfl := Option.some.inj H
    go_enter Tryz.func20, Tryz.ntmps20
    go_wp2_with (first | ((with_reducible refine gate_dst (N := 1) rfl ?_); refine box_event ?hg (N := 1) ?hd (cs := #[.int .i64 a0_0, .int .i64 a0_1]) (t := 50) ?hr ?_; (case hd => rfl); (case hg => rfl); (case hr => first | (go_simp; done) | (go_simp; rfl)); intro gb101 hg w7 hbox hb; have n0_ := Aside0.mk (below_step (by repeat (first | (with_reducible first | exact HB.out | apply below_alloc | apply pw_below_drewN | apply below_drew1) | exact HB.out)) hb); have n1_ := Aside0.mk (hbox); have n2_ := Aside0.mk ((by rw [hg]; exact (below_size (by repeat (first | (with_reducible first | exact HB.out | apply below_alloc | apply pw_below_drewN | apply below_drew1) | exact HB.out))) : w.heap.size ≤ gb101)); have n3_ := Aside0.mk ((by rw [hg]; exact (below_size (by repeat (first | (with_reducible first | exact HB.out | apply below_alloc | apply pw_below_drewN | apply below_drew1) | exact HB.out))) : w.heap.size ≤ gb101)); clear HB; have HB := n0_; have BK101 := n1_; have GW101 := n2_; have GE101 := n3_; clear n0_ n1_ n2_ n3_; clear hb hbox hg; have hcz8_0 : w7.cell? ⟨gb101, 0, none⟩ = some (.int .i64 a0_0) := (blk_cell BK101.out 0).trans rfl; have hcz8_1 : w7.cell? ⟨gb101, 1, none⟩ = some (.int .i64 a0_1) := (blk_cell BK101.out 1).trans rfl; have hfz8_0 := blk_frozen BK101.out 0; have hfz8_1 := blk_frozen BK101.out 1))
    go_ret
    exact ⟨by first | rfl | (simp [errW_none, errW_some] <;> rfl) | (simp [*, errW_none, errW_some] <;> rfl), by repeat (first | (with_reducible first | exact HB.out | apply below_alloc | apply pw_below_drewN | apply below_drew1 | refine below_set ?_ GE101.out) | exact HB.out)⟩
  ·rw [if_neg c3] at H
   have c3b0 : decide (a0_0 ≤ 253402300799) = false := decide_eq_false c3
   clear c3
   obtain rfl := Option.some.inj H
   go_enter Tryz.func20, Tryz.ntmps20
   go_wp2_with (first | ((with_reducible refine gate_dst (N := 1) rfl ?_); refine box_event ?hg (N := 1) ?hd (cs := #[.int .i64 a0_0, .int .i64 a0_1]) (t := 50) ?hr ?_; (case hd => rfl); (case hg => rfl); (case hr => first | (go_simp; done) | (go_simp; rfl)); intro gb101 hg w9 hbox hb; have n0_ := Aside0.mk (below_step (by repeat (first | (with_reducible first | exact HB.out | apply below_alloc | apply pw_below_drewN | apply below_drew1) | exact HB.out)) hb); have n1_ := Aside0.mk (hbox); have n2_ := Aside0.mk ((by rw [hg]; exact (below_size (by repeat (first | (with_reducible first | exact HB.out | apply below_alloc | apply pw_below_drewN | apply below_drew1) | exact HB.out))) : w.heap.size ≤ gb101)); have n3_ := Aside0.mk ((by rw [hg]; exact (below_size (by repeat (first | (with_reducible first | exact HB.out | apply below_alloc | apply pw_below_drewN | apply below_drew1) | exact HB.out))) : w.heap.size ≤ gb101)); clear HB; have HB := n0_; have BK101 := n1_; have GW101 := n2_; have GE101 := n3_; clear n0_ n1_ n2_ n3_; clear hb hbox hg; have hcz10_0 : w9.cell? ⟨gb101, 0, none⟩ = some (.int .i64 a0_0) := (blk_cell BK101.out 0).trans rfl; have hcz10_1 : w9.cell? ⟨gb101, 1, none⟩ = some (.int .i64 a0_1) := (blk_cell BK101.out 1).trans rfl; have hfz10_0 := blk_frozen BK101.out 0; have hfz10_1 := blk_frozen BK101.out 1))
   go_ret
   exact ⟨by first | rfl | (simp [errW_none, errW_some] <;> rfl) | (simp [*, errW_none, errW_some] <;> rfl), by repeat (first | (with_reducible first | exact HB.out | apply below_alloc | apply pw_below_drewN | apply below_drew1 | refine below_set ?_ GE101.out) | exact HB.out)⟩
 ·rw [if_neg c2] at H
  have c2b0 : decide ((-62135596800) ≤ a0_0) = false := decide_eq_false c2
  clear c2
  obtain rfl := Option.some.inj H
  go_enter Tryz.func20, Tryz.ntmps20
  go_wp2_with (first | ((with_reducible refine gate_dst (N := 1) rfl ?_); refine box_event ?hg (N := 1) ?hd (cs := #[.int .i64 a0_0, .int .i64 a0_1]) (t := 50) ?hr ?_; (case hd => rfl); (case hg => rfl); (case hr => first | (go_simp; done) | (go_simp; rfl)); intro gb101 hg w11 hbox hb; have n0_ := Aside0.mk (below_step (by repeat (first | (with_reducible first | exact HB.out | apply below_alloc | apply pw_below_drewN | apply below_drew1) | exact HB.out)) hb); have n1_ := Aside0.mk (hbox); have n2_ := Aside0.mk ((by rw [hg]; exact (below_size (by repeat (first | (with_reducible first | exact HB.out | apply below_alloc | apply pw_below_drewN | apply below_drew1) | exact HB.out))) : w.heap.size ≤ gb101)); have n3_ := Aside0.mk ((by rw [hg]; exact (below_size (by repeat (first | (with_reducible first | exact HB.out | apply below_alloc | apply pw_below_drewN | apply below_drew1) | exact HB.out))) : w.heap.size ≤ gb101)); clear HB; have HB := n0_; have BK101 := n1_; have GW101 := n2_; have GE101 := n3_; clear n0_ n1_ n2_ n3_; clear hb hbox hg; have hcz12_0 : w11.cell? ⟨gb101, 0, none⟩ = some (.int .i64 a0_0) := (blk_cell BK101.out 0).trans rfl; have hcz12_1 : w11.cell? ⟨gb101, 1, none⟩ = some (.int .i64 a0_1) := (blk_cell BK101.out 1).trans rfl; have hfz12_0 := blk_frozen BK101.out 0; have hfz12_1 := blk_frozen BK101.out 1))
  go_ret
  exact ⟨by first | rfl | (simp [errW_none, errW_some] <;> rfl) | (simp [*, errW_none, errW_some] <;> rfl), by repeat (first | (with_reducible first | exact HB.out | apply below_alloc | apply pw_below_drewN | apply below_drew1 | refine below_set ?_ GE101.out) | exact HB.out)⟩
end Go.Proofs.YtmecbmgfacpecaaGreatDoor.Pr
namespace Go.Proofs.YtmecbmgfacpecaaGreatDoor.Pr
open Go.RowKit Go.Proofs.YtmecbmgfacpecaaGreatDoorW.PrintWords Go.Proofs.YtmecbmgfacpecaaGreatDoorW.PrintLast Go.Proofs.YtmecbmgfacpecaaGreatDoorW.PrintMore
attribute [local go_sem] max2_int min2_int max_two min_two max_three min_three max_four min_four   -- for this text's walks alone
set_option linter.unusedVariables false
set_option linter.unusedSimpArgs false
def cron_zzIndex.l0 : Nat → ByteArray → ByteArray → Int → Option (Int)
 | 0, _, _, _ => none
 | k + 1, x0, x1, x5 => if (wrap64 (x5 + (x1.size : Int))) ≤ (x0.size : Int) then (if 0 ≤ x5 then (if x5 ≤ (wrap64 (x5 + (x1.size : Int))) then (if (x0.extract (x5 : Int).toNat ((wrap64 (x5 + (x1.size : Int))) : Int).toNat).toList = x1.toList then (some x5) else (cron_zzIndex.l0 k x0 x1 (wrap64 (x5 + 1)))) else (none)) else (none)) else (some (-1))
def cron_zzIndex.f (k : Nat) (a0 : ByteArray) (a1 : ByteArray) : Option (Int) := cron_zzIndex.l0 k a0 a1 0
theorem cron_zzIndex.mono_l : ∀ k, (∀ y0 y1 y2, LeO (cron_zzIndex.l0 k y0 y1 y2) (cron_zzIndex.l0 (k + 1) y0 y1 y2))
 | 0 => fun _ _ _ r h => by simp [cron_zzIndex.l0] at h
 | k + 1 => by
  have ih0 := cron_zzIndex.mono_l k
  ·intro y0 y1 y2
   unfold cron_zzIndex.l0
   repeat' first
   | (with_reducible exact ih0 _ _ _)
   | (with_reducible exact LeO.refl _)
   | (with_reducible exact LeO.none _)
   | (with_reducible refine LeO.ite ?_ ?_)
   | (with_reducible refine LeO.bind ?_ (fun _ => ?_))
   | exact ih0 _ _ _
   | exact LeO.none _
   | refine LeO.ite ?_ ?_
   | refine LeO.bind ?_ (fun _ => ?_)
theorem cron_zzIndex.mono : ∀ a0 a1 k, LeO (cron_zzIndex.f k a0 a1) (cron_zzIndex.f (k + 1) a0 a1) := by
 intro a0 a1 k
 have ih0 := cron_zzIndex.mono_l k
 unfold cron_zzIndex.f
 repeat' first
   | (with_reducible exact ih0 _ _ _)
   | (with_reducible exact LeO.refl _)
   | (with_reducible exact LeO.none _)
   | (with_reducible refine LeO.ite ?_ ?_)
   | (with_reducible refine LeO.bind ?_ (fun _ => ?_))
   | exact ih0 _ _ _
   | exact LeO.none _
   | refine LeO.ite ?_ ?_
   | refine LeO.bind ?_ (fun _ => ?_)
set_option maxHeartbeats 8000000 in
set_option maxRecDepth 100000 in
theorem cron_zzIndex.calls (k : Nat) (a0 : ByteArray) (a1 : ByteArray) (r : Int) (w : World) (h : cron_zzIndex.f k a0 a1 = some r) :
  Calls Tryz.prog 98 #[.string a0, .string a1] w fun e w' => e = .returned (.int .i64 r) ∧ Drawn0 w w' := by
 have H : (cron_zzIndex.l0 k a0 a1 0) = some r := h
 clear h
 have H' := Aside0.mk H
 clear H
 go_enter Tryz.func98, Tryz.ntmps98
 go_wp2
 go_loopg [5] k (fun kq v5 w' => ∃ (x5_1 : Int), v5 = .int .i64 x5_1 ∧ Aside0 (cron_zzIndex.l0 kq a0 a1 x5_1 = some r) ∧ Aside0 (kq ≤ k) ∧ Drawn0 w w')
 case atStart => exact ⟨(0), (by first | rfl | (simp; done) | (simp [*]; done)), H', ⟨Nat.le_refl _⟩, by repeat (first | exact Drawn0.refl _ | apply Drawn0.step)⟩
 case round =>
  clear H'
  try clear p2
  obtain ⟨x5_1, rfl, HA, HK1, ⟨m1, rfl⟩⟩ := hrel
  cases gk with
  | zero => exact absurd HA.out (by simp [cron_zzIndex.l0])
  | succ k1 =>
   have H := HA.out
   clear HA
   simp only [cron_zzIndex.l0] at H
   by_cases c3 : (wrap64 (x5_1 + (a1.size : Int))) ≤ (a0.size : Int)
   ·rw [if_pos c3] at H
    have c3b0 : decide ((wrap64 (x5_1 + (a1.size : Int))) ≤ (a0.size : Int)) = true := decide_eq_true c3
    clear c3
    by_cases c4 : 0 ≤ x5_1
    ·rw [if_pos c4] at H
     have c4b0 := eq_true c4
     have c4b1 : decide (0 ≤ x5_1) = true := decide_eq_true c4
     clear c4
     by_cases c5 : x5_1 ≤ (wrap64 (x5_1 + (a1.size : Int)))
     ·rw [if_pos c5] at H
      have c5b0 := eq_true c5
      have c5b1 : decide (x5_1 ≤ (wrap64 (x5_1 + (a1.size : Int)))) = true := decide_eq_true c5
      have c6b0 := eq_true (of_decide_eq_true (by first | (with_reducible assumption) | assumption) : (wrap64 (x5_1 + (a1.size : Int))) ≤ (a0.size : Int))
      by_cases c7 : (a0.extract (x5_1 : Int).toNat ((wrap64 (x5_1 + (a1.size : Int))) : Int).toNat).toList = a1.toList
      ·rw [if_pos c7] at H
       have c7b0 : ((a0.extract (x5_1 : Int).toNat ((wrap64 (x5_1 + (a1.size : Int))) : Int).toNat).toList == a1.toList) = true := beq_iff_eq.mpr c7
       have c7b1 : ((a0.extract (x5_1 : Int).toNat ((wrap64 (x5_1 + (a1.size : Int))) : Int).toNat).toList != a1.toList) = false := bne_eq_false_iff_eq.mpr c7
       clear c7
       obtain rfl := Option.some.inj H
       go_wp2
       go_ret
       exact ⟨by first | rfl | (simp; done) | (simp [*]; done), by repeat (first | exact Drawn0.refl _ | apply Drawn0.step)⟩
      ·rw [if_neg c7] at H
       have c7b0 : ((a0.extract (x5_1 : Int).toNat ((wrap64 (x5_1 + (a1.size : Int))) : Int).toNat).toList == a1.toList) = false := beq_eq_false_iff_ne.mpr c7
       have c7b1 : ((a0.extract (x5_1 : Int).toNat ((wrap64 (x5_1 + (a1.size : Int))) : Int).toNat).toList != a1.toList) = true := bne_iff_ne.mpr c7
       have H' := Aside0.mk H
       clear H
       go_wp2
       go_roundg k1
       case measure => have := HK1.out; omega
       case rel => exact ⟨(wrap64 (x5_1 + 1)), (by first | rfl | (simp; done) | (simp [*]; done)), H', ⟨by have := HK1.out; omega⟩, by repeat (first | exact Drawn0.refl _ | apply Drawn0.step)⟩
     ·rw [if_neg c5] at H
      exact absurd H (by simp)
    ·rw [if_neg c4] at H
     exact absurd H (by simp)
   ·rw [if_neg c3] at H
    have c3b0 : decide ((wrap64 (x5_1 + (a1.size : Int))) ≤ (a0.size : Int)) = false := decide_eq_false c3
    clear c3
    obtain rfl := Option.some.inj H
    go_wp2
    go_ret
    exact ⟨by first | rfl | (simp; done) | (simp [*]; done), by repeat (first | exact Drawn0.refl _ | apply Drawn0.step)⟩
end Go.Proofs.YtmecbmgfacpecaaGreatDoor.Pr
namespace Go.Proofs.YtmecbmgfacpecaaGreatDoor.Pr
open Go.RowKit Go.Proofs.YtmecbmgfacpecaaGreatDoorW.PrintWords Go.Proofs.YtmecbmgfacpecaaGreatDoorW.PrintLast Go.Proofs.YtmecbmgfacpecaaGreatDoorW.PrintMore
attribute [local go_sem] max2_int min2_int max_two min_two max_three min_three max_four min_four   -- for this text's walks alone
set_option linter.unusedVariables false
set_option linter.unusedSimpArgs false
mutual
def spec_CronName.j0 : Nat → Int → Int → ByteArray → Option (ByteArray)
 | 0, _, _, _ => none
 | k + 1, x0, x1, x5 => if x0 = 5 then (spec_CronName.j1 k x0 x1 (⟨#[83, 85, 78, 77, 79, 78, 84, 85, 69, 87, 69, 68, 84, 72, 85, 70, 82, 73, 83, 65, 84]⟩ : ByteArray)) else (spec_CronName.j1 k x0 x1 x5)
def spec_CronName.j1 : Nat → Int → Int → ByteArray → Option (ByteArray)
 | 0, _, _, _ => none
 | k + 1, x0, x1, x5 => if x5.toList = ([] : List UInt8) then (some (⟨#[]⟩ : ByteArray)) else ((spec_CronLow.f x0).bind fun t132 => (if x1 < t132 then (some (⟨#[]⟩ : ByteArray)) else ((spec_CronHigh.f x0).bind fun t133 => (if x1 > t133 then (some (⟨#[]⟩ : ByteArray)) else (if 0 ≤ (wrap64 (3 * x1)) then (if (wrap64 (3 * x1)) ≤ (wrap64 ((wrap64 (3 * x1)) + 3)) then (if (wrap64 ((wrap64 (3 * x1)) + 3)) ≤ (x5.size : Int) then (some (x5.extract ((wrap64 (3 * x1)) : Int).toNat ((wrap64 ((wrap64 (3 * x1)) + 3)) : Int).toNat)) else (none)) else (none)) else (none))))))
end
def spec_CronName.f (k : Nat) (a0 : Int) (a1 : Int) : Option (ByteArray) := if a0 = 4 then (spec_CronName.j0 k a0 a1 (⟨#[46, 46, 46, 74, 65, 78, 70, 69, 66, 77, 65, 82, 65, 80, 82, 77, 65, 89, 74, 85, 78, 74, 85, 76, 65, 85, 71, 83, 69, 80, 79, 67, 84, 78, 79, 86, 68, 69, 67]⟩ : ByteArray)) else (spec_CronName.j0 k a0 a1 (⟨#[]⟩ : ByteArray))
theorem spec_CronName.mono_l : ∀ k, (∀ y0 y1 y2, LeO (spec_CronName.j0 k y0 y1 y2) (spec_CronName.j0 (k + 1) y0 y1 y2)) ∧ (∀ y0 y1 y2, LeO (spec_CronName.j1 k y0 y1 y2) (spec_CronName.j1 (k + 1) y0 y1 y2))
 | 0 => ⟨fun _ _ _ r h => by simp [spec_CronName.j0] at h, fun _ _ _ r h => by simp [spec_CronName.j1] at h⟩
 | k + 1 => by
  obtain ⟨ih0, ih1⟩ := spec_CronName.mono_l k
  refine ⟨?_, ?_⟩
  ·intro y0 y1 y2
   unfold spec_CronName.j0
   repeat' first
   | (with_reducible exact ih0 _ _ _)
   | (with_reducible exact ih1 _ _ _)
   | (with_reducible exact LeO.refl _)
   | (with_reducible exact LeO.none _)
   | (with_reducible refine LeO.ite ?_ ?_)
   | (with_reducible refine LeO.bind ?_ (fun _ => ?_))
   | exact ih0 _ _ _
   | exact ih1 _ _ _
   | exact LeO.none _
   | refine LeO.ite ?_ ?_
   | refine LeO.bind ?_ (fun _ => ?_)
  ·intro y0 y1 y2
   unfold spec_CronName.j1
   repeat' first
   | (with_reducible exact ih0 _ _ _)
   | (with_reducible exact ih1 _ _ _)
   | (with_reducible exact LeO.refl _)
   | (with_reducible exact LeO.none _)
   | (with_reducible refine LeO.ite ?_ ?_)
   | (with_reducible refine LeO.bind ?_ (fun _ => ?_))
   | exact ih0 _ _ _
   | exact ih1 _ _ _
   | exact LeO.none _
   | refine LeO.ite ?_ ?_
   | refine LeO.bind ?_ (fun _ => ?_)
theorem spec_CronName.mono : ∀ a0 a1 k, LeO (spec_CronName.f k a0 a1) (spec_CronName.f (k + 1) a0 a1) := by
 intro a0 a1 k
 obtain ⟨ih0, ih1⟩ := spec_CronName.mono_l k
 unfold spec_CronName.f
 repeat' first
   | (with_reducible exact ih0 _ _ _)
   | (with_reducible exact ih1 _ _ _)
   | (with_reducible exact LeO.refl _)
   | (with_reducible exact LeO.none _)
   | (with_reducible refine LeO.ite ?_ ?_)
   | (with_reducible refine LeO.bind ?_ (fun _ => ?_))
   | exact ih0 _ _ _
   | exact ih1 _ _ _
   | exact LeO.none _
   | refine LeO.ite ?_ ?_
   | refine LeO.bind ?_ (fun _ => ?_)
set_option maxHeartbeats 8000000 in
set_option maxRecDepth 100000 in
theorem spec_CronName.calls (k : Nat) (a0 : Int) (a1 : Int) (r : ByteArray) (w : World) (h : spec_CronName.f k a0 a1 = some r) :
  Calls Tryz.prog 191 #[.int .i64 a0, .int .i64 a1] w fun e w' => e = .returned (.string r) ∧ Drawn0 w w' := by
 have H : (if a0 = 4 then (spec_CronName.j0 k a0 a1 (⟨#[46, 46, 46, 74, 65, 78, 70, 69, 66, 77, 65, 82, 65, 80, 82, 77, 65, 89, 74, 85, 78, 74, 85, 76, 65, 85, 71, 83, 69, 80, 79, 67, 84, 78, 79, 86, 68, 69, 67]⟩ : ByteArray)) else (spec_CronName.j0 k a0 a1 (⟨#[]⟩ : ByteArray))) = some r := h
 clear h
 have HC3 := Aside0.mk H
 clear H
 go_enter Tryz.func191, Tryz.ntmps191
 go_upto_if 7 with (fail)
 go_cut [5] (fun v5 wc => ∃ (kq : Nat) (x5_2 : ByteArray), v5 = .string x5_2 ∧ Aside0 (spec_CronName.j0 kq a0 a1 x5_2 = some r) ∧ Aside0 (kq ≤ k) ∧ Drawn0 w wc)
 case first =>
  have H := HC3.out
  clear HC3
  by_cases c4 : a0 = 4
  ·rw [if_pos c4] at H
   have c4b0 : (a0 == 4) = true := beq_iff_eq.mpr c4
   have c4b1 : (a0 != 4) = false := bne_eq_false_iff_eq.mpr c4
   clear c4
   (first | rw [c4b0] | (simp only [i64_w, i32_w]; rw [c4b0]) | skip)
   have H' := Aside0.mk H
   clear H
   go_wp2
   go_meet
   case rel => exact ⟨_, ((⟨#[46, 46, 46, 74, 65, 78, 70, 69, 66, 77, 65, 82, 65, 80, 82, 77, 65, 89, 74, 85, 78, 74, 85, 76, 65, 85, 71, 83, 69, 80, 79, 67, 84, 78, 79, 86, 68, 69, 67]⟩ : ByteArray)), (by first | rfl | (simp; done) | (simp [*]; done)), H', ⟨by first | omega | exact Nat.le_refl _⟩, by repeat (first | exact Drawn0.refl _ | apply Drawn0.step)⟩
  ·rw [if_neg c4] at H
   have c4b0 : (a0 == 4) = false := beq_eq_false_iff_ne.mpr c4
   have c4b1 : (a0 != 4) = true := bne_iff_ne.mpr c4
   (first | rw [c4b0] | (simp only [i64_w, i32_w]; rw [c4b0]) | skip)
   have H' := Aside0.mk H
   clear H
   go_wp2
   go_meet
   case rel => exact ⟨_, ((⟨#[]⟩ : ByteArray)), (by first | rfl | (simp; done) | (simp [*]; done)), H', ⟨by first | omega | exact Nat.le_refl _⟩, by repeat (first | exact Drawn0.refl _ | apply Drawn0.step)⟩
 case rest =>
  clear HC3
  try clear c1
  try clear p2
  try clear c4
  try clear c4b0
  try clear c4b1
  obtain ⟨kq, x5_2, rfl, HA, HJ2, ⟨mc2, rfl⟩⟩ := hcut
  cases kq with
  | zero => exact absurd HA.out (by simp [spec_CronName.j0])
  | succ kj2 =>
   have H := HA.out
   clear HA
   simp only [spec_CronName.j0] at H
   have HC5 := Aside0.mk H
   clear H
   go_upto_if 9 with (fail)
   go_cut [5] (fun v5 wc => ∃ (kq : Nat) (x5_4 : ByteArray), v5 = .string x5_4 ∧ Aside0 (spec_CronName.j1 kq a0 a1 x5_4 = some r) ∧ Aside0 (kq ≤ kj2) ∧ Drawn0 w wc)
   case first =>
    have H := HC5.out
    clear HC5
    by_cases c6 : a0 = 5
    ·rw [if_pos c6] at H
     have c6b0 : (a0 == 5) = true := beq_iff_eq.mpr c6
     have c6b1 : (a0 != 5) = false := bne_eq_false_iff_eq.mpr c6
     clear c6
     (first | rw [c6b0] | (simp only [i64_w, i32_w]; rw [c6b0]) | skip)
     have H' := Aside0.mk H
     clear H
     go_wp2
     go_meet
     case rel => exact ⟨_, ((⟨#[83, 85, 78, 77, 79, 78, 84, 85, 69, 87, 69, 68, 84, 72, 85, 70, 82, 73, 83, 65, 84]⟩ : ByteArray)), (by first | rfl | (simp; done) | (simp [*]; done)), H', ⟨by have := HJ2.out; first | omega | exact Nat.le_refl _⟩, by repeat (first | exact Drawn0.refl _ | apply Drawn0.step)⟩
    ·rw [if_neg c6] at H
     have c6b0 : (a0 == 5) = false := beq_eq_false_iff_ne.mpr c6
     have c6b1 : (a0 != 5) = true := bne_iff_ne.mpr c6
     (first | rw [c6b0] | (simp only [i64_w, i32_w]; rw [c6b0]) | skip)
     have H' := Aside0.mk H
     clear H
     go_wp2
     go_meet
     case rel => exact ⟨_, (x5_2), (by first | rfl | (simp; done) | (simp [*]; done)), H', ⟨by have := HJ2.out; first | omega | exact Nat.le_refl _⟩, by repeat (first | exact Drawn0.refl _ | apply Drawn0.step)⟩
   case rest =>
    clear HC5
    try clear c1
    try clear c2
    try clear p2
    try clear c4
    try clear c4b0
    try clear c4b1
    try clear c6
    try clear c6b0
    try clear c6b1
    try clear p2
    obtain ⟨kq, x5_4, rfl, HA, HJ4, ⟨mc4, rfl⟩⟩ := hcut
    cases kq with
    | zero => exact absurd HA.out (by simp [spec_CronName.j1])
    | succ kj4 =>
     have H := HA.out
     clear HA
     simp only [spec_CronName.j1] at H
     by_cases c7 : x5_4.toList = ([] : List UInt8)
     ·rw [if_pos c7] at H
      have c7b0 : (x5_4.toList == ([] : List UInt8)) = true := beq_iff_eq.mpr c7
      have c7b1 : (x5_4.toList != ([] : List UInt8)) = false := bne_eq_false_iff_eq.mpr c7
      clear c7
      obtain rfl := Option.some.inj H
      go_wp2
      go_ret
      exact ⟨by first | rfl | (simp; done) | (simp [*]; done), by repeat (first | exact Drawn0.refl _ | apply Drawn0.step)⟩
     ·rw [if_neg c7] at H
      have c7b0 : (x5_4.toList == ([] : List UInt8)) = false := beq_eq_false_iff_ne.mpr c7
      have c7b1 : (x5_4.toList != ([] : List UInt8)) = true := bne_iff_ne.mpr c7
      replace H := Option.bind_eq_some_iff.mp H
      obtain ⟨t132, A80, H⟩ := H
      replace H : (if a1 < t132 then (some (⟨#[]⟩ : ByteArray)) else ((spec_CronHigh.f a0).bind fun t133 => (if a1 > t133 then (some (⟨#[]⟩ : ByteArray)) else (if 0 ≤ (wrap64 (3 * a1)) then (if (wrap64 (3 * a1)) ≤ (wrap64 ((wrap64 (3 * a1)) + 3)) then (if (wrap64 ((wrap64 (3 * a1)) + 3)) ≤ (x5_4.size : Int) then (some (x5_4.extract ((wrap64 (3 * a1)) : Int).toNat ((wrap64 ((wrap64 (3 * a1)) + 3)) : Int).toNat)) else (none)) else (none)) else (none))))) = some r := H
      have A8 := Aside0.mk A80
      clear A80
      by_cases c9 : a1 < t132
      ·rw [if_pos c9] at H
       have c9b0 : decide (a1 < t132) = true := decide_eq_true c9
       clear c9
       obtain rfl := Option.some.inj H
       go_wp2_with (first | (go_at_call 60; (with_reducible refine (spec_CronLow.calls a0 t132 _ A8.out).mono ?_); rintro e w' ⟨rfl, ⟨nd, rfl⟩⟩))
       go_ret
       exact ⟨by first | rfl | (simp; done) | (simp [*]; done), by repeat (first | exact Drawn0.refl _ | apply Drawn0.step)⟩
      ·rw [if_neg c9] at H
       have c9b0 : decide (a1 < t132) = false := decide_eq_false c9
       clear c9
       replace H := Option.bind_eq_some_iff.mp H
       obtain ⟨t133, A100, H⟩ := H
       replace H : (if a1 > t133 then (some (⟨#[]⟩ : ByteArray)) else (if 0 ≤ (wrap64 (3 * a1)) then (if (wrap64 (3 * a1)) ≤ (wrap64 ((wrap64 (3 * a1)) + 3)) then (if (wrap64 ((wrap64 (3 * a1)) + 3)) ≤ (x5_4.size : Int) then (some (x5_4.extract ((wrap64 (3 * a1)) : Int).toNat ((wrap64 ((wrap64 (3 * a1)) + 3)) : Int).toNat)) else (none)) else (none)) else (none))) = some r := H
       have A10 := Aside0.mk A100
       clear A100
       by_cases c11 : a1 > t133
       ·rw [if_pos c11] at H
        have c11b0 : decide (t133 < a1) = true := decide_eq_true c11
        clear c11
        obtain rfl := Option.some.inj H
        go_wp2_with (first | (go_at_call 60; (with_reducible refine (spec_CronLow.calls a0 t132 _ A8.out).mono ?_); rintro e w' ⟨rfl, ⟨nd, rfl⟩⟩) | (go_at_call 61; (with_reducible refine (spec_CronHigh.calls a0 t133 _ A10.out).mono ?_); rintro e w' ⟨rfl, ⟨nd, rfl⟩⟩))
        go_ret
        exact ⟨by first | rfl | (simp; done) | (simp [*]; done), by repeat (first | exact Drawn0.refl _ | apply Drawn0.step)⟩
       ·rw [if_neg c11] at H
        have c11b0 : decide (t133 < a1) = false := decide_eq_false c11
        clear c11
        obtain ⟨ji12, hji12⟩ : ∃ j_ : Int, (wrap64 (3 * a1)) = j_ := ⟨_, rfl⟩
        replace H : (if 0 ≤ (ji12) then (if (ji12) ≤ (wrap64 ((ji12) + 3)) then (if (wrap64 ((ji12) + 3)) ≤ (x5_4.size : Int) then (some (x5_4.extract ((ji12) : Int).toNat ((wrap64 ((ji12) + 3)) : Int).toNat)) else (none)) else (none)) else (none)) = some r := by first | (rw [hji12] at H; exact H) | (simp only [hji12] at H ⊢; exact H)
        (try rw [hji12] at A8)
        (try rw [hji12] at A10)
        have hji12w : (IntKind.i64.wrap (3 * a1)) = ji12 := (i64_w _).trans hji12
        by_cases c13 : 0 ≤ (ji12)
        ·rw [if_pos c13] at H
         have c13b0 := eq_true c13
         have c13b1 : decide (0 ≤ (ji12)) = true := decide_eq_true c13
         clear c13
         by_cases c14 : (ji12) ≤ (wrap64 ((ji12) + 3))
         ·rw [if_pos c14] at H
          have c14b0 := eq_true c14
          have c14b1 : decide ((ji12) ≤ (wrap64 ((ji12) + 3))) = true := decide_eq_true c14
          by_cases c15 : (wrap64 ((ji12) + 3)) ≤ (x5_4.size : Int)
          ·rw [if_pos c15] at H
           have c15b0 := eq_true c15
           have c15b1 : decide ((wrap64 ((ji12) + 3)) ≤ (x5_4.size : Int)) = true := decide_eq_true c15
           obtain rfl := Option.some.inj H
           go_wp2_with (first | (go_at_call 60; (with_reducible refine (spec_CronLow.calls a0 t132 _ A8.out).mono ?_); rintro e w' ⟨rfl, ⟨nd, rfl⟩⟩) | (go_at_call 61; (with_reducible refine (spec_CronHigh.calls a0 t133 _ A10.out).mono ?_); rintro e w' ⟨rfl, ⟨nd, rfl⟩⟩))
           go_ret
           exact ⟨by first | rfl | (simp; done) | (simp only [← hji12] <;> (first | rfl | simp)) | (simp [*]; done), by repeat (first | exact Drawn0.refl _ | apply Drawn0.step)⟩
          ·rw [if_neg c15] at H
           exact absurd H (by simp)
         ·rw [if_neg c14] at H
          exact absurd H (by simp)
        ·rw [if_neg c13] at H
         exact absurd H (by simp)
end Go.Proofs.YtmecbmgfacpecaaGreatDoor.Pr
namespace Go.Proofs.YtmecbmgfacpecaaGreatDoor.Pr
open Go.RowKit Go.Proofs.YtmecbmgfacpecaaGreatDoorW.PrintWords Go.Proofs.YtmecbmgfacpecaaGreatDoorW.PrintLast Go.Proofs.YtmecbmgfacpecaaGreatDoorW.PrintMore
attribute [local go_sem] max2_int min2_int max_two min_two max_three min_three max_four min_four   -- for this text's walks alone
set_option linter.unusedVariables false
set_option linter.unusedSimpArgs false
def spec_CronStyle_Pick.f (s0_0 : List Int) (s0_1 : Int) (a1 : Int) : Option (Int × Int) := if s0_1 ≥ (s0_0.length : Int) then (some (0, s0_1)) else (if 0 ≤ (wrap64 ((wrap64 (s0_1 + 1)) - 1)) then (if (wrap64 ((wrap64 (s0_1 + 1)) - 1)) < (s0_0.length : Int) then (if a1 = 0 then (none) else (some (Int.tmod (wrap64 (rd s0_0 (wrap64 ((wrap64 (s0_1 + 1)) - 1)))) a1, wrap64 (s0_1 + 1)))) else (none)) else (none))
set_option maxHeartbeats 8000000 in
set_option maxRecDepth 100000 in
theorem spec_CronStyle_Pick.calls (g : Nat) (s0_0 : List Int) (s0_1 : Int) (a1 : Int) (r1 : Int) (r2 : Int) (w0 w : World) (hI : IsS156 w0 w g s0_0 s0_1) (hB : Below w0.heap.size w0 w) (h : spec_CronStyle_Pick.f s0_0 s0_1 a1 = some (r1, r2)) :
  Calls Tryz.prog 81 #[.pointer (some ⟨g, 0, none⟩), .int .i64 a1] w fun e w' => e = .returned (.int .i64 r1) ∧ IsS156 w0 w' g s0_0 r2 ∧ Below w0.heap.size w0 w' ∧ KeepBut w w' g none := by
 have HI0 := Aside0.mk hI
 have HK := Aside0.mk (KeepBut.refl w g none)
 have HL := Aside0.mk hB.size
 clear hI
 have HW0 := Aside0.mk hB.size
 have HB := Aside0.mk hB
 clear hB
 have H : (if s0_1 ≥ (s0_0.length : Int) then (some (0, s0_1)) else (if 0 ≤ (wrap64 ((wrap64 (s0_1 + 1)) - 1)) then (if (wrap64 ((wrap64 (s0_1 + 1)) - 1)) < (s0_0.length : Int) then (if a1 = 0 then (none) else (some (Int.tmod (wrap64 (rd s0_0 (wrap64 ((wrap64 (s0_1 + 1)) - 1)))) a1, wrap64 (s0_1 + 1)))) else (none)) else (none))) = some (r1, r2) := h
 clear h
 by_cases c3 : s0_1 ≥ (s0_0.length : Int)
 ·rw [if_pos c3] at H
  have c3b0 : decide ((s0_0.length : Int) ≤ s0_1) = true := decide_eq_true c3
  clear c3
  simp only [Option.some.injEq, Prod.mk.injEq] at H
  obtain ⟨rfl, rfl⟩ := H
  obtain ⟨ASz4_0, cSz4_0, HGz4, hgz4, HSz4_0⟩ := HI0.out
  have hcz4_0 := cellS156_0 HGz4
  have hcz4_1 := cellS156_1 HGz4
  have hfz4_1 := blk_frozen HGz4 1
  clear HGz4 hgz4
  go_enter Tryz.func81, Tryz.ntmps81
  go_wp2
  repeat (go_quiet (fail); try go_wp2)
  go_ret
  exact ⟨by first | rfl | (simp [errW_none, errW_some] <;> rfl) | (simp [*, errW_none, errW_some] <;> rfl), by repeat (first | (with_reducible first | exact HI0.out | apply IsS156.alloc | apply IsS156.drewN | apply IsS156.drew | apply IsS156.set_1) | exact HI0.out), by repeat (first | (with_reducible first | exact HB.out | apply below_alloc | apply pw_below_drewN | apply below_drew1 | refine below_set ?_ (IsS156.ge HI0.out)) | exact HB.out), by repeat (first | (with_reducible first | exact HK.out | apply KeepBut.set_ | apply keep_drewN | apply keep_drew | apply keep_alloc) | exact HK.out)⟩
 ·rw [if_neg c3] at H
  have c3b0 : decide ((s0_0.length : Int) ≤ s0_1) = false := decide_eq_false c3
  clear c3
  obtain ⟨ji5, hji5⟩ : ∃ j_ : Int, (wrap64 ((wrap64 (s0_1 + 1)) - 1)) = j_ := ⟨_, rfl⟩
  replace H : (if 0 ≤ (ji5) then (if (ji5) < (s0_0.length : Int) then (if a1 = 0 then (none) else (some (Int.tmod (wrap64 (rd s0_0 (ji5))) a1, wrap64 (s0_1 + 1)))) else (none)) else (none)) = some (r1, r2) := by first | (rw [hji5] at H; exact H) | (simp only [hji5] at H ⊢; exact H)
  have hji5w : (IntKind.i64.wrap ((wrap64 (s0_1 + 1)) - 1)) = ji5 := (i64_w _).trans hji5
  by_cases c6 : 0 ≤ (ji5)
  ·rw [if_pos c6] at H
   have c6b0 : decide (0 ≤ (ji5)) = true := decide_eq_true c6
   clear c6
   by_cases c7 : (ji5) < (s0_0.length : Int)
   ·rw [if_pos c7] at H
    have c7b0 : decide ((ji5) < (s0_0.length : Int)) = true := decide_eq_true c7
    clear c7
    by_cases c8 : a1 = 0
    ·rw [if_pos c8] at H
     exact absurd H (by simp)
    ·rw [if_neg c8] at H
     have c8b0 : (a1 == 0) = false := beq_eq_false_iff_ne.mpr c8
     have c8b1 : (a1 != 0) = true := bne_iff_ne.mpr c8
     simp only [Option.some.injEq, Prod.mk.injEq] at H
     obtain ⟨rfl, rfl⟩ := H
     obtain ⟨ASz9_0, cSz9_0, HGz9, hgz9, HSz9_0⟩ := HI0.out
     have hcz9_0 := cellS156_0 HGz9
     have hcz9_1 := cellS156_1 HGz9
     have hfz9_1 := blk_frozen HGz9 1
     clear HGz9 hgz9
     have p118 : 0 ≤ ((ji5) : Int) := of_decide_eq_true (by first | (with_reducible assumption) | assumption)
     have q118 : (ji5) < (s0_0.length : Int) := of_decide_eq_true (by first | (with_reducible assumption) | assumption)
     obtain ⟨ad118, e118, hx118_0⟩ := Kd.at_int HSz9_0 (ji5) p118 q118
     cases e118
     have hn118_0 : ad118.block ≠ g := Nat.ne_of_lt (Nat.lt_of_lt_of_le (by have := World.block_lt_of_cell? _ _ hx118_0; first | rwa [add_block] at this | exact this) (IsS156.ge HI0.out))
     replace hx118_0 := pw_cell_below HB.out hx118_0
     replace hx118_0 := (cell_far (p := ⟨g, 1, none⟩) (by first | (rw [add_block]; exact hn118_0) | (show (Addr.add _ _).block ≠ _; rw [add_block]; exact hn118_0) | exact hn118_0) (.int .i64 (wrap64 (s0_1 + 1)))).trans hx118_0
     (try have hy118_0 := fun (n_ : Nat) => (show (((w.drewN n_).setCell ⟨g, 1, none⟩ (.int .i64 (wrap64 (s0_1 + 1))))).cell? _ = some _ from hx118_0))
     clear hn118_0
     replace p118 := eq_true p118
     replace q118 := eq_true q118
     go_enter Tryz.func81, Tryz.ntmps81
     go_wp2
     repeat (go_quiet (fail); try go_wp2)
     go_ret
     exact ⟨by first | rfl | (simp [errW_none, errW_some] <;> rfl) | (simp only [← hji5]; first | rfl | (simp [errW_none, errW_some] <;> rfl)) | (simp [*, errW_none, errW_some] <;> rfl), by repeat (first | (with_reducible first | exact HI0.out | apply IsS156.alloc | apply IsS156.drewN | apply IsS156.drew | apply IsS156.set_1) | exact HI0.out), by repeat (first | (with_reducible first | exact HB.out | apply below_alloc | apply pw_below_drewN | apply below_drew1 | refine below_set ?_ (IsS156.ge HI0.out)) | exact HB.out), by repeat (first | (with_reducible first | exact HK.out | apply KeepBut.set_ | apply keep_drewN | apply keep_drew | apply keep_alloc) | exact HK.out)⟩
   ·rw [if_neg c7] at H
    exact absurd H (by simp)
  ·rw [if_neg c6] at H
   exact absurd H (by simp)
end Go.Proofs.YtmecbmgfacpecaaGreatDoor.Pr
namespace Go.Proofs.YtmecbmgfacpecaaGreatDoor.Pr
open Go.RowKit Go.Proofs.YtmecbmgfacpecaaGreatDoorW.PrintWords Go.Proofs.YtmecbmgfacpecaaGreatDoorW.PrintLast Go.Proofs.YtmecbmgfacpecaaGreatDoorW.PrintMore
attribute [local go_sem] max2_int min2_int max_two min_two max_three min_three max_four min_four   -- for this text's walks alone
set_option linter.unusedVariables false
set_option linter.unusedSimpArgs false
def spec_NewCronStyle.f (l0 : List Int) : Option (List Int × Int) := some (l0, 0)
set_option maxHeartbeats 8000000 in
set_option maxRecDepth 100000 in
theorem spec_NewCronStyle.calls (A0 : Option Addr) (c0 : Nat) (l0 : List Int) (r1 : List Int) (r2 : Int) (w0 w : World) (hB : Below w0.heap.size w0 w) (hr0 : Kd.C (Kd.int .u8) w0 A0 l0.length l0) (hc0 : l0.length ≤ c0) (h : spec_NewCronStyle.f l0 = some (r1, r2)) :
  Calls Tryz.prog 38 #[.slice A0 l0.length c0] w fun e w' => ∃ g_ : Nat, e = .returned (.pointer (some ⟨g_, 0, none⟩)) ∧ IsS156 w0 w' g_ r1 r2 ∧ Below w0.heap.size w0 w' ∧ Below w.heap.size w w' := by
 have hu156 := Tryz.underlying156
 have HR0 := Aside0.mk hr0
 have HC0 := Aside0.mk hc0
 clear hr0 hc0
 have HBW := Aside0.mk (Below.refl w.heap.size w)
 have HW0 := Aside0.mk hB.size
 have HB := Aside0.mk hB
 clear hB
 have H : (some (l0, 0)) = some (r1, r2) := h
 clear h
 simp only [Option.some.injEq, Prod.mk.injEq] at H
 obtain ⟨rfl, rfl⟩ := H
 go_enter Tryz.func38, Tryz.ntmps38
 go_wp2_with (first | ((with_reducible refine gate_dst (N := 5) rfl ?_); refine box_event ?hg (N := 5) ?hd (cs := #[.slice A0 l0.length c0, .int .i64 0]) (t := 156) ?hr ?_; (case hd => rfl); (case hg => rfl); (case hr => first | (go_simp; done) | (go_simp; rfl)); intro gb152 hg w2 hbox hb; have n0_ := Aside0.mk (below_step HBW.out hb); have n1_ := Aside0.mk (below_step (by repeat (first | (with_reducible first | exact HB.out | apply below_alloc | apply pw_below_drewN | apply below_drew1) | exact HB.out)) hb); have n2_ := Aside0.mk (hbox); have n3_ := Aside0.mk ((by rw [hg]; exact (below_size (by repeat (first | (with_reducible first | exact HBW.out | apply below_alloc | apply pw_below_drewN | apply below_drew1) | exact HBW.out))) : w.heap.size ≤ gb152)); have n4_ := Aside0.mk ((Nat.le_trans HW0.out (by rw [hg]; exact (below_size (by repeat (first | (with_reducible first | exact HBW.out | apply below_alloc | apply pw_below_drewN | apply below_drew1) | exact HBW.out))) : w.heap.size ≤ gb152) : w0.heap.size ≤ gb152)); clear HBW; clear HB; have HBW := n0_; have HB := n1_; have BK152 := n2_; have GW152 := n3_; have GE152 := n4_; clear n0_ n1_ n2_ n3_ n4_; clear hb hbox hg))
 go_ret
 exact ⟨_, rfl, (show IsS156 w0 _ gb152 l0 0 from ⟨_, _, by (with_reducible repeat (first | refine blk_drewN ?_ _ | refine blk_drew ?_ | refine blk_alloc ?_ _)); exact BK152.out, GE152.out, HR0.out⟩), by repeat (first | (with_reducible first | exact HB.out | apply below_alloc | apply pw_below_drewN | apply below_drew1 | refine below_set ?_ GE152.out) | exact HB.out), by repeat (first | (with_reducible first | exact HBW.out | apply below_alloc | apply pw_below_drewN | apply below_drew1 | refine below_set ?_ GW152.out) | exact HBW.out)⟩
end Go.Proofs.YtmecbmgfacpecaaGreatDoor.Pr
namespace Go.Proofs.YtmecbmgfacpecaaGreatDoor.Pr
open Go.RowKit Go.Proofs.YtmecbmgfacpecaaGreatDoorW.PrintWords Go.Proofs.YtmecbmgfacpecaaGreatDoorW.PrintLast Go.Proofs.YtmecbmgfacpecaaGreatDoorW.PrintMore
attribute [local go_sem] max2_int min2_int max_two min_two max_three min_three max_four min_four   -- for this text's walks alone
set_option linter.unusedVariables false
set_option linter.unusedSimpArgs false
def cron_places.f  : Option (List Int) := some (([1, 4, 8, 16, 32, 64] : List Int))
set_option maxHeartbeats 8000000 in
set_option maxRecDepth 100000 in
theorem cron_places.calls  (r : List Int) (w : World) (h : cron_places.f  = some r) :
  Calls Tryz.prog 148 #[] w fun e w' => ∃ v0_ : Value, e = .returned (v0_) ∧ Kd.R (Kd.int .i64) 103 w' w.heap.size (fun _ => True) v0_ r ∧ Below w.heap.size w w' := by
 have HB := Aside0.mk (Below.refl w.heap.size w)
 have H : (some (([1, 4, 8, 16, 32, 64] : List Int))) = some r := h
 clear h
 obtain ⟨y173, hy173⟩ : ∃ y_ : List Int, y_ = (([1, 4, 8, 16, 32, 64] : List Int)) := ⟨_, rfl⟩
 replace H : (some y173) = some r := by first | (rw [hy173]; with_reducible exact H) | (have H2_ := (Option.bind_some _ _).symm.trans H; rw [hy173]; with_reducible exact H2_) | (have H2_ := (Option.bind_some _ _).symm.trans H; with_reducible exact H2_) | with_reducible exact H | (rw [hy173]; exact H) | exact H
 have Ny173 := Aside0.mk hy173
 clear hy173
 obtain rfl := Option.some.inj H
 go_enter Tryz.func148, Tryz.ntmps148
 go_wp2_with (first | ((with_reducible refine gate_dst (N := 1) rfl ?_); refine Kd.R_lit (Kd.int .i64) _ 103 ?hg (N := 1) ?hd (xs := ([1, 4, 8, 16, 32, 64] : List Int)) (inner := [.int .i64 1, .int .i64 4, .int .i64 8, .int .i64 16, .int .i64 32, .int .i64 64]) (ok := fun _ => True) (okp := fun _ => True) ?hr ?hp (fun _ hk => hk) trivial (Below.refl _ _) (Nat.le_refl _) (by simp) ?_; (case hd => rfl); (case hg => rfl); (case hr => first | (go_simp; done) | (go_simp; rfl)); (case hp => exact (Reps.one (show Kd.M (Kd.int .i64) _ _ _ 1 [.int .i64 1] from rfl) (Reps.one (show Kd.M (Kd.int .i64) _ _ _ 4 [.int .i64 4] from rfl) (Reps.one (show Kd.M (Kd.int .i64) _ _ _ 8 [.int .i64 8] from rfl) (Reps.one (show Kd.M (Kd.int .i64) _ _ _ 16 [.int .i64 16] from rfl) (Reps.one (show Kd.M (Kd.int .i64) _ _ _ 32 [.int .i64 32] from rfl) (Reps.one (show Kd.M (Kd.int .i64) _ _ _ 64 [.int .i64 64] from rfl) (Reps.none _ _)))))))); intro v174 w1 ho2 hb hg_ hnew_; clear hg_ hnew_; (first | rw [← Ny173.out] at ho2 | (simp only [Int.reduceToNat] at ho2; rw [← Ny173.out] at ho2)); have n0_ := Aside0.mk (Kd.R_lower ho2 (below_size (by repeat (first | (with_reducible first | exact HB.out | apply below_alloc | apply pw_below_drewN | apply below_drew1) | exact HB.out)))); have n1_ := Aside0.mk (below_step (by repeat (first | (with_reducible first | exact HB.out | apply below_alloc | apply pw_below_drewN | apply below_drew1) | exact HB.out)) hb); clear HB; have HO175 := n0_; have HB := n1_; clear n0_ n1_; clear hb ho2))
 go_ret
 exact ⟨_, by first | rfl | (simp [errW_none, errW_some] <;> rfl) | (simp [*, errW_none, errW_some] <;> rfl), by (with_reducible repeat (first | apply Kd.R_alloc | apply Kd.R_drewN | apply Kd.R_drew)); exact HO175.out, by repeat (first | (with_reducible first | exact HB.out | apply below_alloc | apply pw_below_drewN | apply below_drew1) | exact HB.out)⟩
end Go.Proofs.YtmecbmgfacpecaaGreatDoor.Pr
namespace Go.Proofs.YtmecbmgfacpecaaGreatDoor.Pr
open Go.RowKit Go.Proofs.YtmecbmgfacpecaaGreatDoorW.PrintWords Go.Proofs.YtmecbmgfacpecaaGreatDoorW.PrintLast Go.Proofs.YtmecbmgfacpecaaGreatDoorW.PrintMore
attribute [local go_sem] max2_int min2_int max_two min_two max_three min_three max_four min_four   -- for this text's walks alone
set_option linter.unusedVariables false
set_option linter.unusedSimpArgs false
def cron_defaults.f  : Option (List ByteArray) := some (([(⟨#[48]⟩ : ByteArray), (⟨#[48]⟩ : ByteArray), (⟨#[48]⟩ : ByteArray), (⟨#[42]⟩ : ByteArray), (⟨#[42]⟩ : ByteArray), (⟨#[42]⟩ : ByteArray)] : List ByteArray))
set_option maxHeartbeats 8000000 in
set_option maxRecDepth 100000 in
theorem cron_defaults.calls  (r : List ByteArray) (w : World) (h : cron_defaults.f  = some r) :
  Calls Tryz.prog 149 #[] w fun e w' => ∃ v0_ : Value, e = .returned (v0_) ∧ Kd.R Kd.string 9 w' w.heap.size (fun _ => True) v0_ r ∧ Below w.heap.size w w' := by
 have HB := Aside0.mk (Below.refl w.heap.size w)
 have H : (some (([(⟨#[48]⟩ : ByteArray), (⟨#[48]⟩ : ByteArray), (⟨#[48]⟩ : ByteArray), (⟨#[42]⟩ : ByteArray), (⟨#[42]⟩ : ByteArray), (⟨#[42]⟩ : ByteArray)] : List ByteArray))) = some r := h
 clear h
 obtain ⟨y176, hy176⟩ : ∃ y_ : List ByteArray, y_ = (([(⟨#[48]⟩ : ByteArray), (⟨#[48]⟩ : ByteArray), (⟨#[48]⟩ : ByteArray), (⟨#[42]⟩ : ByteArray), (⟨#[42]⟩ : ByteArray), (⟨#[42]⟩ : ByteArray)] : List ByteArray)) := ⟨_, rfl⟩
 replace H : (some y176) = some r := by first | (rw [hy176]; with_reducible exact H) | (have H2_ := (Option.bind_some _ _).symm.trans H; rw [hy176]; with_reducible exact H2_) | (have H2_ := (Option.bind_some _ _).symm.trans H; with_reducible exact H2_) | with_reducible exact H | (rw [hy176]; exact H) | exact H
 have Ny176 := Aside0.mk hy176
 clear hy176
 obtain rfl := Option.some.inj H
 go_enter Tryz.func149, Tryz.ntmps149
 go_wp2_with (first | ((with_reducible refine gate_dst (N := 1) rfl ?_); refine Kd.R_lit Kd.string _ 9 ?hg (N := 1) ?hd (xs := ([(⟨#[48]⟩ : ByteArray), (⟨#[48]⟩ : ByteArray), (⟨#[48]⟩ : ByteArray), (⟨#[42]⟩ : ByteArray), (⟨#[42]⟩ : ByteArray), (⟨#[42]⟩ : ByteArray)] : List ByteArray)) (inner := [.string (⟨#[48]⟩ : ByteArray), .string (⟨#[48]⟩ : ByteArray), .string (⟨#[48]⟩ : ByteArray), .string (⟨#[42]⟩ : ByteArray), .string (⟨#[42]⟩ : ByteArray), .string (⟨#[42]⟩ : ByteArray)]) (ok := fun _ => True) (okp := fun _ => True) ?hr ?hp (fun _ hk => hk) trivial (Below.refl _ _) (Nat.le_refl _) (by simp) ?_; (case hd => rfl); (case hg => rfl); (case hr => first | (go_simp; done) | (go_simp; rfl)); (case hp => exact (Reps.one (show Kd.M Kd.string _ _ _ (⟨#[48]⟩ : ByteArray) [.string (⟨#[48]⟩ : ByteArray)] from rfl) (Reps.one (show Kd.M Kd.string _ _ _ (⟨#[48]⟩ : ByteArray) [.string (⟨#[48]⟩ : ByteArray)] from rfl) (Reps.one (show Kd.M Kd.string _ _ _ (⟨#[48]⟩ : ByteArray) [.string (⟨#[48]⟩ : ByteArray)] from rfl) (Reps.one (show Kd.M Kd.string _ _ _ (⟨#[42]⟩ : ByteArray) [.string (⟨#[42]⟩ : ByteArray)] from rfl) (Reps.one (show Kd.M Kd.string _ _ _ (⟨#[42]⟩ : ByteArray) [.string (⟨#[42]⟩ : ByteArray)] from rfl) (Reps.one (show Kd.M Kd.string _ _ _ (⟨#[42]⟩ : ByteArray) [.string (⟨#[42]⟩ : ByteArray)] from rfl) (Reps.none _ _)))))))); intro v177 w1 ho2 hb hg_ hnew_; clear hg_ hnew_; (first | rw [← Ny176.out] at ho2 | (simp only [Int.reduceToNat] at ho2; rw [← Ny176.out] at ho2)); have n0_ := Aside0.mk (Kd.R_lower ho2 (below_size (by repeat (first | (with_reducible first | exact HB.out | apply below_alloc | apply pw_below_drewN | apply below_drew1) | exact HB.out)))); have n1_ := Aside0.mk (below_step (by repeat (first | (with_reducible first | exact HB.out | apply below_alloc | apply pw_below_drewN | apply below_drew1) | exact HB.out)) hb); clear HB; have HO178 := n0_; have HB := n1_; clear n0_ n1_; clear hb ho2))
 go_ret
 exact ⟨_, by first | rfl | (simp [errW_none, errW_some] <;> rfl) | (simp [*, errW_none, errW_some] <;> rfl), by (with_reducible repeat (first | apply Kd.R_alloc | apply Kd.R_drewN | apply Kd.R_drew)); exact HO178.out, by repeat (first | (with_reducible first | exact HB.out | apply below_alloc | apply pw_below_drewN | apply below_drew1) | exact HB.out)⟩
end Go.Proofs.YtmecbmgfacpecaaGreatDoor.Pr
namespace Go.Proofs.YtmecbmgfacpecaaGreatDoor.Pr
open Go.RowKit Go.Proofs.YtmecbmgfacpecaaGreatDoorW.PrintWords Go.Proofs.YtmecbmgfacpecaaGreatDoorW.PrintLast Go.Proofs.YtmecbmgfacpecaaGreatDoorW.PrintMore
attribute [local go_sem] max2_int min2_int max_two min_two max_three min_three max_four min_four   -- for this text's walks alone
set_option linter.unusedVariables false
set_option linter.unusedSimpArgs false
def cron_zzSpace.f (a0 : Int) : Option (Bool) := if a0 = 9 then (some true) else (if a0 = 10 then (some true) else (if a0 = 11 then (some true) else (if a0 = 12 then (some true) else (if a0 = 13 then (some true) else (if a0 = 32 then (some true) else (if a0 = 133 then (some true) else (if a0 = 160 then (some true) else (if a0 = 5760 then (some true) else (if a0 = 8232 then (some true) else (if a0 = 8233 then (some true) else (if a0 = 8239 then (some true) else (if a0 = 8287 then (some true) else (if a0 = 12288 then (some true) else (if 8192 ≤ a0 then (some (decide (a0 ≤ 8202))) else (some false)))))))))))))))
set_option maxHeartbeats 8000000 in
set_option maxRecDepth 100000 in
theorem cron_zzSpace.calls (a0 : Int) (r : Bool) (w : World) (h : cron_zzSpace.f a0 = some r) :
  Calls Tryz.prog 144 #[.int .i32 a0] w fun e w' => e = .returned (.bool r) ∧ Drawn0 w w' := by
 have H : (if a0 = 9 then (some true) else (if a0 = 10 then (some true) else (if a0 = 11 then (some true) else (if a0 = 12 then (some true) else (if a0 = 13 then (some true) else (if a0 = 32 then (some true) else (if a0 = 133 then (some true) else (if a0 = 160 then (some true) else (if a0 = 5760 then (some true) else (if a0 = 8232 then (some true) else (if a0 = 8233 then (some true) else (if a0 = 8239 then (some true) else (if a0 = 8287 then (some true) else (if a0 = 12288 then (some true) else (if 8192 ≤ a0 then (some (decide (a0 ≤ 8202))) else (some false)))))))))))))))) = some r := h
 clear h
 by_cases c2 : a0 = 9
 ·rw [if_pos c2] at H
  have c2b0 : (a0 == 9) = true := beq_iff_eq.mpr c2
  have c2b1 : (a0 != 9) = false := bne_eq_false_iff_eq.mpr c2
  clear c2
  obtain rfl := Option.some.inj H
  go_enter Tryz.func144, Tryz.ntmps144
  go_wp2
  go_ret
  exact ⟨by first | rfl | (simp; done) | (simp [*]; done), by repeat (first | exact Drawn0.refl _ | apply Drawn0.step)⟩
 ·rw [if_neg c2] at H
  have c2b0 : (a0 == 9) = false := beq_eq_false_iff_ne.mpr c2
  have c2b1 : (a0 != 9) = true := bne_iff_ne.mpr c2
  by_cases c3 : a0 = 10
  ·rw [if_pos c3] at H
   have c3b0 : (a0 == 10) = true := beq_iff_eq.mpr c3
   have c3b1 : (a0 != 10) = false := bne_eq_false_iff_eq.mpr c3
   clear c3
   obtain rfl := Option.some.inj H
   go_enter Tryz.func144, Tryz.ntmps144
   go_wp2
   go_ret
   exact ⟨by first | rfl | (simp; done) | (simp [*]; done), by repeat (first | exact Drawn0.refl _ | apply Drawn0.step)⟩
  ·rw [if_neg c3] at H
   have c3b0 : (a0 == 10) = false := beq_eq_false_iff_ne.mpr c3
   have c3b1 : (a0 != 10) = true := bne_iff_ne.mpr c3
   by_cases c4 : a0 = 11
   ·rw [if_pos c4] at H
    have c4b0 : (a0 == 11) = true := beq_iff_eq.mpr c4
    have c4b1 : (a0 != 11) = false := bne_eq_false_iff_eq.mpr c4
    clear c4
    obtain rfl := Option.some.inj H
    go_enter Tryz.func144, Tryz.ntmps144
    go_wp2
    go_ret
    exact ⟨by first | rfl | (simp; done) | (simp [*]; done), by repeat (first | exact Drawn0.refl _ | apply Drawn0.step)⟩
   ·rw [if_neg c4] at H
    have c4b0 : (a0 == 11) = false := beq_eq_false_iff_ne.mpr c4
    have c4b1 : (a0 != 11) = true := bne_iff_ne.mpr c4
    by_cases c5 : a0 = 12
    ·rw [if_pos c5] at H
     have c5b0 : (a0 == 12) = true := beq_iff_eq.mpr c5
     have c5b1 : (a0 != 12) = false := bne_eq_false_iff_eq.mpr c5
     clear c5
     obtain rfl := Option.some.inj H
     go_enter Tryz.func144, Tryz.ntmps144
     go_wp2
     go_ret
     exact ⟨by first | rfl | (simp; done) | (simp [*]; done), by repeat (first | exact Drawn0.refl _ | apply Drawn0.step)⟩
    ·rw [if_neg c5] at H
     have c5b0 : (a0 == 12) = false := beq_eq_false_iff_ne.mpr c5
     have c5b1 : (a0 != 12) = true := bne_iff_ne.mpr c5
     by_cases c6 : a0 = 13
     ·rw [if_pos c6] at H
      have c6b0 : (a0 == 13) = true := beq_iff_eq.mpr c6
      have c6b1 : (a0 != 13) = false := bne_eq_false_iff_eq.mpr c6
      clear c6
      obtain rfl := Option.some.inj H
      go_enter Tryz.func144, Tryz.ntmps144
      go_wp2
      go_ret
      exact ⟨by first | rfl | (simp; done) | (simp [*]; done), by repeat (first | exact Drawn0.refl _ | apply Drawn0.step)⟩
     ·rw [if_neg c6] at H
      have c6b0 : (a0 == 13) = false := beq_eq_false_iff_ne.mpr c6
      have c6b1 : (a0 != 13) = true := bne_iff_ne.mpr c6
      by_cases c7 : a0 = 32
      ·rw [if_pos c7] at H
       have c7b0 : (a0 == 32) = true := beq_iff_eq.mpr c7
       have c7b1 : (a0 != 32) = false := bne_eq_false_iff_eq.mpr c7
       clear c7
       obtain rfl := Option.some.inj H
       go_enter Tryz.func144, Tryz.ntmps144
       go_wp2
       go_ret
       exact ⟨by first | rfl | (simp; done) | (simp [*]; done), by repeat (first | exact Drawn0.refl _ | apply Drawn0.step)⟩
      ·rw [if_neg c7] at H
       have c7b0 : (a0 == 32) = false := beq_eq_false_iff_ne.mpr c7
       have c7b1 : (a0 != 32) = true := bne_iff_ne.mpr c7
       by_cases c8 : a0 = 133
       ·rw [if_pos c8] at H
        have c8b0 : (a0 == 133) = true := beq_iff_eq.mpr c8
        have c8b1 : (a0 != 133) = false := bne_eq_false_iff_eq.mpr c8
        clear c8
        obtain rfl := Option.some.inj H
        go_enter Tryz.func144, Tryz.ntmps144
        go_wp2
        go_ret
        exact ⟨by first | rfl | (simp; done) | (simp [*]; done), by repeat (first | exact Drawn0.refl _ | apply Drawn0.step)⟩
       ·rw [if_neg c8] at H
        have c8b0 : (a0 == 133) = false := beq_eq_false_iff_ne.mpr c8
        have c8b1 : (a0 != 133) = true := bne_iff_ne.mpr c8
        by_cases c9 : a0 = 160
        ·rw [if_pos c9] at H
         have c9b0 : (a0 == 160) = true := beq_iff_eq.mpr c9
         have c9b1 : (a0 != 160) = false := bne_eq_false_iff_eq.mpr c9
         clear c9
         obtain rfl := Option.some.inj H
         go_enter Tryz.func144, Tryz.ntmps144
         go_wp2
         go_ret
         exact ⟨by first | rfl | (simp; done) | (simp [*]; done), by repeat (first | exact Drawn0.refl _ | apply Drawn0.step)⟩
        ·rw [if_neg c9] at H
         have c9b0 : (a0 == 160) = false := beq_eq_false_iff_ne.mpr c9
         have c9b1 : (a0 != 160) = true := bne_iff_ne.mpr c9
         by_cases c10 : a0 = 5760
         ·rw [if_pos c10] at H
          have c10b0 : (a0 == 5760) = true := beq_iff_eq.mpr c10
          have c10b1 : (a0 != 5760) = false := bne_eq_false_iff_eq.mpr c10
          clear c10
          obtain rfl := Option.some.inj H
          go_enter Tryz.func144, Tryz.ntmps144
          go_wp2
          go_ret
          exact ⟨by first | rfl | (simp; done) | (simp [*]; done), by repeat (first | exact Drawn0.refl _ | apply Drawn0.step)⟩
         ·rw [if_neg c10] at H
          have c10b0 : (a0 == 5760) = false := beq_eq_false_iff_ne.mpr c10
          have c10b1 : (a0 != 5760) = true := bne_iff_ne.mpr c10
          by_cases c11 : a0 = 8232
          ·rw [if_pos c11] at H
           have c11b0 : (a0 == 8232) = true := beq_iff_eq.mpr c11
           have c11b1 : (a0 != 8232) = false := bne_eq_false_iff_eq.mpr c11
           clear c11
           obtain rfl := Option.some.inj H
           go_enter Tryz.func144, Tryz.ntmps144
           go_wp2
           go_ret
           exact ⟨by first | rfl | (simp; done) | (simp [*]; done), by repeat (first | exact Drawn0.refl _ | apply Drawn0.step)⟩
          ·rw [if_neg c11] at H
           have c11b0 : (a0 == 8232) = false := beq_eq_false_iff_ne.mpr c11
           have c11b1 : (a0 != 8232) = true := bne_iff_ne.mpr c11
           by_cases c12 : a0 = 8233
           ·rw [if_pos c12] at H
            have c12b0 : (a0 == 8233) = true := beq_iff_eq.mpr c12
            have c12b1 : (a0 != 8233) = false := bne_eq_false_iff_eq.mpr c12
            clear c12
            obtain rfl := Option.some.inj H
            go_enter Tryz.func144, Tryz.ntmps144
            go_wp2
            go_ret
            exact ⟨by first | rfl | (simp; done) | (simp [*]; done), by repeat (first | exact Drawn0.refl _ | apply Drawn0.step)⟩
           ·rw [if_neg c12] at H
            have c12b0 : (a0 == 8233) = false := beq_eq_false_iff_ne.mpr c12
            have c12b1 : (a0 != 8233) = true := bne_iff_ne.mpr c12
            by_cases c13 : a0 = 8239
            ·rw [if_pos c13] at H
             have c13b0 : (a0 == 8239) = true := beq_iff_eq.mpr c13
             have c13b1 : (a0 != 8239) = false := bne_eq_false_iff_eq.mpr c13
             clear c13
             obtain rfl := Option.some.inj H
             go_enter Tryz.func144, Tryz.ntmps144
             go_wp2
             go_ret
             exact ⟨by first | rfl | (simp; done) | (simp [*]; done), by repeat (first | exact Drawn0.refl _ | apply Drawn0.step)⟩
            ·rw [if_neg c13] at H
             have c13b0 : (a0 == 8239) = false := beq_eq_false_iff_ne.mpr c13
             have c13b1 : (a0 != 8239) = true := bne_iff_ne.mpr c13
             by_cases c14 : a0 = 8287
             ·rw [if_pos c14] at H
              have c14b0 : (a0 == 8287) = true := beq_iff_eq.mpr c14
              have c14b1 : (a0 != 8287) = false := bne_eq_false_iff_eq.mpr c14
              clear c14
              obtain rfl := Option.some.inj H
              go_enter Tryz.func144, Tryz.ntmps144
              go_wp2
              go_ret
              exact ⟨by first | rfl | (simp; done) | (simp [*]; done), by repeat (first | exact Drawn0.refl _ | apply Drawn0.step)⟩
             ·rw [if_neg c14] at H
              have c14b0 : (a0 == 8287) = false := beq_eq_false_iff_ne.mpr c14
              have c14b1 : (a0 != 8287) = true := bne_iff_ne.mpr c14
              by_cases c15 : a0 = 12288
              ·rw [if_pos c15] at H
               have c15b0 : (a0 == 12288) = true := beq_iff_eq.mpr c15
               have c15b1 : (a0 != 12288) = false := bne_eq_false_iff_eq.mpr c15
               clear c15
               obtain rfl := Option.some.inj H
               go_enter Tryz.func144, Tryz.ntmps144
               go_wp2
               go_ret
               exact ⟨by first | rfl | (simp; done) | (simp [*]; done), by repeat (first | exact Drawn0.refl _ | apply Drawn0.step)⟩
              ·rw [if_neg c15] at H
               have c15b0 : (a0 == 12288) = false := beq_eq_false_iff_ne.mpr c15
               have c15b1 : (a0 != 12288) = true := bne_iff_ne.mpr c15
               by_cases c16 : 8192 ≤ a0
               ·rw [if_pos c16] at H
                have c16b0 : decide (8192 ≤ a0) = true := decide_eq_true c16
                clear c16
                obtain rfl := Option.some.inj H
                go_enter Tryz.func144, Tryz.ntmps144
                go_wp2
                go_ret
                exact ⟨by first | rfl | (simp; done) | (simp [*]; done), by repeat (first | exact Drawn0.refl _ | apply Drawn0.step)⟩
               ·rw [if_neg c16] at H
                have c16b0 : decide (8192 ≤ a0) = false := decide_eq_false c16
                clear c16
                obtain rfl := Option.some.inj H
                go_enter Tryz.func144, Tryz.ntmps144
                go_wp2
                go_ret
                exact ⟨by first | rfl | (simp; done) | (simp [*]; done), by repeat (first | exact Drawn0.refl _ | apply Drawn0.step)⟩
end Go.Proofs.YtmecbmgfacpecaaGreatDoor.Pr
namespace Go.Proofs.YtmecbmgfacpecaaGreatDoor.Pr
open Go.RowKit Go.Proofs.YtmecbmgfacpecaaGreatDoorW.PrintWords Go.Proofs.YtmecbmgfacpecaaGreatDoorW.PrintLast Go.Proofs.YtmecbmgfacpecaaGreatDoorW.PrintMore
attribute [local go_sem] max2_int min2_int max_two min_two max_three min_three max_four min_four   -- for this text's walks alone
set_option linter.unusedVariables false
set_option linter.unusedSimpArgs false
def spec_CronJoin.l0 : Nat → ByteArray → ByteArray → List ByteArray → Int → Int → Option (ByteArray)
 | 0, _, _, _, _, _ => none
 | k + 1, x1, x5, x8, x9, x10 => if x10 < x9 then (if 0 ≤ x10 then (if x10 < (x8.length : Int) then (if x10 > 0 then (if x5.size + x1.size ≤ 9223372036854775807 then (if (x5 ++ x1).size + (rdOf ByteArray.empty x8 x10).size ≤ 9223372036854775807 then (spec_CronJoin.l0 k x1 ((x5 ++ x1) ++ (rdOf ByteArray.empty x8 x10)) x8 x9 (wrap64 (x10 + 1))) else (none)) else (none)) else (if x5.size + (rdOf ByteArray.empty x8 x10).size ≤ 9223372036854775807 then (spec_CronJoin.l0 k x1 (x5 ++ (rdOf ByteArray.empty x8 x10)) x8 x9 (wrap64 (x10 + 1))) else (none))) else (none)) else (none)) else (some x5)
def spec_CronJoin.f (k : Nat) (l0 : List ByteArray) (a1 : ByteArray) : Option (ByteArray) := spec_CronJoin.l0 k a1 (⟨#[]⟩ : ByteArray) l0 (l0.length : Int) 0
theorem spec_CronJoin.mono_l : ∀ k, (∀ y0 y1 y2 y3 y4, LeO (spec_CronJoin.l0 k y0 y1 y2 y3 y4) (spec_CronJoin.l0 (k + 1) y0 y1 y2 y3 y4))
 | 0 => fun _ _ _ _ _ r h => by simp [spec_CronJoin.l0] at h
 | k + 1 => by
  have ih0 := spec_CronJoin.mono_l k
  ·intro y0 y1 y2 y3 y4
   unfold spec_CronJoin.l0
   repeat' first
   | (with_reducible exact ih0 _ _ _ _ _)
   | (with_reducible exact LeO.refl _)
   | (with_reducible exact LeO.none _)
   | (with_reducible refine LeO.ite ?_ ?_)
   | (with_reducible refine LeO.bind ?_ (fun _ => ?_))
   | exact ih0 _ _ _ _ _
   | exact LeO.none _
   | refine LeO.ite ?_ ?_
   | refine LeO.bind ?_ (fun _ => ?_)
theorem spec_CronJoin.mono : ∀ a0 a1 k, LeO (spec_CronJoin.f k a0 a1) (spec_CronJoin.f (k + 1) a0 a1) := by
 intro a0 a1 k
 have ih0 := spec_CronJoin.mono_l k
 unfold spec_CronJoin.f
 repeat' first
   | (with_reducible exact ih0 _ _ _ _ _)
   | (with_reducible exact LeO.refl _)
   | (with_reducible exact LeO.none _)
   | (with_reducible refine LeO.ite ?_ ?_)
   | (with_reducible refine LeO.bind ?_ (fun _ => ?_))
   | exact ih0 _ _ _ _ _
   | exact LeO.none _
   | refine LeO.ite ?_ ?_
   | refine LeO.bind ?_ (fun _ => ?_)
set_option maxHeartbeats 8000000 in
set_option maxRecDepth 100000 in
theorem spec_CronJoin.calls (k : Nat) (A0 : Option Addr) (c0 : Nat) (l0 : List ByteArray) (a1 : ByteArray) (r : ByteArray) (w : World) (hr0 : Kd.C Kd.string w A0 l0.length l0) (hc0 : l0.length ≤ c0) (h : spec_CronJoin.f k l0 a1 = some r) :
  Calls Tryz.prog 26 #[.slice A0 l0.length c0, .string a1] w fun e w' => e = .returned (.string r) ∧ Drawn0 w w' := by
 have HR0 := Aside0.mk hr0
 have HC0 := Aside0.mk hc0
 clear hr0 hc0
 have H : (spec_CronJoin.l0 k a1 (⟨#[]⟩ : ByteArray) l0 (l0.length : Int) 0) = some r := h
 clear h
 have H' := Aside0.mk H
 clear H
 go_enter Tryz.func26, Tryz.ntmps26
 go_wp2
 go_loopg [5, 10] k (fun kq v5 v10 w' => ∃ (x5_1 : ByteArray) (x10_1 : Int), v5 = .string x5_1 ∧ v10 = .int .i64 x10_1 ∧ Aside0 (spec_CronJoin.l0 kq a1 x5_1 l0 (l0.length : Int) x10_1 = some r) ∧ Aside0 (kq ≤ k) ∧ Drawn0 w w')
 case atStart => exact ⟨((⟨#[]⟩ : ByteArray)), (0), (by first | rfl | (simp; done) | (simp [*]; done)), (by first | rfl | (simp; done) | (simp [*]; done)), H', ⟨Nat.le_refl _⟩, by repeat (first | exact Drawn0.refl _ | apply Drawn0.step)⟩
 case round =>
  clear H'
  try clear c2
  try clear p2
  obtain ⟨x5_1, x10_1, rfl, rfl, HA, HK1, ⟨m1, rfl⟩⟩ := hrel
  cases gk with
  | zero => exact absurd HA.out (by simp [spec_CronJoin.l0])
  | succ k1 =>
   have H := HA.out
   clear HA
   simp only [spec_CronJoin.l0] at H
   by_cases c3 : x10_1 < (l0.length : Int)
   ·rw [if_pos c3] at H
    have c3b0 : decide (x10_1 < (l0.length : Int)) = true := decide_eq_true c3
    clear c3
    by_cases c4 : 0 ≤ x10_1
    ·rw [if_pos c4] at H
     have c4b0 : decide (0 ≤ x10_1) = true := decide_eq_true c4
     clear c4
     by_cases c5 : x10_1 < (l0.length : Int)
     ·rw [if_pos c5] at H
      have c5b0 : decide (x10_1 < (l0.length : Int)) = true := decide_eq_true c5
      clear c5
      by_cases c6 : x10_1 > 0
      ·rw [if_pos c6] at H
       have c6b0 : decide (0 < x10_1) = true := decide_eq_true c6
       clear c6
       by_cases c7 : x5_1.size + a1.size ≤ 9223372036854775807
       ·rw [if_pos c7] at H
        have c7b0 := eq_true c7
        have c7b1 : decide (x5_1.size + a1.size ≤ 9223372036854775807) = true := decide_eq_true c7
        try have c7b2 : (9223372036854775807 < x5_1.size + a1.size) = False := eq_false (Nat.not_lt.2 c7)
        by_cases c8 : (x5_1 ++ a1).size + (rdOf ByteArray.empty l0 x10_1).size ≤ 9223372036854775807
        ·rw [if_pos c8] at H
         have c8b0 := eq_true c8
         have c8b1 : decide ((x5_1 ++ a1).size + (rdOf ByteArray.empty l0 x10_1).size ≤ 9223372036854775807) = true := decide_eq_true c8
         try have c8b2 : (9223372036854775807 < (x5_1 ++ a1).size + (rdOf ByteArray.empty l0 x10_1).size) = False := eq_false (Nat.not_lt.2 c8)
         have H' := Aside0.mk H
         clear H
         have p165 : 0 ≤ (x10_1 : Int) := of_decide_eq_true (by first | (with_reducible assumption) | assumption)
         have q165 : x10_1 < (l0.length : Int) := of_decide_eq_true (by first | (with_reducible assumption) | assumption)
         obtain ⟨ad165, e165, hx165_0⟩ := Kd.at_string HR0.out x10_1 p165 q165
         cases e165
         replace p165 := eq_true p165
         replace q165 := eq_true q165
         go_wp2
         go_roundg k1
         case measure => have := HK1.out; omega
         case rel => exact ⟨((x5_1 ++ a1) ++ (rdOf ByteArray.empty l0 x10_1)), (wrap64 (x10_1 + 1)), (by first | rfl | (simp; done) | (simp [*]; done)), (by first | rfl | (simp; done) | (simp [*]; done)), H', ⟨by have := HK1.out; omega⟩, by repeat (first | exact Drawn0.refl _ | apply Drawn0.step)⟩
        ·rw [if_neg c8] at H
         exact absurd H (by simp)
       ·rw [if_neg c7] at H
        exact absurd H (by simp)
      ·rw [if_neg c6] at H
       have c6b0 : decide (0 < x10_1) = false := decide_eq_false c6
       clear c6
       by_cases c9 : x5_1.size + (rdOf ByteArray.empty l0 x10_1).size ≤ 9223372036854775807
       ·rw [if_pos c9] at H
        have c9b0 := eq_true c9
        have c9b1 : decide (x5_1.size + (rdOf ByteArray.empty l0 x10_1).size ≤ 9223372036854775807) = true := decide_eq_true c9
        try have c9b2 : (9223372036854775807 < x5_1.size + (rdOf ByteArray.empty l0 x10_1).size) = False := eq_false (Nat.not_lt.2 c9)
        have H' := Aside0.mk H
        clear H
        have p165 : 0 ≤ (x10_1 : Int) := of_decide_eq_true (by first | (with_reducible assumption) | assumption)
        have q165 : x10_1 < (l0.length : Int) := of_decide_eq_true (by first | (with_reducible assumption) | assumption)
        obtain ⟨ad165, e165, hx165_0⟩ := Kd.at_string HR0.out x10_1 p165 q165
        cases e165
        replace p165 := eq_true p165
        replace q165 := eq_true q165
        go_wp2
        go_roundg k1
        case measure => have := HK1.out; omega
        case rel => exact ⟨(x5_1 ++ (rdOf ByteArray.empty l0 x10_1)), (wrap64 (x10_1 + 1)), (by first | rfl | (simp; done) | (simp [*]; done)), (by first | rfl | (simp; done) | (simp [*]; done)), H', ⟨by have := HK1.out; omega⟩, by repeat (first | exact Drawn0.refl _ | apply Drawn0.step)⟩
       ·rw [if_neg c9] at H
        exact absurd H (by simp)
     ·rw [if_neg c5] at H
      exact absurd H (by simp)
    ·rw [if_neg c4] at H
     exact absurd H (by simp)
   ·rw [if_neg c3] at H
    have c3b0 : decide (x10_1 < (l0.length : Int)) = false := decide_eq_false c3
    clear c3
    obtain rfl := Option.some.inj H
    go_wp2
    go_ret
    exact ⟨by first | rfl | (simp; done) | (simp [*]; done), by repeat (first | exact Drawn0.refl _ | apply Drawn0.step)⟩
end Go.Proofs.YtmecbmgfacpecaaGreatDoor.Pr
namespace Go.Proofs.YtmecbmgfacpecaaGreatDoor.Pr
open Go.RowKit Go.Proofs.YtmecbmgfacpecaaGreatDoorW.PrintWords Go.Proofs.YtmecbmgfacpecaaGreatDoorW.PrintLast Go.Proofs.YtmecbmgfacpecaaGreatDoorW.PrintMore
attribute [local go_sem] max2_int min2_int max_two min_two max_three min_three max_four min_four   -- for this text's walks alone
set_option linter.unusedVariables false
set_option linter.unusedSimpArgs false
def spec_CronMayMiss.f (a0 : Int) : Option (Int) := if (Go.bits .and .i64 a0 2) = 0 then (if (Go.bits .and .i64 a0 128) = 0 then (some (-1)) else (some 5)) else (some 0)
set_option maxHeartbeats 8000000 in
set_option maxRecDepth 100000 in
theorem spec_CronMayMiss.calls (a0 : Int) (r : Int) (w : World) (h : spec_CronMayMiss.f a0 = some r) :
  Calls Tryz.prog 79 #[.int .i64 a0] w fun e w' => e = .returned (.int .i64 r) ∧ Drawn0 w w' := by
 have H : (if (Go.bits .and .i64 a0 2) = 0 then (if (Go.bits .and .i64 a0 128) = 0 then (some (-1)) else (some 5)) else (some 0)) = some r := h
 clear h
 by_cases c2 : (Go.bits .and .i64 a0 2) = 0
 ·rw [if_pos c2] at H
  have c2b0 : ((Go.bits .and .i64 a0 2) == 0) = true := beq_iff_eq.mpr c2
  have c2b1 : ((Go.bits .and .i64 a0 2) != 0) = false := bne_eq_false_iff_eq.mpr c2
  clear c2
  by_cases c3 : (Go.bits .and .i64 a0 128) = 0
  ·rw [if_pos c3] at H
   have c3b0 : ((Go.bits .and .i64 a0 128) == 0) = true := beq_iff_eq.mpr c3
   have c3b1 : ((Go.bits .and .i64 a0 128) != 0) = false := bne_eq_false_iff_eq.mpr c3
   clear c3
   obtain rfl := Option.some.inj H
   go_enter Tryz.func79, Tryz.ntmps79
   go_wp2
   go_ret
   exact ⟨by first | rfl | (simp; done) | (simp [*]; done), by repeat (first | exact Drawn0.refl _ | apply Drawn0.step)⟩
  ·rw [if_neg c3] at H
   have c3b0 : ((Go.bits .and .i64 a0 128) == 0) = false := beq_eq_false_iff_ne.mpr c3
   have c3b1 : ((Go.bits .and .i64 a0 128) != 0) = true := bne_iff_ne.mpr c3
   obtain rfl := Option.some.inj H
   go_enter Tryz.func79, Tryz.ntmps79
   go_wp2
   go_ret
   exact ⟨by first | rfl | (simp; done) | (simp [*]; done), by repeat (first | exact Drawn0.refl _ | apply Drawn0.step)⟩
 ·rw [if_neg c2] at H
  have c2b0 : ((Go.bits .and .i64 a0 2) == 0) = false := beq_eq_false_iff_ne.mpr c2
  have c2b1 : ((Go.bits .and .i64 a0 2) != 0) = true := bne_iff_ne.mpr c2
  obtain rfl := Option.some.inj H
  go_enter Tryz.func79, Tryz.ntmps79
  go_wp2
  go_ret
  exact ⟨by first | rfl | (simp; done) | (simp [*]; done), by repeat (first | exact Drawn0.refl _ | apply Drawn0.step)⟩
end Go.Proofs.YtmecbmgfacpecaaGreatDoor.Pr
