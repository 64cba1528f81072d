/- Functions of the program and of its library as plain Lean functions, printed by the kit's print.sh, merged by wip/tools/pack.py. Conditions: none. -/
import Derived.Test.YtmecbmgfacpecaaGreatDoorProg
import Derived.Below
import Derived.Deep.Draws
import Derived.Deep.AppendLies
import Derived.Maps.AppendAt
import Derived.OwnWalk
import Derived.Laws.BytesArg
import Derived.Laws.MakeOwn
import Derived.Laws.OwnMore
import Derived.Deep.OwnRows
import Derived.Tactics
import Derived.Lib.ConvBytes
import Derived.Laws.Slices
import Derived.WalkKit
import Derived.KernelRfl
import Derived.RowKit3
import Derived.Deep.LoopGhost
import Derived.Deep.QuietTactic
import Derived.BigQuiet
import Derived.WideLaws
import Derived.Deep.DeepCutAuto
import Derived.Deep.CutBlock
import Derived.Deep.RegionHeld3
import Derived.Laws.Rows
import Derived.Lib.AppendStr
import Derived.ArgAppend
import Derived.Laws.IdiomCopy
import Derived.OrdersHeld
import Derived.Laws.BitsLemmas
import Derived.RowKit
import Derived.Test.YtmecbmgfacpecaaGreatDoorWWords
import Derived.Test.YtmecbmgfacpecaaGreatDoorWLast
import Derived.Test.YtmecbmgfacpecaaGreatDoorWTab
import Derived.Test.YtmecbmgfacpecaaGreatDoorWRepsOne
import Derived.Test.YtmecbmgfacpecaaGreatDoorPrGT
namespace Go.Proofs.YtmecbmgfacpecaaGreatDoor.Pr
open Go.RowKit Go.Proofs.YtmecbmgfacpecaaGreatDoorW.PrintWords Go.Proofs.YtmecbmgfacpecaaGreatDoorW.PrintLast
set_option linter.unusedVariables false
set_option linter.unusedSimpArgs false
def errW : Option Int → Value
  | none => .nilIface
  | some c => .iface 0 (.int .i64 c)
theorem errW_none : errW none = .nilIface := rfl
theorem errW_some (c : Int) : errW (some c) = .iface 0 (.int .i64 c) := rfl
theorem info9 : (Tryz.prog.info? 9).map (fun i => (i.zero, i.size, i.bytes)) = some (some (.string ⟨#[]⟩), 1, 16) := by kernel_rfl
-- the values' own types
-- the values' own types
/-! #### struct type 41 -/
end Go.Proofs.YtmecbmgfacpecaaGreatDoor.Pr

namespace Go.Proofs.YtmecbmgfacpecaaGreatDoor.Pr
open Go.RowKit Go.Proofs.YtmecbmgfacpecaaGreatDoorW.PrintWords Go.Proofs.YtmecbmgfacpecaaGreatDoorW.PrintLast
set_option linter.unusedVariables false
set_option linter.unusedSimpArgs false
/-! ### spec_CronLeap: function 74 -/
def spec_CronLeap.f (a0 : Int) : Option (Bool) := if (Int.tmod a0 4) = 0 then (if (Int.tmod a0 100) = 0 then (some ((Int.tmod a0 400) == 0)) else (some true)) else (some false)
set_option maxHeartbeats 8000000 in
set_option maxRecDepth 100000 in
theorem spec_CronLeap.calls (a0 : Int) (r : Bool) (w : World) (h : spec_CronLeap.f a0 = some r) :
    Calls Tryz.prog 74 #[.int .i64 a0] w fun e w' => e = .returned (.bool r) ∧ Drawn0 w w' := by
  have H : (if (Int.tmod a0 4) = 0 then (if (Int.tmod a0 100) = 0 then (some ((Int.tmod a0 400) == 0)) else (some true)) else (some false)) = some r := h
  clear h
  by_cases c2 : (Int.tmod a0 4) = 0
  · rw [if_pos c2] at H
    have c2b0 : ((Int.tmod a0 4) == 0) = true := beq_iff_eq.mpr c2
    have c2b1 : ((Int.tmod a0 4) != 0) = false := bne_eq_false_iff_eq.mpr c2
    clear c2
    by_cases c3 : (Int.tmod a0 100) = 0
    · rw [if_pos c3] at H
      have c3b0 : ((Int.tmod a0 100) == 0) = true := beq_iff_eq.mpr c3
      have c3b1 : ((Int.tmod a0 100) != 0) = false := bne_eq_false_iff_eq.mpr c3
      clear c3
      obtain rfl := Option.some.inj H
      go_enter Tryz.func74, Tryz.ntmps74
      go_wp2
      go_ret
      exact ⟨by first | rfl | (simp; done) | (simp [*]; done), by repeat (first | exact Drawn0.refl _ | apply Drawn0.step)⟩
    · rw [if_neg c3] at H
      have c3b0 : ((Int.tmod a0 100) == 0) = false := beq_eq_false_iff_ne.mpr c3
      have c3b1 : ((Int.tmod a0 100) != 0) = true := bne_iff_ne.mpr c3
      obtain rfl := Option.some.inj H
      go_enter Tryz.func74, Tryz.ntmps74
      go_wp2
      go_ret
      exact ⟨by first | rfl | (simp; done) | (simp [*]; done), by repeat (first | exact Drawn0.refl _ | apply Drawn0.step)⟩
  · rw [if_neg c2] at H
    have c2b0 : ((Int.tmod a0 4) == 0) = false := beq_eq_false_iff_ne.mpr c2
    have c2b1 : ((Int.tmod a0 4) != 0) = true := bne_iff_ne.mpr c2
    obtain rfl := Option.some.inj H
    go_enter Tryz.func74, Tryz.ntmps74
    go_wp2
    go_ret
    exact ⟨by first | rfl | (simp; done) | (simp [*]; done), by repeat (first | exact Drawn0.refl _ | apply Drawn0.step)⟩
end Go.Proofs.YtmecbmgfacpecaaGreatDoor.Pr

namespace Go.Proofs.YtmecbmgfacpecaaGreatDoor.Pr
open Go.RowKit Go.Proofs.YtmecbmgfacpecaaGreatDoorW.PrintWords Go.Proofs.YtmecbmgfacpecaaGreatDoorW.PrintLast
set_option linter.unusedVariables false
set_option linter.unusedSimpArgs false
/-! ### spec_CronMonthDays: function 35 -/
def spec_CronMonthDays.f (a0 : Int) (a1 : Int) : Option (Int) := if a1 = 2 then ((spec_CronLeap.f a0).bind fun t181 => (if t181 = true then (some 29) else (some 28))) else (if a1 = 4 then (some 30) else (if a1 = 6 then (some 30) else (if a1 = 9 then (some 30) else (if a1 = 11 then (some 30) else (some 31)))))
set_option maxHeartbeats 8000000 in
set_option maxRecDepth 100000 in
theorem spec_CronMonthDays.calls (a0 : Int) (a1 : Int) (r : Int) (w : World) (h : spec_CronMonthDays.f a0 a1 = some r) :
    Calls Tryz.prog 35 #[.int .i64 a0, .int .i64 a1] w fun e w' => e = .returned (.int .i64 r) ∧ Drawn0 w w' := by
  have H : (if a1 = 2 then ((spec_CronLeap.f a0).bind fun t181 => (if t181 = true then (some 29) else (some 28))) else (if a1 = 4 then (some 30) else (if a1 = 6 then (some 30) else (if a1 = 9 then (some 30) else (if a1 = 11 then (some 30) else (some 31)))))) = some r := h
  clear h
  by_cases c3 : a1 = 2
  · rw [if_pos c3] at H
    have c3b0 : (a1 == 2) = true := beq_iff_eq.mpr c3
    have c3b1 : (a1 != 2) = false := bne_eq_false_iff_eq.mpr c3
    clear c3
    replace H := Option.bind_eq_some_iff.mp H
    obtain ⟨t181, A40, H⟩ := H
    replace H : (if t181 = true then (some 29) else (some 28)) = some r := H
    have A4 := Aside0.mk A40
    clear A40
    by_cases c5 : t181 = true
    · subst c5
      have H1 : (some 29) = some r := by rw [if_pos rfl] at H; exact H
      clear H
      have H := H1
      clear H1
      obtain rfl := Option.some.inj H
      go_enter Tryz.func35, Tryz.ntmps35
      go_wp2_with (first | ((with_reducible refine gate_callee (f := 74) rfl ?_); refine goesL_ (some 9) rfl rfl Tryz.func74 (by kernel_rfl) rfl #[.int .i64 a0] rfl (by (try simp only [List.map_toArray, List.map_cons, List.map_nil]); first | done | rfl | (simp only [List.length_drop, List.length_take]; rfl)) ?_; (with_reducible refine (spec_CronLeap.calls a0 true _ A4.out).mono ?_); rintro e w' ⟨rfl, ⟨nd, rfl⟩⟩; refine ⟨_, rfl, ?_⟩))
      go_ret
      exact ⟨by first | rfl | (simp; done) | (simp [*]; done), by repeat (first | exact Drawn0.refl _ | apply Drawn0.step)⟩
    · replace c5 := Bool.eq_false_iff.mpr c5
      subst c5
      have H1 : (some 28) = some r := by rw [if_neg (show ¬ (false = true) by decide)] at H; exact H
      clear H
      have H := H1
      clear H1
      obtain rfl := Option.some.inj H
      go_enter Tryz.func35, Tryz.ntmps35
      go_wp2_with (first | ((with_reducible refine gate_callee (f := 74) rfl ?_); refine goesL_ (some 9) rfl rfl Tryz.func74 (by kernel_rfl) rfl #[.int .i64 a0] rfl (by (try simp only [List.map_toArray, List.map_cons, List.map_nil]); first | done | rfl | (simp only [List.length_drop, List.length_take]; rfl)) ?_; (with_reducible refine (spec_CronLeap.calls a0 false _ A4.out).mono ?_); rintro e w' ⟨rfl, ⟨nd, rfl⟩⟩; refine ⟨_, rfl, ?_⟩))
      go_ret
      exact ⟨by first | rfl | (simp; done) | (simp [*]; done), by repeat (first | exact Drawn0.refl _ | apply Drawn0.step)⟩
  · rw [if_neg c3] at H
    have c3b0 : (a1 == 2) = false := beq_eq_false_iff_ne.mpr c3
    have c3b1 : (a1 != 2) = true := bne_iff_ne.mpr c3
    by_cases c6 : a1 = 4
    · rw [if_pos c6] at H
      have c6b0 : (a1 == 4) = true := beq_iff_eq.mpr c6
      have c6b1 : (a1 != 4) = false := bne_eq_false_iff_eq.mpr c6
      clear c6
      obtain rfl := Option.some.inj H
      go_enter Tryz.func35, Tryz.ntmps35
      go_wp2
      go_ret
      exact ⟨by first | rfl | (simp; done) | (simp [*]; done), by repeat (first | exact Drawn0.refl _ | apply Drawn0.step)⟩
    · rw [if_neg c6] at H
      have c6b0 : (a1 == 4) = false := beq_eq_false_iff_ne.mpr c6
      have c6b1 : (a1 != 4) = true := bne_iff_ne.mpr c6
      by_cases c7 : a1 = 6
      · rw [if_pos c7] at H
        have c7b0 : (a1 == 6) = true := beq_iff_eq.mpr c7
        have c7b1 : (a1 != 6) = false := bne_eq_false_iff_eq.mpr c7
        clear c7
        obtain rfl := Option.some.inj H
        go_enter Tryz.func35, Tryz.ntmps35
        go_wp2
        go_ret
        exact ⟨by first | rfl | (simp; done) | (simp [*]; done), by repeat (first | exact Drawn0.refl _ | apply Drawn0.step)⟩
      · rw [if_neg c7] at H
        have c7b0 : (a1 == 6) = false := beq_eq_false_iff_ne.mpr c7
        have c7b1 : (a1 != 6) = true := bne_iff_ne.mpr c7
        by_cases c8 : a1 = 9
        · rw [if_pos c8] at H
          have c8b0 : (a1 == 9) = true := beq_iff_eq.mpr c8
          have c8b1 : (a1 != 9) = false := bne_eq_false_iff_eq.mpr c8
          clear c8
          obtain rfl := Option.some.inj H
          go_enter Tryz.func35, Tryz.ntmps35
          go_wp2
          go_ret
          exact ⟨by first | rfl | (simp; done) | (simp [*]; done), by repeat (first | exact Drawn0.refl _ | apply Drawn0.step)⟩
        · rw [if_neg c8] at H
          have c8b0 : (a1 == 9) = false := beq_eq_false_iff_ne.mpr c8
          have c8b1 : (a1 != 9) = true := bne_iff_ne.mpr c8
          by_cases c9 : a1 = 11
          · rw [if_pos c9] at H
            have c9b0 : (a1 == 11) = true := beq_iff_eq.mpr c9
            have c9b1 : (a1 != 11) = false := bne_eq_false_iff_eq.mpr c9
            clear c9
            obtain rfl := Option.some.inj H
            go_enter Tryz.func35, Tryz.ntmps35
            go_wp2
            go_ret
            exact ⟨by first | rfl | (simp; done) | (simp [*]; done), by repeat (first | exact Drawn0.refl _ | apply Drawn0.step)⟩
          · rw [if_neg c9] at H
            have c9b0 : (a1 == 11) = false := beq_eq_false_iff_ne.mpr c9
            have c9b1 : (a1 != 11) = true := bne_iff_ne.mpr c9
            obtain rfl := Option.some.inj H
            go_enter Tryz.func35, Tryz.ntmps35
            go_wp2
            go_ret
            exact ⟨by first | rfl | (simp; done) | (simp [*]; done), by repeat (first | exact Drawn0.refl _ | apply Drawn0.step)⟩
end Go.Proofs.YtmecbmgfacpecaaGreatDoor.Pr

namespace Go.Proofs.YtmecbmgfacpecaaGreatDoor.Pr
open Go.RowKit Go.Proofs.YtmecbmgfacpecaaGreatDoorW.PrintWords Go.Proofs.YtmecbmgfacpecaaGreatDoorW.PrintLast
set_option linter.unusedVariables false
set_option linter.unusedSimpArgs false
/-! ### spec_floorDiv: function 85 -/
def spec_floorDiv.f (a0 : Int) (a1 : Int) : Option (Int) := if a1 = 0 then (none) else (if (Int.tmod a0 a1) < 0 then (some (wrap64 ((wrap64 (Int.tdiv a0 a1)) - 1))) else (some (wrap64 (Int.tdiv a0 a1))))
set_option maxHeartbeats 8000000 in
set_option maxRecDepth 100000 in
theorem spec_floorDiv.calls (a0 : Int) (a1 : Int) (r : Int) (w : World) (h : spec_floorDiv.f a0 a1 = some r) :
    Calls Tryz.prog 85 #[.int .i64 a0, .int .i64 a1] w fun e w' => e = .returned (.int .i64 r) ∧ Drawn0 w w' := by
  have H : (if a1 = 0 then (none) else (if (Int.tmod a0 a1) < 0 then (some (wrap64 ((wrap64 (Int.tdiv a0 a1)) - 1))) else (some (wrap64 (Int.tdiv a0 a1))))) = some r := h
  clear h
  by_cases c3 : a1 = 0
  · rw [if_pos c3] at H
    exact absurd H (by simp)
  · rw [if_neg c3] at H
    have c3b0 : (a1 == 0) = false := beq_eq_false_iff_ne.mpr c3
    have c3b1 : (a1 != 0) = true := bne_iff_ne.mpr c3
    by_cases c4 : (Int.tmod a0 a1) < 0
    · rw [if_pos c4] at H
      have c4b0 : decide ((Int.tmod a0 a1) < 0) = true := decide_eq_true c4
      clear c4
      obtain rfl := Option.some.inj H
      go_enter Tryz.func85, Tryz.ntmps85
      go_wp2
      go_ret
      exact ⟨by first | rfl | (simp; done) | (simp [*]; done), by repeat (first | exact Drawn0.refl _ | apply Drawn0.step)⟩
    · rw [if_neg c4] at H
      have c4b0 : decide ((Int.tmod a0 a1) < 0) = false := decide_eq_false c4
      clear c4
      obtain rfl := Option.some.inj H
      go_enter Tryz.func85, Tryz.ntmps85
      go_wp2
      go_ret
      exact ⟨by first | rfl | (simp; done) | (simp [*]; done), by repeat (first | exact Drawn0.refl _ | apply Drawn0.step)⟩
end Go.Proofs.YtmecbmgfacpecaaGreatDoor.Pr

namespace Go.Proofs.YtmecbmgfacpecaaGreatDoor.Pr
open Go.RowKit Go.Proofs.YtmecbmgfacpecaaGreatDoorW.PrintWords Go.Proofs.YtmecbmgfacpecaaGreatDoorW.PrintLast
set_option linter.unusedVariables false
set_option linter.unusedSimpArgs false
/-! ### spec_CronYearStart: function 130 -/
def spec_CronYearStart.f (a0 : Int) : Option (Int) := (spec_floorDiv.f (wrap64 (a0 - 1)) 4).bind fun t182 => ((spec_floorDiv.f (wrap64 (a0 - 1)) 100).bind fun t183 => ((spec_floorDiv.f (wrap64 (a0 - 1)) 400).bind fun t184 => (some (wrap64 ((wrap64 ((wrap64 ((wrap64 ((wrap64 (365 * (wrap64 (a0 - 1)))) + t182)) - t183)) + t184)) - 719162)))))
set_option maxHeartbeats 8000000 in
set_option maxRecDepth 100000 in
theorem spec_CronYearStart.calls (a0 : Int) (r : Int) (w : World) (h : spec_CronYearStart.f a0 = some r) :
    Calls Tryz.prog 130 #[.int .i64 a0] w fun e w' => e = .returned (.int .i64 r) ∧ Drawn0 w w' := by
  have H : ((spec_floorDiv.f (wrap64 (a0 - 1)) 4).bind fun t182 => ((spec_floorDiv.f (wrap64 (a0 - 1)) 100).bind fun t183 => ((spec_floorDiv.f (wrap64 (a0 - 1)) 400).bind fun t184 => (some (wrap64 ((wrap64 ((wrap64 ((wrap64 ((wrap64 (365 * (wrap64 (a0 - 1)))) + t182)) - t183)) + t184)) - 719162)))))) = some r := h
  clear h
  replace H := Option.bind_eq_some_iff.mp H
  obtain ⟨t182, A20, H⟩ := H
  replace H : ((spec_floorDiv.f (wrap64 (a0 - 1)) 100).bind fun t183 => ((spec_floorDiv.f (wrap64 (a0 - 1)) 400).bind fun t184 => (some (wrap64 ((wrap64 ((wrap64 ((wrap64 ((wrap64 (365 * (wrap64 (a0 - 1)))) + t182)) - t183)) + t184)) - 719162))))) = some r := H
  have A2 := Aside0.mk A20
  clear A20
  replace H := Option.bind_eq_some_iff.mp H
  obtain ⟨t183, A30, H⟩ := H
  replace H : ((spec_floorDiv.f (wrap64 (a0 - 1)) 400).bind fun t184 => (some (wrap64 ((wrap64 ((wrap64 ((wrap64 ((wrap64 (365 * (wrap64 (a0 - 1)))) + t182)) - t183)) + t184)) - 719162)))) = some r := H
  have A3 := Aside0.mk A30
  clear A30
  replace H := Option.bind_eq_some_iff.mp H
  obtain ⟨t184, A40, H⟩ := H
  replace H : (some (wrap64 ((wrap64 ((wrap64 ((wrap64 ((wrap64 (365 * (wrap64 (a0 - 1)))) + t182)) - t183)) + t184)) - 719162))) = some r := H
  have A4 := Aside0.mk A40
  clear A40
  obtain rfl := Option.some.inj H
  go_enter Tryz.func130, Tryz.ntmps130
  go_wp2_with (first | ((with_reducible refine gate_callee (f := 85) rfl ?_); refine goesL_ (some 9) rfl rfl Tryz.func85 (by kernel_rfl) rfl #[.int .i64 (wrap64 (a0 - 1)), .int .i64 4] rfl (by (try simp only [List.map_toArray, List.map_cons, List.map_nil]); first | done | rfl | (simp only [List.length_drop, List.length_take]; rfl)) ?_; (with_reducible refine (spec_floorDiv.calls (wrap64 (a0 - 1)) 4 t182 _ A2.out).mono ?_); rintro e w' ⟨rfl, ⟨nd, rfl⟩⟩; refine ⟨_, rfl, ?_⟩) | ((with_reducible refine gate_callee (f := 85) rfl ?_); refine goesL_ (some 12) rfl rfl Tryz.func85 (by kernel_rfl) rfl #[.int .i64 (wrap64 (a0 - 1)), .int .i64 100] rfl (by (try simp only [List.map_toArray, List.map_cons, List.map_nil]); first | done | rfl | (simp only [List.length_drop, List.length_take]; rfl)) ?_; (with_reducible refine (spec_floorDiv.calls (wrap64 (a0 - 1)) 100 t183 _ A3.out).mono ?_); rintro e w' ⟨rfl, ⟨nd, rfl⟩⟩; refine ⟨_, rfl, ?_⟩) | ((with_reducible refine gate_callee (f := 85) rfl ?_); refine goesL_ (some 15) rfl rfl Tryz.func85 (by kernel_rfl) rfl #[.int .i64 (wrap64 (a0 - 1)), .int .i64 400] rfl (by (try simp only [List.map_toArray, List.map_cons, List.map_nil]); first | done | rfl | (simp only [List.length_drop, List.length_take]; rfl)) ?_; (with_reducible refine (spec_floorDiv.calls (wrap64 (a0 - 1)) 400 t184 _ A4.out).mono ?_); rintro e w' ⟨rfl, ⟨nd, rfl⟩⟩; refine ⟨_, rfl, ?_⟩))
  go_ret
  exact ⟨by first | rfl | (simp; done) | (simp [*]; done), by repeat (first | exact Drawn0.refl _ | apply Drawn0.step)⟩
end Go.Proofs.YtmecbmgfacpecaaGreatDoor.Pr

namespace Go.Proofs.YtmecbmgfacpecaaGreatDoor.Pr
open Go.RowKit Go.Proofs.YtmecbmgfacpecaaGreatDoorW.PrintWords Go.Proofs.YtmecbmgfacpecaaGreatDoorW.PrintLast
set_option linter.unusedVariables false
set_option linter.unusedSimpArgs false
/-! ### spec_CronDateOf: function 84 -/
mutual
def spec_CronDateOf.j0 : Nat → Int → Int → Option (Int × Int × Int)
  | 0, _, _ => none
  | k + 1, x0, x3 => spec_CronDateOf.l0 k x0 x3
def spec_CronDateOf.l0 : Nat → Int → Int → Option (Int × Int × Int)
  | 0, _, _ => none
  | k + 1, x0, x3 => (spec_CronYearStart.f (wrap64 (x3 + 1))).bind fun t188 => (if t188 ≤ x0 then (spec_CronDateOf.l0 k x0 (wrap64 (x3 + 1))) else ((spec_CronYearStart.f x3).bind fun t189 => (spec_CronDateOf.l1 k x3 (wrap64 (x0 - t189)) 1)))
def spec_CronDateOf.l1 : Nat → Int → Int → Int → Option (Int × Int × Int)
  | 0, _, _, _ => none
  | k + 1, x3, x4, x5 => (spec_CronMonthDays.f x3 x5).bind fun t190 => (if x4 ≥ t190 then ((spec_CronMonthDays.f x3 x5).bind fun t191 => (spec_CronDateOf.l1 k x3 (wrap64 (x4 - t191)) (wrap64 (x5 + 1)))) else (some (x3, x5, wrap64 (x4 + 1))))
end
def spec_CronDateOf.f (k : Nat) (a0 : Int) : Option (Int × Int × Int) := (spec_floorDiv.f a0 366).bind fun t186 => (if a0 < 0 then ((spec_floorDiv.f a0 365).bind fun t187 => (spec_CronDateOf.j0 k a0 (wrap64 ((wrap64 (1970 + t187)) - 1)))) else (spec_CronDateOf.j0 k a0 (wrap64 (1970 + t186))))
theorem spec_CronDateOf.mono_l : ∀ k, (∀ y0 y1, LeO (spec_CronDateOf.j0 k y0 y1) (spec_CronDateOf.j0 (k + 1) y0 y1)) ∧ (∀ y0 y1, LeO (spec_CronDateOf.l0 k y0 y1) (spec_CronDateOf.l0 (k + 1) y0 y1)) ∧ (∀ y0 y1 y2, LeO (spec_CronDateOf.l1 k y0 y1 y2) (spec_CronDateOf.l1 (k + 1) y0 y1 y2))
  | 0 => ⟨fun _ _ r h => by simp [spec_CronDateOf.j0] at h, fun _ _ r h => by simp [spec_CronDateOf.l0] at h, fun _ _ _ r h => by simp [spec_CronDateOf.l1] at h⟩
  | k + 1 => by
    obtain ⟨ih0, ih1, ih2⟩ := spec_CronDateOf.mono_l k
    refine ⟨?_, ?_, ?_⟩
    · intro y0 y1
      unfold spec_CronDateOf.j0
      repeat' first
      | (with_reducible exact ih0 _ _)
      | (with_reducible exact ih1 _ _)
      | (with_reducible exact ih2 _ _ _)
      | (with_reducible exact LeO.refl _)
      | (with_reducible exact LeO.none _)
      | (with_reducible refine LeO.ite ?_ ?_)
      | (with_reducible refine LeO.bind ?_ (fun _ => ?_))
      | exact ih0 _ _
      | exact ih1 _ _
      | exact ih2 _ _ _
      | exact LeO.none _
      | refine LeO.ite ?_ ?_
      | refine LeO.bind ?_ (fun _ => ?_)
    · intro y0 y1
      unfold spec_CronDateOf.l0
      repeat' first
      | (with_reducible exact ih0 _ _)
      | (with_reducible exact ih1 _ _)
      | (with_reducible exact ih2 _ _ _)
      | (with_reducible exact LeO.refl _)
      | (with_reducible exact LeO.none _)
      | (with_reducible refine LeO.ite ?_ ?_)
      | (with_reducible refine LeO.bind ?_ (fun _ => ?_))
      | exact ih0 _ _
      | exact ih1 _ _
      | exact ih2 _ _ _
      | exact LeO.none _
      | refine LeO.ite ?_ ?_
      | refine LeO.bind ?_ (fun _ => ?_)
    · intro y0 y1 y2
      unfold spec_CronDateOf.l1
      repeat' first
      | (with_reducible exact ih0 _ _)
      | (with_reducible exact ih1 _ _)
      | (with_reducible exact ih2 _ _ _)
      | (with_reducible exact LeO.refl _)
      | (with_reducible exact LeO.none _)
      | (with_reducible refine LeO.ite ?_ ?_)
      | (with_reducible refine LeO.bind ?_ (fun _ => ?_))
      | exact ih0 _ _
      | exact ih1 _ _
      | exact ih2 _ _ _
      | exact LeO.none _
      | refine LeO.ite ?_ ?_
      | refine LeO.bind ?_ (fun _ => ?_)
theorem spec_CronDateOf.mono : ∀ a0 k, LeO (spec_CronDateOf.f k a0) (spec_CronDateOf.f (k + 1) a0) := by
  intro a0 k
  obtain ⟨ih0, ih1, ih2⟩ := spec_CronDateOf.mono_l k
  unfold spec_CronDateOf.f
  repeat' first
      | (with_reducible exact ih0 _ _)
      | (with_reducible exact ih1 _ _)
      | (with_reducible exact ih2 _ _ _)
      | (with_reducible exact LeO.refl _)
      | (with_reducible exact LeO.none _)
      | (with_reducible refine LeO.ite ?_ ?_)
      | (with_reducible refine LeO.bind ?_ (fun _ => ?_))
      | exact ih0 _ _
      | exact ih1 _ _
      | exact ih2 _ _ _
      | exact LeO.none _
      | refine LeO.ite ?_ ?_
      | refine LeO.bind ?_ (fun _ => ?_)
set_option maxHeartbeats 8000000 in
set_option maxRecDepth 100000 in
theorem spec_CronDateOf.calls (k : Nat) (a0 : Int) (r1 : Int) (r2 : Int) (r3 : Int) (w : World) (h : spec_CronDateOf.f k a0 = some (r1, r2, r3)) :
    Calls Tryz.prog 84 #[.int .i64 a0] w fun e w' => e = .returned (.agg #[.int .i64 r1, .int .i64 r2, .int .i64 r3]) ∧ Below w.heap.size w w' := by
  have hu83 := Tryz.underlying83
  have HB := Aside0.mk (Below.refl w.heap.size w)
  have H : ((spec_floorDiv.f a0 366).bind fun t186 => (if a0 < 0 then ((spec_floorDiv.f a0 365).bind fun t187 => (spec_CronDateOf.j0 k a0 (wrap64 ((wrap64 (1970 + t187)) - 1)))) else (spec_CronDateOf.j0 k a0 (wrap64 (1970 + t186))))) = some (r1, r2, r3) := h
  clear h
  replace H := Option.bind_eq_some_iff.mp H
  obtain ⟨t186, A20, H⟩ := H
  replace H : (if a0 < 0 then ((spec_floorDiv.f a0 365).bind fun t187 => (spec_CronDateOf.j0 k a0 (wrap64 ((wrap64 (1970 + t187)) - 1)))) else (spec_CronDateOf.j0 k a0 (wrap64 (1970 + t186)))) = some (r1, r2, r3) := H
  have A2 := Aside0.mk A20
  clear A20
  have HC3 := Aside0.mk H
  clear H
  go_enter Tryz.func84, Tryz.ntmps84
  go_upto_if 10 with (first | ((with_reducible refine gate_dst (N := 2) rfl ?_); refine box_event ?hg (N := 2) ?hd (cs := #[.int .i64 0, .int .i64 0, .int .i64 0]) (t := 83) ?hr ?_; (case hd => rfl); (case hg => rfl); (case hr => first | (go_simp; done) | (go_simp; rfl)); intro gb185 hg w4 hbox hb; have n0_ := Aside0.mk (below_step (by repeat (first | (with_reducible first | exact HB.out | apply below_alloc | apply pw_below_drewN | apply below_drew1) | exact HB.out)) hb); have n1_ := Aside0.mk (hbox); have n2_ := Aside0.mk ((by rw [hg]; exact (below_size (by repeat (first | (with_reducible first | exact HB.out | apply below_alloc | apply pw_below_drewN | apply below_drew1) | exact HB.out))) : w.heap.size ≤ gb185)); have n3_ := Aside0.mk ((by rw [hg]; exact (below_size (by repeat (first | (with_reducible first | exact HB.out | apply below_alloc | apply pw_below_drewN | apply below_drew1) | exact HB.out))) : w.heap.size ≤ gb185)); clear HB; have HB := n0_; have BK185 := n1_; have GW185 := n2_; have GE185 := n3_; clear n0_ n1_ n2_ n3_; clear hb hbox hg) | ((with_reducible refine gate_callee (f := 85) rfl ?_); refine goesL_ (some 7) rfl rfl Tryz.func85 (by kernel_rfl) rfl #[.int .i64 a0, .int .i64 366] rfl (by (try simp only [List.map_toArray, List.map_cons, List.map_nil]); first | done | rfl | (simp only [List.length_drop, List.length_take]; rfl)) ?_; (with_reducible refine (spec_floorDiv.calls a0 366 t186 _ A2.out).mono ?_); rintro e w' ⟨rfl, ⟨nd, rfl⟩⟩; refine ⟨_, rfl, ?_⟩))
  (try simp only [Act.put, List.setIfInBounds_toArray, List.set_cons_zero, List.set_cons_succ])
  go_cut [3] (fun v3 wc => ∃ (kq : Nat) (x3_2 : Int), v3 = .int .i64 x3_2 ∧ Aside0 (spec_CronDateOf.j0 kq a0 x3_2 = some (r1, r2, r3)) ∧ Aside0 (kq ≤ k) ∧ Aside0 (wc.heap[gb185]? = some (.cells #[.int .i64 0, .int .i64 0, .int .i64 0] 83 (0, 0))) ∧ Aside0 (Below w.heap.size w wc))
  case first =>
    have H := HC3.out
    clear HC3
    by_cases c5 : a0 < 0
    · rw [if_pos c5] at H
      have c5b0 : decide (a0 < 0) = true := decide_eq_true c5
      clear c5
      (first | rw [c5b0] | (simp only [i64_w, i32_w]; rw [c5b0]) | skip)
      replace H := Option.bind_eq_some_iff.mp H
      obtain ⟨t187, A60, H⟩ := H
      replace H : (spec_CronDateOf.j0 k a0 (wrap64 ((wrap64 (1970 + t187)) - 1))) = some (r1, r2, r3) := H
      have A6 := Aside0.mk A60
      clear A60
      have H' := Aside0.mk H
      clear H
      go_wp2_with (first | ((with_reducible refine gate_callee (f := 85) rfl ?_); refine goesL_ (some 12) rfl rfl Tryz.func85 (by kernel_rfl) rfl #[.int .i64 a0, .int .i64 365] rfl (by (try simp only [List.map_toArray, List.map_cons, List.map_nil]); first | done | rfl | (simp only [List.length_drop, List.length_take]; rfl)) ?_; (with_reducible refine (spec_floorDiv.calls a0 365 t187 _ A6.out).mono ?_); rintro e w' ⟨rfl, ⟨nd, rfl⟩⟩; refine ⟨_, rfl, ?_⟩))
      go_meet
      case rel => exact ⟨_, (wrap64 ((wrap64 (1970 + t187)) - 1)), (by first | rfl | (simp; done) | (simp [*]; done)), H', ⟨by first | omega | exact Nat.le_refl _⟩, ⟨by (with_reducible repeat (first | refine blk_drewN ?_ _ | refine blk_drew ?_ | refine blk_alloc ?_ _)); exact BK185.out⟩, ⟨by repeat (first | (with_reducible first | exact HB.out | apply below_alloc | apply pw_below_drewN | apply below_drew1 | refine below_set ?_ GE185.out) | exact HB.out)⟩⟩
    · rw [if_neg c5] at H
      have c5b0 : decide (a0 < 0) = false := decide_eq_false c5
      clear c5
      (first | rw [c5b0] | (simp only [i64_w, i32_w]; rw [c5b0]) | skip)
      have H' := Aside0.mk H
      clear H
      go_wp2
      go_meet
      case rel => exact ⟨_, (wrap64 (1970 + t186)), (by first | rfl | (simp; done) | (simp [*]; done)), H', ⟨by first | omega | exact Nat.le_refl _⟩, ⟨by (with_reducible repeat (first | refine blk_drewN ?_ _ | refine blk_drew ?_ | refine blk_alloc ?_ _)); exact BK185.out⟩, ⟨by repeat (first | (with_reducible first | exact HB.out | apply below_alloc | apply pw_below_drewN | apply below_drew1 | refine below_set ?_ GE185.out) | exact HB.out)⟩⟩
  case rest =>
    clear HC3
    try clear p2
    try clear c5
    try clear c5b0
    try clear p6
    obtain ⟨kq, x3_2, rfl, HA, HJ2, BK185, HB⟩ := hcut
    cases kq with
    | zero => exact absurd HA.out (by simp [spec_CronDateOf.j0])
    | succ kj2 =>
      have H := HA.out
      clear HA
      simp only [spec_CronDateOf.j0] at H
      have H' := Aside0.mk H
      clear H
      go_wp2
      go_loopg [3] kj2 (fun kq v3 w' => ∃ (x3_2 : Int), v3 = .int .i64 x3_2 ∧ Aside0 (spec_CronDateOf.l0 kq a0 x3_2 = some (r1, r2, r3)) ∧ Aside0 (kq ≤ kj2) ∧ Aside0 (w'.heap[gb185]? = some (.cells #[.int .i64 0, .int .i64 0, .int .i64 0] 83 (0, 0))) ∧ Aside0 (Below w.heap.size w w'))
      case atStart => exact ⟨(x3_2), (by first | rfl | (simp; done) | (simp [*]; done)), H', ⟨Nat.le_refl _⟩, ⟨by (with_reducible repeat (first | refine blk_drewN ?_ _ | refine blk_drew ?_ | refine blk_alloc ?_ _)); exact BK185.out⟩, ⟨by repeat (first | (with_reducible first | exact HB.out | apply below_alloc | apply pw_below_drewN | apply below_drew1 | refine below_set ?_ GE185.out) | exact HB.out)⟩⟩
      case round =>
        clear H'
        try clear p2
        try clear c5
        try clear c5b0
        try clear p6
        try clear p2
        try clear p6
        obtain ⟨x3_2, rfl, HA, HK2, BK185, HB⟩ := hrel
        cases gk with
        | zero => exact absurd HA.out (by simp [spec_CronDateOf.l0])
        | succ k2 =>
          have H := HA.out
          clear HA
          simp only [spec_CronDateOf.l0] at H
          replace H := Option.bind_eq_some_iff.mp H
          obtain ⟨t188, A70, H⟩ := H
          replace H : (if t188 ≤ a0 then (spec_CronDateOf.l0 k2 a0 (wrap64 (x3_2 + 1))) else ((spec_CronYearStart.f x3_2).bind fun t189 => (spec_CronDateOf.l1 k2 x3_2 (wrap64 (a0 - t189)) 1))) = some (r1, r2, r3) := H
          have A7 := Aside0.mk A70
          clear A70
          by_cases c8 : t188 ≤ a0
          · rw [if_pos c8] at H
            have c8b0 : decide (t188 ≤ a0) = true := decide_eq_true c8
            clear c8
            have H' := Aside0.mk H
            clear H
            go_wp2_with (first | ((with_reducible refine gate_callee (f := 130) rfl ?_); refine goesL_ (some 17) rfl rfl Tryz.func130 (by kernel_rfl) rfl #[.int .i64 (wrap64 (x3_2 + 1))] rfl (by (try simp only [List.map_toArray, List.map_cons, List.map_nil]); first | done | rfl | (simp only [List.length_drop, List.length_take]; rfl)) ?_; (with_reducible refine (spec_CronYearStart.calls (wrap64 (x3_2 + 1)) t188 _ A7.out).mono ?_); rintro e w' ⟨rfl, ⟨nd, rfl⟩⟩; refine ⟨_, rfl, ?_⟩))
            go_roundg k2
            case measure => have := HJ2.out; have := HK2.out; omega
            case rel => exact ⟨(wrap64 (x3_2 + 1)), (by first | rfl | (simp; done) | (simp [*]; done)), H', ⟨by have := HJ2.out; have := HK2.out; omega⟩, ⟨by (with_reducible repeat (first | refine blk_drewN ?_ _ | refine blk_drew ?_ | refine blk_alloc ?_ _)); exact BK185.out⟩, ⟨by repeat (first | (with_reducible first | exact HB.out | apply below_alloc | apply pw_below_drewN | apply below_drew1 | refine below_set ?_ GE185.out) | exact HB.out)⟩⟩
          · rw [if_neg c8] at H
            have c8b0 : decide (t188 ≤ a0) = false := decide_eq_false c8
            clear c8
            replace H := Option.bind_eq_some_iff.mp H
            obtain ⟨t189, A90, H⟩ := H
            replace H : (spec_CronDateOf.l1 k2 x3_2 (wrap64 (a0 - t189)) 1) = some (r1, r2, r3) := H
            have A9 := Aside0.mk A90
            clear A90
            have H' := Aside0.mk H
            clear H
            go_wp2_with (first | ((with_reducible refine gate_callee (f := 130) rfl ?_); refine goesL_ (some 17) rfl rfl Tryz.func130 (by kernel_rfl) rfl #[.int .i64 (wrap64 (x3_2 + 1))] rfl (by (try simp only [List.map_toArray, List.map_cons, List.map_nil]); first | done | rfl | (simp only [List.length_drop, List.length_take]; rfl)) ?_; (with_reducible refine (spec_CronYearStart.calls (wrap64 (x3_2 + 1)) t188 _ A7.out).mono ?_); rintro e w' ⟨rfl, ⟨nd, rfl⟩⟩; refine ⟨_, rfl, ?_⟩) | ((with_reducible refine gate_callee (f := 130) rfl ?_); refine goesL_ (some 24) rfl rfl Tryz.func130 (by kernel_rfl) rfl #[.int .i64 x3_2] rfl (by (try simp only [List.map_toArray, List.map_cons, List.map_nil]); first | done | rfl | (simp only [List.length_drop, List.length_take]; rfl)) ?_; (with_reducible refine (spec_CronYearStart.calls x3_2 t189 _ A9.out).mono ?_); rintro e w' ⟨rfl, ⟨nd, rfl⟩⟩; refine ⟨_, rfl, ?_⟩))
            go_loopg [4, 5] k2 (fun kq v4 v5 w' => ∃ (x4_3 : Int) (x5_3 : Int), v4 = .int .i64 x4_3 ∧ v5 = .int .i64 x5_3 ∧ Aside0 (spec_CronDateOf.l1 kq x3_2 x4_3 x5_3 = some (r1, r2, r3)) ∧ Aside0 (kq ≤ k2) ∧ Aside0 (w'.heap[gb185]? = some (.cells #[.int .i64 0, .int .i64 0, .int .i64 0] 83 (0, 0))) ∧ Aside0 (Below w.heap.size w w'))
            case atStart => exact ⟨(wrap64 (a0 - t189)), (1), (by first | rfl | (simp; done) | (simp [*]; done)), (by first | rfl | (simp; done) | (simp [*]; done)), H', ⟨Nat.le_refl _⟩, ⟨by (with_reducible repeat (first | refine blk_drewN ?_ _ | refine blk_drew ?_ | refine blk_alloc ?_ _)); exact BK185.out⟩, ⟨by repeat (first | (with_reducible first | exact HB.out | apply below_alloc | apply pw_below_drewN | apply below_drew1 | refine below_set ?_ GE185.out) | exact HB.out)⟩⟩
            case round =>
              clear H'
              try clear c1
              try clear p2
              try clear c5
              try clear c5b0
              try clear p6
              try clear c8
              try clear c8b0
              try clear p2
              try clear p6
              obtain ⟨x4_3, x5_3, rfl, rfl, HA, HK3, BK185, HB⟩ := hrel
              cases gk with
              | zero => exact absurd HA.out (by simp [spec_CronDateOf.l1])
              | succ k3 =>
                have H := HA.out
                clear HA
                simp only [spec_CronDateOf.l1] at H
                replace H := Option.bind_eq_some_iff.mp H
                obtain ⟨t190, A100, H⟩ := H
                replace H : (if x4_3 ≥ t190 then ((spec_CronMonthDays.f x3_2 x5_3).bind fun t191 => (spec_CronDateOf.l1 k3 x3_2 (wrap64 (x4_3 - t191)) (wrap64 (x5_3 + 1)))) else (some (x3_2, x5_3, wrap64 (x4_3 + 1)))) = some (r1, r2, r3) := H
                have A10 := Aside0.mk A100
                clear A100
                by_cases c11 : x4_3 ≥ t190
                · rw [if_pos c11] at H
                  have c11b0 : decide (t190 ≤ x4_3) = true := decide_eq_true c11
                  clear c11
                  replace H := Option.bind_eq_some_iff.mp H
                  obtain ⟨t191, A120, H⟩ := H
                  replace H : (spec_CronDateOf.l1 k3 x3_2 (wrap64 (x4_3 - t191)) (wrap64 (x5_3 + 1))) = some (r1, r2, r3) := H
                  have A12 := Aside0.mk A120
                  clear A120
                  have H' := Aside0.mk H
                  clear H
                  go_wp2_with (first | ((with_reducible refine gate_callee (f := 35) rfl ?_); refine goesL_ (some 29) rfl rfl Tryz.func35 (by kernel_rfl) rfl #[.int .i64 x3_2, .int .i64 x5_3] rfl (by (try simp only [List.map_toArray, List.map_cons, List.map_nil]); first | done | rfl | (simp only [List.length_drop, List.length_take]; rfl)) ?_; (with_reducible refine (spec_CronMonthDays.calls x3_2 x5_3 t190 _ A10.out).mono ?_); rintro e w' ⟨rfl, ⟨nd, rfl⟩⟩; refine ⟨_, rfl, ?_⟩) | ((with_reducible refine gate_callee (f := 35) rfl ?_); refine goesL_ (some 34) rfl rfl Tryz.func35 (by kernel_rfl) rfl #[.int .i64 x3_2, .int .i64 x5_3] rfl (by (try simp only [List.map_toArray, List.map_cons, List.map_nil]); first | done | rfl | (simp only [List.length_drop, List.length_take]; rfl)) ?_; (with_reducible refine (spec_CronMonthDays.calls x3_2 x5_3 t191 _ A12.out).mono ?_); rintro e w' ⟨rfl, ⟨nd, rfl⟩⟩; refine ⟨_, rfl, ?_⟩))
                  go_roundg k3
                  case measure => have := HJ2.out; have := HK2.out; have := HK3.out; omega
                  case rel => exact ⟨(wrap64 (x4_3 - t191)), (wrap64 (x5_3 + 1)), (by first | rfl | (simp; done) | (simp [*]; done)), (by first | rfl | (simp; done) | (simp [*]; done)), H', ⟨by have := HJ2.out; have := HK2.out; have := HK3.out; omega⟩, ⟨by (with_reducible repeat (first | refine blk_drewN ?_ _ | refine blk_drew ?_ | refine blk_alloc ?_ _)); exact BK185.out⟩, ⟨by repeat (first | (with_reducible first | exact HB.out | apply below_alloc | apply pw_below_drewN | apply below_drew1 | refine below_set ?_ GE185.out) | exact HB.out)⟩⟩
                · rw [if_neg c11] at H
                  have c11b0 : decide (t190 ≤ x4_3) = false := decide_eq_false c11
                  clear c11
                  simp only [Option.some.injEq, Prod.mk.injEq] at H
                  obtain ⟨rfl, rfl, rfl⟩ := H
                  go_wp2_with (first | ((with_reducible refine gate_callee (f := 35) rfl ?_); refine goesL_ (some 29) rfl rfl Tryz.func35 (by kernel_rfl) rfl #[.int .i64 x3_2, .int .i64 x5_3] rfl (by (try simp only [List.map_toArray, List.map_cons, List.map_nil]); first | done | rfl | (simp only [List.length_drop, List.length_take]; rfl)) ?_; (with_reducible refine (spec_CronMonthDays.calls x3_2 x5_3 t190 _ A10.out).mono ?_); rintro e w' ⟨rfl, ⟨nd, rfl⟩⟩; refine ⟨_, rfl, ?_⟩; (try (rw [drewN_self wr]; generalize hq_ : World.drewN wr _ = wr; have n0_ : Aside0 (wr.heap[gb185]? = some (.cells #[.int .i64 0, .int .i64 0, .int .i64 0] 83 (0, 0))) := ⟨by rw [← hq_]; exact (by (with_reducible repeat (first | refine blk_drewN ?_ _ | refine blk_drew ?_ | refine blk_alloc ?_ _)); exact BK185.out)⟩; have n1_ : Aside0 (Below w.heap.size w wr) := ⟨by rw [← hq_]; exact (by repeat (first | (with_reducible first | exact HB.out | apply below_alloc | apply pw_below_drewN | apply below_drew1 | refine below_set ?_ GE185.out) | exact HB.out))⟩; clear BK185 HB hq_; have BK185 := n0_; have HB := n1_; clear n0_ n1_)); have hcz13_0 : wr.cell? ⟨gb185, 0, none⟩ = some (.int .i64 0) := (blk_cell BK185.out 0).trans rfl; have hcz13_1 : wr.cell? ⟨gb185, 1, none⟩ = some (.int .i64 0) := (blk_cell BK185.out 1).trans rfl; have hcz13_2 : wr.cell? ⟨gb185, 2, none⟩ = some (.int .i64 0) := (blk_cell BK185.out 2).trans rfl; have hfz13_0 := blk_frozen BK185.out 0; have hfz13_1 := blk_frozen BK185.out 1; have hfz13_2 := blk_frozen BK185.out 2))
                  refine bodyPost_ret (results_cell_row rfl _ _ gb185 83 #[.int .i64 x3_2, .int .i64 x5_3, .int .i64 (wrap64 (x4_3 + 1))] (0, 0) _ rfl (by (with_reducible repeat (first | refine blk_drewN ?_ _ | refine blk_drew ?_ | refine blk_alloc ?_ _)); refine blk_put (cs := #[.int .i64 x3_2, .int .i64 x5_3, .int .i64 0]) ?_ 2 _ rfl; (with_reducible repeat (first | refine blk_drewN ?_ _ | refine blk_drew ?_ | refine blk_alloc ?_ _)); refine blk_put (cs := #[.int .i64 x3_2, .int .i64 0, .int .i64 0]) ?_ 1 _ rfl; (with_reducible repeat (first | refine blk_drewN ?_ _ | refine blk_drew ?_ | refine blk_alloc ?_ _)); refine blk_put (cs := #[.int .i64 0, .int .i64 0, .int .i64 0]) ?_ 0 _ rfl; (with_reducible repeat (first | refine blk_drewN ?_ _ | refine blk_drew ?_ | refine blk_alloc ?_ _)); exact BK185.out) Tryz.underlying83 rfl (by kernel_rfl)) rfl ?_
                  exact ⟨by first | rfl | (simp [errW_none, errW_some] <;> rfl) | (simp [*, errW_none, errW_some] <;> rfl), by repeat (first | (with_reducible first | exact HB.out | apply below_alloc | apply pw_below_drewN | apply below_drew1 | refine below_set ?_ GE185.out) | exact HB.out)⟩
end Go.Proofs.YtmecbmgfacpecaaGreatDoor.Pr

namespace Go.Proofs.YtmecbmgfacpecaaGreatDoor.Pr
open Go.RowKit Go.Proofs.YtmecbmgfacpecaaGreatDoorW.PrintWords Go.Proofs.YtmecbmgfacpecaaGreatDoorW.PrintLast
set_option linter.unusedVariables false
set_option linter.unusedSimpArgs false
/-! ### spec_floorMod: function 166 -/
def spec_floorMod.f (a0 : Int) (a1 : Int) : Option (Int) := (spec_floorDiv.f a0 a1).bind fun t194 => (some (wrap64 (a0 - (wrap64 (a1 * t194)))))
set_option maxHeartbeats 8000000 in
set_option maxRecDepth 100000 in
theorem spec_floorMod.calls (a0 : Int) (a1 : Int) (r : Int) (w : World) (h : spec_floorMod.f a0 a1 = some r) :
    Calls Tryz.prog 166 #[.int .i64 a0, .int .i64 a1] w fun e w' => e = .returned (.int .i64 r) ∧ Drawn0 w w' := by
  have H : ((spec_floorDiv.f a0 a1).bind fun t194 => (some (wrap64 (a0 - (wrap64 (a1 * t194)))))) = some r := h
  clear h
  replace H := Option.bind_eq_some_iff.mp H
  obtain ⟨t194, A30, H⟩ := H
  replace H : (some (wrap64 (a0 - (wrap64 (a1 * t194))))) = some r := H
  have A3 := Aside0.mk A30
  clear A30
  obtain rfl := Option.some.inj H
  go_enter Tryz.func166, Tryz.ntmps166
  go_wp2_with (first | ((with_reducible refine gate_callee (f := 85) rfl ?_); refine goesL_ (some 9) rfl rfl Tryz.func85 (by kernel_rfl) rfl #[.int .i64 a0, .int .i64 a1] rfl (by (try simp only [List.map_toArray, List.map_cons, List.map_nil]); first | done | rfl | (simp only [List.length_drop, List.length_take]; rfl)) ?_; (with_reducible refine (spec_floorDiv.calls a0 a1 t194 _ A3.out).mono ?_); rintro e w' ⟨rfl, ⟨nd, rfl⟩⟩; refine ⟨_, rfl, ?_⟩))
  go_ret
  exact ⟨by first | rfl | (simp; done) | (simp [*]; done), by repeat (first | exact Drawn0.refl _ | apply Drawn0.step)⟩
end Go.Proofs.YtmecbmgfacpecaaGreatDoor.Pr

namespace Go.Proofs.YtmecbmgfacpecaaGreatDoor.Pr
open Go.RowKit Go.Proofs.YtmecbmgfacpecaaGreatDoorW.PrintWords Go.Proofs.YtmecbmgfacpecaaGreatDoorW.PrintLast
set_option linter.unusedVariables false
set_option linter.unusedSimpArgs false
/-! ### spec_CronWeekday: function 129 -/
def spec_CronWeekday.f (a0 : Int) : Option (Int) := (spec_floorMod.f (wrap64 (a0 + 4)) 7).bind fun t195 => (some t195)
set_option maxHeartbeats 8000000 in
set_option maxRecDepth 100000 in
theorem spec_CronWeekday.calls (a0 : Int) (r : Int) (w : World) (h : spec_CronWeekday.f a0 = some r) :
    Calls Tryz.prog 129 #[.int .i64 a0] w fun e w' => e = .returned (.int .i64 r) ∧ Drawn0 w w' := by
  have H : ((spec_floorMod.f (wrap64 (a0 + 4)) 7).bind fun t195 => (some t195)) = some r := h
  clear h
  replace H := Option.bind_eq_some_iff.mp H
  obtain ⟨t195, A20, H⟩ := H
  replace H : (some t195) = some r := H
  have A2 := Aside0.mk A20
  clear A20
  obtain rfl := Option.some.inj H
  go_enter Tryz.func129, Tryz.ntmps129
  go_wp2_with (first | ((with_reducible refine gate_callee (f := 166) rfl ?_); refine goesL_ (some 5) rfl rfl Tryz.func166 (by kernel_rfl) rfl #[.int .i64 (wrap64 (a0 + 4)), .int .i64 7] rfl (by (try simp only [List.map_toArray, List.map_cons, List.map_nil]); first | done | rfl | (simp only [List.length_drop, List.length_take]; rfl)) ?_; (with_reducible refine (spec_floorMod.calls (wrap64 (a0 + 4)) 7 t195 _ A2.out).mono ?_); rintro e w' ⟨rfl, ⟨nd, rfl⟩⟩; refine ⟨_, rfl, ?_⟩))
  go_ret
  exact ⟨by first | rfl | (simp; done) | (simp [*]; done), by repeat (first | exact Drawn0.refl _ | apply Drawn0.step)⟩
end Go.Proofs.YtmecbmgfacpecaaGreatDoor.Pr

namespace Go.Proofs.YtmecbmgfacpecaaGreatDoor.Pr
open Go.RowKit Go.Proofs.YtmecbmgfacpecaaGreatDoorW.PrintWords Go.Proofs.YtmecbmgfacpecaaGreatDoorW.PrintLast
set_option linter.unusedVariables false
set_option linter.unusedSimpArgs false
/-! ### spec_CronOffset: function 72 -/
def spec_CronOffset.l0 : Nat → Int → Int → List Int → Int → Int → List Int → List Bool → List Int → List Int → Option (Int)
  | 0, _, _, _, _, _, _, _, _, _ => none
  | k + 1, x1, x5, x9, x10, x11, x178000, x178001, x178002, x178003 => if x11 < x10 then (if 0 ≤ x11 then (if x11 < (x9.length : Int) then (if (rd x9 x11) ≤ x1 then (if x11 < (x178003.length : Int) then (if 0 ≤ (rd x178003 x11) then (if (rd x178003 x11) < (x178000.length : Int) then (spec_CronOffset.l0 k x1 (rd x178000 (rd x178003 x11)) x9 x10 (wrap64 (x11 + 1)) x178000 x178001 x178002 x178003) else (none)) else (none)) else (none)) else (spec_CronOffset.l0 k x1 x5 x9 x10 (wrap64 (x11 + 1)) x178000 x178001 x178002 x178003)) else (none)) else (none)) else (some x5)
def spec_CronOffset.f (k : Nat) (l0_0 : List Int) (l0_1 : List Bool) (l0_2 : List Int) (l0_3 : List Int) (a1 : Int) : Option (Int) := spec_CronOffset.l0 k a1 0 l0_2 (l0_2.length : Int) 0 l0_0 l0_1 l0_2 l0_3
theorem spec_CronOffset.mono_l : ∀ k, (∀ y0 y1 y2 y3 y4 y5 y6 y7 y8, LeO (spec_CronOffset.l0 k y0 y1 y2 y3 y4 y5 y6 y7 y8) (spec_CronOffset.l0 (k + 1) y0 y1 y2 y3 y4 y5 y6 y7 y8))
  | 0 => fun _ _ _ _ _ _ _ _ _ r h => by simp [spec_CronOffset.l0] at h
  | k + 1 => by
    have ih0 := spec_CronOffset.mono_l k
    · intro y0 y1 y2 y3 y4 y5 y6 y7 y8
      unfold spec_CronOffset.l0
      repeat' first
      | (with_reducible exact ih0 _ _ _ _ _ _ _ _ _)
      | (with_reducible exact LeO.refl _)
      | (with_reducible exact LeO.none _)
      | (with_reducible refine LeO.ite ?_ ?_)
      | (with_reducible refine LeO.bind ?_ (fun _ => ?_))
      | exact ih0 _ _ _ _ _ _ _ _ _
      | exact LeO.none _
      | refine LeO.ite ?_ ?_
      | refine LeO.bind ?_ (fun _ => ?_)
theorem spec_CronOffset.mono : ∀ a0 a1 a2 a3 a4 k, LeO (spec_CronOffset.f k a0 a1 a2 a3 a4) (spec_CronOffset.f (k + 1) a0 a1 a2 a3 a4) := by
  intro a0 a1 a2 a3 a4 k
  have ih0 := spec_CronOffset.mono_l k
  unfold spec_CronOffset.f
  repeat' first
      | (with_reducible exact ih0 _ _ _ _ _ _ _ _ _)
      | (with_reducible exact LeO.refl _)
      | (with_reducible exact LeO.none _)
      | (with_reducible refine LeO.ite ?_ ?_)
      | (with_reducible refine LeO.bind ?_ (fun _ => ?_))
      | exact ih0 _ _ _ _ _ _ _ _ _
      | exact LeO.none _
      | refine LeO.ite ?_ ?_
      | refine LeO.bind ?_ (fun _ => ?_)
set_option maxHeartbeats 8000000 in
set_option maxRecDepth 100000 in
theorem spec_CronOffset.calls (k : Nat) (A0_0 : Option Addr) (c0_0 : Nat) (l0_0 : List Int) (A0_1 : Option Addr) (c0_1 : Nat) (l0_1 : List Bool) (A0_2 : Option Addr) (c0_2 : Nat) (l0_2 : List Int) (A0_3 : Option Addr) (c0_3 : Nat) (l0_3 : List Int) (a1 : Int) (r : Int) (w : World) (hr0_0 : Kd.C (Kd.int .i64) w A0_0 l0_0.length l0_0) (hc0_0 : l0_0.length ≤ c0_0) (hr0_1 : Kd.C Kd.bool w A0_1 l0_1.length l0_1) (hc0_1 : l0_1.length ≤ c0_1) (hr0_2 : Kd.C (Kd.int .i64) w A0_2 l0_2.length l0_2) (hc0_2 : l0_2.length ≤ c0_2) (hr0_3 : Kd.C (Kd.int .i64) w A0_3 l0_3.length l0_3) (hc0_3 : l0_3.length ≤ c0_3) (h : spec_CronOffset.f k l0_0 l0_1 l0_2 l0_3 a1 = some r) :
    Calls Tryz.prog 72 #[.agg #[.slice A0_0 l0_0.length c0_0, .slice A0_1 l0_1.length c0_1, .slice A0_2 l0_2.length c0_2, .slice A0_3 l0_3.length c0_3], .int .i64 a1] w fun e w' => e = .returned (.int .i64 r) ∧ Below w.heap.size w w' := by
  have hu71 := Tryz.underlying71
  have HR0_0 := Aside0.mk hr0_0
  have HC0_0 := Aside0.mk hc0_0
  clear hr0_0 hc0_0
  have HR0_1 := Aside0.mk hr0_1
  have HC0_1 := Aside0.mk hc0_1
  clear hr0_1 hc0_1
  have HR0_2 := Aside0.mk hr0_2
  have HC0_2 := Aside0.mk hc0_2
  clear hr0_2 hc0_2
  have HR0_3 := Aside0.mk hr0_3
  have HC0_3 := Aside0.mk hc0_3
  clear hr0_3 hc0_3
  have HB := Aside0.mk (Below.refl w.heap.size w)
  have H : (spec_CronOffset.l0 k a1 0 l0_2 (l0_2.length : Int) 0 l0_0 l0_1 l0_2 l0_3) = some r := h
  clear h
  have H' := Aside0.mk H
  clear H
  go_enter Tryz.func72, Tryz.ntmps72
  go_wp2_with (first | ((with_reducible refine gate_dst (N := 2) rfl ?_); refine box_event ?hg (N := 2) ?hd (cs := #[.slice A0_0 l0_0.length c0_0, .slice A0_1 l0_1.length c0_1, .slice A0_2 l0_2.length c0_2, .slice A0_3 l0_3.length c0_3]) (t := 71) ?hr ?_; (case hd => rfl); (case hg => rfl); (case hr => first | (go_simp; done) | (go_simp; rfl)); intro gb177 hg w3 hbox hb; have n0_ := Aside0.mk (below_step (by repeat (first | (with_reducible first | exact HB.out | apply below_alloc | apply pw_below_drewN | apply below_drew1) | exact HB.out)) hb); have n1_ := Aside0.mk (hbox); have n2_ := Aside0.mk ((by rw [hg]; exact (below_size (by repeat (first | (with_reducible first | exact HB.out | apply below_alloc | apply pw_below_drewN | apply below_drew1) | exact HB.out))) : w.heap.size ≤ gb177)); have n3_ := Aside0.mk ((by rw [hg]; exact (below_size (by repeat (first | (with_reducible first | exact HB.out | apply below_alloc | apply pw_below_drewN | apply below_drew1) | exact HB.out))) : w.heap.size ≤ gb177)); clear HB; have HB := n0_; have BK177 := n1_; have GW177 := n2_; have GE177 := n3_; clear n0_ n1_ n2_ n3_; clear hb hbox hg; have hcz4_0 : w3.cell? ⟨gb177, 0, none⟩ = some (.slice A0_0 l0_0.length c0_0) := (blk_cell BK177.out 0).trans rfl; have hcz4_1 : w3.cell? ⟨gb177, 1, none⟩ = some (.slice A0_1 l0_1.length c0_1) := (blk_cell BK177.out 1).trans rfl; have hcz4_2 : w3.cell? ⟨gb177, 2, none⟩ = some (.slice A0_2 l0_2.length c0_2) := (blk_cell BK177.out 2).trans rfl; have hcz4_3 : w3.cell? ⟨gb177, 3, none⟩ = some (.slice A0_3 l0_3.length c0_3) := (blk_cell BK177.out 3).trans rfl; have hfz4_0 := blk_frozen BK177.out 0; have hfz4_1 := blk_frozen BK177.out 1; have hfz4_2 := blk_frozen BK177.out 2; have hfz4_3 := blk_frozen BK177.out 3))
  repeat (go_quiet (first | ((with_reducible refine gate_dst (N := 2) rfl ?_); refine box_event ?hg (N := 2) ?hd (cs := #[.slice A0_0 l0_0.length c0_0, .slice A0_1 l0_1.length c0_1, .slice A0_2 l0_2.length c0_2, .slice A0_3 l0_3.length c0_3]) (t := 71) ?hr ?_; (case hd => rfl); (case hg => rfl); (case hr => first | (go_simp; done) | (go_simp; rfl)); intro gb177 hg w3 hbox hb; have n0_ := Aside0.mk (below_step (by repeat (first | (with_reducible first | exact HB.out | apply below_alloc | apply pw_below_drewN | apply below_drew1) | exact HB.out)) hb); have n1_ := Aside0.mk (hbox); have n2_ := Aside0.mk ((by rw [hg]; exact (below_size (by repeat (first | (with_reducible first | exact HB.out | apply below_alloc | apply pw_below_drewN | apply below_drew1) | exact HB.out))) : w.heap.size ≤ gb177)); have n3_ := Aside0.mk ((by rw [hg]; exact (below_size (by repeat (first | (with_reducible first | exact HB.out | apply below_alloc | apply pw_below_drewN | apply below_drew1) | exact HB.out))) : w.heap.size ≤ gb177)); clear HB; have HB := n0_; have BK177 := n1_; have GW177 := n2_; have GE177 := n3_; clear n0_ n1_ n2_ n3_; clear hb hbox hg; have hcz4_0 : w3.cell? ⟨gb177, 0, none⟩ = some (.slice A0_0 l0_0.length c0_0) := (blk_cell BK177.out 0).trans rfl; have hcz4_1 : w3.cell? ⟨gb177, 1, none⟩ = some (.slice A0_1 l0_1.length c0_1) := (blk_cell BK177.out 1).trans rfl; have hcz4_2 : w3.cell? ⟨gb177, 2, none⟩ = some (.slice A0_2 l0_2.length c0_2) := (blk_cell BK177.out 2).trans rfl; have hcz4_3 : w3.cell? ⟨gb177, 3, none⟩ = some (.slice A0_3 l0_3.length c0_3) := (blk_cell BK177.out 3).trans rfl; have hfz4_0 := blk_frozen BK177.out 0; have hfz4_1 := blk_frozen BK177.out 1; have hfz4_2 := blk_frozen BK177.out 2; have hfz4_3 := blk_frozen BK177.out 3)); try go_wp2_with (first | ((with_reducible refine gate_dst (N := 2) rfl ?_); refine box_event ?hg (N := 2) ?hd (cs := #[.slice A0_0 l0_0.length c0_0, .slice A0_1 l0_1.length c0_1, .slice A0_2 l0_2.length c0_2, .slice A0_3 l0_3.length c0_3]) (t := 71) ?hr ?_; (case hd => rfl); (case hg => rfl); (case hr => first | (go_simp; done) | (go_simp; rfl)); intro gb177 hg w3 hbox hb; have n0_ := Aside0.mk (below_step (by repeat (first | (with_reducible first | exact HB.out | apply below_alloc | apply pw_below_drewN | apply below_drew1) | exact HB.out)) hb); have n1_ := Aside0.mk (hbox); have n2_ := Aside0.mk ((by rw [hg]; exact (below_size (by repeat (first | (with_reducible first | exact HB.out | apply below_alloc | apply pw_below_drewN | apply below_drew1) | exact HB.out))) : w.heap.size ≤ gb177)); have n3_ := Aside0.mk ((by rw [hg]; exact (below_size (by repeat (first | (with_reducible first | exact HB.out | apply below_alloc | apply pw_below_drewN | apply below_drew1) | exact HB.out))) : w.heap.size ≤ gb177)); clear HB; have HB := n0_; have BK177 := n1_; have GW177 := n2_; have GE177 := n3_; clear n0_ n1_ n2_ n3_; clear hb hbox hg; have hcz4_0 : w3.cell? ⟨gb177, 0, none⟩ = some (.slice A0_0 l0_0.length c0_0) := (blk_cell BK177.out 0).trans rfl; have hcz4_1 : w3.cell? ⟨gb177, 1, none⟩ = some (.slice A0_1 l0_1.length c0_1) := (blk_cell BK177.out 1).trans rfl; have hcz4_2 : w3.cell? ⟨gb177, 2, none⟩ = some (.slice A0_2 l0_2.length c0_2) := (blk_cell BK177.out 2).trans rfl; have hcz4_3 : w3.cell? ⟨gb177, 3, none⟩ = some (.slice A0_3 l0_3.length c0_3) := (blk_cell BK177.out 3).trans rfl; have hfz4_0 := blk_frozen BK177.out 0; have hfz4_1 := blk_frozen BK177.out 1; have hfz4_2 := blk_frozen BK177.out 2; have hfz4_3 := blk_frozen BK177.out 3)))
  go_loopg [5, 11] k (fun kq v5 v11 w' => ∃ (x5_1 : Int) (x11_1 : Int), v5 = .int .i64 x5_1 ∧ v11 = .int .i64 x11_1 ∧ Aside0 (spec_CronOffset.l0 kq a1 x5_1 l0_2 (l0_2.length : Int) x11_1 l0_0 l0_1 l0_2 l0_3 = some r) ∧ Aside0 (kq ≤ k) ∧ Aside0 (w'.heap[gb177]? = some (.cells #[(.slice A0_0 l0_0.length c0_0), (.slice A0_1 l0_1.length c0_1), (.slice A0_2 l0_2.length c0_2), (.slice A0_3 l0_3.length c0_3)] 71 (0, 0))) ∧ Aside0 (Below w.heap.size w w'))
  case atStart => exact ⟨(0), (0), (by first | rfl | (simp; done) | (simp [*]; done)), (by first | rfl | (simp; done) | (simp [*]; done)), H', ⟨Nat.le_refl _⟩, ⟨by (with_reducible repeat (first | refine blk_drewN ?_ _ | refine blk_drew ?_ | refine blk_alloc ?_ _)); exact BK177.out⟩, ⟨by repeat (first | (with_reducible first | exact HB.out | apply below_alloc | apply pw_below_drewN | apply below_drew1 | refine below_set ?_ GE177.out) | exact HB.out)⟩⟩
  case round =>
    clear H'
    try clear p2
    try clear hcz4_0
    try clear hcz4_1
    try clear hcz4_2
    try clear hcz4_3
    try clear hfz4_0
    try clear hfz4_1
    try clear hfz4_2
    try clear hfz4_3
    obtain ⟨x5_1, x11_1, rfl, rfl, HA, HK1, BK177, HB⟩ := hrel
    cases gk with
    | zero => exact absurd HA.out (by simp [spec_CronOffset.l0])
    | succ k1 =>
      have H := HA.out
      clear HA
      simp only [spec_CronOffset.l0] at H
      by_cases c5 : x11_1 < (l0_2.length : Int)
      · rw [if_pos c5] at H
        have c5b0 : decide (x11_1 < (l0_2.length : Int)) = true := decide_eq_true c5
        clear c5
        by_cases c6 : 0 ≤ x11_1
        · rw [if_pos c6] at H
          have c6b0 : decide (0 ≤ x11_1) = true := decide_eq_true c6
          clear c6
          by_cases c7 : x11_1 < (l0_2.length : Int)
          · rw [if_pos c7] at H
            have c7b0 : decide (x11_1 < (l0_2.length : Int)) = true := decide_eq_true c7
            clear c7
            by_cases c8 : (rd l0_2 x11_1) ≤ a1
            · rw [if_pos c8] at H
              have c8b0 : decide ((rd l0_2 x11_1) ≤ a1) = true := decide_eq_true c8
              clear c8
              by_cases c9 : x11_1 < (l0_3.length : Int)
              · rw [if_pos c9] at H
                have c9b0 : decide (x11_1 < (l0_3.length : Int)) = true := decide_eq_true c9
                clear c9
                by_cases c10 : 0 ≤ (rd l0_3 x11_1)
                · rw [if_pos c10] at H
                  have c10b0 : decide (0 ≤ (rd l0_3 x11_1)) = true := decide_eq_true c10
                  clear c10
                  by_cases c11 : (rd l0_3 x11_1) < (l0_0.length : Int)
                  · rw [if_pos c11] at H
                    have c11b0 : decide ((rd l0_3 x11_1) < (l0_0.length : Int)) = true := decide_eq_true c11
                    clear c11
                    have H' := Aside0.mk H
                    clear H
                    have p178 : 0 ≤ (x11_1 : Int) := of_decide_eq_true (by first | (with_reducible assumption) | assumption)
                    have q178 : x11_1 < (l0_2.length : Int) := of_decide_eq_true (by first | (with_reducible assumption) | assumption)
                    obtain ⟨ad178, e178, hx178_0⟩ := Kd.at_int HR0_2.out x11_1 p178 q178
                    cases e178
                    replace hx178_0 := (HB.out.cell (World.block_lt_of_cell? w _ hx178_0)).trans hx178_0
                    replace p178 := eq_true p178
                    replace q178 := eq_true q178
                    have hcz12_0 : wr.cell? ⟨gb177, 0, none⟩ = some (.slice A0_0 l0_0.length c0_0) := (blk_cell BK177.out 0).trans rfl
                    have hcz12_1 : wr.cell? ⟨gb177, 1, none⟩ = some (.slice A0_1 l0_1.length c0_1) := (blk_cell BK177.out 1).trans rfl
                    have hcz12_2 : wr.cell? ⟨gb177, 2, none⟩ = some (.slice (some ad178) l0_2.length c0_2) := (blk_cell BK177.out 2).trans rfl
                    have hcz12_3 : wr.cell? ⟨gb177, 3, none⟩ = some (.slice A0_3 l0_3.length c0_3) := (blk_cell BK177.out 3).trans rfl
                    have hfz12_0 := blk_frozen BK177.out 0
                    have hfz12_1 := blk_frozen BK177.out 1
                    have hfz12_2 := blk_frozen BK177.out 2
                    have hfz12_3 := blk_frozen BK177.out 3
                    have p179 : 0 ≤ (x11_1 : Int) := of_decide_eq_true (by first | (with_reducible assumption) | assumption)
                    have q179 : x11_1 < (l0_3.length : Int) := of_decide_eq_true (by first | (with_reducible assumption) | assumption)
                    obtain ⟨ad179, e179, hx179_0⟩ := Kd.at_int HR0_3.out x11_1 p179 q179
                    cases e179
                    replace hx179_0 := (HB.out.cell (World.block_lt_of_cell? w _ hx179_0)).trans hx179_0
                    replace p179 := eq_true p179
                    replace q179 := eq_true q179
                    have p180 : 0 ≤ ((rd l0_3 x11_1) : Int) := of_decide_eq_true (by first | (with_reducible assumption) | assumption)
                    have q180 : (rd l0_3 x11_1) < (l0_0.length : Int) := of_decide_eq_true (by first | (with_reducible assumption) | assumption)
                    obtain ⟨ad180, e180, hx180_0⟩ := Kd.at_int HR0_0.out (rd l0_3 x11_1) p180 q180
                    cases e180
                    replace hx180_0 := (HB.out.cell (World.block_lt_of_cell? w _ hx180_0)).trans hx180_0
                    replace p180 := eq_true p180
                    replace q180 := eq_true q180
                    go_wp2
                    repeat (go_quiet (fail); try go_wp2)
                    go_roundg k1
                    case measure => have := HK1.out; omega
                    case rel => exact ⟨(rd l0_0 (rd l0_3 x11_1)), (wrap64 (x11_1 + 1)), (by first | rfl | (simp; done) | (simp [*]; done)), (by first | rfl | (simp; done) | (simp [*]; done)), H', ⟨by have := HK1.out; omega⟩, ⟨by (with_reducible repeat (first | refine blk_drewN ?_ _ | refine blk_drew ?_ | refine blk_alloc ?_ _)); exact BK177.out⟩, ⟨by repeat (first | (with_reducible first | exact HB.out | apply below_alloc | apply pw_below_drewN | apply below_drew1 | refine below_set ?_ GE177.out) | exact HB.out)⟩⟩
                  · rw [if_neg c11] at H
                    exact absurd H (by simp)
                · rw [if_neg c10] at H
                  exact absurd H (by simp)
              · rw [if_neg c9] at H
                exact absurd H (by simp)
            · rw [if_neg c8] at H
              have c8b0 : decide ((rd l0_2 x11_1) ≤ a1) = false := decide_eq_false c8
              clear c8
              have H' := Aside0.mk H
              clear H
              have p178 : 0 ≤ (x11_1 : Int) := of_decide_eq_true (by first | (with_reducible assumption) | assumption)
              have q178 : x11_1 < (l0_2.length : Int) := of_decide_eq_true (by first | (with_reducible assumption) | assumption)
              obtain ⟨ad178, e178, hx178_0⟩ := Kd.at_int HR0_2.out x11_1 p178 q178
              cases e178
              replace hx178_0 := (HB.out.cell (World.block_lt_of_cell? w _ hx178_0)).trans hx178_0
              replace p178 := eq_true p178
              replace q178 := eq_true q178
              go_wp2
              repeat (go_quiet (fail); try go_wp2)
              go_roundg k1
              case measure => have := HK1.out; omega
              case rel => exact ⟨(x5_1), (wrap64 (x11_1 + 1)), (by first | rfl | (simp; done) | (simp [*]; done)), (by first | rfl | (simp; done) | (simp [*]; done)), H', ⟨by have := HK1.out; omega⟩, ⟨by (with_reducible repeat (first | refine blk_drewN ?_ _ | refine blk_drew ?_ | refine blk_alloc ?_ _)); exact BK177.out⟩, ⟨by repeat (first | (with_reducible first | exact HB.out | apply below_alloc | apply pw_below_drewN | apply below_drew1 | refine below_set ?_ GE177.out) | exact HB.out)⟩⟩
          · rw [if_neg c7] at H
            exact absurd H (by simp)
        · rw [if_neg c6] at H
          exact absurd H (by simp)
      · rw [if_neg c5] at H
        have c5b0 : decide (x11_1 < (l0_2.length : Int)) = false := decide_eq_false c5
        clear c5
        obtain rfl := Option.some.inj H
        go_wp2
        repeat (go_quiet (fail); try go_wp2)
        go_ret
        exact ⟨by first | rfl | (simp [errW_none, errW_some] <;> rfl) | (simp [*, errW_none, errW_some] <;> rfl), by repeat (first | (with_reducible first | exact HB.out | apply below_alloc | apply pw_below_drewN | apply below_drew1 | refine below_set ?_ GE177.out) | exact HB.out)⟩
end Go.Proofs.YtmecbmgfacpecaaGreatDoor.Pr

namespace Go.Proofs.YtmecbmgfacpecaaGreatDoor.Pr
open Go.RowKit Go.Proofs.YtmecbmgfacpecaaGreatDoorW.PrintWords Go.Proofs.YtmecbmgfacpecaaGreatDoorW.PrintLast
set_option linter.unusedVariables false
set_option linter.unusedSimpArgs false
/-! ### spec_CronGood: function 20 -/
def spec_CronGood.f (a0_0 : Int) (a0_1 : Int) : Option (Bool) := if (-62135596800) ≤ a0_0 then (if a0_0 ≤ 253402300799 then (if 0 ≤ a0_1 then (some (decide (a0_1 < 1000000000))) else (some false)) else (some false)) else (some false)
set_option maxHeartbeats 8000000 in
set_option maxRecDepth 100000 in
theorem spec_CronGood.calls (a0_0 : Int) (a0_1 : Int) (r : Bool) (w : World) (h : spec_CronGood.f a0_0 a0_1 = some r) :
    Calls Tryz.prog 20 #[.agg #[.int .i64 a0_0, .int .i64 a0_1]] w fun e w' => e = .returned (.bool r) ∧ Below w.heap.size w w' := by
  have hu50 := Tryz.underlying50
  have HB := Aside0.mk (Below.refl w.heap.size w)
  have H : (if (-62135596800) ≤ a0_0 then (if a0_0 ≤ 253402300799 then (if 0 ≤ a0_1 then (some (decide (a0_1 < 1000000000))) else (some false)) else (some false)) else (some false)) = some r := h
  clear h
  by_cases c2 : (-62135596800) ≤ a0_0
  · rw [if_pos c2] at H
    have c2b0 : decide ((-62135596800) ≤ a0_0) = true := decide_eq_true c2
    clear c2
    by_cases c3 : a0_0 ≤ 253402300799
    · rw [if_pos c3] at H
      have c3b0 : decide (a0_0 ≤ 253402300799) = true := decide_eq_true c3
      clear c3
      by_cases c4 : 0 ≤ a0_1
      · rw [if_pos c4] at H
        have c4b0 : decide (0 ≤ a0_1) = true := decide_eq_true c4
        clear c4
        obtain rfl := Option.some.inj H
        go_enter Tryz.func20, Tryz.ntmps20
        go_wp2_with (first | ((with_reducible refine gate_dst (N := 1) rfl ?_); refine box_event ?hg (N := 1) ?hd (cs := #[.int .i64 a0_0, .int .i64 a0_1]) (t := 50) ?hr ?_; (case hd => rfl); (case hg => rfl); (case hr => first | (go_simp; done) | (go_simp; rfl)); intro gb101 hg w5 hbox hb; have n0_ := Aside0.mk (below_step (by repeat (first | (with_reducible first | exact HB.out | apply below_alloc | apply pw_below_drewN | apply below_drew1) | exact HB.out)) hb); have n1_ := Aside0.mk (hbox); have n2_ := Aside0.mk ((by rw [hg]; exact (below_size (by repeat (first | (with_reducible first | exact HB.out | apply below_alloc | apply pw_below_drewN | apply below_drew1) | exact HB.out))) : w.heap.size ≤ gb101)); have n3_ := Aside0.mk ((by rw [hg]; exact (below_size (by repeat (first | (with_reducible first | exact HB.out | apply below_alloc | apply pw_below_drewN | apply below_drew1) | exact HB.out))) : w.heap.size ≤ gb101)); clear HB; have HB := n0_; have BK101 := n1_; have GW101 := n2_; have GE101 := n3_; clear n0_ n1_ n2_ n3_; clear hb hbox hg; have hcz6_0 : w5.cell? ⟨gb101, 0, none⟩ = some (.int .i64 a0_0) := (blk_cell BK101.out 0).trans rfl; have hcz6_1 : w5.cell? ⟨gb101, 1, none⟩ = some (.int .i64 a0_1) := (blk_cell BK101.out 1).trans rfl; have hfz6_0 := blk_frozen BK101.out 0; have hfz6_1 := blk_frozen BK101.out 1))
        go_ret
        exact ⟨by first | rfl | (simp [errW_none, errW_some] <;> rfl) | (simp [*, errW_none, errW_some] <;> rfl), by repeat (first | (with_reducible first | exact HB.out | apply below_alloc | apply pw_below_drewN | apply below_drew1 | refine below_set ?_ GE101.out) | exact HB.out)⟩
      · rw [if_neg c4] at H
        have c4b0 : decide (0 ≤ a0_1) = false := decide_eq_false c4
        clear c4
        obtain rfl := Option.some.inj H
        go_enter Tryz.func20, Tryz.ntmps20
        go_wp2_with (first | ((with_reducible refine gate_dst (N := 1) rfl ?_); refine box_event ?hg (N := 1) ?hd (cs := #[.int .i64 a0_0, .int .i64 a0_1]) (t := 50) ?hr ?_; (case hd => rfl); (case hg => rfl); (case hr => first | (go_simp; done) | (go_simp; rfl)); intro gb101 hg w7 hbox hb; have n0_ := Aside0.mk (below_step (by repeat (first | (with_reducible first | exact HB.out | apply below_alloc | apply pw_below_drewN | apply below_drew1) | exact HB.out)) hb); have n1_ := Aside0.mk (hbox); have n2_ := Aside0.mk ((by rw [hg]; exact (below_size (by repeat (first | (with_reducible first | exact HB.out | apply below_alloc | apply pw_below_drewN | apply below_drew1) | exact HB.out))) : w.heap.size ≤ gb101)); have n3_ := Aside0.mk ((by rw [hg]; exact (below_size (by repeat (first | (with_reducible first | exact HB.out | apply below_alloc | apply pw_below_drewN | apply below_drew1) | exact HB.out))) : w.heap.size ≤ gb101)); clear HB; have HB := n0_; have BK101 := n1_; have GW101 := n2_; have GE101 := n3_; clear n0_ n1_ n2_ n3_; clear hb hbox hg; have hcz8_0 : w7.cell? ⟨gb101, 0, none⟩ = some (.int .i64 a0_0) := (blk_cell BK101.out 0).trans rfl; have hcz8_1 : w7.cell? ⟨gb101, 1, none⟩ = some (.int .i64 a0_1) := (blk_cell BK101.out 1).trans rfl; have hfz8_0 := blk_frozen BK101.out 0; have hfz8_1 := blk_frozen BK101.out 1))
        go_ret
        exact ⟨by first | rfl | (simp [errW_none, errW_some] <;> rfl) | (simp [*, errW_none, errW_some] <;> rfl), by repeat (first | (with_reducible first | exact HB.out | apply below_alloc | apply pw_below_drewN | apply below_drew1 | refine below_set ?_ GE101.out) | exact HB.out)⟩
    · rw [if_neg c3] at H
      have c3b0 : decide (a0_0 ≤ 253402300799) = false := decide_eq_false c3
      clear c3
      obtain rfl := Option.some.inj H
      go_enter Tryz.func20, Tryz.ntmps20
      go_wp2_with (first | ((with_reducible refine gate_dst (N := 1) rfl ?_); refine box_event ?hg (N := 1) ?hd (cs := #[.int .i64 a0_0, .int .i64 a0_1]) (t := 50) ?hr ?_; (case hd => rfl); (case hg => rfl); (case hr => first | (go_simp; done) | (go_simp; rfl)); intro gb101 hg w9 hbox hb; have n0_ := Aside0.mk (below_step (by repeat (first | (with_reducible first | exact HB.out | apply below_alloc | apply pw_below_drewN | apply below_drew1) | exact HB.out)) hb); have n1_ := Aside0.mk (hbox); have n2_ := Aside0.mk ((by rw [hg]; exact (below_size (by repeat (first | (with_reducible first | exact HB.out | apply below_alloc | apply pw_below_drewN | apply below_drew1) | exact HB.out))) : w.heap.size ≤ gb101)); have n3_ := Aside0.mk ((by rw [hg]; exact (below_size (by repeat (first | (with_reducible first | exact HB.out | apply below_alloc | apply pw_below_drewN | apply below_drew1) | exact HB.out))) : w.heap.size ≤ gb101)); clear HB; have HB := n0_; have BK101 := n1_; have GW101 := n2_; have GE101 := n3_; clear n0_ n1_ n2_ n3_; clear hb hbox hg; have hcz10_0 : w9.cell? ⟨gb101, 0, none⟩ = some (.int .i64 a0_0) := (blk_cell BK101.out 0).trans rfl; have hcz10_1 : w9.cell? ⟨gb101, 1, none⟩ = some (.int .i64 a0_1) := (blk_cell BK101.out 1).trans rfl; have hfz10_0 := blk_frozen BK101.out 0; have hfz10_1 := blk_frozen BK101.out 1))
      go_ret
      exact ⟨by first | rfl | (simp [errW_none, errW_some] <;> rfl) | (simp [*, errW_none, errW_some] <;> rfl), by repeat (first | (with_reducible first | exact HB.out | apply below_alloc | apply pw_below_drewN | apply below_drew1 | refine below_set ?_ GE101.out) | exact HB.out)⟩
  · rw [if_neg c2] at H
    have c2b0 : decide ((-62135596800) ≤ a0_0) = false := decide_eq_false c2
    clear c2
    obtain rfl := Option.some.inj H
    go_enter Tryz.func20, Tryz.ntmps20
    go_wp2_with (first | ((with_reducible refine gate_dst (N := 1) rfl ?_); refine box_event ?hg (N := 1) ?hd (cs := #[.int .i64 a0_0, .int .i64 a0_1]) (t := 50) ?hr ?_; (case hd => rfl); (case hg => rfl); (case hr => first | (go_simp; done) | (go_simp; rfl)); intro gb101 hg w11 hbox hb; have n0_ := Aside0.mk (below_step (by repeat (first | (with_reducible first | exact HB.out | apply below_alloc | apply pw_below_drewN | apply below_drew1) | exact HB.out)) hb); have n1_ := Aside0.mk (hbox); have n2_ := Aside0.mk ((by rw [hg]; exact (below_size (by repeat (first | (with_reducible first | exact HB.out | apply below_alloc | apply pw_below_drewN | apply below_drew1) | exact HB.out))) : w.heap.size ≤ gb101)); have n3_ := Aside0.mk ((by rw [hg]; exact (below_size (by repeat (first | (with_reducible first | exact HB.out | apply below_alloc | apply pw_below_drewN | apply below_drew1) | exact HB.out))) : w.heap.size ≤ gb101)); clear HB; have HB := n0_; have BK101 := n1_; have GW101 := n2_; have GE101 := n3_; clear n0_ n1_ n2_ n3_; clear hb hbox hg; have hcz12_0 : w11.cell? ⟨gb101, 0, none⟩ = some (.int .i64 a0_0) := (blk_cell BK101.out 0).trans rfl; have hcz12_1 : w11.cell? ⟨gb101, 1, none⟩ = some (.int .i64 a0_1) := (blk_cell BK101.out 1).trans rfl; have hfz12_0 := blk_frozen BK101.out 0; have hfz12_1 := blk_frozen BK101.out 1))
    go_ret
    exact ⟨by first | rfl | (simp [errW_none, errW_some] <;> rfl) | (simp [*, errW_none, errW_some] <;> rfl), by repeat (first | (with_reducible first | exact HB.out | apply below_alloc | apply pw_below_drewN | apply below_drew1 | refine below_set ?_ GE101.out) | exact HB.out)⟩
end Go.Proofs.YtmecbmgfacpecaaGreatDoor.Pr

namespace Go.Proofs.YtmecbmgfacpecaaGreatDoor.Pr
open Go.RowKit Go.Proofs.YtmecbmgfacpecaaGreatDoorW.PrintWords Go.Proofs.YtmecbmgfacpecaaGreatDoorW.PrintLast
set_option linter.unusedVariables false
set_option linter.unusedSimpArgs false
/-! ### spec_CronClock: function 71 -/
def spec_CronClock.f (k : Nat) (a0 : Int) (a1 : Int) : Option (Int × Int × Int × Int × Int × Int × Int × Int) := (spec_floorDiv.f a0 86400).bind fun t155 => ((spec_CronDateOf.f k t155).bind fun bt156 => ((spec_CronWeekday.f t155).bind fun t160 => (some (bt156.1, bt156.2.1, bt156.2.2, wrap64 (Int.tdiv (wrap64 (a0 - (wrap64 (86400 * t155)))) 3600), Int.tmod (wrap64 (Int.tdiv (wrap64 (a0 - (wrap64 (86400 * t155)))) 60)) 60, Int.tmod (wrap64 (a0 - (wrap64 (86400 * t155)))) 60, a1, t160))))
theorem spec_CronClock.mono : ∀ a0 a1 k, LeO (spec_CronClock.f k a0 a1) (spec_CronClock.f (k + 1) a0 a1) := by
  intro a0 a1 k
  unfold spec_CronClock.f
  repeat' first
      | (with_reducible exact spec_CronDateOf.mono _ _)
      | (with_reducible exact LeO.refl _)
      | (with_reducible exact LeO.none _)
      | (with_reducible refine LeO.ite ?_ ?_)
      | (with_reducible refine LeO.bind ?_ (fun _ => ?_))
      | exact spec_CronDateOf.mono _ _
      | exact LeO.none _
      | refine LeO.ite ?_ ?_
      | refine LeO.bind ?_ (fun _ => ?_)
def spec_CronClock.T4 : Bool × List (List Nat × List Nat) := (true, [([], []), ([0], [0]), ([], []), ([2], [2]), ([], []), ([4], [4]), ([], []), ([6], [6]), ([], []), ([8], [8]), ([9], [9]), ([], []), ([11], [11]), ([], []), ([], []), ([14], [14]), ([1, 3, 5, 7, 10, 12, 13, 15], [1, 3, 5, 7, 10, 12, 13, 15]), ([16, 15, 0, 1, 2, 3, 4, 5, 6, 7, 8, 9, 10, 11, 12, 13, 14, 15, 16], [16])])
def spec_CronClock.B4 : List Nat := [0, 1, 0, 4, 0, 16, 0, 64, 0, 256, 768, 0, 2048, 0, 0, 16384, 65535, 131071]
theorem spec_CronClock.tab4 : rtab .any (opsOf Tryz.f71 4) = spec_CronClock.T4 := by kernel_rfl
theorem spec_CronClock.bits4 : waitsOk spec_CronClock.T4.2 spec_CronClock.B4 = true := by kernel_rfl
set_option maxHeartbeats 8000000 in
set_option maxRecDepth 100000 in
theorem spec_CronClock.calls (k : Nat) (a0 : Int) (a1 : Int) (r1 : Int) (r2 : Int) (r3 : Int) (r4 : Int) (r5 : Int) (r6 : Int) (r7 : Int) (r8 : Int) (w : World) (h : spec_CronClock.f k a0 a1 = some (r1, r2, r3, r4, r5, r6, r7, r8)) :
    Calls Tryz.prog 71 #[.int .i64 a0, .int .i64 a1] w fun e w' => e = .returned (.agg #[.int .i64 r1, .int .i64 r2, .int .i64 r3, .int .i64 r4, .int .i64 r5, .int .i64 r6, .int .i64 r7, .int .i64 r8]) ∧ Below w.heap.size w w' := by
  have hu78 := Tryz.underlying78
  have hu83 := Tryz.underlying83
  have HB := Aside0.mk (Below.refl w.heap.size w)
  have H : ((spec_floorDiv.f a0 86400).bind fun t155 => ((spec_CronDateOf.f k t155).bind fun bt156 => ((spec_CronWeekday.f t155).bind fun t160 => (some (bt156.1, bt156.2.1, bt156.2.2, wrap64 (Int.tdiv (wrap64 (a0 - (wrap64 (86400 * t155)))) 3600), Int.tmod (wrap64 (Int.tdiv (wrap64 (a0 - (wrap64 (86400 * t155)))) 60)) 60, Int.tmod (wrap64 (a0 - (wrap64 (86400 * t155)))) 60, a1, t160))))) = some (r1, r2, r3, r4, r5, r6, r7, r8) := h
  clear h
  replace H := Option.bind_eq_some_iff.mp H
  obtain ⟨t155, A30, H⟩ := H
  replace H : ((spec_CronDateOf.f k t155).bind fun bt156 => ((spec_CronWeekday.f t155).bind fun t160 => (some (bt156.1, bt156.2.1, bt156.2.2, wrap64 (Int.tdiv (wrap64 (a0 - (wrap64 (86400 * t155)))) 3600), Int.tmod (wrap64 (Int.tdiv (wrap64 (a0 - (wrap64 (86400 * t155)))) 60)) 60, Int.tmod (wrap64 (a0 - (wrap64 (86400 * t155)))) 60, a1, t160)))) = some (r1, r2, r3, r4, r5, r6, r7, r8) := H
  have A3 := Aside0.mk A30
  clear A30
  replace H := Option.bind_eq_some_iff.mp H
  obtain ⟨⟨t156, t157, t158⟩, A40, H⟩ := H
  replace H : ((spec_CronWeekday.f t155).bind fun t160 => (some (t156, t157, t158, wrap64 (Int.tdiv (wrap64 (a0 - (wrap64 (86400 * t155)))) 3600), Int.tmod (wrap64 (Int.tdiv (wrap64 (a0 - (wrap64 (86400 * t155)))) 60)) 60, Int.tmod (wrap64 (a0 - (wrap64 (86400 * t155)))) 60, a1, t160))) = some (r1, r2, r3, r4, r5, r6, r7, r8) := H
  have A4 := Aside0.mk A40
  clear A40
  replace H := Option.bind_eq_some_iff.mp H
  obtain ⟨t160, A50, H⟩ := H
  replace H : (some (t156, t157, t158, wrap64 (Int.tdiv (wrap64 (a0 - (wrap64 (86400 * t155)))) 3600), Int.tmod (wrap64 (Int.tdiv (wrap64 (a0 - (wrap64 (86400 * t155)))) 60)) 60, Int.tmod (wrap64 (a0 - (wrap64 (86400 * t155)))) 60, a1, t160)) = some (r1, r2, r3, r4, r5, r6, r7, r8) := H
  have A5 := Aside0.mk A50
  clear A50
  simp only [Option.some.injEq, Prod.mk.injEq] at H
  obtain ⟨rfl, rfl, rfl, rfl, rfl, rfl, rfl, rfl⟩ := H
  go_enter Tryz.func71, Tryz.ntmps71
  try go_wp2_with (first | ((with_reducible refine gate_dst (N := 4) rfl ?_); refine box_event ?hg (N := 4) ?hd (cs := #[.int .i64 0, .int .i64 0, .int .i64 0, .int .i64 0, .int .i64 0, .int .i64 0, .int .i64 0, .int .i64 0]) (t := 78) ?hr ?_; (case hd => rfl); (case hg => rfl); (case hr => first | (go_simp; done) | (go_simp; rfl)); intro gb154 hg w6 hbox hb; have n0_ := Aside0.mk (below_step (by repeat (first | (with_reducible first | exact HB.out | apply below_alloc | apply pw_below_drewN | apply below_drew1) | exact HB.out)) hb); have n1_ := Aside0.mk (hbox); have n2_ := Aside0.mk ((by rw [hg]; exact (below_size (by repeat (first | (with_reducible first | exact HB.out | apply below_alloc | apply pw_below_drewN | apply below_drew1) | exact HB.out))) : w.heap.size ≤ gb154)); have n3_ := Aside0.mk ((by rw [hg]; exact (below_size (by repeat (first | (with_reducible first | exact HB.out | apply below_alloc | apply pw_below_drewN | apply below_drew1) | exact HB.out))) : w.heap.size ≤ gb154)); clear HB; have HB := n0_; have BK154 := n1_; have GW154 := n2_; have GE154 := n3_; clear n0_ n1_ n2_ n3_; clear hb hbox hg) | ((with_reducible refine gate_callee (f := 85) rfl ?_); refine goesL_ (some 9) rfl rfl Tryz.func85 (by kernel_rfl) rfl #[.int .i64 a0, .int .i64 86400] rfl (by (try simp only [List.map_toArray, List.map_cons, List.map_nil]); first | done | rfl | (simp only [List.length_drop, List.length_take]; rfl)) ?_; (with_reducible refine (spec_floorDiv.calls a0 86400 t155 _ A3.out).mono ?_); rintro e w' ⟨rfl, ⟨nd, rfl⟩⟩; refine ⟨_, rfl, ?_⟩; (try (rw [drewN_self w6]; generalize hq_ : World.drewN w6 _ = w6; have n0_ : Aside0 (w6.heap[gb154]? = some (.cells #[.int .i64 0, .int .i64 0, .int .i64 0, .int .i64 0, .int .i64 0, .int .i64 0, .int .i64 0, .int .i64 0] 78 (0, 0))) := ⟨by rw [← hq_]; exact (by (with_reducible repeat (first | refine blk_drewN ?_ _ | refine blk_drew ?_ | refine blk_alloc ?_ _)); exact BK154.out)⟩; have n1_ : Aside0 (Below w.heap.size w w6) := ⟨by rw [← hq_]; exact (by repeat (first | (with_reducible first | exact HB.out | apply below_alloc | apply pw_below_drewN | apply below_drew1 | refine below_set ?_ GE154.out) | exact HB.out))⟩; clear BK154 HB hq_; have BK154 := n0_; have HB := n1_; clear n0_ n1_))) | ((with_reducible refine gate_callee (f := 84) rfl ?_); refine goesL_ (some 15) rfl rfl Tryz.func84 (by kernel_rfl) rfl #[.int .i64 t155] rfl (by (try simp only [List.map_toArray, List.map_cons, List.map_nil]); first | done | rfl | (simp only [List.length_drop, List.length_take]; rfl)) ?_; (with_reducible refine (spec_CronDateOf.calls k t155 t156 t157 t158 _ A4.out).mono ?_); rintro e w7 ⟨rfl, hb⟩; refine ⟨_, rfl, ?_⟩; have n0_ := Aside0.mk (blk_below (g := gb154) (o := .cells #[.int .i64 0, .int .i64 0, .int .i64 0, .int .i64 0, .int .i64 0, .int .i64 0, .int .i64 0, .int .i64 0] 78 (0, 0)) (by (with_reducible repeat (first | refine blk_drewN ?_ _ | refine blk_drew ?_ | refine blk_alloc ?_ _)); exact BK154.out) hb); have n1_ := Aside0.mk (below_step (by repeat (first | (with_reducible first | exact HB.out | apply below_alloc | apply pw_below_drewN | apply below_drew1 | refine below_set ?_ GE154.out) | exact HB.out)) hb); clear BK154; clear HB; have BK154 := n0_; have HB := n1_; clear n0_ n1_; (try clear hb); (try clear hb2); (try clear hk); (try clear hi)) | ((with_reducible refine gate_dst (N := 7) rfl ?_); refine box_event ?hg (N := 7) ?hd (cs := #[.int .i64 0, .int .i64 0, .int .i64 0]) (t := 83) ?hr ?_; (case hd => rfl); (case hg => rfl); (case hr => first | (go_simp; done) | (go_simp; rfl)); intro gb159 hg w8 hbox hb; have n0_ := Aside0.mk (blk_below (g := gb154) (o := .cells #[.int .i64 0, .int .i64 0, .int .i64 0, .int .i64 0, .int .i64 0, .int .i64 0, .int .i64 0, .int .i64 0] 78 (0, 0)) (by (with_reducible repeat (first | refine blk_drewN ?_ _ | refine blk_drew ?_ | refine blk_alloc ?_ _)); exact BK154.out) hb); have n1_ := Aside0.mk (below_step (by repeat (first | (with_reducible first | exact HB.out | apply below_alloc | apply pw_below_drewN | apply below_drew1 | refine below_set ?_ GE154.out) | exact HB.out)) hb); have n2_ := Aside0.mk (hbox); have n3_ := Aside0.mk ((by rw [hg]; exact (below_size (by repeat (first | (with_reducible first | exact HB.out | apply below_alloc | apply pw_below_drewN | apply below_drew1 | refine below_set ?_ GE154.out) | exact HB.out))) : w.heap.size ≤ gb159)); have n4_ := Aside0.mk ((by rw [hg]; exact (below_size (by repeat (first | (with_reducible first | exact HB.out | apply below_alloc | apply pw_below_drewN | apply below_drew1 | refine below_set ?_ GE154.out) | exact HB.out))) : w.heap.size ≤ gb159)); have n5_ := Aside0.mk ((by rw [hg]; exact Nat.ne_of_lt (blk_lt (g := gb154) (o := .cells #[.int .i64 0, .int .i64 0, .int .i64 0, .int .i64 0, .int .i64 0, .int .i64 0, .int .i64 0, .int .i64 0] 78 (0, 0)) (by (with_reducible repeat (first | refine blk_drewN ?_ _ | refine blk_drew ?_ | refine blk_alloc ?_ _)); exact BK154.out)) : gb154 ≠ gb159)); have n6_ := Aside0.mk ((by rw [hg]; exact Nat.ne_of_gt (blk_lt (g := gb154) (o := .cells #[.int .i64 0, .int .i64 0, .int .i64 0, .int .i64 0, .int .i64 0, .int .i64 0, .int .i64 0, .int .i64 0] 78 (0, 0)) (by (with_reducible repeat (first | refine blk_drewN ?_ _ | refine blk_drew ?_ | refine blk_alloc ?_ _)); exact BK154.out)) : gb159 ≠ gb154)); clear BK154; clear HB; have BK154 := n0_; have HB := n1_; have BK159 := n2_; have GW159 := n3_; have GE159 := n4_; have NB154_159 := n5_; have NB159_154 := n6_; clear n0_ n1_ n2_ n3_ n4_ n5_ n6_; clear hb hbox hg; have hnb9 := NB159_154.out; have hnc9 := NB154_159.out; have hcz10_0 : w8.cell? ⟨gb159, 0, none⟩ = some (.int .i64 0) := (blk_cell BK159.out 0).trans rfl; have hcz10_1 : w8.cell? ⟨gb159, 1, none⟩ = some (.int .i64 0) := (blk_cell BK159.out 1).trans rfl; have hcz10_2 : w8.cell? ⟨gb159, 2, none⟩ = some (.int .i64 0) := (blk_cell BK159.out 2).trans rfl; have hfz10_0 := blk_frozen BK159.out 0; have hfz10_1 := blk_frozen BK159.out 1; have hfz10_2 := blk_frozen BK159.out 2))
  have n0_ : Aside0 ((((w8.setCell ⟨gb159, 0, none⟩ (.int .i64 t156)).setCell ⟨gb159, 1, none⟩ (.int .i64 t157)).setCell ⟨gb159, 2, none⟩ (.int .i64 t158)).heap[gb154]? = some (.cells #[.int .i64 0, .int .i64 0, .int .i64 0, .int .i64 0, .int .i64 0, .int .i64 0, .int .i64 0, .int .i64 0] 78 (0, 0))) := ⟨by (with_reducible repeat (first | refine blk_drewN ?_ _ | refine blk_drew ?_ | refine blk_alloc ?_ _)); refine blk_far ?_ NB154_159.out _; (with_reducible repeat (first | refine blk_drewN ?_ _ | refine blk_drew ?_ | refine blk_alloc ?_ _)); refine blk_far ?_ NB154_159.out _; (with_reducible repeat (first | refine blk_drewN ?_ _ | refine blk_drew ?_ | refine blk_alloc ?_ _)); refine blk_far ?_ NB154_159.out _; (with_reducible repeat (first | refine blk_drewN ?_ _ | refine blk_drew ?_ | refine blk_alloc ?_ _)); exact BK154.out⟩
  have n1_ : Aside0 ((((w8.setCell ⟨gb159, 0, none⟩ (.int .i64 t156)).setCell ⟨gb159, 1, none⟩ (.int .i64 t157)).setCell ⟨gb159, 2, none⟩ (.int .i64 t158)).heap[gb159]? = some (.cells #[.int .i64 t156, .int .i64 t157, .int .i64 t158] 83 (0, 0))) := ⟨by (with_reducible repeat (first | refine blk_drewN ?_ _ | refine blk_drew ?_ | refine blk_alloc ?_ _)); refine blk_put (cs := #[.int .i64 t156, .int .i64 t157, .int .i64 0]) ?_ 2 _ rfl; (with_reducible repeat (first | refine blk_drewN ?_ _ | refine blk_drew ?_ | refine blk_alloc ?_ _)); refine blk_put (cs := #[.int .i64 t156, .int .i64 0, .int .i64 0]) ?_ 1 _ rfl; (with_reducible repeat (first | refine blk_drewN ?_ _ | refine blk_drew ?_ | refine blk_alloc ?_ _)); refine blk_put (cs := #[.int .i64 0, .int .i64 0, .int .i64 0]) ?_ 0 _ rfl; (with_reducible repeat (first | refine blk_drewN ?_ _ | refine blk_drew ?_ | refine blk_alloc ?_ _)); exact BK159.out⟩
  have n2_ : Aside0 (Below w.heap.size w (((w8.setCell ⟨gb159, 0, none⟩ (.int .i64 t156)).setCell ⟨gb159, 1, none⟩ (.int .i64 t157)).setCell ⟨gb159, 2, none⟩ (.int .i64 t158))) := ⟨by repeat (first | (with_reducible first | exact HB.out | apply below_alloc | apply pw_below_drewN | apply below_drew1 | refine below_set ?_ GE154.out | refine below_set ?_ GE159.out) | exact HB.out)⟩
  (try clear BK154)
  (try clear BK159)
  (try clear HB)
  generalize (((w8.setCell ⟨gb159, 0, none⟩ (.int .i64 t156)).setCell ⟨gb159, 1, none⟩ (.int .i64 t157)).setCell ⟨gb159, 2, none⟩ (.int .i64 t158)) = w11 at n0_ n1_ n2_ ⊢
  have BK154 := n0_
  have BK159 := n1_
  have HB := n2_
  clear n0_ n1_ n2_
  have n0_ := Aside0.mk (blk_drew BK154.out)
  have n1_ := Aside0.mk (blk_drew BK159.out)
  have n2_ := Aside0.mk (below_drew1 HB.out)
  clear BK154
  clear BK159
  clear HB
  have BK154 := n0_
  have BK159 := n1_
  have HB := n2_
  clear n0_ n1_ n2_
  refine start_ (n := 18) (S := fun w' => w'.cell? ⟨gb159, 0, none⟩ = some (.int .i64 t156) ∧ w'.cell? ⟨gb159, 1, none⟩ = some (.int .i64 t157) ∧ w'.cell? ⟨gb159, 2, none⟩ = some (.int .i64 t158)) (ds := []) #[false, false, false, false, false, false, false, false, false, false, false, false, false, false, false, false, false, false] (by kernel_rfl) rfl rfl ⟨(blk_cell BK159.out 0).trans rfl, (blk_cell BK159.out 1).trans rfl, (blk_cell BK159.out 2).trans rfl⟩ (fun hHeld => ?_); refine with_tabW spec_CronClock.tab4 spec_CronClock.bits4 (fun HT_ HW_ => ?_)
  generalize w11.drew = w12 at BK154 BK159 HB hHeld ⊢
  refine pure_ (i := 0) (N := some 16) (v := ?_) (a' := ?_) #[true, false, false, false, false, false, false, false, false, false, false, false, false, false, false, false, false, false] rfl rfl (any_of HT_.out (by kernel_rfl)) (fun _ _ _ h => h) (Or.inl ⟨by rfl, ?_⟩) ?_ ?_
  rotate_left
  · intro w'
    go_simp
    with_reducible rfl
  rotate_left
  · simp only [Act.put, List.setIfInBounds_toArray, List.set_cons_zero, List.set_cons_succ, i64_w, i32_w]
    rfl
  refine pure_ (i := 2) (N := some 18) (v := ?_) (a' := ?_) #[true, false, true, false, false, false, false, false, false, false, false, false, false, false, false, false, false, false] rfl rfl (any_of HT_.out (by kernel_rfl)) (fun _ _ _ h => h) (Or.inl ⟨by rfl, ?_⟩) ?_ ?_
  rotate_left
  · intro w'
    go_simp
    with_reducible rfl
  rotate_left
  · simp only [Act.put, List.setIfInBounds_toArray, List.set_cons_zero, List.set_cons_succ, i64_w, i32_w]
    rfl
  refine pure_ (i := 4) (N := some 20) (v := ?_) (a' := ?_) #[true, false, true, false, true, false, false, false, false, false, false, false, false, false, false, false, false, false] rfl rfl (any_of HT_.out (by kernel_rfl)) (fun _ _ _ h => h) (Or.inl ⟨by rfl, ?_⟩) ?_ ?_
  rotate_left
  · intro w'
    go_simp
    with_reducible rfl
  rotate_left
  · simp only [Act.put, List.setIfInBounds_toArray, List.set_cons_zero, List.set_cons_succ, i64_w, i32_w]
    rfl
  refine pure_ (i := 6) (N := some 22) (v := ?_) (a' := ?_) #[true, false, true, false, true, false, true, false, false, false, false, false, false, false, false, false, false, false] rfl rfl (any_of HT_.out (by kernel_rfl)) (fun _ _ _ h => h) (Or.inl ⟨by rfl, ?_⟩) ?_ ?_
  rotate_left
  · intro w'
    go_simp
    with_reducible rfl
  rotate_left
  · simp only [Act.put, List.setIfInBounds_toArray, List.set_cons_zero, List.set_cons_succ, i64_w, i32_w]
    rfl
  refine pure_ (i := 7) (N := some 23) (v := ?_) (a' := ?_) #[true, false, true, false, true, false, true, true, false, false, false, false, false, false, false, false, false, false] rfl rfl (any_of HT_.out (by kernel_rfl)) (fun _ _ _ h => h) (Or.inl ⟨by rfl, ?_⟩) ?_ ?_
  rotate_left
  · intro w'
    go_simp
    with_reducible rfl
  rotate_left
  · simp only [Act.put, List.setIfInBounds_toArray, List.set_cons_zero, List.set_cons_succ, i64_w, i32_w]
    rfl
  refine pure_ (i := 8) (N := some 24) (v := ?_) (a' := ?_) #[true, false, true, false, true, false, true, true, true, false, false, false, false, false, false, false, false, false] rfl rfl (any_of HT_.out (by kernel_rfl)) (fun _ _ _ h => h) (Or.inl ⟨by rfl, ?_⟩) ?_ ?_
  rotate_left
  · intro w'
    go_simp
    with_reducible rfl
  rotate_left
  · simp only [Act.put, List.setIfInBounds_toArray, List.set_cons_zero, List.set_cons_succ, i64_w, i32_w]
    rfl
  refine pure_ (i := 9) (N := some 25) (v := ?_) (a' := ?_) #[true, false, true, false, true, false, true, true, true, true, false, false, false, false, false, false, false, false] rfl rfl (any_of HT_.out (by kernel_rfl)) (fun _ _ _ h => h) (Or.inl ⟨by rfl, ?_⟩) ?_ ?_
  rotate_left
  · intro w'
    go_simp
    with_reducible rfl
  rotate_left
  · simp only [Act.put, List.setIfInBounds_toArray, List.set_cons_zero, List.set_cons_succ, i64_w, i32_w]
    rfl
  refine pure_ (i := 10) (N := some 26) (v := ?_) (a' := ?_) #[true, false, true, false, true, false, true, true, true, true, true, false, false, false, false, false, false, false] rfl rfl (any_of HT_.out (by kernel_rfl)) (fun _ _ _ h => h) (Or.inl ⟨by rfl, ?_⟩) ?_ ?_
  rotate_left
  · intro w'
    go_simp
    with_reducible rfl
  rotate_left
  · simp only [Act.put, List.setIfInBounds_toArray, List.set_cons_zero, List.set_cons_succ, i64_w, i32_w]
    rfl
  refine pure_ (i := 11) (N := some 27) (v := ?_) (a' := ?_) #[true, false, true, false, true, false, true, true, true, true, true, true, false, false, false, false, false, false] rfl rfl (any_of HT_.out (by kernel_rfl)) (fun _ _ _ h => h) (Or.inl ⟨by rfl, ?_⟩) ?_ ?_
  rotate_left
  · intro w'
    go_simp
    with_reducible rfl
  rotate_left
  · simp only [Act.put, List.setIfInBounds_toArray, List.set_cons_zero, List.set_cons_succ, i64_w, i32_w]
    rfl
  refine pure_ (i := 12) (N := some 28) (v := ?_) (a' := ?_) #[true, false, true, false, true, false, true, true, true, true, true, true, true, false, false, false, false, false] rfl rfl (any_of HT_.out (by kernel_rfl)) (fun _ _ _ h => h) (Or.inl ⟨by rfl, ?_⟩) ?_ ?_
  rotate_left
  · intro w'
    go_simp
    with_reducible rfl
  rotate_left
  · simp only [Act.put, List.setIfInBounds_toArray, List.set_cons_zero, List.set_cons_succ, i64_w, i32_w]
    rfl
  refine pure_ (i := 13) (N := some 29) (v := ?_) (a' := ?_) #[true, false, true, false, true, false, true, true, true, true, true, true, true, true, false, false, false, false] rfl rfl (any_of HT_.out (by kernel_rfl)) (fun _ _ _ h => h) (Or.inl ⟨by rfl, ?_⟩) ?_ ?_
  rotate_left
  · intro w'
    go_simp
    with_reducible rfl
  rotate_left
  · simp only [Act.put, List.setIfInBounds_toArray, List.set_cons_zero, List.set_cons_succ, i64_w, i32_w]
    rfl
  refine pure_ (i := 14) (N := some 30) (v := ?_) (a' := ?_) #[true, false, true, false, true, false, true, true, true, true, true, true, true, true, true, false, false, false] rfl rfl (any_of HT_.out (by kernel_rfl)) (fun _ _ _ h => h) (Or.inl ⟨by rfl, ?_⟩) ?_ ?_
  rotate_left
  · intro w'
    go_simp
    with_reducible rfl
  rotate_left
  · simp only [Act.put, List.setIfInBounds_toArray, List.set_cons_zero, List.set_cons_succ, i64_w, i32_w]
    rfl
  refine take_ (i := 1) (N := some 17) (v := ?_) (a' := ?_) #[true, true, true, false, true, false, true, true, true, true, true, true, true, true, true, false, false, false] rfl rfl (take_ofW HT_.out HW_.out (by kernel_rfl)) (fun _ _ _ h => h) (Or.inl ⟨by rfl, ?_⟩) hHeld ?_ ?_
  rotate_left
  · rintro w' ⟨s0, s1, s2⟩
    go_simp
    with_reducible rfl
  rotate_left
  · simp only [Act.put, List.setIfInBounds_toArray, List.set_cons_zero, List.set_cons_succ, i64_w, i32_w]
    rfl
  refine take_ (i := 3) (N := some 19) (v := ?_) (a' := ?_) #[true, true, true, true, true, false, true, true, true, true, true, true, true, true, true, false, false, false] rfl rfl (take_ofW HT_.out HW_.out (by kernel_rfl)) (fun _ _ _ h => h) (Or.inl ⟨by rfl, ?_⟩) hHeld ?_ ?_
  rotate_left
  · rintro w' ⟨s0, s1, s2⟩
    go_simp
    with_reducible rfl
  rotate_left
  · simp only [Act.put, List.setIfInBounds_toArray, List.set_cons_zero, List.set_cons_succ, i64_w, i32_w]
    rfl
  refine take_ (i := 5) (N := some 21) (v := ?_) (a' := ?_) #[true, true, true, true, true, true, true, true, true, true, true, true, true, true, true, false, false, false] rfl rfl (take_ofW HT_.out HW_.out (by kernel_rfl)) (fun _ _ _ h => h) (Or.inl ⟨by rfl, ?_⟩) hHeld ?_ ?_
  rotate_left
  · rintro w' ⟨s0, s1, s2⟩
    go_simp
    with_reducible rfl
  rotate_left
  · simp only [Act.put, List.setIfInBounds_toArray, List.set_cons_zero, List.set_cons_succ, i64_w, i32_w]
    rfl
  refine one_ (i := 15) (N := some 31) #[true, true, true, true, true, true, true, true, true, true, true, true, true, true, true, true, false, false] rfl rfl (one_of HT_.out (by kernel_rfl)) (by decide) (fun K hK => ?_)
  refine goes_ Tryz.func129 (by kernel_rfl) rfl #[.int .i64 t155] (by rfl) rfl rfl (by (try simp only [List.map_toArray, List.map_cons, List.map_nil]); first | done | rfl | (simp only [List.length_drop, List.length_take]; rfl)) ?_
  with_reducible refine (spec_CronWeekday.calls t155 t160 _ A5.out).mono ?_
  rintro e w' ⟨rfl, ⟨nd, rfl⟩⟩
  refine ⟨_, rfl, ?_⟩
  refine hK.out _ _ ⟨(blk_cell BK159.out 0).trans rfl, (blk_cell BK159.out 1).trans rfl, (blk_cell BK159.out 2).trans rfl⟩ (fun hHeld => ?_)
  clear hK K
  refine norm_ (a' := ?_) ?_ ?_
  rotate_left
  · show Act.put _ (some 31) _ = _
    simp only [Act.put, List.setIfInBounds_toArray, List.set_cons_zero, List.set_cons_succ, i64_w, i32_w]
    rfl
  refine pure_ (i := 16) (N := some 32) (v := ?_) (a' := ?_) #[true, true, true, true, true, true, true, true, true, true, true, true, true, true, true, true, true, false] rfl rfl (any_of HT_.out (by kernel_rfl)) (fun _ _ _ h => h) (Or.inl ⟨by rfl, ?_⟩) ?_ ?_
  rotate_left
  · intro w'
    go_simp
    with_reducible rfl
  rotate_left
  · simp only [Act.put, List.setIfInBounds_toArray, List.set_cons_zero, List.set_cons_succ, i64_w, i32_w]
    rfl
  refine one_ (i := 17) (N := none) #[true, true, true, true, true, true, true, true, true, true, true, true, true, true, true, true, true, true] rfl rfl (one_of HT_.out (by kernel_rfl)) (by decide) (fun K hK => ?_)
  have hs13 : w12.cell? ⟨gb154, 0, none⟩ = some (.int .i64 0) := (blk_cell BK154.out 0).trans rfl
  have hfs13 := blk_frozen BK154.out 0
  have hns13_1 := NB159_154.out
  have hms13_1 := NB154_159.out
  have hs14 : w12.cell? ⟨gb154, 1, none⟩ = some (.int .i64 0) := (blk_cell BK154.out 1).trans rfl
  have hfs14 := blk_frozen BK154.out 1
  have hns14_1 := NB159_154.out
  have hms14_1 := NB154_159.out
  have hs15 : w12.cell? ⟨gb154, 2, none⟩ = some (.int .i64 0) := (blk_cell BK154.out 2).trans rfl
  have hfs15 := blk_frozen BK154.out 2
  have hns15_1 := NB159_154.out
  have hms15_1 := NB154_159.out
  have hs16 : w12.cell? ⟨gb154, 3, none⟩ = some (.int .i64 0) := (blk_cell BK154.out 3).trans rfl
  have hfs16 := blk_frozen BK154.out 3
  have hns16_1 := NB159_154.out
  have hms16_1 := NB154_159.out
  have hs17 : w12.cell? ⟨gb154, 4, none⟩ = some (.int .i64 0) := (blk_cell BK154.out 4).trans rfl
  have hfs17 := blk_frozen BK154.out 4
  have hns17_1 := NB159_154.out
  have hms17_1 := NB154_159.out
  have hs18 : w12.cell? ⟨gb154, 5, none⟩ = some (.int .i64 0) := (blk_cell BK154.out 5).trans rfl
  have hfs18 := blk_frozen BK154.out 5
  have hns18_1 := NB159_154.out
  have hms18_1 := NB154_159.out
  have hs19 : w12.cell? ⟨gb154, 6, none⟩ = some (.int .i64 0) := (blk_cell BK154.out 6).trans rfl
  have hfs19 := blk_frozen BK154.out 6
  have hns19_1 := NB159_154.out
  have hms19_1 := NB154_159.out
  have hs20 : w12.cell? ⟨gb154, 7, none⟩ = some (.int .i64 0) := (blk_cell BK154.out 7).trans rfl
  have hfs20 := blk_frozen BK154.out 7
  have hns20_1 := NB159_154.out
  have hms20_1 := NB154_159.out
  refine skip_ (w1 := ?_) (by rfl) rfl ?_ ?_
  rotate_left
  · go_simp
    rfl
  refine hK.out _ _ ⟨((cell_far (p := ⟨gb154, _, none⟩) NB159_154.out _).trans (((cell_far (p := ⟨gb154, _, none⟩) NB159_154.out _).trans (((cell_far (p := ⟨gb154, _, none⟩) NB159_154.out _).trans (((cell_far (p := ⟨gb154, _, none⟩) NB159_154.out _).trans (((cell_far (p := ⟨gb154, _, none⟩) NB159_154.out _).trans (((cell_far (p := ⟨gb154, _, none⟩) NB159_154.out _).trans (((cell_far (p := ⟨gb154, _, none⟩) NB159_154.out _).trans (((cell_far (p := ⟨gb154, _, none⟩) NB159_154.out _).trans (hHeld.1)))))))))))))))), ((cell_far (p := ⟨gb154, _, none⟩) NB159_154.out _).trans (((cell_far (p := ⟨gb154, _, none⟩) NB159_154.out _).trans (((cell_far (p := ⟨gb154, _, none⟩) NB159_154.out _).trans (((cell_far (p := ⟨gb154, _, none⟩) NB159_154.out _).trans (((cell_far (p := ⟨gb154, _, none⟩) NB159_154.out _).trans (((cell_far (p := ⟨gb154, _, none⟩) NB159_154.out _).trans (((cell_far (p := ⟨gb154, _, none⟩) NB159_154.out _).trans (((cell_far (p := ⟨gb154, _, none⟩) NB159_154.out _).trans (hHeld.2.1)))))))))))))))), ((cell_far (p := ⟨gb154, _, none⟩) NB159_154.out _).trans (((cell_far (p := ⟨gb154, _, none⟩) NB159_154.out _).trans (((cell_far (p := ⟨gb154, _, none⟩) NB159_154.out _).trans (((cell_far (p := ⟨gb154, _, none⟩) NB159_154.out _).trans (((cell_far (p := ⟨gb154, _, none⟩) NB159_154.out _).trans (((cell_far (p := ⟨gb154, _, none⟩) NB159_154.out _).trans (((cell_far (p := ⟨gb154, _, none⟩) NB159_154.out _).trans (((cell_far (p := ⟨gb154, _, none⟩) NB159_154.out _).trans (hHeld.2.2))))))))))))))))⟩ (fun hHeld => ?_)
  clear hK K
  refine done_ (done_of HT_.out (by kernel_rfl)) ?_
  try go_wp2
  refine bodyPost_ret (results_cell_row rfl _ _ gb154 78 #[.int .i64 t156, .int .i64 t157, .int .i64 t158, .int .i64 (wrap64 (Int.tdiv (wrap64 (a0 - (wrap64 (86400 * t155)))) 3600)), .int .i64 (Int.tmod (wrap64 (Int.tdiv (wrap64 (a0 - (wrap64 (86400 * t155)))) 60)) 60), .int .i64 (Int.tmod (wrap64 (a0 - (wrap64 (86400 * t155)))) 60), .int .i64 a1, .int .i64 t160] (0, 0) _ rfl (by (with_reducible repeat (first | refine blk_drewN ?_ _ | refine blk_drew ?_ | refine blk_alloc ?_ _)); refine blk_put (cs := #[.int .i64 t156, .int .i64 t157, .int .i64 t158, .int .i64 (wrap64 (Int.tdiv (wrap64 (a0 - (wrap64 (86400 * t155)))) 3600)), .int .i64 (Int.tmod (wrap64 (Int.tdiv (wrap64 (a0 - (wrap64 (86400 * t155)))) 60)) 60), .int .i64 (Int.tmod (wrap64 (a0 - (wrap64 (86400 * t155)))) 60), .int .i64 a1, .int .i64 0]) ?_ 7 _ rfl; (with_reducible repeat (first | refine blk_drewN ?_ _ | refine blk_drew ?_ | refine blk_alloc ?_ _)); refine blk_put (cs := #[.int .i64 t156, .int .i64 t157, .int .i64 t158, .int .i64 (wrap64 (Int.tdiv (wrap64 (a0 - (wrap64 (86400 * t155)))) 3600)), .int .i64 (Int.tmod (wrap64 (Int.tdiv (wrap64 (a0 - (wrap64 (86400 * t155)))) 60)) 60), .int .i64 (Int.tmod (wrap64 (a0 - (wrap64 (86400 * t155)))) 60), .int .i64 0, .int .i64 0]) ?_ 6 _ rfl; (with_reducible repeat (first | refine blk_drewN ?_ _ | refine blk_drew ?_ | refine blk_alloc ?_ _)); refine blk_put (cs := #[.int .i64 t156, .int .i64 t157, .int .i64 t158, .int .i64 (wrap64 (Int.tdiv (wrap64 (a0 - (wrap64 (86400 * t155)))) 3600)), .int .i64 (Int.tmod (wrap64 (Int.tdiv (wrap64 (a0 - (wrap64 (86400 * t155)))) 60)) 60), .int .i64 0, .int .i64 0, .int .i64 0]) ?_ 5 _ rfl; (with_reducible repeat (first | refine blk_drewN ?_ _ | refine blk_drew ?_ | refine blk_alloc ?_ _)); refine blk_put (cs := #[.int .i64 t156, .int .i64 t157, .int .i64 t158, .int .i64 (wrap64 (Int.tdiv (wrap64 (a0 - (wrap64 (86400 * t155)))) 3600)), .int .i64 0, .int .i64 0, .int .i64 0, .int .i64 0]) ?_ 4 _ rfl; (with_reducible repeat (first | refine blk_drewN ?_ _ | refine blk_drew ?_ | refine blk_alloc ?_ _)); refine blk_put (cs := #[.int .i64 t156, .int .i64 t157, .int .i64 t158, .int .i64 0, .int .i64 0, .int .i64 0, .int .i64 0, .int .i64 0]) ?_ 3 _ rfl; (with_reducible repeat (first | refine blk_drewN ?_ _ | refine blk_drew ?_ | refine blk_alloc ?_ _)); refine blk_put (cs := #[.int .i64 t156, .int .i64 t157, .int .i64 0, .int .i64 0, .int .i64 0, .int .i64 0, .int .i64 0, .int .i64 0]) ?_ 2 _ rfl; (with_reducible repeat (first | refine blk_drewN ?_ _ | refine blk_drew ?_ | refine blk_alloc ?_ _)); refine blk_put (cs := #[.int .i64 t156, .int .i64 0, .int .i64 0, .int .i64 0, .int .i64 0, .int .i64 0, .int .i64 0, .int .i64 0]) ?_ 1 _ rfl; (with_reducible repeat (first | refine blk_drewN ?_ _ | refine blk_drew ?_ | refine blk_alloc ?_ _)); refine blk_put (cs := #[.int .i64 0, .int .i64 0, .int .i64 0, .int .i64 0, .int .i64 0, .int .i64 0, .int .i64 0, .int .i64 0]) ?_ 0 _ rfl; (with_reducible repeat (first | refine blk_drewN ?_ _ | refine blk_drew ?_ | refine blk_alloc ?_ _)); exact BK154.out) Tryz.underlying78 rfl (by kernel_rfl)) rfl ?_
  exact ⟨by first | rfl | (simp [errW_none, errW_some] <;> rfl) | (simp [*, errW_none, errW_some] <;> rfl), by repeat (first | (with_reducible first | exact HB.out | apply below_alloc | apply pw_below_drewN | apply below_drew1 | refine below_set ?_ GE154.out | refine below_set ?_ GE159.out) | exact HB.out)⟩
end Go.Proofs.YtmecbmgfacpecaaGreatDoor.Pr

namespace Go.Proofs.YtmecbmgfacpecaaGreatDoor.Pr
open Go.RowKit Go.Proofs.YtmecbmgfacpecaaGreatDoorW.PrintWords Go.Proofs.YtmecbmgfacpecaaGreatDoorW.PrintLast
set_option linter.unusedVariables false
set_option linter.unusedSimpArgs false
/-! ### spec_CronCivil: function 32 -/
def spec_CronCivil.f (k : Nat) (a0_0 : Int) (a0_1 : Int) (l1_0 : List Int) (l1_1 : List Bool) (l1_2 : List Int) (l1_3 : List Int) : Option (Int × Int × Int × Int × Int × Int × Int × Int) := (spec_CronOffset.f k l1_0 l1_1 l1_2 l1_3 a0_0).bind fun t168 => ((spec_CronClock.f k (wrap64 (a0_0 + t168)) a0_1).bind fun bt169 => (some (bt169.1, bt169.2.1, bt169.2.2.1, bt169.2.2.2.1, bt169.2.2.2.2.1, bt169.2.2.2.2.2.1, bt169.2.2.2.2.2.2.1, bt169.2.2.2.2.2.2.2)))
theorem spec_CronCivil.mono : ∀ a0 a1 a2 a3 a4 a5 k, LeO (spec_CronCivil.f k a0 a1 a2 a3 a4 a5) (spec_CronCivil.f (k + 1) a0 a1 a2 a3 a4 a5) := by
  intro a0 a1 a2 a3 a4 a5 k
  unfold spec_CronCivil.f
  repeat' first
      | (with_reducible exact spec_CronClock.mono _ _ _)
      | (with_reducible exact spec_CronOffset.mono _ _ _ _ _ _)
      | (with_reducible exact LeO.refl _)
      | (with_reducible exact LeO.none _)
      | (with_reducible refine LeO.ite ?_ ?_)
      | (with_reducible refine LeO.bind ?_ (fun _ => ?_))
      | exact spec_CronClock.mono _ _ _
      | exact spec_CronOffset.mono _ _ _ _ _ _
      | exact LeO.none _
      | refine LeO.ite ?_ ?_
      | refine LeO.bind ?_ (fun _ => ?_)
def spec_CronCivil.T1 : Bool × List (List Nat × List Nat) := (true, [([], []), ([0], [0]), ([], []), ([], []), ([3], [3]), ([2, 4], [2, 4]), ([1, 5], [1, 5]), ([], []), ([7], [7]), ([6, 8, 5], [6, 8]), ([9, 9, 0, 1, 2, 3, 4, 5, 6, 7, 8, 9], [9])])
def spec_CronCivil.B1 : List Nat := [0, 1, 0, 0, 8, 28, 63, 0, 128, 511, 1023]
theorem spec_CronCivil.tab1 : rtab .any (opsOf Tryz.f32 1) = spec_CronCivil.T1 := by kernel_rfl
theorem spec_CronCivil.bits1 : waitsOk spec_CronCivil.T1.2 spec_CronCivil.B1 = true := by kernel_rfl
set_option maxHeartbeats 8000000 in
set_option maxRecDepth 100000 in
theorem spec_CronCivil.calls (k : Nat) (a0_0 : Int) (a0_1 : Int) (A1_0 : Option Addr) (c1_0 : Nat) (l1_0 : List Int) (A1_1 : Option Addr) (c1_1 : Nat) (l1_1 : List Bool) (A1_2 : Option Addr) (c1_2 : Nat) (l1_2 : List Int) (A1_3 : Option Addr) (c1_3 : Nat) (l1_3 : List Int) (r1 : Int) (r2 : Int) (r3 : Int) (r4 : Int) (r5 : Int) (r6 : Int) (r7 : Int) (r8 : Int) (w : World) (hr1_0 : Kd.C (Kd.int .i64) w A1_0 l1_0.length l1_0) (hc1_0 : l1_0.length ≤ c1_0) (hr1_1 : Kd.C Kd.bool w A1_1 l1_1.length l1_1) (hc1_1 : l1_1.length ≤ c1_1) (hr1_2 : Kd.C (Kd.int .i64) w A1_2 l1_2.length l1_2) (hc1_2 : l1_2.length ≤ c1_2) (hr1_3 : Kd.C (Kd.int .i64) w A1_3 l1_3.length l1_3) (hc1_3 : l1_3.length ≤ c1_3) (h : spec_CronCivil.f k a0_0 a0_1 l1_0 l1_1 l1_2 l1_3 = some (r1, r2, r3, r4, r5, r6, r7, r8)) :
    Calls Tryz.prog 32 #[.agg #[.int .i64 a0_0, .int .i64 a0_1], .agg #[.slice A1_0 l1_0.length c1_0, .slice A1_1 l1_1.length c1_1, .slice A1_2 l1_2.length c1_2, .slice A1_3 l1_3.length c1_3]] w fun e w' => e = .returned (.agg #[.int .i64 r1, .int .i64 r2, .int .i64 r3, .int .i64 r4, .int .i64 r5, .int .i64 r6, .int .i64 r7, .int .i64 r8]) ∧ Below w.heap.size w w' := by
  have hu50 := Tryz.underlying50
  have hu71 := Tryz.underlying71
  have hu78 := Tryz.underlying78
  have HR1_0 := Aside0.mk hr1_0
  have HC1_0 := Aside0.mk hc1_0
  clear hr1_0 hc1_0
  have HR1_1 := Aside0.mk hr1_1
  have HC1_1 := Aside0.mk hc1_1
  clear hr1_1 hc1_1
  have HR1_2 := Aside0.mk hr1_2
  have HC1_2 := Aside0.mk hc1_2
  clear hr1_2 hc1_2
  have HR1_3 := Aside0.mk hr1_3
  have HC1_3 := Aside0.mk hc1_3
  clear hr1_3 hc1_3
  have HB := Aside0.mk (Below.refl w.heap.size w)
  have H : ((spec_CronOffset.f k l1_0 l1_1 l1_2 l1_3 a0_0).bind fun t168 => ((spec_CronClock.f k (wrap64 (a0_0 + t168)) a0_1).bind fun bt169 => (some (bt169.1, bt169.2.1, bt169.2.2.1, bt169.2.2.2.1, bt169.2.2.2.2.1, bt169.2.2.2.2.2.1, bt169.2.2.2.2.2.2.1, bt169.2.2.2.2.2.2.2)))) = some (r1, r2, r3, r4, r5, r6, r7, r8) := h
  clear h
  replace H := Option.bind_eq_some_iff.mp H
  obtain ⟨t168, A30, H⟩ := H
  replace H : ((spec_CronClock.f k (wrap64 (a0_0 + t168)) a0_1).bind fun bt169 => (some (bt169.1, bt169.2.1, bt169.2.2.1, bt169.2.2.2.1, bt169.2.2.2.2.1, bt169.2.2.2.2.2.1, bt169.2.2.2.2.2.2.1, bt169.2.2.2.2.2.2.2))) = some (r1, r2, r3, r4, r5, r6, r7, r8) := H
  have A3 := Aside0.mk A30
  clear A30
  replace H := Option.bind_eq_some_iff.mp H
  obtain ⟨⟨t169, t170, t171, t172, t173, t174, t175, t176⟩, A40, H⟩ := H
  replace H : (some (t169, t170, t171, t172, t173, t174, t175, t176)) = some (r1, r2, r3, r4, r5, r6, r7, r8) := H
  have A4 := Aside0.mk A40
  clear A40
  simp only [Option.some.injEq, Prod.mk.injEq] at H
  obtain ⟨rfl, rfl, rfl, rfl, rfl, rfl, rfl, rfl⟩ := H
  go_enter Tryz.func32, Tryz.ntmps32
  try go_wp2_with (first | ((with_reducible refine gate_dst (N := 2) rfl ?_); refine box_event ?hg (N := 2) ?hd (cs := #[.int .i64 a0_0, .int .i64 a0_1]) (t := 50) ?hr ?_; (case hd => rfl); (case hg => rfl); (case hr => first | (go_simp; done) | (go_simp; rfl)); intro gb165 hg w5 hbox hb; have n0_ := Aside0.mk (below_step (by repeat (first | (with_reducible first | exact HB.out | apply below_alloc | apply pw_below_drewN | apply below_drew1) | exact HB.out)) hb); have n1_ := Aside0.mk (hbox); have n2_ := Aside0.mk ((by rw [hg]; exact (below_size (by repeat (first | (with_reducible first | exact HB.out | apply below_alloc | apply pw_below_drewN | apply below_drew1) | exact HB.out))) : w.heap.size ≤ gb165)); have n3_ := Aside0.mk ((by rw [hg]; exact (below_size (by repeat (first | (with_reducible first | exact HB.out | apply below_alloc | apply pw_below_drewN | apply below_drew1) | exact HB.out))) : w.heap.size ≤ gb165)); clear HB; have HB := n0_; have BK165 := n1_; have GW165 := n2_; have GE165 := n3_; clear n0_ n1_ n2_ n3_; clear hb hbox hg) | ((with_reducible refine gate_dst (N := 3) rfl ?_); refine box_event ?hg (N := 3) ?hd (cs := #[.slice A1_0 l1_0.length c1_0, .slice A1_1 l1_1.length c1_1, .slice A1_2 l1_2.length c1_2, .slice A1_3 l1_3.length c1_3]) (t := 71) ?hr ?_; (case hd => rfl); (case hg => rfl); (case hr => first | (go_simp; done) | (go_simp; rfl)); intro gb166 hg w6 hbox hb; have n0_ := Aside0.mk (blk_below (g := gb165) (o := .cells #[.int .i64 a0_0, .int .i64 a0_1] 50 (0, 0)) (by (with_reducible repeat (first | refine blk_drewN ?_ _ | refine blk_drew ?_ | refine blk_alloc ?_ _)); exact BK165.out) hb); have n1_ := Aside0.mk (below_step (by repeat (first | (with_reducible first | exact HB.out | apply below_alloc | apply pw_below_drewN | apply below_drew1 | refine below_set ?_ GE165.out) | exact HB.out)) hb); have n2_ := Aside0.mk (hbox); have n3_ := Aside0.mk ((by rw [hg]; exact (below_size (by repeat (first | (with_reducible first | exact HB.out | apply below_alloc | apply pw_below_drewN | apply below_drew1 | refine below_set ?_ GE165.out) | exact HB.out))) : w.heap.size ≤ gb166)); have n4_ := Aside0.mk ((by rw [hg]; exact (below_size (by repeat (first | (with_reducible first | exact HB.out | apply below_alloc | apply pw_below_drewN | apply below_drew1 | refine below_set ?_ GE165.out) | exact HB.out))) : w.heap.size ≤ gb166)); have n5_ := Aside0.mk ((by rw [hg]; exact Nat.ne_of_lt (blk_lt (g := gb165) (o := .cells #[.int .i64 a0_0, .int .i64 a0_1] 50 (0, 0)) (by (with_reducible repeat (first | refine blk_drewN ?_ _ | refine blk_drew ?_ | refine blk_alloc ?_ _)); exact BK165.out)) : gb165 ≠ gb166)); have n6_ := Aside0.mk ((by rw [hg]; exact Nat.ne_of_gt (blk_lt (g := gb165) (o := .cells #[.int .i64 a0_0, .int .i64 a0_1] 50 (0, 0)) (by (with_reducible repeat (first | refine blk_drewN ?_ _ | refine blk_drew ?_ | refine blk_alloc ?_ _)); exact BK165.out)) : gb166 ≠ gb165)); clear BK165; clear HB; have BK165 := n0_; have HB := n1_; have BK166 := n2_; have GW166 := n3_; have GE166 := n4_; have NB165_166 := n5_; have NB166_165 := n6_; clear n0_ n1_ n2_ n3_ n4_ n5_ n6_; clear hb hbox hg) | ((with_reducible refine gate_dst (N := 4) rfl ?_); refine box_event ?hg (N := 4) ?hd (cs := #[.int .i64 0, .int .i64 0, .int .i64 0, .int .i64 0, .int .i64 0, .int .i64 0, .int .i64 0, .int .i64 0]) (t := 78) ?hr ?_; (case hd => rfl); (case hg => rfl); (case hr => first | (go_simp; done) | (go_simp; rfl)); intro gb167 hg w7 hbox hb; have n0_ := Aside0.mk (blk_below (g := gb165) (o := .cells #[.int .i64 a0_0, .int .i64 a0_1] 50 (0, 0)) (by (with_reducible repeat (first | refine blk_drewN ?_ _ | refine blk_drew ?_ | refine blk_alloc ?_ _)); exact BK165.out) hb); have n1_ := Aside0.mk (blk_below (g := gb166) (o := .cells #[.slice A1_0 l1_0.length c1_0, .slice A1_1 l1_1.length c1_1, .slice A1_2 l1_2.length c1_2, .slice A1_3 l1_3.length c1_3] 71 (0, 0)) (by (with_reducible repeat (first | refine blk_drewN ?_ _ | refine blk_drew ?_ | refine blk_alloc ?_ _)); exact BK166.out) hb); have n2_ := Aside0.mk (below_step (by repeat (first | (with_reducible first | exact HB.out | apply below_alloc | apply pw_below_drewN | apply below_drew1 | refine below_set ?_ GE165.out | refine below_set ?_ GE166.out) | exact HB.out)) hb); have n3_ := Aside0.mk (hbox); have n4_ := Aside0.mk ((by rw [hg]; exact (below_size (by repeat (first | (with_reducible first | exact HB.out | apply below_alloc | apply pw_below_drewN | apply below_drew1 | refine below_set ?_ GE165.out | refine below_set ?_ GE166.out) | exact HB.out))) : w.heap.size ≤ gb167)); have n5_ := Aside0.mk ((by rw [hg]; exact (below_size (by repeat (first | (with_reducible first | exact HB.out | apply below_alloc | apply pw_below_drewN | apply below_drew1 | refine below_set ?_ GE165.out | refine below_set ?_ GE166.out) | exact HB.out))) : w.heap.size ≤ gb167)); have n6_ := Aside0.mk ((by rw [hg]; exact Nat.ne_of_lt (blk_lt (g := gb165) (o := .cells #[.int .i64 a0_0, .int .i64 a0_1] 50 (0, 0)) (by (with_reducible repeat (first | refine blk_drewN ?_ _ | refine blk_drew ?_ | refine blk_alloc ?_ _)); exact BK165.out)) : gb165 ≠ gb167)); have n7_ := Aside0.mk ((by rw [hg]; exact Nat.ne_of_gt (blk_lt (g := gb165) (o := .cells #[.int .i64 a0_0, .int .i64 a0_1] 50 (0, 0)) (by (with_reducible repeat (first | refine blk_drewN ?_ _ | refine blk_drew ?_ | refine blk_alloc ?_ _)); exact BK165.out)) : gb167 ≠ gb165)); have n8_ := Aside0.mk ((by rw [hg]; exact Nat.ne_of_lt (blk_lt (g := gb166) (o := .cells #[.slice A1_0 l1_0.length c1_0, .slice A1_1 l1_1.length c1_1, .slice A1_2 l1_2.length c1_2, .slice A1_3 l1_3.length c1_3] 71 (0, 0)) (by (with_reducible repeat (first | refine blk_drewN ?_ _ | refine blk_drew ?_ | refine blk_alloc ?_ _)); exact BK166.out)) : gb166 ≠ gb167)); have n9_ := Aside0.mk ((by rw [hg]; exact Nat.ne_of_gt (blk_lt (g := gb166) (o := .cells #[.slice A1_0 l1_0.length c1_0, .slice A1_1 l1_1.length c1_1, .slice A1_2 l1_2.length c1_2, .slice A1_3 l1_3.length c1_3] 71 (0, 0)) (by (with_reducible repeat (first | refine blk_drewN ?_ _ | refine blk_drew ?_ | refine blk_alloc ?_ _)); exact BK166.out)) : gb167 ≠ gb166)); clear BK165; clear BK166; clear HB; have BK165 := n0_; have BK166 := n1_; have HB := n2_; have BK167 := n3_; have GW167 := n4_; have GE167 := n5_; have NB165_167 := n6_; have NB167_165 := n7_; have NB166_167 := n8_; have NB167_166 := n9_; clear n0_ n1_ n2_ n3_ n4_ n5_ n6_ n7_ n8_ n9_; clear hb hbox hg))
  have n0_ := Aside0.mk (blk_drew BK165.out)
  have n1_ := Aside0.mk (blk_drew BK166.out)
  have n2_ := Aside0.mk (blk_drew BK167.out)
  have n3_ := Aside0.mk (below_drew1 HB.out)
  clear BK165
  clear BK166
  clear BK167
  clear HB
  have BK165 := n0_
  have BK166 := n1_
  have BK167 := n2_
  have HB := n3_
  clear n0_ n1_ n2_ n3_
  refine start_ (n := 11) (S := fun w' => w'.cell? ⟨gb165, 0, none⟩ = some (.int .i64 a0_0) ∧ w'.cell? ⟨gb165, 1, none⟩ = some (.int .i64 a0_1) ∧ w'.cell? ⟨gb166, 0, none⟩ = some (.slice A1_0 l1_0.length c1_0) ∧ w'.cell? ⟨gb166, 1, none⟩ = some (.slice A1_1 l1_1.length c1_1) ∧ w'.cell? ⟨gb166, 2, none⟩ = some (.slice A1_2 l1_2.length c1_2) ∧ w'.cell? ⟨gb166, 3, none⟩ = some (.slice A1_3 l1_3.length c1_3)) (ds := []) #[false, false, false, false, false, false, false, false, false, false, false] (by kernel_rfl) rfl rfl ⟨(blk_cell BK165.out 0).trans rfl, (blk_cell BK165.out 1).trans rfl, (blk_cell BK166.out 0).trans rfl, (blk_cell BK166.out 1).trans rfl, (blk_cell BK166.out 2).trans rfl, (blk_cell BK166.out 3).trans rfl⟩ (fun hHeld => ?_); refine with_tabW spec_CronCivil.tab1 spec_CronCivil.bits1 (fun HT_ HW_ => ?_)
  generalize w7.drew = w8 at BK165 BK166 BK167 HB hHeld ⊢
  refine pure_ (i := 0) (N := some 5) (v := ?_) (a' := ?_) #[true, false, false, false, false, false, false, false, false, false, false] rfl rfl (any_of HT_.out (by kernel_rfl)) (fun _ _ _ h => h) (Or.inl ⟨by rfl, ?_⟩) ?_ ?_
  rotate_left
  · intro w'
    go_simp
    with_reducible rfl
  rotate_left
  · simp only [Act.put, List.setIfInBounds_toArray, List.set_cons_zero, List.set_cons_succ, i64_w, i32_w]
    rfl
  refine pure_ (i := 3) (N := some 8) (v := ?_) (a' := ?_) #[true, false, false, true, false, false, false, false, false, false, false] rfl rfl (any_of HT_.out (by kernel_rfl)) (fun _ _ _ h => h) (Or.inl ⟨by rfl, ?_⟩) ?_ ?_
  rotate_left
  · intro w'
    go_simp
    with_reducible rfl
  rotate_left
  · simp only [Act.put, List.setIfInBounds_toArray, List.set_cons_zero, List.set_cons_succ, i64_w, i32_w]
    rfl
  refine pure_ (i := 7) (N := some 12) (v := ?_) (a' := ?_) #[true, false, false, true, false, false, false, true, false, false, false] rfl rfl (any_of HT_.out (by kernel_rfl)) (fun _ _ _ h => h) (Or.inl ⟨by rfl, ?_⟩) ?_ ?_
  rotate_left
  · intro w'
    go_simp
    with_reducible rfl
  rotate_left
  · simp only [Act.put, List.setIfInBounds_toArray, List.set_cons_zero, List.set_cons_succ, i64_w, i32_w]
    rfl
  refine take_ (i := 1) (N := some 6) (v := ?_) (a' := ?_) #[true, true, false, true, false, false, false, true, false, false, false] rfl rfl (take_ofW HT_.out HW_.out (by kernel_rfl)) (fun _ _ _ h => h) (Or.inl ⟨by rfl, ?_⟩) hHeld ?_ ?_
  rotate_left
  · rintro w' ⟨s0, s1, s2, s3, s4, s5⟩
    go_simp
    with_reducible rfl
  rotate_left
  · simp only [Act.put, List.setIfInBounds_toArray, List.set_cons_zero, List.set_cons_succ, i64_w, i32_w]
    rfl
  refine take_ (i := 2) (N := some 7) (v := ?_) (a' := ?_) #[true, true, true, true, false, false, false, true, false, false, false] rfl rfl (take_ofW HT_.out HW_.out (by kernel_rfl)) (fun _ _ _ h => h) (Or.inl ⟨by rfl, ?_⟩) hHeld ?_ ?_
  rotate_left
  · rintro w' ⟨s0, s1, s2, s3, s4, s5⟩
    go_simp
    with_reducible rfl
  rotate_left
  · simp only [Act.put, List.setIfInBounds_toArray, List.set_cons_zero, List.set_cons_succ, i64_w, i32_w]
    rfl
  refine take_ (i := 4) (N := some 9) (v := ?_) (a' := ?_) #[true, true, true, true, true, false, false, true, false, false, false] rfl rfl (take_ofW HT_.out HW_.out (by kernel_rfl)) (fun _ _ _ h => h) (Or.inl ⟨by rfl, ?_⟩) hHeld ?_ ?_
  rotate_left
  · rintro w' ⟨s0, s1, s2, s3, s4, s5⟩
    go_simp
    with_reducible rfl
  rotate_left
  · simp only [Act.put, List.setIfInBounds_toArray, List.set_cons_zero, List.set_cons_succ, i64_w, i32_w]
    rfl
  refine take_ (i := 8) (N := some 13) (v := ?_) (a' := ?_) #[true, true, true, true, true, false, false, true, true, false, false] rfl rfl (take_ofW HT_.out HW_.out (by kernel_rfl)) (fun _ _ _ h => h) (Or.inl ⟨by rfl, ?_⟩) hHeld ?_ ?_
  rotate_left
  · rintro w' ⟨s0, s1, s2, s3, s4, s5⟩
    go_simp
    with_reducible rfl
  rotate_left
  · simp only [Act.put, List.setIfInBounds_toArray, List.set_cons_zero, List.set_cons_succ, i64_w, i32_w]
    rfl
  refine one_ (i := 5) (N := some 10) #[true, true, true, true, true, true, false, true, true, false, false] rfl rfl (one_of HT_.out (by kernel_rfl)) (by decide) (fun K hK => ?_)
  refine goes_ Tryz.func72 (by kernel_rfl) rfl #[.agg #[.slice A1_0 l1_0.length c1_0, .slice A1_1 l1_1.length c1_1, .slice A1_2 l1_2.length c1_2, .slice A1_3 l1_3.length c1_3], .int .i64 a0_0] (by rfl) rfl rfl (by (try simp only [List.map_toArray, List.map_cons, List.map_nil]); first | done | rfl | (simp only [List.length_drop, List.length_take]; rfl)) ?_
  with_reducible refine (spec_CronOffset.calls k _ _ l1_0 _ _ l1_1 _ _ l1_2 _ _ l1_3 a0_0 t168 _ ?side1 ?side2 ?side3 ?side4 ?side5 ?side6 ?side7 ?side8 A3.out).mono ?_
  (case side1 => repeat (first | exact (Kd.C_below HR1_0.out HB.out) | (with_reducible refine Kd.C_alloc ?_ _) | (with_reducible refine Kd.C_drewN ?_ _) | (with_reducible refine Kd.C_drew ?_)))
  (case side2 => exact HC1_0.out)
  (case side3 => repeat (first | exact (Kd.C_below HR1_1.out HB.out) | (with_reducible refine Kd.C_alloc ?_ _) | (with_reducible refine Kd.C_drewN ?_ _) | (with_reducible refine Kd.C_drew ?_)))
  (case side4 => exact HC1_1.out)
  (case side5 => repeat (first | exact (Kd.C_below HR1_2.out HB.out) | (with_reducible refine Kd.C_alloc ?_ _) | (with_reducible refine Kd.C_drewN ?_ _) | (with_reducible refine Kd.C_drew ?_)))
  (case side6 => exact HC1_2.out)
  (case side7 => repeat (first | exact (Kd.C_below HR1_3.out HB.out) | (with_reducible refine Kd.C_alloc ?_ _) | (with_reducible refine Kd.C_drewN ?_ _) | (with_reducible refine Kd.C_drew ?_)))
  (case side8 => exact HC1_3.out)
  rintro e w9 ⟨rfl, hb⟩
  refine ⟨_, rfl, ?_⟩
  have n0_ := Aside0.mk (blk_below (g := gb165) (o := .cells #[.int .i64 a0_0, .int .i64 a0_1] 50 (0, 0)) (by (with_reducible repeat (first | refine blk_drewN ?_ _ | refine blk_drew ?_ | refine blk_alloc ?_ _)); exact BK165.out) hb)
  have n1_ := Aside0.mk (blk_below (g := gb166) (o := .cells #[.slice A1_0 l1_0.length c1_0, .slice A1_1 l1_1.length c1_1, .slice A1_2 l1_2.length c1_2, .slice A1_3 l1_3.length c1_3] 71 (0, 0)) (by (with_reducible repeat (first | refine blk_drewN ?_ _ | refine blk_drew ?_ | refine blk_alloc ?_ _)); exact BK166.out) hb)
  have n2_ := Aside0.mk (blk_below (g := gb167) (o := .cells #[.int .i64 0, .int .i64 0, .int .i64 0, .int .i64 0, .int .i64 0, .int .i64 0, .int .i64 0, .int .i64 0] 78 (0, 0)) (by (with_reducible repeat (first | refine blk_drewN ?_ _ | refine blk_drew ?_ | refine blk_alloc ?_ _)); exact BK167.out) hb)
  have n3_ := Aside0.mk (below_step (by repeat (first | (with_reducible first | exact HB.out | apply below_alloc | apply pw_below_drewN | apply below_drew1 | refine below_set ?_ GE165.out | refine below_set ?_ GE166.out | refine below_set ?_ GE167.out) | exact HB.out)) hb)
  clear BK165
  clear BK166
  clear BK167
  clear HB
  have BK165 := n0_
  have BK166 := n1_
  have BK167 := n2_
  have HB := n3_
  clear n0_ n1_ n2_ n3_
  (try clear hb)
  (try clear hb2)
  (try clear hk)
  (try clear hi)
  refine hK.out _ _ ⟨(blk_cell BK165.out 0).trans rfl, (blk_cell BK165.out 1).trans rfl, (blk_cell BK166.out 0).trans rfl, (blk_cell BK166.out 1).trans rfl, (blk_cell BK166.out 2).trans rfl, (blk_cell BK166.out 3).trans rfl⟩ (fun hHeld => ?_)
  clear hK K
  refine norm_ (a' := ?_) ?_ ?_
  rotate_left
  · show Act.put _ (some 10) _ = _
    simp only [Act.put, List.setIfInBounds_toArray, List.set_cons_zero, List.set_cons_succ, i64_w, i32_w]
    rfl
  refine pure_ (i := 6) (N := some 11) (v := ?_) (a' := ?_) #[true, true, true, true, true, true, true, true, true, false, false] rfl rfl (any_of HT_.out (by kernel_rfl)) (fun _ _ _ h => h) (Or.inl ⟨by rfl, ?_⟩) ?_ ?_
  rotate_left
  · intro w'
    go_simp
    with_reducible rfl
  rotate_left
  · simp only [Act.put, List.setIfInBounds_toArray, List.set_cons_zero, List.set_cons_succ, i64_w, i32_w]
    rfl
  refine one_ (i := 9) (N := some 14) #[true, true, true, true, true, true, true, true, true, true, false] rfl rfl (one_of HT_.out (by kernel_rfl)) (by decide) (fun K hK => ?_)
  refine goes_ Tryz.func71 (by kernel_rfl) rfl #[.int .i64 (wrap64 (a0_0 + t168)), .int .i64 a0_1] (by rfl) rfl rfl (by (try simp only [List.map_toArray, List.map_cons, List.map_nil]); first | done | rfl | (simp only [List.length_drop, List.length_take]; rfl)) ?_
  with_reducible refine (spec_CronClock.calls k (wrap64 (a0_0 + t168)) a0_1 t169 t170 t171 t172 t173 t174 t175 t176 _ A4.out).mono ?_
  rintro e w10 ⟨rfl, hb⟩
  refine ⟨_, rfl, ?_⟩
  have n0_ := Aside0.mk (blk_below (g := gb165) (o := .cells #[.int .i64 a0_0, .int .i64 a0_1] 50 (0, 0)) (by (with_reducible repeat (first | refine blk_drewN ?_ _ | refine blk_drew ?_ | refine blk_alloc ?_ _)); exact BK165.out) hb)
  have n1_ := Aside0.mk (blk_below (g := gb166) (o := .cells #[.slice A1_0 l1_0.length c1_0, .slice A1_1 l1_1.length c1_1, .slice A1_2 l1_2.length c1_2, .slice A1_3 l1_3.length c1_3] 71 (0, 0)) (by (with_reducible repeat (first | refine blk_drewN ?_ _ | refine blk_drew ?_ | refine blk_alloc ?_ _)); exact BK166.out) hb)
  have n2_ := Aside0.mk (blk_below (g := gb167) (o := .cells #[.int .i64 0, .int .i64 0, .int .i64 0, .int .i64 0, .int .i64 0, .int .i64 0, .int .i64 0, .int .i64 0] 78 (0, 0)) (by (with_reducible repeat (first | refine blk_drewN ?_ _ | refine blk_drew ?_ | refine blk_alloc ?_ _)); exact BK167.out) hb)
  have n3_ := Aside0.mk (below_step (by repeat (first | (with_reducible first | exact HB.out | apply below_alloc | apply pw_below_drewN | apply below_drew1 | refine below_set ?_ GE165.out | refine below_set ?_ GE166.out | refine below_set ?_ GE167.out) | exact HB.out)) hb)
  clear BK165
  clear BK166
  clear BK167
  clear HB
  have BK165 := n0_
  have BK166 := n1_
  have BK167 := n2_
  have HB := n3_
  clear n0_ n1_ n2_ n3_
  (try clear hb)
  (try clear hb2)
  (try clear hk)
  (try clear hi)
  refine hK.out _ _ ⟨(blk_cell BK165.out 0).trans rfl, (blk_cell BK165.out 1).trans rfl, (blk_cell BK166.out 0).trans rfl, (blk_cell BK166.out 1).trans rfl, (blk_cell BK166.out 2).trans rfl, (blk_cell BK166.out 3).trans rfl⟩ (fun hHeld => ?_)
  clear hK K
  refine norm_ (a' := ?_) ?_ ?_
  rotate_left
  · show Act.put _ (some 14) _ = _
    simp only [Act.put, List.setIfInBounds_toArray, List.set_cons_zero, List.set_cons_succ, i64_w, i32_w]
    rfl
  refine one_ (i := 10) (N := none) #[true, true, true, true, true, true, true, true, true, true, true] rfl rfl (one_of HT_.out (by kernel_rfl)) (by decide) (fun K hK => ?_)
  have hs11 : w10.cell? ⟨gb167, 0, none⟩ = some (.int .i64 0) := (blk_cell BK167.out 0).trans rfl
  have hfs11 := blk_frozen BK167.out 0
  have hns11_0 := NB165_167.out
  have hns11_1 := NB166_167.out
  have hms11_0 := NB167_165.out
  have hms11_1 := NB167_166.out
  have hs12 : w10.cell? ⟨gb167, 1, none⟩ = some (.int .i64 0) := (blk_cell BK167.out 1).trans rfl
  have hfs12 := blk_frozen BK167.out 1
  have hns12_0 := NB165_167.out
  have hns12_1 := NB166_167.out
  have hms12_0 := NB167_165.out
  have hms12_1 := NB167_166.out
  have hs13 : w10.cell? ⟨gb167, 2, none⟩ = some (.int .i64 0) := (blk_cell BK167.out 2).trans rfl
  have hfs13 := blk_frozen BK167.out 2
  have hns13_0 := NB165_167.out
  have hns13_1 := NB166_167.out
  have hms13_0 := NB167_165.out
  have hms13_1 := NB167_166.out
  have hs14 : w10.cell? ⟨gb167, 3, none⟩ = some (.int .i64 0) := (blk_cell BK167.out 3).trans rfl
  have hfs14 := blk_frozen BK167.out 3
  have hns14_0 := NB165_167.out
  have hns14_1 := NB166_167.out
  have hms14_0 := NB167_165.out
  have hms14_1 := NB167_166.out
  have hs15 : w10.cell? ⟨gb167, 4, none⟩ = some (.int .i64 0) := (blk_cell BK167.out 4).trans rfl
  have hfs15 := blk_frozen BK167.out 4
  have hns15_0 := NB165_167.out
  have hns15_1 := NB166_167.out
  have hms15_0 := NB167_165.out
  have hms15_1 := NB167_166.out
  have hs16 : w10.cell? ⟨gb167, 5, none⟩ = some (.int .i64 0) := (blk_cell BK167.out 5).trans rfl
  have hfs16 := blk_frozen BK167.out 5
  have hns16_0 := NB165_167.out
  have hns16_1 := NB166_167.out
  have hms16_0 := NB167_165.out
  have hms16_1 := NB167_166.out
  have hs17 : w10.cell? ⟨gb167, 6, none⟩ = some (.int .i64 0) := (blk_cell BK167.out 6).trans rfl
  have hfs17 := blk_frozen BK167.out 6
  have hns17_0 := NB165_167.out
  have hns17_1 := NB166_167.out
  have hms17_0 := NB167_165.out
  have hms17_1 := NB167_166.out
  have hs18 : w10.cell? ⟨gb167, 7, none⟩ = some (.int .i64 0) := (blk_cell BK167.out 7).trans rfl
  have hfs18 := blk_frozen BK167.out 7
  have hns18_0 := NB165_167.out
  have hns18_1 := NB166_167.out
  have hms18_0 := NB167_165.out
  have hms18_1 := NB167_166.out
  refine skip_ (w1 := ?_) (by rfl) rfl ?_ ?_
  rotate_left
  · go_simp
    rfl
  refine hK.out _ _ ⟨((cell_far (p := ⟨gb167, _, none⟩) NB165_167.out _).trans (((cell_far (p := ⟨gb167, _, none⟩) NB165_167.out _).trans (((cell_far (p := ⟨gb167, _, none⟩) NB165_167.out _).trans (((cell_far (p := ⟨gb167, _, none⟩) NB165_167.out _).trans (((cell_far (p := ⟨gb167, _, none⟩) NB165_167.out _).trans (((cell_far (p := ⟨gb167, _, none⟩) NB165_167.out _).trans (((cell_far (p := ⟨gb167, _, none⟩) NB165_167.out _).trans (((cell_far (p := ⟨gb167, _, none⟩) NB165_167.out _).trans (hHeld.1)))))))))))))))), ((cell_far (p := ⟨gb167, _, none⟩) NB165_167.out _).trans (((cell_far (p := ⟨gb167, _, none⟩) NB165_167.out _).trans (((cell_far (p := ⟨gb167, _, none⟩) NB165_167.out _).trans (((cell_far (p := ⟨gb167, _, none⟩) NB165_167.out _).trans (((cell_far (p := ⟨gb167, _, none⟩) NB165_167.out _).trans (((cell_far (p := ⟨gb167, _, none⟩) NB165_167.out _).trans (((cell_far (p := ⟨gb167, _, none⟩) NB165_167.out _).trans (((cell_far (p := ⟨gb167, _, none⟩) NB165_167.out _).trans (hHeld.2.1)))))))))))))))), ((cell_far (p := ⟨gb167, _, none⟩) NB166_167.out _).trans (((cell_far (p := ⟨gb167, _, none⟩) NB166_167.out _).trans (((cell_far (p := ⟨gb167, _, none⟩) NB166_167.out _).trans (((cell_far (p := ⟨gb167, _, none⟩) NB166_167.out _).trans (((cell_far (p := ⟨gb167, _, none⟩) NB166_167.out _).trans (((cell_far (p := ⟨gb167, _, none⟩) NB166_167.out _).trans (((cell_far (p := ⟨gb167, _, none⟩) NB166_167.out _).trans (((cell_far (p := ⟨gb167, _, none⟩) NB166_167.out _).trans (hHeld.2.2.1)))))))))))))))), ((cell_far (p := ⟨gb167, _, none⟩) NB166_167.out _).trans (((cell_far (p := ⟨gb167, _, none⟩) NB166_167.out _).trans (((cell_far (p := ⟨gb167, _, none⟩) NB166_167.out _).trans (((cell_far (p := ⟨gb167, _, none⟩) NB166_167.out _).trans (((cell_far (p := ⟨gb167, _, none⟩) NB166_167.out _).trans (((cell_far (p := ⟨gb167, _, none⟩) NB166_167.out _).trans (((cell_far (p := ⟨gb167, _, none⟩) NB166_167.out _).trans (((cell_far (p := ⟨gb167, _, none⟩) NB166_167.out _).trans (hHeld.2.2.2.1)))))))))))))))), ((cell_far (p := ⟨gb167, _, none⟩) NB166_167.out _).trans (((cell_far (p := ⟨gb167, _, none⟩) NB166_167.out _).trans (((cell_far (p := ⟨gb167, _, none⟩) NB166_167.out _).trans (((cell_far (p := ⟨gb167, _, none⟩) NB166_167.out _).trans (((cell_far (p := ⟨gb167, _, none⟩) NB166_167.out _).trans (((cell_far (p := ⟨gb167, _, none⟩) NB166_167.out _).trans (((cell_far (p := ⟨gb167, _, none⟩) NB166_167.out _).trans (((cell_far (p := ⟨gb167, _, none⟩) NB166_167.out _).trans (hHeld.2.2.2.2.1)))))))))))))))), ((cell_far (p := ⟨gb167, _, none⟩) NB166_167.out _).trans (((cell_far (p := ⟨gb167, _, none⟩) NB166_167.out _).trans (((cell_far (p := ⟨gb167, _, none⟩) NB166_167.out _).trans (((cell_far (p := ⟨gb167, _, none⟩) NB166_167.out _).trans (((cell_far (p := ⟨gb167, _, none⟩) NB166_167.out _).trans (((cell_far (p := ⟨gb167, _, none⟩) NB166_167.out _).trans (((cell_far (p := ⟨gb167, _, none⟩) NB166_167.out _).trans (((cell_far (p := ⟨gb167, _, none⟩) NB166_167.out _).trans (hHeld.2.2.2.2.2))))))))))))))))⟩ (fun hHeld => ?_)
  clear hK K
  refine done_ (done_of HT_.out (by kernel_rfl)) ?_
  try go_wp2
  refine bodyPost_ret (results_cell_row rfl _ _ gb167 78 #[.int .i64 t169, .int .i64 t170, .int .i64 t171, .int .i64 t172, .int .i64 t173, .int .i64 t174, .int .i64 t175, .int .i64 t176] (0, 0) _ rfl (by (with_reducible repeat (first | refine blk_drewN ?_ _ | refine blk_drew ?_ | refine blk_alloc ?_ _)); refine blk_put (cs := #[.int .i64 t169, .int .i64 t170, .int .i64 t171, .int .i64 t172, .int .i64 t173, .int .i64 t174, .int .i64 t175, .int .i64 0]) ?_ 7 _ rfl; (with_reducible repeat (first | refine blk_drewN ?_ _ | refine blk_drew ?_ | refine blk_alloc ?_ _)); refine blk_put (cs := #[.int .i64 t169, .int .i64 t170, .int .i64 t171, .int .i64 t172, .int .i64 t173, .int .i64 t174, .int .i64 0, .int .i64 0]) ?_ 6 _ rfl; (with_reducible repeat (first | refine blk_drewN ?_ _ | refine blk_drew ?_ | refine blk_alloc ?_ _)); refine blk_put (cs := #[.int .i64 t169, .int .i64 t170, .int .i64 t171, .int .i64 t172, .int .i64 t173, .int .i64 0, .int .i64 0, .int .i64 0]) ?_ 5 _ rfl; (with_reducible repeat (first | refine blk_drewN ?_ _ | refine blk_drew ?_ | refine blk_alloc ?_ _)); refine blk_put (cs := #[.int .i64 t169, .int .i64 t170, .int .i64 t171, .int .i64 t172, .int .i64 0, .int .i64 0, .int .i64 0, .int .i64 0]) ?_ 4 _ rfl; (with_reducible repeat (first | refine blk_drewN ?_ _ | refine blk_drew ?_ | refine blk_alloc ?_ _)); refine blk_put (cs := #[.int .i64 t169, .int .i64 t170, .int .i64 t171, .int .i64 0, .int .i64 0, .int .i64 0, .int .i64 0, .int .i64 0]) ?_ 3 _ rfl; (with_reducible repeat (first | refine blk_drewN ?_ _ | refine blk_drew ?_ | refine blk_alloc ?_ _)); refine blk_put (cs := #[.int .i64 t169, .int .i64 t170, .int .i64 0, .int .i64 0, .int .i64 0, .int .i64 0, .int .i64 0, .int .i64 0]) ?_ 2 _ rfl; (with_reducible repeat (first | refine blk_drewN ?_ _ | refine blk_drew ?_ | refine blk_alloc ?_ _)); refine blk_put (cs := #[.int .i64 t169, .int .i64 0, .int .i64 0, .int .i64 0, .int .i64 0, .int .i64 0, .int .i64 0, .int .i64 0]) ?_ 1 _ rfl; (with_reducible repeat (first | refine blk_drewN ?_ _ | refine blk_drew ?_ | refine blk_alloc ?_ _)); refine blk_put (cs := #[.int .i64 0, .int .i64 0, .int .i64 0, .int .i64 0, .int .i64 0, .int .i64 0, .int .i64 0, .int .i64 0]) ?_ 0 _ rfl; (with_reducible repeat (first | refine blk_drewN ?_ _ | refine blk_drew ?_ | refine blk_alloc ?_ _)); exact BK167.out) Tryz.underlying78 rfl (by kernel_rfl)) rfl ?_
  exact ⟨by first | rfl | (simp [errW_none, errW_some] <;> rfl) | (simp [*, errW_none, errW_some] <;> rfl), by repeat (first | (with_reducible first | exact HB.out | apply below_alloc | apply pw_below_drewN | apply below_drew1 | refine below_set ?_ GE165.out | refine below_set ?_ GE166.out | refine below_set ?_ GE167.out) | exact HB.out)⟩
end Go.Proofs.YtmecbmgfacpecaaGreatDoor.Pr

namespace Go.Proofs.YtmecbmgfacpecaaGreatDoor.Pr
open Go.RowKit Go.Proofs.YtmecbmgfacpecaaGreatDoorW.PrintWords Go.Proofs.YtmecbmgfacpecaaGreatDoorW.PrintLast
set_option linter.unusedVariables false
set_option linter.unusedSimpArgs false
/-! ### spec_CronDay: function 73 -/
def spec_CronDay.l0 : Nat → Int → Int → Int → Int → Int → Option (Int)
  | 0, _, _, _, _, _ => none
  | k + 1, x3, x4, x179000, x179001, x179002 => if x4 < x179001 then ((spec_CronMonthDays.f x179000 x4).bind fun t180 => (spec_CronDay.l0 k (wrap64 (x3 + t180)) (wrap64 (x4 + 1)) x179000 x179001 x179002)) else (some (wrap64 ((wrap64 (x3 + x179002)) - 1)))
def spec_CronDay.f (k : Nat) (a0_0 : Int) (a0_1 : Int) (a0_2 : Int) : Option (Int) := (spec_CronYearStart.f a0_0).bind fun t179 => (spec_CronDay.l0 k t179 1 a0_0 a0_1 a0_2)
theorem spec_CronDay.mono_l : ∀ k, (∀ y0 y1 y2 y3 y4, LeO (spec_CronDay.l0 k y0 y1 y2 y3 y4) (spec_CronDay.l0 (k + 1) y0 y1 y2 y3 y4))
  | 0 => fun _ _ _ _ _ r h => by simp [spec_CronDay.l0] at h
  | k + 1 => by
    have ih0 := spec_CronDay.mono_l k
    · intro y0 y1 y2 y3 y4
      unfold spec_CronDay.l0
      repeat' first
      | (with_reducible exact ih0 _ _ _ _ _)
      | (with_reducible exact LeO.refl _)
      | (with_reducible exact LeO.none _)
      | (with_reducible refine LeO.ite ?_ ?_)
      | (with_reducible refine LeO.bind ?_ (fun _ => ?_))
      | exact ih0 _ _ _ _ _
      | exact LeO.none _
      | refine LeO.ite ?_ ?_
      | refine LeO.bind ?_ (fun _ => ?_)
theorem spec_CronDay.mono : ∀ a0 a1 a2 k, LeO (spec_CronDay.f k a0 a1 a2) (spec_CronDay.f (k + 1) a0 a1 a2) := by
  intro a0 a1 a2 k
  have ih0 := spec_CronDay.mono_l k
  unfold spec_CronDay.f
  repeat' first
      | (with_reducible exact ih0 _ _ _ _ _)
      | (with_reducible exact LeO.refl _)
      | (with_reducible exact LeO.none _)
      | (with_reducible refine LeO.ite ?_ ?_)
      | (with_reducible refine LeO.bind ?_ (fun _ => ?_))
      | exact ih0 _ _ _ _ _
      | exact LeO.none _
      | refine LeO.ite ?_ ?_
      | refine LeO.bind ?_ (fun _ => ?_)
set_option maxHeartbeats 8000000 in
set_option maxRecDepth 100000 in
theorem spec_CronDay.calls (k : Nat) (a0_0 : Int) (a0_1 : Int) (a0_2 : Int) (r : Int) (w : World) (h : spec_CronDay.f k a0_0 a0_1 a0_2 = some r) :
    Calls Tryz.prog 73 #[.agg #[.int .i64 a0_0, .int .i64 a0_1, .int .i64 a0_2]] w fun e w' => e = .returned (.int .i64 r) ∧ Below w.heap.size w w' := by
  have hu83 := Tryz.underlying83
  have HB := Aside0.mk (Below.refl w.heap.size w)
  have H : ((spec_CronYearStart.f a0_0).bind fun t179 => (spec_CronDay.l0 k t179 1 a0_0 a0_1 a0_2)) = some r := h
  clear h
  replace H := Option.bind_eq_some_iff.mp H
  obtain ⟨t179, A20, H⟩ := H
  replace H : (spec_CronDay.l0 k t179 1 a0_0 a0_1 a0_2) = some r := H
  have A2 := Aside0.mk A20
  clear A20
  have H' := Aside0.mk H
  clear H
  go_enter Tryz.func73, Tryz.ntmps73
  go_wp2_with (first | ((with_reducible refine gate_dst (N := 1) rfl ?_); refine box_event ?hg (N := 1) ?hd (cs := #[.int .i64 a0_0, .int .i64 a0_1, .int .i64 a0_2]) (t := 83) ?hr ?_; (case hd => rfl); (case hg => rfl); (case hr => first | (go_simp; done) | (go_simp; rfl)); intro gb178 hg w3 hbox hb; have n0_ := Aside0.mk (below_step (by repeat (first | (with_reducible first | exact HB.out | apply below_alloc | apply pw_below_drewN | apply below_drew1) | exact HB.out)) hb); have n1_ := Aside0.mk (hbox); have n2_ := Aside0.mk ((by rw [hg]; exact (below_size (by repeat (first | (with_reducible first | exact HB.out | apply below_alloc | apply pw_below_drewN | apply below_drew1) | exact HB.out))) : w.heap.size ≤ gb178)); have n3_ := Aside0.mk ((by rw [hg]; exact (below_size (by repeat (first | (with_reducible first | exact HB.out | apply below_alloc | apply pw_below_drewN | apply below_drew1) | exact HB.out))) : w.heap.size ≤ gb178)); clear HB; have HB := n0_; have BK178 := n1_; have GW178 := n2_; have GE178 := n3_; clear n0_ n1_ n2_ n3_; clear hb hbox hg; have hcz4_0 : w3.cell? ⟨gb178, 0, none⟩ = some (.int .i64 a0_0) := (blk_cell BK178.out 0).trans rfl; have hcz4_1 : w3.cell? ⟨gb178, 1, none⟩ = some (.int .i64 a0_1) := (blk_cell BK178.out 1).trans rfl; have hcz4_2 : w3.cell? ⟨gb178, 2, none⟩ = some (.int .i64 a0_2) := (blk_cell BK178.out 2).trans rfl; have hfz4_0 := blk_frozen BK178.out 0; have hfz4_1 := blk_frozen BK178.out 1; have hfz4_2 := blk_frozen BK178.out 2) | ((with_reducible refine gate_callee (f := 130) rfl ?_); refine goesL_ (some 7) rfl rfl Tryz.func130 (by kernel_rfl) rfl #[.int .i64 a0_0] rfl (by (try simp only [List.map_toArray, List.map_cons, List.map_nil]); first | done | rfl | (simp only [List.length_drop, List.length_take]; rfl)) ?_; (with_reducible refine (spec_CronYearStart.calls a0_0 t179 _ A2.out).mono ?_); rintro e w' ⟨rfl, ⟨nd, rfl⟩⟩; refine ⟨_, rfl, ?_⟩))
  go_loopg [3, 4] k (fun kq v3 v4 w' => ∃ (x3_1 : Int) (x4_1 : Int), v3 = .int .i64 x3_1 ∧ v4 = .int .i64 x4_1 ∧ Aside0 (spec_CronDay.l0 kq x3_1 x4_1 a0_0 a0_1 a0_2 = some r) ∧ Aside0 (kq ≤ k) ∧ Aside0 (w'.heap[gb178]? = some (.cells #[.int .i64 a0_0, .int .i64 a0_1, .int .i64 a0_2] 83 (0, 0))) ∧ Aside0 (Below w.heap.size w w'))
  case atStart => exact ⟨(t179), (1), (by first | rfl | (simp; done) | (simp [*]; done)), (by first | rfl | (simp; done) | (simp [*]; done)), H', ⟨Nat.le_refl _⟩, ⟨by (with_reducible repeat (first | refine blk_drewN ?_ _ | refine blk_drew ?_ | refine blk_alloc ?_ _)); exact BK178.out⟩, ⟨by repeat (first | (with_reducible first | exact HB.out | apply below_alloc | apply pw_below_drewN | apply below_drew1 | refine below_set ?_ GE178.out) | exact HB.out)⟩⟩
  case round =>
    clear H'
    try clear c1
    try clear p2
    try clear hcz4_0
    try clear hcz4_1
    try clear hcz4_2
    try clear hfz4_0
    try clear hfz4_1
    try clear hfz4_2
    obtain ⟨x3_1, x4_1, rfl, rfl, HA, HK1, BK178, HB⟩ := hrel
    cases gk with
    | zero => exact absurd HA.out (by simp [spec_CronDay.l0])
    | succ k1 =>
      have H := HA.out
      clear HA
      simp only [spec_CronDay.l0] at H
      by_cases c5 : x4_1 < a0_1
      · rw [if_pos c5] at H
        have c5b0 : decide (x4_1 < a0_1) = true := decide_eq_true c5
        clear c5
        replace H := Option.bind_eq_some_iff.mp H
        obtain ⟨t180, A60, H⟩ := H
        replace H : (spec_CronDay.l0 k1 (wrap64 (x3_1 + t180)) (wrap64 (x4_1 + 1)) a0_0 a0_1 a0_2) = some r := H
        have A6 := Aside0.mk A60
        clear A60
        have H' := Aside0.mk H
        clear H
        have hcz7_0 : wr.cell? ⟨gb178, 0, none⟩ = some (.int .i64 a0_0) := (blk_cell BK178.out 0).trans rfl
        have hcz7_1 : wr.cell? ⟨gb178, 1, none⟩ = some (.int .i64 a0_1) := (blk_cell BK178.out 1).trans rfl
        have hcz7_2 : wr.cell? ⟨gb178, 2, none⟩ = some (.int .i64 a0_2) := (blk_cell BK178.out 2).trans rfl
        have hfz7_0 := blk_frozen BK178.out 0
        have hfz7_1 := blk_frozen BK178.out 1
        have hfz7_2 := blk_frozen BK178.out 2
        go_wp2_with (first | ((with_reducible refine gate_callee (f := 35) rfl ?_); refine goesL_ (some 18) rfl rfl Tryz.func35 (by kernel_rfl) rfl #[.int .i64 a0_0, .int .i64 x4_1] rfl (by (try simp only [List.map_toArray, List.map_cons, List.map_nil]); first | done | rfl | (simp only [List.length_drop, List.length_take]; rfl)) ?_; (with_reducible refine (spec_CronMonthDays.calls a0_0 x4_1 t180 _ A6.out).mono ?_); rintro e w' ⟨rfl, ⟨nd, rfl⟩⟩; refine ⟨_, rfl, ?_⟩))
        go_roundg k1
        case measure => have := HK1.out; omega
        case rel => exact ⟨(wrap64 (x3_1 + t180)), (wrap64 (x4_1 + 1)), (by first | rfl | (simp; done) | (simp [*]; done)), (by first | rfl | (simp; done) | (simp [*]; done)), H', ⟨by have := HK1.out; omega⟩, ⟨by (with_reducible repeat (first | refine blk_drewN ?_ _ | refine blk_drew ?_ | refine blk_alloc ?_ _)); exact BK178.out⟩, ⟨by repeat (first | (with_reducible first | exact HB.out | apply below_alloc | apply pw_below_drewN | apply below_drew1 | refine below_set ?_ GE178.out) | exact HB.out)⟩⟩
      · rw [if_neg c5] at H
        have c5b0 : decide (x4_1 < a0_1) = false := decide_eq_false c5
        clear c5
        obtain rfl := Option.some.inj H
        have hcz8_0 : wr.cell? ⟨gb178, 0, none⟩ = some (.int .i64 a0_0) := (blk_cell BK178.out 0).trans rfl
        have hcz8_1 : wr.cell? ⟨gb178, 1, none⟩ = some (.int .i64 a0_1) := (blk_cell BK178.out 1).trans rfl
        have hcz8_2 : wr.cell? ⟨gb178, 2, none⟩ = some (.int .i64 a0_2) := (blk_cell BK178.out 2).trans rfl
        have hfz8_0 := blk_frozen BK178.out 0
        have hfz8_1 := blk_frozen BK178.out 1
        have hfz8_2 := blk_frozen BK178.out 2
        go_wp2
        go_ret
        exact ⟨by first | rfl | (simp [errW_none, errW_some] <;> rfl) | (simp [*, errW_none, errW_some] <;> rfl), by repeat (first | (with_reducible first | exact HB.out | apply below_alloc | apply pw_below_drewN | apply below_drew1 | refine below_set ?_ GE178.out) | exact HB.out)⟩
end Go.Proofs.YtmecbmgfacpecaaGreatDoor.Pr

namespace Go.Proofs.YtmecbmgfacpecaaGreatDoor.Pr
open Go.RowKit Go.Proofs.YtmecbmgfacpecaaGreatDoorW.PrintWords Go.Proofs.YtmecbmgfacpecaaGreatDoorW.PrintLast
set_option linter.unusedVariables false
set_option linter.unusedSimpArgs false
/-! ### spec_CronInstant: function 34 -/
def spec_CronInstant.f (k : Nat) (a0_0 : Int) (a0_1 : Int) (a0_2 : Int) (a1 : Int) : Option (Int × Int) := (spec_CronDay.f k a0_0 a0_1 a0_2).bind fun t183 => (some (wrap64 ((wrap64 (86400 * t183)) + a1), 0))
theorem spec_CronInstant.mono : ∀ a0 a1 a2 a3 k, LeO (spec_CronInstant.f k a0 a1 a2 a3) (spec_CronInstant.f (k + 1) a0 a1 a2 a3) := by
  intro a0 a1 a2 a3 k
  unfold spec_CronInstant.f
  repeat' first
      | (with_reducible exact spec_CronDay.mono _ _ _ _)
      | (with_reducible exact LeO.refl _)
      | (with_reducible exact LeO.none _)
      | (with_reducible refine LeO.ite ?_ ?_)
      | (with_reducible refine LeO.bind ?_ (fun _ => ?_))
      | exact spec_CronDay.mono _ _ _ _
      | exact LeO.none _
      | refine LeO.ite ?_ ?_
      | refine LeO.bind ?_ (fun _ => ?_)
set_option maxHeartbeats 8000000 in
set_option maxRecDepth 100000 in
theorem spec_CronInstant.calls (k : Nat) (a0_0 : Int) (a0_1 : Int) (a0_2 : Int) (a1 : Int) (r1 : Int) (r2 : Int) (w : World) (h : spec_CronInstant.f k a0_0 a0_1 a0_2 a1 = some (r1, r2)) :
    Calls Tryz.prog 34 #[.agg #[.int .i64 a0_0, .int .i64 a0_1, .int .i64 a0_2], .int .i64 a1] w fun e w' => e = .returned (.agg #[.int .i64 r1, .int .i64 r2]) ∧ Below w.heap.size w w' := by
  have hu83 := Tryz.underlying83
  have hu50 := Tryz.underlying50
  have HB := Aside0.mk (Below.refl w.heap.size w)
  have H : ((spec_CronDay.f k a0_0 a0_1 a0_2).bind fun t183 => (some (wrap64 ((wrap64 (86400 * t183)) + a1), 0))) = some (r1, r2) := h
  clear h
  replace H := Option.bind_eq_some_iff.mp H
  obtain ⟨t183, A30, H⟩ := H
  replace H : (some (wrap64 ((wrap64 (86400 * t183)) + a1), 0)) = some (r1, r2) := H
  have A3 := Aside0.mk A30
  clear A30
  simp only [Option.some.injEq, Prod.mk.injEq] at H
  obtain ⟨rfl, rfl⟩ := H
  go_enter Tryz.func34, Tryz.ntmps34
  go_wp2_with (first | ((with_reducible refine gate_dst (N := 2) rfl ?_); refine box_event ?hg (N := 2) ?hd (cs := #[.int .i64 a0_0, .int .i64 a0_1, .int .i64 a0_2]) (t := 83) ?hr ?_; (case hd => rfl); (case hg => rfl); (case hr => first | (go_simp; done) | (go_simp; rfl)); intro gb181 hg w4 hbox hb; have n0_ := Aside0.mk (below_step (by repeat (first | (with_reducible first | exact HB.out | apply below_alloc | apply pw_below_drewN | apply below_drew1) | exact HB.out)) hb); have n1_ := Aside0.mk (hbox); have n2_ := Aside0.mk ((by rw [hg]; exact (below_size (by repeat (first | (with_reducible first | exact HB.out | apply below_alloc | apply pw_below_drewN | apply below_drew1) | exact HB.out))) : w.heap.size ≤ gb181)); have n3_ := Aside0.mk ((by rw [hg]; exact (below_size (by repeat (first | (with_reducible first | exact HB.out | apply below_alloc | apply pw_below_drewN | apply below_drew1) | exact HB.out))) : w.heap.size ≤ gb181)); clear HB; have HB := n0_; have BK181 := n1_; have GW181 := n2_; have GE181 := n3_; clear n0_ n1_ n2_ n3_; clear hb hbox hg) | ((with_reducible refine gate_dst (N := 4) rfl ?_); refine box_event ?hg (N := 4) ?hd (cs := #[.int .i64 0, .int .i64 0]) (t := 50) ?hr ?_; (case hd => rfl); (case hg => rfl); (case hr => first | (go_simp; done) | (go_simp; rfl)); intro gb182 hg w5 hbox hb; have n0_ := Aside0.mk (blk_below (g := gb181) (o := .cells #[.int .i64 a0_0, .int .i64 a0_1, .int .i64 a0_2] 83 (0, 0)) (by (with_reducible repeat (first | refine blk_drewN ?_ _ | refine blk_drew ?_ | refine blk_alloc ?_ _)); exact BK181.out) hb); have n1_ := Aside0.mk (below_step (by repeat (first | (with_reducible first | exact HB.out | apply below_alloc | apply pw_below_drewN | apply below_drew1 | refine below_set ?_ GE181.out) | exact HB.out)) hb); have n2_ := Aside0.mk (hbox); have n3_ := Aside0.mk ((by rw [hg]; exact (below_size (by repeat (first | (with_reducible first | exact HB.out | apply below_alloc | apply pw_below_drewN | apply below_drew1 | refine below_set ?_ GE181.out) | exact HB.out))) : w.heap.size ≤ gb182)); have n4_ := Aside0.mk ((by rw [hg]; exact (below_size (by repeat (first | (with_reducible first | exact HB.out | apply below_alloc | apply pw_below_drewN | apply below_drew1 | refine below_set ?_ GE181.out) | exact HB.out))) : w.heap.size ≤ gb182)); have n5_ := Aside0.mk ((by rw [hg]; exact Nat.ne_of_lt (blk_lt (g := gb181) (o := .cells #[.int .i64 a0_0, .int .i64 a0_1, .int .i64 a0_2] 83 (0, 0)) (by (with_reducible repeat (first | refine blk_drewN ?_ _ | refine blk_drew ?_ | refine blk_alloc ?_ _)); exact BK181.out)) : gb181 ≠ gb182)); have n6_ := Aside0.mk ((by rw [hg]; exact Nat.ne_of_gt (blk_lt (g := gb181) (o := .cells #[.int .i64 a0_0, .int .i64 a0_1, .int .i64 a0_2] 83 (0, 0)) (by (with_reducible repeat (first | refine blk_drewN ?_ _ | refine blk_drew ?_ | refine blk_alloc ?_ _)); exact BK181.out)) : gb182 ≠ gb181)); clear BK181; clear HB; have BK181 := n0_; have HB := n1_; have BK182 := n2_; have GW182 := n3_; have GE182 := n4_; have NB181_182 := n5_; have NB182_181 := n6_; clear n0_ n1_ n2_ n3_ n4_ n5_ n6_; clear hb hbox hg; have hnb6 := NB181_182.out; have hnc6 := NB182_181.out; have hcz7_0 : w5.cell? ⟨gb181, 0, none⟩ = some (.int .i64 a0_0) := (blk_cell BK181.out 0).trans rfl; have hcz7_1 : w5.cell? ⟨gb181, 1, none⟩ = some (.int .i64 a0_1) := (blk_cell BK181.out 1).trans rfl; have hcz7_2 : w5.cell? ⟨gb181, 2, none⟩ = some (.int .i64 a0_2) := (blk_cell BK181.out 2).trans rfl; have hfz7_0 := blk_frozen BK181.out 0; have hfz7_1 := blk_frozen BK181.out 1; have hfz7_2 := blk_frozen BK181.out 2) | ((with_reducible refine gate_callee (f := 73) rfl ?_); refine goesL_ (some 6) rfl rfl Tryz.func73 (by kernel_rfl) rfl #[.agg #[.int .i64 a0_0, .int .i64 a0_1, .int .i64 a0_2]] rfl (by (try simp only [List.map_toArray, List.map_cons, List.map_nil]); first | done | rfl | (simp only [List.length_drop, List.length_take]; rfl)) ?_; (with_reducible refine (spec_CronDay.calls k a0_0 a0_1 a0_2 t183 _ A3.out).mono ?_); rintro e w8 ⟨rfl, hb⟩; refine ⟨_, rfl, ?_⟩; have n0_ := Aside0.mk (blk_below (g := gb181) (o := .cells #[.int .i64 a0_0, .int .i64 a0_1, .int .i64 a0_2] 83 (0, 0)) (by (with_reducible repeat (first | refine blk_drewN ?_ _ | refine blk_drew ?_ | refine blk_alloc ?_ _)); exact BK181.out) hb); have n1_ := Aside0.mk (blk_below (g := gb182) (o := .cells #[.int .i64 0, .int .i64 0] 50 (0, 0)) (by (with_reducible repeat (first | refine blk_drewN ?_ _ | refine blk_drew ?_ | refine blk_alloc ?_ _)); exact BK182.out) hb); have n2_ := Aside0.mk (below_step (by repeat (first | (with_reducible first | exact HB.out | apply below_alloc | apply pw_below_drewN | apply below_drew1 | refine below_set ?_ GE181.out | refine below_set ?_ GE182.out) | exact HB.out)) hb); clear BK181; clear BK182; clear HB; have BK181 := n0_; have BK182 := n1_; have HB := n2_; clear n0_ n1_ n2_; (try clear hb); (try clear hb2); (try clear hk); (try clear hi); have hcz9_0 : w8.cell? ⟨gb182, 0, none⟩ = some (.int .i64 0) := (blk_cell BK182.out 0).trans rfl; have hcz9_1 : w8.cell? ⟨gb182, 1, none⟩ = some (.int .i64 0) := (blk_cell BK182.out 1).trans rfl; have hfz9_0 := blk_frozen BK182.out 0; have hfz9_1 := blk_frozen BK182.out 1))
  refine bodyPost_ret (results_cell_row rfl _ _ gb182 50 #[.int .i64 (wrap64 ((wrap64 (86400 * t183)) + a1)), .int .i64 0] (0, 0) _ rfl (by (with_reducible repeat (first | refine blk_drewN ?_ _ | refine blk_drew ?_ | refine blk_alloc ?_ _)); refine blk_put (cs := #[.int .i64 (wrap64 ((wrap64 (86400 * t183)) + a1)), .int .i64 0]) ?_ 1 _ rfl; (with_reducible repeat (first | refine blk_drewN ?_ _ | refine blk_drew ?_ | refine blk_alloc ?_ _)); refine blk_put (cs := #[.int .i64 0, .int .i64 0]) ?_ 0 _ rfl; (with_reducible repeat (first | refine blk_drewN ?_ _ | refine blk_drew ?_ | refine blk_alloc ?_ _)); exact BK182.out) Tryz.underlying50 rfl (by kernel_rfl)) rfl ?_
  exact ⟨by first | rfl | (simp [errW_none, errW_some] <;> rfl) | (simp [*, errW_none, errW_some] <;> rfl), by repeat (first | (with_reducible first | exact HB.out | apply below_alloc | apply pw_below_drewN | apply below_drew1 | refine below_set ?_ GE181.out | refine below_set ?_ GE182.out) | exact HB.out)⟩
end Go.Proofs.YtmecbmgfacpecaaGreatDoor.Pr

namespace Go.Proofs.YtmecbmgfacpecaaGreatDoor.Pr
open Go.RowKit Go.Proofs.YtmecbmgfacpecaaGreatDoorW.PrintWords Go.Proofs.YtmecbmgfacpecaaGreatDoorW.PrintLast
set_option linter.unusedVariables false
set_option linter.unusedSimpArgs false
/-! ### laws_cronWhole: function 33 -/
def laws_cronWhole.f (a0 : Int) : Option (Int × Int) := some (a0, 0)
set_option maxHeartbeats 8000000 in
set_option maxRecDepth 100000 in
theorem laws_cronWhole.calls (a0 : Int) (r1 : Int) (r2 : Int) (w : World) (h : laws_cronWhole.f a0 = some (r1, r2)) :
    Calls Tryz.prog 33 #[.int .i64 a0] w fun e w' => e = .returned (.agg #[.int .i64 r1, .int .i64 r2]) ∧ Below w.heap.size w w' := by
  have hu50 := Tryz.underlying50
  have HB := Aside0.mk (Below.refl w.heap.size w)
  have H : (some (a0, 0)) = some (r1, r2) := h
  clear h
  simp only [Option.some.injEq, Prod.mk.injEq] at H
  obtain ⟨rfl, rfl⟩ := H
  go_enter Tryz.func33, Tryz.ntmps33
  go_wp2_with (first | ((with_reducible refine gate_dst (N := 2) rfl ?_); refine box_event ?hg (N := 2) ?hd (cs := #[.int .i64 0, .int .i64 0]) (t := 50) ?hr ?_; (case hd => rfl); (case hg => rfl); (case hr => first | (go_simp; done) | (go_simp; rfl)); intro gb177 hg w2 hbox hb; have n0_ := Aside0.mk (below_step (by repeat (first | (with_reducible first | exact HB.out | apply below_alloc | apply pw_below_drewN | apply below_drew1) | exact HB.out)) hb); have n1_ := Aside0.mk (hbox); have n2_ := Aside0.mk ((by rw [hg]; exact (below_size (by repeat (first | (with_reducible first | exact HB.out | apply below_alloc | apply pw_below_drewN | apply below_drew1) | exact HB.out))) : w.heap.size ≤ gb177)); have n3_ := Aside0.mk ((by rw [hg]; exact (below_size (by repeat (first | (with_reducible first | exact HB.out | apply below_alloc | apply pw_below_drewN | apply below_drew1) | exact HB.out))) : w.heap.size ≤ gb177)); clear HB; have HB := n0_; have BK177 := n1_; have GW177 := n2_; have GE177 := n3_; clear n0_ n1_ n2_ n3_; clear hb hbox hg; have hcz3_0 : w2.cell? ⟨gb177, 0, none⟩ = some (.int .i64 0) := (blk_cell BK177.out 0).trans rfl; have hcz3_1 : w2.cell? ⟨gb177, 1, none⟩ = some (.int .i64 0) := (blk_cell BK177.out 1).trans rfl; have hfz3_0 := blk_frozen BK177.out 0; have hfz3_1 := blk_frozen BK177.out 1))
  refine bodyPost_ret (results_cell_row rfl _ _ gb177 50 #[.int .i64 a0, .int .i64 0] (0, 0) _ rfl (by (with_reducible repeat (first | refine blk_drewN ?_ _ | refine blk_drew ?_ | refine blk_alloc ?_ _)); refine blk_put (cs := #[.int .i64 a0, .int .i64 0]) ?_ 1 _ rfl; (with_reducible repeat (first | refine blk_drewN ?_ _ | refine blk_drew ?_ | refine blk_alloc ?_ _)); refine blk_put (cs := #[.int .i64 0, .int .i64 0]) ?_ 0 _ rfl; (with_reducible repeat (first | refine blk_drewN ?_ _ | refine blk_drew ?_ | refine blk_alloc ?_ _)); exact BK177.out) Tryz.underlying50 rfl (by kernel_rfl)) rfl ?_
  exact ⟨by first | rfl | (simp [errW_none, errW_some] <;> rfl) | (simp [*, errW_none, errW_some] <;> rfl), by repeat (first | (with_reducible first | exact HB.out | apply below_alloc | apply pw_below_drewN | apply below_drew1 | refine below_set ?_ GE177.out) | exact HB.out)⟩
end Go.Proofs.YtmecbmgfacpecaaGreatDoor.Pr

namespace Go.Proofs.YtmecbmgfacpecaaGreatDoor.Pr
open Go.RowKit Go.Proofs.YtmecbmgfacpecaaGreatDoorW.PrintWords Go.Proofs.YtmecbmgfacpecaaGreatDoorW.PrintLast
set_option linter.unusedVariables false
set_option linter.unusedSimpArgs false
/-! ### cron_zzIndex: function 98 -/
def cron_zzIndex.l0 : Nat → ByteArray → ByteArray → Int → Option (Int)
  | 0, _, _, _ => none
  | k + 1, x0, x1, x5 => if (wrap64 (x5 + (x1.size : Int))) ≤ (x0.size : Int) then (if 0 ≤ x5 then (if x5 ≤ (wrap64 (x5 + (x1.size : Int))) then (if (x0.extract (x5 : Int).toNat ((wrap64 (x5 + (x1.size : Int))) : Int).toNat).toList = x1.toList then (some x5) else (cron_zzIndex.l0 k x0 x1 (wrap64 (x5 + 1)))) else (none)) else (none)) else (some (-1))
def cron_zzIndex.f (k : Nat) (a0 : ByteArray) (a1 : ByteArray) : Option (Int) := cron_zzIndex.l0 k a0 a1 0
theorem cron_zzIndex.mono_l : ∀ k, (∀ y0 y1 y2, LeO (cron_zzIndex.l0 k y0 y1 y2) (cron_zzIndex.l0 (k + 1) y0 y1 y2))
  | 0 => fun _ _ _ r h => by simp [cron_zzIndex.l0] at h
  | k + 1 => by
    have ih0 := cron_zzIndex.mono_l k
    · intro y0 y1 y2
      unfold cron_zzIndex.l0
      repeat' first
      | (with_reducible exact ih0 _ _ _)
      | (with_reducible exact LeO.refl _)
      | (with_reducible exact LeO.none _)
      | (with_reducible refine LeO.ite ?_ ?_)
      | (with_reducible refine LeO.bind ?_ (fun _ => ?_))
      | exact ih0 _ _ _
      | exact LeO.none _
      | refine LeO.ite ?_ ?_
      | refine LeO.bind ?_ (fun _ => ?_)
theorem cron_zzIndex.mono : ∀ a0 a1 k, LeO (cron_zzIndex.f k a0 a1) (cron_zzIndex.f (k + 1) a0 a1) := by
  intro a0 a1 k
  have ih0 := cron_zzIndex.mono_l k
  unfold cron_zzIndex.f
  repeat' first
      | (with_reducible exact ih0 _ _ _)
      | (with_reducible exact LeO.refl _)
      | (with_reducible exact LeO.none _)
      | (with_reducible refine LeO.ite ?_ ?_)
      | (with_reducible refine LeO.bind ?_ (fun _ => ?_))
      | exact ih0 _ _ _
      | exact LeO.none _
      | refine LeO.ite ?_ ?_
      | refine LeO.bind ?_ (fun _ => ?_)
set_option maxHeartbeats 8000000 in
set_option maxRecDepth 100000 in
theorem cron_zzIndex.calls (k : Nat) (a0 : ByteArray) (a1 : ByteArray) (r : Int) (w : World) (h : cron_zzIndex.f k a0 a1 = some r) :
    Calls Tryz.prog 98 #[.string a0, .string a1] w fun e w' => e = .returned (.int .i64 r) ∧ Drawn0 w w' := by
  have H : (cron_zzIndex.l0 k a0 a1 0) = some r := h
  clear h
  have H' := Aside0.mk H
  clear H
  go_enter Tryz.func98, Tryz.ntmps98
  go_wp2
  go_loopg [5] k (fun kq v5 w' => ∃ (x5_1 : Int), v5 = .int .i64 x5_1 ∧ Aside0 (cron_zzIndex.l0 kq a0 a1 x5_1 = some r) ∧ Aside0 (kq ≤ k) ∧ Drawn0 w w')
  case atStart => exact ⟨(0), (by first | rfl | (simp; done) | (simp [*]; done)), H', ⟨Nat.le_refl _⟩, by repeat (first | exact Drawn0.refl _ | apply Drawn0.step)⟩
  case round =>
    clear H'
    try clear p2
    obtain ⟨x5_1, rfl, HA, HK1, ⟨m1, rfl⟩⟩ := hrel
    cases gk with
    | zero => exact absurd HA.out (by simp [cron_zzIndex.l0])
    | succ k1 =>
      have H := HA.out
      clear HA
      simp only [cron_zzIndex.l0] at H
      by_cases c3 : (wrap64 (x5_1 + (a1.size : Int))) ≤ (a0.size : Int)
      · rw [if_pos c3] at H
        have c3b0 : decide ((wrap64 (x5_1 + (a1.size : Int))) ≤ (a0.size : Int)) = true := decide_eq_true c3
        clear c3
        by_cases c4 : 0 ≤ x5_1
        · rw [if_pos c4] at H
          have c4b0 := eq_true c4
          have c4b1 : decide (0 ≤ x5_1) = true := decide_eq_true c4
          clear c4
          by_cases c5 : x5_1 ≤ (wrap64 (x5_1 + (a1.size : Int)))
          · rw [if_pos c5] at H
            have c5b0 := eq_true c5
            have c5b1 : decide (x5_1 ≤ (wrap64 (x5_1 + (a1.size : Int)))) = true := decide_eq_true c5
            have c6b0 := eq_true (of_decide_eq_true (by first | (with_reducible assumption) | assumption) : (wrap64 (x5_1 + (a1.size : Int))) ≤ (a0.size : Int))
            by_cases c7 : (a0.extract (x5_1 : Int).toNat ((wrap64 (x5_1 + (a1.size : Int))) : Int).toNat).toList = a1.toList
            · rw [if_pos c7] at H
              have c7b0 : ((a0.extract (x5_1 : Int).toNat ((wrap64 (x5_1 + (a1.size : Int))) : Int).toNat).toList == a1.toList) = true := beq_iff_eq.mpr c7
              have c7b1 : ((a0.extract (x5_1 : Int).toNat ((wrap64 (x5_1 + (a1.size : Int))) : Int).toNat).toList != a1.toList) = false := bne_eq_false_iff_eq.mpr c7
              clear c7
              obtain rfl := Option.some.inj H
              go_wp2
              go_ret
              exact ⟨by first | rfl | (simp; done) | (simp [*]; done), by repeat (first | exact Drawn0.refl _ | apply Drawn0.step)⟩
            · rw [if_neg c7] at H
              have c7b0 : ((a0.extract (x5_1 : Int).toNat ((wrap64 (x5_1 + (a1.size : Int))) : Int).toNat).toList == a1.toList) = false := beq_eq_false_iff_ne.mpr c7
              have c7b1 : ((a0.extract (x5_1 : Int).toNat ((wrap64 (x5_1 + (a1.size : Int))) : Int).toNat).toList != a1.toList) = true := bne_iff_ne.mpr c7
              have H' := Aside0.mk H
              clear H
              go_wp2
              go_roundg k1
              case measure => have := HK1.out; omega
              case rel => exact ⟨(wrap64 (x5_1 + 1)), (by first | rfl | (simp; done) | (simp [*]; done)), H', ⟨by have := HK1.out; omega⟩, by repeat (first | exact Drawn0.refl _ | apply Drawn0.step)⟩
          · rw [if_neg c5] at H
            exact absurd H (by simp)
        · rw [if_neg c4] at H
          exact absurd H (by simp)
      · rw [if_neg c3] at H
        have c3b0 : decide ((wrap64 (x5_1 + (a1.size : Int))) ≤ (a0.size : Int)) = false := decide_eq_false c3
        clear c3
        obtain rfl := Option.some.inj H
        go_wp2
        go_ret
        exact ⟨by first | rfl | (simp; done) | (simp [*]; done), by repeat (first | exact Drawn0.refl _ | apply Drawn0.step)⟩
end Go.Proofs.YtmecbmgfacpecaaGreatDoor.Pr

namespace Go.Proofs.YtmecbmgfacpecaaGreatDoor.Pr
open Go.RowKit Go.Proofs.YtmecbmgfacpecaaGreatDoorW.PrintWords Go.Proofs.YtmecbmgfacpecaaGreatDoorW.PrintLast
set_option linter.unusedVariables false
set_option linter.unusedSimpArgs false
/-! ### cron_places: function 148 -/
def cron_places.f  : Option (List Int) := some (([1, 4, 8, 16, 32, 64] : List Int))
set_option maxHeartbeats 8000000 in
set_option maxRecDepth 100000 in
theorem cron_places.calls  (r : List Int) (w : World) (h : cron_places.f  = some r) :
    Calls Tryz.prog 148 #[] w fun e w' => ∃ v0_ : Value, e = .returned (v0_) ∧ Kd.R (Kd.int .i64) 103 w' w.heap.size (fun _ => True) v0_ r ∧ Below w.heap.size w w' := by
  have HB := Aside0.mk (Below.refl w.heap.size w)
  have H : (some (([1, 4, 8, 16, 32, 64] : List Int))) = some r := h
  clear h
  obtain ⟨y173, hy173⟩ : ∃ y_ : List Int, y_ = (([1, 4, 8, 16, 32, 64] : List Int)) := ⟨_, rfl⟩
  replace H : (some y173) = some r := by first | (rw [hy173]; with_reducible exact H) | (have H2_ := (Option.bind_some _ _).symm.trans H; rw [hy173]; with_reducible exact H2_) | (have H2_ := (Option.bind_some _ _).symm.trans H; with_reducible exact H2_) | with_reducible exact H | (rw [hy173]; exact H) | exact H
  have Ny173 := Aside0.mk hy173
  clear hy173
  obtain rfl := Option.some.inj H
  go_enter Tryz.func148, Tryz.ntmps148
  go_wp2_with (first | ((with_reducible refine gate_dst (N := 1) rfl ?_); refine Kd.R_lit (Kd.int .i64) _ 103 ?hg (N := 1) ?hd (xs := ([1, 4, 8, 16, 32, 64] : List Int)) (inner := [.int .i64 1, .int .i64 4, .int .i64 8, .int .i64 16, .int .i64 32, .int .i64 64]) (ok := fun _ => True) (okp := fun _ => True) ?hr ?hp (fun _ hk => hk) trivial (Below.refl _ _) (Nat.le_refl _) (by simp) ?_; (case hd => rfl); (case hg => rfl); (case hr => first | (go_simp; done) | (go_simp; rfl)); (case hp => exact (Reps.one (show Kd.M (Kd.int .i64) _ _ _ 1 [.int .i64 1] from rfl) (Reps.one (show Kd.M (Kd.int .i64) _ _ _ 4 [.int .i64 4] from rfl) (Reps.one (show Kd.M (Kd.int .i64) _ _ _ 8 [.int .i64 8] from rfl) (Reps.one (show Kd.M (Kd.int .i64) _ _ _ 16 [.int .i64 16] from rfl) (Reps.one (show Kd.M (Kd.int .i64) _ _ _ 32 [.int .i64 32] from rfl) (Reps.one (show Kd.M (Kd.int .i64) _ _ _ 64 [.int .i64 64] from rfl) (Reps.none _ _)))))))); intro v174 w1 ho2 hb hg_ hnew_; clear hg_ hnew_; (first | rw [← Ny173.out] at ho2 | (simp only [Int.reduceToNat] at ho2; rw [← Ny173.out] at ho2)); have n0_ := Aside0.mk (Kd.R_lower ho2 (below_size (by repeat (first | (with_reducible first | exact HB.out | apply below_alloc | apply pw_below_drewN | apply below_drew1) | exact HB.out)))); have n1_ := Aside0.mk (below_step (by repeat (first | (with_reducible first | exact HB.out | apply below_alloc | apply pw_below_drewN | apply below_drew1) | exact HB.out)) hb); clear HB; have HO175 := n0_; have HB := n1_; clear n0_ n1_; clear hb ho2))
  go_ret
  exact ⟨_, by first | rfl | (simp [errW_none, errW_some] <;> rfl) | (simp [*, errW_none, errW_some] <;> rfl), by (with_reducible repeat (first | apply Kd.R_alloc | apply Kd.R_drewN | apply Kd.R_drew)); exact HO175.out, by repeat (first | (with_reducible first | exact HB.out | apply below_alloc | apply pw_below_drewN | apply below_drew1) | exact HB.out)⟩
end Go.Proofs.YtmecbmgfacpecaaGreatDoor.Pr

namespace Go.Proofs.YtmecbmgfacpecaaGreatDoor.Pr
open Go.RowKit Go.Proofs.YtmecbmgfacpecaaGreatDoorW.PrintWords Go.Proofs.YtmecbmgfacpecaaGreatDoorW.PrintLast
set_option linter.unusedVariables false
set_option linter.unusedSimpArgs false
/-! ### cron_defaults: function 149 -/
def cron_defaults.f  : Option (List ByteArray) := some (([(⟨#[48]⟩ : ByteArray), (⟨#[48]⟩ : ByteArray), (⟨#[48]⟩ : ByteArray), (⟨#[42]⟩ : ByteArray), (⟨#[42]⟩ : ByteArray), (⟨#[42]⟩ : ByteArray)] : List ByteArray))
set_option maxHeartbeats 8000000 in
set_option maxRecDepth 100000 in
theorem cron_defaults.calls  (r : List ByteArray) (w : World) (h : cron_defaults.f  = some r) :
    Calls Tryz.prog 149 #[] w fun e w' => ∃ v0_ : Value, e = .returned (v0_) ∧ Kd.R Kd.string 9 w' w.heap.size (fun _ => True) v0_ r ∧ Below w.heap.size w w' := by
  have HB := Aside0.mk (Below.refl w.heap.size w)
  have H : (some (([(⟨#[48]⟩ : ByteArray), (⟨#[48]⟩ : ByteArray), (⟨#[48]⟩ : ByteArray), (⟨#[42]⟩ : ByteArray), (⟨#[42]⟩ : ByteArray), (⟨#[42]⟩ : ByteArray)] : List ByteArray))) = some r := h
  clear h
  obtain ⟨y176, hy176⟩ : ∃ y_ : List ByteArray, y_ = (([(⟨#[48]⟩ : ByteArray), (⟨#[48]⟩ : ByteArray), (⟨#[48]⟩ : ByteArray), (⟨#[42]⟩ : ByteArray), (⟨#[42]⟩ : ByteArray), (⟨#[42]⟩ : ByteArray)] : List ByteArray)) := ⟨_, rfl⟩
  replace H : (some y176) = some r := by first | (rw [hy176]; with_reducible exact H) | (have H2_ := (Option.bind_some _ _).symm.trans H; rw [hy176]; with_reducible exact H2_) | (have H2_ := (Option.bind_some _ _).symm.trans H; with_reducible exact H2_) | with_reducible exact H | (rw [hy176]; exact H) | exact H
  have Ny176 := Aside0.mk hy176
  clear hy176
  obtain rfl := Option.some.inj H
  go_enter Tryz.func149, Tryz.ntmps149
  go_wp2_with (first | ((with_reducible refine gate_dst (N := 1) rfl ?_); refine Kd.R_lit Kd.string _ 9 ?hg (N := 1) ?hd (xs := ([(⟨#[48]⟩ : ByteArray), (⟨#[48]⟩ : ByteArray), (⟨#[48]⟩ : ByteArray), (⟨#[42]⟩ : ByteArray), (⟨#[42]⟩ : ByteArray), (⟨#[42]⟩ : ByteArray)] : List ByteArray)) (inner := [.string (⟨#[48]⟩ : ByteArray), .string (⟨#[48]⟩ : ByteArray), .string (⟨#[48]⟩ : ByteArray), .string (⟨#[42]⟩ : ByteArray), .string (⟨#[42]⟩ : ByteArray), .string (⟨#[42]⟩ : ByteArray)]) (ok := fun _ => True) (okp := fun _ => True) ?hr ?hp (fun _ hk => hk) trivial (Below.refl _ _) (Nat.le_refl _) (by simp) ?_; (case hd => rfl); (case hg => rfl); (case hr => first | (go_simp; done) | (go_simp; rfl)); (case hp => exact (Reps.one (show Kd.M Kd.string _ _ _ (⟨#[48]⟩ : ByteArray) [.string (⟨#[48]⟩ : ByteArray)] from rfl) (Reps.one (show Kd.M Kd.string _ _ _ (⟨#[48]⟩ : ByteArray) [.string (⟨#[48]⟩ : ByteArray)] from rfl) (Reps.one (show Kd.M Kd.string _ _ _ (⟨#[48]⟩ : ByteArray) [.string (⟨#[48]⟩ : ByteArray)] from rfl) (Reps.one (show Kd.M Kd.string _ _ _ (⟨#[42]⟩ : ByteArray) [.string (⟨#[42]⟩ : ByteArray)] from rfl) (Reps.one (show Kd.M Kd.string _ _ _ (⟨#[42]⟩ : ByteArray) [.string (⟨#[42]⟩ : ByteArray)] from rfl) (Reps.one (show Kd.M Kd.string _ _ _ (⟨#[42]⟩ : ByteArray) [.string (⟨#[42]⟩ : ByteArray)] from rfl) (Reps.none _ _)))))))); intro v177 w1 ho2 hb hg_ hnew_; clear hg_ hnew_; (first | rw [← Ny176.out] at ho2 | (simp only [Int.reduceToNat] at ho2; rw [← Ny176.out] at ho2)); have n0_ := Aside0.mk (Kd.R_lower ho2 (below_size (by repeat (first | (with_reducible first | exact HB.out | apply below_alloc | apply pw_below_drewN | apply below_drew1) | exact HB.out)))); have n1_ := Aside0.mk (below_step (by repeat (first | (with_reducible first | exact HB.out | apply below_alloc | apply pw_below_drewN | apply below_drew1) | exact HB.out)) hb); clear HB; have HO178 := n0_; have HB := n1_; clear n0_ n1_; clear hb ho2))
  go_ret
  exact ⟨_, by first | rfl | (simp [errW_none, errW_some] <;> rfl) | (simp [*, errW_none, errW_some] <;> rfl), by (with_reducible repeat (first | apply Kd.R_alloc | apply Kd.R_drewN | apply Kd.R_drew)); exact HO178.out, by repeat (first | (with_reducible first | exact HB.out | apply below_alloc | apply pw_below_drewN | apply below_drew1) | exact HB.out)⟩
end Go.Proofs.YtmecbmgfacpecaaGreatDoor.Pr

namespace Go.Proofs.YtmecbmgfacpecaaGreatDoor.Pr
open Go.RowKit Go.Proofs.YtmecbmgfacpecaaGreatDoorW.PrintWords Go.Proofs.YtmecbmgfacpecaaGreatDoorW.PrintLast
set_option linter.unusedVariables false
set_option linter.unusedSimpArgs false
/-! ### cron_zzSpace: function 144 -/
def cron_zzSpace.f (a0 : Int) : Option (Bool) := if a0 = 9 then (some true) else (if a0 = 10 then (some true) else (if a0 = 11 then (some true) else (if a0 = 12 then (some true) else (if a0 = 13 then (some true) else (if a0 = 32 then (some true) else (if a0 = 133 then (some true) else (if a0 = 160 then (some true) else (if a0 = 5760 then (some true) else (if a0 = 8232 then (some true) else (if a0 = 8233 then (some true) else (if a0 = 8239 then (some true) else (if a0 = 8287 then (some true) else (if a0 = 12288 then (some true) else (if 8192 ≤ a0 then (some (decide (a0 ≤ 8202))) else (some false)))))))))))))))
set_option maxHeartbeats 8000000 in
set_option maxRecDepth 100000 in
theorem cron_zzSpace.calls (a0 : Int) (r : Bool) (w : World) (h : cron_zzSpace.f a0 = some r) :
    Calls Tryz.prog 144 #[.int .i32 a0] w fun e w' => e = .returned (.bool r) ∧ Drawn0 w w' := by
  have H : (if a0 = 9 then (some true) else (if a0 = 10 then (some true) else (if a0 = 11 then (some true) else (if a0 = 12 then (some true) else (if a0 = 13 then (some true) else (if a0 = 32 then (some true) else (if a0 = 133 then (some true) else (if a0 = 160 then (some true) else (if a0 = 5760 then (some true) else (if a0 = 8232 then (some true) else (if a0 = 8233 then (some true) else (if a0 = 8239 then (some true) else (if a0 = 8287 then (some true) else (if a0 = 12288 then (some true) else (if 8192 ≤ a0 then (some (decide (a0 ≤ 8202))) else (some false)))))))))))))))) = some r := h
  clear h
  by_cases c2 : a0 = 9
  · rw [if_pos c2] at H
    have c2b0 : (a0 == 9) = true := beq_iff_eq.mpr c2
    have c2b1 : (a0 != 9) = false := bne_eq_false_iff_eq.mpr c2
    clear c2
    obtain rfl := Option.some.inj H
    go_enter Tryz.func144, Tryz.ntmps144
    go_wp2
    go_ret
    exact ⟨by first | rfl | (simp; done) | (simp [*]; done), by repeat (first | exact Drawn0.refl _ | apply Drawn0.step)⟩
  · rw [if_neg c2] at H
    have c2b0 : (a0 == 9) = false := beq_eq_false_iff_ne.mpr c2
    have c2b1 : (a0 != 9) = true := bne_iff_ne.mpr c2
    by_cases c3 : a0 = 10
    · rw [if_pos c3] at H
      have c3b0 : (a0 == 10) = true := beq_iff_eq.mpr c3
      have c3b1 : (a0 != 10) = false := bne_eq_false_iff_eq.mpr c3
      clear c3
      obtain rfl := Option.some.inj H
      go_enter Tryz.func144, Tryz.ntmps144
      go_wp2
      go_ret
      exact ⟨by first | rfl | (simp; done) | (simp [*]; done), by repeat (first | exact Drawn0.refl _ | apply Drawn0.step)⟩
    · rw [if_neg c3] at H
      have c3b0 : (a0 == 10) = false := beq_eq_false_iff_ne.mpr c3
      have c3b1 : (a0 != 10) = true := bne_iff_ne.mpr c3
      by_cases c4 : a0 = 11
      · rw [if_pos c4] at H
        have c4b0 : (a0 == 11) = true := beq_iff_eq.mpr c4
        have c4b1 : (a0 != 11) = false := bne_eq_false_iff_eq.mpr c4
        clear c4
        obtain rfl := Option.some.inj H
        go_enter Tryz.func144, Tryz.ntmps144
        go_wp2
        go_ret
        exact ⟨by first | rfl | (simp; done) | (simp [*]; done), by repeat (first | exact Drawn0.refl _ | apply Drawn0.step)⟩
      · rw [if_neg c4] at H
        have c4b0 : (a0 == 11) = false := beq_eq_false_iff_ne.mpr c4
        have c4b1 : (a0 != 11) = true := bne_iff_ne.mpr c4
        by_cases c5 : a0 = 12
        · rw [if_pos c5] at H
          have c5b0 : (a0 == 12) = true := beq_iff_eq.mpr c5
          have c5b1 : (a0 != 12) = false := bne_eq_false_iff_eq.mpr c5
          clear c5
          obtain rfl := Option.some.inj H
          go_enter Tryz.func144, Tryz.ntmps144
          go_wp2
          go_ret
          exact ⟨by first | rfl | (simp; done) | (simp [*]; done), by repeat (first | exact Drawn0.refl _ | apply Drawn0.step)⟩
        · rw [if_neg c5] at H
          have c5b0 : (a0 == 12) = false := beq_eq_false_iff_ne.mpr c5
          have c5b1 : (a0 != 12) = true := bne_iff_ne.mpr c5
          by_cases c6 : a0 = 13
          · rw [if_pos c6] at H
            have c6b0 : (a0 == 13) = true := beq_iff_eq.mpr c6
            have c6b1 : (a0 != 13) = false := bne_eq_false_iff_eq.mpr c6
            clear c6
            obtain rfl := Option.some.inj H
            go_enter Tryz.func144, Tryz.ntmps144
            go_wp2
            go_ret
            exact ⟨by first | rfl | (simp; done) | (simp [*]; done), by repeat (first | exact Drawn0.refl _ | apply Drawn0.step)⟩
          · rw [if_neg c6] at H
            have c6b0 : (a0 == 13) = false := beq_eq_false_iff_ne.mpr c6
            have c6b1 : (a0 != 13) = true := bne_iff_ne.mpr c6
            by_cases c7 : a0 = 32
            · rw [if_pos c7] at H
              have c7b0 : (a0 == 32) = true := beq_iff_eq.mpr c7
              have c7b1 : (a0 != 32) = false := bne_eq_false_iff_eq.mpr c7
              clear c7
              obtain rfl := Option.some.inj H
              go_enter Tryz.func144, Tryz.ntmps144
              go_wp2
              go_ret
              exact ⟨by first | rfl | (simp; done) | (simp [*]; done), by repeat (first | exact Drawn0.refl _ | apply Drawn0.step)⟩
            · rw [if_neg c7] at H
              have c7b0 : (a0 == 32) = false := beq_eq_false_iff_ne.mpr c7
              have c7b1 : (a0 != 32) = true := bne_iff_ne.mpr c7
              by_cases c8 : a0 = 133
              · rw [if_pos c8] at H
                have c8b0 : (a0 == 133) = true := beq_iff_eq.mpr c8
                have c8b1 : (a0 != 133) = false := bne_eq_false_iff_eq.mpr c8
                clear c8
                obtain rfl := Option.some.inj H
                go_enter Tryz.func144, Tryz.ntmps144
                go_wp2
                go_ret
                exact ⟨by first | rfl | (simp; done) | (simp [*]; done), by repeat (first | exact Drawn0.refl _ | apply Drawn0.step)⟩
              · rw [if_neg c8] at H
                have c8b0 : (a0 == 133) = false := beq_eq_false_iff_ne.mpr c8
                have c8b1 : (a0 != 133) = true := bne_iff_ne.mpr c8
                by_cases c9 : a0 = 160
                · rw [if_pos c9] at H
                  have c9b0 : (a0 == 160) = true := beq_iff_eq.mpr c9
                  have c9b1 : (a0 != 160) = false := bne_eq_false_iff_eq.mpr c9
                  clear c9
                  obtain rfl := Option.some.inj H
                  go_enter Tryz.func144, Tryz.ntmps144
                  go_wp2
                  go_ret
                  exact ⟨by first | rfl | (simp; done) | (simp [*]; done), by repeat (first | exact Drawn0.refl _ | apply Drawn0.step)⟩
                · rw [if_neg c9] at H
                  have c9b0 : (a0 == 160) = false := beq_eq_false_iff_ne.mpr c9
                  have c9b1 : (a0 != 160) = true := bne_iff_ne.mpr c9
                  by_cases c10 : a0 = 5760
                  · rw [if_pos c10] at H
                    have c10b0 : (a0 == 5760) = true := beq_iff_eq.mpr c10
                    have c10b1 : (a0 != 5760) = false := bne_eq_false_iff_eq.mpr c10
                    clear c10
                    obtain rfl := Option.some.inj H
                    go_enter Tryz.func144, Tryz.ntmps144
                    go_wp2
                    go_ret
                    exact ⟨by first | rfl | (simp; done) | (simp [*]; done), by repeat (first | exact Drawn0.refl _ | apply Drawn0.step)⟩
                  · rw [if_neg c10] at H
                    have c10b0 : (a0 == 5760) = false := beq_eq_false_iff_ne.mpr c10
                    have c10b1 : (a0 != 5760) = true := bne_iff_ne.mpr c10
                    by_cases c11 : a0 = 8232
                    · rw [if_pos c11] at H
                      have c11b0 : (a0 == 8232) = true := beq_iff_eq.mpr c11
                      have c11b1 : (a0 != 8232) = false := bne_eq_false_iff_eq.mpr c11
                      clear c11
                      obtain rfl := Option.some.inj H
                      go_enter Tryz.func144, Tryz.ntmps144
                      go_wp2
                      go_ret
                      exact ⟨by first | rfl | (simp; done) | (simp [*]; done), by repeat (first | exact Drawn0.refl _ | apply Drawn0.step)⟩
                    · rw [if_neg c11] at H
                      have c11b0 : (a0 == 8232) = false := beq_eq_false_iff_ne.mpr c11
                      have c11b1 : (a0 != 8232) = true := bne_iff_ne.mpr c11
                      by_cases c12 : a0 = 8233
                      · rw [if_pos c12] at H
                        have c12b0 : (a0 == 8233) = true := beq_iff_eq.mpr c12
                        have c12b1 : (a0 != 8233) = false := bne_eq_false_iff_eq.mpr c12
                        clear c12
                        obtain rfl := Option.some.inj H
                        go_enter Tryz.func144, Tryz.ntmps144
                        go_wp2
                        go_ret
                        exact ⟨by first | rfl | (simp; done) | (simp [*]; done), by repeat (first | exact Drawn0.refl _ | apply Drawn0.step)⟩
                      · rw [if_neg c12] at H
                        have c12b0 : (a0 == 8233) = false := beq_eq_false_iff_ne.mpr c12
                        have c12b1 : (a0 != 8233) = true := bne_iff_ne.mpr c12
                        by_cases c13 : a0 = 8239
                        · rw [if_pos c13] at H
                          have c13b0 : (a0 == 8239) = true := beq_iff_eq.mpr c13
                          have c13b1 : (a0 != 8239) = false := bne_eq_false_iff_eq.mpr c13
                          clear c13
                          obtain rfl := Option.some.inj H
                          go_enter Tryz.func144, Tryz.ntmps144
                          go_wp2
                          go_ret
                          exact ⟨by first | rfl | (simp; done) | (simp [*]; done), by repeat (first | exact Drawn0.refl _ | apply Drawn0.step)⟩
                        · rw [if_neg c13] at H
                          have c13b0 : (a0 == 8239) = false := beq_eq_false_iff_ne.mpr c13
                          have c13b1 : (a0 != 8239) = true := bne_iff_ne.mpr c13
                          by_cases c14 : a0 = 8287
                          · rw [if_pos c14] at H
                            have c14b0 : (a0 == 8287) = true := beq_iff_eq.mpr c14
                            have c14b1 : (a0 != 8287) = false := bne_eq_false_iff_eq.mpr c14
                            clear c14
                            obtain rfl := Option.some.inj H
                            go_enter Tryz.func144, Tryz.ntmps144
                            go_wp2
                            go_ret
                            exact ⟨by first | rfl | (simp; done) | (simp [*]; done), by repeat (first | exact Drawn0.refl _ | apply Drawn0.step)⟩
                          · rw [if_neg c14] at H
                            have c14b0 : (a0 == 8287) = false := beq_eq_false_iff_ne.mpr c14
                            have c14b1 : (a0 != 8287) = true := bne_iff_ne.mpr c14
                            by_cases c15 : a0 = 12288
                            · rw [if_pos c15] at H
                              have c15b0 : (a0 == 12288) = true := beq_iff_eq.mpr c15
                              have c15b1 : (a0 != 12288) = false := bne_eq_false_iff_eq.mpr c15
                              clear c15
                              obtain rfl := Option.some.inj H
                              go_enter Tryz.func144, Tryz.ntmps144
                              go_wp2
                              go_ret
                              exact ⟨by first | rfl | (simp; done) | (simp [*]; done), by repeat (first | exact Drawn0.refl _ | apply Drawn0.step)⟩
                            · rw [if_neg c15] at H
                              have c15b0 : (a0 == 12288) = false := beq_eq_false_iff_ne.mpr c15
                              have c15b1 : (a0 != 12288) = true := bne_iff_ne.mpr c15
                              by_cases c16 : 8192 ≤ a0
                              · rw [if_pos c16] at H
                                have c16b0 : decide (8192 ≤ a0) = true := decide_eq_true c16
                                clear c16
                                obtain rfl := Option.some.inj H
                                go_enter Tryz.func144, Tryz.ntmps144
                                go_wp2
                                go_ret
                                exact ⟨by first | rfl | (simp; done) | (simp [*]; done), by repeat (first | exact Drawn0.refl _ | apply Drawn0.step)⟩
                              · rw [if_neg c16] at H
                                have c16b0 : decide (8192 ≤ a0) = false := decide_eq_false c16
                                clear c16
                                obtain rfl := Option.some.inj H
                                go_enter Tryz.func144, Tryz.ntmps144
                                go_wp2
                                go_ret
                                exact ⟨by first | rfl | (simp; done) | (simp [*]; done), by repeat (first | exact Drawn0.refl _ | apply Drawn0.step)⟩
end Go.Proofs.YtmecbmgfacpecaaGreatDoor.Pr
