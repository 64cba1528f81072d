/- Functions of the program and of its library as plain Lean functions, printed by the kit's print.sh, merged by wip/tools/pack.py. Conditions: none. -/
import Derived.Test.YtlopkdhblfibkaaProg
import Derived.Below
import Derived.Deep.Draws
import Derived.Deep.AppendLies
import Derived.Maps.AppendAt
import Derived.OwnWalk
import Derived.Laws.BytesArg
import Derived.Laws.MakeOwn
import Derived.Laws.OwnMore
import Derived.Deep.OwnRows
import Derived.Tactics
import Derived.Lib.ConvBytes
import Derived.Laws.Slices
import Derived.WalkKit
import Derived.KernelRfl
import Derived.RowKit3
import Derived.Deep.LoopGhost
import Derived.Deep.QuietTactic
import Derived.BigQuiet
import Derived.WideLaws
import Derived.Deep.DeepCutAuto
import Derived.Deep.CutBlock
import Derived.Deep.RegionHeld3
import Derived.Laws.Rows
import Derived.Lib.AppendStr
import Derived.ArgAppend
import Derived.Laws.IdiomCopy
import Derived.OrdersHeld
import Derived.Laws.BitsLemmas
import Derived.RowKit
import Derived.Test.YtlopkdhblfibkaaWWordsT
import Derived.Test.YtlopkdhblfibkaaWLastT
import Derived.Test.YtlopkdhblfibkaaWApartT
import Derived.Test.YtlopkdhblfibkaaWShareT
import Derived.Test.YtlopkdhblfibkaaWNT
import Derived.Test.YtlopkdhblfibkaaWEqStructT
import Derived.Test.YtlopkdhblfibkaaWRepsOneT
import Derived.Test.YtlopkdhblfibkaaWInvT
import Derived.Test.YtlopkdhblfibkaaWGuardT
import Derived.Test.YtlopkdhblfibkaaWMoreT
namespace Go.Proofs.Ytlopkdhblfibkaa.Pr
open Go.RowKit Go.Proofs.YtlopkdhblfibkaaW.PrintWords Go.Proofs.YtlopkdhblfibkaaW.PrintLast
set_option linter.unusedVariables false
set_option linter.unusedSimpArgs false
def errW : Option Int → Value
 | none => .nilIface
 | some c => .iface 0 (.int .i64 c)
theorem errW_none : errW none = .nilIface := rfl
theorem errW_some (c : Int) : errW (some c) = .iface 0 (.int .i64 c) := rfl
-- the values' own types
end Go.Proofs.Ytlopkdhblfibkaa.Pr
namespace Go.Proofs.Ytlopkdhblfibkaa.Pr
open Go.RowKit Go.Proofs.YtlopkdhblfibkaaW.PrintWords Go.Proofs.YtlopkdhblfibkaaW.PrintLast
set_option linter.unusedVariables false
set_option linter.unusedSimpArgs false
def spec_CronHigh.f (a0 : Int) : Option (Int) := if a0 = 2 then (some 23) else (if a0 = 3 then (some 31) else (if a0 = 4 then (some 12) else (if a0 = 5 then (some 6) else (some 59))))
set_option maxHeartbeats 8000000 in
set_option maxRecDepth 100000 in
theorem spec_CronHigh.calls (a0 : Int) (r : Int) (w : World) (h : spec_CronHigh.f a0 = some r) :
  Calls Try.prog 31 #[.int .i64 a0] w fun e w' => e = .returned (.int .i64 r) ∧ Drawn0 w w' := by
 have H : (if a0 = 2 then (some 23) else (if a0 = 3 then (some 31) else (if a0 = 4 then (some 12) else (if a0 = 5 then (some 6) else (some 59))))) = some r := h
 clear h
 by_cases c2 : a0 = 2
 ·rw [if_pos c2] at H
  have c2b0 : (a0 == 2) = true := beq_iff_eq.mpr c2
  have c2b1 : (a0 != 2) = false := bne_eq_false_iff_eq.mpr c2
  clear c2
  obtain rfl := Option.some.inj H
  go_enter Try.func31, Try.ntmps31
  go_wp2
  go_ret
  exact ⟨by first | rfl | (simp; done) | (simp [*]; done), by repeat (first | exact Drawn0.refl _ | apply Drawn0.step)⟩
 ·rw [if_neg c2] at H
  have c2b0 : (a0 == 2) = false := beq_eq_false_iff_ne.mpr c2
  have c2b1 : (a0 != 2) = true := bne_iff_ne.mpr c2
  by_cases c3 : a0 = 3
  ·rw [if_pos c3] at H
   have c3b0 : (a0 == 3) = true := beq_iff_eq.mpr c3
   have c3b1 : (a0 != 3) = false := bne_eq_false_iff_eq.mpr c3
   clear c3
   obtain rfl := Option.some.inj H
   go_enter Try.func31, Try.ntmps31
   go_wp2
   go_ret
   exact ⟨by first | rfl | (simp; done) | (simp [*]; done), by repeat (first | exact Drawn0.refl _ | apply Drawn0.step)⟩
  ·rw [if_neg c3] at H
   have c3b0 : (a0 == 3) = false := beq_eq_false_iff_ne.mpr c3
   have c3b1 : (a0 != 3) = true := bne_iff_ne.mpr c3
   by_cases c4 : a0 = 4
   ·rw [if_pos c4] at H
    have c4b0 : (a0 == 4) = true := beq_iff_eq.mpr c4
    have c4b1 : (a0 != 4) = false := bne_eq_false_iff_eq.mpr c4
    clear c4
    obtain rfl := Option.some.inj H
    go_enter Try.func31, Try.ntmps31
    go_wp2
    go_ret
    exact ⟨by first | rfl | (simp; done) | (simp [*]; done), by repeat (first | exact Drawn0.refl _ | apply Drawn0.step)⟩
   ·rw [if_neg c4] at H
    have c4b0 : (a0 == 4) = false := beq_eq_false_iff_ne.mpr c4
    have c4b1 : (a0 != 4) = true := bne_iff_ne.mpr c4
    by_cases c5 : a0 = 5
    ·rw [if_pos c5] at H
     have c5b0 : (a0 == 5) = true := beq_iff_eq.mpr c5
     have c5b1 : (a0 != 5) = false := bne_eq_false_iff_eq.mpr c5
     clear c5
     obtain rfl := Option.some.inj H
     go_enter Try.func31, Try.ntmps31
     go_wp2
     go_ret
     exact ⟨by first | rfl | (simp; done) | (simp [*]; done), by repeat (first | exact Drawn0.refl _ | apply Drawn0.step)⟩
    ·rw [if_neg c5] at H
     have c5b0 : (a0 == 5) = false := beq_eq_false_iff_ne.mpr c5
     have c5b1 : (a0 != 5) = true := bne_iff_ne.mpr c5
     obtain rfl := Option.some.inj H
     go_enter Try.func31, Try.ntmps31
     go_wp2
     go_ret
     exact ⟨by first | rfl | (simp; done) | (simp [*]; done), by repeat (first | exact Drawn0.refl _ | apply Drawn0.step)⟩
end Go.Proofs.Ytlopkdhblfibkaa.Pr
namespace Go.Proofs.Ytlopkdhblfibkaa.Pr
open Go.RowKit Go.Proofs.YtlopkdhblfibkaaW.PrintWords Go.Proofs.YtlopkdhblfibkaaW.PrintLast
set_option linter.unusedVariables false
set_option linter.unusedSimpArgs false
def spec_CronLow.f (a0 : Int) : Option (Int) := if a0 = 3 then (some 1) else (if a0 = 4 then (some 1) else (some 0))
set_option maxHeartbeats 8000000 in
set_option maxRecDepth 100000 in
theorem spec_CronLow.calls (a0 : Int) (r : Int) (w : World) (h : spec_CronLow.f a0 = some r) :
  Calls Try.prog 30 #[.int .i64 a0] w fun e w' => e = .returned (.int .i64 r) ∧ Drawn0 w w' := by
 have H : (if a0 = 3 then (some 1) else (if a0 = 4 then (some 1) else (some 0))) = some r := h
 clear h
 by_cases c2 : a0 = 3
 ·rw [if_pos c2] at H
  have c2b0 : (a0 == 3) = true := beq_iff_eq.mpr c2
  have c2b1 : (a0 != 3) = false := bne_eq_false_iff_eq.mpr c2
  clear c2
  obtain rfl := Option.some.inj H
  go_enter Try.func30, Try.ntmps30
  go_wp2
  go_ret
  exact ⟨by first | rfl | (simp; done) | (simp [*]; done), by repeat (first | exact Drawn0.refl _ | apply Drawn0.step)⟩
 ·rw [if_neg c2] at H
  have c2b0 : (a0 == 3) = false := beq_eq_false_iff_ne.mpr c2
  have c2b1 : (a0 != 3) = true := bne_iff_ne.mpr c2
  by_cases c3 : a0 = 4
  ·rw [if_pos c3] at H
   have c3b0 : (a0 == 4) = true := beq_iff_eq.mpr c3
   have c3b1 : (a0 != 4) = false := bne_eq_false_iff_eq.mpr c3
   clear c3
   obtain rfl := Option.some.inj H
   go_enter Try.func30, Try.ntmps30
   go_wp2
   go_ret
   exact ⟨by first | rfl | (simp; done) | (simp [*]; done), by repeat (first | exact Drawn0.refl _ | apply Drawn0.step)⟩
  ·rw [if_neg c3] at H
   have c3b0 : (a0 == 4) = false := beq_eq_false_iff_ne.mpr c3
   have c3b1 : (a0 != 4) = true := bne_iff_ne.mpr c3
   obtain rfl := Option.some.inj H
   go_enter Try.func30, Try.ntmps30
   go_wp2
   go_ret
   exact ⟨by first | rfl | (simp; done) | (simp [*]; done), by repeat (first | exact Drawn0.refl _ | apply Drawn0.step)⟩
end Go.Proofs.Ytlopkdhblfibkaa.Pr
namespace Go.Proofs.Ytlopkdhblfibkaa.Pr
open Go.RowKit Go.Proofs.YtlopkdhblfibkaaW.PrintWords Go.Proofs.YtlopkdhblfibkaaW.PrintLast
set_option linter.unusedVariables false
set_option linter.unusedSimpArgs false
def spec_floorDiv.f (a0 : Int) (a1 : Int) : Option (Int) := if a1 = 0 then (none) else (if (Int.tmod a0 a1) < 0 then (some (wrap64 ((wrap64 (Int.tdiv a0 a1)) - 1))) else (some (wrap64 (Int.tdiv a0 a1))))
set_option maxHeartbeats 8000000 in
set_option maxRecDepth 100000 in
theorem spec_floorDiv.calls (a0 : Int) (a1 : Int) (r : Int) (w : World) (h : spec_floorDiv.f a0 a1 = some r) :
  Calls Try.prog 13 #[.int .i64 a0, .int .i64 a1] w fun e w' => e = .returned (.int .i64 r) ∧ Drawn0 w w' := by
 have H : (if a1 = 0 then (none) else (if (Int.tmod a0 a1) < 0 then (some (wrap64 ((wrap64 (Int.tdiv a0 a1)) - 1))) else (some (wrap64 (Int.tdiv a0 a1))))) = some r := h
 clear h
 by_cases c3 : a1 = 0
 ·rw [if_pos c3] at H
  exact absurd H (by simp)
 ·rw [if_neg c3] at H
  have c3b0 : (a1 == 0) = false := beq_eq_false_iff_ne.mpr c3
  have c3b1 : (a1 != 0) = true := bne_iff_ne.mpr c3
  by_cases c4 : (Int.tmod a0 a1) < 0
  ·rw [if_pos c4] at H
   have c4b0 : decide ((Int.tmod a0 a1) < 0) = true := decide_eq_true c4
   clear c4
   obtain rfl := Option.some.inj H
   go_enter Try.func13, Try.ntmps13
   go_wp2
   go_ret
   exact ⟨by first | rfl | (simp; done) | (simp [*]; done), by repeat (first | exact Drawn0.refl _ | apply Drawn0.step)⟩
  ·rw [if_neg c4] at H
   have c4b0 : decide ((Int.tmod a0 a1) < 0) = false := decide_eq_false c4
   clear c4
   obtain rfl := Option.some.inj H
   go_enter Try.func13, Try.ntmps13
   go_wp2
   go_ret
   exact ⟨by first | rfl | (simp; done) | (simp [*]; done), by repeat (first | exact Drawn0.refl _ | apply Drawn0.step)⟩
end Go.Proofs.Ytlopkdhblfibkaa.Pr
namespace Go.Proofs.Ytlopkdhblfibkaa.Pr
open Go.RowKit Go.Proofs.YtlopkdhblfibkaaW.PrintWords Go.Proofs.YtlopkdhblfibkaaW.PrintLast
set_option linter.unusedVariables false
set_option linter.unusedSimpArgs false
def spec_CronYearStart.f (a0 : Int) : Option (Int) := (spec_floorDiv.f (wrap64 (a0 - 1)) 4).bind fun t128 => ((spec_floorDiv.f (wrap64 (a0 - 1)) 100).bind fun t129 => ((spec_floorDiv.f (wrap64 (a0 - 1)) 400).bind fun t130 => (some (wrap64 ((wrap64 ((wrap64 ((wrap64 ((wrap64 (365 * (wrap64 (a0 - 1)))) + t128)) - t129)) + t130)) - 719162)))))
set_option maxHeartbeats 8000000 in
set_option maxRecDepth 100000 in
theorem spec_CronYearStart.calls (a0 : Int) (r : Int) (w : World) (h : spec_CronYearStart.f a0 = some r) :
  Calls Try.prog 23 #[.int .i64 a0] w fun e w' => e = .returned (.int .i64 r) ∧ Drawn0 w w' := by
 have H : ((spec_floorDiv.f (wrap64 (a0 - 1)) 4).bind fun t128 => ((spec_floorDiv.f (wrap64 (a0 - 1)) 100).bind fun t129 => ((spec_floorDiv.f (wrap64 (a0 - 1)) 400).bind fun t130 => (some (wrap64 ((wrap64 ((wrap64 ((wrap64 ((wrap64 (365 * (wrap64 (a0 - 1)))) + t128)) - t129)) + t130)) - 719162)))))) = some r := h
 clear h
 replace H := Option.bind_eq_some_iff.mp H
 obtain ⟨t128, A20, H⟩ := H
 replace H : ((spec_floorDiv.f (wrap64 (a0 - 1)) 100).bind fun t129 => ((spec_floorDiv.f (wrap64 (a0 - 1)) 400).bind fun t130 => (some (wrap64 ((wrap64 ((wrap64 ((wrap64 ((wrap64 (365 * (wrap64 (a0 - 1)))) + t128)) - t129)) + t130)) - 719162))))) = some r := H
 have A2 := Aside0.mk A20
 clear A20
 replace H := Option.bind_eq_some_iff.mp H
 obtain ⟨t129, A30, H⟩ := H
 replace H : ((spec_floorDiv.f (wrap64 (a0 - 1)) 400).bind fun t130 => (some (wrap64 ((wrap64 ((wrap64 ((wrap64 ((wrap64 (365 * (wrap64 (a0 - 1)))) + t128)) - t129)) + t130)) - 719162)))) = some r := H
 have A3 := Aside0.mk A30
 clear A30
 replace H := Option.bind_eq_some_iff.mp H
 obtain ⟨t130, A40, H⟩ := H
 replace H : (some (wrap64 ((wrap64 ((wrap64 ((wrap64 ((wrap64 (365 * (wrap64 (a0 - 1)))) + t128)) - t129)) + t130)) - 719162))) = some r := H
 have A4 := Aside0.mk A40
 clear A40
 obtain rfl := Option.some.inj H
 go_enter Try.func23, Try.ntmps23
 go_wp2_with (first | ((with_reducible refine gate_callee (f := 13) rfl ?_); refine goesL_ (some 9) rfl rfl Try.func13 (by kernel_rfl) rfl #[.int .i64 (wrap64 (a0 - 1)), .int .i64 4] rfl (by (try simp only [List.map_toArray, List.map_cons, List.map_nil]); first | done | rfl | (simp only [List.length_drop, List.length_take]; rfl)) ?_; (with_reducible refine (spec_floorDiv.calls (wrap64 (a0 - 1)) 4 t128 _ A2.out).mono ?_); rintro e w' ⟨rfl, ⟨nd, rfl⟩⟩; refine ⟨_, rfl, ?_⟩) | ((with_reducible refine gate_callee (f := 13) rfl ?_); refine goesL_ (some 12) rfl rfl Try.func13 (by kernel_rfl) rfl #[.int .i64 (wrap64 (a0 - 1)), .int .i64 100] rfl (by (try simp only [List.map_toArray, List.map_cons, List.map_nil]); first | done | rfl | (simp only [List.length_drop, List.length_take]; rfl)) ?_; (with_reducible refine (spec_floorDiv.calls (wrap64 (a0 - 1)) 100 t129 _ A3.out).mono ?_); rintro e w' ⟨rfl, ⟨nd, rfl⟩⟩; refine ⟨_, rfl, ?_⟩) | ((with_reducible refine gate_callee (f := 13) rfl ?_); refine goesL_ (some 15) rfl rfl Try.func13 (by kernel_rfl) rfl #[.int .i64 (wrap64 (a0 - 1)), .int .i64 400] rfl (by (try simp only [List.map_toArray, List.map_cons, List.map_nil]); first | done | rfl | (simp only [List.length_drop, List.length_take]; rfl)) ?_; (with_reducible refine (spec_floorDiv.calls (wrap64 (a0 - 1)) 400 t130 _ A4.out).mono ?_); rintro e w' ⟨rfl, ⟨nd, rfl⟩⟩; refine ⟨_, rfl, ?_⟩))
 go_ret
 exact ⟨by first | rfl | (simp; done) | (simp [*]; done), by repeat (first | exact Drawn0.refl _ | apply Drawn0.step)⟩
end Go.Proofs.Ytlopkdhblfibkaa.Pr
namespace Go.Proofs.Ytlopkdhblfibkaa.Pr
open Go.RowKit Go.Proofs.YtlopkdhblfibkaaW.PrintWords Go.Proofs.YtlopkdhblfibkaaW.PrintLast
set_option linter.unusedVariables false
set_option linter.unusedSimpArgs false
def spec_CronLeap.f (a0 : Int) : Option (Bool) := if (Int.tmod a0 4) = 0 then (if (Int.tmod a0 100) = 0 then (some ((Int.tmod a0 400) == 0)) else (some true)) else (some false)
set_option maxHeartbeats 8000000 in
set_option maxRecDepth 100000 in
theorem spec_CronLeap.calls (a0 : Int) (r : Bool) (w : World) (h : spec_CronLeap.f a0 = some r) :
  Calls Try.prog 38 #[.int .i64 a0] w fun e w' => e = .returned (.bool r) ∧ Drawn0 w w' := by
 have H : (if (Int.tmod a0 4) = 0 then (if (Int.tmod a0 100) = 0 then (some ((Int.tmod a0 400) == 0)) else (some true)) else (some false)) = some r := h
 clear h
 by_cases c2 : (Int.tmod a0 4) = 0
 ·rw [if_pos c2] at H
  have c2b0 : ((Int.tmod a0 4) == 0) = true := beq_iff_eq.mpr c2
  have c2b1 : ((Int.tmod a0 4) != 0) = false := bne_eq_false_iff_eq.mpr c2
  clear c2
  by_cases c3 : (Int.tmod a0 100) = 0
  ·rw [if_pos c3] at H
   have c3b0 : ((Int.tmod a0 100) == 0) = true := beq_iff_eq.mpr c3
   have c3b1 : ((Int.tmod a0 100) != 0) = false := bne_eq_false_iff_eq.mpr c3
   clear c3
   obtain rfl := Option.some.inj H
   go_enter Try.func38, Try.ntmps38
   go_wp2
   go_ret
   exact ⟨by first | rfl | (simp; done) | (simp [*]; done), by repeat (first | exact Drawn0.refl _ | apply Drawn0.step)⟩
  ·rw [if_neg c3] at H
   have c3b0 : ((Int.tmod a0 100) == 0) = false := beq_eq_false_iff_ne.mpr c3
   have c3b1 : ((Int.tmod a0 100) != 0) = true := bne_iff_ne.mpr c3
   obtain rfl := Option.some.inj H
   go_enter Try.func38, Try.ntmps38
   go_wp2
   go_ret
   exact ⟨by first | rfl | (simp; done) | (simp [*]; done), by repeat (first | exact Drawn0.refl _ | apply Drawn0.step)⟩
 ·rw [if_neg c2] at H
  have c2b0 : ((Int.tmod a0 4) == 0) = false := beq_eq_false_iff_ne.mpr c2
  have c2b1 : ((Int.tmod a0 4) != 0) = true := bne_iff_ne.mpr c2
  obtain rfl := Option.some.inj H
  go_enter Try.func38, Try.ntmps38
  go_wp2
  go_ret
  exact ⟨by first | rfl | (simp; done) | (simp [*]; done), by repeat (first | exact Drawn0.refl _ | apply Drawn0.step)⟩
end Go.Proofs.Ytlopkdhblfibkaa.Pr
namespace Go.Proofs.Ytlopkdhblfibkaa.Pr
open Go.RowKit Go.Proofs.YtlopkdhblfibkaaW.PrintWords Go.Proofs.YtlopkdhblfibkaaW.PrintLast
set_option linter.unusedVariables false
set_option linter.unusedSimpArgs false
def spec_CronMonthDays.f (a0 : Int) (a1 : Int) : Option (Int) := if a1 = 2 then ((spec_CronLeap.f a0).bind fun t131 => (if t131 = true then (some 29) else (some 28))) else (if a1 = 4 then (some 30) else (if a1 = 6 then (some 30) else (if a1 = 9 then (some 30) else (if a1 = 11 then (some 30) else (some 31)))))
set_option maxHeartbeats 8000000 in
set_option maxRecDepth 100000 in
theorem spec_CronMonthDays.calls (a0 : Int) (a1 : Int) (r : Int) (w : World) (h : spec_CronMonthDays.f a0 a1 = some r) :
  Calls Try.prog 24 #[.int .i64 a0, .int .i64 a1] w fun e w' => e = .returned (.int .i64 r) ∧ Drawn0 w w' := by
 have H : (if a1 = 2 then ((spec_CronLeap.f a0).bind fun t131 => (if t131 = true then (some 29) else (some 28))) else (if a1 = 4 then (some 30) else (if a1 = 6 then (some 30) else (if a1 = 9 then (some 30) else (if a1 = 11 then (some 30) else (some 31)))))) = some r := h
 clear h
 by_cases c3 : a1 = 2
 ·rw [if_pos c3] at H
  have c3b0 : (a1 == 2) = true := beq_iff_eq.mpr c3
  have c3b1 : (a1 != 2) = false := bne_eq_false_iff_eq.mpr c3
  clear c3
  replace H := Option.bind_eq_some_iff.mp H
  obtain ⟨t131, A40, H⟩ := H
  replace H : (if t131 = true then (some 29) else (some 28)) = some r := H
  have A4 := Aside0.mk A40
  clear A40
  by_cases c5 : t131 = true
  ·subst c5
   have H1 : (some 29) = some r := by rw [if_pos rfl] at H; exact H
   clear H
   have H := H1
   clear H1
   obtain rfl := Option.some.inj H
   go_enter Try.func24, Try.ntmps24
   go_wp2_with (first | ((with_reducible refine gate_callee (f := 38) rfl ?_); refine goesL_ (some 9) rfl rfl Try.func38 (by kernel_rfl) rfl #[.int .i64 a0] rfl (by (try simp only [List.map_toArray, List.map_cons, List.map_nil]); first | done | rfl | (simp only [List.length_drop, List.length_take]; rfl)) ?_; (with_reducible refine (spec_CronLeap.calls a0 true _ A4.out).mono ?_); rintro e w' ⟨rfl, ⟨nd, rfl⟩⟩; refine ⟨_, rfl, ?_⟩))
   go_ret
   exact ⟨by first | rfl | (simp; done) | (simp [*]; done), by repeat (first | exact Drawn0.refl _ | apply Drawn0.step)⟩
  ·replace c5 := Bool.eq_false_iff.mpr c5
   subst c5
   have H1 : (some 28) = some r := by rw [if_neg (show ¬ (false = true) by decide)] at H; exact H
   clear H
   have H := H1
   clear H1
   obtain rfl := Option.some.inj H
   go_enter Try.func24, Try.ntmps24
   go_wp2_with (first | ((with_reducible refine gate_callee (f := 38) rfl ?_); refine goesL_ (some 9) rfl rfl Try.func38 (by kernel_rfl) rfl #[.int .i64 a0] rfl (by (try simp only [List.map_toArray, List.map_cons, List.map_nil]); first | done | rfl | (simp only [List.length_drop, List.length_take]; rfl)) ?_; (with_reducible refine (spec_CronLeap.calls a0 false _ A4.out).mono ?_); rintro e w' ⟨rfl, ⟨nd, rfl⟩⟩; refine ⟨_, rfl, ?_⟩))
   go_ret
   exact ⟨by first | rfl | (simp; done) | (simp [*]; done), by repeat (first | exact Drawn0.refl _ | apply Drawn0.step)⟩
 ·rw [if_neg c3] at H
  have c3b0 : (a1 == 2) = false := beq_eq_false_iff_ne.mpr c3
  have c3b1 : (a1 != 2) = true := bne_iff_ne.mpr c3
  by_cases c6 : a1 = 4
  ·rw [if_pos c6] at H
   have c6b0 : (a1 == 4) = true := beq_iff_eq.mpr c6
   have c6b1 : (a1 != 4) = false := bne_eq_false_iff_eq.mpr c6
   clear c6
   obtain rfl := Option.some.inj H
   go_enter Try.func24, Try.ntmps24
   go_wp2
   go_ret
   exact ⟨by first | rfl | (simp; done) | (simp [*]; done), by repeat (first | exact Drawn0.refl _ | apply Drawn0.step)⟩
  ·rw [if_neg c6] at H
   have c6b0 : (a1 == 4) = false := beq_eq_false_iff_ne.mpr c6
   have c6b1 : (a1 != 4) = true := bne_iff_ne.mpr c6
   by_cases c7 : a1 = 6
   ·rw [if_pos c7] at H
    have c7b0 : (a1 == 6) = true := beq_iff_eq.mpr c7
    have c7b1 : (a1 != 6) = false := bne_eq_false_iff_eq.mpr c7
    clear c7
    obtain rfl := Option.some.inj H
    go_enter Try.func24, Try.ntmps24
    go_wp2
    go_ret
    exact ⟨by first | rfl | (simp; done) | (simp [*]; done), by repeat (first | exact Drawn0.refl _ | apply Drawn0.step)⟩
   ·rw [if_neg c7] at H
    have c7b0 : (a1 == 6) = false := beq_eq_false_iff_ne.mpr c7
    have c7b1 : (a1 != 6) = true := bne_iff_ne.mpr c7
    by_cases c8 : a1 = 9
    ·rw [if_pos c8] at H
     have c8b0 : (a1 == 9) = true := beq_iff_eq.mpr c8
     have c8b1 : (a1 != 9) = false := bne_eq_false_iff_eq.mpr c8
     clear c8
     obtain rfl := Option.some.inj H
     go_enter Try.func24, Try.ntmps24
     go_wp2
     go_ret
     exact ⟨by first | rfl | (simp; done) | (simp [*]; done), by repeat (first | exact Drawn0.refl _ | apply Drawn0.step)⟩
    ·rw [if_neg c8] at H
     have c8b0 : (a1 == 9) = false := beq_eq_false_iff_ne.mpr c8
     have c8b1 : (a1 != 9) = true := bne_iff_ne.mpr c8
     by_cases c9 : a1 = 11
     ·rw [if_pos c9] at H
      have c9b0 : (a1 == 11) = true := beq_iff_eq.mpr c9
      have c9b1 : (a1 != 11) = false := bne_eq_false_iff_eq.mpr c9
      clear c9
      obtain rfl := Option.some.inj H
      go_enter Try.func24, Try.ntmps24
      go_wp2
      go_ret
      exact ⟨by first | rfl | (simp; done) | (simp [*]; done), by repeat (first | exact Drawn0.refl _ | apply Drawn0.step)⟩
     ·rw [if_neg c9] at H
      have c9b0 : (a1 == 11) = false := beq_eq_false_iff_ne.mpr c9
      have c9b1 : (a1 != 11) = true := bne_iff_ne.mpr c9
      obtain rfl := Option.some.inj H
      go_enter Try.func24, Try.ntmps24
      go_wp2
      go_ret
      exact ⟨by first | rfl | (simp; done) | (simp [*]; done), by repeat (first | exact Drawn0.refl _ | apply Drawn0.step)⟩
end Go.Proofs.Ytlopkdhblfibkaa.Pr
namespace Go.Proofs.Ytlopkdhblfibkaa.Pr
open Go.RowKit Go.Proofs.YtlopkdhblfibkaaW.PrintWords Go.Proofs.YtlopkdhblfibkaaW.PrintLast
set_option linter.unusedVariables false
set_option linter.unusedSimpArgs false
mutual
def spec_CronDateOf.j0 : Nat → Int → Int → Option (Int × Int × Int)
 | 0, _, _ => none
 | k + 1, x0, x3 => spec_CronDateOf.l0 k x0 x3
def spec_CronDateOf.l0 : Nat → Int → Int → Option (Int × Int × Int)
 | 0, _, _ => none
 | k + 1, x0, x3 => (spec_CronYearStart.f (wrap64 (x3 + 1))).bind fun t135 => (if t135 ≤ x0 then (spec_CronDateOf.l0 k x0 (wrap64 (x3 + 1))) else ((spec_CronYearStart.f x3).bind fun t136 => (spec_CronDateOf.l1 k x3 (wrap64 (x0 - t136)) 1)))
def spec_CronDateOf.l1 : Nat → Int → Int → Int → Option (Int × Int × Int)
 | 0, _, _, _ => none
 | k + 1, x3, x4, x5 => (spec_CronMonthDays.f x3 x5).bind fun t137 => (if x4 ≥ t137 then ((spec_CronMonthDays.f x3 x5).bind fun t138 => (spec_CronDateOf.l1 k x3 (wrap64 (x4 - t138)) (wrap64 (x5 + 1)))) else (some (x3, x5, wrap64 (x4 + 1))))
end
def spec_CronDateOf.f (k : Nat) (a0 : Int) : Option (Int × Int × Int) := (spec_floorDiv.f a0 366).bind fun t133 => (if a0 < 0 then ((spec_floorDiv.f a0 365).bind fun t134 => (spec_CronDateOf.j0 k a0 (wrap64 ((wrap64 (1970 + t134)) - 1)))) else (spec_CronDateOf.j0 k a0 (wrap64 (1970 + t133))))
theorem spec_CronDateOf.mono_l : ∀ k, (∀ y0 y1, LeO (spec_CronDateOf.j0 k y0 y1) (spec_CronDateOf.j0 (k + 1) y0 y1)) ∧ (∀ y0 y1, LeO (spec_CronDateOf.l0 k y0 y1) (spec_CronDateOf.l0 (k + 1) y0 y1)) ∧ (∀ y0 y1 y2, LeO (spec_CronDateOf.l1 k y0 y1 y2) (spec_CronDateOf.l1 (k + 1) y0 y1 y2))
 | 0 => ⟨fun _ _ r h => by simp [spec_CronDateOf.j0] at h, fun _ _ r h => by simp [spec_CronDateOf.l0] at h, fun _ _ _ r h => by simp [spec_CronDateOf.l1] at h⟩
 | k + 1 => by
  obtain ⟨ih0, ih1, ih2⟩ := spec_CronDateOf.mono_l k
  refine ⟨?_, ?_, ?_⟩
  ·intro y0 y1
   unfold spec_CronDateOf.j0
   repeat' first
   | (with_reducible exact ih0 _ _)
   | (with_reducible exact ih1 _ _)
   | (with_reducible exact ih2 _ _ _)
   | (with_reducible exact LeO.refl _)
   | (with_reducible exact LeO.none _)
   | (with_reducible refine LeO.ite ?_ ?_)
   | (with_reducible refine LeO.bind ?_ (fun _ => ?_))
   | exact ih0 _ _
   | exact ih1 _ _
   | exact ih2 _ _ _
   | exact LeO.none _
   | refine LeO.ite ?_ ?_
   | refine LeO.bind ?_ (fun _ => ?_)
  ·intro y0 y1
   unfold spec_CronDateOf.l0
   repeat' first
   | (with_reducible exact ih0 _ _)
   | (with_reducible exact ih1 _ _)
   | (with_reducible exact ih2 _ _ _)
   | (with_reducible exact LeO.refl _)
   | (with_reducible exact LeO.none _)
   | (with_reducible refine LeO.ite ?_ ?_)
   | (with_reducible refine LeO.bind ?_ (fun _ => ?_))
   | exact ih0 _ _
   | exact ih1 _ _
   | exact ih2 _ _ _
   | exact LeO.none _
   | refine LeO.ite ?_ ?_
   | refine LeO.bind ?_ (fun _ => ?_)
  ·intro y0 y1 y2
   unfold spec_CronDateOf.l1
   repeat' first
   | (with_reducible exact ih0 _ _)
   | (with_reducible exact ih1 _ _)
   | (with_reducible exact ih2 _ _ _)
   | (with_reducible exact LeO.refl _)
   | (with_reducible exact LeO.none _)
   | (with_reducible refine LeO.ite ?_ ?_)
   | (with_reducible refine LeO.bind ?_ (fun _ => ?_))
   | exact ih0 _ _
   | exact ih1 _ _
   | exact ih2 _ _ _
   | exact LeO.none _
   | refine LeO.ite ?_ ?_
   | refine LeO.bind ?_ (fun _ => ?_)
theorem spec_CronDateOf.mono : ∀ a0 k, LeO (spec_CronDateOf.f k a0) (spec_CronDateOf.f (k + 1) a0) := by
 intro a0 k
 obtain ⟨ih0, ih1, ih2⟩ := spec_CronDateOf.mono_l k
 unfold spec_CronDateOf.f
 repeat' first
  | (with_reducible exact ih0 _ _)
  | (with_reducible exact ih1 _ _)
  | (with_reducible exact ih2 _ _ _)
  | (with_reducible exact LeO.refl _)
  | (with_reducible exact LeO.none _)
  | (with_reducible refine LeO.ite ?_ ?_)
  | (with_reducible refine LeO.bind ?_ (fun _ => ?_))
  | exact ih0 _ _
  | exact ih1 _ _
  | exact ih2 _ _ _
  | exact LeO.none _
  | refine LeO.ite ?_ ?_
  | refine LeO.bind ?_ (fun _ => ?_)
set_option maxHeartbeats 8000000 in
set_option maxRecDepth 100000 in
theorem spec_CronDateOf.calls (k : Nat) (a0 : Int) (r1 : Int) (r2 : Int) (r3 : Int) (w : World) (h : spec_CronDateOf.f k a0 = some (r1, r2, r3)) :
  Calls Try.prog 14 #[.int .i64 a0] w fun e w' => e = .returned (.agg #[.int .i64 r1, .int .i64 r2, .int .i64 r3]) ∧ Below w.heap.size w w' := by
 have hu47 := Try.underlying47
 have HB := Aside0.mk (Below.refl w.heap.size w)
 have H : ((spec_floorDiv.f a0 366).bind fun t133 => (if a0 < 0 then ((spec_floorDiv.f a0 365).bind fun t134 => (spec_CronDateOf.j0 k a0 (wrap64 ((wrap64 (1970 + t134)) - 1)))) else (spec_CronDateOf.j0 k a0 (wrap64 (1970 + t133))))) = some (r1, r2, r3) := h
 clear h
 replace H := Option.bind_eq_some_iff.mp H
 obtain ⟨t133, A20, H⟩ := H
 replace H : (if a0 < 0 then ((spec_floorDiv.f a0 365).bind fun t134 => (spec_CronDateOf.j0 k a0 (wrap64 ((wrap64 (1970 + t134)) - 1)))) else (spec_CronDateOf.j0 k a0 (wrap64 (1970 + t133)))) = some (r1, r2, r3) := H
 have A2 := Aside0.mk A20
 clear A20
 have HC3 := Aside0.mk H
 clear H
 go_enter Try.func14, Try.ntmps14
 go_upto_if 10 with (first | ((with_reducible refine gate_dst (N := 2) rfl ?_); refine box_event ?hg (N := 2) ?hd (cs := #[.int .i64 0, .int .i64 0, .int .i64 0]) (t := 47) ?hr ?_; (case hd => rfl); (case hg => rfl); (case hr => first | (go_simp; done) | (go_simp; rfl)); intro gb132 hg w4 hbox hb; have n0_ := Aside0.mk (below_step (by repeat (first | (with_reducible first | exact HB.out | apply below_alloc | apply pw_below_drewN | apply below_drew1) | exact HB.out)) hb); have n1_ := Aside0.mk (hbox); have n2_ := Aside0.mk ((by rw [hg]; exact (below_size (by repeat (first | (with_reducible first | exact HB.out | apply below_alloc | apply pw_below_drewN | apply below_drew1) | exact HB.out))) : w.heap.size ≤ gb132)); have n3_ := Aside0.mk ((by rw [hg]; exact (below_size (by repeat (first | (with_reducible first | exact HB.out | apply below_alloc | apply pw_below_drewN | apply below_drew1) | exact HB.out))) : w.heap.size ≤ gb132)); clear HB; have HB := n0_; have BK132 := n1_; have GW132 := n2_; have GE132 := n3_; clear n0_ n1_ n2_ n3_; clear hb hbox hg) | ((with_reducible refine gate_callee (f := 13) rfl ?_); refine goesL_ (some 7) rfl rfl Try.func13 (by kernel_rfl) rfl #[.int .i64 a0, .int .i64 366] rfl (by (try simp only [List.map_toArray, List.map_cons, List.map_nil]); first | done | rfl | (simp only [List.length_drop, List.length_take]; rfl)) ?_; (with_reducible refine (spec_floorDiv.calls a0 366 t133 _ A2.out).mono ?_); rintro e w' ⟨rfl, ⟨nd, rfl⟩⟩; refine ⟨_, rfl, ?_⟩))
 (try simp only [Act.put, List.setIfInBounds_toArray, List.set_cons_zero, List.set_cons_succ])
 go_cut [3] (fun v3 wc => ∃ (kq : Nat) (x3_2 : Int), v3 = .int .i64 x3_2 ∧ Aside0 (spec_CronDateOf.j0 kq a0 x3_2 = some (r1, r2, r3)) ∧ Aside0 (kq ≤ k) ∧ Aside0 (wc.heap[gb132]? = some (.cells #[.int .i64 0, .int .i64 0, .int .i64 0] 47 (0, 0))) ∧ Aside0 (Below w.heap.size w wc))
 case first =>
  have H := HC3.out
  clear HC3
  by_cases c5 : a0 < 0
  ·rw [if_pos c5] at H
   have c5b0 : decide (a0 < 0) = true := decide_eq_true c5
   clear c5
   (first | rw [c5b0] | (simp only [i64_w, i32_w]; rw [c5b0]) | skip)
   replace H := Option.bind_eq_some_iff.mp H
   obtain ⟨t134, A60, H⟩ := H
   replace H : (spec_CronDateOf.j0 k a0 (wrap64 ((wrap64 (1970 + t134)) - 1))) = some (r1, r2, r3) := H
   have A6 := Aside0.mk A60
   clear A60
   have H' := Aside0.mk H
   clear H
   go_wp2_with (first | ((with_reducible refine gate_callee (f := 13) rfl ?_); refine goesL_ (some 12) rfl rfl Try.func13 (by kernel_rfl) rfl #[.int .i64 a0, .int .i64 365] rfl (by (try simp only [List.map_toArray, List.map_cons, List.map_nil]); first | done | rfl | (simp only [List.length_drop, List.length_take]; rfl)) ?_; (with_reducible refine (spec_floorDiv.calls a0 365 t134 _ A6.out).mono ?_); rintro e w' ⟨rfl, ⟨nd, rfl⟩⟩; refine ⟨_, rfl, ?_⟩))
   go_meet
   case rel => exact ⟨_, (wrap64 ((wrap64 (1970 + t134)) - 1)), (by first | rfl | (simp; done) | (simp [*]; done)), H', ⟨by first | omega | exact Nat.le_refl _⟩, ⟨by (with_reducible repeat (first | refine blk_drewN ?_ _ | refine blk_drew ?_ | refine blk_alloc ?_ _)); exact BK132.out⟩, ⟨by repeat (first | (with_reducible first | exact HB.out | apply below_alloc | apply pw_below_drewN | apply below_drew1 | refine below_set ?_ GE132.out) | exact HB.out)⟩⟩
  ·rw [if_neg c5] at H
   have c5b0 : decide (a0 < 0) = false := decide_eq_false c5
   clear c5
   (first | rw [c5b0] | (simp only [i64_w, i32_w]; rw [c5b0]) | skip)
   have H' := Aside0.mk H
   clear H
   go_wp2
   go_meet
   case rel => exact ⟨_, (wrap64 (1970 + t133)), (by first | rfl | (simp; done) | (simp [*]; done)), H', ⟨by first | omega | exact Nat.le_refl _⟩, ⟨by (with_reducible repeat (first | refine blk_drewN ?_ _ | refine blk_drew ?_ | refine blk_alloc ?_ _)); exact BK132.out⟩, ⟨by repeat (first | (with_reducible first | exact HB.out | apply below_alloc | apply pw_below_drewN | apply below_drew1 | refine below_set ?_ GE132.out) | exact HB.out)⟩⟩
 case rest =>
  clear HC3
  try clear c1
  try clear p2
  try clear c5
  try clear c5b0
  try clear p6
  obtain ⟨kq, x3_2, rfl, HA, HJ2, BK132, HB⟩ := hcut
  cases kq with
  | zero => exact absurd HA.out (by simp [spec_CronDateOf.j0])
  | succ kj2 =>
   have H := HA.out
   clear HA
   simp only [spec_CronDateOf.j0] at H
   have H' := Aside0.mk H
   clear H
   go_wp2
   go_loopg [3] kj2 (fun kq v3 w' => ∃ (x3_2 : Int), v3 = .int .i64 x3_2 ∧ Aside0 (spec_CronDateOf.l0 kq a0 x3_2 = some (r1, r2, r3)) ∧ Aside0 (kq ≤ kj2) ∧ Aside0 (w'.heap[gb132]? = some (.cells #[.int .i64 0, .int .i64 0, .int .i64 0] 47 (0, 0))) ∧ Aside0 (Below w.heap.size w w'))
   case atStart => exact ⟨(x3_2), (by first | rfl | (simp; done) | (simp [*]; done)), H', ⟨Nat.le_refl _⟩, ⟨by (with_reducible repeat (first | refine blk_drewN ?_ _ | refine blk_drew ?_ | refine blk_alloc ?_ _)); exact BK132.out⟩, ⟨by repeat (first | (with_reducible first | exact HB.out | apply below_alloc | apply pw_below_drewN | apply below_drew1 | refine below_set ?_ GE132.out) | exact HB.out)⟩⟩
   case round =>
    clear H'
    try clear c1
    try clear p2
    try clear c5
    try clear c5b0
    try clear p6
    try clear p2
    try clear p6
    obtain ⟨x3_2, rfl, HA, HK2, BK132, HB⟩ := hrel
    cases gk with
    | zero => exact absurd HA.out (by simp [spec_CronDateOf.l0])
    | succ k2 =>
     have H := HA.out
     clear HA
     simp only [spec_CronDateOf.l0] at H
     replace H := Option.bind_eq_some_iff.mp H
     obtain ⟨t135, A70, H⟩ := H
     replace H : (if t135 ≤ a0 then (spec_CronDateOf.l0 k2 a0 (wrap64 (x3_2 + 1))) else ((spec_CronYearStart.f x3_2).bind fun t136 => (spec_CronDateOf.l1 k2 x3_2 (wrap64 (a0 - t136)) 1))) = some (r1, r2, r3) := H
     have A7 := Aside0.mk A70
     clear A70
     by_cases c8 : t135 ≤ a0
     ·rw [if_pos c8] at H
      have c8b0 : decide (t135 ≤ a0) = true := decide_eq_true c8
      clear c8
      have H' := Aside0.mk H
      clear H
      go_wp2_with (first | ((with_reducible refine gate_callee (f := 23) rfl ?_); refine goesL_ (some 17) rfl rfl Try.func23 (by kernel_rfl) rfl #[.int .i64 (wrap64 (x3_2 + 1))] rfl (by (try simp only [List.map_toArray, List.map_cons, List.map_nil]); first | done | rfl | (simp only [List.length_drop, List.length_take]; rfl)) ?_; (with_reducible refine (spec_CronYearStart.calls (wrap64 (x3_2 + 1)) t135 _ A7.out).mono ?_); rintro e w' ⟨rfl, ⟨nd, rfl⟩⟩; refine ⟨_, rfl, ?_⟩))
      go_roundg k2
      case measure => have := HJ2.out; have := HK2.out; omega
      case rel => exact ⟨(wrap64 (x3_2 + 1)), (by first | rfl | (simp; done) | (simp [*]; done)), H', ⟨by have := HJ2.out; have := HK2.out; omega⟩, ⟨by (with_reducible repeat (first | refine blk_drewN ?_ _ | refine blk_drew ?_ | refine blk_alloc ?_ _)); exact BK132.out⟩, ⟨by repeat (first | (with_reducible first | exact HB.out | apply below_alloc | apply pw_below_drewN | apply below_drew1 | refine below_set ?_ GE132.out) | exact HB.out)⟩⟩
     ·rw [if_neg c8] at H
      have c8b0 : decide (t135 ≤ a0) = false := decide_eq_false c8
      clear c8
      replace H := Option.bind_eq_some_iff.mp H
      obtain ⟨t136, A90, H⟩ := H
      replace H : (spec_CronDateOf.l1 k2 x3_2 (wrap64 (a0 - t136)) 1) = some (r1, r2, r3) := H
      have A9 := Aside0.mk A90
      clear A90
      have H' := Aside0.mk H
      clear H
      go_wp2_with (first | ((with_reducible refine gate_callee (f := 23) rfl ?_); refine goesL_ (some 17) rfl rfl Try.func23 (by kernel_rfl) rfl #[.int .i64 (wrap64 (x3_2 + 1))] rfl (by (try simp only [List.map_toArray, List.map_cons, List.map_nil]); first | done | rfl | (simp only [List.length_drop, List.length_take]; rfl)) ?_; (with_reducible refine (spec_CronYearStart.calls (wrap64 (x3_2 + 1)) t135 _ A7.out).mono ?_); rintro e w' ⟨rfl, ⟨nd, rfl⟩⟩; refine ⟨_, rfl, ?_⟩) | ((with_reducible refine gate_callee (f := 23) rfl ?_); refine goesL_ (some 24) rfl rfl Try.func23 (by kernel_rfl) rfl #[.int .i64 x3_2] rfl (by (try simp only [List.map_toArray, List.map_cons, List.map_nil]); first | done | rfl | (simp only [List.length_drop, List.length_take]; rfl)) ?_; (with_reducible refine (spec_CronYearStart.calls x3_2 t136 _ A9.out).mono ?_); rintro e w' ⟨rfl, ⟨nd, rfl⟩⟩; refine ⟨_, rfl, ?_⟩))
      go_loopg [4, 5] k2 (fun kq v4 v5 w' => ∃ (x4_3 : Int) (x5_3 : Int), v4 = .int .i64 x4_3 ∧ v5 = .int .i64 x5_3 ∧ Aside0 (spec_CronDateOf.l1 kq x3_2 x4_3 x5_3 = some (r1, r2, r3)) ∧ Aside0 (kq ≤ k2) ∧ Aside0 (w'.heap[gb132]? = some (.cells #[.int .i64 0, .int .i64 0, .int .i64 0] 47 (0, 0))) ∧ Aside0 (Below w.heap.size w w'))
      case atStart => exact ⟨(wrap64 (a0 - t136)), (1), (by first | rfl | (simp; done) | (simp [*]; done)), (by first | rfl | (simp; done) | (simp [*]; done)), H', ⟨Nat.le_refl _⟩, ⟨by (with_reducible repeat (first | refine blk_drewN ?_ _ | refine blk_drew ?_ | refine blk_alloc ?_ _)); exact BK132.out⟩, ⟨by repeat (first | (with_reducible first | exact HB.out | apply below_alloc | apply pw_below_drewN | apply below_drew1 | refine below_set ?_ GE132.out) | exact HB.out)⟩⟩
      case round =>
       clear H'
       try clear c1
       try clear c2
       try clear p2
       try clear c5
       try clear c5b0
       try clear p6
       try clear c8
       try clear c8b0
       try clear p2
       try clear p6
       obtain ⟨x4_3, x5_3, rfl, rfl, HA, HK3, BK132, HB⟩ := hrel
       cases gk with
       | zero => exact absurd HA.out (by simp [spec_CronDateOf.l1])
       | succ k3 =>
        have H := HA.out
        clear HA
        simp only [spec_CronDateOf.l1] at H
        replace H := Option.bind_eq_some_iff.mp H
        obtain ⟨t137, A100, H⟩ := H
        replace H : (if x4_3 ≥ t137 then ((spec_CronMonthDays.f x3_2 x5_3).bind fun t138 => (spec_CronDateOf.l1 k3 x3_2 (wrap64 (x4_3 - t138)) (wrap64 (x5_3 + 1)))) else (some (x3_2, x5_3, wrap64 (x4_3 + 1)))) = some (r1, r2, r3) := H
        have A10 := Aside0.mk A100
        clear A100
        by_cases c11 : x4_3 ≥ t137
        ·rw [if_pos c11] at H
         have c11b0 : decide (t137 ≤ x4_3) = true := decide_eq_true c11
         clear c11
         replace H := Option.bind_eq_some_iff.mp H
         obtain ⟨t138, A120, H⟩ := H
         replace H : (spec_CronDateOf.l1 k3 x3_2 (wrap64 (x4_3 - t138)) (wrap64 (x5_3 + 1))) = some (r1, r2, r3) := H
         have A12 := Aside0.mk A120
         clear A120
         have H' := Aside0.mk H
         clear H
         go_wp2_with (first | ((with_reducible refine gate_callee (f := 24) rfl ?_); refine goesL_ (some 29) rfl rfl Try.func24 (by kernel_rfl) rfl #[.int .i64 x3_2, .int .i64 x5_3] rfl (by (try simp only [List.map_toArray, List.map_cons, List.map_nil]); first | done | rfl | (simp only [List.length_drop, List.length_take]; rfl)) ?_; (with_reducible refine (spec_CronMonthDays.calls x3_2 x5_3 t137 _ A10.out).mono ?_); rintro e w' ⟨rfl, ⟨nd, rfl⟩⟩; refine ⟨_, rfl, ?_⟩) | ((with_reducible refine gate_callee (f := 24) rfl ?_); refine goesL_ (some 34) rfl rfl Try.func24 (by kernel_rfl) rfl #[.int .i64 x3_2, .int .i64 x5_3] rfl (by (try simp only [List.map_toArray, List.map_cons, List.map_nil]); first | done | rfl | (simp only [List.length_drop, List.length_take]; rfl)) ?_; (with_reducible refine (spec_CronMonthDays.calls x3_2 x5_3 t138 _ A12.out).mono ?_); rintro e w' ⟨rfl, ⟨nd, rfl⟩⟩; refine ⟨_, rfl, ?_⟩))
         go_roundg k3
         case measure => have := HJ2.out; have := HK2.out; have := HK3.out; omega
         case rel => exact ⟨(wrap64 (x4_3 - t138)), (wrap64 (x5_3 + 1)), (by first | rfl | (simp; done) | (simp [*]; done)), (by first | rfl | (simp; done) | (simp [*]; done)), H', ⟨by have := HJ2.out; have := HK2.out; have := HK3.out; omega⟩, ⟨by (with_reducible repeat (first | refine blk_drewN ?_ _ | refine blk_drew ?_ | refine blk_alloc ?_ _)); exact BK132.out⟩, ⟨by repeat (first | (with_reducible first | exact HB.out | apply below_alloc | apply pw_below_drewN | apply below_drew1 | refine below_set ?_ GE132.out) | exact HB.out)⟩⟩
        ·rw [if_neg c11] at H
         have c11b0 : decide (t137 ≤ x4_3) = false := decide_eq_false c11
         clear c11
         simp only [Option.some.injEq, Prod.mk.injEq] at H
         obtain ⟨rfl, rfl, rfl⟩ := H
         go_wp2_with (first | ((with_reducible refine gate_callee (f := 24) rfl ?_); refine goesL_ (some 29) rfl rfl Try.func24 (by kernel_rfl) rfl #[.int .i64 x3_2, .int .i64 x5_3] rfl (by (try simp only [List.map_toArray, List.map_cons, List.map_nil]); first | done | rfl | (simp only [List.length_drop, List.length_take]; rfl)) ?_; (with_reducible refine (spec_CronMonthDays.calls x3_2 x5_3 t137 _ A10.out).mono ?_); rintro e w' ⟨rfl, ⟨nd, rfl⟩⟩; refine ⟨_, rfl, ?_⟩; (try (rw [drewN_self wr]; generalize hq_ : World.drewN wr _ = wr; have n0_ : Aside0 (wr.heap[gb132]? = some (.cells #[.int .i64 0, .int .i64 0, .int .i64 0] 47 (0, 0))) := ⟨by rw [← hq_]; exact (by (with_reducible repeat (first | refine blk_drewN ?_ _ | refine blk_drew ?_ | refine blk_alloc ?_ _)); exact BK132.out)⟩; have n1_ : Aside0 (Below w.heap.size w wr) := ⟨by rw [← hq_]; exact (by repeat (first | (with_reducible first | exact HB.out | apply below_alloc | apply pw_below_drewN | apply below_drew1 | refine below_set ?_ GE132.out) | exact HB.out))⟩; clear BK132 HB hq_; have BK132 := n0_; have HB := n1_; clear n0_ n1_)); have hcz13_0 : wr.cell? ⟨gb132, 0, none⟩ = some (.int .i64 0) := (blk_cell BK132.out 0).trans rfl; have hcz13_1 : wr.cell? ⟨gb132, 1, none⟩ = some (.int .i64 0) := (blk_cell BK132.out 1).trans rfl; have hcz13_2 : wr.cell? ⟨gb132, 2, none⟩ = some (.int .i64 0) := (blk_cell BK132.out 2).trans rfl; have hfz13_0 := blk_frozen BK132.out 0; have hfz13_1 := blk_frozen BK132.out 1; have hfz13_2 := blk_frozen BK132.out 2))
         refine bodyPost_ret (results_cell_row rfl _ _ gb132 47 #[.int .i64 x3_2, .int .i64 x5_3, .int .i64 (wrap64 (x4_3 + 1))] (0, 0) _ rfl (by (with_reducible repeat (first | refine blk_drewN ?_ _ | refine blk_drew ?_ | refine blk_alloc ?_ _)); refine blk_put (cs := #[.int .i64 x3_2, .int .i64 x5_3, .int .i64 0]) ?_ 2 _ rfl; (with_reducible repeat (first | refine blk_drewN ?_ _ | refine blk_drew ?_ | refine blk_alloc ?_ _)); refine blk_put (cs := #[.int .i64 x3_2, .int .i64 0, .int .i64 0]) ?_ 1 _ rfl; (with_reducible repeat (first | refine blk_drewN ?_ _ | refine blk_drew ?_ | refine blk_alloc ?_ _)); refine blk_put (cs := #[.int .i64 0, .int .i64 0, .int .i64 0]) ?_ 0 _ rfl; (with_reducible repeat (first | refine blk_drewN ?_ _ | refine blk_drew ?_ | refine blk_alloc ?_ _)); exact BK132.out) Try.underlying47 rfl (by kernel_rfl)) rfl ?_
         exact ⟨by first | rfl | (simp [errW_none, errW_some] <;> rfl) | (simp [*, errW_none, errW_some] <;> rfl), by repeat (first | (with_reducible first | exact HB.out | apply below_alloc | apply pw_below_drewN | apply below_drew1 | refine below_set ?_ GE132.out) | exact HB.out)⟩
end Go.Proofs.Ytlopkdhblfibkaa.Pr
namespace Go.Proofs.Ytlopkdhblfibkaa.Pr
open Go.RowKit Go.Proofs.YtlopkdhblfibkaaW.PrintWords Go.Proofs.YtlopkdhblfibkaaW.PrintLast
set_option linter.unusedVariables false
set_option linter.unusedSimpArgs false
def spec_floorMod.f (a0 : Int) (a1 : Int) : Option (Int) := (spec_floorDiv.f a0 a1).bind fun t112 => (some (wrap64 (a0 - (wrap64 (a1 * t112)))))
set_option maxHeartbeats 8000000 in
set_option maxRecDepth 100000 in
theorem spec_floorMod.calls (a0 : Int) (a1 : Int) (r : Int) (w : World) (h : spec_floorMod.f a0 a1 = some r) :
  Calls Try.prog 12 #[.int .i64 a0, .int .i64 a1] w fun e w' => e = .returned (.int .i64 r) ∧ Drawn0 w w' := by
 have H : ((spec_floorDiv.f a0 a1).bind fun t112 => (some (wrap64 (a0 - (wrap64 (a1 * t112)))))) = some r := h
 clear h
 replace H := Option.bind_eq_some_iff.mp H
 obtain ⟨t112, A30, H⟩ := H
 replace H : (some (wrap64 (a0 - (wrap64 (a1 * t112))))) = some r := H
 have A3 := Aside0.mk A30
 clear A30
 obtain rfl := Option.some.inj H
 go_enter Try.func12, Try.ntmps12
 go_wp2_with (first | ((with_reducible refine gate_callee (f := 13) rfl ?_); refine goesL_ (some 9) rfl rfl Try.func13 (by kernel_rfl) rfl #[.int .i64 a0, .int .i64 a1] rfl (by (try simp only [List.map_toArray, List.map_cons, List.map_nil]); first | done | rfl | (simp only [List.length_drop, List.length_take]; rfl)) ?_; (with_reducible refine (spec_floorDiv.calls a0 a1 t112 _ A3.out).mono ?_); rintro e w' ⟨rfl, ⟨nd, rfl⟩⟩; refine ⟨_, rfl, ?_⟩))
 go_ret
 exact ⟨by first | rfl | (simp; done) | (simp [*]; done), by repeat (first | exact Drawn0.refl _ | apply Drawn0.step)⟩
end Go.Proofs.Ytlopkdhblfibkaa.Pr
namespace Go.Proofs.Ytlopkdhblfibkaa.Pr
open Go.RowKit Go.Proofs.YtlopkdhblfibkaaW.PrintWords Go.Proofs.YtlopkdhblfibkaaW.PrintLast
set_option linter.unusedVariables false
set_option linter.unusedSimpArgs false
def spec_CronWeekday.f (a0 : Int) : Option (Int) := (spec_floorMod.f (wrap64 (a0 + 4)) 7).bind fun t148 => (some t148)
set_option maxHeartbeats 8000000 in
set_option maxRecDepth 100000 in
theorem spec_CronWeekday.calls (a0 : Int) (r : Int) (w : World) (h : spec_CronWeekday.f a0 = some r) :
  Calls Try.prog 28 #[.int .i64 a0] w fun e w' => e = .returned (.int .i64 r) ∧ Drawn0 w w' := by
 have H : ((spec_floorMod.f (wrap64 (a0 + 4)) 7).bind fun t148 => (some t148)) = some r := h
 clear h
 replace H := Option.bind_eq_some_iff.mp H
 obtain ⟨t148, A20, H⟩ := H
 replace H : (some t148) = some r := H
 have A2 := Aside0.mk A20
 clear A20
 obtain rfl := Option.some.inj H
 go_enter Try.func28, Try.ntmps28
 go_wp2_with (first | ((with_reducible refine gate_callee (f := 12) rfl ?_); refine goesL_ (some 5) rfl rfl Try.func12 (by kernel_rfl) rfl #[.int .i64 (wrap64 (a0 + 4)), .int .i64 7] rfl (by (try simp only [List.map_toArray, List.map_cons, List.map_nil]); first | done | rfl | (simp only [List.length_drop, List.length_take]; rfl)) ?_; (with_reducible refine (spec_floorMod.calls (wrap64 (a0 + 4)) 7 t148 _ A2.out).mono ?_); rintro e w' ⟨rfl, ⟨nd, rfl⟩⟩; refine ⟨_, rfl, ?_⟩))
 go_ret
 exact ⟨by first | rfl | (simp; done) | (simp [*]; done), by repeat (first | exact Drawn0.refl _ | apply Drawn0.step)⟩
end Go.Proofs.Ytlopkdhblfibkaa.Pr
namespace Go.Proofs.Ytlopkdhblfibkaa.Pr
open Go.RowKit Go.Proofs.YtlopkdhblfibkaaW.PrintWords Go.Proofs.YtlopkdhblfibkaaW.PrintLast
set_option linter.unusedVariables false
set_option linter.unusedSimpArgs false
def spec_CronOffset.l0 : Nat → Int → Int → List Int → Int → Int → List Int → List Bool → List Int → List Int → Option (Int)
 | 0, _, _, _, _, _, _, _, _, _ => none
 | k + 1, x1, x5, x9, x10, x11, x140000, x140001, x140002, x140003 => if x11 < x10 then (if 0 ≤ x11 then (if x11 < (x9.length : Int) then (if (rd x9 x11) ≤ x1 then (if x11 < (x140003.length : Int) then (if 0 ≤ (rd x140003 x11) then (if (rd x140003 x11) < (x140000.length : Int) then (spec_CronOffset.l0 k x1 (rd x140000 (rd x140003 x11)) x9 x10 (wrap64 (x11 + 1)) x140000 x140001 x140002 x140003) else (none)) else (none)) else (none)) else (spec_CronOffset.l0 k x1 x5 x9 x10 (wrap64 (x11 + 1)) x140000 x140001 x140002 x140003)) else (none)) else (none)) else (some x5)
def spec_CronOffset.f (k : Nat) (l0_0 : List Int) (l0_1 : List Bool) (l0_2 : List Int) (l0_3 : List Int) (a1 : Int) : Option (Int) := spec_CronOffset.l0 k a1 0 l0_2 (l0_2.length : Int) 0 l0_0 l0_1 l0_2 l0_3
theorem spec_CronOffset.mono_l : ∀ k, (∀ y0 y1 y2 y3 y4 y5 y6 y7 y8, LeO (spec_CronOffset.l0 k y0 y1 y2 y3 y4 y5 y6 y7 y8) (spec_CronOffset.l0 (k + 1) y0 y1 y2 y3 y4 y5 y6 y7 y8))
 | 0 => fun _ _ _ _ _ _ _ _ _ r h => by simp [spec_CronOffset.l0] at h
 | k + 1 => by
  have ih0 := spec_CronOffset.mono_l k
  ·intro y0 y1 y2 y3 y4 y5 y6 y7 y8
   unfold spec_CronOffset.l0
   repeat' first
   | (with_reducible exact ih0 _ _ _ _ _ _ _ _ _)
   | (with_reducible exact LeO.refl _)
   | (with_reducible exact LeO.none _)
   | (with_reducible refine LeO.ite ?_ ?_)
   | (with_reducible refine LeO.bind ?_ (fun _ => ?_))
   | exact ih0 _ _ _ _ _ _ _ _ _
   | exact LeO.none _
   | refine LeO.ite ?_ ?_
   | refine LeO.bind ?_ (fun _ => ?_)
theorem spec_CronOffset.mono : ∀ a0 a1 a2 a3 a4 k, LeO (spec_CronOffset.f k a0 a1 a2 a3 a4) (spec_CronOffset.f (k + 1) a0 a1 a2 a3 a4) := by
 intro a0 a1 a2 a3 a4 k
 have ih0 := spec_CronOffset.mono_l k
 unfold spec_CronOffset.f
 repeat' first
  | (with_reducible exact ih0 _ _ _ _ _ _ _ _ _)
  | (with_reducible exact LeO.refl _)
  | (with_reducible exact LeO.none _)
  | (with_reducible refine LeO.ite ?_ ?_)
  | (with_reducible refine LeO.bind ?_ (fun _ => ?_))
  | exact ih0 _ _ _ _ _ _ _ _ _
  | exact LeO.none _
  | refine LeO.ite ?_ ?_
  | refine LeO.bind ?_ (fun _ => ?_)
set_option maxHeartbeats 8000000 in
set_option maxRecDepth 100000 in
theorem spec_CronOffset.calls (k : Nat) (A0_0 : Option Addr) (c0_0 : Nat) (l0_0 : List Int) (A0_1 : Option Addr) (c0_1 : Nat) (l0_1 : List Bool) (A0_2 : Option Addr) (c0_2 : Nat) (l0_2 : List Int) (A0_3 : Option Addr) (c0_3 : Nat) (l0_3 : List Int) (a1 : Int) (r : Int) (w : World) (hr0_0 : Kd.C (Kd.int .i64) w A0_0 l0_0.length l0_0) (hc0_0 : l0_0.length ≤ c0_0) (hr0_1 : Kd.C Kd.bool w A0_1 l0_1.length l0_1) (hc0_1 : l0_1.length ≤ c0_1) (hr0_2 : Kd.C (Kd.int .i64) w A0_2 l0_2.length l0_2) (hc0_2 : l0_2.length ≤ c0_2) (hr0_3 : Kd.C (Kd.int .i64) w A0_3 l0_3.length l0_3) (hc0_3 : l0_3.length ≤ c0_3) (h : spec_CronOffset.f k l0_0 l0_1 l0_2 l0_3 a1 = some r) :
  Calls Try.prog 15 #[.agg #[.slice A0_0 l0_0.length c0_0, .slice A0_1 l0_1.length c0_1, .slice A0_2 l0_2.length c0_2, .slice A0_3 l0_3.length c0_3], .int .i64 a1] w fun e w' => e = .returned (.int .i64 r) ∧ Below w.heap.size w w' := by
 have hu29 := Try.underlying29
 have HR0_0 := Aside0.mk hr0_0
 have HC0_0 := Aside0.mk hc0_0
 clear hr0_0 hc0_0
 have HR0_1 := Aside0.mk hr0_1
 have HC0_1 := Aside0.mk hc0_1
 clear hr0_1 hc0_1
 have HR0_2 := Aside0.mk hr0_2
 have HC0_2 := Aside0.mk hc0_2
 clear hr0_2 hc0_2
 have HR0_3 := Aside0.mk hr0_3
 have HC0_3 := Aside0.mk hc0_3
 clear hr0_3 hc0_3
 have HB := Aside0.mk (Below.refl w.heap.size w)
 have H : (spec_CronOffset.l0 k a1 0 l0_2 (l0_2.length : Int) 0 l0_0 l0_1 l0_2 l0_3) = some r := h
 clear h
 have H' := Aside0.mk H
 clear H
 go_enter Try.func15, Try.ntmps15
 go_wp2_with (first | ((with_reducible refine gate_dst (N := 2) rfl ?_); refine box_event ?hg (N := 2) ?hd (cs := #[.slice A0_0 l0_0.length c0_0, .slice A0_1 l0_1.length c0_1, .slice A0_2 l0_2.length c0_2, .slice A0_3 l0_3.length c0_3]) (t := 29) ?hr ?_; (case hd => rfl); (case hg => rfl); (case hr => first | (go_simp; done) | (go_simp; rfl)); intro gb139 hg w3 hbox hb; have n0_ := Aside0.mk (below_step (by repeat (first | (with_reducible first | exact HB.out | apply below_alloc | apply pw_below_drewN | apply below_drew1) | exact HB.out)) hb); have n1_ := Aside0.mk (hbox); have n2_ := Aside0.mk ((by rw [hg]; exact (below_size (by repeat (first | (with_reducible first | exact HB.out | apply below_alloc | apply pw_below_drewN | apply below_drew1) | exact HB.out))) : w.heap.size ≤ gb139)); have n3_ := Aside0.mk ((by rw [hg]; exact (below_size (by repeat (first | (with_reducible first | exact HB.out | apply below_alloc | apply pw_below_drewN | apply below_drew1) | exact HB.out))) : w.heap.size ≤ gb139)); clear HB; have HB := n0_; have BK139 := n1_; have GW139 := n2_; have GE139 := n3_; clear n0_ n1_ n2_ n3_; clear hb hbox hg; have hcz4_0 : w3.cell? ⟨gb139, 0, none⟩ = some (.slice A0_0 l0_0.length c0_0) := (blk_cell BK139.out 0).trans rfl; have hcz4_1 : w3.cell? ⟨gb139, 1, none⟩ = some (.slice A0_1 l0_1.length c0_1) := (blk_cell BK139.out 1).trans rfl; have hcz4_2 : w3.cell? ⟨gb139, 2, none⟩ = some (.slice A0_2 l0_2.length c0_2) := (blk_cell BK139.out 2).trans rfl; have hcz4_3 : w3.cell? ⟨gb139, 3, none⟩ = some (.slice A0_3 l0_3.length c0_3) := (blk_cell BK139.out 3).trans rfl; have hfz4_0 := blk_frozen BK139.out 0; have hfz4_1 := blk_frozen BK139.out 1; have hfz4_2 := blk_frozen BK139.out 2; have hfz4_3 := blk_frozen BK139.out 3))
 repeat (go_quiet (first | ((with_reducible refine gate_dst (N := 2) rfl ?_); refine box_event ?hg (N := 2) ?hd (cs := #[.slice A0_0 l0_0.length c0_0, .slice A0_1 l0_1.length c0_1, .slice A0_2 l0_2.length c0_2, .slice A0_3 l0_3.length c0_3]) (t := 29) ?hr ?_; (case hd => rfl); (case hg => rfl); (case hr => first | (go_simp; done) | (go_simp; rfl)); intro gb139 hg w3 hbox hb; have n0_ := Aside0.mk (below_step (by repeat (first | (with_reducible first | exact HB.out | apply below_alloc | apply pw_below_drewN | apply below_drew1) | exact HB.out)) hb); have n1_ := Aside0.mk (hbox); have n2_ := Aside0.mk ((by rw [hg]; exact (below_size (by repeat (first | (with_reducible first | exact HB.out | apply below_alloc | apply pw_below_drewN | apply below_drew1) | exact HB.out))) : w.heap.size ≤ gb139)); have n3_ := Aside0.mk ((by rw [hg]; exact (below_size (by repeat (first | (with_reducible first | exact HB.out | apply below_alloc | apply pw_below_drewN | apply below_drew1) | exact HB.out))) : w.heap.size ≤ gb139)); clear HB; have HB := n0_; have BK139 := n1_; have GW139 := n2_; have GE139 := n3_; clear n0_ n1_ n2_ n3_; clear hb hbox hg; have hcz4_0 : w3.cell? ⟨gb139, 0, none⟩ = some (.slice A0_0 l0_0.length c0_0) := (blk_cell BK139.out 0).trans rfl; have hcz4_1 : w3.cell? ⟨gb139, 1, none⟩ = some (.slice A0_1 l0_1.length c0_1) := (blk_cell BK139.out 1).trans rfl; have hcz4_2 : w3.cell? ⟨gb139, 2, none⟩ = some (.slice A0_2 l0_2.length c0_2) := (blk_cell BK139.out 2).trans rfl; have hcz4_3 : w3.cell? ⟨gb139, 3, none⟩ = some (.slice A0_3 l0_3.length c0_3) := (blk_cell BK139.out 3).trans rfl; have hfz4_0 := blk_frozen BK139.out 0; have hfz4_1 := blk_frozen BK139.out 1; have hfz4_2 := blk_frozen BK139.out 2; have hfz4_3 := blk_frozen BK139.out 3)); try go_wp2_with (first | ((with_reducible refine gate_dst (N := 2) rfl ?_); refine box_event ?hg (N := 2) ?hd (cs := #[.slice A0_0 l0_0.length c0_0, .slice A0_1 l0_1.length c0_1, .slice A0_2 l0_2.length c0_2, .slice A0_3 l0_3.length c0_3]) (t := 29) ?hr ?_; (case hd => rfl); (case hg => rfl); (case hr => first | (go_simp; done) | (go_simp; rfl)); intro gb139 hg w3 hbox hb; have n0_ := Aside0.mk (below_step (by repeat (first | (with_reducible first | exact HB.out | apply below_alloc | apply pw_below_drewN | apply below_drew1) | exact HB.out)) hb); have n1_ := Aside0.mk (hbox); have n2_ := Aside0.mk ((by rw [hg]; exact (below_size (by repeat (first | (with_reducible first | exact HB.out | apply below_alloc | apply pw_below_drewN | apply below_drew1) | exact HB.out))) : w.heap.size ≤ gb139)); have n3_ := Aside0.mk ((by rw [hg]; exact (below_size (by repeat (first | (with_reducible first | exact HB.out | apply below_alloc | apply pw_below_drewN | apply below_drew1) | exact HB.out))) : w.heap.size ≤ gb139)); clear HB; have HB := n0_; have BK139 := n1_; have GW139 := n2_; have GE139 := n3_; clear n0_ n1_ n2_ n3_; clear hb hbox hg; have hcz4_0 : w3.cell? ⟨gb139, 0, none⟩ = some (.slice A0_0 l0_0.length c0_0) := (blk_cell BK139.out 0).trans rfl; have hcz4_1 : w3.cell? ⟨gb139, 1, none⟩ = some (.slice A0_1 l0_1.length c0_1) := (blk_cell BK139.out 1).trans rfl; have hcz4_2 : w3.cell? ⟨gb139, 2, none⟩ = some (.slice A0_2 l0_2.length c0_2) := (blk_cell BK139.out 2).trans rfl; have hcz4_3 : w3.cell? ⟨gb139, 3, none⟩ = some (.slice A0_3 l0_3.length c0_3) := (blk_cell BK139.out 3).trans rfl; have hfz4_0 := blk_frozen BK139.out 0; have hfz4_1 := blk_frozen BK139.out 1; have hfz4_2 := blk_frozen BK139.out 2; have hfz4_3 := blk_frozen BK139.out 3)))
 go_loopg [5, 11] k (fun kq v5 v11 w' => ∃ (x5_1 : Int) (x11_1 : Int), v5 = .int .i64 x5_1 ∧ v11 = .int .i64 x11_1 ∧ Aside0 (spec_CronOffset.l0 kq a1 x5_1 l0_2 (l0_2.length : Int) x11_1 l0_0 l0_1 l0_2 l0_3 = some r) ∧ Aside0 (kq ≤ k) ∧ Aside0 (w'.heap[gb139]? = some (.cells #[(.slice A0_0 l0_0.length c0_0), (.slice A0_1 l0_1.length c0_1), (.slice A0_2 l0_2.length c0_2), (.slice A0_3 l0_3.length c0_3)] 29 (0, 0))) ∧ Aside0 (Below w.heap.size w w'))
 case atStart => exact ⟨(0), (0), (by first | rfl | (simp; done) | (simp [*]; done)), (by first | rfl | (simp; done) | (simp [*]; done)), H', ⟨Nat.le_refl _⟩, ⟨by (with_reducible repeat (first | refine blk_drewN ?_ _ | refine blk_drew ?_ | refine blk_alloc ?_ _)); exact BK139.out⟩, ⟨by repeat (first | (with_reducible first | exact HB.out | apply below_alloc | apply pw_below_drewN | apply below_drew1 | refine below_set ?_ GE139.out) | exact HB.out)⟩⟩
 case round =>
  clear H'
  try clear c1
  try clear p2
  try clear hcz4_0
  try clear hcz4_1
  try clear hcz4_2
  try clear hcz4_3
  try clear hfz4_0
  try clear hfz4_1
  try clear hfz4_2
  try clear hfz4_3
  obtain ⟨x5_1, x11_1, rfl, rfl, HA, HK1, BK139, HB⟩ := hrel
  cases gk with
  | zero => exact absurd HA.out (by simp [spec_CronOffset.l0])
  | succ k1 =>
   have H := HA.out
   clear HA
   simp only [spec_CronOffset.l0] at H
   by_cases c5 : x11_1 < (l0_2.length : Int)
   ·rw [if_pos c5] at H
    have c5b0 : decide (x11_1 < (l0_2.length : Int)) = true := decide_eq_true c5
    clear c5
    by_cases c6 : 0 ≤ x11_1
    ·rw [if_pos c6] at H
     have c6b0 : decide (0 ≤ x11_1) = true := decide_eq_true c6
     clear c6
     by_cases c7 : x11_1 < (l0_2.length : Int)
     ·rw [if_pos c7] at H
      have c7b0 : decide (x11_1 < (l0_2.length : Int)) = true := decide_eq_true c7
      clear c7
      by_cases c8 : (rd l0_2 x11_1) ≤ a1
      ·rw [if_pos c8] at H
       have c8b0 : decide ((rd l0_2 x11_1) ≤ a1) = true := decide_eq_true c8
       clear c8
       by_cases c9 : x11_1 < (l0_3.length : Int)
       ·rw [if_pos c9] at H
        have c9b0 : decide (x11_1 < (l0_3.length : Int)) = true := decide_eq_true c9
        clear c9
        by_cases c10 : 0 ≤ (rd l0_3 x11_1)
        ·rw [if_pos c10] at H
         have c10b0 : decide (0 ≤ (rd l0_3 x11_1)) = true := decide_eq_true c10
         clear c10
         by_cases c11 : (rd l0_3 x11_1) < (l0_0.length : Int)
         ·rw [if_pos c11] at H
          have c11b0 : decide ((rd l0_3 x11_1) < (l0_0.length : Int)) = true := decide_eq_true c11
          clear c11
          have H' := Aside0.mk H
          clear H
          have p140 : 0 ≤ (x11_1 : Int) := of_decide_eq_true (by first | (with_reducible assumption) | assumption)
          have q140 : x11_1 < (l0_2.length : Int) := of_decide_eq_true (by first | (with_reducible assumption) | assumption)
          obtain ⟨ad140, e140, hx140_0⟩ := Kd.at_int HR0_2.out x11_1 p140 q140
          cases e140
          replace hx140_0 := (HB.out.cell (World.block_lt_of_cell? w _ hx140_0)).trans hx140_0
          replace p140 := eq_true p140
          replace q140 := eq_true q140
          have hcz12_0 : wr.cell? ⟨gb139, 0, none⟩ = some (.slice A0_0 l0_0.length c0_0) := (blk_cell BK139.out 0).trans rfl
          have hcz12_1 : wr.cell? ⟨gb139, 1, none⟩ = some (.slice A0_1 l0_1.length c0_1) := (blk_cell BK139.out 1).trans rfl
          have hcz12_2 : wr.cell? ⟨gb139, 2, none⟩ = some (.slice (some ad140) l0_2.length c0_2) := (blk_cell BK139.out 2).trans rfl
          have hcz12_3 : wr.cell? ⟨gb139, 3, none⟩ = some (.slice A0_3 l0_3.length c0_3) := (blk_cell BK139.out 3).trans rfl
          have hfz12_0 := blk_frozen BK139.out 0
          have hfz12_1 := blk_frozen BK139.out 1
          have hfz12_2 := blk_frozen BK139.out 2
          have hfz12_3 := blk_frozen BK139.out 3
          have p141 : 0 ≤ (x11_1 : Int) := of_decide_eq_true (by first | (with_reducible assumption) | assumption)
          have q141 : x11_1 < (l0_3.length : Int) := of_decide_eq_true (by first | (with_reducible assumption) | assumption)
          obtain ⟨ad141, e141, hx141_0⟩ := Kd.at_int HR0_3.out x11_1 p141 q141
          cases e141
          replace hx141_0 := (HB.out.cell (World.block_lt_of_cell? w _ hx141_0)).trans hx141_0
          replace p141 := eq_true p141
          replace q141 := eq_true q141
          have p142 : 0 ≤ ((rd l0_3 x11_1) : Int) := of_decide_eq_true (by first | (with_reducible assumption) | assumption)
          have q142 : (rd l0_3 x11_1) < (l0_0.length : Int) := of_decide_eq_true (by first | (with_reducible assumption) | assumption)
          obtain ⟨ad142, e142, hx142_0⟩ := Kd.at_int HR0_0.out (rd l0_3 x11_1) p142 q142
          cases e142
          replace hx142_0 := (HB.out.cell (World.block_lt_of_cell? w _ hx142_0)).trans hx142_0
          replace p142 := eq_true p142
          replace q142 := eq_true q142
          go_wp2
          repeat (go_quiet (fail); try go_wp2)
          go_roundg k1
          case measure => have := HK1.out; omega
          case rel => exact ⟨(rd l0_0 (rd l0_3 x11_1)), (wrap64 (x11_1 + 1)), (by first | rfl | (simp; done) | (simp [*]; done)), (by first | rfl | (simp; done) | (simp [*]; done)), H', ⟨by have := HK1.out; omega⟩, ⟨by (with_reducible repeat (first | refine blk_drewN ?_ _ | refine blk_drew ?_ | refine blk_alloc ?_ _)); exact BK139.out⟩, ⟨by repeat (first | (with_reducible first | exact HB.out | apply below_alloc | apply pw_below_drewN | apply below_drew1 | refine below_set ?_ GE139.out) | exact HB.out)⟩⟩
         ·rw [if_neg c11] at H
          exact absurd H (by simp)
        ·rw [if_neg c10] at H
         exact absurd H (by simp)
       ·rw [if_neg c9] at H
        exact absurd H (by simp)
      ·rw [if_neg c8] at H
       have c8b0 : decide ((rd l0_2 x11_1) ≤ a1) = false := decide_eq_false c8
       clear c8
       have H' := Aside0.mk H
       clear H
       have p140 : 0 ≤ (x11_1 : Int) := of_decide_eq_true (by first | (with_reducible assumption) | assumption)
       have q140 : x11_1 < (l0_2.length : Int) := of_decide_eq_true (by first | (with_reducible assumption) | assumption)
       obtain ⟨ad140, e140, hx140_0⟩ := Kd.at_int HR0_2.out x11_1 p140 q140
       cases e140
       replace hx140_0 := (HB.out.cell (World.block_lt_of_cell? w _ hx140_0)).trans hx140_0
       replace p140 := eq_true p140
       replace q140 := eq_true q140
       go_wp2
       repeat (go_quiet (fail); try go_wp2)
       go_roundg k1
       case measure => have := HK1.out; omega
       case rel => exact ⟨(x5_1), (wrap64 (x11_1 + 1)), (by first | rfl | (simp; done) | (simp [*]; done)), (by first | rfl | (simp; done) | (simp [*]; done)), H', ⟨by have := HK1.out; omega⟩, ⟨by (with_reducible repeat (first | refine blk_drewN ?_ _ | refine blk_drew ?_ | refine blk_alloc ?_ _)); exact BK139.out⟩, ⟨by repeat (first | (with_reducible first | exact HB.out | apply below_alloc | apply pw_below_drewN | apply below_drew1 | refine below_set ?_ GE139.out) | exact HB.out)⟩⟩
     ·rw [if_neg c7] at H
      exact absurd H (by simp)
    ·rw [if_neg c6] at H
     exact absurd H (by simp)
   ·rw [if_neg c5] at H
    have c5b0 : decide (x11_1 < (l0_2.length : Int)) = false := decide_eq_false c5
    clear c5
    obtain rfl := Option.some.inj H
    go_wp2
    repeat (go_quiet (fail); try go_wp2)
    go_ret
    exact ⟨by first | rfl | (simp [errW_none, errW_some] <;> rfl) | (simp [*, errW_none, errW_some] <;> rfl), by repeat (first | (with_reducible first | exact HB.out | apply below_alloc | apply pw_below_drewN | apply below_drew1 | refine below_set ?_ GE139.out) | exact HB.out)⟩
end Go.Proofs.Ytlopkdhblfibkaa.Pr
namespace Go.Proofs.Ytlopkdhblfibkaa.Pr
open Go.RowKit Go.Proofs.YtlopkdhblfibkaaW.PrintWords Go.Proofs.YtlopkdhblfibkaaW.PrintLast
set_option linter.unusedVariables false
set_option linter.unusedSimpArgs false
def spec_CronChange.l0 : Nat → Int → List Int → Int → Int → Option (Int × Bool)
 | 0, _, _, _, _ => none
 | k + 1, x1, x9, x10, x11 => if x11 < x10 then (if 0 ≤ x11 then (if x11 < (x9.length : Int) then (if (rd x9 x11) > x1 then (some (rd x9 x11, true)) else (spec_CronChange.l0 k x1 x9 x10 (wrap64 (x11 + 1)))) else (none)) else (none)) else (some (0, false))
def spec_CronChange.f (k : Nat) (l0_0 : List Int) (l0_1 : List Bool) (l0_2 : List Int) (l0_3 : List Int) (a1 : Int) : Option (Int × Bool) := spec_CronChange.l0 k a1 l0_2 (l0_2.length : Int) 0
theorem spec_CronChange.mono_l : ∀ k, (∀ y0 y1 y2 y3, LeO (spec_CronChange.l0 k y0 y1 y2 y3) (spec_CronChange.l0 (k + 1) y0 y1 y2 y3))
 | 0 => fun _ _ _ _ r h => by simp [spec_CronChange.l0] at h
 | k + 1 => by
  have ih0 := spec_CronChange.mono_l k
  ·intro y0 y1 y2 y3
   unfold spec_CronChange.l0
   repeat' first
   | (with_reducible exact ih0 _ _ _ _)
   | (with_reducible exact LeO.refl _)
   | (with_reducible exact LeO.none _)
   | (with_reducible refine LeO.ite ?_ ?_)
   | (with_reducible refine LeO.bind ?_ (fun _ => ?_))
   | exact ih0 _ _ _ _
   | exact LeO.none _
   | refine LeO.ite ?_ ?_
   | refine LeO.bind ?_ (fun _ => ?_)
theorem spec_CronChange.mono : ∀ a0 a1 a2 a3 a4 k, LeO (spec_CronChange.f k a0 a1 a2 a3 a4) (spec_CronChange.f (k + 1) a0 a1 a2 a3 a4) := by
 intro a0 a1 a2 a3 a4 k
 have ih0 := spec_CronChange.mono_l k
 unfold spec_CronChange.f
 repeat' first
  | (with_reducible exact ih0 _ _ _ _)
  | (with_reducible exact LeO.refl _)
  | (with_reducible exact LeO.none _)
  | (with_reducible refine LeO.ite ?_ ?_)
  | (with_reducible refine LeO.bind ?_ (fun _ => ?_))
  | exact ih0 _ _ _ _
  | exact LeO.none _
  | refine LeO.ite ?_ ?_
  | refine LeO.bind ?_ (fun _ => ?_)
set_option maxHeartbeats 8000000 in
set_option maxRecDepth 100000 in
theorem spec_CronChange.calls (k : Nat) (A0_0 : Option Addr) (c0_0 : Nat) (l0_0 : List Int) (A0_1 : Option Addr) (c0_1 : Nat) (l0_1 : List Bool) (A0_2 : Option Addr) (c0_2 : Nat) (l0_2 : List Int) (A0_3 : Option Addr) (c0_3 : Nat) (l0_3 : List Int) (a1 : Int) (r1 : Int) (r2 : Bool) (w : World) (hr0_0 : Kd.C (Kd.int .i64) w A0_0 l0_0.length l0_0) (hc0_0 : l0_0.length ≤ c0_0) (hr0_1 : Kd.C Kd.bool w A0_1 l0_1.length l0_1) (hc0_1 : l0_1.length ≤ c0_1) (hr0_2 : Kd.C (Kd.int .i64) w A0_2 l0_2.length l0_2) (hc0_2 : l0_2.length ≤ c0_2) (hr0_3 : Kd.C (Kd.int .i64) w A0_3 l0_3.length l0_3) (hc0_3 : l0_3.length ≤ c0_3) (h : spec_CronChange.f k l0_0 l0_1 l0_2 l0_3 a1 = some (r1, r2)) :
  Calls Try.prog 16 #[.agg #[.slice A0_0 l0_0.length c0_0, .slice A0_1 l0_1.length c0_1, .slice A0_2 l0_2.length c0_2, .slice A0_3 l0_3.length c0_3], .int .i64 a1] w fun e w' => e = .returned (.tuple #[.int .i64 r1, .bool r2]) ∧ Below w.heap.size w w' := by
 have hu29 := Try.underlying29
 have HR0_0 := Aside0.mk hr0_0
 have HC0_0 := Aside0.mk hc0_0
 clear hr0_0 hc0_0
 have HR0_1 := Aside0.mk hr0_1
 have HC0_1 := Aside0.mk hc0_1
 clear hr0_1 hc0_1
 have HR0_2 := Aside0.mk hr0_2
 have HC0_2 := Aside0.mk hc0_2
 clear hr0_2 hc0_2
 have HR0_3 := Aside0.mk hr0_3
 have HC0_3 := Aside0.mk hc0_3
 clear hr0_3 hc0_3
 have HB := Aside0.mk (Below.refl w.heap.size w)
 have H : (spec_CronChange.l0 k a1 l0_2 (l0_2.length : Int) 0) = some (r1, r2) := h
 clear h
 have H' := Aside0.mk H
 clear H
 go_enter Try.func16, Try.ntmps16
 go_wp2_with (first | ((with_reducible refine gate_dst (N := 2) rfl ?_); refine box_event ?hg (N := 2) ?hd (cs := #[.slice A0_0 l0_0.length c0_0, .slice A0_1 l0_1.length c0_1, .slice A0_2 l0_2.length c0_2, .slice A0_3 l0_3.length c0_3]) (t := 29) ?hr ?_; (case hd => rfl); (case hg => rfl); (case hr => first | (go_simp; done) | (go_simp; rfl)); intro gb143 hg w3 hbox hb; have n0_ := Aside0.mk (below_step (by repeat (first | (with_reducible first | exact HB.out | apply below_alloc | apply pw_below_drewN | apply below_drew1) | exact HB.out)) hb); have n1_ := Aside0.mk (hbox); have n2_ := Aside0.mk ((by rw [hg]; exact (below_size (by repeat (first | (with_reducible first | exact HB.out | apply below_alloc | apply pw_below_drewN | apply below_drew1) | exact HB.out))) : w.heap.size ≤ gb143)); have n3_ := Aside0.mk ((by rw [hg]; exact (below_size (by repeat (first | (with_reducible first | exact HB.out | apply below_alloc | apply pw_below_drewN | apply below_drew1) | exact HB.out))) : w.heap.size ≤ gb143)); clear HB; have HB := n0_; have BK143 := n1_; have GW143 := n2_; have GE143 := n3_; clear n0_ n1_ n2_ n3_; clear hb hbox hg; have hcz4_0 : w3.cell? ⟨gb143, 0, none⟩ = some (.slice A0_0 l0_0.length c0_0) := (blk_cell BK143.out 0).trans rfl; have hcz4_1 : w3.cell? ⟨gb143, 1, none⟩ = some (.slice A0_1 l0_1.length c0_1) := (blk_cell BK143.out 1).trans rfl; have hcz4_2 : w3.cell? ⟨gb143, 2, none⟩ = some (.slice A0_2 l0_2.length c0_2) := (blk_cell BK143.out 2).trans rfl; have hcz4_3 : w3.cell? ⟨gb143, 3, none⟩ = some (.slice A0_3 l0_3.length c0_3) := (blk_cell BK143.out 3).trans rfl; have hfz4_0 := blk_frozen BK143.out 0; have hfz4_1 := blk_frozen BK143.out 1; have hfz4_2 := blk_frozen BK143.out 2; have hfz4_3 := blk_frozen BK143.out 3))
 go_loopg [11] k (fun kq v11 w' => ∃ (x11_1 : Int), v11 = .int .i64 x11_1 ∧ Aside0 (spec_CronChange.l0 kq a1 l0_2 (l0_2.length : Int) x11_1 = some (r1, r2)) ∧ Aside0 (kq ≤ k) ∧ Aside0 (w'.heap[gb143]? = some (.cells #[(.slice A0_0 l0_0.length c0_0), (.slice A0_1 l0_1.length c0_1), (.slice A0_2 l0_2.length c0_2), (.slice A0_3 l0_3.length c0_3)] 29 (0, 0))) ∧ Aside0 (Below w.heap.size w w'))
 case atStart => exact ⟨(0), (by first | rfl | (simp; done) | (simp [*]; done)), H', ⟨Nat.le_refl _⟩, ⟨by (with_reducible repeat (first | refine blk_drewN ?_ _ | refine blk_drew ?_ | refine blk_alloc ?_ _)); exact BK143.out⟩, ⟨by repeat (first | (with_reducible first | exact HB.out | apply below_alloc | apply pw_below_drewN | apply below_drew1 | refine below_set ?_ GE143.out) | exact HB.out)⟩⟩
 case round =>
  clear H'
  try clear c1
  try clear p2
  try clear hcz4_0
  try clear hcz4_1
  try clear hcz4_2
  try clear hcz4_3
  try clear hfz4_0
  try clear hfz4_1
  try clear hfz4_2
  try clear hfz4_3
  obtain ⟨x11_1, rfl, HA, HK1, BK143, HB⟩ := hrel
  cases gk with
  | zero => exact absurd HA.out (by simp [spec_CronChange.l0])
  | succ k1 =>
   have H := HA.out
   clear HA
   simp only [spec_CronChange.l0] at H
   by_cases c5 : x11_1 < (l0_2.length : Int)
   ·rw [if_pos c5] at H
    have c5b0 : decide (x11_1 < (l0_2.length : Int)) = true := decide_eq_true c5
    clear c5
    by_cases c6 : 0 ≤ x11_1
    ·rw [if_pos c6] at H
     have c6b0 : decide (0 ≤ x11_1) = true := decide_eq_true c6
     clear c6
     by_cases c7 : x11_1 < (l0_2.length : Int)
     ·rw [if_pos c7] at H
      have c7b0 : decide (x11_1 < (l0_2.length : Int)) = true := decide_eq_true c7
      clear c7
      by_cases c8 : (rd l0_2 x11_1) > a1
      ·rw [if_pos c8] at H
       have c8b0 : decide (a1 < (rd l0_2 x11_1)) = true := decide_eq_true c8
       clear c8
       simp only [Option.some.injEq, Prod.mk.injEq] at H
       obtain ⟨rfl, rfl⟩ := H
       have p144 : 0 ≤ (x11_1 : Int) := of_decide_eq_true (by first | (with_reducible assumption) | assumption)
       have q144 : x11_1 < (l0_2.length : Int) := of_decide_eq_true (by first | (with_reducible assumption) | assumption)
       obtain ⟨ad144, e144, hx144_0⟩ := Kd.at_int HR0_2.out x11_1 p144 q144
       cases e144
       replace hx144_0 := (HB.out.cell (World.block_lt_of_cell? w _ hx144_0)).trans hx144_0
       replace p144 := eq_true p144
       replace q144 := eq_true q144
       go_wp2
       go_ret2
       exact ⟨by first | rfl | (simp [errW_none, errW_some] <;> rfl) | (simp [*, errW_none, errW_some] <;> rfl), by repeat (first | (with_reducible first | exact HB.out | apply below_alloc | apply pw_below_drewN | apply below_drew1 | refine below_set ?_ GE143.out) | exact HB.out)⟩
      ·rw [if_neg c8] at H
       have c8b0 : decide (a1 < (rd l0_2 x11_1)) = false := decide_eq_false c8
       clear c8
       have H' := Aside0.mk H
       clear H
       have p144 : 0 ≤ (x11_1 : Int) := of_decide_eq_true (by first | (with_reducible assumption) | assumption)
       have q144 : x11_1 < (l0_2.length : Int) := of_decide_eq_true (by first | (with_reducible assumption) | assumption)
       obtain ⟨ad144, e144, hx144_0⟩ := Kd.at_int HR0_2.out x11_1 p144 q144
       cases e144
       replace hx144_0 := (HB.out.cell (World.block_lt_of_cell? w _ hx144_0)).trans hx144_0
       replace p144 := eq_true p144
       replace q144 := eq_true q144
       go_wp2
       go_roundg k1
       case measure => have := HK1.out; omega
       case rel => exact ⟨(wrap64 (x11_1 + 1)), (by first | rfl | (simp; done) | (simp [*]; done)), H', ⟨by have := HK1.out; omega⟩, ⟨by (with_reducible repeat (first | refine blk_drewN ?_ _ | refine blk_drew ?_ | refine blk_alloc ?_ _)); exact BK143.out⟩, ⟨by repeat (first | (with_reducible first | exact HB.out | apply below_alloc | apply pw_below_drewN | apply below_drew1 | refine below_set ?_ GE143.out) | exact HB.out)⟩⟩
     ·rw [if_neg c7] at H
      exact absurd H (by simp)
    ·rw [if_neg c6] at H
     exact absurd H (by simp)
   ·rw [if_neg c5] at H
    have c5b0 : decide (x11_1 < (l0_2.length : Int)) = false := decide_eq_false c5
    clear c5
    simp only [Option.some.injEq, Prod.mk.injEq] at H
    obtain ⟨rfl, rfl⟩ := H
    go_wp2
    go_ret2
    exact ⟨by first | rfl | (simp [errW_none, errW_some] <;> rfl) | (simp [*, errW_none, errW_some] <;> rfl), by repeat (first | (with_reducible first | exact HB.out | apply below_alloc | apply pw_below_drewN | apply below_drew1 | refine below_set ?_ GE143.out) | exact HB.out)⟩
end Go.Proofs.Ytlopkdhblfibkaa.Pr
namespace Go.Proofs.Ytlopkdhblfibkaa.Pr
open Go.RowKit Go.Proofs.YtlopkdhblfibkaaW.PrintWords Go.Proofs.YtlopkdhblfibkaaW.PrintLast
set_option linter.unusedVariables false
set_option linter.unusedSimpArgs false
mutual
def spec_GoodZone.j0 : Nat → Bool → List Int → List Bool → List Int → List Int → Option (Bool)
 | 0, _, _, _, _, _ => none
 | k + 1, x67, x107000, x107001, x107002, x107003 => if x67 = true then (some false) else (spec_GoodZone.l0 k x107000 (x107000.length : Int) 0 x107000 x107001 x107002 x107003)
def spec_GoodZone.l0 : Nat → List Int → Int → Int → List Int → List Bool → List Int → List Int → Option (Bool)
 | 0, _, _, _, _, _, _, _ => none
 | k + 1, x69, x70, x71, x107000, x107001, x107002, x107003 => if x71 < x70 then (if 0 ≤ x71 then (if x71 < (x69.length : Int) then (if (rd x69 x71) < (-86400) then (some false) else (if (rd x69 x71) > 86400 then (some false) else (spec_GoodZone.l0 k x69 x70 (wrap64 (x71 + 1)) x107000 x107001 x107002 x107003))) else (none)) else (none)) else (spec_GoodZone.l1 k x107003 (x107003.length : Int) 0 x107000 x107001 x107002 x107003)
def spec_GoodZone.l1 : Nat → List Int → Int → Int → List Int → List Bool → List Int → List Int → Option (Bool)
 | 0, _, _, _, _, _, _, _ => none
 | k + 1, x83, x84, x85, x107000, x107001, x107002, x107003 => if x85 < x84 then (if 0 ≤ x85 then (if x85 < (x83.length : Int) then (if (rd x83 x85) < 0 then (some false) else (if (rd x83 x85) ≥ (x107000.length : Int) then (some false) else (if x85 > 0 then (if 0 ≤ (wrap64 (x85 - 1)) then (if (wrap64 (x85 - 1)) < (x107002.length : Int) then (if x85 < (x107002.length : Int) then (if (rd x107002 (wrap64 (x85 - 1))) ≥ (rd x107002 x85) then (some false) else (spec_GoodZone.l1 k x83 x84 (wrap64 (x85 + 1)) x107000 x107001 x107002 x107003)) else (none)) else (none)) else (none)) else (spec_GoodZone.l1 k x83 x84 (wrap64 (x85 + 1)) x107000 x107001 x107002 x107003)))) else (none)) else (none)) else (some true)
end
def spec_GoodZone.f (k : Nat) (l0_0 : List Int) (l0_1 : List Bool) (l0_2 : List Int) (l0_3 : List Int) : Option (Bool) := if (l0_0.length : Int) = 0 then (if (l0_1.length : Int) = 0 then (if (l0_2.length : Int) = 0 then (some ((l0_3.length : Int) == 0)) else (some false)) else (some false)) else (if (l0_0.length : Int) > 64 then (spec_GoodZone.j0 k true l0_0 l0_1 l0_2 l0_3) else (if (l0_1.length : Int) = (l0_0.length : Int) then (if (l0_2.length : Int) = 0 then (spec_GoodZone.j0 k true l0_0 l0_1 l0_2 l0_3) else (if (l0_2.length : Int) > 4096 then (spec_GoodZone.j0 k true l0_0 l0_1 l0_2 l0_3) else (if (l0_3.length : Int) = (l0_2.length : Int) then (if 0 < (l0_2.length : Int) then (spec_GoodZone.j0 k ((rd l0_2 0) != (-9223372036854775808)) l0_0 l0_1 l0_2 l0_3) else (none)) else (spec_GoodZone.j0 k true l0_0 l0_1 l0_2 l0_3)))) else (spec_GoodZone.j0 k true l0_0 l0_1 l0_2 l0_3)))
theorem spec_GoodZone.mono_l : ∀ k, (∀ y0 y1 y2 y3 y4, LeO (spec_GoodZone.j0 k y0 y1 y2 y3 y4) (spec_GoodZone.j0 (k + 1) y0 y1 y2 y3 y4)) ∧ (∀ y0 y1 y2 y3 y4 y5 y6, LeO (spec_GoodZone.l0 k y0 y1 y2 y3 y4 y5 y6) (spec_GoodZone.l0 (k + 1) y0 y1 y2 y3 y4 y5 y6)) ∧ (∀ y0 y1 y2 y3 y4 y5 y6, LeO (spec_GoodZone.l1 k y0 y1 y2 y3 y4 y5 y6) (spec_GoodZone.l1 (k + 1) y0 y1 y2 y3 y4 y5 y6))
 | 0 => ⟨fun _ _ _ _ _ r h => by simp [spec_GoodZone.j0] at h, fun _ _ _ _ _ _ _ r h => by simp [spec_GoodZone.l0] at h, fun _ _ _ _ _ _ _ r h => by simp [spec_GoodZone.l1] at h⟩
 | k + 1 => by
  obtain ⟨ih0, ih1, ih2⟩ := spec_GoodZone.mono_l k
  refine ⟨?_, ?_, ?_⟩
  ·intro y0 y1 y2 y3 y4
   unfold spec_GoodZone.j0
   repeat' first
   | (with_reducible exact ih0 _ _ _ _ _)
   | (with_reducible exact ih1 _ _ _ _ _ _ _)
   | (with_reducible exact ih2 _ _ _ _ _ _ _)
   | (with_reducible exact LeO.refl _)
   | (with_reducible exact LeO.none _)
   | (with_reducible refine LeO.ite ?_ ?_)
   | (with_reducible refine LeO.bind ?_ (fun _ => ?_))
   | exact ih0 _ _ _ _ _
   | exact ih1 _ _ _ _ _ _ _
   | exact ih2 _ _ _ _ _ _ _
   | exact LeO.none _
   | refine LeO.ite ?_ ?_
   | refine LeO.bind ?_ (fun _ => ?_)
  ·intro y0 y1 y2 y3 y4 y5 y6
   unfold spec_GoodZone.l0
   repeat' first
   | (with_reducible exact ih0 _ _ _ _ _)
   | (with_reducible exact ih1 _ _ _ _ _ _ _)
   | (with_reducible exact ih2 _ _ _ _ _ _ _)
   | (with_reducible exact LeO.refl _)
   | (with_reducible exact LeO.none _)
   | (with_reducible refine LeO.ite ?_ ?_)
   | (with_reducible refine LeO.bind ?_ (fun _ => ?_))
   | exact ih0 _ _ _ _ _
   | exact ih1 _ _ _ _ _ _ _
   | exact ih2 _ _ _ _ _ _ _
   | exact LeO.none _
   | refine LeO.ite ?_ ?_
   | refine LeO.bind ?_ (fun _ => ?_)
  ·intro y0 y1 y2 y3 y4 y5 y6
   unfold spec_GoodZone.l1
   repeat' first
   | (with_reducible exact ih0 _ _ _ _ _)
   | (with_reducible exact ih1 _ _ _ _ _ _ _)
   | (with_reducible exact ih2 _ _ _ _ _ _ _)
   | (with_reducible exact LeO.refl _)
   | (with_reducible exact LeO.none _)
   | (with_reducible refine LeO.ite ?_ ?_)
   | (with_reducible refine LeO.bind ?_ (fun _ => ?_))
   | exact ih0 _ _ _ _ _
   | exact ih1 _ _ _ _ _ _ _
   | exact ih2 _ _ _ _ _ _ _
   | exact LeO.none _
   | refine LeO.ite ?_ ?_
   | refine LeO.bind ?_ (fun _ => ?_)
theorem spec_GoodZone.mono : ∀ a0 a1 a2 a3 k, LeO (spec_GoodZone.f k a0 a1 a2 a3) (spec_GoodZone.f (k + 1) a0 a1 a2 a3) := by
 intro a0 a1 a2 a3 k
 obtain ⟨ih0, ih1, ih2⟩ := spec_GoodZone.mono_l k
 unfold spec_GoodZone.f
 repeat' first
  | (with_reducible exact ih0 _ _ _ _ _)
  | (with_reducible exact ih1 _ _ _ _ _ _ _)
  | (with_reducible exact ih2 _ _ _ _ _ _ _)
  | (with_reducible exact LeO.refl _)
  | (with_reducible exact LeO.none _)
  | (with_reducible refine LeO.ite ?_ ?_)
  | (with_reducible refine LeO.bind ?_ (fun _ => ?_))
  | exact ih0 _ _ _ _ _
  | exact ih1 _ _ _ _ _ _ _
  | exact ih2 _ _ _ _ _ _ _
  | exact LeO.none _
  | refine LeO.ite ?_ ?_
  | refine LeO.bind ?_ (fun _ => ?_)
set_option maxHeartbeats 8000000 in
set_option maxRecDepth 100000 in
theorem spec_GoodZone.calls (k : Nat) (A0_0 : Option Addr) (c0_0 : Nat) (l0_0 : List Int) (A0_1 : Option Addr) (c0_1 : Nat) (l0_1 : List Bool) (A0_2 : Option Addr) (c0_2 : Nat) (l0_2 : List Int) (A0_3 : Option Addr) (c0_3 : Nat) (l0_3 : List Int) (r : Bool) (w : World) (hr0_0 : Kd.C (Kd.int .i64) w A0_0 l0_0.length l0_0) (hc0_0 : l0_0.length ≤ c0_0) (hr0_1 : Kd.C Kd.bool w A0_1 l0_1.length l0_1) (hc0_1 : l0_1.length ≤ c0_1) (hr0_2 : Kd.C (Kd.int .i64) w A0_2 l0_2.length l0_2) (hc0_2 : l0_2.length ≤ c0_2) (hr0_3 : Kd.C (Kd.int .i64) w A0_3 l0_3.length l0_3) (hc0_3 : l0_3.length ≤ c0_3) (h : spec_GoodZone.f k l0_0 l0_1 l0_2 l0_3 = some r) :
  Calls Try.prog 6 #[.agg #[.slice A0_0 l0_0.length c0_0, .slice A0_1 l0_1.length c0_1, .slice A0_2 l0_2.length c0_2, .slice A0_3 l0_3.length c0_3]] w fun e w' => e = .returned (.bool r) ∧ Below w.heap.size w w' := by
 have hu29 := Try.underlying29
 have HR0_0 := Aside0.mk hr0_0
 have HC0_0 := Aside0.mk hc0_0
 clear hr0_0 hc0_0
 have HR0_1 := Aside0.mk hr0_1
 have HC0_1 := Aside0.mk hc0_1
 clear hr0_1 hc0_1
 have HR0_2 := Aside0.mk hr0_2
 have HC0_2 := Aside0.mk hc0_2
 clear hr0_2 hc0_2
 have HR0_3 := Aside0.mk hr0_3
 have HC0_3 := Aside0.mk hc0_3
 clear hr0_3 hc0_3
 have HB := Aside0.mk (Below.refl w.heap.size w)
 have H : (if (l0_0.length : Int) = 0 then (if (l0_1.length : Int) = 0 then (if (l0_2.length : Int) = 0 then (some ((l0_3.length : Int) == 0)) else (some false)) else (some false)) else (if (l0_0.length : Int) > 64 then (spec_GoodZone.j0 k true l0_0 l0_1 l0_2 l0_3) else (if (l0_1.length : Int) = (l0_0.length : Int) then (if (l0_2.length : Int) = 0 then (spec_GoodZone.j0 k true l0_0 l0_1 l0_2 l0_3) else (if (l0_2.length : Int) > 4096 then (spec_GoodZone.j0 k true l0_0 l0_1 l0_2 l0_3) else (if (l0_3.length : Int) = (l0_2.length : Int) then (if 0 < (l0_2.length : Int) then (spec_GoodZone.j0 k ((rd l0_2 0) != (-9223372036854775808)) l0_0 l0_1 l0_2 l0_3) else (none)) else (spec_GoodZone.j0 k true l0_0 l0_1 l0_2 l0_3)))) else (spec_GoodZone.j0 k true l0_0 l0_1 l0_2 l0_3)))) = some r := h
 clear h
 by_cases c2 : (l0_0.length : Int) = 0
 ·rw [if_pos c2] at H
  have c2b0 : ((l0_0.length : Int) == 0) = true := beq_iff_eq.mpr c2
  have c2b1 : ((l0_0.length : Int) != 0) = false := bne_eq_false_iff_eq.mpr c2
  clear c2
  by_cases c3 : (l0_1.length : Int) = 0
  ·rw [if_pos c3] at H
   have c3b0 : ((l0_1.length : Int) == 0) = true := beq_iff_eq.mpr c3
   have c3b1 : ((l0_1.length : Int) != 0) = false := bne_eq_false_iff_eq.mpr c3
   clear c3
   by_cases c4 : (l0_2.length : Int) = 0
   ·rw [if_pos c4] at H
    have c4b0 : ((l0_2.length : Int) == 0) = true := beq_iff_eq.mpr c4
    have c4b1 : ((l0_2.length : Int) != 0) = false := bne_eq_false_iff_eq.mpr c4
    clear c4
    obtain rfl := Option.some.inj H
    go_enter Try.func6, Try.ntmps6
    go_wp2_with (first | ((with_reducible refine gate_dst (N := 1) rfl ?_); (try (refine gate_guard (by rfl) ?_; dsimp only)); refine box_event ?hg (N := 1) ?hd (cs := #[.slice A0_0 l0_0.length c0_0, .slice A0_1 l0_1.length c0_1, .slice A0_2 l0_2.length c0_2, .slice A0_3 l0_3.length c0_3]) (t := 29) ?hr ?_; (case hd => rfl); (case hg => rfl); (case hr => first | (go_simp; done) | (go_simp; rfl)); intro gb106 hg w5 hbox hb; have n0_ := Aside0.mk (below_step (by repeat (first | (with_reducible first | exact HB.out | apply below_alloc | apply pw_below_drewN | apply below_drew1) | exact HB.out)) hb); have n1_ := Aside0.mk (hbox); have n2_ := Aside0.mk ((by rw [hg]; exact (below_size (by repeat (first | (with_reducible first | exact HB.out | apply below_alloc | apply pw_below_drewN | apply below_drew1) | exact HB.out))) : w.heap.size ≤ gb106)); have n3_ := Aside0.mk ((by rw [hg]; exact (below_size (by repeat (first | (with_reducible first | exact HB.out | apply below_alloc | apply pw_below_drewN | apply below_drew1) | exact HB.out))) : w.heap.size ≤ gb106)); clear HB; have HB := n0_; have BK106 := n1_; have GW106 := n2_; have GE106 := n3_; clear n0_ n1_ n2_ n3_; clear hb hbox hg; have hcz6_0 : w5.cell? ⟨gb106, 0, none⟩ = some (.slice A0_0 l0_0.length c0_0) := (blk_cell BK106.out 0).trans rfl; have hcz6_1 : w5.cell? ⟨gb106, 1, none⟩ = some (.slice A0_1 l0_1.length c0_1) := (blk_cell BK106.out 1).trans rfl; have hcz6_2 : w5.cell? ⟨gb106, 2, none⟩ = some (.slice A0_2 l0_2.length c0_2) := (blk_cell BK106.out 2).trans rfl; have hcz6_3 : w5.cell? ⟨gb106, 3, none⟩ = some (.slice A0_3 l0_3.length c0_3) := (blk_cell BK106.out 3).trans rfl; have hfz6_0 := blk_frozen BK106.out 0; have hfz6_1 := blk_frozen BK106.out 1; have hfz6_2 := blk_frozen BK106.out 2; have hfz6_3 := blk_frozen BK106.out 3))
    repeat (go_quiet (first | ((with_reducible refine gate_dst (N := 1) rfl ?_); (try (refine gate_guard (by rfl) ?_; dsimp only)); refine box_event ?hg (N := 1) ?hd (cs := #[.slice A0_0 l0_0.length c0_0, .slice A0_1 l0_1.length c0_1, .slice A0_2 l0_2.length c0_2, .slice A0_3 l0_3.length c0_3]) (t := 29) ?hr ?_; (case hd => rfl); (case hg => rfl); (case hr => first | (go_simp; done) | (go_simp; rfl)); intro gb106 hg w5 hbox hb; have n0_ := Aside0.mk (below_step (by repeat (first | (with_reducible first | exact HB.out | apply below_alloc | apply pw_below_drewN | apply below_drew1) | exact HB.out)) hb); have n1_ := Aside0.mk (hbox); have n2_ := Aside0.mk ((by rw [hg]; exact (below_size (by repeat (first | (with_reducible first | exact HB.out | apply below_alloc | apply pw_below_drewN | apply below_drew1) | exact HB.out))) : w.heap.size ≤ gb106)); have n3_ := Aside0.mk ((by rw [hg]; exact (below_size (by repeat (first | (with_reducible first | exact HB.out | apply below_alloc | apply pw_below_drewN | apply below_drew1) | exact HB.out))) : w.heap.size ≤ gb106)); clear HB; have HB := n0_; have BK106 := n1_; have GW106 := n2_; have GE106 := n3_; clear n0_ n1_ n2_ n3_; clear hb hbox hg; have hcz6_0 : w5.cell? ⟨gb106, 0, none⟩ = some (.slice A0_0 l0_0.length c0_0) := (blk_cell BK106.out 0).trans rfl; have hcz6_1 : w5.cell? ⟨gb106, 1, none⟩ = some (.slice A0_1 l0_1.length c0_1) := (blk_cell BK106.out 1).trans rfl; have hcz6_2 : w5.cell? ⟨gb106, 2, none⟩ = some (.slice A0_2 l0_2.length c0_2) := (blk_cell BK106.out 2).trans rfl; have hcz6_3 : w5.cell? ⟨gb106, 3, none⟩ = some (.slice A0_3 l0_3.length c0_3) := (blk_cell BK106.out 3).trans rfl; have hfz6_0 := blk_frozen BK106.out 0; have hfz6_1 := blk_frozen BK106.out 1; have hfz6_2 := blk_frozen BK106.out 2; have hfz6_3 := blk_frozen BK106.out 3)); try go_wp2_with (first | ((with_reducible refine gate_dst (N := 1) rfl ?_); (try (refine gate_guard (by rfl) ?_; dsimp only)); refine box_event ?hg (N := 1) ?hd (cs := #[.slice A0_0 l0_0.length c0_0, .slice A0_1 l0_1.length c0_1, .slice A0_2 l0_2.length c0_2, .slice A0_3 l0_3.length c0_3]) (t := 29) ?hr ?_; (case hd => rfl); (case hg => rfl); (case hr => first | (go_simp; done) | (go_simp; rfl)); intro gb106 hg w5 hbox hb; have n0_ := Aside0.mk (below_step (by repeat (first | (with_reducible first | exact HB.out | apply below_alloc | apply pw_below_drewN | apply below_drew1) | exact HB.out)) hb); have n1_ := Aside0.mk (hbox); have n2_ := Aside0.mk ((by rw [hg]; exact (below_size (by repeat (first | (with_reducible first | exact HB.out | apply below_alloc | apply pw_below_drewN | apply below_drew1) | exact HB.out))) : w.heap.size ≤ gb106)); have n3_ := Aside0.mk ((by rw [hg]; exact (below_size (by repeat (first | (with_reducible first | exact HB.out | apply below_alloc | apply pw_below_drewN | apply below_drew1) | exact HB.out))) : w.heap.size ≤ gb106)); clear HB; have HB := n0_; have BK106 := n1_; have GW106 := n2_; have GE106 := n3_; clear n0_ n1_ n2_ n3_; clear hb hbox hg; have hcz6_0 : w5.cell? ⟨gb106, 0, none⟩ = some (.slice A0_0 l0_0.length c0_0) := (blk_cell BK106.out 0).trans rfl; have hcz6_1 : w5.cell? ⟨gb106, 1, none⟩ = some (.slice A0_1 l0_1.length c0_1) := (blk_cell BK106.out 1).trans rfl; have hcz6_2 : w5.cell? ⟨gb106, 2, none⟩ = some (.slice A0_2 l0_2.length c0_2) := (blk_cell BK106.out 2).trans rfl; have hcz6_3 : w5.cell? ⟨gb106, 3, none⟩ = some (.slice A0_3 l0_3.length c0_3) := (blk_cell BK106.out 3).trans rfl; have hfz6_0 := blk_frozen BK106.out 0; have hfz6_1 := blk_frozen BK106.out 1; have hfz6_2 := blk_frozen BK106.out 2; have hfz6_3 := blk_frozen BK106.out 3)))
    go_ret
    exact ⟨by first | rfl | (simp [errW_none, errW_some] <;> rfl) | (simp [*, errW_none, errW_some] <;> rfl), by repeat (first | (with_reducible first | exact HB.out | apply below_alloc | apply pw_below_drewN | apply below_drew1 | refine below_set ?_ GE106.out) | exact HB.out)⟩
   ·rw [if_neg c4] at H
    have c4b0 : ((l0_2.length : Int) == 0) = false := beq_eq_false_iff_ne.mpr c4
    have c4b1 : ((l0_2.length : Int) != 0) = true := bne_iff_ne.mpr c4
    have c4b2 : ¬ (l0_2 = []) := fun h_ => c4 (by rw [h_]; rfl)
    obtain rfl := Option.some.inj H
    go_enter Try.func6, Try.ntmps6
    go_wp2_with (first | ((with_reducible refine gate_dst (N := 1) rfl ?_); (try (refine gate_guard (by rfl) ?_; dsimp only)); refine box_event ?hg (N := 1) ?hd (cs := #[.slice A0_0 l0_0.length c0_0, .slice A0_1 l0_1.length c0_1, .slice A0_2 l0_2.length c0_2, .slice A0_3 l0_3.length c0_3]) (t := 29) ?hr ?_; (case hd => rfl); (case hg => rfl); (case hr => first | (go_simp; done) | (go_simp; rfl)); intro gb106 hg w7 hbox hb; have n0_ := Aside0.mk (below_step (by repeat (first | (with_reducible first | exact HB.out | apply below_alloc | apply pw_below_drewN | apply below_drew1) | exact HB.out)) hb); have n1_ := Aside0.mk (hbox); have n2_ := Aside0.mk ((by rw [hg]; exact (below_size (by repeat (first | (with_reducible first | exact HB.out | apply below_alloc | apply pw_below_drewN | apply below_drew1) | exact HB.out))) : w.heap.size ≤ gb106)); have n3_ := Aside0.mk ((by rw [hg]; exact (below_size (by repeat (first | (with_reducible first | exact HB.out | apply below_alloc | apply pw_below_drewN | apply below_drew1) | exact HB.out))) : w.heap.size ≤ gb106)); clear HB; have HB := n0_; have BK106 := n1_; have GW106 := n2_; have GE106 := n3_; clear n0_ n1_ n2_ n3_; clear hb hbox hg; have hcz8_0 : w7.cell? ⟨gb106, 0, none⟩ = some (.slice A0_0 l0_0.length c0_0) := (blk_cell BK106.out 0).trans rfl; have hcz8_1 : w7.cell? ⟨gb106, 1, none⟩ = some (.slice A0_1 l0_1.length c0_1) := (blk_cell BK106.out 1).trans rfl; have hcz8_2 : w7.cell? ⟨gb106, 2, none⟩ = some (.slice A0_2 l0_2.length c0_2) := (blk_cell BK106.out 2).trans rfl; have hcz8_3 : w7.cell? ⟨gb106, 3, none⟩ = some (.slice A0_3 l0_3.length c0_3) := (blk_cell BK106.out 3).trans rfl; have hfz8_0 := blk_frozen BK106.out 0; have hfz8_1 := blk_frozen BK106.out 1; have hfz8_2 := blk_frozen BK106.out 2; have hfz8_3 := blk_frozen BK106.out 3))
    repeat (go_quiet (first | ((with_reducible refine gate_dst (N := 1) rfl ?_); (try (refine gate_guard (by rfl) ?_; dsimp only)); refine box_event ?hg (N := 1) ?hd (cs := #[.slice A0_0 l0_0.length c0_0, .slice A0_1 l0_1.length c0_1, .slice A0_2 l0_2.length c0_2, .slice A0_3 l0_3.length c0_3]) (t := 29) ?hr ?_; (case hd => rfl); (case hg => rfl); (case hr => first | (go_simp; done) | (go_simp; rfl)); intro gb106 hg w7 hbox hb; have n0_ := Aside0.mk (below_step (by repeat (first | (with_reducible first | exact HB.out | apply below_alloc | apply pw_below_drewN | apply below_drew1) | exact HB.out)) hb); have n1_ := Aside0.mk (hbox); have n2_ := Aside0.mk ((by rw [hg]; exact (below_size (by repeat (first | (with_reducible first | exact HB.out | apply below_alloc | apply pw_below_drewN | apply below_drew1) | exact HB.out))) : w.heap.size ≤ gb106)); have n3_ := Aside0.mk ((by rw [hg]; exact (below_size (by repeat (first | (with_reducible first | exact HB.out | apply below_alloc | apply pw_below_drewN | apply below_drew1) | exact HB.out))) : w.heap.size ≤ gb106)); clear HB; have HB := n0_; have BK106 := n1_; have GW106 := n2_; have GE106 := n3_; clear n0_ n1_ n2_ n3_; clear hb hbox hg; have hcz8_0 : w7.cell? ⟨gb106, 0, none⟩ = some (.slice A0_0 l0_0.length c0_0) := (blk_cell BK106.out 0).trans rfl; have hcz8_1 : w7.cell? ⟨gb106, 1, none⟩ = some (.slice A0_1 l0_1.length c0_1) := (blk_cell BK106.out 1).trans rfl; have hcz8_2 : w7.cell? ⟨gb106, 2, none⟩ = some (.slice A0_2 l0_2.length c0_2) := (blk_cell BK106.out 2).trans rfl; have hcz8_3 : w7.cell? ⟨gb106, 3, none⟩ = some (.slice A0_3 l0_3.length c0_3) := (blk_cell BK106.out 3).trans rfl; have hfz8_0 := blk_frozen BK106.out 0; have hfz8_1 := blk_frozen BK106.out 1; have hfz8_2 := blk_frozen BK106.out 2; have hfz8_3 := blk_frozen BK106.out 3)); try go_wp2_with (first | ((with_reducible refine gate_dst (N := 1) rfl ?_); (try (refine gate_guard (by rfl) ?_; dsimp only)); refine box_event ?hg (N := 1) ?hd (cs := #[.slice A0_0 l0_0.length c0_0, .slice A0_1 l0_1.length c0_1, .slice A0_2 l0_2.length c0_2, .slice A0_3 l0_3.length c0_3]) (t := 29) ?hr ?_; (case hd => rfl); (case hg => rfl); (case hr => first | (go_simp; done) | (go_simp; rfl)); intro gb106 hg w7 hbox hb; have n0_ := Aside0.mk (below_step (by repeat (first | (with_reducible first | exact HB.out | apply below_alloc | apply pw_below_drewN | apply below_drew1) | exact HB.out)) hb); have n1_ := Aside0.mk (hbox); have n2_ := Aside0.mk ((by rw [hg]; exact (below_size (by repeat (first | (with_reducible first | exact HB.out | apply below_alloc | apply pw_below_drewN | apply below_drew1) | exact HB.out))) : w.heap.size ≤ gb106)); have n3_ := Aside0.mk ((by rw [hg]; exact (below_size (by repeat (first | (with_reducible first | exact HB.out | apply below_alloc | apply pw_below_drewN | apply below_drew1) | exact HB.out))) : w.heap.size ≤ gb106)); clear HB; have HB := n0_; have BK106 := n1_; have GW106 := n2_; have GE106 := n3_; clear n0_ n1_ n2_ n3_; clear hb hbox hg; have hcz8_0 : w7.cell? ⟨gb106, 0, none⟩ = some (.slice A0_0 l0_0.length c0_0) := (blk_cell BK106.out 0).trans rfl; have hcz8_1 : w7.cell? ⟨gb106, 1, none⟩ = some (.slice A0_1 l0_1.length c0_1) := (blk_cell BK106.out 1).trans rfl; have hcz8_2 : w7.cell? ⟨gb106, 2, none⟩ = some (.slice A0_2 l0_2.length c0_2) := (blk_cell BK106.out 2).trans rfl; have hcz8_3 : w7.cell? ⟨gb106, 3, none⟩ = some (.slice A0_3 l0_3.length c0_3) := (blk_cell BK106.out 3).trans rfl; have hfz8_0 := blk_frozen BK106.out 0; have hfz8_1 := blk_frozen BK106.out 1; have hfz8_2 := blk_frozen BK106.out 2; have hfz8_3 := blk_frozen BK106.out 3)))
    go_ret
    exact ⟨by first | rfl | (simp [errW_none, errW_some] <;> rfl) | (simp [*, errW_none, errW_some] <;> rfl), by repeat (first | (with_reducible first | exact HB.out | apply below_alloc | apply pw_below_drewN | apply below_drew1 | refine below_set ?_ GE106.out) | exact HB.out)⟩
  ·rw [if_neg c3] at H
   have c3b0 : ((l0_1.length : Int) == 0) = false := beq_eq_false_iff_ne.mpr c3
   have c3b1 : ((l0_1.length : Int) != 0) = true := bne_iff_ne.mpr c3
   have c3b2 : ¬ (l0_1 = []) := fun h_ => c3 (by rw [h_]; rfl)
   obtain rfl := Option.some.inj H
   go_enter Try.func6, Try.ntmps6
   go_wp2_with (first | ((with_reducible refine gate_dst (N := 1) rfl ?_); (try (refine gate_guard (by rfl) ?_; dsimp only)); refine box_event ?hg (N := 1) ?hd (cs := #[.slice A0_0 l0_0.length c0_0, .slice A0_1 l0_1.length c0_1, .slice A0_2 l0_2.length c0_2, .slice A0_3 l0_3.length c0_3]) (t := 29) ?hr ?_; (case hd => rfl); (case hg => rfl); (case hr => first | (go_simp; done) | (go_simp; rfl)); intro gb106 hg w9 hbox hb; have n0_ := Aside0.mk (below_step (by repeat (first | (with_reducible first | exact HB.out | apply below_alloc | apply pw_below_drewN | apply below_drew1) | exact HB.out)) hb); have n1_ := Aside0.mk (hbox); have n2_ := Aside0.mk ((by rw [hg]; exact (below_size (by repeat (first | (with_reducible first | exact HB.out | apply below_alloc | apply pw_below_drewN | apply below_drew1) | exact HB.out))) : w.heap.size ≤ gb106)); have n3_ := Aside0.mk ((by rw [hg]; exact (below_size (by repeat (first | (with_reducible first | exact HB.out | apply below_alloc | apply pw_below_drewN | apply below_drew1) | exact HB.out))) : w.heap.size ≤ gb106)); clear HB; have HB := n0_; have BK106 := n1_; have GW106 := n2_; have GE106 := n3_; clear n0_ n1_ n2_ n3_; clear hb hbox hg; have hcz10_0 : w9.cell? ⟨gb106, 0, none⟩ = some (.slice A0_0 l0_0.length c0_0) := (blk_cell BK106.out 0).trans rfl; have hcz10_1 : w9.cell? ⟨gb106, 1, none⟩ = some (.slice A0_1 l0_1.length c0_1) := (blk_cell BK106.out 1).trans rfl; have hcz10_2 : w9.cell? ⟨gb106, 2, none⟩ = some (.slice A0_2 l0_2.length c0_2) := (blk_cell BK106.out 2).trans rfl; have hcz10_3 : w9.cell? ⟨gb106, 3, none⟩ = some (.slice A0_3 l0_3.length c0_3) := (blk_cell BK106.out 3).trans rfl; have hfz10_0 := blk_frozen BK106.out 0; have hfz10_1 := blk_frozen BK106.out 1; have hfz10_2 := blk_frozen BK106.out 2; have hfz10_3 := blk_frozen BK106.out 3))
   repeat (go_quiet (first | ((with_reducible refine gate_dst (N := 1) rfl ?_); (try (refine gate_guard (by rfl) ?_; dsimp only)); refine box_event ?hg (N := 1) ?hd (cs := #[.slice A0_0 l0_0.length c0_0, .slice A0_1 l0_1.length c0_1, .slice A0_2 l0_2.length c0_2, .slice A0_3 l0_3.length c0_3]) (t := 29) ?hr ?_; (case hd => rfl); (case hg => rfl); (case hr => first | (go_simp; done) | (go_simp; rfl)); intro gb106 hg w9 hbox hb; have n0_ := Aside0.mk (below_step (by repeat (first | (with_reducible first | exact HB.out | apply below_alloc | apply pw_below_drewN | apply below_drew1) | exact HB.out)) hb); have n1_ := Aside0.mk (hbox); have n2_ := Aside0.mk ((by rw [hg]; exact (below_size (by repeat (first | (with_reducible first | exact HB.out | apply below_alloc | apply pw_below_drewN | apply below_drew1) | exact HB.out))) : w.heap.size ≤ gb106)); have n3_ := Aside0.mk ((by rw [hg]; exact (below_size (by repeat (first | (with_reducible first | exact HB.out | apply below_alloc | apply pw_below_drewN | apply below_drew1) | exact HB.out))) : w.heap.size ≤ gb106)); clear HB; have HB := n0_; have BK106 := n1_; have GW106 := n2_; have GE106 := n3_; clear n0_ n1_ n2_ n3_; clear hb hbox hg; have hcz10_0 : w9.cell? ⟨gb106, 0, none⟩ = some (.slice A0_0 l0_0.length c0_0) := (blk_cell BK106.out 0).trans rfl; have hcz10_1 : w9.cell? ⟨gb106, 1, none⟩ = some (.slice A0_1 l0_1.length c0_1) := (blk_cell BK106.out 1).trans rfl; have hcz10_2 : w9.cell? ⟨gb106, 2, none⟩ = some (.slice A0_2 l0_2.length c0_2) := (blk_cell BK106.out 2).trans rfl; have hcz10_3 : w9.cell? ⟨gb106, 3, none⟩ = some (.slice A0_3 l0_3.length c0_3) := (blk_cell BK106.out 3).trans rfl; have hfz10_0 := blk_frozen BK106.out 0; have hfz10_1 := blk_frozen BK106.out 1; have hfz10_2 := blk_frozen BK106.out 2; have hfz10_3 := blk_frozen BK106.out 3)); try go_wp2_with (first | ((with_reducible refine gate_dst (N := 1) rfl ?_); (try (refine gate_guard (by rfl) ?_; dsimp only)); refine box_event ?hg (N := 1) ?hd (cs := #[.slice A0_0 l0_0.length c0_0, .slice A0_1 l0_1.length c0_1, .slice A0_2 l0_2.length c0_2, .slice A0_3 l0_3.length c0_3]) (t := 29) ?hr ?_; (case hd => rfl); (case hg => rfl); (case hr => first | (go_simp; done) | (go_simp; rfl)); intro gb106 hg w9 hbox hb; have n0_ := Aside0.mk (below_step (by repeat (first | (with_reducible first | exact HB.out | apply below_alloc | apply pw_below_drewN | apply below_drew1) | exact HB.out)) hb); have n1_ := Aside0.mk (hbox); have n2_ := Aside0.mk ((by rw [hg]; exact (below_size (by repeat (first | (with_reducible first | exact HB.out | apply below_alloc | apply pw_below_drewN | apply below_drew1) | exact HB.out))) : w.heap.size ≤ gb106)); have n3_ := Aside0.mk ((by rw [hg]; exact (below_size (by repeat (first | (with_reducible first | exact HB.out | apply below_alloc | apply pw_below_drewN | apply below_drew1) | exact HB.out))) : w.heap.size ≤ gb106)); clear HB; have HB := n0_; have BK106 := n1_; have GW106 := n2_; have GE106 := n3_; clear n0_ n1_ n2_ n3_; clear hb hbox hg; have hcz10_0 : w9.cell? ⟨gb106, 0, none⟩ = some (.slice A0_0 l0_0.length c0_0) := (blk_cell BK106.out 0).trans rfl; have hcz10_1 : w9.cell? ⟨gb106, 1, none⟩ = some (.slice A0_1 l0_1.length c0_1) := (blk_cell BK106.out 1).trans rfl; have hcz10_2 : w9.cell? ⟨gb106, 2, none⟩ = some (.slice A0_2 l0_2.length c0_2) := (blk_cell BK106.out 2).trans rfl; have hcz10_3 : w9.cell? ⟨gb106, 3, none⟩ = some (.slice A0_3 l0_3.length c0_3) := (blk_cell BK106.out 3).trans rfl; have hfz10_0 := blk_frozen BK106.out 0; have hfz10_1 := blk_frozen BK106.out 1; have hfz10_2 := blk_frozen BK106.out 2; have hfz10_3 := blk_frozen BK106.out 3)))
   go_ret
   exact ⟨by first | rfl | (simp [errW_none, errW_some] <;> rfl) | (simp [*, errW_none, errW_some] <;> rfl), by repeat (first | (with_reducible first | exact HB.out | apply below_alloc | apply pw_below_drewN | apply below_drew1 | refine below_set ?_ GE106.out) | exact HB.out)⟩
 ·rw [if_neg c2] at H
  have c2b0 : ((l0_0.length : Int) == 0) = false := beq_eq_false_iff_ne.mpr c2
  have c2b1 : ((l0_0.length : Int) != 0) = true := bne_iff_ne.mpr c2
  have c2b2 : ¬ (l0_0 = []) := fun h_ => c2 (by rw [h_]; rfl)
  have HC11 := Aside0.mk H
  clear H
  go_enter Try.func6, Try.ntmps6
  go_upto_region 3 with (first | ((with_reducible refine gate_dst (N := 1) rfl ?_); (try (refine gate_guard (by rfl) ?_; dsimp only)); refine box_event ?hg (N := 1) ?hd (cs := #[.slice A0_0 l0_0.length c0_0, .slice A0_1 l0_1.length c0_1, .slice A0_2 l0_2.length c0_2, .slice A0_3 l0_3.length c0_3]) (t := 29) ?hr ?_; (case hd => rfl); (case hg => rfl); (case hr => first | (go_simp; done) | (go_simp; rfl)); intro gb106 hg w12 hbox hb; have n0_ := Aside0.mk (below_step (by repeat (first | (with_reducible first | exact HB.out | apply below_alloc | apply pw_below_drewN | apply below_drew1) | exact HB.out)) hb); have n1_ := Aside0.mk (hbox); have n2_ := Aside0.mk ((by rw [hg]; exact (below_size (by repeat (first | (with_reducible first | exact HB.out | apply below_alloc | apply pw_below_drewN | apply below_drew1) | exact HB.out))) : w.heap.size ≤ gb106)); have n3_ := Aside0.mk ((by rw [hg]; exact (below_size (by repeat (first | (with_reducible first | exact HB.out | apply below_alloc | apply pw_below_drewN | apply below_drew1) | exact HB.out))) : w.heap.size ≤ gb106)); clear HB; have HB := n0_; have BK106 := n1_; have GW106 := n2_; have GE106 := n3_; clear n0_ n1_ n2_ n3_; clear hb hbox hg; have hcz13_0 : w12.cell? ⟨gb106, 0, none⟩ = some (.slice A0_0 l0_0.length c0_0) := (blk_cell BK106.out 0).trans rfl; have hcz13_1 : w12.cell? ⟨gb106, 1, none⟩ = some (.slice A0_1 l0_1.length c0_1) := (blk_cell BK106.out 1).trans rfl; have hcz13_2 : w12.cell? ⟨gb106, 2, none⟩ = some (.slice A0_2 l0_2.length c0_2) := (blk_cell BK106.out 2).trans rfl; have hcz13_3 : w12.cell? ⟨gb106, 3, none⟩ = some (.slice A0_3 l0_3.length c0_3) := (blk_cell BK106.out 3).trans rfl; have hfz13_0 := blk_frozen BK106.out 0; have hfz13_1 := blk_frozen BK106.out 1; have hfz13_2 := blk_frozen BK106.out 2; have hfz13_3 := blk_frozen BK106.out 3))
  repeat (go_quiet (first | ((with_reducible refine gate_dst (N := 1) rfl ?_); (try (refine gate_guard (by rfl) ?_; dsimp only)); refine box_event ?hg (N := 1) ?hd (cs := #[.slice A0_0 l0_0.length c0_0, .slice A0_1 l0_1.length c0_1, .slice A0_2 l0_2.length c0_2, .slice A0_3 l0_3.length c0_3]) (t := 29) ?hr ?_; (case hd => rfl); (case hg => rfl); (case hr => first | (go_simp; done) | (go_simp; rfl)); intro gb106 hg w12 hbox hb; have n0_ := Aside0.mk (below_step (by repeat (first | (with_reducible first | exact HB.out | apply below_alloc | apply pw_below_drewN | apply below_drew1) | exact HB.out)) hb); have n1_ := Aside0.mk (hbox); have n2_ := Aside0.mk ((by rw [hg]; exact (below_size (by repeat (first | (with_reducible first | exact HB.out | apply below_alloc | apply pw_below_drewN | apply below_drew1) | exact HB.out))) : w.heap.size ≤ gb106)); have n3_ := Aside0.mk ((by rw [hg]; exact (below_size (by repeat (first | (with_reducible first | exact HB.out | apply below_alloc | apply pw_below_drewN | apply below_drew1) | exact HB.out))) : w.heap.size ≤ gb106)); clear HB; have HB := n0_; have BK106 := n1_; have GW106 := n2_; have GE106 := n3_; clear n0_ n1_ n2_ n3_; clear hb hbox hg; have hcz13_0 : w12.cell? ⟨gb106, 0, none⟩ = some (.slice A0_0 l0_0.length c0_0) := (blk_cell BK106.out 0).trans rfl; have hcz13_1 : w12.cell? ⟨gb106, 1, none⟩ = some (.slice A0_1 l0_1.length c0_1) := (blk_cell BK106.out 1).trans rfl; have hcz13_2 : w12.cell? ⟨gb106, 2, none⟩ = some (.slice A0_2 l0_2.length c0_2) := (blk_cell BK106.out 2).trans rfl; have hcz13_3 : w12.cell? ⟨gb106, 3, none⟩ = some (.slice A0_3 l0_3.length c0_3) := (blk_cell BK106.out 3).trans rfl; have hfz13_0 := blk_frozen BK106.out 0; have hfz13_1 := blk_frozen BK106.out 1; have hfz13_2 := blk_frozen BK106.out 2; have hfz13_3 := blk_frozen BK106.out 3)); go_upto_region 3 with (first | ((with_reducible refine gate_dst (N := 1) rfl ?_); (try (refine gate_guard (by rfl) ?_; dsimp only)); refine box_event ?hg (N := 1) ?hd (cs := #[.slice A0_0 l0_0.length c0_0, .slice A0_1 l0_1.length c0_1, .slice A0_2 l0_2.length c0_2, .slice A0_3 l0_3.length c0_3]) (t := 29) ?hr ?_; (case hd => rfl); (case hg => rfl); (case hr => first | (go_simp; done) | (go_simp; rfl)); intro gb106 hg w12 hbox hb; have n0_ := Aside0.mk (below_step (by repeat (first | (with_reducible first | exact HB.out | apply below_alloc | apply pw_below_drewN | apply below_drew1) | exact HB.out)) hb); have n1_ := Aside0.mk (hbox); have n2_ := Aside0.mk ((by rw [hg]; exact (below_size (by repeat (first | (with_reducible first | exact HB.out | apply below_alloc | apply pw_below_drewN | apply below_drew1) | exact HB.out))) : w.heap.size ≤ gb106)); have n3_ := Aside0.mk ((by rw [hg]; exact (below_size (by repeat (first | (with_reducible first | exact HB.out | apply below_alloc | apply pw_below_drewN | apply below_drew1) | exact HB.out))) : w.heap.size ≤ gb106)); clear HB; have HB := n0_; have BK106 := n1_; have GW106 := n2_; have GE106 := n3_; clear n0_ n1_ n2_ n3_; clear hb hbox hg; have hcz13_0 : w12.cell? ⟨gb106, 0, none⟩ = some (.slice A0_0 l0_0.length c0_0) := (blk_cell BK106.out 0).trans rfl; have hcz13_1 : w12.cell? ⟨gb106, 1, none⟩ = some (.slice A0_1 l0_1.length c0_1) := (blk_cell BK106.out 1).trans rfl; have hcz13_2 : w12.cell? ⟨gb106, 2, none⟩ = some (.slice A0_2 l0_2.length c0_2) := (blk_cell BK106.out 2).trans rfl; have hcz13_3 : w12.cell? ⟨gb106, 3, none⟩ = some (.slice A0_3 l0_3.length c0_3) := (blk_cell BK106.out 3).trans rfl; have hfz13_0 := blk_frozen BK106.out 0; have hfz13_1 := blk_frozen BK106.out 1; have hfz13_2 := blk_frozen BK106.out 2; have hfz13_3 := blk_frozen BK106.out 3)))
  (try simp only [Act.put, List.setIfInBounds_toArray, List.set_cons_zero, List.set_cons_succ])
  go_cut [67] (fun v67 wc => ∃ (kq : Nat) (x67_10 : Bool), v67 = .bool x67_10 ∧ Aside0 (spec_GoodZone.j0 kq x67_10 l0_0 l0_1 l0_2 l0_3 = some r) ∧ Aside0 (kq ≤ k) ∧ Aside0 (wc.heap[gb106]? = some (.cells #[(.slice A0_0 l0_0.length c0_0), (.slice A0_1 l0_1.length c0_1), (.slice A0_2 l0_2.length c0_2), (.slice A0_3 l0_3.length c0_3)] 29 (0, 0))) ∧ Aside0 (Below w.heap.size w wc))
  case first =>
   have H := HC11.out
   clear HC11
   by_cases c14 : (l0_0.length : Int) > 64
   ·rw [if_pos c14] at H
    have c14b0 : decide (64 < (l0_0.length : Int)) = true := decide_eq_true c14
    have c14b1 : decide (64 < l0_0.length) = true := decide_eq_true (by omega)
    clear c14
    (first | rw [c14b0] | (simp only [i64_w, i32_w]; rw [c14b0]) | skip)
    have H' := Aside0.mk H
    clear H
    have hcz15_0 : w12.cell? ⟨gb106, 0, none⟩ = some (.slice A0_0 l0_0.length c0_0) := (blk_cell BK106.out 0).trans rfl
    have hcz15_1 : w12.cell? ⟨gb106, 1, none⟩ = some (.slice A0_1 l0_1.length c0_1) := (blk_cell BK106.out 1).trans rfl
    have hcz15_2 : w12.cell? ⟨gb106, 2, none⟩ = some (.slice A0_2 l0_2.length c0_2) := (blk_cell BK106.out 2).trans rfl
    have hcz15_3 : w12.cell? ⟨gb106, 3, none⟩ = some (.slice A0_3 l0_3.length c0_3) := (blk_cell BK106.out 3).trans rfl
    have hfz15_0 := blk_frozen BK106.out 0
    have hfz15_1 := blk_frozen BK106.out 1
    have hfz15_2 := blk_frozen BK106.out 2
    have hfz15_3 := blk_frozen BK106.out 3
    go_wp2
    repeat (go_quiet (fail); try go_wp2)
    go_meet
    case rel => exact ⟨_, (true), (by first | rfl | (simp; done) | (simp [*]; done)), H', ⟨by first | omega | exact Nat.le_refl _⟩, ⟨by (with_reducible repeat (first | refine blk_drewN ?_ _ | refine blk_drew ?_ | refine blk_alloc ?_ _)); exact BK106.out⟩, ⟨by repeat (first | (with_reducible first | exact HB.out | apply below_alloc | apply pw_below_drewN | apply below_drew1 | refine below_set ?_ GE106.out) | exact HB.out)⟩⟩
   ·rw [if_neg c14] at H
    have c14b0 : decide (64 < (l0_0.length : Int)) = false := decide_eq_false c14
    have c14b1 : decide (64 < l0_0.length) = false := decide_eq_false (by omega)
    clear c14
    (first | rw [c14b0] | (simp only [i64_w, i32_w]; rw [c14b0]) | skip)
    by_cases c16 : (l0_1.length : Int) = (l0_0.length : Int)
    ·rw [if_pos c16] at H
     have c16b0 : ((l0_1.length : Int) == (l0_0.length : Int)) = true := beq_iff_eq.mpr c16
     have c16b1 : ((l0_1.length : Int) != (l0_0.length : Int)) = false := bne_eq_false_iff_eq.mpr c16
     have c16b2 : (l0_1.length == l0_0.length) = true := by first | simpa using c16 | (simp at c16 ⊢; omega)
     clear c16
     by_cases c17 : (l0_2.length : Int) = 0
     ·rw [if_pos c17] at H
      have c17b0 : ((l0_2.length : Int) == 0) = true := beq_iff_eq.mpr c17
      have c17b1 : ((l0_2.length : Int) != 0) = false := bne_eq_false_iff_eq.mpr c17
      clear c17
      have H' := Aside0.mk H
      clear H
      have hcz18_0 : w12.cell? ⟨gb106, 0, none⟩ = some (.slice A0_0 l0_0.length c0_0) := (blk_cell BK106.out 0).trans rfl
      have hcz18_1 : w12.cell? ⟨gb106, 1, none⟩ = some (.slice A0_1 l0_1.length c0_1) := (blk_cell BK106.out 1).trans rfl
      have hcz18_2 : w12.cell? ⟨gb106, 2, none⟩ = some (.slice A0_2 l0_2.length c0_2) := (blk_cell BK106.out 2).trans rfl
      have hcz18_3 : w12.cell? ⟨gb106, 3, none⟩ = some (.slice A0_3 l0_3.length c0_3) := (blk_cell BK106.out 3).trans rfl
      have hfz18_0 := blk_frozen BK106.out 0
      have hfz18_1 := blk_frozen BK106.out 1
      have hfz18_2 := blk_frozen BK106.out 2
      have hfz18_3 := blk_frozen BK106.out 3
      go_wp2
      repeat (go_quiet (fail); try go_wp2)
      go_meet
      case rel => exact ⟨_, (true), (by first | rfl | (simp; done) | (simp [*]; done)), H', ⟨by first | omega | exact Nat.le_refl _⟩, ⟨by (with_reducible repeat (first | refine blk_drewN ?_ _ | refine blk_drew ?_ | refine blk_alloc ?_ _)); exact BK106.out⟩, ⟨by repeat (first | (with_reducible first | exact HB.out | apply below_alloc | apply pw_below_drewN | apply below_drew1 | refine below_set ?_ GE106.out) | exact HB.out)⟩⟩
     ·rw [if_neg c17] at H
      have c17b0 : ((l0_2.length : Int) == 0) = false := beq_eq_false_iff_ne.mpr c17
      have c17b1 : ((l0_2.length : Int) != 0) = true := bne_iff_ne.mpr c17
      have c17b2 : ¬ (l0_2 = []) := fun h_ => c17 (by rw [h_]; rfl)
      by_cases c19 : (l0_2.length : Int) > 4096
      ·rw [if_pos c19] at H
       have c19b0 : decide (4096 < (l0_2.length : Int)) = true := decide_eq_true c19
       have c19b1 : decide (4096 < l0_2.length) = true := decide_eq_true (by omega)
       clear c19
       have H' := Aside0.mk H
       clear H
       have hcz20_0 : w12.cell? ⟨gb106, 0, none⟩ = some (.slice A0_0 l0_0.length c0_0) := (blk_cell BK106.out 0).trans rfl
       have hcz20_1 : w12.cell? ⟨gb106, 1, none⟩ = some (.slice A0_1 l0_1.length c0_1) := (blk_cell BK106.out 1).trans rfl
       have hcz20_2 : w12.cell? ⟨gb106, 2, none⟩ = some (.slice A0_2 l0_2.length c0_2) := (blk_cell BK106.out 2).trans rfl
       have hcz20_3 : w12.cell? ⟨gb106, 3, none⟩ = some (.slice A0_3 l0_3.length c0_3) := (blk_cell BK106.out 3).trans rfl
       have hfz20_0 := blk_frozen BK106.out 0
       have hfz20_1 := blk_frozen BK106.out 1
       have hfz20_2 := blk_frozen BK106.out 2
       have hfz20_3 := blk_frozen BK106.out 3
       go_wp2
       repeat (go_quiet (fail); try go_wp2)
       go_meet
       case rel => exact ⟨_, (true), (by first | rfl | (simp; done) | (simp [*]; done)), H', ⟨by first | omega | exact Nat.le_refl _⟩, ⟨by (with_reducible repeat (first | refine blk_drewN ?_ _ | refine blk_drew ?_ | refine blk_alloc ?_ _)); exact BK106.out⟩, ⟨by repeat (first | (with_reducible first | exact HB.out | apply below_alloc | apply pw_below_drewN | apply below_drew1 | refine below_set ?_ GE106.out) | exact HB.out)⟩⟩
      ·rw [if_neg c19] at H
       have c19b0 : decide (4096 < (l0_2.length : Int)) = false := decide_eq_false c19
       have c19b1 : decide (4096 < l0_2.length) = false := decide_eq_false (by omega)
       clear c19
       by_cases c21 : (l0_3.length : Int) = (l0_2.length : Int)
       ·rw [if_pos c21] at H
        have c21b0 : ((l0_3.length : Int) == (l0_2.length : Int)) = true := beq_iff_eq.mpr c21
        have c21b1 : ((l0_3.length : Int) != (l0_2.length : Int)) = false := bne_eq_false_iff_eq.mpr c21
        have c21b2 : (l0_3.length == l0_2.length) = true := by first | simpa using c21 | (simp at c21 ⊢; omega)
        clear c21
        by_cases c22 : 0 < (l0_2.length : Int)
        ·rw [if_pos c22] at H
         have c22b0 : decide (0 < (l0_2.length : Int)) = true := decide_eq_true c22
         have c22b1 : decide (0 < l0_2.length) = true := decide_eq_true (by omega)
         clear c22
         have H' := Aside0.mk H
         clear H
         have hcz23_0 : w12.cell? ⟨gb106, 0, none⟩ = some (.slice A0_0 l0_0.length c0_0) := (blk_cell BK106.out 0).trans rfl
         have hcz23_1 : w12.cell? ⟨gb106, 1, none⟩ = some (.slice A0_1 l0_1.length c0_1) := (blk_cell BK106.out 1).trans rfl
         have hcz23_2 : w12.cell? ⟨gb106, 2, none⟩ = some (.slice A0_2 l0_2.length c0_2) := (blk_cell BK106.out 2).trans rfl
         have hcz23_3 : w12.cell? ⟨gb106, 3, none⟩ = some (.slice A0_3 l0_3.length c0_3) := (blk_cell BK106.out 3).trans rfl
         have hfz23_0 := blk_frozen BK106.out 0
         have hfz23_1 := blk_frozen BK106.out 1
         have hfz23_2 := blk_frozen BK106.out 2
         have hfz23_3 := blk_frozen BK106.out 3
         have p107 : 0 ≤ (0 : Int) := (by omega)
         have q107 : 0 < (l0_2.length : Int) := of_decide_eq_true (by first | (with_reducible assumption) | assumption)
         obtain ⟨ad107, e107, hx107_0⟩ := Kd.at_int HR0_2.out 0 p107 q107
         cases e107
         have qi107 : (0 < l0_2.length) = True := eq_true (by omega)
         (try rw [show ((0 : Int)).toNat = 0 from rfl] at hx107_0)
         (try rw [Addr.add_zero'] at hx107_0)
         replace hx107_0 := (HB.out.cell (World.block_lt_of_cell? w _ hx107_0)).trans hx107_0
         replace p107 := eq_true p107
         replace q107 := eq_true q107
         go_wp2
         repeat (go_quiet (fail); try go_wp2)
         go_meet
         case rel => exact ⟨_, (((rd l0_2 0) != (-9223372036854775808))), (by first | rfl | (simp; done) | (simp [*]; done)), H', ⟨by first | omega | exact Nat.le_refl _⟩, ⟨by (with_reducible repeat (first | refine blk_drewN ?_ _ | refine blk_drew ?_ | refine blk_alloc ?_ _)); exact BK106.out⟩, ⟨by repeat (first | (with_reducible first | exact HB.out | apply below_alloc | apply pw_below_drewN | apply below_drew1 | refine below_set ?_ GE106.out) | exact HB.out)⟩⟩
        ·rw [if_neg c22] at H
         exact absurd H (by simp)
       ·rw [if_neg c21] at H
        have c21b0 : ((l0_3.length : Int) == (l0_2.length : Int)) = false := beq_eq_false_iff_ne.mpr c21
        have c21b1 : ((l0_3.length : Int) != (l0_2.length : Int)) = true := bne_iff_ne.mpr c21
        have c21b2 : (l0_3.length == l0_2.length) = false := by first | simpa using c21 | (simp at c21 ⊢; omega)
        have H' := Aside0.mk H
        clear H
        have hcz24_0 : w12.cell? ⟨gb106, 0, none⟩ = some (.slice A0_0 l0_0.length c0_0) := (blk_cell BK106.out 0).trans rfl
        have hcz24_1 : w12.cell? ⟨gb106, 1, none⟩ = some (.slice A0_1 l0_1.length c0_1) := (blk_cell BK106.out 1).trans rfl
        have hcz24_2 : w12.cell? ⟨gb106, 2, none⟩ = some (.slice A0_2 l0_2.length c0_2) := (blk_cell BK106.out 2).trans rfl
        have hcz24_3 : w12.cell? ⟨gb106, 3, none⟩ = some (.slice A0_3 l0_3.length c0_3) := (blk_cell BK106.out 3).trans rfl
        have hfz24_0 := blk_frozen BK106.out 0
        have hfz24_1 := blk_frozen BK106.out 1
        have hfz24_2 := blk_frozen BK106.out 2
        have hfz24_3 := blk_frozen BK106.out 3
        go_wp2
        repeat (go_quiet (fail); try go_wp2)
        go_meet
        case rel => exact ⟨_, (true), (by first | rfl | (simp; done) | (simp [*]; done)), H', ⟨by first | omega | exact Nat.le_refl _⟩, ⟨by (with_reducible repeat (first | refine blk_drewN ?_ _ | refine blk_drew ?_ | refine blk_alloc ?_ _)); exact BK106.out⟩, ⟨by repeat (first | (with_reducible first | exact HB.out | apply below_alloc | apply pw_below_drewN | apply below_drew1 | refine below_set ?_ GE106.out) | exact HB.out)⟩⟩
    ·rw [if_neg c16] at H
     have c16b0 : ((l0_1.length : Int) == (l0_0.length : Int)) = false := beq_eq_false_iff_ne.mpr c16
     have c16b1 : ((l0_1.length : Int) != (l0_0.length : Int)) = true := bne_iff_ne.mpr c16
     have c16b2 : (l0_1.length == l0_0.length) = false := by first | simpa using c16 | (simp at c16 ⊢; omega)
     have H' := Aside0.mk H
     clear H
     have hcz25_0 : w12.cell? ⟨gb106, 0, none⟩ = some (.slice A0_0 l0_0.length c0_0) := (blk_cell BK106.out 0).trans rfl
     have hcz25_1 : w12.cell? ⟨gb106, 1, none⟩ = some (.slice A0_1 l0_1.length c0_1) := (blk_cell BK106.out 1).trans rfl
     have hcz25_2 : w12.cell? ⟨gb106, 2, none⟩ = some (.slice A0_2 l0_2.length c0_2) := (blk_cell BK106.out 2).trans rfl
     have hcz25_3 : w12.cell? ⟨gb106, 3, none⟩ = some (.slice A0_3 l0_3.length c0_3) := (blk_cell BK106.out 3).trans rfl
     have hfz25_0 := blk_frozen BK106.out 0
     have hfz25_1 := blk_frozen BK106.out 1
     have hfz25_2 := blk_frozen BK106.out 2
     have hfz25_3 := blk_frozen BK106.out 3
     go_wp2
     repeat (go_quiet (fail); try go_wp2)
     go_meet
     case rel => exact ⟨_, (true), (by first | rfl | (simp; done) | (simp [*]; done)), H', ⟨by first | omega | exact Nat.le_refl _⟩, ⟨by (with_reducible repeat (first | refine blk_drewN ?_ _ | refine blk_drew ?_ | refine blk_alloc ?_ _)); exact BK106.out⟩, ⟨by repeat (first | (with_reducible first | exact HB.out | apply below_alloc | apply pw_below_drewN | apply below_drew1 | refine below_set ?_ GE106.out) | exact HB.out)⟩⟩
  case rest =>
   clear HC11
   try clear c1
   try clear p1
   try clear q1
   try clear hx1
   try clear qi1
   try clear c2
   try clear c2b0
   try clear c2b1
   try clear c2b2
   try clear p2
   try clear c3
   try clear c3b0
   try clear c3b1
   try clear c3b2
   try clear c4
   try clear c4b0
   try clear c4b1
   try clear c4b2
   try clear c6
   try clear p10
   try clear q10
   try clear hx10
   try clear qi10
   try clear c14
   try clear c14b0
   try clear c14b1
   try clear c16
   try clear c16b0
   try clear c16b1
   try clear c16b2
   try clear c17
   try clear c17b0
   try clear c17b1
   try clear c17b2
   try clear c19
   try clear c19b0
   try clear c19b1
   try clear c21
   try clear c21b0
   try clear c21b1
   try clear c21b2
   try clear c22
   try clear c22b0
   try clear c22b1
   try clear hcz10_0
   try clear hcz10_1
   try clear hcz10_2
   try clear hcz10_3
   try clear hcz13_0
   try clear hcz13_1
   try clear hcz13_2
   try clear hcz13_3
   try clear hcz15_0
   try clear hcz15_1
   try clear hcz15_2
   try clear hcz15_3
   try clear hcz18_0
   try clear hcz18_1
   try clear hcz18_2
   try clear hcz18_3
   try clear hcz20_0
   try clear hcz20_1
   try clear hcz20_2
   try clear hcz20_3
   try clear hcz23_0
   try clear hcz23_1
   try clear hcz23_2
   try clear hcz23_3
   try clear hcz24_0
   try clear hcz24_1
   try clear hcz24_2
   try clear hcz24_3
   try clear hcz25_0
   try clear hcz25_1
   try clear hcz25_2
   try clear hcz25_3
   try clear hcz6_0
   try clear hcz6_1
   try clear hcz6_2
   try clear hcz6_3
   try clear hcz8_0
   try clear hcz8_1
   try clear hcz8_2
   try clear hcz8_3
   try clear hfz10_0
   try clear hfz10_1
   try clear hfz10_2
   try clear hfz10_3
   try clear hfz13_0
   try clear hfz13_1
   try clear hfz13_2
   try clear hfz13_3
   try clear hfz15_0
   try clear hfz15_1
   try clear hfz15_2
   try clear hfz15_3
   try clear hfz18_0
   try clear hfz18_1
   try clear hfz18_2
   try clear hfz18_3
   try clear hfz20_0
   try clear hfz20_1
   try clear hfz20_2
   try clear hfz20_3
   try clear hfz23_0
   try clear hfz23_1
   try clear hfz23_2
   try clear hfz23_3
   try clear hfz24_0
   try clear hfz24_1
   try clear hfz24_2
   try clear hfz24_3
   try clear hfz25_0
   try clear hfz25_1
   try clear hfz25_2
   try clear hfz25_3
   try clear hfz6_0
   try clear hfz6_1
   try clear hfz6_2
   try clear hfz6_3
   try clear hfz8_0
   try clear hfz8_1
   try clear hfz8_2
   try clear hfz8_3
   try clear hx107_0
   try clear p107
   try clear q107
   obtain ⟨kq, x67_10, rfl, HA, HJ10, BK106, HB⟩ := hcut
   cases kq with
   | zero => exact absurd HA.out (by simp [spec_GoodZone.j0])
   | succ kj10 =>
    have H := HA.out
    clear HA
    simp only [spec_GoodZone.j0] at H
    by_cases c26 : x67_10 = true
    ·subst c26
     have H1 : (some false) = some r := by rw [if_pos rfl] at H; exact H
     clear H
     have H := H1
     clear H1
     obtain rfl := Option.some.inj H
     go_wp2
     repeat (go_quiet (fail); try go_wp2)
     go_ret
     exact ⟨by first | rfl | (simp [errW_none, errW_some] <;> rfl) | (simp [*, errW_none, errW_some] <;> rfl), by repeat (first | (with_reducible first | exact HB.out | apply below_alloc | apply pw_below_drewN | apply below_drew1 | refine below_set ?_ GE106.out) | exact HB.out)⟩
    ·replace c26 := Bool.eq_false_iff.mpr c26
     subst c26
     have H1 : (spec_GoodZone.l0 kj10 l0_0 (l0_0.length : Int) 0 l0_0 l0_1 l0_2 l0_3) = some r := by rw [if_neg (show ¬ (false = true) by decide)] at H; exact H
     clear H
     have H := H1
     clear H1
     have H' := Aside0.mk H
     clear H
     have hcz27_0 : wc.cell? ⟨gb106, 0, none⟩ = some (.slice A0_0 l0_0.length c0_0) := (blk_cell BK106.out 0).trans rfl
     have hcz27_1 : wc.cell? ⟨gb106, 1, none⟩ = some (.slice A0_1 l0_1.length c0_1) := (blk_cell BK106.out 1).trans rfl
     have hcz27_2 : wc.cell? ⟨gb106, 2, none⟩ = some (.slice A0_2 l0_2.length c0_2) := (blk_cell BK106.out 2).trans rfl
     have hcz27_3 : wc.cell? ⟨gb106, 3, none⟩ = some (.slice A0_3 l0_3.length c0_3) := (blk_cell BK106.out 3).trans rfl
     have hfz27_0 := blk_frozen BK106.out 0
     have hfz27_1 := blk_frozen BK106.out 1
     have hfz27_2 := blk_frozen BK106.out 2
     have hfz27_3 := blk_frozen BK106.out 3
     go_wp2
     repeat (go_quiet (fail); try go_wp2)
     go_loopg [71] kj10 (fun kq v71 w' => ∃ (x71_2 : Int), v71 = .int .i64 x71_2 ∧ Aside0 (spec_GoodZone.l0 kq l0_0 (l0_0.length : Int) x71_2 l0_0 l0_1 l0_2 l0_3 = some r) ∧ Aside0 (kq ≤ kj10) ∧ Aside0 (w'.heap[gb106]? = some (.cells #[(.slice A0_0 l0_0.length c0_0), (.slice A0_1 l0_1.length c0_1), (.slice A0_2 l0_2.length c0_2), (.slice A0_3 l0_3.length c0_3)] 29 (0, 0))) ∧ Aside0 (Below w.heap.size w w'))
     case atStart => exact ⟨(0), (by first | rfl | (simp; done) | (simp [*]; done)), H', ⟨Nat.le_refl _⟩, ⟨by (with_reducible repeat (first | refine blk_drewN ?_ _ | refine blk_drew ?_ | refine blk_alloc ?_ _)); exact BK106.out⟩, ⟨by repeat (first | (with_reducible first | exact HB.out | apply below_alloc | apply pw_below_drewN | apply below_drew1 | refine below_set ?_ GE106.out) | exact HB.out)⟩⟩
     case round =>
      clear H'
      try clear c1
      try clear p1
      try clear q1
      try clear hx1
      try clear qi1
      try clear c2
      try clear c2b0
      try clear c2b1
      try clear c2b2
      try clear p2
      try clear c3
      try clear c3b0
      try clear c3b1
      try clear c3b2
      try clear c4
      try clear c4b0
      try clear c4b1
      try clear c4b2
      try clear c6
      try clear p10
      try clear q10
      try clear hx10
      try clear qi10
      try clear c14
      try clear c14b0
      try clear c14b1
      try clear c16
      try clear c16b0
      try clear c16b1
      try clear c16b2
      try clear c17
      try clear c17b0
      try clear c17b1
      try clear c17b2
      try clear c19
      try clear c19b0
      try clear c19b1
      try clear c21
      try clear c21b0
      try clear c21b1
      try clear c21b2
      try clear c22
      try clear c22b0
      try clear c22b1
      try clear c26
      try clear hcz10_0
      try clear hcz10_1
      try clear hcz10_2
      try clear hcz10_3
      try clear hcz13_0
      try clear hcz13_1
      try clear hcz13_2
      try clear hcz13_3
      try clear hcz15_0
      try clear hcz15_1
      try clear hcz15_2
      try clear hcz15_3
      try clear hcz18_0
      try clear hcz18_1
      try clear hcz18_2
      try clear hcz18_3
      try clear hcz20_0
      try clear hcz20_1
      try clear hcz20_2
      try clear hcz20_3
      try clear hcz23_0
      try clear hcz23_1
      try clear hcz23_2
      try clear hcz23_3
      try clear hcz24_0
      try clear hcz24_1
      try clear hcz24_2
      try clear hcz24_3
      try clear hcz25_0
      try clear hcz25_1
      try clear hcz25_2
      try clear hcz25_3
      try clear hcz27_0
      try clear hcz27_1
      try clear hcz27_2
      try clear hcz27_3
      try clear hcz6_0
      try clear hcz6_1
      try clear hcz6_2
      try clear hcz6_3
      try clear hcz8_0
      try clear hcz8_1
      try clear hcz8_2
      try clear hcz8_3
      try clear hfz10_0
      try clear hfz10_1
      try clear hfz10_2
      try clear hfz10_3
      try clear hfz13_0
      try clear hfz13_1
      try clear hfz13_2
      try clear hfz13_3
      try clear hfz15_0
      try clear hfz15_1
      try clear hfz15_2
      try clear hfz15_3
      try clear hfz18_0
      try clear hfz18_1
      try clear hfz18_2
      try clear hfz18_3
      try clear hfz20_0
      try clear hfz20_1
      try clear hfz20_2
      try clear hfz20_3
      try clear hfz23_0
      try clear hfz23_1
      try clear hfz23_2
      try clear hfz23_3
      try clear hfz24_0
      try clear hfz24_1
      try clear hfz24_2
      try clear hfz24_3
      try clear hfz25_0
      try clear hfz25_1
      try clear hfz25_2
      try clear hfz25_3
      try clear hfz27_0
      try clear hfz27_1
      try clear hfz27_2
      try clear hfz27_3
      try clear hfz6_0
      try clear hfz6_1
      try clear hfz6_2
      try clear hfz6_3
      try clear hfz8_0
      try clear hfz8_1
      try clear hfz8_2
      try clear hfz8_3
      try clear hx107_0
      try clear p1
      try clear p10
      try clear p107
      try clear p2
      try clear q1
      try clear q10
      try clear q107
      obtain ⟨x71_2, rfl, HA, HK2, BK106, HB⟩ := hrel
      cases gk with
      | zero => exact absurd HA.out (by simp [spec_GoodZone.l0])
      | succ k2 =>
       have H := HA.out
       clear HA
       simp only [spec_GoodZone.l0] at H
       by_cases c28 : x71_2 < (l0_0.length : Int)
       ·rw [if_pos c28] at H
        have c28b0 : decide (x71_2 < (l0_0.length : Int)) = true := decide_eq_true c28
        clear c28
        by_cases c29 : 0 ≤ x71_2
        ·rw [if_pos c29] at H
         have c29b0 : decide (0 ≤ x71_2) = true := decide_eq_true c29
         clear c29
         by_cases c30 : x71_2 < (l0_0.length : Int)
         ·rw [if_pos c30] at H
          have c30b0 : decide (x71_2 < (l0_0.length : Int)) = true := decide_eq_true c30
          clear c30
          by_cases c31 : (rd l0_0 x71_2) < (-86400)
          ·rw [if_pos c31] at H
           have c31b0 : decide ((rd l0_0 x71_2) < (-86400)) = true := decide_eq_true c31
           clear c31
           obtain rfl := Option.some.inj H
           have p108 : 0 ≤ (x71_2 : Int) := of_decide_eq_true (by first | (with_reducible assumption) | assumption)
           have q108 : x71_2 < (l0_0.length : Int) := of_decide_eq_true (by first | (with_reducible assumption) | assumption)
           obtain ⟨ad108, e108, hx108_0⟩ := Kd.at_int HR0_0.out x71_2 p108 q108
           cases e108
           replace hx108_0 := (HB.out.cell (World.block_lt_of_cell? w _ hx108_0)).trans hx108_0
           replace p108 := eq_true p108
           replace q108 := eq_true q108
           go_wp2
           repeat (go_quiet (fail); try go_wp2)
           go_ret
           exact ⟨by first | rfl | (simp [errW_none, errW_some] <;> rfl) | (simp [*, errW_none, errW_some] <;> rfl), by repeat (first | (with_reducible first | exact HB.out | apply below_alloc | apply pw_below_drewN | apply below_drew1 | refine below_set ?_ GE106.out) | exact HB.out)⟩
          ·rw [if_neg c31] at H
           have c31b0 : decide ((rd l0_0 x71_2) < (-86400)) = false := decide_eq_false c31
           clear c31
           by_cases c32 : (rd l0_0 x71_2) > 86400
           ·rw [if_pos c32] at H
            have c32b0 : decide (86400 < (rd l0_0 x71_2)) = true := decide_eq_true c32
            clear c32
            obtain rfl := Option.some.inj H
            have p108 : 0 ≤ (x71_2 : Int) := of_decide_eq_true (by first | (with_reducible assumption) | assumption)
            have q108 : x71_2 < (l0_0.length : Int) := of_decide_eq_true (by first | (with_reducible assumption) | assumption)
            obtain ⟨ad108, e108, hx108_0⟩ := Kd.at_int HR0_0.out x71_2 p108 q108
            cases e108
            replace hx108_0 := (HB.out.cell (World.block_lt_of_cell? w _ hx108_0)).trans hx108_0
            replace p108 := eq_true p108
            replace q108 := eq_true q108
            go_wp2
            repeat (go_quiet (fail); try go_wp2)
            go_ret
            exact ⟨by first | rfl | (simp [errW_none, errW_some] <;> rfl) | (simp [*, errW_none, errW_some] <;> rfl), by repeat (first | (with_reducible first | exact HB.out | apply below_alloc | apply pw_below_drewN | apply below_drew1 | refine below_set ?_ GE106.out) | exact HB.out)⟩
           ·rw [if_neg c32] at H
            have c32b0 : decide (86400 < (rd l0_0 x71_2)) = false := decide_eq_false c32
            clear c32
            have H' := Aside0.mk H
            clear H
            have p108 : 0 ≤ (x71_2 : Int) := of_decide_eq_true (by first | (with_reducible assumption) | assumption)
            have q108 : x71_2 < (l0_0.length : Int) := of_decide_eq_true (by first | (with_reducible assumption) | assumption)
            obtain ⟨ad108, e108, hx108_0⟩ := Kd.at_int HR0_0.out x71_2 p108 q108
            cases e108
            replace hx108_0 := (HB.out.cell (World.block_lt_of_cell? w _ hx108_0)).trans hx108_0
            replace p108 := eq_true p108
            replace q108 := eq_true q108
            go_wp2
            repeat (go_quiet (fail); try go_wp2)
            go_roundg k2
            case measure => have := HJ10.out; have := HK2.out; omega
            case rel => exact ⟨(wrap64 (x71_2 + 1)), (by first | rfl | (simp; done) | (simp [*]; done)), H', ⟨by have := HJ10.out; have := HK2.out; omega⟩, ⟨by (with_reducible repeat (first | refine blk_drewN ?_ _ | refine blk_drew ?_ | refine blk_alloc ?_ _)); exact BK106.out⟩, ⟨by repeat (first | (with_reducible first | exact HB.out | apply below_alloc | apply pw_below_drewN | apply below_drew1 | refine below_set ?_ GE106.out) | exact HB.out)⟩⟩
         ·rw [if_neg c30] at H
          exact absurd H (by simp)
        ·rw [if_neg c29] at H
         exact absurd H (by simp)
       ·rw [if_neg c28] at H
        have c28b0 : decide (x71_2 < (l0_0.length : Int)) = false := decide_eq_false c28
        clear c28
        have H' := Aside0.mk H
        clear H
        have hcz33_0 : wr.cell? ⟨gb106, 0, none⟩ = some (.slice A0_0 l0_0.length c0_0) := (blk_cell BK106.out 0).trans rfl
        have hcz33_1 : wr.cell? ⟨gb106, 1, none⟩ = some (.slice A0_1 l0_1.length c0_1) := (blk_cell BK106.out 1).trans rfl
        have hcz33_2 : wr.cell? ⟨gb106, 2, none⟩ = some (.slice A0_2 l0_2.length c0_2) := (blk_cell BK106.out 2).trans rfl
        have hcz33_3 : wr.cell? ⟨gb106, 3, none⟩ = some (.slice A0_3 l0_3.length c0_3) := (blk_cell BK106.out 3).trans rfl
        have hfz33_0 := blk_frozen BK106.out 0
        have hfz33_1 := blk_frozen BK106.out 1
        have hfz33_2 := blk_frozen BK106.out 2
        have hfz33_3 := blk_frozen BK106.out 3
        go_wp2
        repeat (go_quiet (fail); try go_wp2)
        go_loopg [85] k2 (fun kq v85 w' => ∃ (x85_3 : Int), v85 = .int .i64 x85_3 ∧ Aside0 (spec_GoodZone.l1 kq l0_3 (l0_3.length : Int) x85_3 l0_0 l0_1 l0_2 l0_3 = some r) ∧ Aside0 (kq ≤ k2) ∧ Aside0 (w'.heap[gb106]? = some (.cells #[(.slice A0_0 l0_0.length c0_0), (.slice A0_1 l0_1.length c0_1), (.slice A0_2 l0_2.length c0_2), (.slice A0_3 l0_3.length c0_3)] 29 (0, 0))) ∧ Aside0 (Below w.heap.size w w'))
        case atStart => exact ⟨(0), (by first | rfl | (simp; done) | (simp [*]; done)), H', ⟨Nat.le_refl _⟩, ⟨by (with_reducible repeat (first | refine blk_drewN ?_ _ | refine blk_drew ?_ | refine blk_alloc ?_ _)); exact BK106.out⟩, ⟨by repeat (first | (with_reducible first | exact HB.out | apply below_alloc | apply pw_below_drewN | apply below_drew1 | refine below_set ?_ GE106.out) | exact HB.out)⟩⟩
        case round =>
         clear H'
         try clear c1
         try clear p1
         try clear q1
         try clear hx1
         try clear qi1
         try clear c2
         try clear c2b0
         try clear c2b1
         try clear c2b2
         try clear p2
         try clear c3
         try clear c3b0
         try clear c3b1
         try clear c3b2
         try clear c4
         try clear c4b0
         try clear c4b1
         try clear c4b2
         try clear c6
         try clear p6
         try clear p10
         try clear q10
         try clear hx10
         try clear qi10
         try clear c14
         try clear c14b0
         try clear c14b1
         try clear c16
         try clear c16b0
         try clear c16b1
         try clear c16b2
         try clear c17
         try clear c17b0
         try clear c17b1
         try clear c17b2
         try clear c19
         try clear c19b0
         try clear c19b1
         try clear c21
         try clear c21b0
         try clear c21b1
         try clear c21b2
         try clear c22
         try clear c22b0
         try clear c22b1
         try clear c26
         try clear c28
         try clear c28b0
         try clear c29
         try clear c29b0
         try clear c30
         try clear c30b0
         try clear c31
         try clear c31b0
         try clear c32
         try clear c32b0
         try clear hcz10_0
         try clear hcz10_1
         try clear hcz10_2
         try clear hcz10_3
         try clear hcz13_0
         try clear hcz13_1
         try clear hcz13_2
         try clear hcz13_3
         try clear hcz15_0
         try clear hcz15_1
         try clear hcz15_2
         try clear hcz15_3
         try clear hcz18_0
         try clear hcz18_1
         try clear hcz18_2
         try clear hcz18_3
         try clear hcz20_0
         try clear hcz20_1
         try clear hcz20_2
         try clear hcz20_3
         try clear hcz23_0
         try clear hcz23_1
         try clear hcz23_2
         try clear hcz23_3
         try clear hcz24_0
         try clear hcz24_1
         try clear hcz24_2
         try clear hcz24_3
         try clear hcz25_0
         try clear hcz25_1
         try clear hcz25_2
         try clear hcz25_3
         try clear hcz27_0
         try clear hcz27_1
         try clear hcz27_2
         try clear hcz27_3
         try clear hcz33_0
         try clear hcz33_1
         try clear hcz33_2
         try clear hcz33_3
         try clear hcz6_0
         try clear hcz6_1
         try clear hcz6_2
         try clear hcz6_3
         try clear hcz8_0
         try clear hcz8_1
         try clear hcz8_2
         try clear hcz8_3
         try clear hfz10_0
         try clear hfz10_1
         try clear hfz10_2
         try clear hfz10_3
         try clear hfz13_0
         try clear hfz13_1
         try clear hfz13_2
         try clear hfz13_3
         try clear hfz15_0
         try clear hfz15_1
         try clear hfz15_2
         try clear hfz15_3
         try clear hfz18_0
         try clear hfz18_1
         try clear hfz18_2
         try clear hfz18_3
         try clear hfz20_0
         try clear hfz20_1
         try clear hfz20_2
         try clear hfz20_3
         try clear hfz23_0
         try clear hfz23_1
         try clear hfz23_2
         try clear hfz23_3
         try clear hfz24_0
         try clear hfz24_1
         try clear hfz24_2
         try clear hfz24_3
         try clear hfz25_0
         try clear hfz25_1
         try clear hfz25_2
         try clear hfz25_3
         try clear hfz27_0
         try clear hfz27_1
         try clear hfz27_2
         try clear hfz27_3
         try clear hfz33_0
         try clear hfz33_1
         try clear hfz33_2
         try clear hfz33_3
         try clear hfz6_0
         try clear hfz6_1
         try clear hfz6_2
         try clear hfz6_3
         try clear hfz8_0
         try clear hfz8_1
         try clear hfz8_2
         try clear hfz8_3
         try clear hx107_0
         try clear hx108_0
         try clear p1
         try clear p10
         try clear p107
         try clear p108
         try clear p2
         try clear q1
         try clear q10
         try clear q107
         try clear q108
         obtain ⟨x85_3, rfl, HA, HK3, BK106, HB⟩ := hrel
         cases gk with
         | zero => exact absurd HA.out (by simp [spec_GoodZone.l1])
         | succ k3 =>
          have H := HA.out
          clear HA
          simp only [spec_GoodZone.l1] at H
          by_cases c34 : x85_3 < (l0_3.length : Int)
          ·rw [if_pos c34] at H
           have c34b0 : decide (x85_3 < (l0_3.length : Int)) = true := decide_eq_true c34
           clear c34
           by_cases c35 : 0 ≤ x85_3
           ·rw [if_pos c35] at H
            have c35b0 : decide (0 ≤ x85_3) = true := decide_eq_true c35
            clear c35
            by_cases c36 : x85_3 < (l0_3.length : Int)
            ·rw [if_pos c36] at H
             have c36b0 : decide (x85_3 < (l0_3.length : Int)) = true := decide_eq_true c36
             clear c36
             by_cases c37 : (rd l0_3 x85_3) < 0
             ·rw [if_pos c37] at H
              have c37b0 : decide ((rd l0_3 x85_3) < 0) = true := decide_eq_true c37
              clear c37
              obtain rfl := Option.some.inj H
              have p109 : 0 ≤ (x85_3 : Int) := of_decide_eq_true (by first | (with_reducible assumption) | assumption)
              have q109 : x85_3 < (l0_3.length : Int) := of_decide_eq_true (by first | (with_reducible assumption) | assumption)
              obtain ⟨ad109, e109, hx109_0⟩ := Kd.at_int HR0_3.out x85_3 p109 q109
              cases e109
              replace hx109_0 := (HB.out.cell (World.block_lt_of_cell? w _ hx109_0)).trans hx109_0
              replace p109 := eq_true p109
              replace q109 := eq_true q109
              go_wp2
              repeat (go_quiet (fail); try go_wp2)
              go_ret
              exact ⟨by first | rfl | (simp [errW_none, errW_some] <;> rfl) | (simp [*, errW_none, errW_some] <;> rfl), by repeat (first | (with_reducible first | exact HB.out | apply below_alloc | apply pw_below_drewN | apply below_drew1 | refine below_set ?_ GE106.out) | exact HB.out)⟩
             ·rw [if_neg c37] at H
              have c37b0 : decide ((rd l0_3 x85_3) < 0) = false := decide_eq_false c37
              clear c37
              by_cases c38 : (rd l0_3 x85_3) ≥ (l0_0.length : Int)
              ·rw [if_pos c38] at H
               have c38b0 : decide ((l0_0.length : Int) ≤ (rd l0_3 x85_3)) = true := decide_eq_true c38
               clear c38
               obtain rfl := Option.some.inj H
               have p109 : 0 ≤ (x85_3 : Int) := of_decide_eq_true (by first | (with_reducible assumption) | assumption)
               have q109 : x85_3 < (l0_3.length : Int) := of_decide_eq_true (by first | (with_reducible assumption) | assumption)
               obtain ⟨ad109, e109, hx109_0⟩ := Kd.at_int HR0_3.out x85_3 p109 q109
               cases e109
               replace hx109_0 := (HB.out.cell (World.block_lt_of_cell? w _ hx109_0)).trans hx109_0
               replace p109 := eq_true p109
               replace q109 := eq_true q109
               have hcz39_0 : wr.cell? ⟨gb106, 0, none⟩ = some (.slice A0_0 l0_0.length c0_0) := (blk_cell BK106.out 0).trans rfl
               have hcz39_1 : wr.cell? ⟨gb106, 1, none⟩ = some (.slice A0_1 l0_1.length c0_1) := (blk_cell BK106.out 1).trans rfl
               have hcz39_2 : wr.cell? ⟨gb106, 2, none⟩ = some (.slice A0_2 l0_2.length c0_2) := (blk_cell BK106.out 2).trans rfl
               have hcz39_3 : wr.cell? ⟨gb106, 3, none⟩ = some (.slice (some ad109) l0_3.length c0_3) := (blk_cell BK106.out 3).trans rfl
               have hfz39_0 := blk_frozen BK106.out 0
               have hfz39_1 := blk_frozen BK106.out 1
               have hfz39_2 := blk_frozen BK106.out 2
               have hfz39_3 := blk_frozen BK106.out 3
               go_wp2
               repeat (go_quiet (fail); try go_wp2)
               go_ret
               exact ⟨by first | rfl | (simp [errW_none, errW_some] <;> rfl) | (simp [*, errW_none, errW_some] <;> rfl), by repeat (first | (with_reducible first | exact HB.out | apply below_alloc | apply pw_below_drewN | apply below_drew1 | refine below_set ?_ GE106.out) | exact HB.out)⟩
              ·rw [if_neg c38] at H
               have c38b0 : decide ((l0_0.length : Int) ≤ (rd l0_3 x85_3)) = false := decide_eq_false c38
               clear c38
               by_cases c40 : x85_3 > 0
               ·rw [if_pos c40] at H
                have c40b0 : decide (0 < x85_3) = true := decide_eq_true c40
                clear c40
                obtain ⟨ji41, hji41⟩ : ∃ j_ : Int, (wrap64 (x85_3 - 1)) = j_ := ⟨_, rfl⟩
                replace H : (if 0 ≤ (ji41) then (if (ji41) < (l0_2.length : Int) then (if x85_3 < (l0_2.length : Int) then (if (rd l0_2 (ji41)) ≥ (rd l0_2 x85_3) then (some false) else (spec_GoodZone.l1 k3 l0_3 (l0_3.length : Int) (wrap64 (x85_3 + 1)) l0_0 l0_1 l0_2 l0_3)) else (none)) else (none)) else (none)) = some r := by first | (rw [hji41] at H; exact H) | (simp only [hji41] at H ⊢; exact H)
                have hji41w : (IntKind.i64.wrap (x85_3 - 1)) = ji41 := (i64_w _).trans hji41
                by_cases c42 : 0 ≤ (ji41)
                ·rw [if_pos c42] at H
                 have c42b0 : decide (0 ≤ (ji41)) = true := decide_eq_true c42
                 clear c42
                 by_cases c43 : (ji41) < (l0_2.length : Int)
                 ·rw [if_pos c43] at H
                  have c43b0 : decide ((ji41) < (l0_2.length : Int)) = true := decide_eq_true c43
                  clear c43
                  by_cases c44 : x85_3 < (l0_2.length : Int)
                  ·rw [if_pos c44] at H
                   have c44b0 : decide (x85_3 < (l0_2.length : Int)) = true := decide_eq_true c44
                   clear c44
                   by_cases c45 : (rd l0_2 (ji41)) ≥ (rd l0_2 x85_3)
                   ·rw [if_pos c45] at H
                    have c45b0 : decide ((rd l0_2 x85_3) ≤ (rd l0_2 (ji41))) = true := decide_eq_true c45
                    clear c45
                    obtain rfl := Option.some.inj H
                    have p109 : 0 ≤ (x85_3 : Int) := of_decide_eq_true (by first | (with_reducible assumption) | assumption)
                    have q109 : x85_3 < (l0_3.length : Int) := of_decide_eq_true (by first | (with_reducible assumption) | assumption)
                    obtain ⟨ad109, e109, hx109_0⟩ := Kd.at_int HR0_3.out x85_3 p109 q109
                    cases e109
                    replace hx109_0 := (HB.out.cell (World.block_lt_of_cell? w _ hx109_0)).trans hx109_0
                    replace p109 := eq_true p109
                    replace q109 := eq_true q109
                    have hcz46_0 : wr.cell? ⟨gb106, 0, none⟩ = some (.slice A0_0 l0_0.length c0_0) := (blk_cell BK106.out 0).trans rfl
                    have hcz46_1 : wr.cell? ⟨gb106, 1, none⟩ = some (.slice A0_1 l0_1.length c0_1) := (blk_cell BK106.out 1).trans rfl
                    have hcz46_2 : wr.cell? ⟨gb106, 2, none⟩ = some (.slice A0_2 l0_2.length c0_2) := (blk_cell BK106.out 2).trans rfl
                    have hcz46_3 : wr.cell? ⟨gb106, 3, none⟩ = some (.slice (some ad109) l0_3.length c0_3) := (blk_cell BK106.out 3).trans rfl
                    have hfz46_0 := blk_frozen BK106.out 0
                    have hfz46_1 := blk_frozen BK106.out 1
                    have hfz46_2 := blk_frozen BK106.out 2
                    have hfz46_3 := blk_frozen BK106.out 3
                    have p110 : 0 ≤ ((ji41) : Int) := of_decide_eq_true (by first | (with_reducible assumption) | assumption)
                    have q110 : (ji41) < (l0_2.length : Int) := of_decide_eq_true (by first | (with_reducible assumption) | assumption)
                    obtain ⟨ad110, e110, hx110_0⟩ := Kd.at_int HR0_2.out (ji41) p110 q110
                    cases e110
                    replace hx110_0 := (HB.out.cell (World.block_lt_of_cell? w _ hx110_0)).trans hx110_0
                    replace p110 := eq_true p110
                    replace q110 := eq_true q110
                    have p111 : 0 ≤ (x85_3 : Int) := of_decide_eq_true (by first | (with_reducible assumption) | assumption)
                    have q111 : x85_3 < (l0_2.length : Int) := of_decide_eq_true (by first | (with_reducible assumption) | assumption)
                    obtain ⟨ad111, e111, hx111_0⟩ := Kd.at_int HR0_2.out x85_3 p111 q111
                    obtain rfl : ad110 = ad111 := (by injection e111)
                    replace hx111_0 := (HB.out.cell (World.block_lt_of_cell? w _ hx111_0)).trans hx111_0
                    replace p111 := eq_true p111
                    replace q111 := eq_true q111
                    go_wp2
                    repeat (go_quiet (fail); try go_wp2)
                    go_ret
                    exact ⟨by first | rfl | (simp [errW_none, errW_some] <;> rfl) | (simp only [← hji41]; first | rfl | (simp [errW_none, errW_some] <;> rfl)) | (simp [*, errW_none, errW_some] <;> rfl), by repeat (first | (with_reducible first | exact HB.out | apply below_alloc | apply pw_below_drewN | apply below_drew1 | refine below_set ?_ GE106.out) | exact HB.out)⟩
                   ·rw [if_neg c45] at H
                    have c45b0 : decide ((rd l0_2 x85_3) ≤ (rd l0_2 (ji41))) = false := decide_eq_false c45
                    clear c45
                    have H' := Aside0.mk H
                    clear H
                    have p109 : 0 ≤ (x85_3 : Int) := of_decide_eq_true (by first | (with_reducible assumption) | assumption)
                    have q109 : x85_3 < (l0_3.length : Int) := of_decide_eq_true (by first | (with_reducible assumption) | assumption)
                    obtain ⟨ad109, e109, hx109_0⟩ := Kd.at_int HR0_3.out x85_3 p109 q109
                    cases e109
                    replace hx109_0 := (HB.out.cell (World.block_lt_of_cell? w _ hx109_0)).trans hx109_0
                    replace p109 := eq_true p109
                    replace q109 := eq_true q109
                    have hcz47_0 : wr.cell? ⟨gb106, 0, none⟩ = some (.slice A0_0 l0_0.length c0_0) := (blk_cell BK106.out 0).trans rfl
                    have hcz47_1 : wr.cell? ⟨gb106, 1, none⟩ = some (.slice A0_1 l0_1.length c0_1) := (blk_cell BK106.out 1).trans rfl
                    have hcz47_2 : wr.cell? ⟨gb106, 2, none⟩ = some (.slice A0_2 l0_2.length c0_2) := (blk_cell BK106.out 2).trans rfl
                    have hcz47_3 : wr.cell? ⟨gb106, 3, none⟩ = some (.slice (some ad109) l0_3.length c0_3) := (blk_cell BK106.out 3).trans rfl
                    have hfz47_0 := blk_frozen BK106.out 0
                    have hfz47_1 := blk_frozen BK106.out 1
                    have hfz47_2 := blk_frozen BK106.out 2
                    have hfz47_3 := blk_frozen BK106.out 3
                    have p110 : 0 ≤ ((ji41) : Int) := of_decide_eq_true (by first | (with_reducible assumption) | assumption)
                    have q110 : (ji41) < (l0_2.length : Int) := of_decide_eq_true (by first | (with_reducible assumption) | assumption)
                    obtain ⟨ad110, e110, hx110_0⟩ := Kd.at_int HR0_2.out (ji41) p110 q110
                    cases e110
                    replace hx110_0 := (HB.out.cell (World.block_lt_of_cell? w _ hx110_0)).trans hx110_0
                    replace p110 := eq_true p110
                    replace q110 := eq_true q110
                    have p111 : 0 ≤ (x85_3 : Int) := of_decide_eq_true (by first | (with_reducible assumption) | assumption)
                    have q111 : x85_3 < (l0_2.length : Int) := of_decide_eq_true (by first | (with_reducible assumption) | assumption)
                    obtain ⟨ad111, e111, hx111_0⟩ := Kd.at_int HR0_2.out x85_3 p111 q111
                    obtain rfl : ad110 = ad111 := (by injection e111)
                    replace hx111_0 := (HB.out.cell (World.block_lt_of_cell? w _ hx111_0)).trans hx111_0
                    replace p111 := eq_true p111
                    replace q111 := eq_true q111
                    go_wp2
                    repeat (go_quiet (fail); try go_wp2)
                    go_roundg k3
                    case measure => have := HJ10.out; have := HK2.out; have := HK3.out; omega
                    case rel => exact ⟨(wrap64 (x85_3 + 1)), (by first | rfl | (simp; done) | (simp [*]; done)), H', ⟨by have := HJ10.out; have := HK2.out; have := HK3.out; omega⟩, ⟨by (with_reducible repeat (first | refine blk_drewN ?_ _ | refine blk_drew ?_ | refine blk_alloc ?_ _)); exact BK106.out⟩, ⟨by repeat (first | (with_reducible first | exact HB.out | apply below_alloc | apply pw_below_drewN | apply below_drew1 | refine below_set ?_ GE106.out) | exact HB.out)⟩⟩
                  ·rw [if_neg c44] at H
                   exact absurd H (by simp)
                 ·rw [if_neg c43] at H
                  exact absurd H (by simp)
                ·rw [if_neg c42] at H
                 exact absurd H (by simp)
               ·rw [if_neg c40] at H
                have c40b0 : decide (0 < x85_3) = false := decide_eq_false c40
                clear c40
                have H' := Aside0.mk H
                clear H
                have p109 : 0 ≤ (x85_3 : Int) := of_decide_eq_true (by first | (with_reducible assumption) | assumption)
                have q109 : x85_3 < (l0_3.length : Int) := of_decide_eq_true (by first | (with_reducible assumption) | assumption)
                obtain ⟨ad109, e109, hx109_0⟩ := Kd.at_int HR0_3.out x85_3 p109 q109
                cases e109
                replace hx109_0 := (HB.out.cell (World.block_lt_of_cell? w _ hx109_0)).trans hx109_0
                replace p109 := eq_true p109
                replace q109 := eq_true q109
                have hcz48_0 : wr.cell? ⟨gb106, 0, none⟩ = some (.slice A0_0 l0_0.length c0_0) := (blk_cell BK106.out 0).trans rfl
                have hcz48_1 : wr.cell? ⟨gb106, 1, none⟩ = some (.slice A0_1 l0_1.length c0_1) := (blk_cell BK106.out 1).trans rfl
                have hcz48_2 : wr.cell? ⟨gb106, 2, none⟩ = some (.slice A0_2 l0_2.length c0_2) := (blk_cell BK106.out 2).trans rfl
                have hcz48_3 : wr.cell? ⟨gb106, 3, none⟩ = some (.slice (some ad109) l0_3.length c0_3) := (blk_cell BK106.out 3).trans rfl
                have hfz48_0 := blk_frozen BK106.out 0
                have hfz48_1 := blk_frozen BK106.out 1
                have hfz48_2 := blk_frozen BK106.out 2
                have hfz48_3 := blk_frozen BK106.out 3
                go_wp2
                repeat (go_quiet (fail); try go_wp2)
                go_roundg k3
                case measure => have := HJ10.out; have := HK2.out; have := HK3.out; omega
                case rel => exact ⟨(wrap64 (x85_3 + 1)), (by first | rfl | (simp; done) | (simp [*]; done)), H', ⟨by have := HJ10.out; have := HK2.out; have := HK3.out; omega⟩, ⟨by (with_reducible repeat (first | refine blk_drewN ?_ _ | refine blk_drew ?_ | refine blk_alloc ?_ _)); exact BK106.out⟩, ⟨by repeat (first | (with_reducible first | exact HB.out | apply below_alloc | apply pw_below_drewN | apply below_drew1 | refine below_set ?_ GE106.out) | exact HB.out)⟩⟩
            ·rw [if_neg c36] at H
             exact absurd H (by simp)
           ·rw [if_neg c35] at H
            exact absurd H (by simp)
          ·rw [if_neg c34] at H
           have c34b0 : decide (x85_3 < (l0_3.length : Int)) = false := decide_eq_false c34
           clear c34
           obtain rfl := Option.some.inj H
           go_wp2
           repeat (go_quiet (fail); try go_wp2)
           go_ret
           exact ⟨by first | rfl | (simp [errW_none, errW_some] <;> rfl) | (simp [*, errW_none, errW_some] <;> rfl), by repeat (first | (with_reducible first | exact HB.out | apply below_alloc | apply pw_below_drewN | apply below_drew1 | refine below_set ?_ GE106.out) | exact HB.out)⟩
end Go.Proofs.Ytlopkdhblfibkaa.Pr
namespace Go.Proofs.Ytlopkdhblfibkaa.Pr
open Go.RowKit Go.Proofs.YtlopkdhblfibkaaW.PrintWords Go.Proofs.YtlopkdhblfibkaaW.PrintLast
set_option linter.unusedVariables false
set_option linter.unusedSimpArgs false
mutual
def spec_CronPlainZone.l0 : Nat → List Int → Int → Int → List Int → List Bool → List Int → List Int → Option (Bool)
 | 0, _, _, _, _, _, _, _ => none
 | k + 1, x10, x11, x12, x114000, x114001, x114002, x114003 => if x12 < x11 then (if 0 ≤ x12 then (if x12 < (x10.length : Int) then (if (Int.tmod (rd x10 x12) 60) = 0 then (spec_CronPlainZone.l0 k x10 x11 (wrap64 (x12 + 1)) x114000 x114001 x114002 x114003) else (some false)) else (none)) else (none)) else (spec_CronPlainZone.l1 k 1 x114000 x114001 x114002 x114003)
def spec_CronPlainZone.l1 : Nat → Int → List Int → List Bool → List Int → List Int → Option (Bool)
 | 0, _, _, _, _, _ => none
 | k + 1, x5, x114000, x114001, x114002, x114003 => if x5 < (x114002.length : Int) then (if 0 ≤ x5 then (if (rd x114002 x5) < (-62167596800) then (spec_CronPlainZone.j2 k x5 (rd x114002 x5) true x114000 x114001 x114002 x114003) else (spec_CronPlainZone.j2 k x5 (rd x114002 x5) (decide ((rd x114002 x5) > 253722300799)) x114000 x114001 x114002 x114003)) else (none)) else (some true)
def spec_CronPlainZone.j2 : Nat → Int → Int → Bool → List Int → List Bool → List Int → List Int → Option (Bool)
 | 0, _, _, _, _, _, _, _ => none
 | k + 1, x5, x6, x37, x114000, x114001, x114002, x114003 => if x37 = true then (some false) else (if x5 > 1 then (if 0 ≤ x5 then (if x5 < (x114002.length : Int) then (if 0 ≤ (wrap64 (x5 - 1)) then (if (wrap64 (x5 - 1)) < (x114002.length : Int) then (spec_CronPlainZone.j3 k x5 x6 (decide ((wrap64 ((rd x114002 x5) - (rd x114002 (wrap64 (x5 - 1))))) < 345600)) x114000 x114001 x114002 x114003) else (none)) else (none)) else (none)) else (none)) else (spec_CronPlainZone.j3 k x5 x6 false x114000 x114001 x114002 x114003))
def spec_CronPlainZone.j3 : Nat → Int → Int → Bool → List Int → List Bool → List Int → List Int → Option (Bool)
 | 0, _, _, _, _, _, _, _ => none
 | k + 1, x5, x6, x54, x114000, x114001, x114002, x114003 => if x54 = true then (some false) else (if 0 ≤ (wrap64 (x5 - 1)) then (if (wrap64 (x5 - 1)) < (x114003.length : Int) then (if 0 ≤ (rd x114003 (wrap64 (x5 - 1))) then (if (rd x114003 (wrap64 (x5 - 1))) < (x114000.length : Int) then (if 0 ≤ x5 then (if x5 < (x114003.length : Int) then (if 0 ≤ (rd x114003 x5) then (if (rd x114003 x5) < (x114000.length : Int) then ((spec_floorMod.f (wrap64 (x6 + (rd x114000 (rd x114003 (wrap64 (x5 - 1)))))) 3600).bind fun t122 => (if t122 = 0 then ((spec_floorMod.f (wrap64 (x6 + (rd x114000 (rd x114003 x5)))) 3600).bind fun t123 => (if t123 = 0 then (spec_CronPlainZone.j4 k x5 (wrap64 (x6 + (rd x114000 (rd x114003 (wrap64 (x5 - 1)))))) (wrap64 (x6 + (rd x114000 (rd x114003 x5)))) (decide ((wrap64 (x6 + (rd x114000 (rd x114003 x5)))) < (wrap64 ((wrap64 (x6 + (rd x114000 (rd x114003 (wrap64 (x5 - 1)))))) - 3600)))) x114000 x114001 x114002 x114003) else (spec_CronPlainZone.j4 k x5 (wrap64 (x6 + (rd x114000 (rd x114003 (wrap64 (x5 - 1)))))) (wrap64 (x6 + (rd x114000 (rd x114003 x5)))) true x114000 x114001 x114002 x114003))) else (spec_CronPlainZone.j4 k x5 (wrap64 (x6 + (rd x114000 (rd x114003 (wrap64 (x5 - 1)))))) (wrap64 (x6 + (rd x114000 (rd x114003 x5)))) true x114000 x114001 x114002 x114003))) else (none)) else (none)) else (none)) else (none)) else (none)) else (none)) else (none)) else (none))
def spec_CronPlainZone.j4 : Nat → Int → Int → Int → Bool → List Int → List Bool → List Int → List Int → Option (Bool)
 | 0, _, _, _, _, _, _, _, _ => none
 | k + 1, x5, x7, x8, x91, x114000, x114001, x114002, x114003 => if x91 = true then (some false) else ((spec_floorDiv.f x7 86400).bind fun t124 => ((spec_floorDiv.f x8 86400).bind fun t125 => (if t124 = t125 then ((spec_floorMod.f x7 86400).bind fun t126 => (if t126 < 3600 then (some false) else ((spec_floorMod.f x8 86400).bind fun t127 => (if t127 < 3600 then (some false) else (spec_CronPlainZone.l1 k (wrap64 (x5 + 1)) x114000 x114001 x114002 x114003))))) else (some false))))
end
def spec_CronPlainZone.f (k : Nat) (l0_0 : List Int) (l0_1 : List Bool) (l0_2 : List Int) (l0_3 : List Int) : Option (Bool) := spec_CronPlainZone.l0 k l0_0 (l0_0.length : Int) 0 l0_0 l0_1 l0_2 l0_3
theorem spec_CronPlainZone.mono_l : ∀ k, (∀ y0 y1 y2 y3 y4 y5 y6, LeO (spec_CronPlainZone.l0 k y0 y1 y2 y3 y4 y5 y6) (spec_CronPlainZone.l0 (k + 1) y0 y1 y2 y3 y4 y5 y6)) ∧ (∀ y0 y1 y2 y3 y4, LeO (spec_CronPlainZone.l1 k y0 y1 y2 y3 y4) (spec_CronPlainZone.l1 (k + 1) y0 y1 y2 y3 y4)) ∧ (∀ y0 y1 y2 y3 y4 y5 y6, LeO (spec_CronPlainZone.j2 k y0 y1 y2 y3 y4 y5 y6) (spec_CronPlainZone.j2 (k + 1) y0 y1 y2 y3 y4 y5 y6)) ∧ (∀ y0 y1 y2 y3 y4 y5 y6, LeO (spec_CronPlainZone.j3 k y0 y1 y2 y3 y4 y5 y6) (spec_CronPlainZone.j3 (k + 1) y0 y1 y2 y3 y4 y5 y6)) ∧ (∀ y0 y1 y2 y3 y4 y5 y6 y7, LeO (spec_CronPlainZone.j4 k y0 y1 y2 y3 y4 y5 y6 y7) (spec_CronPlainZone.j4 (k + 1) y0 y1 y2 y3 y4 y5 y6 y7))
 | 0 => ⟨fun _ _ _ _ _ _ _ r h => by simp [spec_CronPlainZone.l0] at h, fun _ _ _ _ _ r h => by simp [spec_CronPlainZone.l1] at h, fun _ _ _ _ _ _ _ r h => by simp [spec_CronPlainZone.j2] at h, fun _ _ _ _ _ _ _ r h => by simp [spec_CronPlainZone.j3] at h, fun _ _ _ _ _ _ _ _ r h => by simp [spec_CronPlainZone.j4] at h⟩
 | k + 1 => by
  obtain ⟨ih0, ih1, ih2, ih3, ih4⟩ := spec_CronPlainZone.mono_l k
  refine ⟨?_, ?_, ?_, ?_, ?_⟩
  ·intro y0 y1 y2 y3 y4 y5 y6
   unfold spec_CronPlainZone.l0
   repeat' first
   | (with_reducible exact ih0 _ _ _ _ _ _ _)
   | (with_reducible exact ih1 _ _ _ _ _)
   | (with_reducible exact ih2 _ _ _ _ _ _ _)
   | (with_reducible exact ih3 _ _ _ _ _ _ _)
   | (with_reducible exact ih4 _ _ _ _ _ _ _ _)
   | (with_reducible exact LeO.refl _)
   | (with_reducible exact LeO.none _)
   | (with_reducible refine LeO.ite ?_ ?_)
   | (with_reducible refine LeO.bind ?_ (fun _ => ?_))
   | exact ih0 _ _ _ _ _ _ _
   | exact ih1 _ _ _ _ _
   | exact ih2 _ _ _ _ _ _ _
   | exact ih3 _ _ _ _ _ _ _
   | exact ih4 _ _ _ _ _ _ _ _
   | exact LeO.none _
   | refine LeO.ite ?_ ?_
   | refine LeO.bind ?_ (fun _ => ?_)
  ·intro y0 y1 y2 y3 y4
   unfold spec_CronPlainZone.l1
   repeat' first
   | (with_reducible exact ih0 _ _ _ _ _ _ _)
   | (with_reducible exact ih1 _ _ _ _ _)
   | (with_reducible exact ih2 _ _ _ _ _ _ _)
   | (with_reducible exact ih3 _ _ _ _ _ _ _)
   | (with_reducible exact ih4 _ _ _ _ _ _ _ _)
   | (with_reducible exact LeO.refl _)
   | (with_reducible exact LeO.none _)
   | (with_reducible refine LeO.ite ?_ ?_)
   | (with_reducible refine LeO.bind ?_ (fun _ => ?_))
   | exact ih0 _ _ _ _ _ _ _
   | exact ih1 _ _ _ _ _
   | exact ih2 _ _ _ _ _ _ _
   | exact ih3 _ _ _ _ _ _ _
   | exact ih4 _ _ _ _ _ _ _ _
   | exact LeO.none _
   | refine LeO.ite ?_ ?_
   | refine LeO.bind ?_ (fun _ => ?_)
  ·intro y0 y1 y2 y3 y4 y5 y6
   unfold spec_CronPlainZone.j2
   repeat' first
   | (with_reducible exact ih0 _ _ _ _ _ _ _)
   | (with_reducible exact ih1 _ _ _ _ _)
   | (with_reducible exact ih2 _ _ _ _ _ _ _)
   | (with_reducible exact ih3 _ _ _ _ _ _ _)
   | (with_reducible exact ih4 _ _ _ _ _ _ _ _)
   | (with_reducible exact LeO.refl _)
   | (with_reducible exact LeO.none _)
   | (with_reducible refine LeO.ite ?_ ?_)
   | (with_reducible refine LeO.bind ?_ (fun _ => ?_))
   | exact ih0 _ _ _ _ _ _ _
   | exact ih1 _ _ _ _ _
   | exact ih2 _ _ _ _ _ _ _
   | exact ih3 _ _ _ _ _ _ _
   | exact ih4 _ _ _ _ _ _ _ _
   | exact LeO.none _
   | refine LeO.ite ?_ ?_
   | refine LeO.bind ?_ (fun _ => ?_)
  ·intro y0 y1 y2 y3 y4 y5 y6
   unfold spec_CronPlainZone.j3
   repeat' first
   | (with_reducible exact ih0 _ _ _ _ _ _ _)
   | (with_reducible exact ih1 _ _ _ _ _)
   | (with_reducible exact ih2 _ _ _ _ _ _ _)
   | (with_reducible exact ih3 _ _ _ _ _ _ _)
   | (with_reducible exact ih4 _ _ _ _ _ _ _ _)
   | (with_reducible exact LeO.refl _)
   | (with_reducible exact LeO.none _)
   | (with_reducible refine LeO.ite ?_ ?_)
   | (with_reducible refine LeO.bind ?_ (fun _ => ?_))
   | exact ih0 _ _ _ _ _ _ _
   | exact ih1 _ _ _ _ _
   | exact ih2 _ _ _ _ _ _ _
   | exact ih3 _ _ _ _ _ _ _
   | exact ih4 _ _ _ _ _ _ _ _
   | exact LeO.none _
   | refine LeO.ite ?_ ?_
   | refine LeO.bind ?_ (fun _ => ?_)
  ·intro y0 y1 y2 y3 y4 y5 y6 y7
   unfold spec_CronPlainZone.j4
   repeat' first
   | (with_reducible exact ih0 _ _ _ _ _ _ _)
   | (with_reducible exact ih1 _ _ _ _ _)
   | (with_reducible exact ih2 _ _ _ _ _ _ _)
   | (with_reducible exact ih3 _ _ _ _ _ _ _)
   | (with_reducible exact ih4 _ _ _ _ _ _ _ _)
   | (with_reducible exact LeO.refl _)
   | (with_reducible exact LeO.none _)
   | (with_reducible refine LeO.ite ?_ ?_)
   | (with_reducible refine LeO.bind ?_ (fun _ => ?_))
   | exact ih0 _ _ _ _ _ _ _
   | exact ih1 _ _ _ _ _
   | exact ih2 _ _ _ _ _ _ _
   | exact ih3 _ _ _ _ _ _ _
   | exact ih4 _ _ _ _ _ _ _ _
   | exact LeO.none _
   | refine LeO.ite ?_ ?_
   | refine LeO.bind ?_ (fun _ => ?_)
theorem spec_CronPlainZone.mono : ∀ a0 a1 a2 a3 k, LeO (spec_CronPlainZone.f k a0 a1 a2 a3) (spec_CronPlainZone.f (k + 1) a0 a1 a2 a3) := by
 intro a0 a1 a2 a3 k
 obtain ⟨ih0, ih1, ih2, ih3, ih4⟩ := spec_CronPlainZone.mono_l k
 unfold spec_CronPlainZone.f
 repeat' first
  | (with_reducible exact ih0 _ _ _ _ _ _ _)
  | (with_reducible exact ih1 _ _ _ _ _)
  | (with_reducible exact ih2 _ _ _ _ _ _ _)
  | (with_reducible exact ih3 _ _ _ _ _ _ _)
  | (with_reducible exact ih4 _ _ _ _ _ _ _ _)
  | (with_reducible exact LeO.refl _)
  | (with_reducible exact LeO.none _)
  | (with_reducible refine LeO.ite ?_ ?_)
  | (with_reducible refine LeO.bind ?_ (fun _ => ?_))
  | exact ih0 _ _ _ _ _ _ _
  | exact ih1 _ _ _ _ _
  | exact ih2 _ _ _ _ _ _ _
  | exact ih3 _ _ _ _ _ _ _
  | exact ih4 _ _ _ _ _ _ _ _
  | exact LeO.none _
  | refine LeO.ite ?_ ?_
  | refine LeO.bind ?_ (fun _ => ?_)
set_option maxHeartbeats 8000000 in
set_option maxRecDepth 100000 in
theorem spec_CronPlainZone.calls (k : Nat) (A0_0 : Option Addr) (c0_0 : Nat) (l0_0 : List Int) (A0_1 : Option Addr) (c0_1 : Nat) (l0_1 : List Bool) (A0_2 : Option Addr) (c0_2 : Nat) (l0_2 : List Int) (A0_3 : Option Addr) (c0_3 : Nat) (l0_3 : List Int) (r : Bool) (w : World) (hr0_0 : Kd.C (Kd.int .i64) w A0_0 l0_0.length l0_0) (hc0_0 : l0_0.length ≤ c0_0) (hr0_1 : Kd.C Kd.bool w A0_1 l0_1.length l0_1) (hc0_1 : l0_1.length ≤ c0_1) (hr0_2 : Kd.C (Kd.int .i64) w A0_2 l0_2.length l0_2) (hc0_2 : l0_2.length ≤ c0_2) (hr0_3 : Kd.C (Kd.int .i64) w A0_3 l0_3.length l0_3) (hc0_3 : l0_3.length ≤ c0_3) (h : spec_CronPlainZone.f k l0_0 l0_1 l0_2 l0_3 = some r) :
  Calls Try.prog 7 #[.agg #[.slice A0_0 l0_0.length c0_0, .slice A0_1 l0_1.length c0_1, .slice A0_2 l0_2.length c0_2, .slice A0_3 l0_3.length c0_3]] w fun e w' => e = .returned (.bool r) ∧ Below w.heap.size w w' := by
 have hu29 := Try.underlying29
 have HR0_0 := Aside0.mk hr0_0
 have HC0_0 := Aside0.mk hc0_0
 clear hr0_0 hc0_0
 have HR0_1 := Aside0.mk hr0_1
 have HC0_1 := Aside0.mk hc0_1
 clear hr0_1 hc0_1
 have HR0_2 := Aside0.mk hr0_2
 have HC0_2 := Aside0.mk hc0_2
 clear hr0_2 hc0_2
 have HR0_3 := Aside0.mk hr0_3
 have HC0_3 := Aside0.mk hc0_3
 clear hr0_3 hc0_3
 have HB := Aside0.mk (Below.refl w.heap.size w)
 have H : (spec_CronPlainZone.l0 k l0_0 (l0_0.length : Int) 0 l0_0 l0_1 l0_2 l0_3) = some r := h
 clear h
 have H' := Aside0.mk H
 clear H
 go_enter Try.func7, Try.ntmps7
 go_wp2_with (first | ((with_reducible refine gate_dst (N := 1) rfl ?_); refine box_event ?hg (N := 1) ?hd (cs := #[.slice A0_0 l0_0.length c0_0, .slice A0_1 l0_1.length c0_1, .slice A0_2 l0_2.length c0_2, .slice A0_3 l0_3.length c0_3]) (t := 29) ?hr ?_; (case hd => rfl); (case hg => rfl); (case hr => first | (go_simp; done) | (go_simp; rfl)); intro gb113 hg w2 hbox hb; have n0_ := Aside0.mk (below_step (by repeat (first | (with_reducible first | exact HB.out | apply below_alloc | apply pw_below_drewN | apply below_drew1) | exact HB.out)) hb); have n1_ := Aside0.mk (hbox); have n2_ := Aside0.mk ((by rw [hg]; exact (below_size (by repeat (first | (with_reducible first | exact HB.out | apply below_alloc | apply pw_below_drewN | apply below_drew1) | exact HB.out))) : w.heap.size ≤ gb113)); have n3_ := Aside0.mk ((by rw [hg]; exact (below_size (by repeat (first | (with_reducible first | exact HB.out | apply below_alloc | apply pw_below_drewN | apply below_drew1) | exact HB.out))) : w.heap.size ≤ gb113)); clear HB; have HB := n0_; have BK113 := n1_; have GW113 := n2_; have GE113 := n3_; clear n0_ n1_ n2_ n3_; clear hb hbox hg; have hcz3_0 : w2.cell? ⟨gb113, 0, none⟩ = some (.slice A0_0 l0_0.length c0_0) := (blk_cell BK113.out 0).trans rfl; have hcz3_1 : w2.cell? ⟨gb113, 1, none⟩ = some (.slice A0_1 l0_1.length c0_1) := (blk_cell BK113.out 1).trans rfl; have hcz3_2 : w2.cell? ⟨gb113, 2, none⟩ = some (.slice A0_2 l0_2.length c0_2) := (blk_cell BK113.out 2).trans rfl; have hcz3_3 : w2.cell? ⟨gb113, 3, none⟩ = some (.slice A0_3 l0_3.length c0_3) := (blk_cell BK113.out 3).trans rfl; have hfz3_0 := blk_frozen BK113.out 0; have hfz3_1 := blk_frozen BK113.out 1; have hfz3_2 := blk_frozen BK113.out 2; have hfz3_3 := blk_frozen BK113.out 3))
 repeat (go_quiet (first | ((with_reducible refine gate_dst (N := 1) rfl ?_); refine box_event ?hg (N := 1) ?hd (cs := #[.slice A0_0 l0_0.length c0_0, .slice A0_1 l0_1.length c0_1, .slice A0_2 l0_2.length c0_2, .slice A0_3 l0_3.length c0_3]) (t := 29) ?hr ?_; (case hd => rfl); (case hg => rfl); (case hr => first | (go_simp; done) | (go_simp; rfl)); intro gb113 hg w2 hbox hb; have n0_ := Aside0.mk (below_step (by repeat (first | (with_reducible first | exact HB.out | apply below_alloc | apply pw_below_drewN | apply below_drew1) | exact HB.out)) hb); have n1_ := Aside0.mk (hbox); have n2_ := Aside0.mk ((by rw [hg]; exact (below_size (by repeat (first | (with_reducible first | exact HB.out | apply below_alloc | apply pw_below_drewN | apply below_drew1) | exact HB.out))) : w.heap.size ≤ gb113)); have n3_ := Aside0.mk ((by rw [hg]; exact (below_size (by repeat (first | (with_reducible first | exact HB.out | apply below_alloc | apply pw_below_drewN | apply below_drew1) | exact HB.out))) : w.heap.size ≤ gb113)); clear HB; have HB := n0_; have BK113 := n1_; have GW113 := n2_; have GE113 := n3_; clear n0_ n1_ n2_ n3_; clear hb hbox hg; have hcz3_0 : w2.cell? ⟨gb113, 0, none⟩ = some (.slice A0_0 l0_0.length c0_0) := (blk_cell BK113.out 0).trans rfl; have hcz3_1 : w2.cell? ⟨gb113, 1, none⟩ = some (.slice A0_1 l0_1.length c0_1) := (blk_cell BK113.out 1).trans rfl; have hcz3_2 : w2.cell? ⟨gb113, 2, none⟩ = some (.slice A0_2 l0_2.length c0_2) := (blk_cell BK113.out 2).trans rfl; have hcz3_3 : w2.cell? ⟨gb113, 3, none⟩ = some (.slice A0_3 l0_3.length c0_3) := (blk_cell BK113.out 3).trans rfl; have hfz3_0 := blk_frozen BK113.out 0; have hfz3_1 := blk_frozen BK113.out 1; have hfz3_2 := blk_frozen BK113.out 2; have hfz3_3 := blk_frozen BK113.out 3)); try go_wp2_with (first | ((with_reducible refine gate_dst (N := 1) rfl ?_); refine box_event ?hg (N := 1) ?hd (cs := #[.slice A0_0 l0_0.length c0_0, .slice A0_1 l0_1.length c0_1, .slice A0_2 l0_2.length c0_2, .slice A0_3 l0_3.length c0_3]) (t := 29) ?hr ?_; (case hd => rfl); (case hg => rfl); (case hr => first | (go_simp; done) | (go_simp; rfl)); intro gb113 hg w2 hbox hb; have n0_ := Aside0.mk (below_step (by repeat (first | (with_reducible first | exact HB.out | apply below_alloc | apply pw_below_drewN | apply below_drew1) | exact HB.out)) hb); have n1_ := Aside0.mk (hbox); have n2_ := Aside0.mk ((by rw [hg]; exact (below_size (by repeat (first | (with_reducible first | exact HB.out | apply below_alloc | apply pw_below_drewN | apply below_drew1) | exact HB.out))) : w.heap.size ≤ gb113)); have n3_ := Aside0.mk ((by rw [hg]; exact (below_size (by repeat (first | (with_reducible first | exact HB.out | apply below_alloc | apply pw_below_drewN | apply below_drew1) | exact HB.out))) : w.heap.size ≤ gb113)); clear HB; have HB := n0_; have BK113 := n1_; have GW113 := n2_; have GE113 := n3_; clear n0_ n1_ n2_ n3_; clear hb hbox hg; have hcz3_0 : w2.cell? ⟨gb113, 0, none⟩ = some (.slice A0_0 l0_0.length c0_0) := (blk_cell BK113.out 0).trans rfl; have hcz3_1 : w2.cell? ⟨gb113, 1, none⟩ = some (.slice A0_1 l0_1.length c0_1) := (blk_cell BK113.out 1).trans rfl; have hcz3_2 : w2.cell? ⟨gb113, 2, none⟩ = some (.slice A0_2 l0_2.length c0_2) := (blk_cell BK113.out 2).trans rfl; have hcz3_3 : w2.cell? ⟨gb113, 3, none⟩ = some (.slice A0_3 l0_3.length c0_3) := (blk_cell BK113.out 3).trans rfl; have hfz3_0 := blk_frozen BK113.out 0; have hfz3_1 := blk_frozen BK113.out 1; have hfz3_2 := blk_frozen BK113.out 2; have hfz3_3 := blk_frozen BK113.out 3)))
 go_loopg [12] k (fun kq v12 w' => ∃ (x12_1 : Int), v12 = .int .i64 x12_1 ∧ Aside0 (spec_CronPlainZone.l0 kq l0_0 (l0_0.length : Int) x12_1 l0_0 l0_1 l0_2 l0_3 = some r) ∧ Aside0 (kq ≤ k) ∧ Aside0 (w'.heap[gb113]? = some (.cells #[(.slice A0_0 l0_0.length c0_0), (.slice A0_1 l0_1.length c0_1), (.slice A0_2 l0_2.length c0_2), (.slice A0_3 l0_3.length c0_3)] 29 (0, 0))) ∧ Aside0 (Below w.heap.size w w'))
 case atStart => exact ⟨(0), (by first | rfl | (simp; done) | (simp [*]; done)), H', ⟨Nat.le_refl _⟩, ⟨by (with_reducible repeat (first | refine blk_drewN ?_ _ | refine blk_drew ?_ | refine blk_alloc ?_ _)); exact BK113.out⟩, ⟨by repeat (first | (with_reducible first | exact HB.out | apply below_alloc | apply pw_below_drewN | apply below_drew1 | refine below_set ?_ GE113.out) | exact HB.out)⟩⟩
 case round =>
  clear H'
  try clear p2
  try clear hcz3_0
  try clear hcz3_1
  try clear hcz3_2
  try clear hcz3_3
  try clear hfz3_0
  try clear hfz3_1
  try clear hfz3_2
  try clear hfz3_3
  obtain ⟨x12_1, rfl, HA, HK1, BK113, HB⟩ := hrel
  cases gk with
  | zero => exact absurd HA.out (by simp [spec_CronPlainZone.l0])
  | succ k1 =>
   have H := HA.out
   clear HA
   simp only [spec_CronPlainZone.l0] at H
   by_cases c4 : x12_1 < (l0_0.length : Int)
   ·rw [if_pos c4] at H
    have c4b0 : decide (x12_1 < (l0_0.length : Int)) = true := decide_eq_true c4
    clear c4
    by_cases c5 : 0 ≤ x12_1
    ·rw [if_pos c5] at H
     have c5b0 : decide (0 ≤ x12_1) = true := decide_eq_true c5
     clear c5
     by_cases c6 : x12_1 < (l0_0.length : Int)
     ·rw [if_pos c6] at H
      have c6b0 : decide (x12_1 < (l0_0.length : Int)) = true := decide_eq_true c6
      clear c6
      by_cases c7 : (Int.tmod (rd l0_0 x12_1) 60) = 0
      ·rw [if_pos c7] at H
       have c7b0 : ((Int.tmod (rd l0_0 x12_1) 60) == 0) = true := beq_iff_eq.mpr c7
       have c7b1 : ((Int.tmod (rd l0_0 x12_1) 60) != 0) = false := bne_eq_false_iff_eq.mpr c7
       clear c7
       have H' := Aside0.mk H
       clear H
       have p114 : 0 ≤ (x12_1 : Int) := of_decide_eq_true (by first | (with_reducible assumption) | assumption)
       have q114 : x12_1 < (l0_0.length : Int) := of_decide_eq_true (by first | (with_reducible assumption) | assumption)
       obtain ⟨ad114, e114, hx114_0⟩ := Kd.at_int HR0_0.out x12_1 p114 q114
       cases e114
       replace hx114_0 := (HB.out.cell (World.block_lt_of_cell? w _ hx114_0)).trans hx114_0
       replace p114 := eq_true p114
       replace q114 := eq_true q114
       go_wp2
       repeat (go_quiet (fail); try go_wp2)
       go_roundg k1
       case measure => have := HK1.out; omega
       case rel => exact ⟨(wrap64 (x12_1 + 1)), (by first | rfl | (simp; done) | (simp [*]; done)), H', ⟨by have := HK1.out; omega⟩, ⟨by (with_reducible repeat (first | refine blk_drewN ?_ _ | refine blk_drew ?_ | refine blk_alloc ?_ _)); exact BK113.out⟩, ⟨by repeat (first | (with_reducible first | exact HB.out | apply below_alloc | apply pw_below_drewN | apply below_drew1 | refine below_set ?_ GE113.out) | exact HB.out)⟩⟩
      ·rw [if_neg c7] at H
       have c7b0 : ((Int.tmod (rd l0_0 x12_1) 60) == 0) = false := beq_eq_false_iff_ne.mpr c7
       have c7b1 : ((Int.tmod (rd l0_0 x12_1) 60) != 0) = true := bne_iff_ne.mpr c7
       obtain rfl := Option.some.inj H
       have p114 : 0 ≤ (x12_1 : Int) := of_decide_eq_true (by first | (with_reducible assumption) | assumption)
       have q114 : x12_1 < (l0_0.length : Int) := of_decide_eq_true (by first | (with_reducible assumption) | assumption)
       obtain ⟨ad114, e114, hx114_0⟩ := Kd.at_int HR0_0.out x12_1 p114 q114
       cases e114
       replace hx114_0 := (HB.out.cell (World.block_lt_of_cell? w _ hx114_0)).trans hx114_0
       replace p114 := eq_true p114
       replace q114 := eq_true q114
       go_wp2
       repeat (go_quiet (fail); try go_wp2)
       go_ret
       exact ⟨by first | rfl | (simp [errW_none, errW_some] <;> rfl) | (simp [*, errW_none, errW_some] <;> rfl), by repeat (first | (with_reducible first | exact HB.out | apply below_alloc | apply pw_below_drewN | apply below_drew1 | refine below_set ?_ GE113.out) | exact HB.out)⟩
     ·rw [if_neg c6] at H
      exact absurd H (by simp)
    ·rw [if_neg c5] at H
     exact absurd H (by simp)
   ·rw [if_neg c4] at H
    have c4b0 : decide (x12_1 < (l0_0.length : Int)) = false := decide_eq_false c4
    clear c4
    have H' := Aside0.mk H
    clear H
    go_wp2
    repeat (go_quiet (fail); try go_wp2)
    go_loopg [5] k1 (fun kq v5 w' => ∃ (x5_2 : Int), v5 = .int .i64 x5_2 ∧ Aside0 (spec_CronPlainZone.l1 kq x5_2 l0_0 l0_1 l0_2 l0_3 = some r) ∧ Aside0 (kq ≤ k1) ∧ Aside0 (w'.heap[gb113]? = some (.cells #[(.slice A0_0 l0_0.length c0_0), (.slice A0_1 l0_1.length c0_1), (.slice A0_2 l0_2.length c0_2), (.slice A0_3 l0_3.length c0_3)] 29 (0, 0))) ∧ Aside0 (Below w.heap.size w w'))
    case atStart => exact ⟨(1), (by first | rfl | (simp; done) | (simp [*]; done)), H', ⟨Nat.le_refl _⟩, ⟨by (with_reducible repeat (first | refine blk_drewN ?_ _ | refine blk_drew ?_ | refine blk_alloc ?_ _)); exact BK113.out⟩, ⟨by repeat (first | (with_reducible first | exact HB.out | apply below_alloc | apply pw_below_drewN | apply below_drew1 | refine below_set ?_ GE113.out) | exact HB.out)⟩⟩
    case round =>
     clear H'
     try clear p1
     try clear q1
     try clear hx1
     try clear p2
     try clear c4
     try clear c4b0
     try clear c5
     try clear c5b0
     try clear c6
     try clear c6b0
     try clear p6
     try clear c7
     try clear c7b0
     try clear c7b1
     try clear hcz3_0
     try clear hcz3_1
     try clear hcz3_2
     try clear hcz3_3
     try clear hfz3_0
     try clear hfz3_1
     try clear hfz3_2
     try clear hfz3_3
     try clear hx114_0
     try clear p114
     try clear p2
     try clear q114
     obtain ⟨x5_2, rfl, HA, HK2, BK113, HB⟩ := hrel
     cases gk with
     | zero => exact absurd HA.out (by simp [spec_CronPlainZone.l1])
     | succ k2 =>
      have H := HA.out
      clear HA
      simp only [spec_CronPlainZone.l1] at H
      by_cases c8 : x5_2 < (l0_2.length : Int)
      ·rw [if_pos c8] at H
       have c8b0 : decide (x5_2 < (l0_2.length : Int)) = true := decide_eq_true c8
       clear c8
       by_cases c9 : 0 ≤ x5_2
       ·rw [if_pos c9] at H
        have c9b0 : decide (0 ≤ x5_2) = true := decide_eq_true c9
        clear c9
        have HC10 := Aside0.mk H
        clear H
        have hcz11_0 : wr.cell? ⟨gb113, 0, none⟩ = some (.slice A0_0 l0_0.length c0_0) := (blk_cell BK113.out 0).trans rfl
        have hcz11_1 : wr.cell? ⟨gb113, 1, none⟩ = some (.slice A0_1 l0_1.length c0_1) := (blk_cell BK113.out 1).trans rfl
        have hcz11_2 : wr.cell? ⟨gb113, 2, none⟩ = some (.slice A0_2 l0_2.length c0_2) := (blk_cell BK113.out 2).trans rfl
        have hcz11_3 : wr.cell? ⟨gb113, 3, none⟩ = some (.slice A0_3 l0_3.length c0_3) := (blk_cell BK113.out 3).trans rfl
        have hfz11_0 := blk_frozen BK113.out 0
        have hfz11_1 := blk_frozen BK113.out 1
        have hfz11_2 := blk_frozen BK113.out 2
        have hfz11_3 := blk_frozen BK113.out 3
        have p115 : 0 ≤ (x5_2 : Int) := of_decide_eq_true (by first | (with_reducible assumption) | assumption)
        have q115 : x5_2 < (l0_2.length : Int) := of_decide_eq_true (by first | (with_reducible assumption) | assumption)
        obtain ⟨ad115, e115, hx115_0⟩ := Kd.at_int HR0_2.out x5_2 p115 q115
        cases e115
        replace hx115_0 := (HB.out.cell (World.block_lt_of_cell? w _ hx115_0)).trans hx115_0
        replace p115 := eq_true p115
        replace q115 := eq_true q115
        go_upto_region 11 with (fail)
        repeat (go_quiet (fail); go_upto_region 11 with (fail))
        go_cut [37] (fun v37 wc => ∃ (kq : Nat) (x37_9 : Bool), v37 = .bool x37_9 ∧ Aside0 (spec_CronPlainZone.j2 kq x5_2 (rd l0_2 x5_2) x37_9 l0_0 l0_1 l0_2 l0_3 = some r) ∧ Aside0 (kq ≤ k2) ∧ Aside0 (wc.heap[gb113]? = some (.cells #[(.slice A0_0 l0_0.length c0_0), (.slice A0_1 l0_1.length c0_1), (.slice (some ad115) l0_2.length c0_2), (.slice A0_3 l0_3.length c0_3)] 29 (0, 0))) ∧ Aside0 (Below w.heap.size w wc))
        case first =>
         have H := HC10.out
         clear HC10
         by_cases c12 : (rd l0_2 x5_2) < (-62167596800)
         ·rw [if_pos c12] at H
          have c12b0 : decide ((rd l0_2 x5_2) < (-62167596800)) = true := decide_eq_true c12
          clear c12
          (first | rw [c12b0] | (simp only [i64_w, i32_w]; rw [c12b0]) | skip)
          have H' := Aside0.mk H
          clear H
          go_wp2
          repeat (go_quiet (fail); try go_wp2)
          go_meet
          case rel => exact ⟨_, (true), (by first | rfl | (simp; done) | (simp [*]; done)), H', ⟨by have := HK1.out; have := HK2.out; first | omega | exact Nat.le_refl _⟩, ⟨by (with_reducible repeat (first | refine blk_drewN ?_ _ | refine blk_drew ?_ | refine blk_alloc ?_ _)); exact BK113.out⟩, ⟨by repeat (first | (with_reducible first | exact HB.out | apply below_alloc | apply pw_below_drewN | apply below_drew1 | refine below_set ?_ GE113.out) | exact HB.out)⟩⟩
         ·rw [if_neg c12] at H
          have c12b0 : decide ((rd l0_2 x5_2) < (-62167596800)) = false := decide_eq_false c12
          clear c12
          (first | rw [c12b0] | (simp only [i64_w, i32_w]; rw [c12b0]) | skip)
          have H' := Aside0.mk H
          clear H
          go_wp2
          repeat (go_quiet (fail); try go_wp2)
          go_meet
          case rel => exact ⟨_, (decide ((rd l0_2 x5_2) > 253722300799)), (by first | rfl | (simp; done) | (simp [*]; done)), H', ⟨by have := HK1.out; have := HK2.out; first | omega | exact Nat.le_refl _⟩, ⟨by (with_reducible repeat (first | refine blk_drewN ?_ _ | refine blk_drew ?_ | refine blk_alloc ?_ _)); exact BK113.out⟩, ⟨by repeat (first | (with_reducible first | exact HB.out | apply below_alloc | apply pw_below_drewN | apply below_drew1 | refine below_set ?_ GE113.out) | exact HB.out)⟩⟩
        case rest =>
         clear HC10
         try clear c1
         try clear p1
         try clear q1
         try clear hx1
         try clear p2
         try clear c4
         try clear c4b0
         try clear c5
         try clear c5b0
         try clear c6
         try clear c6b0
         try clear p6
         try clear c7
         try clear c7b0
         try clear c7b1
         try clear c8
         try clear c8b0
         try clear c9
         try clear c9b0
         try clear p11
         try clear q11
         try clear hx11
         try clear c12
         try clear c12b0
         try clear hcz11_0
         try clear hcz11_1
         try clear hcz11_2
         try clear hcz11_3
         try clear hcz3_0
         try clear hcz3_1
         try clear hcz3_2
         try clear hcz3_3
         try clear hfz11_0
         try clear hfz11_1
         try clear hfz11_2
         try clear hfz11_3
         try clear hfz3_0
         try clear hfz3_1
         try clear hfz3_2
         try clear hfz3_3
         try clear hx114_0
         try clear hx115_0
         try clear p1
         try clear p114
         try clear p115
         try clear p2
         try clear p6
         try clear q1
         try clear q114
         try clear q115
         obtain ⟨kq, x37_9, rfl, HA, HJ9, BK113, HB⟩ := hcut
         cases kq with
         | zero => exact absurd HA.out (by simp [spec_CronPlainZone.j2])
         | succ kj9 =>
          have H := HA.out
          clear HA
          simp only [spec_CronPlainZone.j2] at H
          by_cases c13 : x37_9 = true
          ·subst c13
           have H1 : (some false) = some r := by rw [if_pos rfl] at H; exact H
           clear H
           have H := H1
           clear H1
           obtain rfl := Option.some.inj H
           go_wp2
           repeat (go_quiet (fail); try go_wp2)
           go_ret
           exact ⟨by first | rfl | (simp [errW_none, errW_some] <;> rfl) | (simp [*, errW_none, errW_some] <;> rfl), by repeat (first | (with_reducible first | exact HB.out | apply below_alloc | apply pw_below_drewN | apply below_drew1 | refine below_set ?_ GE113.out) | exact HB.out)⟩
          ·replace c13 := Bool.eq_false_iff.mpr c13
           subst c13
           have H1 : (if x5_2 > 1 then (if 0 ≤ x5_2 then (if x5_2 < (l0_2.length : Int) then (if 0 ≤ (wrap64 (x5_2 - 1)) then (if (wrap64 (x5_2 - 1)) < (l0_2.length : Int) then (spec_CronPlainZone.j3 kj9 x5_2 (rd l0_2 x5_2) (decide ((wrap64 ((rd l0_2 x5_2) - (rd l0_2 (wrap64 (x5_2 - 1))))) < 345600)) l0_0 l0_1 l0_2 l0_3) else (none)) else (none)) else (none)) else (none)) else (spec_CronPlainZone.j3 kj9 x5_2 (rd l0_2 x5_2) false l0_0 l0_1 l0_2 l0_3)) = some r := by rw [if_neg (show ¬ (false = true) by decide)] at H; exact H
           clear H
           have H := H1
           clear H1
           have HC14 := Aside0.mk H
           clear H
           go_upto_region 13 with (fail)
           repeat (go_quiet (fail); go_upto_region 13 with (fail))
           go_cut [54] (fun v54 wc => ∃ (kq : Nat) (x54_13 : Bool), v54 = .bool x54_13 ∧ Aside0 (spec_CronPlainZone.j3 kq x5_2 (rd l0_2 x5_2) x54_13 l0_0 l0_1 l0_2 l0_3 = some r) ∧ Aside0 (kq ≤ kj9) ∧ Aside0 (wc.heap[gb113]? = some (.cells #[(.slice A0_0 l0_0.length c0_0), (.slice A0_1 l0_1.length c0_1), (.slice (some ad115) l0_2.length c0_2), (.slice A0_3 l0_3.length c0_3)] 29 (0, 0))) ∧ Aside0 (Below w.heap.size w wc))
           case first =>
            have H := HC14.out
            clear HC14
            by_cases c15 : x5_2 > 1
            ·rw [if_pos c15] at H
             have c15b0 : decide (1 < x5_2) = true := decide_eq_true c15
             clear c15
             (first | rw [c15b0] | (simp only [i64_w, i32_w]; rw [c15b0]) | skip)
             by_cases c16 : 0 ≤ x5_2
             ·rw [if_pos c16] at H
              have c16b0 : decide (0 ≤ x5_2) = true := decide_eq_true c16
              clear c16
              by_cases c17 : x5_2 < (l0_2.length : Int)
              ·rw [if_pos c17] at H
               have c17b0 : decide (x5_2 < (l0_2.length : Int)) = true := decide_eq_true c17
               clear c17
               obtain ⟨ji18, hji18⟩ : ∃ j_ : Int, (wrap64 (x5_2 - 1)) = j_ := ⟨_, rfl⟩
               replace H : (if 0 ≤ (ji18) then (if (ji18) < (l0_2.length : Int) then (spec_CronPlainZone.j3 kj9 x5_2 (rd l0_2 x5_2) (decide ((wrap64 ((rd l0_2 x5_2) - (rd l0_2 (ji18)))) < 345600)) l0_0 l0_1 l0_2 l0_3) else (none)) else (none)) = some r := by first | (rw [hji18] at H; exact H) | (simp only [hji18] at H ⊢; exact H)
               have hji18w : (IntKind.i64.wrap (x5_2 - 1)) = ji18 := (i64_w _).trans hji18
               by_cases c19 : 0 ≤ (ji18)
               ·rw [if_pos c19] at H
                have c19b0 : decide (0 ≤ (ji18)) = true := decide_eq_true c19
                clear c19
                by_cases c20 : (ji18) < (l0_2.length : Int)
                ·rw [if_pos c20] at H
                 have c20b0 : decide ((ji18) < (l0_2.length : Int)) = true := decide_eq_true c20
                 clear c20
                 have H' := Aside0.mk H
                 clear H
                 have hcz21_0 : wc.cell? ⟨gb113, 0, none⟩ = some (.slice A0_0 l0_0.length c0_0) := (blk_cell BK113.out 0).trans rfl
                 have hcz21_1 : wc.cell? ⟨gb113, 1, none⟩ = some (.slice A0_1 l0_1.length c0_1) := (blk_cell BK113.out 1).trans rfl
                 have hcz21_2 : wc.cell? ⟨gb113, 2, none⟩ = some (.slice (some ad115) l0_2.length c0_2) := (blk_cell BK113.out 2).trans rfl
                 have hcz21_3 : wc.cell? ⟨gb113, 3, none⟩ = some (.slice A0_3 l0_3.length c0_3) := (blk_cell BK113.out 3).trans rfl
                 have hfz21_0 := blk_frozen BK113.out 0
                 have hfz21_1 := blk_frozen BK113.out 1
                 have hfz21_2 := blk_frozen BK113.out 2
                 have hfz21_3 := blk_frozen BK113.out 3
                 have p116 : 0 ≤ (x5_2 : Int) := of_decide_eq_true (by first | (with_reducible assumption) | assumption)
                 have q116 : x5_2 < (l0_2.length : Int) := of_decide_eq_true (by first | (with_reducible assumption) | assumption)
                 obtain ⟨ad116, e116, hx116_0⟩ := Kd.at_int HR0_2.out x5_2 p116 q116
                 obtain rfl : ad115 = ad116 := (by injection e116)
                 replace hx116_0 := (HB.out.cell (World.block_lt_of_cell? w _ hx116_0)).trans hx116_0
                 replace p116 := eq_true p116
                 replace q116 := eq_true q116
                 have p117 : 0 ≤ ((ji18) : Int) := of_decide_eq_true (by first | (with_reducible assumption) | assumption)
                 have q117 : (ji18) < (l0_2.length : Int) := of_decide_eq_true (by first | (with_reducible assumption) | assumption)
                 obtain ⟨ad117, e117, hx117_0⟩ := Kd.at_int HR0_2.out (ji18) p117 q117
                 obtain rfl : ad115 = ad117 := (by injection e117)
                 replace hx117_0 := (HB.out.cell (World.block_lt_of_cell? w _ hx117_0)).trans hx117_0
                 replace p117 := eq_true p117
                 replace q117 := eq_true q117
                 go_wp2
                 repeat (go_quiet (fail); try go_wp2)
                 go_meet
                 case rel => exact ⟨_, (decide ((wrap64 ((rd l0_2 x5_2) - (rd l0_2 (ji18)))) < 345600)), (by first | rfl | (simp; done) | (simp only [← hji18] <;> (first | rfl | simp)) | (simp [*]; done)), H', ⟨by have := HK1.out; have := HK2.out; have := HJ9.out; first | omega | exact Nat.le_refl _⟩, ⟨by (with_reducible repeat (first | refine blk_drewN ?_ _ | refine blk_drew ?_ | refine blk_alloc ?_ _)); exact BK113.out⟩, ⟨by repeat (first | (with_reducible first | exact HB.out | apply below_alloc | apply pw_below_drewN | apply below_drew1 | refine below_set ?_ GE113.out) | exact HB.out)⟩⟩
                ·rw [if_neg c20] at H
                 exact absurd H (by simp)
               ·rw [if_neg c19] at H
                exact absurd H (by simp)
              ·rw [if_neg c17] at H
               exact absurd H (by simp)
             ·rw [if_neg c16] at H
              exact absurd H (by simp)
            ·rw [if_neg c15] at H
             have c15b0 : decide (1 < x5_2) = false := decide_eq_false c15
             clear c15
             (first | rw [c15b0] | (simp only [i64_w, i32_w]; rw [c15b0]) | skip)
             have H' := Aside0.mk H
             clear H
             go_wp2
             repeat (go_quiet (fail); try go_wp2)
             go_meet
             case rel => exact ⟨_, (false), (by first | rfl | (simp; done) | (simp [*]; done)), H', ⟨by have := HK1.out; have := HK2.out; have := HJ9.out; first | omega | exact Nat.le_refl _⟩, ⟨by (with_reducible repeat (first | refine blk_drewN ?_ _ | refine blk_drew ?_ | refine blk_alloc ?_ _)); exact BK113.out⟩, ⟨by repeat (first | (with_reducible first | exact HB.out | apply below_alloc | apply pw_below_drewN | apply below_drew1 | refine below_set ?_ GE113.out) | exact HB.out)⟩⟩
           case rest =>
            clear HC14
            try clear c1
            try clear p1
            try clear q1
            try clear hx1
            try clear c2
            try clear p2
            try clear c4
            try clear c4b0
            try clear c5
            try clear c5b0
            try clear c6
            try clear c6b0
            try clear p6
            try clear c7
            try clear c7b0
            try clear c7b1
            try clear c8
            try clear c8b0
            try clear c9
            try clear c9b0
            try clear p11
            try clear q11
            try clear hx11
            try clear c12
            try clear c12b0
            try clear c13
            try clear c15
            try clear c15b0
            try clear c16
            try clear c16b0
            try clear c17
            try clear c17b0
            try clear c19
            try clear c19b0
            try clear c20
            try clear c20b0
            try clear hcz11_0
            try clear hcz11_1
            try clear hcz11_2
            try clear hcz11_3
            try clear hcz21_0
            try clear hcz21_1
            try clear hcz21_2
            try clear hcz21_3
            try clear hcz3_0
            try clear hcz3_1
            try clear hcz3_2
            try clear hcz3_3
            try clear hfz11_0
            try clear hfz11_1
            try clear hfz11_2
            try clear hfz11_3
            try clear hfz21_0
            try clear hfz21_1
            try clear hfz21_2
            try clear hfz21_3
            try clear hfz3_0
            try clear hfz3_1
            try clear hfz3_2
            try clear hfz3_3
            try clear hx114_0
            try clear hx115_0
            try clear hx116_0
            try clear hx117_0
            try clear p1
            try clear p11
            try clear p114
            try clear p115
            try clear p116
            try clear p117
            try clear p2
            try clear p6
            try clear q1
            try clear q11
            try clear q114
            try clear q115
            try clear q116
            try clear q117
            obtain ⟨kq, x54_13, rfl, HA, HJ13, BK113, HB⟩ := hcut
            cases kq with
            | zero => exact absurd HA.out (by simp [spec_CronPlainZone.j3])
            | succ kj13 =>
             have H := HA.out
             clear HA
             simp only [spec_CronPlainZone.j3] at H
             by_cases c22 : x54_13 = true
             ·subst c22
              have H1 : (some false) = some r := by rw [if_pos rfl] at H; exact H
              clear H
              have H := H1
              clear H1
              obtain rfl := Option.some.inj H
              go_wp2
              repeat (go_quiet (fail); try go_wp2)
              go_ret
              exact ⟨by first | rfl | (simp [errW_none, errW_some] <;> rfl) | (simp [*, errW_none, errW_some] <;> rfl), by repeat (first | (with_reducible first | exact HB.out | apply below_alloc | apply pw_below_drewN | apply below_drew1 | refine below_set ?_ GE113.out) | exact HB.out)⟩
             ·replace c22 := Bool.eq_false_iff.mpr c22
              subst c22
              have H1 : (if 0 ≤ (wrap64 (x5_2 - 1)) then (if (wrap64 (x5_2 - 1)) < (l0_3.length : Int) then (if 0 ≤ (rd l0_3 (wrap64 (x5_2 - 1))) then (if (rd l0_3 (wrap64 (x5_2 - 1))) < (l0_0.length : Int) then (if 0 ≤ x5_2 then (if x5_2 < (l0_3.length : Int) then (if 0 ≤ (rd l0_3 x5_2) then (if (rd l0_3 x5_2) < (l0_0.length : Int) then ((spec_floorMod.f (wrap64 ((rd l0_2 x5_2) + (rd l0_0 (rd l0_3 (wrap64 (x5_2 - 1)))))) 3600).bind fun t122 => (if t122 = 0 then ((spec_floorMod.f (wrap64 ((rd l0_2 x5_2) + (rd l0_0 (rd l0_3 x5_2)))) 3600).bind fun t123 => (if t123 = 0 then (spec_CronPlainZone.j4 kj13 x5_2 (wrap64 ((rd l0_2 x5_2) + (rd l0_0 (rd l0_3 (wrap64 (x5_2 - 1)))))) (wrap64 ((rd l0_2 x5_2) + (rd l0_0 (rd l0_3 x5_2)))) (decide ((wrap64 ((rd l0_2 x5_2) + (rd l0_0 (rd l0_3 x5_2)))) < (wrap64 ((wrap64 ((rd l0_2 x5_2) + (rd l0_0 (rd l0_3 (wrap64 (x5_2 - 1)))))) - 3600)))) l0_0 l0_1 l0_2 l0_3) else (spec_CronPlainZone.j4 kj13 x5_2 (wrap64 ((rd l0_2 x5_2) + (rd l0_0 (rd l0_3 (wrap64 (x5_2 - 1)))))) (wrap64 ((rd l0_2 x5_2) + (rd l0_0 (rd l0_3 x5_2)))) true l0_0 l0_1 l0_2 l0_3))) else (spec_CronPlainZone.j4 kj13 x5_2 (wrap64 ((rd l0_2 x5_2) + (rd l0_0 (rd l0_3 (wrap64 (x5_2 - 1)))))) (wrap64 ((rd l0_2 x5_2) + (rd l0_0 (rd l0_3 x5_2)))) true l0_0 l0_1 l0_2 l0_3))) else (none)) else (none)) else (none)) else (none)) else (none)) else (none)) else (none)) else (none)) = some r := by rw [if_neg (show ¬ (false = true) by decide)] at H; exact H
              clear H
              have H := H1
              clear H1
              obtain ⟨ji23, hji23⟩ : ∃ j_ : Int, (wrap64 (x5_2 - 1)) = j_ := ⟨_, rfl⟩
              replace H : (if 0 ≤ (ji23) then (if (ji23) < (l0_3.length : Int) then (if 0 ≤ (rd l0_3 (ji23)) then (if (rd l0_3 (ji23)) < (l0_0.length : Int) then (if 0 ≤ x5_2 then (if x5_2 < (l0_3.length : Int) then (if 0 ≤ (rd l0_3 x5_2) then (if (rd l0_3 x5_2) < (l0_0.length : Int) then ((spec_floorMod.f (wrap64 ((rd l0_2 x5_2) + (rd l0_0 (rd l0_3 (ji23))))) 3600).bind fun t122 => (if t122 = 0 then ((spec_floorMod.f (wrap64 ((rd l0_2 x5_2) + (rd l0_0 (rd l0_3 x5_2)))) 3600).bind fun t123 => (if t123 = 0 then (spec_CronPlainZone.j4 kj13 x5_2 (wrap64 ((rd l0_2 x5_2) + (rd l0_0 (rd l0_3 (ji23))))) (wrap64 ((rd l0_2 x5_2) + (rd l0_0 (rd l0_3 x5_2)))) (decide ((wrap64 ((rd l0_2 x5_2) + (rd l0_0 (rd l0_3 x5_2)))) < (wrap64 ((wrap64 ((rd l0_2 x5_2) + (rd l0_0 (rd l0_3 (ji23))))) - 3600)))) l0_0 l0_1 l0_2 l0_3) else (spec_CronPlainZone.j4 kj13 x5_2 (wrap64 ((rd l0_2 x5_2) + (rd l0_0 (rd l0_3 (ji23))))) (wrap64 ((rd l0_2 x5_2) + (rd l0_0 (rd l0_3 x5_2)))) true l0_0 l0_1 l0_2 l0_3))) else (spec_CronPlainZone.j4 kj13 x5_2 (wrap64 ((rd l0_2 x5_2) + (rd l0_0 (rd l0_3 (ji23))))) (wrap64 ((rd l0_2 x5_2) + (rd l0_0 (rd l0_3 x5_2)))) true l0_0 l0_1 l0_2 l0_3))) else (none)) else (none)) else (none)) else (none)) else (none)) else (none)) else (none)) else (none)) = some r := by first | (rw [hji23] at H; exact H) | (simp only [hji23] at H ⊢; exact H)
              have hji23w : (IntKind.i64.wrap (x5_2 - 1)) = ji23 := (i64_w _).trans hji23
              by_cases c24 : 0 ≤ (ji23)
              ·rw [if_pos c24] at H
               have c24b0 : decide (0 ≤ (ji23)) = true := decide_eq_true c24
               clear c24
               by_cases c25 : (ji23) < (l0_3.length : Int)
               ·rw [if_pos c25] at H
                have c25b0 : decide ((ji23) < (l0_3.length : Int)) = true := decide_eq_true c25
                clear c25
                by_cases c26 : 0 ≤ (rd l0_3 (ji23))
                ·rw [if_pos c26] at H
                 have c26b0 : decide (0 ≤ (rd l0_3 (ji23))) = true := decide_eq_true c26
                 clear c26
                 by_cases c27 : (rd l0_3 (ji23)) < (l0_0.length : Int)
                 ·rw [if_pos c27] at H
                  have c27b0 : decide ((rd l0_3 (ji23)) < (l0_0.length : Int)) = true := decide_eq_true c27
                  clear c27
                  by_cases c28 : 0 ≤ x5_2
                  ·rw [if_pos c28] at H
                   have c28b0 : decide (0 ≤ x5_2) = true := decide_eq_true c28
                   clear c28
                   by_cases c29 : x5_2 < (l0_3.length : Int)
                   ·rw [if_pos c29] at H
                    have c29b0 : decide (x5_2 < (l0_3.length : Int)) = true := decide_eq_true c29
                    clear c29
                    by_cases c30 : 0 ≤ (rd l0_3 x5_2)
                    ·rw [if_pos c30] at H
                     have c30b0 : decide (0 ≤ (rd l0_3 x5_2)) = true := decide_eq_true c30
                     clear c30
                     by_cases c31 : (rd l0_3 x5_2) < (l0_0.length : Int)
                     ·rw [if_pos c31] at H
                      have c31b0 : decide ((rd l0_3 x5_2) < (l0_0.length : Int)) = true := decide_eq_true c31
                      clear c31
                      have HC32 := Aside0.mk H
                      clear H
                      have hcz33_0 : wc.cell? ⟨gb113, 0, none⟩ = some (.slice A0_0 l0_0.length c0_0) := (blk_cell BK113.out 0).trans rfl
                      have hcz33_1 : wc.cell? ⟨gb113, 1, none⟩ = some (.slice A0_1 l0_1.length c0_1) := (blk_cell BK113.out 1).trans rfl
                      have hcz33_2 : wc.cell? ⟨gb113, 2, none⟩ = some (.slice (some ad115) l0_2.length c0_2) := (blk_cell BK113.out 2).trans rfl
                      have hcz33_3 : wc.cell? ⟨gb113, 3, none⟩ = some (.slice A0_3 l0_3.length c0_3) := (blk_cell BK113.out 3).trans rfl
                      have hfz33_0 := blk_frozen BK113.out 0
                      have hfz33_1 := blk_frozen BK113.out 1
                      have hfz33_2 := blk_frozen BK113.out 2
                      have hfz33_3 := blk_frozen BK113.out 3
                      have p118 : 0 ≤ ((ji23) : Int) := of_decide_eq_true (by first | (with_reducible assumption) | assumption)
                      have q118 : (ji23) < (l0_3.length : Int) := of_decide_eq_true (by first | (with_reducible assumption) | assumption)
                      obtain ⟨ad118, e118, hx118_0⟩ := Kd.at_int HR0_3.out (ji23) p118 q118
                      cases e118
                      replace hx118_0 := (HB.out.cell (World.block_lt_of_cell? w _ hx118_0)).trans hx118_0
                      replace p118 := eq_true p118
                      replace q118 := eq_true q118
                      have p119 : 0 ≤ ((rd l0_3 (ji23)) : Int) := of_decide_eq_true (by first | (with_reducible assumption) | assumption)
                      have q119 : (rd l0_3 (ji23)) < (l0_0.length : Int) := of_decide_eq_true (by first | (with_reducible assumption) | assumption)
                      obtain ⟨ad119, e119, hx119_0⟩ := Kd.at_int HR0_0.out (rd l0_3 (ji23)) p119 q119
                      cases e119
                      replace hx119_0 := (HB.out.cell (World.block_lt_of_cell? w _ hx119_0)).trans hx119_0
                      replace p119 := eq_true p119
                      replace q119 := eq_true q119
                      have p120 : 0 ≤ (x5_2 : Int) := of_decide_eq_true (by first | (with_reducible assumption) | assumption)
                      have q120 : x5_2 < (l0_3.length : Int) := of_decide_eq_true (by first | (with_reducible assumption) | assumption)
                      obtain ⟨ad120, e120, hx120_0⟩ := Kd.at_int HR0_3.out x5_2 p120 q120
                      obtain rfl : ad118 = ad120 := (by injection e120)
                      replace hx120_0 := (HB.out.cell (World.block_lt_of_cell? w _ hx120_0)).trans hx120_0
                      replace p120 := eq_true p120
                      replace q120 := eq_true q120
                      have p121 : 0 ≤ ((rd l0_3 x5_2) : Int) := of_decide_eq_true (by first | (with_reducible assumption) | assumption)
                      have q121 : (rd l0_3 x5_2) < (l0_0.length : Int) := of_decide_eq_true (by first | (with_reducible assumption) | assumption)
                      obtain ⟨ad121, e121, hx121_0⟩ := Kd.at_int HR0_0.out (rd l0_3 x5_2) p121 q121
                      obtain rfl : ad119 = ad121 := (by injection e121)
                      replace hx121_0 := (HB.out.cell (World.block_lt_of_cell? w _ hx121_0)).trans hx121_0
                      replace p121 := eq_true p121
                      replace q121 := eq_true q121
                      go_upto_region 16 with (fail)
                      repeat (go_quiet (fail); go_upto_region 16 with (fail))
                      go_cut [91] (fun v91 wc => ∃ (kq : Nat) (x91_31 : Bool), v91 = .bool x91_31 ∧ Aside0 (spec_CronPlainZone.j4 kq x5_2 (wrap64 ((rd l0_2 x5_2) + (rd l0_0 (rd l0_3 (ji23))))) (wrap64 ((rd l0_2 x5_2) + (rd l0_0 (rd l0_3 x5_2)))) x91_31 l0_0 l0_1 l0_2 l0_3 = some r) ∧ Aside0 (kq ≤ kj13) ∧ Aside0 (wc.heap[gb113]? = some (.cells #[(.slice (some ad119) l0_0.length c0_0), (.slice A0_1 l0_1.length c0_1), (.slice (some ad115) l0_2.length c0_2), (.slice (some ad118) l0_3.length c0_3)] 29 (0, 0))) ∧ Aside0 (Below w.heap.size w wc))
                      case first =>
                       have H := HC32.out
                       clear HC32
                       replace H := Option.bind_eq_some_iff.mp H
                       obtain ⟨t122, A340, H⟩ := H
                       replace H : (if t122 = 0 then ((spec_floorMod.f (wrap64 ((rd l0_2 x5_2) + (rd l0_0 (rd l0_3 x5_2)))) 3600).bind fun t123 => (if t123 = 0 then (spec_CronPlainZone.j4 kj13 x5_2 (wrap64 ((rd l0_2 x5_2) + (rd l0_0 (rd l0_3 (ji23))))) (wrap64 ((rd l0_2 x5_2) + (rd l0_0 (rd l0_3 x5_2)))) (decide ((wrap64 ((rd l0_2 x5_2) + (rd l0_0 (rd l0_3 x5_2)))) < (wrap64 ((wrap64 ((rd l0_2 x5_2) + (rd l0_0 (rd l0_3 (ji23))))) - 3600)))) l0_0 l0_1 l0_2 l0_3) else (spec_CronPlainZone.j4 kj13 x5_2 (wrap64 ((rd l0_2 x5_2) + (rd l0_0 (rd l0_3 (ji23))))) (wrap64 ((rd l0_2 x5_2) + (rd l0_0 (rd l0_3 x5_2)))) true l0_0 l0_1 l0_2 l0_3))) else (spec_CronPlainZone.j4 kj13 x5_2 (wrap64 ((rd l0_2 x5_2) + (rd l0_0 (rd l0_3 (ji23))))) (wrap64 ((rd l0_2 x5_2) + (rd l0_0 (rd l0_3 x5_2)))) true l0_0 l0_1 l0_2 l0_3)) = some r := H
                       have A34 := Aside0.mk A340
                       clear A340
                       by_cases c35 : t122 = 0
                       ·rw [if_pos c35] at H
                        have c35b0 : (t122 == 0) = true := beq_iff_eq.mpr c35
                        have c35b1 : (t122 != 0) = false := bne_eq_false_iff_eq.mpr c35
                        clear c35
                        (first | rw [c35b0] | (simp only [i64_w, i32_w]; rw [c35b0]) | skip)
                        replace H := Option.bind_eq_some_iff.mp H
                        obtain ⟨t123, A360, H⟩ := H
                        replace H : (if t123 = 0 then (spec_CronPlainZone.j4 kj13 x5_2 (wrap64 ((rd l0_2 x5_2) + (rd l0_0 (rd l0_3 (ji23))))) (wrap64 ((rd l0_2 x5_2) + (rd l0_0 (rd l0_3 x5_2)))) (decide ((wrap64 ((rd l0_2 x5_2) + (rd l0_0 (rd l0_3 x5_2)))) < (wrap64 ((wrap64 ((rd l0_2 x5_2) + (rd l0_0 (rd l0_3 (ji23))))) - 3600)))) l0_0 l0_1 l0_2 l0_3) else (spec_CronPlainZone.j4 kj13 x5_2 (wrap64 ((rd l0_2 x5_2) + (rd l0_0 (rd l0_3 (ji23))))) (wrap64 ((rd l0_2 x5_2) + (rd l0_0 (rd l0_3 x5_2)))) true l0_0 l0_1 l0_2 l0_3)) = some r := H
                        have A36 := Aside0.mk A360
                        clear A360
                        by_cases c37 : t123 = 0
                        ·rw [if_pos c37] at H
                         have c37b0 : (t123 == 0) = true := beq_iff_eq.mpr c37
                         have c37b1 : (t123 != 0) = false := bne_eq_false_iff_eq.mpr c37
                         clear c37
                         have H' := Aside0.mk H
                         clear H
                         go_wp2_with (first | (go_at_call 12; (with_reducible refine (spec_floorMod.calls (wrap64 ((rd l0_2 x5_2) + (rd l0_0 (rd l0_3 (ji23))))) 3600 t122 _ A34.out).mono ?_); rintro e w' ⟨rfl, ⟨nd, rfl⟩⟩; (try first | exact ⟨rfl, _, World.drewN_drewN _ _ _⟩ | exact ⟨rfl, _, Eq.trans (World.drewN_drewN _ _ _) (congrArg (World.drewN _) (Nat.add_assoc _ _ _))⟩)) | (go_at_call 12; (with_reducible refine (spec_floorMod.calls (wrap64 ((rd l0_2 x5_2) + (rd l0_0 (rd l0_3 x5_2)))) 3600 t123 _ A36.out).mono ?_); rintro e w' ⟨rfl, ⟨nd, rfl⟩⟩; (try first | exact ⟨rfl, _, World.drewN_drewN _ _ _⟩ | exact ⟨rfl, _, Eq.trans (World.drewN_drewN _ _ _) (congrArg (World.drewN _) (Nat.add_assoc _ _ _))⟩)))
                         repeat (go_quiet (first | (go_at_call 12; (with_reducible refine (spec_floorMod.calls (wrap64 ((rd l0_2 x5_2) + (rd l0_0 (rd l0_3 (ji23))))) 3600 t122 _ A34.out).mono ?_); rintro e w' ⟨rfl, ⟨nd, rfl⟩⟩; (try first | exact ⟨rfl, _, World.drewN_drewN _ _ _⟩ | exact ⟨rfl, _, Eq.trans (World.drewN_drewN _ _ _) (congrArg (World.drewN _) (Nat.add_assoc _ _ _))⟩)) | (go_at_call 12; (with_reducible refine (spec_floorMod.calls (wrap64 ((rd l0_2 x5_2) + (rd l0_0 (rd l0_3 x5_2)))) 3600 t123 _ A36.out).mono ?_); rintro e w' ⟨rfl, ⟨nd, rfl⟩⟩; (try first | exact ⟨rfl, _, World.drewN_drewN _ _ _⟩ | exact ⟨rfl, _, Eq.trans (World.drewN_drewN _ _ _) (congrArg (World.drewN _) (Nat.add_assoc _ _ _))⟩))); try go_wp2_with (first | (go_at_call 12; (with_reducible refine (spec_floorMod.calls (wrap64 ((rd l0_2 x5_2) + (rd l0_0 (rd l0_3 (ji23))))) 3600 t122 _ A34.out).mono ?_); rintro e w' ⟨rfl, ⟨nd, rfl⟩⟩; (try first | exact ⟨rfl, _, World.drewN_drewN _ _ _⟩ | exact ⟨rfl, _, Eq.trans (World.drewN_drewN _ _ _) (congrArg (World.drewN _) (Nat.add_assoc _ _ _))⟩)) | (go_at_call 12; (with_reducible refine (spec_floorMod.calls (wrap64 ((rd l0_2 x5_2) + (rd l0_0 (rd l0_3 x5_2)))) 3600 t123 _ A36.out).mono ?_); rintro e w' ⟨rfl, ⟨nd, rfl⟩⟩; (try first | exact ⟨rfl, _, World.drewN_drewN _ _ _⟩ | exact ⟨rfl, _, Eq.trans (World.drewN_drewN _ _ _) (congrArg (World.drewN _) (Nat.add_assoc _ _ _))⟩))))
                         go_meet
                         case rel => exact ⟨_, (decide ((wrap64 ((rd l0_2 x5_2) + (rd l0_0 (rd l0_3 x5_2)))) < (wrap64 ((wrap64 ((rd l0_2 x5_2) + (rd l0_0 (rd l0_3 (ji23))))) - 3600)))), (by first | rfl | (simp; done) | (simp only [← hji23] <;> (first | rfl | simp)) | (simp [*]; done)), H', ⟨by have := HK1.out; have := HK2.out; have := HJ9.out; have := HJ13.out; first | omega | exact Nat.le_refl _⟩, ⟨by (with_reducible repeat (first | refine blk_drewN ?_ _ | refine blk_drew ?_ | refine blk_alloc ?_ _)); exact BK113.out⟩, ⟨by repeat (first | (with_reducible first | exact HB.out | apply below_alloc | apply pw_below_drewN | apply below_drew1 | refine below_set ?_ GE113.out) | exact HB.out)⟩⟩
                        ·rw [if_neg c37] at H
                         have c37b0 : (t123 == 0) = false := beq_eq_false_iff_ne.mpr c37
                         have c37b1 : (t123 != 0) = true := bne_iff_ne.mpr c37
                         have H' := Aside0.mk H
                         clear H
                         go_wp2_with (first | (go_at_call 12; (with_reducible refine (spec_floorMod.calls (wrap64 ((rd l0_2 x5_2) + (rd l0_0 (rd l0_3 (ji23))))) 3600 t122 _ A34.out).mono ?_); rintro e w' ⟨rfl, ⟨nd, rfl⟩⟩; (try first | exact ⟨rfl, _, World.drewN_drewN _ _ _⟩ | exact ⟨rfl, _, Eq.trans (World.drewN_drewN _ _ _) (congrArg (World.drewN _) (Nat.add_assoc _ _ _))⟩)) | (go_at_call 12; (with_reducible refine (spec_floorMod.calls (wrap64 ((rd l0_2 x5_2) + (rd l0_0 (rd l0_3 x5_2)))) 3600 t123 _ A36.out).mono ?_); rintro e w' ⟨rfl, ⟨nd, rfl⟩⟩; (try first | exact ⟨rfl, _, World.drewN_drewN _ _ _⟩ | exact ⟨rfl, _, Eq.trans (World.drewN_drewN _ _ _) (congrArg (World.drewN _) (Nat.add_assoc _ _ _))⟩)))
                         repeat (go_quiet (first | (go_at_call 12; (with_reducible refine (spec_floorMod.calls (wrap64 ((rd l0_2 x5_2) + (rd l0_0 (rd l0_3 (ji23))))) 3600 t122 _ A34.out).mono ?_); rintro e w' ⟨rfl, ⟨nd, rfl⟩⟩; (try first | exact ⟨rfl, _, World.drewN_drewN _ _ _⟩ | exact ⟨rfl, _, Eq.trans (World.drewN_drewN _ _ _) (congrArg (World.drewN _) (Nat.add_assoc _ _ _))⟩)) | (go_at_call 12; (with_reducible refine (spec_floorMod.calls (wrap64 ((rd l0_2 x5_2) + (rd l0_0 (rd l0_3 x5_2)))) 3600 t123 _ A36.out).mono ?_); rintro e w' ⟨rfl, ⟨nd, rfl⟩⟩; (try first | exact ⟨rfl, _, World.drewN_drewN _ _ _⟩ | exact ⟨rfl, _, Eq.trans (World.drewN_drewN _ _ _) (congrArg (World.drewN _) (Nat.add_assoc _ _ _))⟩))); try go_wp2_with (first | (go_at_call 12; (with_reducible refine (spec_floorMod.calls (wrap64 ((rd l0_2 x5_2) + (rd l0_0 (rd l0_3 (ji23))))) 3600 t122 _ A34.out).mono ?_); rintro e w' ⟨rfl, ⟨nd, rfl⟩⟩; (try first | exact ⟨rfl, _, World.drewN_drewN _ _ _⟩ | exact ⟨rfl, _, Eq.trans (World.drewN_drewN _ _ _) (congrArg (World.drewN _) (Nat.add_assoc _ _ _))⟩)) | (go_at_call 12; (with_reducible refine (spec_floorMod.calls (wrap64 ((rd l0_2 x5_2) + (rd l0_0 (rd l0_3 x5_2)))) 3600 t123 _ A36.out).mono ?_); rintro e w' ⟨rfl, ⟨nd, rfl⟩⟩; (try first | exact ⟨rfl, _, World.drewN_drewN _ _ _⟩ | exact ⟨rfl, _, Eq.trans (World.drewN_drewN _ _ _) (congrArg (World.drewN _) (Nat.add_assoc _ _ _))⟩))))
                         go_meet
                         case rel => exact ⟨_, (true), (by first | rfl | (simp; done) | (simp [*]; done)), H', ⟨by have := HK1.out; have := HK2.out; have := HJ9.out; have := HJ13.out; first | omega | exact Nat.le_refl _⟩, ⟨by (with_reducible repeat (first | refine blk_drewN ?_ _ | refine blk_drew ?_ | refine blk_alloc ?_ _)); exact BK113.out⟩, ⟨by repeat (first | (with_reducible first | exact HB.out | apply below_alloc | apply pw_below_drewN | apply below_drew1 | refine below_set ?_ GE113.out) | exact HB.out)⟩⟩
                       ·rw [if_neg c35] at H
                        have c35b0 : (t122 == 0) = false := beq_eq_false_iff_ne.mpr c35
                        have c35b1 : (t122 != 0) = true := bne_iff_ne.mpr c35
                        (first | rw [c35b0] | (simp only [i64_w, i32_w]; rw [c35b0]) | skip)
                        have H' := Aside0.mk H
                        clear H
                        go_wp2_with (first | (go_at_call 12; (with_reducible refine (spec_floorMod.calls (wrap64 ((rd l0_2 x5_2) + (rd l0_0 (rd l0_3 (ji23))))) 3600 t122 _ A34.out).mono ?_); rintro e w' ⟨rfl, ⟨nd, rfl⟩⟩; (try first | exact ⟨rfl, _, World.drewN_drewN _ _ _⟩ | exact ⟨rfl, _, Eq.trans (World.drewN_drewN _ _ _) (congrArg (World.drewN _) (Nat.add_assoc _ _ _))⟩)))
                        repeat (go_quiet (first | (go_at_call 12; (with_reducible refine (spec_floorMod.calls (wrap64 ((rd l0_2 x5_2) + (rd l0_0 (rd l0_3 (ji23))))) 3600 t122 _ A34.out).mono ?_); rintro e w' ⟨rfl, ⟨nd, rfl⟩⟩; (try first | exact ⟨rfl, _, World.drewN_drewN _ _ _⟩ | exact ⟨rfl, _, Eq.trans (World.drewN_drewN _ _ _) (congrArg (World.drewN _) (Nat.add_assoc _ _ _))⟩))); try go_wp2_with (first | (go_at_call 12; (with_reducible refine (spec_floorMod.calls (wrap64 ((rd l0_2 x5_2) + (rd l0_0 (rd l0_3 (ji23))))) 3600 t122 _ A34.out).mono ?_); rintro e w' ⟨rfl, ⟨nd, rfl⟩⟩; (try first | exact ⟨rfl, _, World.drewN_drewN _ _ _⟩ | exact ⟨rfl, _, Eq.trans (World.drewN_drewN _ _ _) (congrArg (World.drewN _) (Nat.add_assoc _ _ _))⟩))))
                        go_meet
                        case rel => exact ⟨_, (true), (by first | rfl | (simp; done) | (simp [*]; done)), H', ⟨by have := HK1.out; have := HK2.out; have := HJ9.out; have := HJ13.out; first | omega | exact Nat.le_refl _⟩, ⟨by (with_reducible repeat (first | refine blk_drewN ?_ _ | refine blk_drew ?_ | refine blk_alloc ?_ _)); exact BK113.out⟩, ⟨by repeat (first | (with_reducible first | exact HB.out | apply below_alloc | apply pw_below_drewN | apply below_drew1 | refine below_set ?_ GE113.out) | exact HB.out)⟩⟩
                      case rest =>
                       clear HC32
                       try clear c1
                       try clear p1
                       try clear q1
                       try clear hx1
                       try clear c2
                       try clear p2
                       try clear c3
                       try clear c4
                       try clear c4b0
                       try clear c5
                       try clear c5b0
                       try clear c6
                       try clear c6b0
                       try clear p6
                       try clear c7
                       try clear c7b0
                       try clear c7b1
                       try clear c8
                       try clear c8b0
                       try clear c9
                       try clear c9b0
                       try clear p11
                       try clear q11
                       try clear hx11
                       try clear c12
                       try clear c12b0
                       try clear p12
                       try clear q12
                       try clear hx12
                       try clear c13
                       try clear c15
                       try clear c15b0
                       try clear c16
                       try clear c16b0
                       try clear c17
                       try clear c17b0
                       try clear c19
                       try clear c19b0
                       try clear c20
                       try clear c20b0
                       try clear c22
                       try clear c24
                       try clear c24b0
                       try clear c25
                       try clear c25b0
                       try clear c26
                       try clear c26b0
                       try clear c27
                       try clear c27b0
                       try clear c28
                       try clear c28b0
                       try clear c29
                       try clear c29b0
                       try clear c30
                       try clear c30b0
                       try clear c31
                       try clear c31b0
                       try clear c35
                       try clear c35b0
                       try clear c35b1
                       try clear c37
                       try clear c37b0
                       try clear c37b1
                       try clear hcz11_0
                       try clear hcz11_1
                       try clear hcz11_2
                       try clear hcz11_3
                       try clear hcz21_0
                       try clear hcz21_1
                       try clear hcz21_2
                       try clear hcz21_3
                       try clear hcz33_0
                       try clear hcz33_1
                       try clear hcz33_2
                       try clear hcz33_3
                       try clear hcz3_0
                       try clear hcz3_1
                       try clear hcz3_2
                       try clear hcz3_3
                       try clear hfz11_0
                       try clear hfz11_1
                       try clear hfz11_2
                       try clear hfz11_3
                       try clear hfz21_0
                       try clear hfz21_1
                       try clear hfz21_2
                       try clear hfz21_3
                       try clear hfz33_0
                       try clear hfz33_1
                       try clear hfz33_2
                       try clear hfz33_3
                       try clear hfz3_0
                       try clear hfz3_1
                       try clear hfz3_2
                       try clear hfz3_3
                       try clear hx114_0
                       try clear hx115_0
                       try clear hx116_0
                       try clear hx117_0
                       try clear hx118_0
                       try clear hx119_0
                       try clear hx120_0
                       try clear hx121_0
                       try clear p1
                       try clear p11
                       try clear p114
                       try clear p115
                       try clear p116
                       try clear p117
                       try clear p118
                       try clear p119
                       try clear p120
                       try clear p121
                       try clear p2
                       try clear p6
                       try clear q1
                       try clear q11
                       try clear q114
                       try clear q115
                       try clear q116
                       try clear q117
                       try clear q118
                       try clear q119
                       try clear q120
                       try clear q121
                       obtain ⟨kq, x91_31, rfl, HA, HJ31, BK113, HB⟩ := hcut
                       cases kq with
                       | zero => exact absurd HA.out (by simp [spec_CronPlainZone.j4])
                       | succ kj31 =>
                        have H := HA.out
                        clear HA
                        simp only [spec_CronPlainZone.j4] at H
                        by_cases c38 : x91_31 = true
                        ·subst c38
                         have H1 : (some false) = some r := by rw [if_pos rfl] at H; exact H
                         clear H
                         have H := H1
                         clear H1
                         obtain rfl := Option.some.inj H
                         go_wp2
                         repeat (go_quiet (fail); try go_wp2)
                         go_ret
                         exact ⟨by first | rfl | (simp [errW_none, errW_some] <;> rfl) | (simp only [← hji23]; first | rfl | (simp [errW_none, errW_some] <;> rfl)) | (simp [*, errW_none, errW_some] <;> rfl), by repeat (first | (with_reducible first | exact HB.out | apply below_alloc | apply pw_below_drewN | apply below_drew1 | refine below_set ?_ GE113.out) | exact HB.out)⟩
                        ·replace c38 := Bool.eq_false_iff.mpr c38
                         subst c38
                         have H1 : ((spec_floorDiv.f (wrap64 ((rd l0_2 x5_2) + (rd l0_0 (rd l0_3 (ji23))))) 86400).bind fun t124 => ((spec_floorDiv.f (wrap64 ((rd l0_2 x5_2) + (rd l0_0 (rd l0_3 x5_2)))) 86400).bind fun t125 => (if t124 = t125 then ((spec_floorMod.f (wrap64 ((rd l0_2 x5_2) + (rd l0_0 (rd l0_3 (ji23))))) 86400).bind fun t126 => (if t126 < 3600 then (some false) else ((spec_floorMod.f (wrap64 ((rd l0_2 x5_2) + (rd l0_0 (rd l0_3 x5_2)))) 86400).bind fun t127 => (if t127 < 3600 then (some false) else (spec_CronPlainZone.l1 kj31 (wrap64 (x5_2 + 1)) l0_0 l0_1 l0_2 l0_3))))) else (some false)))) = some r := by rw [if_neg (show ¬ (false = true) by decide)] at H; exact H
                         clear H
                         have H := H1
                         clear H1
                         replace H := Option.bind_eq_some_iff.mp H
                         obtain ⟨t124, A390, H⟩ := H
                         replace H : ((spec_floorDiv.f (wrap64 ((rd l0_2 x5_2) + (rd l0_0 (rd l0_3 x5_2)))) 86400).bind fun t125 => (if t124 = t125 then ((spec_floorMod.f (wrap64 ((rd l0_2 x5_2) + (rd l0_0 (rd l0_3 (ji23))))) 86400).bind fun t126 => (if t126 < 3600 then (some false) else ((spec_floorMod.f (wrap64 ((rd l0_2 x5_2) + (rd l0_0 (rd l0_3 x5_2)))) 86400).bind fun t127 => (if t127 < 3600 then (some false) else (spec_CronPlainZone.l1 kj31 (wrap64 (x5_2 + 1)) l0_0 l0_1 l0_2 l0_3))))) else (some false))) = some r := H
                         have A39 := Aside0.mk A390
                         clear A390
                         replace H := Option.bind_eq_some_iff.mp H
                         obtain ⟨t125, A400, H⟩ := H
                         replace H : (if t124 = t125 then ((spec_floorMod.f (wrap64 ((rd l0_2 x5_2) + (rd l0_0 (rd l0_3 (ji23))))) 86400).bind fun t126 => (if t126 < 3600 then (some false) else ((spec_floorMod.f (wrap64 ((rd l0_2 x5_2) + (rd l0_0 (rd l0_3 x5_2)))) 86400).bind fun t127 => (if t127 < 3600 then (some false) else (spec_CronPlainZone.l1 kj31 (wrap64 (x5_2 + 1)) l0_0 l0_1 l0_2 l0_3))))) else (some false)) = some r := H
                         have A40 := Aside0.mk A400
                         clear A400
                         by_cases c41 : t124 = t125
                         ·rw [if_pos c41] at H
                          have c41b0 : (t124 == t125) = true := beq_iff_eq.mpr c41
                          have c41b1 : (t124 != t125) = false := bne_eq_false_iff_eq.mpr c41
                          clear c41
                          replace H := Option.bind_eq_some_iff.mp H
                          obtain ⟨t126, A420, H⟩ := H
                          replace H : (if t126 < 3600 then (some false) else ((spec_floorMod.f (wrap64 ((rd l0_2 x5_2) + (rd l0_0 (rd l0_3 x5_2)))) 86400).bind fun t127 => (if t127 < 3600 then (some false) else (spec_CronPlainZone.l1 kj31 (wrap64 (x5_2 + 1)) l0_0 l0_1 l0_2 l0_3)))) = some r := H
                          have A42 := Aside0.mk A420
                          clear A420
                          by_cases c43 : t126 < 3600
                          ·rw [if_pos c43] at H
                           have c43b0 : decide (t126 < 3600) = true := decide_eq_true c43
                           clear c43
                           obtain rfl := Option.some.inj H
                           go_wp2_with (first | (go_at_call 13; (with_reducible refine (spec_floorDiv.calls (wrap64 ((rd l0_2 x5_2) + (rd l0_0 (rd l0_3 (ji23))))) 86400 t124 _ A39.out).mono ?_); rintro e w' ⟨rfl, ⟨nd, rfl⟩⟩; (try first | exact ⟨rfl, _, World.drewN_drewN _ _ _⟩ | exact ⟨rfl, _, Eq.trans (World.drewN_drewN _ _ _) (congrArg (World.drewN _) (Nat.add_assoc _ _ _))⟩)) | (go_at_call 13; (with_reducible refine (spec_floorDiv.calls (wrap64 ((rd l0_2 x5_2) + (rd l0_0 (rd l0_3 x5_2)))) 86400 t125 _ A40.out).mono ?_); rintro e w' ⟨rfl, ⟨nd, rfl⟩⟩; (try first | exact ⟨rfl, _, World.drewN_drewN _ _ _⟩ | exact ⟨rfl, _, Eq.trans (World.drewN_drewN _ _ _) (congrArg (World.drewN _) (Nat.add_assoc _ _ _))⟩)) | (go_at_call 12; (with_reducible refine (spec_floorMod.calls (wrap64 ((rd l0_2 x5_2) + (rd l0_0 (rd l0_3 (ji23))))) 86400 t126 _ A42.out).mono ?_); rintro e w' ⟨rfl, ⟨nd, rfl⟩⟩; (try first | exact ⟨rfl, _, World.drewN_drewN _ _ _⟩ | exact ⟨rfl, _, Eq.trans (World.drewN_drewN _ _ _) (congrArg (World.drewN _) (Nat.add_assoc _ _ _))⟩)))
                           repeat (go_quiet (first | (go_at_call 13; (with_reducible refine (spec_floorDiv.calls (wrap64 ((rd l0_2 x5_2) + (rd l0_0 (rd l0_3 (ji23))))) 86400 t124 _ A39.out).mono ?_); rintro e w' ⟨rfl, ⟨nd, rfl⟩⟩; (try first | exact ⟨rfl, _, World.drewN_drewN _ _ _⟩ | exact ⟨rfl, _, Eq.trans (World.drewN_drewN _ _ _) (congrArg (World.drewN _) (Nat.add_assoc _ _ _))⟩)) | (go_at_call 13; (with_reducible refine (spec_floorDiv.calls (wrap64 ((rd l0_2 x5_2) + (rd l0_0 (rd l0_3 x5_2)))) 86400 t125 _ A40.out).mono ?_); rintro e w' ⟨rfl, ⟨nd, rfl⟩⟩; (try first | exact ⟨rfl, _, World.drewN_drewN _ _ _⟩ | exact ⟨rfl, _, Eq.trans (World.drewN_drewN _ _ _) (congrArg (World.drewN _) (Nat.add_assoc _ _ _))⟩)) | (go_at_call 12; (with_reducible refine (spec_floorMod.calls (wrap64 ((rd l0_2 x5_2) + (rd l0_0 (rd l0_3 (ji23))))) 86400 t126 _ A42.out).mono ?_); rintro e w' ⟨rfl, ⟨nd, rfl⟩⟩; (try first | exact ⟨rfl, _, World.drewN_drewN _ _ _⟩ | exact ⟨rfl, _, Eq.trans (World.drewN_drewN _ _ _) (congrArg (World.drewN _) (Nat.add_assoc _ _ _))⟩))); try go_wp2_with (first | (go_at_call 13; (with_reducible refine (spec_floorDiv.calls (wrap64 ((rd l0_2 x5_2) + (rd l0_0 (rd l0_3 (ji23))))) 86400 t124 _ A39.out).mono ?_); rintro e w' ⟨rfl, ⟨nd, rfl⟩⟩; (try first | exact ⟨rfl, _, World.drewN_drewN _ _ _⟩ | exact ⟨rfl, _, Eq.trans (World.drewN_drewN _ _ _) (congrArg (World.drewN _) (Nat.add_assoc _ _ _))⟩)) | (go_at_call 13; (with_reducible refine (spec_floorDiv.calls (wrap64 ((rd l0_2 x5_2) + (rd l0_0 (rd l0_3 x5_2)))) 86400 t125 _ A40.out).mono ?_); rintro e w' ⟨rfl, ⟨nd, rfl⟩⟩; (try first | exact ⟨rfl, _, World.drewN_drewN _ _ _⟩ | exact ⟨rfl, _, Eq.trans (World.drewN_drewN _ _ _) (congrArg (World.drewN _) (Nat.add_assoc _ _ _))⟩)) | (go_at_call 12; (with_reducible refine (spec_floorMod.calls (wrap64 ((rd l0_2 x5_2) + (rd l0_0 (rd l0_3 (ji23))))) 86400 t126 _ A42.out).mono ?_); rintro e w' ⟨rfl, ⟨nd, rfl⟩⟩; (try first | exact ⟨rfl, _, World.drewN_drewN _ _ _⟩ | exact ⟨rfl, _, Eq.trans (World.drewN_drewN _ _ _) (congrArg (World.drewN _) (Nat.add_assoc _ _ _))⟩))))
                           go_ret
                           exact ⟨by first | rfl | (simp [errW_none, errW_some] <;> rfl) | (simp only [← hji23]; first | rfl | (simp [errW_none, errW_some] <;> rfl)) | (simp [*, errW_none, errW_some] <;> rfl), by repeat (first | (with_reducible first | exact HB.out | apply below_alloc | apply pw_below_drewN | apply below_drew1 | refine below_set ?_ GE113.out) | exact HB.out)⟩
                          ·rw [if_neg c43] at H
                           have c43b0 : decide (t126 < 3600) = false := decide_eq_false c43
                           clear c43
                           replace H := Option.bind_eq_some_iff.mp H
                           obtain ⟨t127, A440, H⟩ := H
                           replace H : (if t127 < 3600 then (some false) else (spec_CronPlainZone.l1 kj31 (wrap64 (x5_2 + 1)) l0_0 l0_1 l0_2 l0_3)) = some r := H
                           have A44 := Aside0.mk A440
                           clear A440
                           by_cases c45 : t127 < 3600
                           ·rw [if_pos c45] at H
                            have c45b0 : decide (t127 < 3600) = true := decide_eq_true c45
                            clear c45
                            obtain rfl := Option.some.inj H
                            go_wp2_with (first | (go_at_call 13; (with_reducible refine (spec_floorDiv.calls (wrap64 ((rd l0_2 x5_2) + (rd l0_0 (rd l0_3 (ji23))))) 86400 t124 _ A39.out).mono ?_); rintro e w' ⟨rfl, ⟨nd, rfl⟩⟩; (try first | exact ⟨rfl, _, World.drewN_drewN _ _ _⟩ | exact ⟨rfl, _, Eq.trans (World.drewN_drewN _ _ _) (congrArg (World.drewN _) (Nat.add_assoc _ _ _))⟩)) | (go_at_call 13; (with_reducible refine (spec_floorDiv.calls (wrap64 ((rd l0_2 x5_2) + (rd l0_0 (rd l0_3 x5_2)))) 86400 t125 _ A40.out).mono ?_); rintro e w' ⟨rfl, ⟨nd, rfl⟩⟩; (try first | exact ⟨rfl, _, World.drewN_drewN _ _ _⟩ | exact ⟨rfl, _, Eq.trans (World.drewN_drewN _ _ _) (congrArg (World.drewN _) (Nat.add_assoc _ _ _))⟩)) | (go_at_call 12; (with_reducible refine (spec_floorMod.calls (wrap64 ((rd l0_2 x5_2) + (rd l0_0 (rd l0_3 (ji23))))) 86400 t126 _ A42.out).mono ?_); rintro e w' ⟨rfl, ⟨nd, rfl⟩⟩; (try first | exact ⟨rfl, _, World.drewN_drewN _ _ _⟩ | exact ⟨rfl, _, Eq.trans (World.drewN_drewN _ _ _) (congrArg (World.drewN _) (Nat.add_assoc _ _ _))⟩)) | (go_at_call 12; (with_reducible refine (spec_floorMod.calls (wrap64 ((rd l0_2 x5_2) + (rd l0_0 (rd l0_3 x5_2)))) 86400 t127 _ A44.out).mono ?_); rintro e w' ⟨rfl, ⟨nd, rfl⟩⟩; (try first | exact ⟨rfl, _, World.drewN_drewN _ _ _⟩ | exact ⟨rfl, _, Eq.trans (World.drewN_drewN _ _ _) (congrArg (World.drewN _) (Nat.add_assoc _ _ _))⟩)))
                            repeat (go_quiet (first | (go_at_call 13; (with_reducible refine (spec_floorDiv.calls (wrap64 ((rd l0_2 x5_2) + (rd l0_0 (rd l0_3 (ji23))))) 86400 t124 _ A39.out).mono ?_); rintro e w' ⟨rfl, ⟨nd, rfl⟩⟩; (try first | exact ⟨rfl, _, World.drewN_drewN _ _ _⟩ | exact ⟨rfl, _, Eq.trans (World.drewN_drewN _ _ _) (congrArg (World.drewN _) (Nat.add_assoc _ _ _))⟩)) | (go_at_call 13; (with_reducible refine (spec_floorDiv.calls (wrap64 ((rd l0_2 x5_2) + (rd l0_0 (rd l0_3 x5_2)))) 86400 t125 _ A40.out).mono ?_); rintro e w' ⟨rfl, ⟨nd, rfl⟩⟩; (try first | exact ⟨rfl, _, World.drewN_drewN _ _ _⟩ | exact ⟨rfl, _, Eq.trans (World.drewN_drewN _ _ _) (congrArg (World.drewN _) (Nat.add_assoc _ _ _))⟩)) | (go_at_call 12; (with_reducible refine (spec_floorMod.calls (wrap64 ((rd l0_2 x5_2) + (rd l0_0 (rd l0_3 (ji23))))) 86400 t126 _ A42.out).mono ?_); rintro e w' ⟨rfl, ⟨nd, rfl⟩⟩; (try first | exact ⟨rfl, _, World.drewN_drewN _ _ _⟩ | exact ⟨rfl, _, Eq.trans (World.drewN_drewN _ _ _) (congrArg (World.drewN _) (Nat.add_assoc _ _ _))⟩)) | (go_at_call 12; (with_reducible refine (spec_floorMod.calls (wrap64 ((rd l0_2 x5_2) + (rd l0_0 (rd l0_3 x5_2)))) 86400 t127 _ A44.out).mono ?_); rintro e w' ⟨rfl, ⟨nd, rfl⟩⟩; (try first | exact ⟨rfl, _, World.drewN_drewN _ _ _⟩ | exact ⟨rfl, _, Eq.trans (World.drewN_drewN _ _ _) (congrArg (World.drewN _) (Nat.add_assoc _ _ _))⟩))); try go_wp2_with (first | (go_at_call 13; (with_reducible refine (spec_floorDiv.calls (wrap64 ((rd l0_2 x5_2) + (rd l0_0 (rd l0_3 (ji23))))) 86400 t124 _ A39.out).mono ?_); rintro e w' ⟨rfl, ⟨nd, rfl⟩⟩; (try first | exact ⟨rfl, _, World.drewN_drewN _ _ _⟩ | exact ⟨rfl, _, Eq.trans (World.drewN_drewN _ _ _) (congrArg (World.drewN _) (Nat.add_assoc _ _ _))⟩)) | (go_at_call 13; (with_reducible refine (spec_floorDiv.calls (wrap64 ((rd l0_2 x5_2) + (rd l0_0 (rd l0_3 x5_2)))) 86400 t125 _ A40.out).mono ?_); rintro e w' ⟨rfl, ⟨nd, rfl⟩⟩; (try first | exact ⟨rfl, _, World.drewN_drewN _ _ _⟩ | exact ⟨rfl, _, Eq.trans (World.drewN_drewN _ _ _) (congrArg (World.drewN _) (Nat.add_assoc _ _ _))⟩)) | (go_at_call 12; (with_reducible refine (spec_floorMod.calls (wrap64 ((rd l0_2 x5_2) + (rd l0_0 (rd l0_3 (ji23))))) 86400 t126 _ A42.out).mono ?_); rintro e w' ⟨rfl, ⟨nd, rfl⟩⟩; (try first | exact ⟨rfl, _, World.drewN_drewN _ _ _⟩ | exact ⟨rfl, _, Eq.trans (World.drewN_drewN _ _ _) (congrArg (World.drewN _) (Nat.add_assoc _ _ _))⟩)) | (go_at_call 12; (with_reducible refine (spec_floorMod.calls (wrap64 ((rd l0_2 x5_2) + (rd l0_0 (rd l0_3 x5_2)))) 86400 t127 _ A44.out).mono ?_); rintro e w' ⟨rfl, ⟨nd, rfl⟩⟩; (try first | exact ⟨rfl, _, World.drewN_drewN _ _ _⟩ | exact ⟨rfl, _, Eq.trans (World.drewN_drewN _ _ _) (congrArg (World.drewN _) (Nat.add_assoc _ _ _))⟩))))
                            go_ret
                            exact ⟨by first | rfl | (simp [errW_none, errW_some] <;> rfl) | (simp only [← hji23]; first | rfl | (simp [errW_none, errW_some] <;> rfl)) | (simp [*, errW_none, errW_some] <;> rfl), by repeat (first | (with_reducible first | exact HB.out | apply below_alloc | apply pw_below_drewN | apply below_drew1 | refine below_set ?_ GE113.out) | exact HB.out)⟩
                           ·rw [if_neg c45] at H
                            have c45b0 : decide (t127 < 3600) = false := decide_eq_false c45
                            clear c45
                            have H' := Aside0.mk H
                            clear H
                            go_wp2_with (first | (go_at_call 13; (with_reducible refine (spec_floorDiv.calls (wrap64 ((rd l0_2 x5_2) + (rd l0_0 (rd l0_3 (ji23))))) 86400 t124 _ A39.out).mono ?_); rintro e w' ⟨rfl, ⟨nd, rfl⟩⟩; (try first | exact ⟨rfl, _, World.drewN_drewN _ _ _⟩ | exact ⟨rfl, _, Eq.trans (World.drewN_drewN _ _ _) (congrArg (World.drewN _) (Nat.add_assoc _ _ _))⟩)) | (go_at_call 13; (with_reducible refine (spec_floorDiv.calls (wrap64 ((rd l0_2 x5_2) + (rd l0_0 (rd l0_3 x5_2)))) 86400 t125 _ A40.out).mono ?_); rintro e w' ⟨rfl, ⟨nd, rfl⟩⟩; (try first | exact ⟨rfl, _, World.drewN_drewN _ _ _⟩ | exact ⟨rfl, _, Eq.trans (World.drewN_drewN _ _ _) (congrArg (World.drewN _) (Nat.add_assoc _ _ _))⟩)) | (go_at_call 12; (with_reducible refine (spec_floorMod.calls (wrap64 ((rd l0_2 x5_2) + (rd l0_0 (rd l0_3 (ji23))))) 86400 t126 _ A42.out).mono ?_); rintro e w' ⟨rfl, ⟨nd, rfl⟩⟩; (try first | exact ⟨rfl, _, World.drewN_drewN _ _ _⟩ | exact ⟨rfl, _, Eq.trans (World.drewN_drewN _ _ _) (congrArg (World.drewN _) (Nat.add_assoc _ _ _))⟩)) | (go_at_call 12; (with_reducible refine (spec_floorMod.calls (wrap64 ((rd l0_2 x5_2) + (rd l0_0 (rd l0_3 x5_2)))) 86400 t127 _ A44.out).mono ?_); rintro e w' ⟨rfl, ⟨nd, rfl⟩⟩; (try first | exact ⟨rfl, _, World.drewN_drewN _ _ _⟩ | exact ⟨rfl, _, Eq.trans (World.drewN_drewN _ _ _) (congrArg (World.drewN _) (Nat.add_assoc _ _ _))⟩)))
                            repeat (go_quiet (first | (go_at_call 13; (with_reducible refine (spec_floorDiv.calls (wrap64 ((rd l0_2 x5_2) + (rd l0_0 (rd l0_3 (ji23))))) 86400 t124 _ A39.out).mono ?_); rintro e w' ⟨rfl, ⟨nd, rfl⟩⟩; (try first | exact ⟨rfl, _, World.drewN_drewN _ _ _⟩ | exact ⟨rfl, _, Eq.trans (World.drewN_drewN _ _ _) (congrArg (World.drewN _) (Nat.add_assoc _ _ _))⟩)) | (go_at_call 13; (with_reducible refine (spec_floorDiv.calls (wrap64 ((rd l0_2 x5_2) + (rd l0_0 (rd l0_3 x5_2)))) 86400 t125 _ A40.out).mono ?_); rintro e w' ⟨rfl, ⟨nd, rfl⟩⟩; (try first | exact ⟨rfl, _, World.drewN_drewN _ _ _⟩ | exact ⟨rfl, _, Eq.trans (World.drewN_drewN _ _ _) (congrArg (World.drewN _) (Nat.add_assoc _ _ _))⟩)) | (go_at_call 12; (with_reducible refine (spec_floorMod.calls (wrap64 ((rd l0_2 x5_2) + (rd l0_0 (rd l0_3 (ji23))))) 86400 t126 _ A42.out).mono ?_); rintro e w' ⟨rfl, ⟨nd, rfl⟩⟩; (try first | exact ⟨rfl, _, World.drewN_drewN _ _ _⟩ | exact ⟨rfl, _, Eq.trans (World.drewN_drewN _ _ _) (congrArg (World.drewN _) (Nat.add_assoc _ _ _))⟩)) | (go_at_call 12; (with_reducible refine (spec_floorMod.calls (wrap64 ((rd l0_2 x5_2) + (rd l0_0 (rd l0_3 x5_2)))) 86400 t127 _ A44.out).mono ?_); rintro e w' ⟨rfl, ⟨nd, rfl⟩⟩; (try first | exact ⟨rfl, _, World.drewN_drewN _ _ _⟩ | exact ⟨rfl, _, Eq.trans (World.drewN_drewN _ _ _) (congrArg (World.drewN _) (Nat.add_assoc _ _ _))⟩))); try go_wp2_with (first | (go_at_call 13; (with_reducible refine (spec_floorDiv.calls (wrap64 ((rd l0_2 x5_2) + (rd l0_0 (rd l0_3 (ji23))))) 86400 t124 _ A39.out).mono ?_); rintro e w' ⟨rfl, ⟨nd, rfl⟩⟩; (try first | exact ⟨rfl, _, World.drewN_drewN _ _ _⟩ | exact ⟨rfl, _, Eq.trans (World.drewN_drewN _ _ _) (congrArg (World.drewN _) (Nat.add_assoc _ _ _))⟩)) | (go_at_call 13; (with_reducible refine (spec_floorDiv.calls (wrap64 ((rd l0_2 x5_2) + (rd l0_0 (rd l0_3 x5_2)))) 86400 t125 _ A40.out).mono ?_); rintro e w' ⟨rfl, ⟨nd, rfl⟩⟩; (try first | exact ⟨rfl, _, World.drewN_drewN _ _ _⟩ | exact ⟨rfl, _, Eq.trans (World.drewN_drewN _ _ _) (congrArg (World.drewN _) (Nat.add_assoc _ _ _))⟩)) | (go_at_call 12; (with_reducible refine (spec_floorMod.calls (wrap64 ((rd l0_2 x5_2) + (rd l0_0 (rd l0_3 (ji23))))) 86400 t126 _ A42.out).mono ?_); rintro e w' ⟨rfl, ⟨nd, rfl⟩⟩; (try first | exact ⟨rfl, _, World.drewN_drewN _ _ _⟩ | exact ⟨rfl, _, Eq.trans (World.drewN_drewN _ _ _) (congrArg (World.drewN _) (Nat.add_assoc _ _ _))⟩)) | (go_at_call 12; (with_reducible refine (spec_floorMod.calls (wrap64 ((rd l0_2 x5_2) + (rd l0_0 (rd l0_3 x5_2)))) 86400 t127 _ A44.out).mono ?_); rintro e w' ⟨rfl, ⟨nd, rfl⟩⟩; (try first | exact ⟨rfl, _, World.drewN_drewN _ _ _⟩ | exact ⟨rfl, _, Eq.trans (World.drewN_drewN _ _ _) (congrArg (World.drewN _) (Nat.add_assoc _ _ _))⟩))))
                            go_roundg kj31
                            case measure => have := HK1.out; have := HK2.out; have := HJ9.out; have := HJ13.out; have := HJ31.out; omega
                            case rel => exact ⟨(wrap64 (x5_2 + 1)), (by first | rfl | (simp; done) | (simp [*]; done)), H', ⟨by have := HK1.out; have := HK2.out; have := HJ9.out; have := HJ13.out; have := HJ31.out; omega⟩, ⟨by (with_reducible repeat (first | refine blk_drewN ?_ _ | refine blk_drew ?_ | refine blk_alloc ?_ _)); exact BK113.out⟩, ⟨by repeat (first | (with_reducible first | exact HB.out | apply below_alloc | apply pw_below_drewN | apply below_drew1 | refine below_set ?_ GE113.out) | exact HB.out)⟩⟩
                         ·rw [if_neg c41] at H
                          have c41b0 : (t124 == t125) = false := beq_eq_false_iff_ne.mpr c41
                          have c41b1 : (t124 != t125) = true := bne_iff_ne.mpr c41
                          obtain rfl := Option.some.inj H
                          go_wp2_with (first | (go_at_call 13; (with_reducible refine (spec_floorDiv.calls (wrap64 ((rd l0_2 x5_2) + (rd l0_0 (rd l0_3 (ji23))))) 86400 t124 _ A39.out).mono ?_); rintro e w' ⟨rfl, ⟨nd, rfl⟩⟩; (try first | exact ⟨rfl, _, World.drewN_drewN _ _ _⟩ | exact ⟨rfl, _, Eq.trans (World.drewN_drewN _ _ _) (congrArg (World.drewN _) (Nat.add_assoc _ _ _))⟩)) | (go_at_call 13; (with_reducible refine (spec_floorDiv.calls (wrap64 ((rd l0_2 x5_2) + (rd l0_0 (rd l0_3 x5_2)))) 86400 t125 _ A40.out).mono ?_); rintro e w' ⟨rfl, ⟨nd, rfl⟩⟩; (try first | exact ⟨rfl, _, World.drewN_drewN _ _ _⟩ | exact ⟨rfl, _, Eq.trans (World.drewN_drewN _ _ _) (congrArg (World.drewN _) (Nat.add_assoc _ _ _))⟩)))
                          repeat (go_quiet (first | (go_at_call 13; (with_reducible refine (spec_floorDiv.calls (wrap64 ((rd l0_2 x5_2) + (rd l0_0 (rd l0_3 (ji23))))) 86400 t124 _ A39.out).mono ?_); rintro e w' ⟨rfl, ⟨nd, rfl⟩⟩; (try first | exact ⟨rfl, _, World.drewN_drewN _ _ _⟩ | exact ⟨rfl, _, Eq.trans (World.drewN_drewN _ _ _) (congrArg (World.drewN _) (Nat.add_assoc _ _ _))⟩)) | (go_at_call 13; (with_reducible refine (spec_floorDiv.calls (wrap64 ((rd l0_2 x5_2) + (rd l0_0 (rd l0_3 x5_2)))) 86400 t125 _ A40.out).mono ?_); rintro e w' ⟨rfl, ⟨nd, rfl⟩⟩; (try first | exact ⟨rfl, _, World.drewN_drewN _ _ _⟩ | exact ⟨rfl, _, Eq.trans (World.drewN_drewN _ _ _) (congrArg (World.drewN _) (Nat.add_assoc _ _ _))⟩))); try go_wp2_with (first | (go_at_call 13; (with_reducible refine (spec_floorDiv.calls (wrap64 ((rd l0_2 x5_2) + (rd l0_0 (rd l0_3 (ji23))))) 86400 t124 _ A39.out).mono ?_); rintro e w' ⟨rfl, ⟨nd, rfl⟩⟩; (try first | exact ⟨rfl, _, World.drewN_drewN _ _ _⟩ | exact ⟨rfl, _, Eq.trans (World.drewN_drewN _ _ _) (congrArg (World.drewN _) (Nat.add_assoc _ _ _))⟩)) | (go_at_call 13; (with_reducible refine (spec_floorDiv.calls (wrap64 ((rd l0_2 x5_2) + (rd l0_0 (rd l0_3 x5_2)))) 86400 t125 _ A40.out).mono ?_); rintro e w' ⟨rfl, ⟨nd, rfl⟩⟩; (try first | exact ⟨rfl, _, World.drewN_drewN _ _ _⟩ | exact ⟨rfl, _, Eq.trans (World.drewN_drewN _ _ _) (congrArg (World.drewN _) (Nat.add_assoc _ _ _))⟩))))
                          go_ret
                          exact ⟨by first | rfl | (simp [errW_none, errW_some] <;> rfl) | (simp only [← hji23]; first | rfl | (simp [errW_none, errW_some] <;> rfl)) | (simp [*, errW_none, errW_some] <;> rfl), by repeat (first | (with_reducible first | exact HB.out | apply below_alloc | apply pw_below_drewN | apply below_drew1 | refine below_set ?_ GE113.out) | exact HB.out)⟩
                     ·rw [if_neg c31] at H
                      exact absurd H (by simp)
                    ·rw [if_neg c30] at H
                     exact absurd H (by simp)
                   ·rw [if_neg c29] at H
                    exact absurd H (by simp)
                  ·rw [if_neg c28] at H
                   exact absurd H (by simp)
                 ·rw [if_neg c27] at H
                  exact absurd H (by simp)
                ·rw [if_neg c26] at H
                 exact absurd H (by simp)
               ·rw [if_neg c25] at H
                exact absurd H (by simp)
              ·rw [if_neg c24] at H
               exact absurd H (by simp)
       ·rw [if_neg c9] at H
        exact absurd H (by simp)
      ·rw [if_neg c8] at H
       have c8b0 : decide (x5_2 < (l0_2.length : Int)) = false := decide_eq_false c8
       clear c8
       obtain rfl := Option.some.inj H
       have hcz46_0 : wr.cell? ⟨gb113, 0, none⟩ = some (.slice A0_0 l0_0.length c0_0) := (blk_cell BK113.out 0).trans rfl
       have hcz46_1 : wr.cell? ⟨gb113, 1, none⟩ = some (.slice A0_1 l0_1.length c0_1) := (blk_cell BK113.out 1).trans rfl
       have hcz46_2 : wr.cell? ⟨gb113, 2, none⟩ = some (.slice A0_2 l0_2.length c0_2) := (blk_cell BK113.out 2).trans rfl
       have hcz46_3 : wr.cell? ⟨gb113, 3, none⟩ = some (.slice A0_3 l0_3.length c0_3) := (blk_cell BK113.out 3).trans rfl
       have hfz46_0 := blk_frozen BK113.out 0
       have hfz46_1 := blk_frozen BK113.out 1
       have hfz46_2 := blk_frozen BK113.out 2
       have hfz46_3 := blk_frozen BK113.out 3
       go_wp2
       repeat (go_quiet (fail); try go_wp2)
       go_ret
       exact ⟨by first | rfl | (simp [errW_none, errW_some] <;> rfl) | (simp [*, errW_none, errW_some] <;> rfl), by repeat (first | (with_reducible first | exact HB.out | apply below_alloc | apply pw_below_drewN | apply below_drew1 | refine below_set ?_ GE113.out) | exact HB.out)⟩
end Go.Proofs.Ytlopkdhblfibkaa.Pr
