/- Functions of the program and of its library as plain Lean functions, printed by the kit's print.sh, merged by wip/tools/pack.py. Conditions: none. -/
import Derived.Test.YtmecbmgfacpecaaGreatDoorProg
import Derived.Below
import Derived.Deep.Draws
import Derived.Deep.AppendLies
import Derived.Maps.AppendAt
import Derived.OwnWalk
import Derived.Laws.BytesArg
import Derived.Laws.MakeOwn
import Derived.Laws.OwnMore
import Derived.Deep.OwnRows
import Derived.Tactics
import Derived.Lib.ConvBytes
import Derived.Laws.Slices
import Derived.WalkKit
import Derived.KernelRfl
import Derived.RowKit3
import Derived.Deep.LoopGhost
import Derived.Deep.QuietTactic
import Derived.BigQuiet
import Derived.WideLaws
import Derived.Deep.DeepCutAuto
import Derived.Deep.CutBlock
import Derived.Deep.RegionHeld3
import Derived.Laws.Rows
import Derived.Lib.AppendStr
import Derived.ArgAppend
import Derived.Laws.IdiomCopy
import Derived.OrdersHeld
import Derived.Laws.BitsLemmas
import Derived.RowKit
import Derived.Test.YtmecbmgfacpecaaGreatDoorWWordsT
import Derived.Test.YtmecbmgfacpecaaGreatDoorWLastT
import Derived.Test.YtmecbmgfacpecaaGreatDoorWTabT
import Derived.Test.YtmecbmgfacpecaaGreatDoorWApartT
import Derived.Test.YtmecbmgfacpecaaGreatDoorWShareT
import Derived.Test.YtmecbmgfacpecaaGreatDoorWNT
import Derived.Test.YtmecbmgfacpecaaGreatDoorWEqStructT
import Derived.Test.YtmecbmgfacpecaaGreatDoorWRepsOneT
import Derived.Test.YtmecbmgfacpecaaGreatDoorWInvT
import Derived.Test.YtmecbmgfacpecaaGreatDoorWMoreT
namespace Go.Proofs.YtmecbmgfacpecaaGreatDoor.Pr
open Go.RowKit Go.Proofs.YtmecbmgfacpecaaGreatDoorW.PrintWords Go.Proofs.YtmecbmgfacpecaaGreatDoorW.PrintLast Go.Proofs.YtmecbmgfacpecaaGreatDoorW.PrintMore
attribute [local go_sem] max2_int min2_int max_two min_two max_three min_three max_four min_four   -- for this text's walks alone
set_option linter.unusedVariables false
set_option linter.unusedSimpArgs false
def errW : Option Int → Value
 | none => .nilIface
 | some c => .iface 0 (.int .i64 c)
theorem errW_none : errW none = .nilIface := rfl
theorem errW_some (c : Int) : errW (some c) = .iface 0 (.int .i64 c) := rfl
theorem info9 : (Tryz.prog.info? 9).map (fun i => (i.zero, i.size, i.bytes)) = some (some (.string ⟨#[]⟩), 1, 16) := by kernel_rfl
-- the values' own types
-- the values' own types
end Go.Proofs.YtmecbmgfacpecaaGreatDoor.Pr
namespace Go.Proofs.YtmecbmgfacpecaaGreatDoor.Pr
open Go.RowKit Go.Proofs.YtmecbmgfacpecaaGreatDoorW.PrintWords Go.Proofs.YtmecbmgfacpecaaGreatDoorW.PrintLast Go.Proofs.YtmecbmgfacpecaaGreatDoorW.PrintMore
attribute [local go_sem] max2_int min2_int max_two min_two max_three min_three max_four min_four   -- for this text's walks alone
set_option linter.unusedVariables false
set_option linter.unusedSimpArgs false
def spec_CronHigh.f (a0 : Int) : Option (Int) := if a0 = 2 then (some 23) else (if a0 = 3 then (some 31) else (if a0 = 4 then (some 12) else (if a0 = 5 then (some 6) else (some 59))))
set_option maxHeartbeats 8000000 in
set_option maxRecDepth 100000 in
theorem spec_CronHigh.calls (a0 : Int) (r : Int) (w : World) (h : spec_CronHigh.f a0 = some r) :
  Calls Tryz.prog 61 #[.int .i64 a0] w fun e w' => e = .returned (.int .i64 r) ∧ Drawn0 w w' := by
 have H : (if a0 = 2 then (some 23) else (if a0 = 3 then (some 31) else (if a0 = 4 then (some 12) else (if a0 = 5 then (some 6) else (some 59))))) = some r := h
 clear h
 by_cases c2 : a0 = 2
 ·rw [if_pos c2] at H
  have c2b0 : (a0 == 2) = true := beq_iff_eq.mpr c2
  have c2b1 : (a0 != 2) = false := bne_eq_false_iff_eq.mpr c2
  clear c2
  obtain rfl := Option.some.inj H
  go_enter Tryz.func61, Tryz.ntmps61
  go_wp2
  go_ret
  exact ⟨by first | rfl | (simp; done) | (simp [*]; done), by repeat (first | exact Drawn0.refl _ | apply Drawn0.step)⟩
 ·rw [if_neg c2] at H
  have c2b0 : (a0 == 2) = false := beq_eq_false_iff_ne.mpr c2
  have c2b1 : (a0 != 2) = true := bne_iff_ne.mpr c2
  by_cases c3 : a0 = 3
  ·rw [if_pos c3] at H
   have c3b0 : (a0 == 3) = true := beq_iff_eq.mpr c3
   have c3b1 : (a0 != 3) = false := bne_eq_false_iff_eq.mpr c3
   clear c3
   obtain rfl := Option.some.inj H
   go_enter Tryz.func61, Tryz.ntmps61
   go_wp2
   go_ret
   exact ⟨by first | rfl | (simp; done) | (simp [*]; done), by repeat (first | exact Drawn0.refl _ | apply Drawn0.step)⟩
  ·rw [if_neg c3] at H
   have c3b0 : (a0 == 3) = false := beq_eq_false_iff_ne.mpr c3
   have c3b1 : (a0 != 3) = true := bne_iff_ne.mpr c3
   by_cases c4 : a0 = 4
   ·rw [if_pos c4] at H
    have c4b0 : (a0 == 4) = true := beq_iff_eq.mpr c4
    have c4b1 : (a0 != 4) = false := bne_eq_false_iff_eq.mpr c4
    clear c4
    obtain rfl := Option.some.inj H
    go_enter Tryz.func61, Tryz.ntmps61
    go_wp2
    go_ret
    exact ⟨by first | rfl | (simp; done) | (simp [*]; done), by repeat (first | exact Drawn0.refl _ | apply Drawn0.step)⟩
   ·rw [if_neg c4] at H
    have c4b0 : (a0 == 4) = false := beq_eq_false_iff_ne.mpr c4
    have c4b1 : (a0 != 4) = true := bne_iff_ne.mpr c4
    by_cases c5 : a0 = 5
    ·rw [if_pos c5] at H
     have c5b0 : (a0 == 5) = true := beq_iff_eq.mpr c5
     have c5b1 : (a0 != 5) = false := bne_eq_false_iff_eq.mpr c5
     clear c5
     obtain rfl := Option.some.inj H
     go_enter Tryz.func61, Tryz.ntmps61
     go_wp2
     go_ret
     exact ⟨by first | rfl | (simp; done) | (simp [*]; done), by repeat (first | exact Drawn0.refl _ | apply Drawn0.step)⟩
    ·rw [if_neg c5] at H
     have c5b0 : (a0 == 5) = false := beq_eq_false_iff_ne.mpr c5
     have c5b1 : (a0 != 5) = true := bne_iff_ne.mpr c5
     obtain rfl := Option.some.inj H
     go_enter Tryz.func61, Tryz.ntmps61
     go_wp2
     go_ret
     exact ⟨by first | rfl | (simp; done) | (simp [*]; done), by repeat (first | exact Drawn0.refl _ | apply Drawn0.step)⟩
end Go.Proofs.YtmecbmgfacpecaaGreatDoor.Pr
namespace Go.Proofs.YtmecbmgfacpecaaGreatDoor.Pr
open Go.RowKit Go.Proofs.YtmecbmgfacpecaaGreatDoorW.PrintWords Go.Proofs.YtmecbmgfacpecaaGreatDoorW.PrintLast Go.Proofs.YtmecbmgfacpecaaGreatDoorW.PrintMore
attribute [local go_sem] max2_int min2_int max_two min_two max_three min_three max_four min_four   -- for this text's walks alone
set_option linter.unusedVariables false
set_option linter.unusedSimpArgs false
def spec_CronLow.f (a0 : Int) : Option (Int) := if a0 = 3 then (some 1) else (if a0 = 4 then (some 1) else (some 0))
set_option maxHeartbeats 8000000 in
set_option maxRecDepth 100000 in
theorem spec_CronLow.calls (a0 : Int) (r : Int) (w : World) (h : spec_CronLow.f a0 = some r) :
  Calls Tryz.prog 60 #[.int .i64 a0] w fun e w' => e = .returned (.int .i64 r) ∧ Drawn0 w w' := by
 have H : (if a0 = 3 then (some 1) else (if a0 = 4 then (some 1) else (some 0))) = some r := h
 clear h
 by_cases c2 : a0 = 3
 ·rw [if_pos c2] at H
  have c2b0 : (a0 == 3) = true := beq_iff_eq.mpr c2
  have c2b1 : (a0 != 3) = false := bne_eq_false_iff_eq.mpr c2
  clear c2
  obtain rfl := Option.some.inj H
  go_enter Tryz.func60, Tryz.ntmps60
  go_wp2
  go_ret
  exact ⟨by first | rfl | (simp; done) | (simp [*]; done), by repeat (first | exact Drawn0.refl _ | apply Drawn0.step)⟩
 ·rw [if_neg c2] at H
  have c2b0 : (a0 == 3) = false := beq_eq_false_iff_ne.mpr c2
  have c2b1 : (a0 != 3) = true := bne_iff_ne.mpr c2
  by_cases c3 : a0 = 4
  ·rw [if_pos c3] at H
   have c3b0 : (a0 == 4) = true := beq_iff_eq.mpr c3
   have c3b1 : (a0 != 4) = false := bne_eq_false_iff_eq.mpr c3
   clear c3
   obtain rfl := Option.some.inj H
   go_enter Tryz.func60, Tryz.ntmps60
   go_wp2
   go_ret
   exact ⟨by first | rfl | (simp; done) | (simp [*]; done), by repeat (first | exact Drawn0.refl _ | apply Drawn0.step)⟩
  ·rw [if_neg c3] at H
   have c3b0 : (a0 == 4) = false := beq_eq_false_iff_ne.mpr c3
   have c3b1 : (a0 != 4) = true := bne_iff_ne.mpr c3
   obtain rfl := Option.some.inj H
   go_enter Tryz.func60, Tryz.ntmps60
   go_wp2
   go_ret
   exact ⟨by first | rfl | (simp; done) | (simp [*]; done), by repeat (first | exact Drawn0.refl _ | apply Drawn0.step)⟩
end Go.Proofs.YtmecbmgfacpecaaGreatDoor.Pr
namespace Go.Proofs.YtmecbmgfacpecaaGreatDoor.Pr
open Go.RowKit Go.Proofs.YtmecbmgfacpecaaGreatDoorW.PrintWords Go.Proofs.YtmecbmgfacpecaaGreatDoorW.PrintLast Go.Proofs.YtmecbmgfacpecaaGreatDoorW.PrintMore
attribute [local go_sem] max2_int min2_int max_two min_two max_three min_three max_four min_four   -- for this text's walks alone
set_option linter.unusedVariables false
set_option linter.unusedSimpArgs false
def spec_CronLeap.f (a0 : Int) : Option (Bool) := if (Int.tmod a0 4) = 0 then (if (Int.tmod a0 100) = 0 then (some ((Int.tmod a0 400) == 0)) else (some true)) else (some false)
set_option maxHeartbeats 8000000 in
set_option maxRecDepth 100000 in
theorem spec_CronLeap.calls (a0 : Int) (r : Bool) (w : World) (h : spec_CronLeap.f a0 = some r) :
  Calls Tryz.prog 74 #[.int .i64 a0] w fun e w' => e = .returned (.bool r) ∧ Drawn0 w w' := by
 have H : (if (Int.tmod a0 4) = 0 then (if (Int.tmod a0 100) = 0 then (some ((Int.tmod a0 400) == 0)) else (some true)) else (some false)) = some r := h
 clear h
 by_cases c2 : (Int.tmod a0 4) = 0
 ·rw [if_pos c2] at H
  have c2b0 : ((Int.tmod a0 4) == 0) = true := beq_iff_eq.mpr c2
  have c2b1 : ((Int.tmod a0 4) != 0) = false := bne_eq_false_iff_eq.mpr c2
  clear c2
  by_cases c3 : (Int.tmod a0 100) = 0
  ·rw [if_pos c3] at H
   have c3b0 : ((Int.tmod a0 100) == 0) = true := beq_iff_eq.mpr c3
   have c3b1 : ((Int.tmod a0 100) != 0) = false := bne_eq_false_iff_eq.mpr c3
   clear c3
   obtain rfl := Option.some.inj H
   go_enter Tryz.func74, Tryz.ntmps74
   go_wp2
   go_ret
   exact ⟨by first | rfl | (simp; done) | (simp [*]; done), by repeat (first | exact Drawn0.refl _ | apply Drawn0.step)⟩
  ·rw [if_neg c3] at H
   have c3b0 : ((Int.tmod a0 100) == 0) = false := beq_eq_false_iff_ne.mpr c3
   have c3b1 : ((Int.tmod a0 100) != 0) = true := bne_iff_ne.mpr c3
   obtain rfl := Option.some.inj H
   go_enter Tryz.func74, Tryz.ntmps74
   go_wp2
   go_ret
   exact ⟨by first | rfl | (simp; done) | (simp [*]; done), by repeat (first | exact Drawn0.refl _ | apply Drawn0.step)⟩
 ·rw [if_neg c2] at H
  have c2b0 : ((Int.tmod a0 4) == 0) = false := beq_eq_false_iff_ne.mpr c2
  have c2b1 : ((Int.tmod a0 4) != 0) = true := bne_iff_ne.mpr c2
  obtain rfl := Option.some.inj H
  go_enter Tryz.func74, Tryz.ntmps74
  go_wp2
  go_ret
  exact ⟨by first | rfl | (simp; done) | (simp [*]; done), by repeat (first | exact Drawn0.refl _ | apply Drawn0.step)⟩
end Go.Proofs.YtmecbmgfacpecaaGreatDoor.Pr
namespace Go.Proofs.YtmecbmgfacpecaaGreatDoor.Pr
open Go.RowKit Go.Proofs.YtmecbmgfacpecaaGreatDoorW.PrintWords Go.Proofs.YtmecbmgfacpecaaGreatDoorW.PrintLast Go.Proofs.YtmecbmgfacpecaaGreatDoorW.PrintMore
attribute [local go_sem] max2_int min2_int max_two min_two max_three min_three max_four min_four   -- for this text's walks alone
set_option linter.unusedVariables false
set_option linter.unusedSimpArgs false
def spec_CronMonthDays.f (a0 : Int) (a1 : Int) : Option (Int) := if a1 = 2 then ((spec_CronLeap.f a0).bind fun t181 => (if t181 = true then (some 29) else (some 28))) else (if a1 = 4 then (some 30) else (if a1 = 6 then (some 30) else (if a1 = 9 then (some 30) else (if a1 = 11 then (some 30) else (some 31)))))
set_option maxHeartbeats 8000000 in
set_option maxRecDepth 100000 in
theorem spec_CronMonthDays.calls (a0 : Int) (a1 : Int) (r : Int) (w : World) (h : spec_CronMonthDays.f a0 a1 = some r) :
  Calls Tryz.prog 35 #[.int .i64 a0, .int .i64 a1] w fun e w' => e = .returned (.int .i64 r) ∧ Drawn0 w w' := by
 have H : (if a1 = 2 then ((spec_CronLeap.f a0).bind fun t181 => (if t181 = true then (some 29) else (some 28))) else (if a1 = 4 then (some 30) else (if a1 = 6 then (some 30) else (if a1 = 9 then (some 30) else (if a1 = 11 then (some 30) else (some 31)))))) = some r := h
 clear h
 by_cases c3 : a1 = 2
 ·rw [if_pos c3] at H
  have c3b0 : (a1 == 2) = true := beq_iff_eq.mpr c3
  have c3b1 : (a1 != 2) = false := bne_eq_false_iff_eq.mpr c3
  clear c3
  replace H := Option.bind_eq_some_iff.mp H
  obtain ⟨t181, A40, H⟩ := H
  replace H : (if t181 = true then (some 29) else (some 28)) = some r := H
  have A4 := Aside0.mk A40
  clear A40
  by_cases c5 : t181 = true
  ·subst c5
   have H1 : (some 29) = some r := by rw [if_pos rfl] at H; exact H
   clear H
   have H := H1
   clear H1
   obtain rfl := Option.some.inj H
   go_enter Tryz.func35, Tryz.ntmps35
   go_wp2_with (first | ((with_reducible refine gate_callee (f := 74) rfl ?_); refine goesL_ (some 9) rfl rfl Tryz.func74 (by kernel_rfl) rfl #[.int .i64 a0] rfl (by (try simp only [List.map_toArray, List.map_cons, List.map_nil]); first | done | rfl | (simp only [List.length_drop, List.length_take]; rfl)) ?_; (with_reducible refine (spec_CronLeap.calls a0 true _ A4.out).mono ?_); rintro e w' ⟨rfl, ⟨nd, rfl⟩⟩; refine ⟨_, rfl, ?_⟩))
   go_ret
   exact ⟨by first | rfl | (simp; done) | (simp [*]; done), by repeat (first | exact Drawn0.refl _ | apply Drawn0.step)⟩
  ·replace c5 := Bool.eq_false_iff.mpr c5
   subst c5
   have H1 : (some 28) = some r := by rw [if_neg (show ¬ (false = true) by decide)] at H; exact H
   clear H
   have H := H1
   clear H1
   obtain rfl := Option.some.inj H
   go_enter Tryz.func35, Tryz.ntmps35
   go_wp2_with (first | ((with_reducible refine gate_callee (f := 74) rfl ?_); refine goesL_ (some 9) rfl rfl Tryz.func74 (by kernel_rfl) rfl #[.int .i64 a0] rfl (by (try simp only [List.map_toArray, List.map_cons, List.map_nil]); first | done | rfl | (simp only [List.length_drop, List.length_take]; rfl)) ?_; (with_reducible refine (spec_CronLeap.calls a0 false _ A4.out).mono ?_); rintro e w' ⟨rfl, ⟨nd, rfl⟩⟩; refine ⟨_, rfl, ?_⟩))
   go_ret
   exact ⟨by first | rfl | (simp; done) | (simp [*]; done), by repeat (first | exact Drawn0.refl _ | apply Drawn0.step)⟩
 ·rw [if_neg c3] at H
  have c3b0 : (a1 == 2) = false := beq_eq_false_iff_ne.mpr c3
  have c3b1 : (a1 != 2) = true := bne_iff_ne.mpr c3
  by_cases c6 : a1 = 4
  ·rw [if_pos c6] at H
   have c6b0 : (a1 == 4) = true := beq_iff_eq.mpr c6
   have c6b1 : (a1 != 4) = false := bne_eq_false_iff_eq.mpr c6
   clear c6
   obtain rfl := Option.some.inj H
   go_enter Tryz.func35, Tryz.ntmps35
   go_wp2
   go_ret
   exact ⟨by first | rfl | (simp; done) | (simp [*]; done), by repeat (first | exact Drawn0.refl _ | apply Drawn0.step)⟩
  ·rw [if_neg c6] at H
   have c6b0 : (a1 == 4) = false := beq_eq_false_iff_ne.mpr c6
   have c6b1 : (a1 != 4) = true := bne_iff_ne.mpr c6
   by_cases c7 : a1 = 6
   ·rw [if_pos c7] at H
    have c7b0 : (a1 == 6) = true := beq_iff_eq.mpr c7
    have c7b1 : (a1 != 6) = false := bne_eq_false_iff_eq.mpr c7
    clear c7
    obtain rfl := Option.some.inj H
    go_enter Tryz.func35, Tryz.ntmps35
    go_wp2
    go_ret
    exact ⟨by first | rfl | (simp; done) | (simp [*]; done), by repeat (first | exact Drawn0.refl _ | apply Drawn0.step)⟩
   ·rw [if_neg c7] at H
    have c7b0 : (a1 == 6) = false := beq_eq_false_iff_ne.mpr c7
    have c7b1 : (a1 != 6) = true := bne_iff_ne.mpr c7
    by_cases c8 : a1 = 9
    ·rw [if_pos c8] at H
     have c8b0 : (a1 == 9) = true := beq_iff_eq.mpr c8
     have c8b1 : (a1 != 9) = false := bne_eq_false_iff_eq.mpr c8
     clear c8
     obtain rfl := Option.some.inj H
     go_enter Tryz.func35, Tryz.ntmps35
     go_wp2
     go_ret
     exact ⟨by first | rfl | (simp; done) | (simp [*]; done), by repeat (first | exact Drawn0.refl _ | apply Drawn0.step)⟩
    ·rw [if_neg c8] at H
     have c8b0 : (a1 == 9) = false := beq_eq_false_iff_ne.mpr c8
     have c8b1 : (a1 != 9) = true := bne_iff_ne.mpr c8
     by_cases c9 : a1 = 11
     ·rw [if_pos c9] at H
      have c9b0 : (a1 == 11) = true := beq_iff_eq.mpr c9
      have c9b1 : (a1 != 11) = false := bne_eq_false_iff_eq.mpr c9
      clear c9
      obtain rfl := Option.some.inj H
      go_enter Tryz.func35, Tryz.ntmps35
      go_wp2
      go_ret
      exact ⟨by first | rfl | (simp; done) | (simp [*]; done), by repeat (first | exact Drawn0.refl _ | apply Drawn0.step)⟩
     ·rw [if_neg c9] at H
      have c9b0 : (a1 == 11) = false := beq_eq_false_iff_ne.mpr c9
      have c9b1 : (a1 != 11) = true := bne_iff_ne.mpr c9
      obtain rfl := Option.some.inj H
      go_enter Tryz.func35, Tryz.ntmps35
      go_wp2
      go_ret
      exact ⟨by first | rfl | (simp; done) | (simp [*]; done), by repeat (first | exact Drawn0.refl _ | apply Drawn0.step)⟩
end Go.Proofs.YtmecbmgfacpecaaGreatDoor.Pr
namespace Go.Proofs.YtmecbmgfacpecaaGreatDoor.Pr
open Go.RowKit Go.Proofs.YtmecbmgfacpecaaGreatDoorW.PrintWords Go.Proofs.YtmecbmgfacpecaaGreatDoorW.PrintLast Go.Proofs.YtmecbmgfacpecaaGreatDoorW.PrintMore
attribute [local go_sem] max2_int min2_int max_two min_two max_three min_three max_four min_four   -- for this text's walks alone
set_option linter.unusedVariables false
set_option linter.unusedSimpArgs false
def spec_floorDiv.f (a0 : Int) (a1 : Int) : Option (Int) := if a1 = 0 then (none) else (if (Int.tmod a0 a1) < 0 then (some (wrap64 ((wrap64 (Int.tdiv a0 a1)) - 1))) else (some (wrap64 (Int.tdiv a0 a1))))
set_option maxHeartbeats 8000000 in
set_option maxRecDepth 100000 in
theorem spec_floorDiv.calls (a0 : Int) (a1 : Int) (r : Int) (w : World) (h : spec_floorDiv.f a0 a1 = some r) :
  Calls Tryz.prog 85 #[.int .i64 a0, .int .i64 a1] w fun e w' => e = .returned (.int .i64 r) ∧ Drawn0 w w' := by
 have H : (if a1 = 0 then (none) else (if (Int.tmod a0 a1) < 0 then (some (wrap64 ((wrap64 (Int.tdiv a0 a1)) - 1))) else (some (wrap64 (Int.tdiv a0 a1))))) = some r := h
 clear h
 by_cases c3 : a1 = 0
 ·rw [if_pos c3] at H
  exact absurd H (by simp)
 ·rw [if_neg c3] at H
  have c3b0 : (a1 == 0) = false := beq_eq_false_iff_ne.mpr c3
  have c3b1 : (a1 != 0) = true := bne_iff_ne.mpr c3
  by_cases c4 : (Int.tmod a0 a1) < 0
  ·rw [if_pos c4] at H
   have c4b0 : decide ((Int.tmod a0 a1) < 0) = true := decide_eq_true c4
   clear c4
   obtain rfl := Option.some.inj H
   go_enter Tryz.func85, Tryz.ntmps85
   go_wp2
   go_ret
   exact ⟨by first | rfl | (simp; done) | (simp [*]; done), by repeat (first | exact Drawn0.refl _ | apply Drawn0.step)⟩
  ·rw [if_neg c4] at H
   have c4b0 : decide ((Int.tmod a0 a1) < 0) = false := decide_eq_false c4
   clear c4
   obtain rfl := Option.some.inj H
   go_enter Tryz.func85, Tryz.ntmps85
   go_wp2
   go_ret
   exact ⟨by first | rfl | (simp; done) | (simp [*]; done), by repeat (first | exact Drawn0.refl _ | apply Drawn0.step)⟩
end Go.Proofs.YtmecbmgfacpecaaGreatDoor.Pr
namespace Go.Proofs.YtmecbmgfacpecaaGreatDoor.Pr
open Go.RowKit Go.Proofs.YtmecbmgfacpecaaGreatDoorW.PrintWords Go.Proofs.YtmecbmgfacpecaaGreatDoorW.PrintLast Go.Proofs.YtmecbmgfacpecaaGreatDoorW.PrintMore
attribute [local go_sem] max2_int min2_int max_two min_two max_three min_three max_four min_four   -- for this text's walks alone
set_option linter.unusedVariables false
set_option linter.unusedSimpArgs false
def spec_CronYearStart.f (a0 : Int) : Option (Int) := (spec_floorDiv.f (wrap64 (a0 - 1)) 4).bind fun t182 => ((spec_floorDiv.f (wrap64 (a0 - 1)) 100).bind fun t183 => ((spec_floorDiv.f (wrap64 (a0 - 1)) 400).bind fun t184 => (some (wrap64 ((wrap64 ((wrap64 ((wrap64 ((wrap64 (365 * (wrap64 (a0 - 1)))) + t182)) - t183)) + t184)) - 719162)))))
set_option maxHeartbeats 8000000 in
set_option maxRecDepth 100000 in
theorem spec_CronYearStart.calls (a0 : Int) (r : Int) (w : World) (h : spec_CronYearStart.f a0 = some r) :
  Calls Tryz.prog 130 #[.int .i64 a0] w fun e w' => e = .returned (.int .i64 r) ∧ Drawn0 w w' := by
 have H : ((spec_floorDiv.f (wrap64 (a0 - 1)) 4).bind fun t182 => ((spec_floorDiv.f (wrap64 (a0 - 1)) 100).bind fun t183 => ((spec_floorDiv.f (wrap64 (a0 - 1)) 400).bind fun t184 => (some (wrap64 ((wrap64 ((wrap64 ((wrap64 ((wrap64 (365 * (wrap64 (a0 - 1)))) + t182)) - t183)) + t184)) - 719162)))))) = some r := h
 clear h
 replace H := Option.bind_eq_some_iff.mp H
 obtain ⟨t182, A20, H⟩ := H
 replace H : ((spec_floorDiv.f (wrap64 (a0 - 1)) 100).bind fun t183 => ((spec_floorDiv.f (wrap64 (a0 - 1)) 400).bind fun t184 => (some (wrap64 ((wrap64 ((wrap64 ((wrap64 ((wrap64 (365 * (wrap64 (a0 - 1)))) + t182)) - t183)) + t184)) - 719162))))) = some r := H
 have A2 := Aside0.mk A20
 clear A20
 replace H := Option.bind_eq_some_iff.mp H
 obtain ⟨t183, A30, H⟩ := H
 replace H : ((spec_floorDiv.f (wrap64 (a0 - 1)) 400).bind fun t184 => (some (wrap64 ((wrap64 ((wrap64 ((wrap64 ((wrap64 (365 * (wrap64 (a0 - 1)))) + t182)) - t183)) + t184)) - 719162)))) = some r := H
 have A3 := Aside0.mk A30
 clear A30
 replace H := Option.bind_eq_some_iff.mp H
 obtain ⟨t184, A40, H⟩ := H
 replace H : (some (wrap64 ((wrap64 ((wrap64 ((wrap64 ((wrap64 (365 * (wrap64 (a0 - 1)))) + t182)) - t183)) + t184)) - 719162))) = some r := H
 have A4 := Aside0.mk A40
 clear A40
 obtain rfl := Option.some.inj H
 go_enter Tryz.func130, Tryz.ntmps130
 go_wp2_with (first | ((with_reducible refine gate_callee (f := 85) rfl ?_); refine goesL_ (some 9) rfl rfl Tryz.func85 (by kernel_rfl) rfl #[.int .i64 (wrap64 (a0 - 1)), .int .i64 4] rfl (by (try simp only [List.map_toArray, List.map_cons, List.map_nil]); first | done | rfl | (simp only [List.length_drop, List.length_take]; rfl)) ?_; (with_reducible refine (spec_floorDiv.calls (wrap64 (a0 - 1)) 4 t182 _ A2.out).mono ?_); rintro e w' ⟨rfl, ⟨nd, rfl⟩⟩; refine ⟨_, rfl, ?_⟩) | ((with_reducible refine gate_callee (f := 85) rfl ?_); refine goesL_ (some 12) rfl rfl Tryz.func85 (by kernel_rfl) rfl #[.int .i64 (wrap64 (a0 - 1)), .int .i64 100] rfl (by (try simp only [List.map_toArray, List.map_cons, List.map_nil]); first | done | rfl | (simp only [List.length_drop, List.length_take]; rfl)) ?_; (with_reducible refine (spec_floorDiv.calls (wrap64 (a0 - 1)) 100 t183 _ A3.out).mono ?_); rintro e w' ⟨rfl, ⟨nd, rfl⟩⟩; refine ⟨_, rfl, ?_⟩) | ((with_reducible refine gate_callee (f := 85) rfl ?_); refine goesL_ (some 15) rfl rfl Tryz.func85 (by kernel_rfl) rfl #[.int .i64 (wrap64 (a0 - 1)), .int .i64 400] rfl (by (try simp only [List.map_toArray, List.map_cons, List.map_nil]); first | done | rfl | (simp only [List.length_drop, List.length_take]; rfl)) ?_; (with_reducible refine (spec_floorDiv.calls (wrap64 (a0 - 1)) 400 t184 _ A4.out).mono ?_); rintro e w' ⟨rfl, ⟨nd, rfl⟩⟩; refine ⟨_, rfl, ?_⟩))
 go_ret
 exact ⟨by first | rfl | (simp; done) | (simp [*]; done), by repeat (first | exact Drawn0.refl _ | apply Drawn0.step)⟩
end Go.Proofs.YtmecbmgfacpecaaGreatDoor.Pr
namespace Go.Proofs.YtmecbmgfacpecaaGreatDoor.Pr
open Go.RowKit Go.Proofs.YtmecbmgfacpecaaGreatDoorW.PrintWords Go.Proofs.YtmecbmgfacpecaaGreatDoorW.PrintLast Go.Proofs.YtmecbmgfacpecaaGreatDoorW.PrintMore
attribute [local go_sem] max2_int min2_int max_two min_two max_three min_three max_four min_four   -- for this text's walks alone
set_option linter.unusedVariables false
set_option linter.unusedSimpArgs false
mutual
def spec_CronDateOf.j0 : Nat → Int → Int → Option (Int × Int × Int)
 | 0, _, _ => none
 | k + 1, x0, x3 => spec_CronDateOf.l0 k x0 x3
def spec_CronDateOf.l0 : Nat → Int → Int → Option (Int × Int × Int)
 | 0, _, _ => none
 | k + 1, x0, x3 => (spec_CronYearStart.f (wrap64 (x3 + 1))).bind fun t188 => (if t188 ≤ x0 then (spec_CronDateOf.l0 k x0 (wrap64 (x3 + 1))) else ((spec_CronYearStart.f x3).bind fun t189 => (spec_CronDateOf.l1 k x3 (wrap64 (x0 - t189)) 1)))
def spec_CronDateOf.l1 : Nat → Int → Int → Int → Option (Int × Int × Int)
 | 0, _, _, _ => none
 | k + 1, x3, x4, x5 => (spec_CronMonthDays.f x3 x5).bind fun t190 => (if x4 ≥ t190 then ((spec_CronMonthDays.f x3 x5).bind fun t191 => (spec_CronDateOf.l1 k x3 (wrap64 (x4 - t191)) (wrap64 (x5 + 1)))) else (some (x3, x5, wrap64 (x4 + 1))))
end
def spec_CronDateOf.f (k : Nat) (a0 : Int) : Option (Int × Int × Int) := (spec_floorDiv.f a0 366).bind fun t186 => (if a0 < 0 then ((spec_floorDiv.f a0 365).bind fun t187 => (spec_CronDateOf.j0 k a0 (wrap64 ((wrap64 (1970 + t187)) - 1)))) else (spec_CronDateOf.j0 k a0 (wrap64 (1970 + t186))))
theorem spec_CronDateOf.mono_l : ∀ k, (∀ y0 y1, LeO (spec_CronDateOf.j0 k y0 y1) (spec_CronDateOf.j0 (k + 1) y0 y1)) ∧ (∀ y0 y1, LeO (spec_CronDateOf.l0 k y0 y1) (spec_CronDateOf.l0 (k + 1) y0 y1)) ∧ (∀ y0 y1 y2, LeO (spec_CronDateOf.l1 k y0 y1 y2) (spec_CronDateOf.l1 (k + 1) y0 y1 y2))
 | 0 => ⟨fun _ _ r h => by simp [spec_CronDateOf.j0] at h, fun _ _ r h => by simp [spec_CronDateOf.l0] at h, fun _ _ _ r h => by simp [spec_CronDateOf.l1] at h⟩
 | k + 1 => by
  obtain ⟨ih0, ih1, ih2⟩ := spec_CronDateOf.mono_l k
  refine ⟨?_, ?_, ?_⟩
  ·intro y0 y1
   unfold spec_CronDateOf.j0
   repeat' first
   | (with_reducible exact ih0 _ _)
   | (with_reducible exact ih1 _ _)
   | (with_reducible exact ih2 _ _ _)
   | (with_reducible exact LeO.refl _)
   | (with_reducible exact LeO.none _)
   | (with_reducible refine LeO.ite ?_ ?_)
   | (with_reducible refine LeO.bind ?_ (fun _ => ?_))
   | exact ih0 _ _
   | exact ih1 _ _
   | exact ih2 _ _ _
   | exact LeO.none _
   | refine LeO.ite ?_ ?_
   | refine LeO.bind ?_ (fun _ => ?_)
  ·intro y0 y1
   unfold spec_CronDateOf.l0
   repeat' first
   | (with_reducible exact ih0 _ _)
   | (with_reducible exact ih1 _ _)
   | (with_reducible exact ih2 _ _ _)
   | (with_reducible exact LeO.refl _)
   | (with_reducible exact LeO.none _)
   | (with_reducible refine LeO.ite ?_ ?_)
   | (with_reducible refine LeO.bind ?_ (fun _ => ?_))
   | exact ih0 _ _
   | exact ih1 _ _
   | exact ih2 _ _ _
   | exact LeO.none _
   | refine LeO.ite ?_ ?_
   | refine LeO.bind ?_ (fun _ => ?_)
  ·intro y0 y1 y2
   unfold spec_CronDateOf.l1
   repeat' first
   | (with_reducible exact ih0 _ _)
   | (with_reducible exact ih1 _ _)
   | (with_reducible exact ih2 _ _ _)
   | (with_reducible exact LeO.refl _)
   | (with_reducible exact LeO.none _)
   | (with_reducible refine LeO.ite ?_ ?_)
   | (with_reducible refine LeO.bind ?_ (fun _ => ?_))
   | exact ih0 _ _
   | exact ih1 _ _
   | exact ih2 _ _ _
   | exact LeO.none _
   | refine LeO.ite ?_ ?_
   | refine LeO.bind ?_ (fun _ => ?_)
theorem spec_CronDateOf.mono : ∀ a0 k, LeO (spec_CronDateOf.f k a0) (spec_CronDateOf.f (k + 1) a0) := by
 intro a0 k
 obtain ⟨ih0, ih1, ih2⟩ := spec_CronDateOf.mono_l k
 unfold spec_CronDateOf.f
 repeat' first
   | (with_reducible exact ih0 _ _)
   | (with_reducible exact ih1 _ _)
   | (with_reducible exact ih2 _ _ _)
   | (with_reducible exact LeO.refl _)
   | (with_reducible exact LeO.none _)
   | (with_reducible refine LeO.ite ?_ ?_)
   | (with_reducible refine LeO.bind ?_ (fun _ => ?_))
   | exact ih0 _ _
   | exact ih1 _ _
   | exact ih2 _ _ _
   | exact LeO.none _
   | refine LeO.ite ?_ ?_
   | refine LeO.bind ?_ (fun _ => ?_)
set_option maxHeartbeats 8000000 in
set_option maxRecDepth 100000 in
theorem spec_CronDateOf.calls (k : Nat) (a0 : Int) (r1 : Int) (r2 : Int) (r3 : Int) (w : World) (h : spec_CronDateOf.f k a0 = some (r1, r2, r3)) :
  Calls Tryz.prog 84 #[.int .i64 a0] w fun e w' => e = .returned (.agg #[.int .i64 r1, .int .i64 r2, .int .i64 r3]) ∧ Below w.heap.size w w' := by
 have hu83 := Tryz.underlying83
 have HB := Aside0.mk (Below.refl w.heap.size w)
 have H : ((spec_floorDiv.f a0 366).bind fun t186 => (if a0 < 0 then ((spec_floorDiv.f a0 365).bind fun t187 => (spec_CronDateOf.j0 k a0 (wrap64 ((wrap64 (1970 + t187)) - 1)))) else (spec_CronDateOf.j0 k a0 (wrap64 (1970 + t186))))) = some (r1, r2, r3) := h
 clear h
 replace H := Option.bind_eq_some_iff.mp H
 obtain ⟨t186, A20, H⟩ := H
 replace H : (if a0 < 0 then ((spec_floorDiv.f a0 365).bind fun t187 => (spec_CronDateOf.j0 k a0 (wrap64 ((wrap64 (1970 + t187)) - 1)))) else (spec_CronDateOf.j0 k a0 (wrap64 (1970 + t186)))) = some (r1, r2, r3) := H
 have A2 := Aside0.mk A20
 clear A20
 have HC3 := Aside0.mk H
 clear H
 go_enter Tryz.func84, Tryz.ntmps84
 go_upto_if 10 with (first | ((with_reducible refine gate_dst (N := 2) rfl ?_); refine box_event ?hg (N := 2) ?hd (cs := #[.int .i64 0, .int .i64 0, .int .i64 0]) (t := 83) ?hr ?_; (case hd => rfl); (case hg => rfl); (case hr => first | (go_simp; done) | (go_simp; rfl)); intro gb185 hg w4 hbox hb; have n0_ := Aside0.mk (below_step (by repeat (first | (with_reducible first | exact HB.out | apply below_alloc | apply pw_below_drewN | apply below_drew1) | exact HB.out)) hb); have n1_ := Aside0.mk (hbox); have n2_ := Aside0.mk ((by rw [hg]; exact (below_size (by repeat (first | (with_reducible first | exact HB.out | apply below_alloc | apply pw_below_drewN | apply below_drew1) | exact HB.out))) : w.heap.size ≤ gb185)); have n3_ := Aside0.mk ((by rw [hg]; exact (below_size (by repeat (first | (with_reducible first | exact HB.out | apply below_alloc | apply pw_below_drewN | apply below_drew1) | exact HB.out))) : w.heap.size ≤ gb185)); clear HB; have HB := n0_; have BK185 := n1_; have GW185 := n2_; have GE185 := n3_; clear n0_ n1_ n2_ n3_; clear hb hbox hg) | ((with_reducible refine gate_callee (f := 85) rfl ?_); refine goesL_ (some 7) rfl rfl Tryz.func85 (by kernel_rfl) rfl #[.int .i64 a0, .int .i64 366] rfl (by (try simp only [List.map_toArray, List.map_cons, List.map_nil]); first | done | rfl | (simp only [List.length_drop, List.length_take]; rfl)) ?_; (with_reducible refine (spec_floorDiv.calls a0 366 t186 _ A2.out).mono ?_); rintro e w' ⟨rfl, ⟨nd, rfl⟩⟩; refine ⟨_, rfl, ?_⟩))
 (try simp only [Act.put, List.setIfInBounds_toArray, List.set_cons_zero, List.set_cons_succ])
 go_cut [3] (fun v3 wc => ∃ (kq : Nat) (x3_2 : Int), v3 = .int .i64 x3_2 ∧ Aside0 (spec_CronDateOf.j0 kq a0 x3_2 = some (r1, r2, r3)) ∧ Aside0 (kq ≤ k) ∧ Aside0 (wc.heap[gb185]? = some (.cells #[.int .i64 0, .int .i64 0, .int .i64 0] 83 (0, 0))) ∧ Aside0 (Below w.heap.size w wc))
 case first =>
  have H := HC3.out
  clear HC3
  by_cases c5 : a0 < 0
  ·rw [if_pos c5] at H
   have c5b0 : decide (a0 < 0) = true := decide_eq_true c5
   clear c5
   (first | rw [c5b0] | (simp only [i64_w, i32_w]; rw [c5b0]) | skip)
   replace H := Option.bind_eq_some_iff.mp H
   obtain ⟨t187, A60, H⟩ := H
   replace H : (spec_CronDateOf.j0 k a0 (wrap64 ((wrap64 (1970 + t187)) - 1))) = some (r1, r2, r3) := H
   have A6 := Aside0.mk A60
   clear A60
   have H' := Aside0.mk H
   clear H
   go_wp2_with (first | ((with_reducible refine gate_callee (f := 85) rfl ?_); refine goesL_ (some 12) rfl rfl Tryz.func85 (by kernel_rfl) rfl #[.int .i64 a0, .int .i64 365] rfl (by (try simp only [List.map_toArray, List.map_cons, List.map_nil]); first | done | rfl | (simp only [List.length_drop, List.length_take]; rfl)) ?_; (with_reducible refine (spec_floorDiv.calls a0 365 t187 _ A6.out).mono ?_); rintro e w' ⟨rfl, ⟨nd, rfl⟩⟩; refine ⟨_, rfl, ?_⟩))
   go_meet
   case rel => exact ⟨_, (wrap64 ((wrap64 (1970 + t187)) - 1)), (by first | rfl | (simp; done) | (simp [*]; done)), H', ⟨by first | omega | exact Nat.le_refl _⟩, ⟨by (with_reducible repeat (first | refine blk_drewN ?_ _ | refine blk_drew ?_ | refine blk_alloc ?_ _)); exact BK185.out⟩, ⟨by repeat (first | (with_reducible first | exact HB.out | apply below_alloc | apply pw_below_drewN | apply below_drew1 | refine below_set ?_ GE185.out) | exact HB.out)⟩⟩
  ·rw [if_neg c5] at H
   have c5b0 : decide (a0 < 0) = false := decide_eq_false c5
   clear c5
   (first | rw [c5b0] | (simp only [i64_w, i32_w]; rw [c5b0]) | skip)
   have H' := Aside0.mk H
   clear H
   go_wp2
   go_meet
   case rel => exact ⟨_, (wrap64 (1970 + t186)), (by first | rfl | (simp; done) | (simp [*]; done)), H', ⟨by first | omega | exact Nat.le_refl _⟩, ⟨by (with_reducible repeat (first | refine blk_drewN ?_ _ | refine blk_drew ?_ | refine blk_alloc ?_ _)); exact BK185.out⟩, ⟨by repeat (first | (with_reducible first | exact HB.out | apply below_alloc | apply pw_below_drewN | apply below_drew1 | refine below_set ?_ GE185.out) | exact HB.out)⟩⟩
 case rest =>
  clear HC3
  try clear p2
  try clear c5
  try clear c5b0
  try clear p6
  obtain ⟨kq, x3_2, rfl, HA, HJ2, BK185, HB⟩ := hcut
  cases kq with
  | zero => exact absurd HA.out (by simp [spec_CronDateOf.j0])
  | succ kj2 =>
   have H := HA.out
   clear HA
   simp only [spec_CronDateOf.j0] at H
   have H' := Aside0.mk H
   clear H
   go_wp2
   go_loopg [3] kj2 (fun kq v3 w' => ∃ (x3_2 : Int), v3 = .int .i64 x3_2 ∧ Aside0 (spec_CronDateOf.l0 kq a0 x3_2 = some (r1, r2, r3)) ∧ Aside0 (kq ≤ kj2) ∧ Aside0 (w'.heap[gb185]? = some (.cells #[.int .i64 0, .int .i64 0, .int .i64 0] 83 (0, 0))) ∧ Aside0 (Below w.heap.size w w'))
   case atStart => exact ⟨(x3_2), (by first | rfl | (simp; done) | (simp [*]; done)), H', ⟨Nat.le_refl _⟩, ⟨by (with_reducible repeat (first | refine blk_drewN ?_ _ | refine blk_drew ?_ | refine blk_alloc ?_ _)); exact BK185.out⟩, ⟨by repeat (first | (with_reducible first | exact HB.out | apply below_alloc | apply pw_below_drewN | apply below_drew1 | refine below_set ?_ GE185.out) | exact HB.out)⟩⟩
   case round =>
    clear H'
    try clear p2
    try clear c5
    try clear c5b0
    try clear p6
    try clear p2
    try clear p6
    obtain ⟨x3_2, rfl, HA, HK2, BK185, HB⟩ := hrel
    cases gk with
    | zero => exact absurd HA.out (by simp [spec_CronDateOf.l0])
    | succ k2 =>
     have H := HA.out
     clear HA
     simp only [spec_CronDateOf.l0] at H
     replace H := Option.bind_eq_some_iff.mp H
     obtain ⟨t188, A70, H⟩ := H
     replace H : (if t188 ≤ a0 then (spec_CronDateOf.l0 k2 a0 (wrap64 (x3_2 + 1))) else ((spec_CronYearStart.f x3_2).bind fun t189 => (spec_CronDateOf.l1 k2 x3_2 (wrap64 (a0 - t189)) 1))) = some (r1, r2, r3) := H
     have A7 := Aside0.mk A70
     clear A70
     by_cases c8 : t188 ≤ a0
     ·rw [if_pos c8] at H
      have c8b0 : decide (t188 ≤ a0) = true := decide_eq_true c8
      clear c8
      have H' := Aside0.mk H
      clear H
      go_wp2_with (first | ((with_reducible refine gate_callee (f := 130) rfl ?_); refine goesL_ (some 17) rfl rfl Tryz.func130 (by kernel_rfl) rfl #[.int .i64 (wrap64 (x3_2 + 1))] rfl (by (try simp only [List.map_toArray, List.map_cons, List.map_nil]); first | done | rfl | (simp only [List.length_drop, List.length_take]; rfl)) ?_; (with_reducible refine (spec_CronYearStart.calls (wrap64 (x3_2 + 1)) t188 _ A7.out).mono ?_); rintro e w' ⟨rfl, ⟨nd, rfl⟩⟩; refine ⟨_, rfl, ?_⟩))
      go_roundg k2
      case measure => have := HJ2.out; have := HK2.out; omega
      case rel => exact ⟨(wrap64 (x3_2 + 1)), (by first | rfl | (simp; done) | (simp [*]; done)), H', ⟨by have := HJ2.out; have := HK2.out; omega⟩, ⟨by (with_reducible repeat (first | refine blk_drewN ?_ _ | refine blk_drew ?_ | refine blk_alloc ?_ _)); exact BK185.out⟩, ⟨by repeat (first | (with_reducible first | exact HB.out | apply below_alloc | apply pw_below_drewN | apply below_drew1 | refine below_set ?_ GE185.out) | exact HB.out)⟩⟩
     ·rw [if_neg c8] at H
      have c8b0 : decide (t188 ≤ a0) = false := decide_eq_false c8
      clear c8
      replace H := Option.bind_eq_some_iff.mp H
      obtain ⟨t189, A90, H⟩ := H
      replace H : (spec_CronDateOf.l1 k2 x3_2 (wrap64 (a0 - t189)) 1) = some (r1, r2, r3) := H
      have A9 := Aside0.mk A90
      clear A90
      have H' := Aside0.mk H
      clear H
      go_wp2_with (first | ((with_reducible refine gate_callee (f := 130) rfl ?_); refine goesL_ (some 17) rfl rfl Tryz.func130 (by kernel_rfl) rfl #[.int .i64 (wrap64 (x3_2 + 1))] rfl (by (try simp only [List.map_toArray, List.map_cons, List.map_nil]); first | done | rfl | (simp only [List.length_drop, List.length_take]; rfl)) ?_; (with_reducible refine (spec_CronYearStart.calls (wrap64 (x3_2 + 1)) t188 _ A7.out).mono ?_); rintro e w' ⟨rfl, ⟨nd, rfl⟩⟩; refine ⟨_, rfl, ?_⟩) | ((with_reducible refine gate_callee (f := 130) rfl ?_); refine goesL_ (some 24) rfl rfl Tryz.func130 (by kernel_rfl) rfl #[.int .i64 x3_2] rfl (by (try simp only [List.map_toArray, List.map_cons, List.map_nil]); first | done | rfl | (simp only [List.length_drop, List.length_take]; rfl)) ?_; (with_reducible refine (spec_CronYearStart.calls x3_2 t189 _ A9.out).mono ?_); rintro e w' ⟨rfl, ⟨nd, rfl⟩⟩; refine ⟨_, rfl, ?_⟩))
      go_loopg [4, 5] k2 (fun kq v4 v5 w' => ∃ (x4_3 : Int) (x5_3 : Int), v4 = .int .i64 x4_3 ∧ v5 = .int .i64 x5_3 ∧ Aside0 (spec_CronDateOf.l1 kq x3_2 x4_3 x5_3 = some (r1, r2, r3)) ∧ Aside0 (kq ≤ k2) ∧ Aside0 (w'.heap[gb185]? = some (.cells #[.int .i64 0, .int .i64 0, .int .i64 0] 83 (0, 0))) ∧ Aside0 (Below w.heap.size w w'))
      case atStart => exact ⟨(wrap64 (a0 - t189)), (1), (by first | rfl | (simp; done) | (simp [*]; done)), (by first | rfl | (simp; done) | (simp [*]; done)), H', ⟨Nat.le_refl _⟩, ⟨by (with_reducible repeat (first | refine blk_drewN ?_ _ | refine blk_drew ?_ | refine blk_alloc ?_ _)); exact BK185.out⟩, ⟨by repeat (first | (with_reducible first | exact HB.out | apply below_alloc | apply pw_below_drewN | apply below_drew1 | refine below_set ?_ GE185.out) | exact HB.out)⟩⟩
      case round =>
       clear H'
       try clear c1
       try clear p2
       try clear c5
       try clear c5b0
       try clear p6
       try clear c8
       try clear c8b0
       try clear p2
       try clear p6
       obtain ⟨x4_3, x5_3, rfl, rfl, HA, HK3, BK185, HB⟩ := hrel
       cases gk with
       | zero => exact absurd HA.out (by simp [spec_CronDateOf.l1])
       | succ k3 =>
        have H := HA.out
        clear HA
        simp only [spec_CronDateOf.l1] at H
        replace H := Option.bind_eq_some_iff.mp H
        obtain ⟨t190, A100, H⟩ := H
        replace H : (if x4_3 ≥ t190 then ((spec_CronMonthDays.f x3_2 x5_3).bind fun t191 => (spec_CronDateOf.l1 k3 x3_2 (wrap64 (x4_3 - t191)) (wrap64 (x5_3 + 1)))) else (some (x3_2, x5_3, wrap64 (x4_3 + 1)))) = some (r1, r2, r3) := H
        have A10 := Aside0.mk A100
        clear A100
        by_cases c11 : x4_3 ≥ t190
        ·rw [if_pos c11] at H
         have c11b0 : decide (t190 ≤ x4_3) = true := decide_eq_true c11
         clear c11
         replace H := Option.bind_eq_some_iff.mp H
         obtain ⟨t191, A120, H⟩ := H
         replace H : (spec_CronDateOf.l1 k3 x3_2 (wrap64 (x4_3 - t191)) (wrap64 (x5_3 + 1))) = some (r1, r2, r3) := H
         have A12 := Aside0.mk A120
         clear A120
         have H' := Aside0.mk H
         clear H
         go_wp2_with (first | ((with_reducible refine gate_callee (f := 35) rfl ?_); refine goesL_ (some 29) rfl rfl Tryz.func35 (by kernel_rfl) rfl #[.int .i64 x3_2, .int .i64 x5_3] rfl (by (try simp only [List.map_toArray, List.map_cons, List.map_nil]); first | done | rfl | (simp only [List.length_drop, List.length_take]; rfl)) ?_; (with_reducible refine (spec_CronMonthDays.calls x3_2 x5_3 t190 _ A10.out).mono ?_); rintro e w' ⟨rfl, ⟨nd, rfl⟩⟩; refine ⟨_, rfl, ?_⟩) | ((with_reducible refine gate_callee (f := 35) rfl ?_); refine goesL_ (some 34) rfl rfl Tryz.func35 (by kernel_rfl) rfl #[.int .i64 x3_2, .int .i64 x5_3] rfl (by (try simp only [List.map_toArray, List.map_cons, List.map_nil]); first | done | rfl | (simp only [List.length_drop, List.length_take]; rfl)) ?_; (with_reducible refine (spec_CronMonthDays.calls x3_2 x5_3 t191 _ A12.out).mono ?_); rintro e w' ⟨rfl, ⟨nd, rfl⟩⟩; refine ⟨_, rfl, ?_⟩))
         go_roundg k3
         case measure => have := HJ2.out; have := HK2.out; have := HK3.out; omega
         case rel => exact ⟨(wrap64 (x4_3 - t191)), (wrap64 (x5_3 + 1)), (by first | rfl | (simp; done) | (simp [*]; done)), (by first | rfl | (simp; done) | (simp [*]; done)), H', ⟨by have := HJ2.out; have := HK2.out; have := HK3.out; omega⟩, ⟨by (with_reducible repeat (first | refine blk_drewN ?_ _ | refine blk_drew ?_ | refine blk_alloc ?_ _)); exact BK185.out⟩, ⟨by repeat (first | (with_reducible first | exact HB.out | apply below_alloc | apply pw_below_drewN | apply below_drew1 | refine below_set ?_ GE185.out) | exact HB.out)⟩⟩
        ·rw [if_neg c11] at H
         have c11b0 : decide (t190 ≤ x4_3) = false := decide_eq_false c11
         clear c11
         simp only [Option.some.injEq, Prod.mk.injEq] at H
         obtain ⟨rfl, rfl, rfl⟩ := H
         go_wp2_with (first | ((with_reducible refine gate_callee (f := 35) rfl ?_); refine goesL_ (some 29) rfl rfl Tryz.func35 (by kernel_rfl) rfl #[.int .i64 x3_2, .int .i64 x5_3] rfl (by (try simp only [List.map_toArray, List.map_cons, List.map_nil]); first | done | rfl | (simp only [List.length_drop, List.length_take]; rfl)) ?_; (with_reducible refine (spec_CronMonthDays.calls x3_2 x5_3 t190 _ A10.out).mono ?_); rintro e w' ⟨rfl, ⟨nd, rfl⟩⟩; refine ⟨_, rfl, ?_⟩; (try (rw [drewN_self wr]; generalize hq_ : World.drewN wr _ = wr; have n0_ : Aside0 (wr.heap[gb185]? = some (.cells #[.int .i64 0, .int .i64 0, .int .i64 0] 83 (0, 0))) := ⟨by rw [← hq_]; exact (by (with_reducible repeat (first | refine blk_drewN ?_ _ | refine blk_drew ?_ | refine blk_alloc ?_ _)); exact BK185.out)⟩; have n1_ : Aside0 (Below w.heap.size w wr) := ⟨by rw [← hq_]; exact (by repeat (first | (with_reducible first | exact HB.out | apply below_alloc | apply pw_below_drewN | apply below_drew1 | refine below_set ?_ GE185.out) | exact HB.out))⟩; clear BK185 HB hq_; have BK185 := n0_; have HB := n1_; clear n0_ n1_)); have hcz13_0 : wr.cell? ⟨gb185, 0, none⟩ = some (.int .i64 0) := (blk_cell BK185.out 0).trans rfl; have hcz13_1 : wr.cell? ⟨gb185, 1, none⟩ = some (.int .i64 0) := (blk_cell BK185.out 1).trans rfl; have hcz13_2 : wr.cell? ⟨gb185, 2, none⟩ = some (.int .i64 0) := (blk_cell BK185.out 2).trans rfl; have hfz13_0 := blk_frozen BK185.out 0; have hfz13_1 := blk_frozen BK185.out 1; have hfz13_2 := blk_frozen BK185.out 2))
         refine bodyPost_ret (results_cell_row rfl _ _ gb185 83 #[.int .i64 x3_2, .int .i64 x5_3, .int .i64 (wrap64 (x4_3 + 1))] (0, 0) _ rfl (by (with_reducible repeat (first | refine blk_drewN ?_ _ | refine blk_drew ?_ | refine blk_alloc ?_ _)); refine blk_put (cs := #[.int .i64 x3_2, .int .i64 x5_3, .int .i64 0]) ?_ 2 _ rfl; (with_reducible repeat (first | refine blk_drewN ?_ _ | refine blk_drew ?_ | refine blk_alloc ?_ _)); refine blk_put (cs := #[.int .i64 x3_2, .int .i64 0, .int .i64 0]) ?_ 1 _ rfl; (with_reducible repeat (first | refine blk_drewN ?_ _ | refine blk_drew ?_ | refine blk_alloc ?_ _)); refine blk_put (cs := #[.int .i64 0, .int .i64 0, .int .i64 0]) ?_ 0 _ rfl; (with_reducible repeat (first | refine blk_drewN ?_ _ | refine blk_drew ?_ | refine blk_alloc ?_ _)); exact BK185.out) Tryz.underlying83 rfl (by kernel_rfl)) rfl ?_
         exact ⟨by first | rfl | (simp [errW_none, errW_some] <;> rfl) | (simp [*, errW_none, errW_some] <;> rfl), by repeat (first | (with_reducible first | exact HB.out | apply below_alloc | apply pw_below_drewN | apply below_drew1 | refine below_set ?_ GE185.out) | exact HB.out)⟩
end Go.Proofs.YtmecbmgfacpecaaGreatDoor.Pr
namespace Go.Proofs.YtmecbmgfacpecaaGreatDoor.Pr
open Go.RowKit Go.Proofs.YtmecbmgfacpecaaGreatDoorW.PrintWords Go.Proofs.YtmecbmgfacpecaaGreatDoorW.PrintLast Go.Proofs.YtmecbmgfacpecaaGreatDoorW.PrintMore
attribute [local go_sem] max2_int min2_int max_two min_two max_three min_three max_four min_four   -- for this text's walks alone
set_option linter.unusedVariables false
set_option linter.unusedSimpArgs false
def spec_floorMod.f (a0 : Int) (a1 : Int) : Option (Int) := (spec_floorDiv.f a0 a1).bind fun t194 => (some (wrap64 (a0 - (wrap64 (a1 * t194)))))
set_option maxHeartbeats 8000000 in
set_option maxRecDepth 100000 in
theorem spec_floorMod.calls (a0 : Int) (a1 : Int) (r : Int) (w : World) (h : spec_floorMod.f a0 a1 = some r) :
  Calls Tryz.prog 166 #[.int .i64 a0, .int .i64 a1] w fun e w' => e = .returned (.int .i64 r) ∧ Drawn0 w w' := by
 have H : ((spec_floorDiv.f a0 a1).bind fun t194 => (some (wrap64 (a0 - (wrap64 (a1 * t194)))))) = some r := h
 clear h
 replace H := Option.bind_eq_some_iff.mp H
 obtain ⟨t194, A30, H⟩ := H
 replace H : (some (wrap64 (a0 - (wrap64 (a1 * t194))))) = some r := H
 have A3 := Aside0.mk A30
 clear A30
 obtain rfl := Option.some.inj H
 go_enter Tryz.func166, Tryz.ntmps166
 go_wp2_with (first | ((with_reducible refine gate_callee (f := 85) rfl ?_); refine goesL_ (some 9) rfl rfl Tryz.func85 (by kernel_rfl) rfl #[.int .i64 a0, .int .i64 a1] rfl (by (try simp only [List.map_toArray, List.map_cons, List.map_nil]); first | done | rfl | (simp only [List.length_drop, List.length_take]; rfl)) ?_; (with_reducible refine (spec_floorDiv.calls a0 a1 t194 _ A3.out).mono ?_); rintro e w' ⟨rfl, ⟨nd, rfl⟩⟩; refine ⟨_, rfl, ?_⟩))
 go_ret
 exact ⟨by first | rfl | (simp; done) | (simp [*]; done), by repeat (first | exact Drawn0.refl _ | apply Drawn0.step)⟩
end Go.Proofs.YtmecbmgfacpecaaGreatDoor.Pr
namespace Go.Proofs.YtmecbmgfacpecaaGreatDoor.Pr
open Go.RowKit Go.Proofs.YtmecbmgfacpecaaGreatDoorW.PrintWords Go.Proofs.YtmecbmgfacpecaaGreatDoorW.PrintLast Go.Proofs.YtmecbmgfacpecaaGreatDoorW.PrintMore
attribute [local go_sem] max2_int min2_int max_two min_two max_three min_three max_four min_four   -- for this text's walks alone
set_option linter.unusedVariables false
set_option linter.unusedSimpArgs false
def spec_CronWeekday.f (a0 : Int) : Option (Int) := (spec_floorMod.f (wrap64 (a0 + 4)) 7).bind fun t195 => (some t195)
set_option maxHeartbeats 8000000 in
set_option maxRecDepth 100000 in
theorem spec_CronWeekday.calls (a0 : Int) (r : Int) (w : World) (h : spec_CronWeekday.f a0 = some r) :
  Calls Tryz.prog 129 #[.int .i64 a0] w fun e w' => e = .returned (.int .i64 r) ∧ Drawn0 w w' := by
 have H : ((spec_floorMod.f (wrap64 (a0 + 4)) 7).bind fun t195 => (some t195)) = some r := h
 clear h
 replace H := Option.bind_eq_some_iff.mp H
 obtain ⟨t195, A20, H⟩ := H
 replace H : (some t195) = some r := H
 have A2 := Aside0.mk A20
 clear A20
 obtain rfl := Option.some.inj H
 go_enter Tryz.func129, Tryz.ntmps129
 go_wp2_with (first | ((with_reducible refine gate_callee (f := 166) rfl ?_); refine goesL_ (some 5) rfl rfl Tryz.func166 (by kernel_rfl) rfl #[.int .i64 (wrap64 (a0 + 4)), .int .i64 7] rfl (by (try simp only [List.map_toArray, List.map_cons, List.map_nil]); first | done | rfl | (simp only [List.length_drop, List.length_take]; rfl)) ?_; (with_reducible refine (spec_floorMod.calls (wrap64 (a0 + 4)) 7 t195 _ A2.out).mono ?_); rintro e w' ⟨rfl, ⟨nd, rfl⟩⟩; refine ⟨_, rfl, ?_⟩))
 go_ret
 exact ⟨by first | rfl | (simp; done) | (simp [*]; done), by repeat (first | exact Drawn0.refl _ | apply Drawn0.step)⟩
end Go.Proofs.YtmecbmgfacpecaaGreatDoor.Pr
namespace Go.Proofs.YtmecbmgfacpecaaGreatDoor.Pr
open Go.RowKit Go.Proofs.YtmecbmgfacpecaaGreatDoorW.PrintWords Go.Proofs.YtmecbmgfacpecaaGreatDoorW.PrintLast Go.Proofs.YtmecbmgfacpecaaGreatDoorW.PrintMore
attribute [local go_sem] max2_int min2_int max_two min_two max_three min_three max_four min_four   -- for this text's walks alone
set_option linter.unusedVariables false
set_option linter.unusedSimpArgs false
def spec_CronGood.f (a0_0 : Int) (a0_1 : Int) : Option (Bool) := if (-62135596800) ≤ a0_0 then (if a0_0 ≤ 253402300799 then (if 0 ≤ a0_1 then (some (decide (a0_1 < 1000000000))) else (some false)) else (some false)) else (some false)
set_option maxHeartbeats 8000000 in
set_option maxRecDepth 100000 in
theorem spec_CronGood.calls (a0_0 : Int) (a0_1 : Int) (r : Bool) (w : World) (h : spec_CronGood.f a0_0 a0_1 = some r) :
  Calls Tryz.prog 20 #[.agg #[.int .i64 a0_0, .int .i64 a0_1]] w fun e w' => e = .returned (.bool r) ∧ Below w.heap.size w w' := by
 have hu50 := Tryz.underlying50
 have HB := Aside0.mk (Below.refl w.heap.size w)
 have H : (if (-62135596800) ≤ a0_0 then (if a0_0 ≤ 253402300799 then (if 0 ≤ a0_1 then (some (decide (a0_1 < 1000000000))) else (some false)) else (some false)) else (some false)) = some r := h
 clear h
 by_cases c2 : (-62135596800) ≤ a0_0
 ·rw [if_pos c2] at H
  have c2b0 : decide ((-62135596800) ≤ a0_0) = true := decide_eq_true c2
  clear c2
  by_cases c3 : a0_0 ≤ 253402300799
  ·rw [if_pos c3] at H
   have c3b0 : decide (a0_0 ≤ 253402300799) = true := decide_eq_true c3
   clear c3
   by_cases c4 : 0 ≤ a0_1
   ·rw [if_pos c4] at H
    have c4b0 : decide (0 ≤ a0_1) = true := decide_eq_true c4
    clear c4
    obtain rfl := Option.some.inj H
    go_enter Tryz.func20, Tryz.ntmps20
    go_wp2_with (first | ((with_reducible refine gate_dst (N := 1) rfl ?_); refine box_event ?hg (N := 1) ?hd (cs := #[.int .i64 a0_0, .int .i64 a0_1]) (t := 50) ?hr ?_; (case hd => rfl); (case hg => rfl); (case hr => first | (go_simp; done) | (go_simp; rfl)); intro gb101 hg w5 hbox hb; have n0_ := Aside0.mk (below_step (by repeat (first | (with_reducible first | exact HB.out | apply below_alloc | apply pw_below_drewN | apply below_drew1) | exact HB.out)) hb); have n1_ := Aside0.mk (hbox); have n2_ := Aside0.mk ((by rw [hg]; exact (below_size (by repeat (first | (with_reducible first | exact HB.out | apply below_alloc | apply pw_below_drewN | apply below_drew1) | exact HB.out))) : w.heap.size ≤ gb101)); have n3_ := Aside0.mk ((by rw [hg]; exact (below_size (by repeat (first | (with_reducible first | exact HB.out | apply below_alloc | apply pw_below_drewN | apply below_drew1) | exact HB.out))) : w.heap.size ≤ gb101)); clear HB; have HB := n0_; have BK101 := n1_; have GW101 := n2_; have GE101 := n3_; clear n0_ n1_ n2_ n3_; clear hb hbox hg; have hcz6_0 : w5.cell? ⟨gb101, 0, none⟩ = some (.int .i64 a0_0) := (blk_cell BK101.out 0).trans rfl; have hcz6_1 : w5.cell? ⟨gb101, 1, none⟩ = some (.int .i64 a0_1) := (blk_cell BK101.out 1).trans rfl; have hfz6_0 := blk_frozen BK101.out 0; have hfz6_1 := blk_frozen BK101.out 1))
    go_ret
    exact ⟨by first | rfl | (simp [errW_none, errW_some] <;> rfl) | (simp [*, errW_none, errW_some] <;> rfl), by repeat (first | (with_reducible first | exact HB.out | apply below_alloc | apply pw_below_drewN | apply below_drew1 | refine below_set ?_ GE101.out) | exact HB.out)⟩
   ·rw [if_neg c4] at H
    have c4b0 : decide (0 ≤ a0_1) = false := decide_eq_false c4
    clear c4
    obtain rfl := Option.some.inj H
    go_enter Tryz.func20, Tryz.ntmps20
    go_wp2_with (first | ((with_reducible refine gate_dst (N := 1) rfl ?_); refine box_event ?hg (N := 1) ?hd (cs := #[.int .i64 a0_0, .int .i64 a0_1]) (t := 50) ?hr ?_; (case hd => rfl); (case hg => rfl); (case hr => first | (go_simp; done) | (go_simp; rfl)); intro gb101 hg w7 hbox hb; have n0_ := Aside0.mk (below_step (by repeat (first | (with_reducible first | exact HB.out | apply below_alloc | apply pw_below_drewN | apply below_drew1) | exact HB.out)) hb); have n1_ := Aside0.mk (hbox); have n2_ := Aside0.mk ((by rw [hg]; exact (below_size (by repeat (first | (with_reducible first | exact HB.out | apply below_alloc | apply pw_below_drewN | apply below_drew1) | exact HB.out))) : w.heap.size ≤ gb101)); have n3_ := Aside0.mk ((by rw [hg]; exact (below_size (by repeat (first | (with_reducible first | exact HB.out | apply below_alloc | apply pw_below_drewN | apply below_drew1) | exact HB.out))) : w.heap.size ≤ gb101)); clear HB; have HB := n0_; have BK101 := n1_; have GW101 := n2_; have GE101 := n3_; clear n0_ n1_ n2_ n3_; clear hb hbox hg; have hcz8_0 : w7.cell? ⟨gb101, 0, none⟩ = some (.int .i64 a0_0) := (blk_cell BK101.out 0).trans rfl; have hcz8_1 : w7.cell? ⟨gb101, 1, none⟩ = some (.int .i64 a0_1) := (blk_cell BK101.out 1).trans rfl; have hfz8_0 := blk_frozen BK101.out 0; have hfz8_1 := blk_frozen BK101.out 1))
    go_ret
    exact ⟨by first | rfl | (simp [errW_none, errW_some] <;> rfl) | (simp [*, errW_none, errW_some] <;> rfl), by repeat (first | (with_reducible first | exact HB.out | apply below_alloc | apply pw_below_drewN | apply below_drew1 | refine below_set ?_ GE101.out) | exact HB.out)⟩
  ·rw [if_neg c3] at H
   have c3b0 : decide (a0_0 ≤ 253402300799) = false := decide_eq_false c3
   clear c3
   obtain rfl := Option.some.inj H
   go_enter Tryz.func20, Tryz.ntmps20
   go_wp2_with (first | ((with_reducible refine gate_dst (N := 1) rfl ?_); refine box_event ?hg (N := 1) ?hd (cs := #[.int .i64 a0_0, .int .i64 a0_1]) (t := 50) ?hr ?_; (case hd => rfl); (case hg => rfl); (case hr => first | (go_simp; done) | (go_simp; rfl)); intro gb101 hg w9 hbox hb; have n0_ := Aside0.mk (below_step (by repeat (first | (with_reducible first | exact HB.out | apply below_alloc | apply pw_below_drewN | apply below_drew1) | exact HB.out)) hb); have n1_ := Aside0.mk (hbox); have n2_ := Aside0.mk ((by rw [hg]; exact (below_size (by repeat (first | (with_reducible first | exact HB.out | apply below_alloc | apply pw_below_drewN | apply below_drew1) | exact HB.out))) : w.heap.size ≤ gb101)); have n3_ := Aside0.mk ((by rw [hg]; exact (below_size (by repeat (first | (with_reducible first | exact HB.out | apply below_alloc | apply pw_below_drewN | apply below_drew1) | exact HB.out))) : w.heap.size ≤ gb101)); clear HB; have HB := n0_; have BK101 := n1_; have GW101 := n2_; have GE101 := n3_; clear n0_ n1_ n2_ n3_; clear hb hbox hg; have hcz10_0 : w9.cell? ⟨gb101, 0, none⟩ = some (.int .i64 a0_0) := (blk_cell BK101.out 0).trans rfl; have hcz10_1 : w9.cell? ⟨gb101, 1, none⟩ = some (.int .i64 a0_1) := (blk_cell BK101.out 1).trans rfl; have hfz10_0 := blk_frozen BK101.out 0; have hfz10_1 := blk_frozen BK101.out 1))
   go_ret
   exact ⟨by first | rfl | (simp [errW_none, errW_some] <;> rfl) | (simp [*, errW_none, errW_some] <;> rfl), by repeat (first | (with_reducible first | exact HB.out | apply below_alloc | apply pw_below_drewN | apply below_drew1 | refine below_set ?_ GE101.out) | exact HB.out)⟩
 ·rw [if_neg c2] at H
  have c2b0 : decide ((-62135596800) ≤ a0_0) = false := decide_eq_false c2
  clear c2
  obtain rfl := Option.some.inj H
  go_enter Tryz.func20, Tryz.ntmps20
  go_wp2_with (first | ((with_reducible refine gate_dst (N := 1) rfl ?_); refine box_event ?hg (N := 1) ?hd (cs := #[.int .i64 a0_0, .int .i64 a0_1]) (t := 50) ?hr ?_; (case hd => rfl); (case hg => rfl); (case hr => first | (go_simp; done) | (go_simp; rfl)); intro gb101 hg w11 hbox hb; have n0_ := Aside0.mk (below_step (by repeat (first | (with_reducible first | exact HB.out | apply below_alloc | apply pw_below_drewN | apply below_drew1) | exact HB.out)) hb); have n1_ := Aside0.mk (hbox); have n2_ := Aside0.mk ((by rw [hg]; exact (below_size (by repeat (first | (with_reducible first | exact HB.out | apply below_alloc | apply pw_below_drewN | apply below_drew1) | exact HB.out))) : w.heap.size ≤ gb101)); have n3_ := Aside0.mk ((by rw [hg]; exact (below_size (by repeat (first | (with_reducible first | exact HB.out | apply below_alloc | apply pw_below_drewN | apply below_drew1) | exact HB.out))) : w.heap.size ≤ gb101)); clear HB; have HB := n0_; have BK101 := n1_; have GW101 := n2_; have GE101 := n3_; clear n0_ n1_ n2_ n3_; clear hb hbox hg; have hcz12_0 : w11.cell? ⟨gb101, 0, none⟩ = some (.int .i64 a0_0) := (blk_cell BK101.out 0).trans rfl; have hcz12_1 : w11.cell? ⟨gb101, 1, none⟩ = some (.int .i64 a0_1) := (blk_cell BK101.out 1).trans rfl; have hfz12_0 := blk_frozen BK101.out 0; have hfz12_1 := blk_frozen BK101.out 1))
  go_ret
  exact ⟨by first | rfl | (simp [errW_none, errW_some] <;> rfl) | (simp [*, errW_none, errW_some] <;> rfl), by repeat (first | (with_reducible first | exact HB.out | apply below_alloc | apply pw_below_drewN | apply below_drew1 | refine below_set ?_ GE101.out) | exact HB.out)⟩
end Go.Proofs.YtmecbmgfacpecaaGreatDoor.Pr
namespace Go.Proofs.YtmecbmgfacpecaaGreatDoor.Pr
open Go.RowKit Go.Proofs.YtmecbmgfacpecaaGreatDoorW.PrintWords Go.Proofs.YtmecbmgfacpecaaGreatDoorW.PrintLast Go.Proofs.YtmecbmgfacpecaaGreatDoorW.PrintMore
attribute [local go_sem] max2_int min2_int max_two min_two max_three min_three max_four min_four   -- for this text's walks alone
set_option linter.unusedVariables false
set_option linter.unusedSimpArgs false
def cron_zzIndex.l0 : Nat → ByteArray → ByteArray → Int → Option (Int)
 | 0, _, _, _ => none
 | k + 1, x0, x1, x5 => if (wrap64 (x5 + (x1.size : Int))) ≤ (x0.size : Int) then (if 0 ≤ x5 then (if x5 ≤ (wrap64 (x5 + (x1.size : Int))) then (if (x0.extract (x5 : Int).toNat ((wrap64 (x5 + (x1.size : Int))) : Int).toNat).toList = x1.toList then (some x5) else (cron_zzIndex.l0 k x0 x1 (wrap64 (x5 + 1)))) else (none)) else (none)) else (some (-1))
def cron_zzIndex.f (k : Nat) (a0 : ByteArray) (a1 : ByteArray) : Option (Int) := cron_zzIndex.l0 k a0 a1 0
theorem cron_zzIndex.mono_l : ∀ k, (∀ y0 y1 y2, LeO (cron_zzIndex.l0 k y0 y1 y2) (cron_zzIndex.l0 (k + 1) y0 y1 y2))
 | 0 => fun _ _ _ r h => by simp [cron_zzIndex.l0] at h
 | k + 1 => by
  have ih0 := cron_zzIndex.mono_l k
  ·intro y0 y1 y2
   unfold cron_zzIndex.l0
   repeat' first
   | (with_reducible exact ih0 _ _ _)
   | (with_reducible exact LeO.refl _)
   | (with_reducible exact LeO.none _)
   | (with_reducible refine LeO.ite ?_ ?_)
   | (with_reducible refine LeO.bind ?_ (fun _ => ?_))
   | exact ih0 _ _ _
   | exact LeO.none _
   | refine LeO.ite ?_ ?_
   | refine LeO.bind ?_ (fun _ => ?_)
theorem cron_zzIndex.mono : ∀ a0 a1 k, LeO (cron_zzIndex.f k a0 a1) (cron_zzIndex.f (k + 1) a0 a1) := by
 intro a0 a1 k
 have ih0 := cron_zzIndex.mono_l k
 unfold cron_zzIndex.f
 repeat' first
   | (with_reducible exact ih0 _ _ _)
   | (with_reducible exact LeO.refl _)
   | (with_reducible exact LeO.none _)
   | (with_reducible refine LeO.ite ?_ ?_)
   | (with_reducible refine LeO.bind ?_ (fun _ => ?_))
   | exact ih0 _ _ _
   | exact LeO.none _
   | refine LeO.ite ?_ ?_
   | refine LeO.bind ?_ (fun _ => ?_)
set_option maxHeartbeats 8000000 in
set_option maxRecDepth 100000 in
theorem cron_zzIndex.calls (k : Nat) (a0 : ByteArray) (a1 : ByteArray) (r : Int) (w : World) (h : cron_zzIndex.f k a0 a1 = some r) :
  Calls Tryz.prog 98 #[.string a0, .string a1] w fun e w' => e = .returned (.int .i64 r) ∧ Drawn0 w w' := by
 have H : (cron_zzIndex.l0 k a0 a1 0) = some r := h
 clear h
 have H' := Aside0.mk H
 clear H
 go_enter Tryz.func98, Tryz.ntmps98
 go_wp2
 go_loopg [5] k (fun kq v5 w' => ∃ (x5_1 : Int), v5 = .int .i64 x5_1 ∧ Aside0 (cron_zzIndex.l0 kq a0 a1 x5_1 = some r) ∧ Aside0 (kq ≤ k) ∧ Drawn0 w w')
 case atStart => exact ⟨(0), (by first | rfl | (simp; done) | (simp [*]; done)), H', ⟨Nat.le_refl _⟩, by repeat (first | exact Drawn0.refl _ | apply Drawn0.step)⟩
 case round =>
  clear H'
  try clear p2
  obtain ⟨x5_1, rfl, HA, HK1, ⟨m1, rfl⟩⟩ := hrel
  cases gk with
  | zero => exact absurd HA.out (by simp [cron_zzIndex.l0])
  | succ k1 =>
   have H := HA.out
   clear HA
   simp only [cron_zzIndex.l0] at H
   by_cases c3 : (wrap64 (x5_1 + (a1.size : Int))) ≤ (a0.size : Int)
   ·rw [if_pos c3] at H
    have c3b0 : decide ((wrap64 (x5_1 + (a1.size : Int))) ≤ (a0.size : Int)) = true := decide_eq_true c3
    clear c3
    by_cases c4 : 0 ≤ x5_1
    ·rw [if_pos c4] at H
     have c4b0 := eq_true c4
     have c4b1 : decide (0 ≤ x5_1) = true := decide_eq_true c4
     clear c4
     by_cases c5 : x5_1 ≤ (wrap64 (x5_1 + (a1.size : Int)))
     ·rw [if_pos c5] at H
      have c5b0 := eq_true c5
      have c5b1 : decide (x5_1 ≤ (wrap64 (x5_1 + (a1.size : Int)))) = true := decide_eq_true c5
      have c6b0 := eq_true (of_decide_eq_true (by first | (with_reducible assumption) | assumption) : (wrap64 (x5_1 + (a1.size : Int))) ≤ (a0.size : Int))
      by_cases c7 : (a0.extract (x5_1 : Int).toNat ((wrap64 (x5_1 + (a1.size : Int))) : Int).toNat).toList = a1.toList
      ·rw [if_pos c7] at H
       have c7b0 : ((a0.extract (x5_1 : Int).toNat ((wrap64 (x5_1 + (a1.size : Int))) : Int).toNat).toList == a1.toList) = true := beq_iff_eq.mpr c7
       have c7b1 : ((a0.extract (x5_1 : Int).toNat ((wrap64 (x5_1 + (a1.size : Int))) : Int).toNat).toList != a1.toList) = false := bne_eq_false_iff_eq.mpr c7
       clear c7
       obtain rfl := Option.some.inj H
       go_wp2
       go_ret
       exact ⟨by first | rfl | (simp; done) | (simp [*]; done), by repeat (first | exact Drawn0.refl _ | apply Drawn0.step)⟩
      ·rw [if_neg c7] at H
       have c7b0 : ((a0.extract (x5_1 : Int).toNat ((wrap64 (x5_1 + (a1.size : Int))) : Int).toNat).toList == a1.toList) = false := beq_eq_false_iff_ne.mpr c7
       have c7b1 : ((a0.extract (x5_1 : Int).toNat ((wrap64 (x5_1 + (a1.size : Int))) : Int).toNat).toList != a1.toList) = true := bne_iff_ne.mpr c7
       have H' := Aside0.mk H
       clear H
       go_wp2
       go_roundg k1
       case measure => have := HK1.out; omega
       case rel => exact ⟨(wrap64 (x5_1 + 1)), (by first | rfl | (simp; done) | (simp [*]; done)), H', ⟨by have := HK1.out; omega⟩, by repeat (first | exact Drawn0.refl _ | apply Drawn0.step)⟩
     ·rw [if_neg c5] at H
      exact absurd H (by simp)
    ·rw [if_neg c4] at H
     exact absurd H (by simp)
   ·rw [if_neg c3] at H
    have c3b0 : decide ((wrap64 (x5_1 + (a1.size : Int))) ≤ (a0.size : Int)) = false := decide_eq_false c3
    clear c3
    obtain rfl := Option.some.inj H
    go_wp2
    go_ret
    exact ⟨by first | rfl | (simp; done) | (simp [*]; done), by repeat (first | exact Drawn0.refl _ | apply Drawn0.step)⟩
end Go.Proofs.YtmecbmgfacpecaaGreatDoor.Pr
namespace Go.Proofs.YtmecbmgfacpecaaGreatDoor.Pr
open Go.RowKit Go.Proofs.YtmecbmgfacpecaaGreatDoorW.PrintWords Go.Proofs.YtmecbmgfacpecaaGreatDoorW.PrintLast Go.Proofs.YtmecbmgfacpecaaGreatDoorW.PrintMore
attribute [local go_sem] max2_int min2_int max_two min_two max_three min_three max_four min_four   -- for this text's walks alone
set_option linter.unusedVariables false
set_option linter.unusedSimpArgs false
def spec_cronPieces.l0 : Nat → ByteArray → Int → List ByteArray → Int → Int → Int → Option (List ByteArray)
 | 0, _, _, _, _, _, _ => none
 | k + 1, x0, x1, x5, x6, x9, x10 => if x10 < x9 then (if 0 ≤ x10 then (if x10 < (x0.size : Int) then (if (bt x0 x10) = x1 then (if 0 ≤ x6 then (if x6 ≤ x10 then (if x10 ≤ (x0.size : Int) then (if x5.length < 8796093022208 then (spec_cronPieces.l0 k x0 x1 (x5 ++ [x0.extract (x6 : Int).toNat (x10 : Int).toNat]) (wrap64 (x10 + 1)) x9 (wrap64 (x10 + 1))) else (none)) else (none)) else (none)) else (none)) else (spec_cronPieces.l0 k x0 x1 x5 x6 x9 (wrap64 (x10 + 1)))) else (none)) else (none)) else (if 0 ≤ x6 then (if x6 ≤ (x0.size : Int) then (if x5.length < 8796093022208 then (some (x5 ++ [x0.extract (x6 : Int).toNat x0.size])) else (none)) else (none)) else (none))
def spec_cronPieces.f (k : Nat) (a0 : ByteArray) (a1 : Int) : Option (List ByteArray) := spec_cronPieces.l0 k a0 a1 ([] : List ByteArray) 0 (a0.size : Int) 0
theorem spec_cronPieces.mono_l : ∀ k, (∀ y0 y1 y2 y3 y4 y5, LeO (spec_cronPieces.l0 k y0 y1 y2 y3 y4 y5) (spec_cronPieces.l0 (k + 1) y0 y1 y2 y3 y4 y5))
 | 0 => fun _ _ _ _ _ _ r h => by simp [spec_cronPieces.l0] at h
 | k + 1 => by
  have ih0 := spec_cronPieces.mono_l k
  ·intro y0 y1 y2 y3 y4 y5
   unfold spec_cronPieces.l0
   repeat' first
   | (with_reducible exact ih0 _ _ _ _ _ _)
   | (with_reducible exact LeO.refl _)
   | (with_reducible exact LeO.none _)
   | (with_reducible refine LeO.ite ?_ ?_)
   | (with_reducible refine LeO.bind ?_ (fun _ => ?_))
   | exact ih0 _ _ _ _ _ _
   | exact LeO.none _
   | refine LeO.ite ?_ ?_
   | refine LeO.bind ?_ (fun _ => ?_)
theorem spec_cronPieces.mono : ∀ a0 a1 k, LeO (spec_cronPieces.f k a0 a1) (spec_cronPieces.f (k + 1) a0 a1) := by
 intro a0 a1 k
 have ih0 := spec_cronPieces.mono_l k
 unfold spec_cronPieces.f
 repeat' first
   | (with_reducible exact ih0 _ _ _ _ _ _)
   | (with_reducible exact LeO.refl _)
   | (with_reducible exact LeO.none _)
   | (with_reducible refine LeO.ite ?_ ?_)
   | (with_reducible refine LeO.bind ?_ (fun _ => ?_))
   | exact ih0 _ _ _ _ _ _
   | exact LeO.none _
   | refine LeO.ite ?_ ?_
   | refine LeO.bind ?_ (fun _ => ?_)
set_option maxHeartbeats 8000000 in
set_option maxRecDepth 100000 in
theorem spec_cronPieces.calls (k : Nat) (a0 : ByteArray) (a1 : Int) (r : List ByteArray) (w : World) (h : spec_cronPieces.f k a0 a1 = some r) :
  Calls Tryz.prog 56 #[.string a0, .int .u8 a1] w fun e w' => ∃ v0_ : Value, e = .returned (v0_) ∧ Kd.R Kd.string 9 w' w.heap.size (fun _ => True) v0_ r ∧ Below w.heap.size w w' := by
 have HB := Aside0.mk (Below.refl w.heap.size w)
 have H : (spec_cronPieces.l0 k a0 a1 ([] : List ByteArray) 0 (a0.size : Int) 0) = some r := h
 clear h
 have H' := Aside0.mk H
 clear H
 go_enter Tryz.func56, Tryz.ntmps56
 go_wp2
 go_loopg [5, 6, 10] k (fun kq v5 v6 v10 w' => ∃ (x5_1 : List ByteArray) (x6_1 : Int) (x10_1 : Int), v6 = .int .i64 x6_1 ∧ v10 = .int .i64 x10_1 ∧ Aside0 (spec_cronPieces.l0 kq a0 a1 x5_1 x6_1 (a0.size : Int) x10_1 = some r) ∧ Aside0 (kq ≤ k) ∧ Aside0 (Kd.R Kd.string 9 w' w.heap.size (fun _ => True) v5 x5_1) ∧ Aside0 (Below w.heap.size w w'))
 case atStart => exact ⟨(([] : List ByteArray)), (0), (0), (by first | rfl | (simp; done) | (simp [*]; done)), (by first | rfl | (simp; done) | (simp [*]; done)), H', ⟨Nat.le_refl _⟩, ⟨by first | exact Kd.R_nil _ _ _ _ _ | exact Kd.N_nil _ _ _ _ _ | exact Kd.V_nil _ _ _ _ _ | exact Kd.Q_nil _ _ _ _ _ | exact Kd.S_nil _ _ _ _ _⟩, ⟨by repeat (first | (with_reducible first | exact HB.out | apply below_alloc | apply pw_below_drewN | apply below_drew1) | exact HB.out)⟩⟩
 case round =>
  clear H'
  try clear p2
  obtain ⟨x5_1, x6_1, x10_1, rfl, rfl, HA, HK1, HO_5, HB⟩ := hrel
  cases gk with
  | zero => exact absurd HA.out (by simp [spec_cronPieces.l0])
  | succ k1 =>
   have H := HA.out
   clear HA
   simp only [spec_cronPieces.l0] at H
   by_cases c3 : x10_1 < (a0.size : Int)
   ·rw [if_pos c3] at H
    have c3b0 : decide (x10_1 < (a0.size : Int)) = true := decide_eq_true c3
    clear c3
    by_cases c4 : 0 ≤ x10_1
    ·rw [if_pos c4] at H
     have c4b0 : decide (0 ≤ x10_1) = true := decide_eq_true c4
     clear c4
     by_cases c5 : x10_1 < (a0.size : Int)
     ·rw [if_pos c5] at H
      have c5b0 : decide (x10_1 < (a0.size : Int)) = true := decide_eq_true c5
      clear c5
      by_cases c7 : (bt a0 x10_1) = a1
      ·rw [if_pos c7] at H
       have c7b0 : ((bt a0 x10_1) == a1) = true := beq_iff_eq.mpr c7
       have c7b1 : ((bt a0 x10_1) != a1) = false := bne_eq_false_iff_eq.mpr c7
       clear c7
       by_cases c8 : 0 ≤ x6_1
       ·rw [if_pos c8] at H
        have c8b0 := eq_true c8
        have c8b1 : decide (0 ≤ x6_1) = true := decide_eq_true c8
        clear c8
        by_cases c9 : x6_1 ≤ x10_1
        ·rw [if_pos c9] at H
         have c9b0 := eq_true c9
         have c9b1 : decide (x6_1 ≤ x10_1) = true := decide_eq_true c9
         clear c9
         by_cases c10 : x10_1 ≤ (a0.size : Int)
         ·rw [if_pos c10] at H
          have c10b0 := eq_true c10
          have c10b1 : decide (x10_1 ≤ (a0.size : Int)) = true := decide_eq_true c10
          clear c10
          by_cases c11 : x5_1.length < 8796093022208
          ·rw [if_pos c11] at H
           have LMc11 := Aside0.mk c11
           clear c11
           obtain ⟨y122, hy122⟩ : ∃ y_ : List ByteArray, y_ = (x5_1 ++ [a0.extract (x6_1 : Int).toNat (x10_1 : Int).toNat]) := ⟨_, rfl⟩
           replace H : (spec_cronPieces.l0 k1 a0 a1 y122 (wrap64 (x10_1 + 1)) (a0.size : Int) (wrap64 (x10_1 + 1))) = some r := by first | (rw [hy122]; with_reducible exact H) | (have H2_ := (Option.bind_some _ _).symm.trans H; rw [hy122]; with_reducible exact H2_) | (have H2_ := (Option.bind_some _ _).symm.trans H; with_reducible exact H2_) | with_reducible exact H | (rw [hy122]; exact H) | exact H
           have Ny122 := Aside0.mk hy122
           clear hy122
           have H' := Aside0.mk H
           clear H
           have p6 : 0 ≤ (x10_1 : Int) := of_decide_eq_true (by first | (with_reducible assumption) | assumption)
           have q6 : x10_1 < (a0.size : Int) := of_decide_eq_true (by first | (with_reducible assumption) | assumption)
           have hx6 := bt_at a0 x10_1
           replace p6 := eq_true p6
           replace q6 := eq_true q6
           go_wp2_with (first | ((with_reducible refine gate_builtin (b := .append) (xs := #[.tmp 18, .tmp 23]) rfl ?_); at_builtin; refine Kd.R_append Kd.string (w0 := w) w.heap.size rfl (.tmp 18) (.tmp 23) 33 9 (.string ⟨#[]⟩) 16 rfl Tryz.underlying33 info9 rfl (by decide) (by omega) u5 x5_1 (a0.extract (x6_1 : Int).toNat (x10_1 : Int).toNat) [.string (a0.extract (x6_1 : Int).toNat (x10_1 : Int).toNat)] (fun _ => True) (fun _ => False) rfl rfl ?aP (fun _ hk => hk.elim) ?aF ?aO ?aB ?aS ?aL ?_; (case aP => exact rfl); (case aB => exact (by repeat (first | (with_reducible first | exact HB.out | apply below_alloc | apply pw_below_drewN | apply below_drew1) | exact HB.out))); (case aF => exact (fun _ _ => trivial)); (case aO => exact (by (with_reducible repeat (first | apply Kd.R_alloc | apply Kd.R_drewN | apply Kd.R_drew)); exact HO_5.out)); (case aS => exact (below_size (by repeat (first | (with_reducible first | exact HB.out | apply below_alloc | apply pw_below_drewN | apply below_drew1) | exact HB.out)))); (case aL => have := LMc11.out; omega); intro v123 w12 ho hb hg hat; rw [← Ny122.out] at ho; have n0_ := Aside0.mk (hb); have n1_ := Aside0.mk (ho); clear HB; clear HO_5; have HB := n0_; have HO124 := n1_; clear n0_ n1_; clear ho hb hg hat))
           go_roundg k1
           case measure => have := HK1.out; omega
           case rel => exact ⟨(y122), (wrap64 (x10_1 + 1)), (wrap64 (x10_1 + 1)), (by first | rfl | (simp; done) | (simp [*]; done)), (by first | rfl | (simp; done) | (simp [*]; done)), H', ⟨by have := HK1.out; omega⟩, ⟨by (with_reducible repeat (first | apply Kd.R_alloc | apply Kd.R_drewN | apply Kd.R_drew)); exact HO124.out⟩, ⟨by repeat (first | (with_reducible first | exact HB.out | apply below_alloc | apply pw_below_drewN | apply below_drew1) | exact HB.out)⟩⟩
          ·rw [if_neg c11] at H
           exact absurd H (by simp)
         ·rw [if_neg c10] at H
          exact absurd H (by simp)
        ·rw [if_neg c9] at H
         exact absurd H (by simp)
       ·rw [if_neg c8] at H
        exact absurd H (by simp)
      ·rw [if_neg c7] at H
       have c7b0 : ((bt a0 x10_1) == a1) = false := beq_eq_false_iff_ne.mpr c7
       have c7b1 : ((bt a0 x10_1) != a1) = true := bne_iff_ne.mpr c7
       have H' := Aside0.mk H
       clear H
       have p6 : 0 ≤ (x10_1 : Int) := of_decide_eq_true (by first | (with_reducible assumption) | assumption)
       have q6 : x10_1 < (a0.size : Int) := of_decide_eq_true (by first | (with_reducible assumption) | assumption)
       have hx6 := bt_at a0 x10_1
       replace p6 := eq_true p6
       replace q6 := eq_true q6
       go_wp2
       go_roundg k1
       case measure => have := HK1.out; omega
       case rel => exact ⟨(x5_1), (x6_1), (wrap64 (x10_1 + 1)), (by first | rfl | (simp; done) | (simp [*]; done)), (by first | rfl | (simp; done) | (simp [*]; done)), H', ⟨by have := HK1.out; omega⟩, ⟨by (with_reducible repeat (first | apply Kd.R_alloc | apply Kd.R_drewN | apply Kd.R_drew)); exact HO_5.out⟩, ⟨by repeat (first | (with_reducible first | exact HB.out | apply below_alloc | apply pw_below_drewN | apply below_drew1) | exact HB.out)⟩⟩
     ·rw [if_neg c5] at H
      exact absurd H (by simp)
    ·rw [if_neg c4] at H
     exact absurd H (by simp)
   ·rw [if_neg c3] at H
    have c3b0 : decide (x10_1 < (a0.size : Int)) = false := decide_eq_false c3
    clear c3
    by_cases c13 : 0 ≤ x6_1
    ·rw [if_pos c13] at H
     have c13b0 := eq_true c13
     have c13b1 : decide (0 ≤ x6_1) = true := decide_eq_true c13
     clear c13
     by_cases c14 : x6_1 ≤ (a0.size : Int)
     ·rw [if_pos c14] at H
      have c14b0 := eq_true c14
      have c14b1 : decide (x6_1 ≤ (a0.size : Int)) = true := decide_eq_true c14
      clear c14
      by_cases c15 : x5_1.length < 8796093022208
      ·rw [if_pos c15] at H
       have LMc15 := Aside0.mk c15
       clear c15
       obtain ⟨y125, hy125⟩ : ∃ y_ : List ByteArray, y_ = (x5_1 ++ [a0.extract (x6_1 : Int).toNat a0.size]) := ⟨_, rfl⟩
       replace H : (some y125) = some r := by first | (rw [hy125]; with_reducible exact H) | (have H2_ := (Option.bind_some _ _).symm.trans H; rw [hy125]; with_reducible exact H2_) | (have H2_ := (Option.bind_some _ _).symm.trans H; with_reducible exact H2_) | with_reducible exact H | (rw [hy125]; exact H) | exact H
       have Ny125 := Aside0.mk hy125
       clear hy125
       obtain rfl := Option.some.inj H
       go_wp2_with (first | ((with_reducible refine gate_builtin (b := .append) (xs := #[.tmp 28, .tmp 32]) rfl ?_); at_builtin; refine Kd.R_append Kd.string (w0 := w) w.heap.size rfl (.tmp 28) (.tmp 32) 33 9 (.string ⟨#[]⟩) 16 rfl Tryz.underlying33 info9 rfl (by decide) (by omega) u5 x5_1 (a0.extract (x6_1 : Int).toNat a0.size) [.string (a0.extract (x6_1 : Int).toNat a0.size)] (fun _ => True) (fun _ => False) rfl rfl ?aP (fun _ hk => hk.elim) ?aF ?aO ?aB ?aS ?aL ?_; (case aP => exact rfl); (case aB => exact (by repeat (first | (with_reducible first | exact HB.out | apply below_alloc | apply pw_below_drewN | apply below_drew1) | exact HB.out))); (case aF => exact (fun _ _ => trivial)); (case aO => exact (by (with_reducible repeat (first | apply Kd.R_alloc | apply Kd.R_drewN | apply Kd.R_drew)); exact HO_5.out)); (case aS => exact (below_size (by repeat (first | (with_reducible first | exact HB.out | apply below_alloc | apply pw_below_drewN | apply below_drew1) | exact HB.out)))); (case aL => have := LMc15.out; omega); intro v126 w16 ho hb hg hat; rw [← Ny125.out] at ho; have n0_ := Aside0.mk (hb); have n1_ := Aside0.mk (ho); clear HB; clear HO_5; have HB := n0_; have HO127 := n1_; clear n0_ n1_; clear ho hb hg hat))
       go_ret
       exact ⟨_, by first | rfl | (simp [errW_none, errW_some] <;> rfl) | (simp [*, errW_none, errW_some] <;> rfl), by (with_reducible repeat (first | apply Kd.R_alloc | apply Kd.R_drewN | apply Kd.R_drew)); exact HO127.out, by repeat (first | (with_reducible first | exact HB.out | apply below_alloc | apply pw_below_drewN | apply below_drew1) | exact HB.out)⟩
      ·rw [if_neg c15] at H
       exact absurd H (by simp)
     ·rw [if_neg c14] at H
      exact absurd H (by simp)
    ·rw [if_neg c13] at H
     exact absurd H (by simp)
end Go.Proofs.YtmecbmgfacpecaaGreatDoor.Pr
namespace Go.Proofs.YtmecbmgfacpecaaGreatDoor.Pr
open Go.RowKit Go.Proofs.YtmecbmgfacpecaaGreatDoorW.PrintWords Go.Proofs.YtmecbmgfacpecaaGreatDoorW.PrintLast Go.Proofs.YtmecbmgfacpecaaGreatDoorW.PrintMore
attribute [local go_sem] max2_int min2_int max_two min_two max_three min_three max_four min_four   -- for this text's walks alone
set_option linter.unusedVariables false
set_option linter.unusedSimpArgs false
def spec_cronZeros.l0 : Nat → ByteArray → Int → Int → Option (Bool)
 | 0, _, _, _ => none
 | k + 1, x0, x5, x6 => if x6 < x5 then (if 0 ≤ x6 then (if x6 < (x0.size : Int) then (if (bt x0 x6) = 48 then (spec_cronZeros.l0 k x0 x5 (wrap64 (x6 + 1))) else (some false)) else (none)) else (none)) else (some true)
def spec_cronZeros.f (k : Nat) (a0 : ByteArray) : Option (Bool) := spec_cronZeros.l0 k a0 (a0.size : Int) 0
theorem spec_cronZeros.mono_l : ∀ k, (∀ y0 y1 y2, LeO (spec_cronZeros.l0 k y0 y1 y2) (spec_cronZeros.l0 (k + 1) y0 y1 y2))
 | 0 => fun _ _ _ r h => by simp [spec_cronZeros.l0] at h
 | k + 1 => by
  have ih0 := spec_cronZeros.mono_l k
  ·intro y0 y1 y2
   unfold spec_cronZeros.l0
   repeat' first
   | (with_reducible exact ih0 _ _ _)
   | (with_reducible exact LeO.refl _)
   | (with_reducible exact LeO.none _)
   | (with_reducible refine LeO.ite ?_ ?_)
   | (with_reducible refine LeO.bind ?_ (fun _ => ?_))
   | exact ih0 _ _ _
   | exact LeO.none _
   | refine LeO.ite ?_ ?_
   | refine LeO.bind ?_ (fun _ => ?_)
theorem spec_cronZeros.mono : ∀ a0 k, LeO (spec_cronZeros.f k a0) (spec_cronZeros.f (k + 1) a0) := by
 intro a0 k
 have ih0 := spec_cronZeros.mono_l k
 unfold spec_cronZeros.f
 repeat' first
   | (with_reducible exact ih0 _ _ _)
   | (with_reducible exact LeO.refl _)
   | (with_reducible exact LeO.none _)
   | (with_reducible refine LeO.ite ?_ ?_)
   | (with_reducible refine LeO.bind ?_ (fun _ => ?_))
   | exact ih0 _ _ _
   | exact LeO.none _
   | refine LeO.ite ?_ ?_
   | refine LeO.bind ?_ (fun _ => ?_)
set_option maxHeartbeats 8000000 in
set_option maxRecDepth 100000 in
theorem spec_cronZeros.calls (k : Nat) (a0 : ByteArray) (r : Bool) (w : World) (h : spec_cronZeros.f k a0 = some r) :
  Calls Tryz.prog 192 #[.string a0] w fun e w' => e = .returned (.bool r) ∧ Drawn0 w w' := by
 have H : (spec_cronZeros.l0 k a0 (a0.size : Int) 0) = some r := h
 clear h
 have H' := Aside0.mk H
 clear H
 go_enter Tryz.func192, Tryz.ntmps192
 go_wp2
 go_loopg [6] k (fun kq v6 w' => ∃ (x6_1 : Int), v6 = .int .i64 x6_1 ∧ Aside0 (spec_cronZeros.l0 kq a0 (a0.size : Int) x6_1 = some r) ∧ Aside0 (kq ≤ k) ∧ Drawn0 w w')
 case atStart => exact ⟨(0), (by first | rfl | (simp; done) | (simp [*]; done)), H', ⟨Nat.le_refl _⟩, by repeat (first | exact Drawn0.refl _ | apply Drawn0.step)⟩
 case round =>
  clear H'
  try clear c1
  obtain ⟨x6_1, rfl, HA, HK1, ⟨m1, rfl⟩⟩ := hrel
  cases gk with
  | zero => exact absurd HA.out (by simp [spec_cronZeros.l0])
  | succ k1 =>
   have H := HA.out
   clear HA
   simp only [spec_cronZeros.l0] at H
   by_cases c2 : x6_1 < (a0.size : Int)
   ·rw [if_pos c2] at H
    have c2b0 : decide (x6_1 < (a0.size : Int)) = true := decide_eq_true c2
    clear c2
    by_cases c3 : 0 ≤ x6_1
    ·rw [if_pos c3] at H
     have c3b0 : decide (0 ≤ x6_1) = true := decide_eq_true c3
     clear c3
     by_cases c4 : x6_1 < (a0.size : Int)
     ·rw [if_pos c4] at H
      have c4b0 : decide (x6_1 < (a0.size : Int)) = true := decide_eq_true c4
      clear c4
      by_cases c6 : (bt a0 x6_1) = 48
      ·rw [if_pos c6] at H
       have c6b0 : ((bt a0 x6_1) == 48) = true := beq_iff_eq.mpr c6
       have c6b1 : ((bt a0 x6_1) != 48) = false := bne_eq_false_iff_eq.mpr c6
       clear c6
       have H' := Aside0.mk H
       clear H
       have p5 : 0 ≤ (x6_1 : Int) := of_decide_eq_true (by first | (with_reducible assumption) | assumption)
       have q5 : x6_1 < (a0.size : Int) := of_decide_eq_true (by first | (with_reducible assumption) | assumption)
       have hx5 := bt_at a0 x6_1
       replace p5 := eq_true p5
       replace q5 := eq_true q5
       go_wp2
       go_roundg k1
       case measure => have := HK1.out; omega
       case rel => exact ⟨(wrap64 (x6_1 + 1)), (by first | rfl | (simp; done) | (simp [*]; done)), H', ⟨by have := HK1.out; omega⟩, by repeat (first | exact Drawn0.refl _ | apply Drawn0.step)⟩
      ·rw [if_neg c6] at H
       have c6b0 : ((bt a0 x6_1) == 48) = false := beq_eq_false_iff_ne.mpr c6
       have c6b1 : ((bt a0 x6_1) != 48) = true := bne_iff_ne.mpr c6
       obtain rfl := Option.some.inj H
       have p5 : 0 ≤ (x6_1 : Int) := of_decide_eq_true (by first | (with_reducible assumption) | assumption)
       have q5 : x6_1 < (a0.size : Int) := of_decide_eq_true (by first | (with_reducible assumption) | assumption)
       have hx5 := bt_at a0 x6_1
       replace p5 := eq_true p5
       replace q5 := eq_true q5
       go_wp2
       go_ret
       exact ⟨by first | rfl | (simp; done) | (simp [*]; done), by repeat (first | exact Drawn0.refl _ | apply Drawn0.step)⟩
     ·rw [if_neg c4] at H
      exact absurd H (by simp)
    ·rw [if_neg c3] at H
     exact absurd H (by simp)
   ·rw [if_neg c2] at H
    have c2b0 : decide (x6_1 < (a0.size : Int)) = false := decide_eq_false c2
    clear c2
    obtain rfl := Option.some.inj H
    go_wp2
    go_ret
    exact ⟨by first | rfl | (simp; done) | (simp [*]; done), by repeat (first | exact Drawn0.refl _ | apply Drawn0.step)⟩
end Go.Proofs.YtmecbmgfacpecaaGreatDoor.Pr
namespace Go.Proofs.YtmecbmgfacpecaaGreatDoor.Pr
open Go.RowKit Go.Proofs.YtmecbmgfacpecaaGreatDoorW.PrintWords Go.Proofs.YtmecbmgfacpecaaGreatDoorW.PrintLast Go.Proofs.YtmecbmgfacpecaaGreatDoorW.PrintMore
attribute [local go_sem] max2_int min2_int max_two min_two max_three min_three max_four min_four   -- for this text's walks alone
set_option linter.unusedVariables false
set_option linter.unusedSimpArgs false
def spec_isDigit.f (a0 : Int) : Option (Bool) := if 48 ≤ a0 then (some (decide (a0 ≤ 57))) else (some false)
set_option maxHeartbeats 8000000 in
set_option maxRecDepth 100000 in
theorem spec_isDigit.calls (a0 : Int) (r : Bool) (w : World) (h : spec_isDigit.f a0 = some r) :
  Calls Tryz.prog 193 #[.int .u8 a0] w fun e w' => e = .returned (.bool r) ∧ Drawn0 w w' := by
 have H : (if 48 ≤ a0 then (some (decide (a0 ≤ 57))) else (some false)) = some r := h
 clear h
 by_cases c2 : 48 ≤ a0
 ·rw [if_pos c2] at H
  have c2b0 : decide (48 ≤ a0) = true := decide_eq_true c2
  clear c2
  obtain rfl := Option.some.inj H
  go_enter Tryz.func193, Tryz.ntmps193
  go_wp2
  go_ret
  exact ⟨by first | rfl | (simp; done) | (simp [*]; done), by repeat (first | exact Drawn0.refl _ | apply Drawn0.step)⟩
 ·rw [if_neg c2] at H
  have c2b0 : decide (48 ≤ a0) = false := decide_eq_false c2
  clear c2
  obtain rfl := Option.some.inj H
  go_enter Tryz.func193, Tryz.ntmps193
  go_wp2
  go_ret
  exact ⟨by first | rfl | (simp; done) | (simp [*]; done), by repeat (first | exact Drawn0.refl _ | apply Drawn0.step)⟩
end Go.Proofs.YtmecbmgfacpecaaGreatDoor.Pr
namespace Go.Proofs.YtmecbmgfacpecaaGreatDoor.Pr
open Go.RowKit Go.Proofs.YtmecbmgfacpecaaGreatDoorW.PrintWords Go.Proofs.YtmecbmgfacpecaaGreatDoorW.PrintLast Go.Proofs.YtmecbmgfacpecaaGreatDoorW.PrintMore
attribute [local go_sem] max2_int min2_int max_two min_two max_three min_three max_four min_four   -- for this text's walks alone
set_option linter.unusedVariables false
set_option linter.unusedSimpArgs false
mutual
def spec_CronNumber.j0 : Nat → ByteArray → Int → Bool → Option (Int × Int)
 | 0, _, _, _ => none
 | k + 1, x0, x4, x24 => if x24 = true then (if 1 ≤ (x0.size : Int) then (spec_CronNumber.j1 k (x0.extract 1 x0.size) 2) else (none)) else (spec_CronNumber.j1 k x0 x4)
def spec_CronNumber.j1 : Nat → ByteArray → Int → Option (Int × Int)
 | 0, _, _ => none
 | k + 1, x0, x4 => if x0.toList = ([] : List UInt8) then (some (0, 0)) else (spec_CronNumber.l0 k x0 x4 0 (x0.size : Int) 0)
def spec_CronNumber.l0 : Nat → ByteArray → Int → Int → Int → Int → Option (Int × Int)
 | 0, _, _, _, _, _ => none
 | k + 1, x0, x4, x5, x30, x31 => if x31 < x30 then (if 0 ≤ x31 then (if x31 < (x0.size : Int) then ((spec_isDigit.f (bt x0 x31)).bind fun t129 => (if t129 = true then (spec_CronNumber.l0 k x0 x4 (mn (wrap64 ((wrap64 (10 * x5)) + (((bt x0 x31) - 48) % 256))) 1099511627776) x30 (wrap64 (x31 + 1))) else (some (0, 0)))) else (none)) else (none)) else (some (x5, x4))
end
def spec_CronNumber.f (k : Nat) (a0 : ByteArray) : Option (Int × Int) := if (a0.size : Int) > 0 then (if 0 < (a0.size : Int) then (if (bt a0 0) = 43 then (spec_CronNumber.j0 k a0 1 true) else (if (bt a0 0) = 45 then (if 1 ≤ (a0.size : Int) then ((spec_cronZeros.f k (a0.extract 1 a0.size)).bind fun t128 => (spec_CronNumber.j0 k a0 1 t128)) else (none)) else (spec_CronNumber.j0 k a0 1 false))) else (none)) else (spec_CronNumber.j0 k a0 1 false)
theorem spec_CronNumber.mono_l : ∀ k, (∀ y0 y1 y2, LeO (spec_CronNumber.j0 k y0 y1 y2) (spec_CronNumber.j0 (k + 1) y0 y1 y2)) ∧ (∀ y0 y1, LeO (spec_CronNumber.j1 k y0 y1) (spec_CronNumber.j1 (k + 1) y0 y1)) ∧ (∀ y0 y1 y2 y3 y4, LeO (spec_CronNumber.l0 k y0 y1 y2 y3 y4) (spec_CronNumber.l0 (k + 1) y0 y1 y2 y3 y4))
 | 0 => ⟨fun _ _ _ r h => by simp [spec_CronNumber.j0] at h, fun _ _ r h => by simp [spec_CronNumber.j1] at h, fun _ _ _ _ _ r h => by simp [spec_CronNumber.l0] at h⟩
 | k + 1 => by
  obtain ⟨ih0, ih1, ih2⟩ := spec_CronNumber.mono_l k
  refine ⟨?_, ?_, ?_⟩
  ·intro y0 y1 y2
   unfold spec_CronNumber.j0
   repeat' first
   | (with_reducible exact ih0 _ _ _)
   | (with_reducible exact ih1 _ _)
   | (with_reducible exact ih2 _ _ _ _ _)
   | (with_reducible exact spec_cronZeros.mono _ _)
   | (with_reducible exact LeO.refl _)
   | (with_reducible exact LeO.none _)
   | (with_reducible refine LeO.ite ?_ ?_)
   | (with_reducible refine LeO.bind ?_ (fun _ => ?_))
   | exact ih0 _ _ _
   | exact ih1 _ _
   | exact ih2 _ _ _ _ _
   | exact spec_cronZeros.mono _ _
   | exact LeO.none _
   | refine LeO.ite ?_ ?_
   | refine LeO.bind ?_ (fun _ => ?_)
  ·intro y0 y1
   unfold spec_CronNumber.j1
   repeat' first
   | (with_reducible exact ih0 _ _ _)
   | (with_reducible exact ih1 _ _)
   | (with_reducible exact ih2 _ _ _ _ _)
   | (with_reducible exact spec_cronZeros.mono _ _)
   | (with_reducible exact LeO.refl _)
   | (with_reducible exact LeO.none _)
   | (with_reducible refine LeO.ite ?_ ?_)
   | (with_reducible refine LeO.bind ?_ (fun _ => ?_))
   | exact ih0 _ _ _
   | exact ih1 _ _
   | exact ih2 _ _ _ _ _
   | exact spec_cronZeros.mono _ _
   | exact LeO.none _
   | refine LeO.ite ?_ ?_
   | refine LeO.bind ?_ (fun _ => ?_)
  ·intro y0 y1 y2 y3 y4
   unfold spec_CronNumber.l0
   repeat' first
   | (with_reducible exact ih0 _ _ _)
   | (with_reducible exact ih1 _ _)
   | (with_reducible exact ih2 _ _ _ _ _)
   | (with_reducible exact spec_cronZeros.mono _ _)
   | (with_reducible exact LeO.refl _)
   | (with_reducible exact LeO.none _)
   | (with_reducible refine LeO.ite ?_ ?_)
   | (with_reducible refine LeO.bind ?_ (fun _ => ?_))
   | exact ih0 _ _ _
   | exact ih1 _ _
   | exact ih2 _ _ _ _ _
   | exact spec_cronZeros.mono _ _
   | exact LeO.none _
   | refine LeO.ite ?_ ?_
   | refine LeO.bind ?_ (fun _ => ?_)
theorem spec_CronNumber.mono : ∀ a0 k, LeO (spec_CronNumber.f k a0) (spec_CronNumber.f (k + 1) a0) := by
 intro a0 k
 obtain ⟨ih0, ih1, ih2⟩ := spec_CronNumber.mono_l k
 unfold spec_CronNumber.f
 repeat' first
   | (with_reducible exact ih0 _ _ _)
   | (with_reducible exact ih1 _ _)
   | (with_reducible exact ih2 _ _ _ _ _)
   | (with_reducible exact spec_cronZeros.mono _ _)
   | (with_reducible exact LeO.refl _)
   | (with_reducible exact LeO.none _)
   | (with_reducible refine LeO.ite ?_ ?_)
   | (with_reducible refine LeO.bind ?_ (fun _ => ?_))
   | exact ih0 _ _ _
   | exact ih1 _ _
   | exact ih2 _ _ _ _ _
   | exact spec_cronZeros.mono _ _
   | exact LeO.none _
   | refine LeO.ite ?_ ?_
   | refine LeO.bind ?_ (fun _ => ?_)
set_option maxHeartbeats 8000000 in
set_option maxRecDepth 100000 in
theorem spec_CronNumber.calls (k : Nat) (a0 : ByteArray) (r1 : Int) (r2 : Int) (w : World) (h : spec_CronNumber.f k a0 = some (r1, r2)) :
  Calls Tryz.prog 157 #[.string a0] w fun e w' => e = .returned (.tuple #[.int .i64 r1, .int .i64 r2]) ∧ Below w.heap.size w w' := by
 have HB := Aside0.mk (Below.refl w.heap.size w)
 have H : (if (a0.size : Int) > 0 then (if 0 < (a0.size : Int) then (if (bt a0 0) = 43 then (spec_CronNumber.j0 k a0 1 true) else (if (bt a0 0) = 45 then (if 1 ≤ (a0.size : Int) then ((spec_cronZeros.f k (a0.extract 1 a0.size)).bind fun t128 => (spec_CronNumber.j0 k a0 1 t128)) else (none)) else (spec_CronNumber.j0 k a0 1 false))) else (none)) else (spec_CronNumber.j0 k a0 1 false)) = some (r1, r2) := h
 clear h
 have HC2 := Aside0.mk H
 clear H
 go_enter Tryz.func157, Tryz.ntmps157
 go_upto_region 2 with (fail)
 go_cut [24] (fun v24 wc => ∃ (kq : Nat) (x24_1 : Bool), v24 = .bool x24_1 ∧ Aside0 (spec_CronNumber.j0 kq a0 1 x24_1 = some (r1, r2)) ∧ Aside0 (kq ≤ k) ∧ Aside0 (Below w.heap.size w wc))
 case first =>
  have H := HC2.out
  clear HC2
  by_cases c3 : (a0.size : Int) > 0
  ·rw [if_pos c3] at H
   have c3b0 : decide (0 < (a0.size : Int)) = true := decide_eq_true c3
   have c3b1 : decide (0 < a0.size) = true := decide_eq_true (by omega)
   clear c3
   (first | rw [c3b0] | (simp only [i64_w, i32_w]; rw [c3b0]) | skip)
   by_cases c4 : 0 < (a0.size : Int)
   ·rw [if_pos c4] at H
    have c4b0 : decide (0 < (a0.size : Int)) = true := decide_eq_true c4
    have c4b1 : decide (0 < a0.size) = true := decide_eq_true (by omega)
    clear c4
    by_cases c6 : (bt a0 0) = 43
    ·rw [if_pos c6] at H
     have c6b0 : ((bt a0 0) == 43) = true := beq_iff_eq.mpr c6
     have c6b1 : ((bt a0 0) != 43) = false := bne_eq_false_iff_eq.mpr c6
     clear c6
     have H' := Aside0.mk H
     clear H
     have p5 : 0 ≤ (0 : Int) := (by omega)
     have q5 : 0 < a0.size := (by have : (0 : Int) < (a0.size : Int) := of_decide_eq_true (by first | (with_reducible assumption) | assumption); omega)
     have hx5 : ∀ h : 0 < a0.size, ((a0[0]'h).toNat : Int) = bt a0 0 := bt_at a0 0
     clear p5
     have qi5 : (0 < (a0.size : Int)) = True := eq_true (of_decide_eq_true (by first | (with_reducible assumption) | assumption))
     replace q5 := eq_true q5
     go_wp2
     go_meet
     case rel => exact ⟨_, (true), (by first | rfl | (simp; done) | (simp [*]; done)), H', ⟨by first | omega | exact Nat.le_refl _⟩, ⟨by repeat (first | (with_reducible first | exact HB.out | apply below_alloc | apply pw_below_drewN | apply below_drew1) | exact HB.out)⟩⟩
    ·rw [if_neg c6] at H
     have c6b0 : ((bt a0 0) == 43) = false := beq_eq_false_iff_ne.mpr c6
     have c6b1 : ((bt a0 0) != 43) = true := bne_iff_ne.mpr c6
     by_cases c8 : (bt a0 0) = 45
     ·rw [if_pos c8] at H
      have c8b0 : ((bt a0 0) == 45) = true := beq_iff_eq.mpr c8
      have c8b1 : ((bt a0 0) != 45) = false := bne_eq_false_iff_eq.mpr c8
      clear c8
      by_cases c9 : 1 ≤ (a0.size : Int)
      ·rw [if_pos c9] at H
       have c9b0 := eq_true c9
       have c9b1 : decide (1 ≤ (a0.size : Int)) = true := decide_eq_true c9
       clear c9
       replace H := Option.bind_eq_some_iff.mp H
       obtain ⟨t128, A100, H⟩ := H
       replace H : (spec_CronNumber.j0 k a0 1 t128) = some (r1, r2) := H
       have A10 := Aside0.mk A100
       clear A100
       have H' := Aside0.mk H
       clear H
       have p5 : 0 ≤ (0 : Int) := (by omega)
       have q5 : 0 < a0.size := (by have : (0 : Int) < (a0.size : Int) := of_decide_eq_true (by first | (with_reducible assumption) | assumption); omega)
       have hx5 : ∀ h : 0 < a0.size, ((a0[0]'h).toNat : Int) = bt a0 0 := bt_at a0 0
       clear p5
       have qi5 : (0 < (a0.size : Int)) = True := eq_true (of_decide_eq_true (by first | (with_reducible assumption) | assumption))
       replace q5 := eq_true q5
       have p7 : 0 ≤ (0 : Int) := (by omega)
       have q7 : 0 < a0.size := (by have : (0 : Int) < (a0.size : Int) := of_decide_eq_true (by first | (with_reducible assumption) | assumption); omega)
       have hx7 : ∀ h : 0 < a0.size, ((a0[0]'h).toNat : Int) = bt a0 0 := bt_at a0 0
       clear p7
       have qi7 : (0 < (a0.size : Int)) = True := eq_true (of_decide_eq_true (by first | (with_reducible assumption) | assumption))
       replace q7 := eq_true q7
       go_wp2_with (first | (go_at_call 192; (with_reducible refine (spec_cronZeros.calls k (a0.extract 1 a0.size) t128 _ A10.out).mono ?_); rintro e w' ⟨rfl, ⟨nd, rfl⟩⟩))
       go_meet
       case rel => exact ⟨_, (t128), (by first | rfl | (simp; done) | (simp [*]; done)), H', ⟨by first | omega | exact Nat.le_refl _⟩, ⟨by repeat (first | (with_reducible first | exact HB.out | apply below_alloc | apply pw_below_drewN | apply below_drew1) | exact HB.out)⟩⟩
      ·rw [if_neg c9] at H
       exact absurd H (by simp)
     ·rw [if_neg c8] at H
      have c8b0 : ((bt a0 0) == 45) = false := beq_eq_false_iff_ne.mpr c8
      have c8b1 : ((bt a0 0) != 45) = true := bne_iff_ne.mpr c8
      have H' := Aside0.mk H
      clear H
      have p5 : 0 ≤ (0 : Int) := (by omega)
      have q5 : 0 < a0.size := (by have : (0 : Int) < (a0.size : Int) := of_decide_eq_true (by first | (with_reducible assumption) | assumption); omega)
      have hx5 : ∀ h : 0 < a0.size, ((a0[0]'h).toNat : Int) = bt a0 0 := bt_at a0 0
      clear p5
      have qi5 : (0 < (a0.size : Int)) = True := eq_true (of_decide_eq_true (by first | (with_reducible assumption) | assumption))
      replace q5 := eq_true q5
      have p7 : 0 ≤ (0 : Int) := (by omega)
      have q7 : 0 < a0.size := (by have : (0 : Int) < (a0.size : Int) := of_decide_eq_true (by first | (with_reducible assumption) | assumption); omega)
      have hx7 : ∀ h : 0 < a0.size, ((a0[0]'h).toNat : Int) = bt a0 0 := bt_at a0 0
      clear p7
      have qi7 : (0 < (a0.size : Int)) = True := eq_true (of_decide_eq_true (by first | (with_reducible assumption) | assumption))
      replace q7 := eq_true q7
      go_wp2
      go_meet
      case rel => exact ⟨_, (false), (by first | rfl | (simp; done) | (simp [*]; done)), H', ⟨by first | omega | exact Nat.le_refl _⟩, ⟨by repeat (first | (with_reducible first | exact HB.out | apply below_alloc | apply pw_below_drewN | apply below_drew1) | exact HB.out)⟩⟩
   ·rw [if_neg c4] at H
    exact absurd H (by simp)
  ·rw [if_neg c3] at H
   have c3b0 : decide (0 < (a0.size : Int)) = false := decide_eq_false c3
   have c3b1 : decide (0 < a0.size) = false := decide_eq_false (by omega)
   clear c3
   (first | rw [c3b0] | (simp only [i64_w, i32_w]; rw [c3b0]) | skip)
   have H' := Aside0.mk H
   clear H
   go_wp2
   go_meet
   case rel => exact ⟨_, (false), (by first | rfl | (simp; done) | (simp [*]; done)), H', ⟨by first | omega | exact Nat.le_refl _⟩, ⟨by repeat (first | (with_reducible first | exact HB.out | apply below_alloc | apply pw_below_drewN | apply below_drew1) | exact HB.out)⟩⟩
 case rest =>
  clear HC2
  try clear c1
  try clear p2
  try clear c3
  try clear c3b0
  try clear c3b1
  try clear c4
  try clear c4b0
  try clear c4b1
  try clear p5
  try clear q5
  try clear hx5
  try clear qi5
  try clear c6
  try clear c6b0
  try clear c6b1
  try clear p7
  try clear q7
  try clear hx7
  try clear qi7
  try clear c8
  try clear c8b0
  try clear c8b1
  try clear c9
  try clear c9b0
  try clear c9b1
  try clear p5
  try clear p7
  try clear q5
  try clear q7
  obtain ⟨kq, x24_1, rfl, HA, HJ1, HB⟩ := hcut
  cases kq with
  | zero => exact absurd HA.out (by simp [spec_CronNumber.j0])
  | succ kj1 =>
   have H := HA.out
   clear HA
   simp only [spec_CronNumber.j0] at H
   have HC11 := Aside0.mk H
   clear H
   go_upto_if 24 with (fail)
   go_cut [0, 4] (fun v0 v4 wc => ∃ (kq : Nat) (x0_10 : ByteArray) (x4_10 : Int), v0 = .string x0_10 ∧ v4 = .int .i64 x4_10 ∧ Aside0 (spec_CronNumber.j1 kq x0_10 x4_10 = some (r1, r2)) ∧ Aside0 (kq ≤ kj1) ∧ Aside0 (Below w.heap.size w wc))
   case first =>
    have H := HC11.out
    clear HC11
    by_cases c12 : x24_1 = true
    ·subst c12
     have H1 : (if 1 ≤ (a0.size : Int) then (spec_CronNumber.j1 kj1 (a0.extract 1 a0.size) 2) else (none)) = some (r1, r2) := by rw [if_pos rfl] at H; exact H
     clear H
     have H := H1
     clear H1
     by_cases c13 : 1 ≤ (a0.size : Int)
     ·rw [if_pos c13] at H
      have c13b0 := eq_true c13
      have c13b1 : decide (1 ≤ (a0.size : Int)) = true := decide_eq_true c13
      clear c13
      have H' := Aside0.mk H
      clear H
      go_wp2
      go_meet
      case rel => exact ⟨_, (a0.extract 1 a0.size), (2), (by first | rfl | (simp; done) | (simp [*]; done)), (by first | rfl | (simp; done) | (simp [*]; done)), H', ⟨by have := HJ1.out; first | omega | exact Nat.le_refl _⟩, ⟨by repeat (first | (with_reducible first | exact HB.out | apply below_alloc | apply pw_below_drewN | apply below_drew1) | exact HB.out)⟩⟩
     ·rw [if_neg c13] at H
      exact absurd H (by simp)
    ·replace c12 := Bool.eq_false_iff.mpr c12
     subst c12
     have H1 : (spec_CronNumber.j1 kj1 a0 1) = some (r1, r2) := by rw [if_neg (show ¬ (false = true) by decide)] at H; exact H
     clear H
     have H := H1
     clear H1
     have H' := Aside0.mk H
     clear H
     go_wp2
     go_meet
     case rel => exact ⟨_, (a0), (1), (by first | rfl | (simp; done) | (simp [*]; done)), (by first | rfl | (simp; done) | (simp [*]; done)), H', ⟨by have := HJ1.out; first | omega | exact Nat.le_refl _⟩, ⟨by repeat (first | (with_reducible first | exact HB.out | apply below_alloc | apply pw_below_drewN | apply below_drew1) | exact HB.out)⟩⟩
   case rest =>
    clear HC11
    try clear c1
    try clear p2
    try clear c3
    try clear c3b0
    try clear c3b1
    try clear c4
    try clear c4b0
    try clear c4b1
    try clear p5
    try clear q5
    try clear hx5
    try clear qi5
    try clear c6
    try clear c6b0
    try clear c6b1
    try clear p7
    try clear q7
    try clear hx7
    try clear qi7
    try clear c8
    try clear c8b0
    try clear c8b1
    try clear c9
    try clear c9b0
    try clear c9b1
    try clear c12
    try clear c13
    try clear c13b0
    try clear c13b1
    try clear p2
    try clear p5
    try clear p7
    try clear q5
    try clear q7
    obtain ⟨kq, x0_10, x4_10, rfl, rfl, HA, HJ10, HB⟩ := hcut
    cases kq with
    | zero => exact absurd HA.out (by simp [spec_CronNumber.j1])
    | succ kj10 =>
     have H := HA.out
     clear HA
     simp only [spec_CronNumber.j1] at H
     by_cases c14 : x0_10.toList = ([] : List UInt8)
     ·rw [if_pos c14] at H
      have c14b0 : (x0_10.toList == ([] : List UInt8)) = true := beq_iff_eq.mpr c14
      have c14b1 : (x0_10.toList != ([] : List UInt8)) = false := bne_eq_false_iff_eq.mpr c14
      clear c14
      simp only [Option.some.injEq, Prod.mk.injEq] at H
      obtain ⟨rfl, rfl⟩ := H
      go_wp2
      go_ret2
      exact ⟨by first | rfl | (simp [errW_none, errW_some] <;> rfl) | (simp [*, errW_none, errW_some] <;> rfl), by repeat (first | (with_reducible first | exact HB.out | apply below_alloc | apply pw_below_drewN | apply below_drew1) | exact HB.out)⟩
     ·rw [if_neg c14] at H
      have c14b0 : (x0_10.toList == ([] : List UInt8)) = false := beq_eq_false_iff_ne.mpr c14
      have c14b1 : (x0_10.toList != ([] : List UInt8)) = true := bne_iff_ne.mpr c14
      have H' := Aside0.mk H
      clear H
      go_wp2
      go_loopg [5, 31] kj10 (fun kq v5 v31 w' => ∃ (x5_3 : Int) (x31_3 : Int), v5 = .int .i64 x5_3 ∧ v31 = .int .i64 x31_3 ∧ Aside0 (spec_CronNumber.l0 kq x0_10 x4_10 x5_3 (x0_10.size : Int) x31_3 = some (r1, r2)) ∧ Aside0 (kq ≤ kj10) ∧ Aside0 (Below w.heap.size w w'))
      case atStart => exact ⟨(0), (0), (by first | rfl | (simp; done) | (simp [*]; done)), (by first | rfl | (simp; done) | (simp [*]; done)), H', ⟨Nat.le_refl _⟩, ⟨by repeat (first | (with_reducible first | exact HB.out | apply below_alloc | apply pw_below_drewN | apply below_drew1) | exact HB.out)⟩⟩
      case round =>
       clear H'
       try clear c1
       try clear p2
       try clear c3
       try clear c3b0
       try clear c3b1
       try clear c4
       try clear c4b0
       try clear c4b1
       try clear p5
       try clear q5
       try clear hx5
       try clear qi5
       try clear c6
       try clear c6b0
       try clear c6b1
       try clear p7
       try clear q7
       try clear hx7
       try clear qi7
       try clear c8
       try clear c8b0
       try clear c8b1
       try clear c9
       try clear c9b0
       try clear c9b1
       try clear c12
       try clear c13
       try clear c13b0
       try clear c13b1
       try clear c14
       try clear c14b0
       try clear c14b1
       try clear p2
       try clear p5
       try clear p7
       try clear q5
       try clear q7
       obtain ⟨x5_3, x31_3, rfl, rfl, HA, HK3, HB⟩ := hrel
       cases gk with
       | zero => exact absurd HA.out (by simp [spec_CronNumber.l0])
       | succ k3 =>
        have H := HA.out
        clear HA
        simp only [spec_CronNumber.l0] at H
        by_cases c15 : x31_3 < (x0_10.size : Int)
        ·rw [if_pos c15] at H
         have c15b0 : decide (x31_3 < (x0_10.size : Int)) = true := decide_eq_true c15
         clear c15
         by_cases c16 : 0 ≤ x31_3
         ·rw [if_pos c16] at H
          have c16b0 : decide (0 ≤ x31_3) = true := decide_eq_true c16
          clear c16
          by_cases c17 : x31_3 < (x0_10.size : Int)
          ·rw [if_pos c17] at H
           have c17b0 : decide (x31_3 < (x0_10.size : Int)) = true := decide_eq_true c17
           clear c17
           replace H := Option.bind_eq_some_iff.mp H
           obtain ⟨t129, A190, H⟩ := H
           replace H : (if t129 = true then (spec_CronNumber.l0 k3 x0_10 x4_10 (mn (wrap64 ((wrap64 (10 * x5_3)) + (((bt x0_10 x31_3) - 48) % 256))) 1099511627776) (x0_10.size : Int) (wrap64 (x31_3 + 1))) else (some (0, 0))) = some (r1, r2) := H
           have A19 := Aside0.mk A190
           clear A190
           by_cases c20 : t129 = true
           ·subst c20
            have H1 : (spec_CronNumber.l0 k3 x0_10 x4_10 (mn (wrap64 ((wrap64 (10 * x5_3)) + (((bt x0_10 x31_3) - 48) % 256))) 1099511627776) (x0_10.size : Int) (wrap64 (x31_3 + 1))) = some (r1, r2) := by rw [if_pos rfl] at H; exact H
            clear H
            have H := H1
            clear H1
            obtain ⟨ji22, hji22⟩ : ∃ j_ : Int, (mn (wrap64 ((wrap64 (10 * x5_3)) + (((bt x0_10 x31_3) - 48) % 256))) 1099511627776) = j_ := ⟨_, rfl⟩
            replace H : (spec_CronNumber.l0 k3 x0_10 x4_10 ji22 (x0_10.size : Int) (wrap64 (x31_3 + 1))) = some (r1, r2) := by first | (rw [hji22] at H; exact H) | (simp only [hji22] at H ⊢; exact H)
            (try rw [hji22] at A19)
            have hji22_ : (if 1099511627776 < (wrap64 ((wrap64 (10 * x5_3)) + (((bt x0_10 x31_3) - 48) % 256))) then 1099511627776 else (wrap64 ((wrap64 (10 * x5_3)) + (((bt x0_10 x31_3) - 48) % 256)))) = ji22 := hji22
            have H' := Aside0.mk H
            clear H
            have p18 : 0 ≤ (x31_3 : Int) := of_decide_eq_true (by first | (with_reducible assumption) | assumption)
            have q18 : x31_3 < (x0_10.size : Int) := of_decide_eq_true (by first | (with_reducible assumption) | assumption)
            have hx18 := bt_at x0_10 x31_3
            replace p18 := eq_true p18
            replace q18 := eq_true q18
            go_wp2_with (first | ((with_reducible refine gate_callee (f := 193) rfl ?_); refine goesL_ (some 37) rfl rfl Tryz.func193 (by kernel_rfl) rfl #[.int .u8 (bt x0_10 x31_3)] rfl (by (try simp only [List.map_toArray, List.map_cons, List.map_nil]); first | done | rfl | (simp only [List.length_drop, List.length_take]; rfl)) ?_; (with_reducible refine (spec_isDigit.calls (bt x0_10 x31_3) true _ A19.out).mono ?_); rintro e w' ⟨rfl, ⟨nd, rfl⟩⟩; refine ⟨_, rfl, ?_⟩; have p21 : 0 ≤ (x31_3 : Int) := of_decide_eq_true (by first | (with_reducible assumption) | assumption); have q21 : x31_3 < (x0_10.size : Int) := of_decide_eq_true (by first | (with_reducible assumption) | assumption); have hx21 := bt_at x0_10 x31_3; replace p21 := eq_true p21; replace q21 := eq_true q21))
            go_roundg k3
            case measure => have := HJ1.out; have := HJ10.out; have := HK3.out; omega
            case rel => exact ⟨(ji22), (wrap64 (x31_3 + 1)), (by first | rfl | (simp; done) | (simp only [← hji22] <;> (first | rfl | simp)) | (simp [*]; done)), (by first | rfl | (simp; done) | (simp [*]; done)), H', ⟨by have := HJ1.out; have := HJ10.out; have := HK3.out; omega⟩, ⟨by repeat (first | (with_reducible first | exact HB.out | apply below_alloc | apply pw_below_drewN | apply below_drew1) | exact HB.out)⟩⟩
           ·replace c20 := Bool.eq_false_iff.mpr c20
            subst c20
            have H1 : (some (0, 0)) = some (r1, r2) := by rw [if_neg (show ¬ (false = true) by decide)] at H; exact H
            clear H
            have H := H1
            clear H1
            simp only [Option.some.injEq, Prod.mk.injEq] at H
            obtain ⟨rfl, rfl⟩ := H
            have p18 : 0 ≤ (x31_3 : Int) := of_decide_eq_true (by first | (with_reducible assumption) | assumption)
            have q18 : x31_3 < (x0_10.size : Int) := of_decide_eq_true (by first | (with_reducible assumption) | assumption)
            have hx18 := bt_at x0_10 x31_3
            replace p18 := eq_true p18
            replace q18 := eq_true q18
            go_wp2_with (first | ((with_reducible refine gate_callee (f := 193) rfl ?_); refine goesL_ (some 37) rfl rfl Tryz.func193 (by kernel_rfl) rfl #[.int .u8 (bt x0_10 x31_3)] rfl (by (try simp only [List.map_toArray, List.map_cons, List.map_nil]); first | done | rfl | (simp only [List.length_drop, List.length_take]; rfl)) ?_; (with_reducible refine (spec_isDigit.calls (bt x0_10 x31_3) false _ A19.out).mono ?_); rintro e w' ⟨rfl, ⟨nd, rfl⟩⟩; refine ⟨_, rfl, ?_⟩))
            go_ret2
            exact ⟨by first | rfl | (simp [errW_none, errW_some] <;> rfl) | (simp [*, errW_none, errW_some] <;> rfl), by repeat (first | (with_reducible first | exact HB.out | apply below_alloc | apply pw_below_drewN | apply below_drew1) | exact HB.out)⟩
          ·rw [if_neg c17] at H
           exact absurd H (by simp)
         ·rw [if_neg c16] at H
          exact absurd H (by simp)
        ·rw [if_neg c15] at H
         have c15b0 : decide (x31_3 < (x0_10.size : Int)) = false := decide_eq_false c15
         clear c15
         simp only [Option.some.injEq, Prod.mk.injEq] at H
         obtain ⟨rfl, rfl⟩ := H
         go_wp2
         go_ret2
         exact ⟨by first | rfl | (simp [errW_none, errW_some] <;> rfl) | (simp [*, errW_none, errW_some] <;> rfl), by repeat (first | (with_reducible first | exact HB.out | apply below_alloc | apply pw_below_drewN | apply below_drew1) | exact HB.out)⟩
end Go.Proofs.YtmecbmgfacpecaaGreatDoor.Pr
namespace Go.Proofs.YtmecbmgfacpecaaGreatDoor.Pr
open Go.RowKit Go.Proofs.YtmecbmgfacpecaaGreatDoorW.PrintWords Go.Proofs.YtmecbmgfacpecaaGreatDoorW.PrintLast Go.Proofs.YtmecbmgfacpecaaGreatDoorW.PrintMore
attribute [local go_sem] max2_int min2_int max_two min_two max_three min_three max_four min_four   -- for this text's walks alone
set_option linter.unusedVariables false
set_option linter.unusedSimpArgs false
def spec_CronStep.j0 : Nat → Int → Int → Bool → Option (Int × Int)
 | 0, _, _, _ => none
 | k + 1, x4, x5, x16 => if x16 = true then (some (0, 0)) else (if x4 = 1099511627776 then (some (0, 2)) else (some (x4, x5)))
def spec_CronStep.f (k : Nat) (a0 : ByteArray) : Option (Int × Int) := (spec_CronNumber.f k a0).bind fun bt157 => (if bt157.2 = 0 then (spec_CronStep.j0 k bt157.1 bt157.2 true) else (spec_CronStep.j0 k bt157.1 bt157.2 (bt157.1 == 0)))
theorem spec_CronStep.mono_l : ∀ k, (∀ y0 y1 y2, LeO (spec_CronStep.j0 k y0 y1 y2) (spec_CronStep.j0 (k + 1) y0 y1 y2))
 | 0 => fun _ _ _ r h => by simp [spec_CronStep.j0] at h
 | k + 1 => by
  have ih0 := spec_CronStep.mono_l k
  ·intro y0 y1 y2
   unfold spec_CronStep.j0
   repeat' first
   | (with_reducible exact ih0 _ _ _)
   | (with_reducible exact spec_CronNumber.mono _ _)
   | (with_reducible exact LeO.refl _)
   | (with_reducible exact LeO.none _)
   | (with_reducible refine LeO.ite ?_ ?_)
   | (with_reducible refine LeO.bind ?_ (fun _ => ?_))
   | exact ih0 _ _ _
   | exact spec_CronNumber.mono _ _
   | exact LeO.none _
   | refine LeO.ite ?_ ?_
   | refine LeO.bind ?_ (fun _ => ?_)
theorem spec_CronStep.mono : ∀ a0 k, LeO (spec_CronStep.f k a0) (spec_CronStep.f (k + 1) a0) := by
 intro a0 k
 have ih0 := spec_CronStep.mono_l k
 unfold spec_CronStep.f
 repeat' first
   | (with_reducible exact ih0 _ _ _)
   | (with_reducible exact spec_CronNumber.mono _ _)
   | (with_reducible exact LeO.refl _)
   | (with_reducible exact LeO.none _)
   | (with_reducible refine LeO.ite ?_ ?_)
   | (with_reducible refine LeO.bind ?_ (fun _ => ?_))
   | exact ih0 _ _ _
   | exact spec_CronNumber.mono _ _
   | exact LeO.none _
   | refine LeO.ite ?_ ?_
   | refine LeO.bind ?_ (fun _ => ?_)
set_option maxHeartbeats 8000000 in
set_option maxRecDepth 100000 in
theorem spec_CronStep.calls (k : Nat) (a0 : ByteArray) (r1 : Int) (r2 : Int) (w : World) (h : spec_CronStep.f k a0 = some (r1, r2)) :
  Calls Tryz.prog 121 #[.string a0] w fun e w' => e = .returned (.tuple #[.int .i64 r1, .int .i64 r2]) ∧ Below w.heap.size w w' := by
 have HB := Aside0.mk (Below.refl w.heap.size w)
 have H : ((spec_CronNumber.f k a0).bind fun bt157 => (if bt157.2 = 0 then (spec_CronStep.j0 k bt157.1 bt157.2 true) else (spec_CronStep.j0 k bt157.1 bt157.2 (bt157.1 == 0)))) = some (r1, r2) := h
 clear h
 replace H := Option.bind_eq_some_iff.mp H
 obtain ⟨⟨t157, t158⟩, A20, H⟩ := H
 replace H : (if t158 = 0 then (spec_CronStep.j0 k t157 t158 true) else (spec_CronStep.j0 k t157 t158 (t157 == 0))) = some (r1, r2) := H
 have A2 := Aside0.mk A20
 clear A20
 have HC3 := Aside0.mk H
 clear H
 go_enter Tryz.func121, Tryz.ntmps121
 go_upto_region 2 with (first | ((with_reducible refine gate_callee (f := 157) rfl ?_); refine goesL_ (some 8) rfl rfl Tryz.func157 (by kernel_rfl) rfl #[.string a0] rfl (by (try simp only [List.map_toArray, List.map_cons, List.map_nil]); first | done | rfl | (simp only [List.length_drop, List.length_take]; rfl)) ?_; (with_reducible refine (spec_CronNumber.calls k a0 t157 t158 _ A2.out).mono ?_); rintro e w4 ⟨rfl, hb⟩; refine ⟨_, rfl, ?_⟩; have n0_ := Aside0.mk (below_step (by repeat (first | (with_reducible first | exact HB.out | apply below_alloc | apply pw_below_drewN | apply below_drew1) | exact HB.out)) hb); clear HB; have HB := n0_; clear n0_; (try clear hb); (try clear hb2); (try clear hk); (try clear hi)))
 (try simp only [Act.put, List.setIfInBounds_toArray, List.set_cons_zero, List.set_cons_succ])
 go_cut [16] (fun v16 wc => ∃ (kq : Nat) (x16_2 : Bool), v16 = .bool x16_2 ∧ Aside0 (spec_CronStep.j0 kq t157 t158 x16_2 = some (r1, r2)) ∧ Aside0 (kq ≤ k) ∧ Aside0 (Below w.heap.size w wc))
 case first =>
  have H := HC3.out
  clear HC3
  by_cases c5 : t158 = 0
  ·rw [if_pos c5] at H
   have c5b0 : (t158 == 0) = true := beq_iff_eq.mpr c5
   have c5b1 : (t158 != 0) = false := bne_eq_false_iff_eq.mpr c5
   clear c5
   (first | rw [c5b0] | (simp only [i64_w, i32_w]; rw [c5b0]) | skip)
   have H' := Aside0.mk H
   clear H
   go_wp2
   go_meet
   case rel => exact ⟨_, (true), (by first | rfl | (simp; done) | (simp [*]; done)), H', ⟨by first | omega | exact Nat.le_refl _⟩, ⟨by repeat (first | (with_reducible first | exact HB.out | apply below_alloc | apply pw_below_drewN | apply below_drew1) | exact HB.out)⟩⟩
  ·rw [if_neg c5] at H
   have c5b0 : (t158 == 0) = false := beq_eq_false_iff_ne.mpr c5
   have c5b1 : (t158 != 0) = true := bne_iff_ne.mpr c5
   (first | rw [c5b0] | (simp only [i64_w, i32_w]; rw [c5b0]) | skip)
   have H' := Aside0.mk H
   clear H
   go_wp2
   go_meet
   case rel => exact ⟨_, ((t157 == 0)), (by first | rfl | (simp; done) | (simp [*]; done)), H', ⟨by first | omega | exact Nat.le_refl _⟩, ⟨by repeat (first | (with_reducible first | exact HB.out | apply below_alloc | apply pw_below_drewN | apply below_drew1) | exact HB.out)⟩⟩
 case rest =>
  clear HC3
  try clear c1
  try clear p2
  try clear c5
  try clear c5b0
  try clear c5b1
  obtain ⟨kq, x16_2, rfl, HA, HJ2, HB⟩ := hcut
  cases kq with
  | zero => exact absurd HA.out (by simp [spec_CronStep.j0])
  | succ kj2 =>
   have H := HA.out
   clear HA
   simp only [spec_CronStep.j0] at H
   by_cases c6 : x16_2 = true
   ·subst c6
    have H1 : (some (0, 0)) = some (r1, r2) := by rw [if_pos rfl] at H; exact H
    clear H
    have H := H1
    clear H1
    simp only [Option.some.injEq, Prod.mk.injEq] at H
    obtain ⟨rfl, rfl⟩ := H
    go_wp2
    go_ret2
    exact ⟨by first | rfl | (simp [errW_none, errW_some] <;> rfl) | (simp [*, errW_none, errW_some] <;> rfl), by repeat (first | (with_reducible first | exact HB.out | apply below_alloc | apply pw_below_drewN | apply below_drew1) | exact HB.out)⟩
   ·replace c6 := Bool.eq_false_iff.mpr c6
    subst c6
    have H1 : (if t157 = 1099511627776 then (some (0, 2)) else (some (t157, t158))) = some (r1, r2) := by rw [if_neg (show ¬ (false = true) by decide)] at H; exact H
    clear H
    have H := H1
    clear H1
    by_cases c7 : t157 = 1099511627776
    ·rw [if_pos c7] at H
     have c7b0 : (t157 == 1099511627776) = true := beq_iff_eq.mpr c7
     have c7b1 : (t157 != 1099511627776) = false := bne_eq_false_iff_eq.mpr c7
     clear c7
     simp only [Option.some.injEq, Prod.mk.injEq] at H
     obtain ⟨rfl, rfl⟩ := H
     go_wp2
     go_ret2
     exact ⟨by first | rfl | (simp [errW_none, errW_some] <;> rfl) | (simp [*, errW_none, errW_some] <;> rfl), by repeat (first | (with_reducible first | exact HB.out | apply below_alloc | apply pw_below_drewN | apply below_drew1) | exact HB.out)⟩
    ·rw [if_neg c7] at H
     have c7b0 : (t157 == 1099511627776) = false := beq_eq_false_iff_ne.mpr c7
     have c7b1 : (t157 != 1099511627776) = true := bne_iff_ne.mpr c7
     simp only [Option.some.injEq, Prod.mk.injEq] at H
     obtain ⟨rfl, rfl⟩ := H
     go_wp2
     go_ret2
     exact ⟨by first | rfl | (simp [errW_none, errW_some] <;> rfl) | (simp [*, errW_none, errW_some] <;> rfl), by repeat (first | (with_reducible first | exact HB.out | apply below_alloc | apply pw_below_drewN | apply below_drew1) | exact HB.out)⟩
end Go.Proofs.YtmecbmgfacpecaaGreatDoor.Pr
namespace Go.Proofs.YtmecbmgfacpecaaGreatDoor.Pr
open Go.RowKit Go.Proofs.YtmecbmgfacpecaaGreatDoorW.PrintWords Go.Proofs.YtmecbmgfacpecaaGreatDoorW.PrintLast Go.Proofs.YtmecbmgfacpecaaGreatDoorW.PrintMore
attribute [local go_sem] max2_int min2_int max_two min_two max_three min_three max_four min_four   -- for this text's walks alone
set_option linter.unusedVariables false
set_option linter.unusedSimpArgs false
def spec_worse.f (a0 : Int) (a1 : Int) : Option (Int) := if a0 = 0 then (some 0) else (if a1 = 0 then (some 0) else (some (mx a0 a1)))
set_option maxHeartbeats 8000000 in
set_option maxRecDepth 100000 in
theorem spec_worse.calls (a0 : Int) (a1 : Int) (r : Int) (w : World) (h : spec_worse.f a0 a1 = some r) :
  Calls Tryz.prog 57 #[.int .i64 a0, .int .i64 a1] w fun e w' => e = .returned (.int .i64 r) ∧ Below w.heap.size w w' := by
 have HB := Aside0.mk (Below.refl w.heap.size w)
 have H : (if a0 = 0 then (some 0) else (if a1 = 0 then (some 0) else (some (mx a0 a1)))) = some r := h
 clear h
 by_cases c3 : a0 = 0
 ·rw [if_pos c3] at H
  have c3b0 : (a0 == 0) = true := beq_iff_eq.mpr c3
  have c3b1 : (a0 != 0) = false := bne_eq_false_iff_eq.mpr c3
  clear c3
  obtain rfl := Option.some.inj H
  go_enter Tryz.func57, Tryz.ntmps57
  go_wp2
  go_ret
  exact ⟨by first | rfl | (simp [errW_none, errW_some] <;> rfl) | (simp [*, errW_none, errW_some] <;> rfl), by repeat (first | (with_reducible first | exact HB.out | apply below_alloc | apply pw_below_drewN | apply below_drew1) | exact HB.out)⟩
 ·rw [if_neg c3] at H
  have c3b0 : (a0 == 0) = false := beq_eq_false_iff_ne.mpr c3
  have c3b1 : (a0 != 0) = true := bne_iff_ne.mpr c3
  by_cases c4 : a1 = 0
  ·rw [if_pos c4] at H
   have c4b0 : (a1 == 0) = true := beq_iff_eq.mpr c4
   have c4b1 : (a1 != 0) = false := bne_eq_false_iff_eq.mpr c4
   clear c4
   obtain rfl := Option.some.inj H
   go_enter Tryz.func57, Tryz.ntmps57
   go_wp2
   go_ret
   exact ⟨by first | rfl | (simp [errW_none, errW_some] <;> rfl) | (simp [*, errW_none, errW_some] <;> rfl), by repeat (first | (with_reducible first | exact HB.out | apply below_alloc | apply pw_below_drewN | apply below_drew1) | exact HB.out)⟩
  ·rw [if_neg c4] at H
   have c4b0 : (a1 == 0) = false := beq_eq_false_iff_ne.mpr c4
   have c4b1 : (a1 != 0) = true := bne_iff_ne.mpr c4
   obtain ⟨ji5, hji5⟩ : ∃ j_ : Int, (mx a0 a1) = j_ := ⟨_, rfl⟩
   replace H : (some ji5) = some r := by first | (rw [hji5] at H; exact H) | (simp only [hji5] at H ⊢; exact H)
   have hji5_ : (if a0 < a1 then a1 else a0) = ji5 := hji5
   obtain rfl := Option.some.inj H
   go_enter Tryz.func57, Tryz.ntmps57
   go_wp2
   go_ret
   exact ⟨by first | rfl | (simp [errW_none, errW_some] <;> rfl) | (simp only [← hji5]; first | rfl | (simp [errW_none, errW_some] <;> rfl)) | (simp [*, errW_none, errW_some] <;> rfl), by repeat (first | (with_reducible first | exact HB.out | apply below_alloc | apply pw_below_drewN | apply below_drew1) | exact HB.out)⟩
end Go.Proofs.YtmecbmgfacpecaaGreatDoor.Pr
namespace Go.Proofs.YtmecbmgfacpecaaGreatDoor.Pr
open Go.RowKit Go.Proofs.YtmecbmgfacpecaaGreatDoorW.PrintWords Go.Proofs.YtmecbmgfacpecaaGreatDoorW.PrintLast Go.Proofs.YtmecbmgfacpecaaGreatDoorW.PrintMore
attribute [local go_sem] max2_int min2_int max_two min_two max_three min_three max_four min_four   -- for this text's walks alone
set_option linter.unusedVariables false
set_option linter.unusedSimpArgs false
def spec_cronForeign.l0 : Nat → ByteArray → Int → Int → Option (Bool)
 | 0, _, _, _ => none
 | k + 1, x0, x5, x6 => if x6 < x5 then (if 0 ≤ x6 then (if x6 < (x0.size : Int) then (if (bt x0 x6) ≥ 128 then (some true) else (spec_cronForeign.l0 k x0 x5 (wrap64 (x6 + 1)))) else (none)) else (none)) else (some false)
def spec_cronForeign.f (k : Nat) (a0 : ByteArray) : Option (Bool) := spec_cronForeign.l0 k a0 (a0.size : Int) 0
theorem spec_cronForeign.mono_l : ∀ k, (∀ y0 y1 y2, LeO (spec_cronForeign.l0 k y0 y1 y2) (spec_cronForeign.l0 (k + 1) y0 y1 y2))
 | 0 => fun _ _ _ r h => by simp [spec_cronForeign.l0] at h
 | k + 1 => by
  have ih0 := spec_cronForeign.mono_l k
  ·intro y0 y1 y2
   unfold spec_cronForeign.l0
   repeat' first
   | (with_reducible exact ih0 _ _ _)
   | (with_reducible exact LeO.refl _)
   | (with_reducible exact LeO.none _)
   | (with_reducible refine LeO.ite ?_ ?_)
   | (with_reducible refine LeO.bind ?_ (fun _ => ?_))
   | exact ih0 _ _ _
   | exact LeO.none _
   | refine LeO.ite ?_ ?_
   | refine LeO.bind ?_ (fun _ => ?_)
theorem spec_cronForeign.mono : ∀ a0 k, LeO (spec_cronForeign.f k a0) (spec_cronForeign.f (k + 1) a0) := by
 intro a0 k
 have ih0 := spec_cronForeign.mono_l k
 unfold spec_cronForeign.f
 repeat' first
   | (with_reducible exact ih0 _ _ _)
   | (with_reducible exact LeO.refl _)
   | (with_reducible exact LeO.none _)
   | (with_reducible refine LeO.ite ?_ ?_)
   | (with_reducible refine LeO.bind ?_ (fun _ => ?_))
   | exact ih0 _ _ _
   | exact LeO.none _
   | refine LeO.ite ?_ ?_
   | refine LeO.bind ?_ (fun _ => ?_)
set_option maxHeartbeats 8000000 in
set_option maxRecDepth 100000 in
theorem spec_cronForeign.calls (k : Nat) (a0 : ByteArray) (r : Bool) (w : World) (h : spec_cronForeign.f k a0 = some r) :
  Calls Tryz.prog 92 #[.string a0] w fun e w' => e = .returned (.bool r) ∧ Drawn0 w w' := by
 have H : (spec_cronForeign.l0 k a0 (a0.size : Int) 0) = some r := h
 clear h
 have H' := Aside0.mk H
 clear H
 go_enter Tryz.func92, Tryz.ntmps92
 go_wp2
 go_loopg [6] k (fun kq v6 w' => ∃ (x6_1 : Int), v6 = .int .i64 x6_1 ∧ Aside0 (spec_cronForeign.l0 kq a0 (a0.size : Int) x6_1 = some r) ∧ Aside0 (kq ≤ k) ∧ Drawn0 w w')
 case atStart => exact ⟨(0), (by first | rfl | (simp; done) | (simp [*]; done)), H', ⟨Nat.le_refl _⟩, by repeat (first | exact Drawn0.refl _ | apply Drawn0.step)⟩
 case round =>
  clear H'
  obtain ⟨x6_1, rfl, HA, HK1, ⟨m1, rfl⟩⟩ := hrel
  cases gk with
  | zero => exact absurd HA.out (by simp [spec_cronForeign.l0])
  | succ k1 =>
   have H := HA.out
   clear HA
   simp only [spec_cronForeign.l0] at H
   by_cases c2 : x6_1 < (a0.size : Int)
   ·rw [if_pos c2] at H
    have c2b0 : decide (x6_1 < (a0.size : Int)) = true := decide_eq_true c2
    clear c2
    by_cases c3 : 0 ≤ x6_1
    ·rw [if_pos c3] at H
     have c3b0 : decide (0 ≤ x6_1) = true := decide_eq_true c3
     clear c3
     by_cases c4 : x6_1 < (a0.size : Int)
     ·rw [if_pos c4] at H
      have c4b0 : decide (x6_1 < (a0.size : Int)) = true := decide_eq_true c4
      clear c4
      by_cases c6 : (bt a0 x6_1) ≥ 128
      ·rw [if_pos c6] at H
       have c6b0 : decide (128 ≤ (bt a0 x6_1)) = true := decide_eq_true c6
       clear c6
       obtain rfl := Option.some.inj H
       have p5 : 0 ≤ (x6_1 : Int) := of_decide_eq_true (by first | (with_reducible assumption) | assumption)
       have q5 : x6_1 < (a0.size : Int) := of_decide_eq_true (by first | (with_reducible assumption) | assumption)
       have hx5 := bt_at a0 x6_1
       replace p5 := eq_true p5
       replace q5 := eq_true q5
       go_wp2
       go_ret
       exact ⟨by first | rfl | (simp; done) | (simp [*]; done), by repeat (first | exact Drawn0.refl _ | apply Drawn0.step)⟩
      ·rw [if_neg c6] at H
       have c6b0 : decide (128 ≤ (bt a0 x6_1)) = false := decide_eq_false c6
       clear c6
       have H' := Aside0.mk H
       clear H
       have p5 : 0 ≤ (x6_1 : Int) := of_decide_eq_true (by first | (with_reducible assumption) | assumption)
       have q5 : x6_1 < (a0.size : Int) := of_decide_eq_true (by first | (with_reducible assumption) | assumption)
       have hx5 := bt_at a0 x6_1
       replace p5 := eq_true p5
       replace q5 := eq_true q5
       go_wp2
       go_roundg k1
       case measure => have := HK1.out; omega
       case rel => exact ⟨(wrap64 (x6_1 + 1)), (by first | rfl | (simp; done) | (simp [*]; done)), H', ⟨by have := HK1.out; omega⟩, by repeat (first | exact Drawn0.refl _ | apply Drawn0.step)⟩
     ·rw [if_neg c4] at H
      exact absurd H (by simp)
    ·rw [if_neg c3] at H
     exact absurd H (by simp)
   ·rw [if_neg c2] at H
    have c2b0 : decide (x6_1 < (a0.size : Int)) = false := decide_eq_false c2
    clear c2
    obtain rfl := Option.some.inj H
    go_wp2
    go_ret
    exact ⟨by first | rfl | (simp; done) | (simp [*]; done), by repeat (first | exact Drawn0.refl _ | apply Drawn0.step)⟩
end Go.Proofs.YtmecbmgfacpecaaGreatDoor.Pr
namespace Go.Proofs.YtmecbmgfacpecaaGreatDoor.Pr
open Go.RowKit Go.Proofs.YtmecbmgfacpecaaGreatDoorW.PrintWords Go.Proofs.YtmecbmgfacpecaaGreatDoorW.PrintLast Go.Proofs.YtmecbmgfacpecaaGreatDoorW.PrintMore
attribute [local go_sem] max2_int min2_int max_two min_two max_three min_three max_four min_four   -- for this text's walks alone
set_option linter.unusedVariables false
set_option linter.unusedSimpArgs false
def spec_cronUpper.f (a0 : Int) : Option (Int) := if 97 ≤ a0 then (if a0 ≤ 122 then (some ((((a0 - 97) % 256) + 65) % 256)) else (some a0)) else (some a0)
set_option maxHeartbeats 8000000 in
set_option maxRecDepth 100000 in
theorem spec_cronUpper.calls (a0 : Int) (r : Int) (w : World) (h : spec_cronUpper.f a0 = some r) :
  Calls Tryz.prog 215 #[.int .u8 a0] w fun e w' => e = .returned (.int .u8 r) ∧ Drawn0 w w' := by
 have H : (if 97 ≤ a0 then (if a0 ≤ 122 then (some ((((a0 - 97) % 256) + 65) % 256)) else (some a0)) else (some a0)) = some r := h
 clear h
 by_cases c2 : 97 ≤ a0
 ·rw [if_pos c2] at H
  have c2b0 : decide (97 ≤ a0) = true := decide_eq_true c2
  clear c2
  by_cases c3 : a0 ≤ 122
  ·rw [if_pos c3] at H
   have c3b0 : decide (a0 ≤ 122) = true := decide_eq_true c3
   clear c3
   obtain rfl := Option.some.inj H
   go_enter Tryz.func215, Tryz.ntmps215
   go_wp2
   go_ret
   exact ⟨by first | rfl | (simp; done) | (simp [*]; done), by repeat (first | exact Drawn0.refl _ | apply Drawn0.step)⟩
  ·rw [if_neg c3] at H
   have c3b0 : decide (a0 ≤ 122) = false := decide_eq_false c3
   clear c3
   obtain rfl := Option.some.inj H
   go_enter Tryz.func215, Tryz.ntmps215
   go_wp2
   go_ret
   exact ⟨by first | rfl | (simp; done) | (simp [*]; done), by repeat (first | exact Drawn0.refl _ | apply Drawn0.step)⟩
 ·rw [if_neg c2] at H
  have c2b0 : decide (97 ≤ a0) = false := decide_eq_false c2
  clear c2
  obtain rfl := Option.some.inj H
  go_enter Tryz.func215, Tryz.ntmps215
  go_wp2
  go_ret
  exact ⟨by first | rfl | (simp; done) | (simp [*]; done), by repeat (first | exact Drawn0.refl _ | apply Drawn0.step)⟩
end Go.Proofs.YtmecbmgfacpecaaGreatDoor.Pr
namespace Go.Proofs.YtmecbmgfacpecaaGreatDoor.Pr
open Go.RowKit Go.Proofs.YtmecbmgfacpecaaGreatDoorW.PrintWords Go.Proofs.YtmecbmgfacpecaaGreatDoorW.PrintLast Go.Proofs.YtmecbmgfacpecaaGreatDoorW.PrintMore
attribute [local go_sem] max2_int min2_int max_two min_two max_three min_three max_four min_four   -- for this text's walks alone
set_option linter.unusedVariables false
set_option linter.unusedSimpArgs false
def spec_cronSame.l0 : Nat → ByteArray → ByteArray → Int → Int → Option (Bool)
 | 0, _, _, _, _ => none
 | k + 1, x0, x1, x12, x13 => if x13 < x12 then (if 0 ≤ x13 then (if x13 < (x0.size : Int) then ((spec_cronUpper.f (bt x0 x13)).bind fun t130 => (if x13 < (x1.size : Int) then ((spec_cronUpper.f (bt x1 x13)).bind fun t131 => (if t130 = t131 then (spec_cronSame.l0 k x0 x1 x12 (wrap64 (x13 + 1))) else (some false))) else (none))) else (none)) else (none)) else (some true)
def spec_cronSame.f (k : Nat) (a0 : ByteArray) (a1 : ByteArray) : Option (Bool) := if (a0.size : Int) = (a1.size : Int) then (spec_cronSame.l0 k a0 a1 (a0.size : Int) 0) else (some false)
theorem spec_cronSame.mono_l : ∀ k, (∀ y0 y1 y2 y3, LeO (spec_cronSame.l0 k y0 y1 y2 y3) (spec_cronSame.l0 (k + 1) y0 y1 y2 y3))
 | 0 => fun _ _ _ _ r h => by simp [spec_cronSame.l0] at h
 | k + 1 => by
  have ih0 := spec_cronSame.mono_l k
  ·intro y0 y1 y2 y3
   unfold spec_cronSame.l0
   repeat' first
   | (with_reducible exact ih0 _ _ _ _)
   | (with_reducible exact LeO.refl _)
   | (with_reducible exact LeO.none _)
   | (with_reducible refine LeO.ite ?_ ?_)
   | (with_reducible refine LeO.bind ?_ (fun _ => ?_))
   | exact ih0 _ _ _ _
   | exact LeO.none _
   | refine LeO.ite ?_ ?_
   | refine LeO.bind ?_ (fun _ => ?_)
theorem spec_cronSame.mono : ∀ a0 a1 k, LeO (spec_cronSame.f k a0 a1) (spec_cronSame.f (k + 1) a0 a1) := by
 intro a0 a1 k
 have ih0 := spec_cronSame.mono_l k
 unfold spec_cronSame.f
 repeat' first
   | (with_reducible exact ih0 _ _ _ _)
   | (with_reducible exact LeO.refl _)
   | (with_reducible exact LeO.none _)
   | (with_reducible refine LeO.ite ?_ ?_)
   | (with_reducible refine LeO.bind ?_ (fun _ => ?_))
   | exact ih0 _ _ _ _
   | exact LeO.none _
   | refine LeO.ite ?_ ?_
   | refine LeO.bind ?_ (fun _ => ?_)
set_option maxHeartbeats 8000000 in
set_option maxRecDepth 100000 in
theorem spec_cronSame.calls (k : Nat) (a0 : ByteArray) (a1 : ByteArray) (r : Bool) (w : World) (h : spec_cronSame.f k a0 a1 = some r) :
  Calls Tryz.prog 190 #[.string a0, .string a1] w fun e w' => e = .returned (.bool r) ∧ Drawn0 w w' := by
 have H : (if (a0.size : Int) = (a1.size : Int) then (spec_cronSame.l0 k a0 a1 (a0.size : Int) 0) else (some false)) = some r := h
 clear h
 by_cases c3 : (a0.size : Int) = (a1.size : Int)
 ·rw [if_pos c3] at H
  have c3b0 : ((a0.size : Int) == (a1.size : Int)) = true := beq_iff_eq.mpr c3
  have c3b1 : ((a0.size : Int) != (a1.size : Int)) = false := bne_eq_false_iff_eq.mpr c3
  have c3b2 : (a0.size == a1.size) = true := by first | simpa using c3 | (simp at c3 ⊢; omega)
  clear c3
  have H' := Aside0.mk H
  clear H
  go_enter Tryz.func190, Tryz.ntmps190
  go_wp2
  repeat (go_quiet (fail); try go_wp2)
  go_loopg [13] k (fun kq v13 w' => ∃ (x13_1 : Int), v13 = .int .i64 x13_1 ∧ Aside0 (spec_cronSame.l0 kq a0 a1 (a0.size : Int) x13_1 = some r) ∧ Aside0 (kq ≤ k) ∧ Drawn0 w w')
  case atStart => exact ⟨(0), (by first | rfl | (simp; done) | (simp [*]; done)), H', ⟨Nat.le_refl _⟩, by repeat (first | exact Drawn0.refl _ | apply Drawn0.step)⟩
  case round =>
   clear H'
   try clear c1
   try clear p2
   try clear c3
   try clear c3b0
   try clear c3b1
   try clear c3b2
   obtain ⟨x13_1, rfl, HA, HK1, ⟨m1, rfl⟩⟩ := hrel
   cases gk with
   | zero => exact absurd HA.out (by simp [spec_cronSame.l0])
   | succ k1 =>
    have H := HA.out
    clear HA
    simp only [spec_cronSame.l0] at H
    by_cases c4 : x13_1 < (a0.size : Int)
    ·rw [if_pos c4] at H
     have c4b0 : decide (x13_1 < (a0.size : Int)) = true := decide_eq_true c4
     clear c4
     by_cases c5 : 0 ≤ x13_1
     ·rw [if_pos c5] at H
      have c5b0 : decide (0 ≤ x13_1) = true := decide_eq_true c5
      clear c5
      by_cases c6 : x13_1 < (a0.size : Int)
      ·rw [if_pos c6] at H
       have c6b0 : decide (x13_1 < (a0.size : Int)) = true := decide_eq_true c6
       clear c6
       replace H := Option.bind_eq_some_iff.mp H
       obtain ⟨t130, A80, H⟩ := H
       replace H : (if x13_1 < (a1.size : Int) then ((spec_cronUpper.f (bt a1 x13_1)).bind fun t131 => (if t130 = t131 then (spec_cronSame.l0 k1 a0 a1 (a0.size : Int) (wrap64 (x13_1 + 1))) else (some false))) else (none)) = some r := H
       have A8 := Aside0.mk A80
       clear A80
       by_cases c9 : x13_1 < (a1.size : Int)
       ·rw [if_pos c9] at H
        have c9b0 : decide (x13_1 < (a1.size : Int)) = true := decide_eq_true c9
        clear c9
        replace H := Option.bind_eq_some_iff.mp H
        obtain ⟨t131, A110, H⟩ := H
        replace H : (if t130 = t131 then (spec_cronSame.l0 k1 a0 a1 (a0.size : Int) (wrap64 (x13_1 + 1))) else (some false)) = some r := H
        have A11 := Aside0.mk A110
        clear A110
        by_cases c12 : t130 = t131
        ·rw [if_pos c12] at H
         have c12b0 : (t130 == t131) = true := beq_iff_eq.mpr c12
         have c12b1 : (t130 != t131) = false := bne_eq_false_iff_eq.mpr c12
         clear c12
         have H' := Aside0.mk H
         clear H
         have p7 : 0 ≤ (x13_1 : Int) := of_decide_eq_true (by first | (with_reducible assumption) | assumption)
         have q7 : x13_1 < (a0.size : Int) := of_decide_eq_true (by first | (with_reducible assumption) | assumption)
         have hx7 := bt_at a0 x13_1
         replace p7 := eq_true p7
         replace q7 := eq_true q7
         go_wp2_with (first | (go_at_call 215; (with_reducible refine (spec_cronUpper.calls (bt a0 x13_1) t130 _ A8.out).mono ?_); rintro e w' ⟨rfl, ⟨nd, rfl⟩⟩; (try first | exact ⟨rfl, _, World.drewN_drewN _ _ _⟩ | exact ⟨rfl, _, Eq.trans (World.drewN_drewN _ _ _) (congrArg (World.drewN _) (Nat.add_assoc _ _ _))⟩); have p10 : 0 ≤ (x13_1 : Int) := of_decide_eq_true (by first | (with_reducible assumption) | assumption); have q10 : x13_1 < (a1.size : Int) := of_decide_eq_true (by first | (with_reducible assumption) | assumption); have hx10 := bt_at a1 x13_1; replace p10 := eq_true p10; replace q10 := eq_true q10) | (go_at_call 215; (with_reducible refine (spec_cronUpper.calls (bt a1 x13_1) t131 _ A11.out).mono ?_); rintro e w' ⟨rfl, ⟨nd, rfl⟩⟩; (try first | exact ⟨rfl, _, World.drewN_drewN _ _ _⟩ | exact ⟨rfl, _, Eq.trans (World.drewN_drewN _ _ _) (congrArg (World.drewN _) (Nat.add_assoc _ _ _))⟩)))
         repeat (go_quiet (first | (go_at_call 215; (with_reducible refine (spec_cronUpper.calls (bt a0 x13_1) t130 _ A8.out).mono ?_); rintro e w' ⟨rfl, ⟨nd, rfl⟩⟩; (try first | exact ⟨rfl, _, World.drewN_drewN _ _ _⟩ | exact ⟨rfl, _, Eq.trans (World.drewN_drewN _ _ _) (congrArg (World.drewN _) (Nat.add_assoc _ _ _))⟩); have p10 : 0 ≤ (x13_1 : Int) := of_decide_eq_true (by first | (with_reducible assumption) | assumption); have q10 : x13_1 < (a1.size : Int) := of_decide_eq_true (by first | (with_reducible assumption) | assumption); have hx10 := bt_at a1 x13_1; replace p10 := eq_true p10; replace q10 := eq_true q10) | (go_at_call 215; (with_reducible refine (spec_cronUpper.calls (bt a1 x13_1) t131 _ A11.out).mono ?_); rintro e w' ⟨rfl, ⟨nd, rfl⟩⟩; (try first | exact ⟨rfl, _, World.drewN_drewN _ _ _⟩ | exact ⟨rfl, _, Eq.trans (World.drewN_drewN _ _ _) (congrArg (World.drewN _) (Nat.add_assoc _ _ _))⟩))); try go_wp2_with (first | (go_at_call 215; (with_reducible refine (spec_cronUpper.calls (bt a0 x13_1) t130 _ A8.out).mono ?_); rintro e w' ⟨rfl, ⟨nd, rfl⟩⟩; (try first | exact ⟨rfl, _, World.drewN_drewN _ _ _⟩ | exact ⟨rfl, _, Eq.trans (World.drewN_drewN _ _ _) (congrArg (World.drewN _) (Nat.add_assoc _ _ _))⟩); have p10 : 0 ≤ (x13_1 : Int) := of_decide_eq_true (by first | (with_reducible assumption) | assumption); have q10 : x13_1 < (a1.size : Int) := of_decide_eq_true (by first | (with_reducible assumption) | assumption); have hx10 := bt_at a1 x13_1; replace p10 := eq_true p10; replace q10 := eq_true q10) | (go_at_call 215; (with_reducible refine (spec_cronUpper.calls (bt a1 x13_1) t131 _ A11.out).mono ?_); rintro e w' ⟨rfl, ⟨nd, rfl⟩⟩; (try first | exact ⟨rfl, _, World.drewN_drewN _ _ _⟩ | exact ⟨rfl, _, Eq.trans (World.drewN_drewN _ _ _) (congrArg (World.drewN _) (Nat.add_assoc _ _ _))⟩))))
         go_roundg k1
         case measure => have := HK1.out; omega
         case rel => exact ⟨(wrap64 (x13_1 + 1)), (by first | rfl | (simp; done) | (simp [*]; done)), H', ⟨by have := HK1.out; omega⟩, by repeat (first | exact Drawn0.refl _ | apply Drawn0.step)⟩
        ·rw [if_neg c12] at H
         have c12b0 : (t130 == t131) = false := beq_eq_false_iff_ne.mpr c12
         have c12b1 : (t130 != t131) = true := bne_iff_ne.mpr c12
         obtain rfl := Option.some.inj H
         have p7 : 0 ≤ (x13_1 : Int) := of_decide_eq_true (by first | (with_reducible assumption) | assumption)
         have q7 : x13_1 < (a0.size : Int) := of_decide_eq_true (by first | (with_reducible assumption) | assumption)
         have hx7 := bt_at a0 x13_1
         replace p7 := eq_true p7
         replace q7 := eq_true q7
         go_wp2_with (first | (go_at_call 215; (with_reducible refine (spec_cronUpper.calls (bt a0 x13_1) t130 _ A8.out).mono ?_); rintro e w' ⟨rfl, ⟨nd, rfl⟩⟩; (try first | exact ⟨rfl, _, World.drewN_drewN _ _ _⟩ | exact ⟨rfl, _, Eq.trans (World.drewN_drewN _ _ _) (congrArg (World.drewN _) (Nat.add_assoc _ _ _))⟩); have p10 : 0 ≤ (x13_1 : Int) := of_decide_eq_true (by first | (with_reducible assumption) | assumption); have q10 : x13_1 < (a1.size : Int) := of_decide_eq_true (by first | (with_reducible assumption) | assumption); have hx10 := bt_at a1 x13_1; replace p10 := eq_true p10; replace q10 := eq_true q10) | (go_at_call 215; (with_reducible refine (spec_cronUpper.calls (bt a1 x13_1) t131 _ A11.out).mono ?_); rintro e w' ⟨rfl, ⟨nd, rfl⟩⟩; (try first | exact ⟨rfl, _, World.drewN_drewN _ _ _⟩ | exact ⟨rfl, _, Eq.trans (World.drewN_drewN _ _ _) (congrArg (World.drewN _) (Nat.add_assoc _ _ _))⟩)))
         repeat (go_quiet (first | (go_at_call 215; (with_reducible refine (spec_cronUpper.calls (bt a0 x13_1) t130 _ A8.out).mono ?_); rintro e w' ⟨rfl, ⟨nd, rfl⟩⟩; (try first | exact ⟨rfl, _, World.drewN_drewN _ _ _⟩ | exact ⟨rfl, _, Eq.trans (World.drewN_drewN _ _ _) (congrArg (World.drewN _) (Nat.add_assoc _ _ _))⟩); have p10 : 0 ≤ (x13_1 : Int) := of_decide_eq_true (by first | (with_reducible assumption) | assumption); have q10 : x13_1 < (a1.size : Int) := of_decide_eq_true (by first | (with_reducible assumption) | assumption); have hx10 := bt_at a1 x13_1; replace p10 := eq_true p10; replace q10 := eq_true q10) | (go_at_call 215; (with_reducible refine (spec_cronUpper.calls (bt a1 x13_1) t131 _ A11.out).mono ?_); rintro e w' ⟨rfl, ⟨nd, rfl⟩⟩; (try first | exact ⟨rfl, _, World.drewN_drewN _ _ _⟩ | exact ⟨rfl, _, Eq.trans (World.drewN_drewN _ _ _) (congrArg (World.drewN _) (Nat.add_assoc _ _ _))⟩))); try go_wp2_with (first | (go_at_call 215; (with_reducible refine (spec_cronUpper.calls (bt a0 x13_1) t130 _ A8.out).mono ?_); rintro e w' ⟨rfl, ⟨nd, rfl⟩⟩; (try first | exact ⟨rfl, _, World.drewN_drewN _ _ _⟩ | exact ⟨rfl, _, Eq.trans (World.drewN_drewN _ _ _) (congrArg (World.drewN _) (Nat.add_assoc _ _ _))⟩); have p10 : 0 ≤ (x13_1 : Int) := of_decide_eq_true (by first | (with_reducible assumption) | assumption); have q10 : x13_1 < (a1.size : Int) := of_decide_eq_true (by first | (with_reducible assumption) | assumption); have hx10 := bt_at a1 x13_1; replace p10 := eq_true p10; replace q10 := eq_true q10) | (go_at_call 215; (with_reducible refine (spec_cronUpper.calls (bt a1 x13_1) t131 _ A11.out).mono ?_); rintro e w' ⟨rfl, ⟨nd, rfl⟩⟩; (try first | exact ⟨rfl, _, World.drewN_drewN _ _ _⟩ | exact ⟨rfl, _, Eq.trans (World.drewN_drewN _ _ _) (congrArg (World.drewN _) (Nat.add_assoc _ _ _))⟩))))
         go_ret
         exact ⟨by first | rfl | (simp; done) | (simp [*]; done), by repeat (first | exact Drawn0.refl _ | apply Drawn0.step)⟩
       ·rw [if_neg c9] at H
        exact absurd H (by simp)
      ·rw [if_neg c6] at H
       exact absurd H (by simp)
     ·rw [if_neg c5] at H
      exact absurd H (by simp)
    ·rw [if_neg c4] at H
     have c4b0 : decide (x13_1 < (a0.size : Int)) = false := decide_eq_false c4
     clear c4
     obtain rfl := Option.some.inj H
     go_wp2
     repeat (go_quiet (fail); try go_wp2)
     go_ret
     exact ⟨by first | rfl | (simp; done) | (simp [*]; done), by repeat (first | exact Drawn0.refl _ | apply Drawn0.step)⟩
 ·rw [if_neg c3] at H
  have c3b0 : ((a0.size : Int) == (a1.size : Int)) = false := beq_eq_false_iff_ne.mpr c3
  have c3b1 : ((a0.size : Int) != (a1.size : Int)) = true := bne_iff_ne.mpr c3
  have c3b2 : (a0.size == a1.size) = false := by first | simpa using c3 | (simp at c3 ⊢; omega)
  obtain rfl := Option.some.inj H
  go_enter Tryz.func190, Tryz.ntmps190
  go_wp2
  repeat (go_quiet (fail); try go_wp2)
  go_ret
  exact ⟨by first | rfl | (simp; done) | (simp [*]; done), by repeat (first | exact Drawn0.refl _ | apply Drawn0.step)⟩
end Go.Proofs.YtmecbmgfacpecaaGreatDoor.Pr
namespace Go.Proofs.YtmecbmgfacpecaaGreatDoor.Pr
open Go.RowKit Go.Proofs.YtmecbmgfacpecaaGreatDoorW.PrintWords Go.Proofs.YtmecbmgfacpecaaGreatDoorW.PrintLast Go.Proofs.YtmecbmgfacpecaaGreatDoorW.PrintMore
attribute [local go_sem] max2_int min2_int max_two min_two max_three min_three max_four min_four   -- for this text's walks alone
set_option linter.unusedVariables false
set_option linter.unusedSimpArgs false
mutual
def spec_CronName.j0 : Nat → Int → Int → ByteArray → Option (ByteArray)
 | 0, _, _, _ => none
 | k + 1, x0, x1, x5 => if x0 = 5 then (spec_CronName.j1 k x0 x1 (⟨#[83, 85, 78, 77, 79, 78, 84, 85, 69, 87, 69, 68, 84, 72, 85, 70, 82, 73, 83, 65, 84]⟩ : ByteArray)) else (spec_CronName.j1 k x0 x1 x5)
def spec_CronName.j1 : Nat → Int → Int → ByteArray → Option (ByteArray)
 | 0, _, _, _ => none
 | k + 1, x0, x1, x5 => if x5.toList = ([] : List UInt8) then (some (⟨#[]⟩ : ByteArray)) else ((spec_CronLow.f x0).bind fun t132 => (if x1 < t132 then (some (⟨#[]⟩ : ByteArray)) else ((spec_CronHigh.f x0).bind fun t133 => (if x1 > t133 then (some (⟨#[]⟩ : ByteArray)) else (if 0 ≤ (wrap64 (3 * x1)) then (if (wrap64 (3 * x1)) ≤ (wrap64 ((wrap64 (3 * x1)) + 3)) then (if (wrap64 ((wrap64 (3 * x1)) + 3)) ≤ (x5.size : Int) then (some (x5.extract ((wrap64 (3 * x1)) : Int).toNat ((wrap64 ((wrap64 (3 * x1)) + 3)) : Int).toNat)) else (none)) else (none)) else (none))))))
end
def spec_CronName.f (k : Nat) (a0 : Int) (a1 : Int) : Option (ByteArray) := if a0 = 4 then (spec_CronName.j0 k a0 a1 (⟨#[46, 46, 46, 74, 65, 78, 70, 69, 66, 77, 65, 82, 65, 80, 82, 77, 65, 89, 74, 85, 78, 74, 85, 76, 65, 85, 71, 83, 69, 80, 79, 67, 84, 78, 79, 86, 68, 69, 67]⟩ : ByteArray)) else (spec_CronName.j0 k a0 a1 (⟨#[]⟩ : ByteArray))
theorem spec_CronName.mono_l : ∀ k, (∀ y0 y1 y2, LeO (spec_CronName.j0 k y0 y1 y2) (spec_CronName.j0 (k + 1) y0 y1 y2)) ∧ (∀ y0 y1 y2, LeO (spec_CronName.j1 k y0 y1 y2) (spec_CronName.j1 (k + 1) y0 y1 y2))
 | 0 => ⟨fun _ _ _ r h => by simp [spec_CronName.j0] at h, fun _ _ _ r h => by simp [spec_CronName.j1] at h⟩
 | k + 1 => by
  obtain ⟨ih0, ih1⟩ := spec_CronName.mono_l k
  refine ⟨?_, ?_⟩
  ·intro y0 y1 y2
   unfold spec_CronName.j0
   repeat' first
   | (with_reducible exact ih0 _ _ _)
   | (with_reducible exact ih1 _ _ _)
   | (with_reducible exact LeO.refl _)
   | (with_reducible exact LeO.none _)
   | (with_reducible refine LeO.ite ?_ ?_)
   | (with_reducible refine LeO.bind ?_ (fun _ => ?_))
   | exact ih0 _ _ _
   | exact ih1 _ _ _
   | exact LeO.none _
   | refine LeO.ite ?_ ?_
   | refine LeO.bind ?_ (fun _ => ?_)
  ·intro y0 y1 y2
   unfold spec_CronName.j1
   repeat' first
   | (with_reducible exact ih0 _ _ _)
   | (with_reducible exact ih1 _ _ _)
   | (with_reducible exact LeO.refl _)
   | (with_reducible exact LeO.none _)
   | (with_reducible refine LeO.ite ?_ ?_)
   | (with_reducible refine LeO.bind ?_ (fun _ => ?_))
   | exact ih0 _ _ _
   | exact ih1 _ _ _
   | exact LeO.none _
   | refine LeO.ite ?_ ?_
   | refine LeO.bind ?_ (fun _ => ?_)
theorem spec_CronName.mono : ∀ a0 a1 k, LeO (spec_CronName.f k a0 a1) (spec_CronName.f (k + 1) a0 a1) := by
 intro a0 a1 k
 obtain ⟨ih0, ih1⟩ := spec_CronName.mono_l k
 unfold spec_CronName.f
 repeat' first
   | (with_reducible exact ih0 _ _ _)
   | (with_reducible exact ih1 _ _ _)
   | (with_reducible exact LeO.refl _)
   | (with_reducible exact LeO.none _)
   | (with_reducible refine LeO.ite ?_ ?_)
   | (with_reducible refine LeO.bind ?_ (fun _ => ?_))
   | exact ih0 _ _ _
   | exact ih1 _ _ _
   | exact LeO.none _
   | refine LeO.ite ?_ ?_
   | refine LeO.bind ?_ (fun _ => ?_)
set_option maxHeartbeats 8000000 in
set_option maxRecDepth 100000 in
theorem spec_CronName.calls (k : Nat) (a0 : Int) (a1 : Int) (r : ByteArray) (w : World) (h : spec_CronName.f k a0 a1 = some r) :
  Calls Tryz.prog 191 #[.int .i64 a0, .int .i64 a1] w fun e w' => e = .returned (.string r) ∧ Drawn0 w w' := by
 have H : (if a0 = 4 then (spec_CronName.j0 k a0 a1 (⟨#[46, 46, 46, 74, 65, 78, 70, 69, 66, 77, 65, 82, 65, 80, 82, 77, 65, 89, 74, 85, 78, 74, 85, 76, 65, 85, 71, 83, 69, 80, 79, 67, 84, 78, 79, 86, 68, 69, 67]⟩ : ByteArray)) else (spec_CronName.j0 k a0 a1 (⟨#[]⟩ : ByteArray))) = some r := h
 clear h
 have HC3 := Aside0.mk H
 clear H
 go_enter Tryz.func191, Tryz.ntmps191
 go_upto_if 7 with (fail)
 go_cut [5] (fun v5 wc => ∃ (kq : Nat) (x5_2 : ByteArray), v5 = .string x5_2 ∧ Aside0 (spec_CronName.j0 kq a0 a1 x5_2 = some r) ∧ Aside0 (kq ≤ k) ∧ Drawn0 w wc)
 case first =>
  have H := HC3.out
  clear HC3
  by_cases c4 : a0 = 4
  ·rw [if_pos c4] at H
   have c4b0 : (a0 == 4) = true := beq_iff_eq.mpr c4
   have c4b1 : (a0 != 4) = false := bne_eq_false_iff_eq.mpr c4
   clear c4
   (first | rw [c4b0] | (simp only [i64_w, i32_w]; rw [c4b0]) | skip)
   have H' := Aside0.mk H
   clear H
   go_wp2
   go_meet
   case rel => exact ⟨_, ((⟨#[46, 46, 46, 74, 65, 78, 70, 69, 66, 77, 65, 82, 65, 80, 82, 77, 65, 89, 74, 85, 78, 74, 85, 76, 65, 85, 71, 83, 69, 80, 79, 67, 84, 78, 79, 86, 68, 69, 67]⟩ : ByteArray)), (by first | rfl | (simp; done) | (simp [*]; done)), H', ⟨by first | omega | exact Nat.le_refl _⟩, by repeat (first | exact Drawn0.refl _ | apply Drawn0.step)⟩
  ·rw [if_neg c4] at H
   have c4b0 : (a0 == 4) = false := beq_eq_false_iff_ne.mpr c4
   have c4b1 : (a0 != 4) = true := bne_iff_ne.mpr c4
   (first | rw [c4b0] | (simp only [i64_w, i32_w]; rw [c4b0]) | skip)
   have H' := Aside0.mk H
   clear H
   go_wp2
   go_meet
   case rel => exact ⟨_, ((⟨#[]⟩ : ByteArray)), (by first | rfl | (simp; done) | (simp [*]; done)), H', ⟨by first | omega | exact Nat.le_refl _⟩, by repeat (first | exact Drawn0.refl _ | apply Drawn0.step)⟩
 case rest =>
  clear HC3
  try clear c1
  try clear p2
  try clear c4
  try clear c4b0
  try clear c4b1
  obtain ⟨kq, x5_2, rfl, HA, HJ2, ⟨mc2, rfl⟩⟩ := hcut
  cases kq with
  | zero => exact absurd HA.out (by simp [spec_CronName.j0])
  | succ kj2 =>
   have H := HA.out
   clear HA
   simp only [spec_CronName.j0] at H
   have HC5 := Aside0.mk H
   clear H
   go_upto_if 9 with (fail)
   go_cut [5] (fun v5 wc => ∃ (kq : Nat) (x5_4 : ByteArray), v5 = .string x5_4 ∧ Aside0 (spec_CronName.j1 kq a0 a1 x5_4 = some r) ∧ Aside0 (kq ≤ kj2) ∧ Drawn0 w wc)
   case first =>
    have H := HC5.out
    clear HC5
    by_cases c6 : a0 = 5
    ·rw [if_pos c6] at H
     have c6b0 : (a0 == 5) = true := beq_iff_eq.mpr c6
     have c6b1 : (a0 != 5) = false := bne_eq_false_iff_eq.mpr c6
     clear c6
     (first | rw [c6b0] | (simp only [i64_w, i32_w]; rw [c6b0]) | skip)
     have H' := Aside0.mk H
     clear H
     go_wp2
     go_meet
     case rel => exact ⟨_, ((⟨#[83, 85, 78, 77, 79, 78, 84, 85, 69, 87, 69, 68, 84, 72, 85, 70, 82, 73, 83, 65, 84]⟩ : ByteArray)), (by first | rfl | (simp; done) | (simp [*]; done)), H', ⟨by have := HJ2.out; first | omega | exact Nat.le_refl _⟩, by repeat (first | exact Drawn0.refl _ | apply Drawn0.step)⟩
    ·rw [if_neg c6] at H
     have c6b0 : (a0 == 5) = false := beq_eq_false_iff_ne.mpr c6
     have c6b1 : (a0 != 5) = true := bne_iff_ne.mpr c6
     (first | rw [c6b0] | (simp only [i64_w, i32_w]; rw [c6b0]) | skip)
     have H' := Aside0.mk H
     clear H
     go_wp2
     go_meet
     case rel => exact ⟨_, (x5_2), (by first | rfl | (simp; done) | (simp [*]; done)), H', ⟨by have := HJ2.out; first | omega | exact Nat.le_refl _⟩, by repeat (first | exact Drawn0.refl _ | apply Drawn0.step)⟩
   case rest =>
    clear HC5
    try clear c1
    try clear c2
    try clear p2
    try clear c4
    try clear c4b0
    try clear c4b1
    try clear c6
    try clear c6b0
    try clear c6b1
    try clear p2
    obtain ⟨kq, x5_4, rfl, HA, HJ4, ⟨mc4, rfl⟩⟩ := hcut
    cases kq with
    | zero => exact absurd HA.out (by simp [spec_CronName.j1])
    | succ kj4 =>
     have H := HA.out
     clear HA
     simp only [spec_CronName.j1] at H
     by_cases c7 : x5_4.toList = ([] : List UInt8)
     ·rw [if_pos c7] at H
      have c7b0 : (x5_4.toList == ([] : List UInt8)) = true := beq_iff_eq.mpr c7
      have c7b1 : (x5_4.toList != ([] : List UInt8)) = false := bne_eq_false_iff_eq.mpr c7
      clear c7
      obtain rfl := Option.some.inj H
      go_wp2
      go_ret
      exact ⟨by first | rfl | (simp; done) | (simp [*]; done), by repeat (first | exact Drawn0.refl _ | apply Drawn0.step)⟩
     ·rw [if_neg c7] at H
      have c7b0 : (x5_4.toList == ([] : List UInt8)) = false := beq_eq_false_iff_ne.mpr c7
      have c7b1 : (x5_4.toList != ([] : List UInt8)) = true := bne_iff_ne.mpr c7
      replace H := Option.bind_eq_some_iff.mp H
      obtain ⟨t132, A80, H⟩ := H
      replace H : (if a1 < t132 then (some (⟨#[]⟩ : ByteArray)) else ((spec_CronHigh.f a0).bind fun t133 => (if a1 > t133 then (some (⟨#[]⟩ : ByteArray)) else (if 0 ≤ (wrap64 (3 * a1)) then (if (wrap64 (3 * a1)) ≤ (wrap64 ((wrap64 (3 * a1)) + 3)) then (if (wrap64 ((wrap64 (3 * a1)) + 3)) ≤ (x5_4.size : Int) then (some (x5_4.extract ((wrap64 (3 * a1)) : Int).toNat ((wrap64 ((wrap64 (3 * a1)) + 3)) : Int).toNat)) else (none)) else (none)) else (none))))) = some r := H
      have A8 := Aside0.mk A80
      clear A80
      by_cases c9 : a1 < t132
      ·rw [if_pos c9] at H
       have c9b0 : decide (a1 < t132) = true := decide_eq_true c9
       clear c9
       obtain rfl := Option.some.inj H
       go_wp2_with (first | (go_at_call 60; (with_reducible refine (spec_CronLow.calls a0 t132 _ A8.out).mono ?_); rintro e w' ⟨rfl, ⟨nd, rfl⟩⟩))
       go_ret
       exact ⟨by first | rfl | (simp; done) | (simp [*]; done), by repeat (first | exact Drawn0.refl _ | apply Drawn0.step)⟩
      ·rw [if_neg c9] at H
       have c9b0 : decide (a1 < t132) = false := decide_eq_false c9
       clear c9
       replace H := Option.bind_eq_some_iff.mp H
       obtain ⟨t133, A100, H⟩ := H
       replace H : (if a1 > t133 then (some (⟨#[]⟩ : ByteArray)) else (if 0 ≤ (wrap64 (3 * a1)) then (if (wrap64 (3 * a1)) ≤ (wrap64 ((wrap64 (3 * a1)) + 3)) then (if (wrap64 ((wrap64 (3 * a1)) + 3)) ≤ (x5_4.size : Int) then (some (x5_4.extract ((wrap64 (3 * a1)) : Int).toNat ((wrap64 ((wrap64 (3 * a1)) + 3)) : Int).toNat)) else (none)) else (none)) else (none))) = some r := H
       have A10 := Aside0.mk A100
       clear A100
       by_cases c11 : a1 > t133
       ·rw [if_pos c11] at H
        have c11b0 : decide (t133 < a1) = true := decide_eq_true c11
        clear c11
        obtain rfl := Option.some.inj H
        go_wp2_with (first | (go_at_call 60; (with_reducible refine (spec_CronLow.calls a0 t132 _ A8.out).mono ?_); rintro e w' ⟨rfl, ⟨nd, rfl⟩⟩) | (go_at_call 61; (with_reducible refine (spec_CronHigh.calls a0 t133 _ A10.out).mono ?_); rintro e w' ⟨rfl, ⟨nd, rfl⟩⟩))
        go_ret
        exact ⟨by first | rfl | (simp; done) | (simp [*]; done), by repeat (first | exact Drawn0.refl _ | apply Drawn0.step)⟩
       ·rw [if_neg c11] at H
        have c11b0 : decide (t133 < a1) = false := decide_eq_false c11
        clear c11
        obtain ⟨ji12, hji12⟩ : ∃ j_ : Int, (wrap64 (3 * a1)) = j_ := ⟨_, rfl⟩
        replace H : (if 0 ≤ (ji12) then (if (ji12) ≤ (wrap64 ((ji12) + 3)) then (if (wrap64 ((ji12) + 3)) ≤ (x5_4.size : Int) then (some (x5_4.extract ((ji12) : Int).toNat ((wrap64 ((ji12) + 3)) : Int).toNat)) else (none)) else (none)) else (none)) = some r := by first | (rw [hji12] at H; exact H) | (simp only [hji12] at H ⊢; exact H)
        (try rw [hji12] at A8)
        (try rw [hji12] at A10)
        have hji12w : (IntKind.i64.wrap (3 * a1)) = ji12 := (i64_w _).trans hji12
        by_cases c13 : 0 ≤ (ji12)
        ·rw [if_pos c13] at H
         have c13b0 := eq_true c13
         have c13b1 : decide (0 ≤ (ji12)) = true := decide_eq_true c13
         clear c13
         by_cases c14 : (ji12) ≤ (wrap64 ((ji12) + 3))
         ·rw [if_pos c14] at H
          have c14b0 := eq_true c14
          have c14b1 : decide ((ji12) ≤ (wrap64 ((ji12) + 3))) = true := decide_eq_true c14
          by_cases c15 : (wrap64 ((ji12) + 3)) ≤ (x5_4.size : Int)
          ·rw [if_pos c15] at H
           have c15b0 := eq_true c15
           have c15b1 : decide ((wrap64 ((ji12) + 3)) ≤ (x5_4.size : Int)) = true := decide_eq_true c15
           obtain rfl := Option.some.inj H
           go_wp2_with (first | (go_at_call 60; (with_reducible refine (spec_CronLow.calls a0 t132 _ A8.out).mono ?_); rintro e w' ⟨rfl, ⟨nd, rfl⟩⟩) | (go_at_call 61; (with_reducible refine (spec_CronHigh.calls a0 t133 _ A10.out).mono ?_); rintro e w' ⟨rfl, ⟨nd, rfl⟩⟩))
           go_ret
           exact ⟨by first | rfl | (simp; done) | (simp only [← hji12] <;> (first | rfl | simp)) | (simp [*]; done), by repeat (first | exact Drawn0.refl _ | apply Drawn0.step)⟩
          ·rw [if_neg c15] at H
           exact absurd H (by simp)
         ·rw [if_neg c14] at H
          exact absurd H (by simp)
        ·rw [if_neg c13] at H
         exact absurd H (by simp)
end Go.Proofs.YtmecbmgfacpecaaGreatDoor.Pr
namespace Go.Proofs.YtmecbmgfacpecaaGreatDoor.Pr
open Go.RowKit Go.Proofs.YtmecbmgfacpecaaGreatDoorW.PrintWords Go.Proofs.YtmecbmgfacpecaaGreatDoorW.PrintLast Go.Proofs.YtmecbmgfacpecaaGreatDoorW.PrintMore
attribute [local go_sem] max2_int min2_int max_two min_two max_three min_three max_four min_four   -- for this text's walks alone
set_option linter.unusedVariables false
set_option linter.unusedSimpArgs false
mutual
def spec_CronValue.j0 : Nat → Int → ByteArray → Bool → Option (Int × Int)
 | 0, _, _, _ => none
 | k + 1, x0, x1, x6 => if x6 = true then ((spec_CronLow.f x0).bind fun t134 => (spec_CronValue.l0 k x0 x1 x6 t134)) else (spec_CronValue.j2 k x1 x6)
def spec_CronValue.j2 : Nat → ByteArray → Bool → Option (Int × Int)
 | 0, _, _ => none
 | k + 1, x1, x6 => if x6 = true then ((spec_cronForeign.f k x1).bind fun t138 => (if t138 = true then (some (0, 2)) else ((spec_CronNumber.f k x1).bind fun bt139 => (some (bt139.1, bt139.2))))) else ((spec_CronNumber.f k x1).bind fun bt141 => (some (bt141.1, bt141.2)))
def spec_CronValue.l0 : Nat → Int → ByteArray → Bool → Int → Option (Int × Int)
 | 0, _, _, _, _ => none
 | k + 1, x0, x1, x6, x7 => (spec_CronHigh.f x0).bind fun t135 => (if x7 ≤ t135 then ((spec_CronName.f k x0 x7).bind fun t136 => ((spec_cronSame.f k t136 x1).bind fun t137 => (if t137 = true then (some (x7, 1)) else (spec_CronValue.l0 k x0 x1 x6 (wrap64 (x7 + 1)))))) else (spec_CronValue.j2 k x1 x6))
end
def spec_CronValue.f (k : Nat) (a0 : Int) (a1 : ByteArray) : Option (Int × Int) := if a0 = 4 then (spec_CronValue.j0 k a0 a1 true) else (spec_CronValue.j0 k a0 a1 (a0 == 5))
theorem spec_CronValue.mono_l : ∀ k, (∀ y0 y1 y2, LeO (spec_CronValue.j0 k y0 y1 y2) (spec_CronValue.j0 (k + 1) y0 y1 y2)) ∧ (∀ y0 y1, LeO (spec_CronValue.j2 k y0 y1) (spec_CronValue.j2 (k + 1) y0 y1)) ∧ (∀ y0 y1 y2 y3, LeO (spec_CronValue.l0 k y0 y1 y2 y3) (spec_CronValue.l0 (k + 1) y0 y1 y2 y3))
 | 0 => ⟨fun _ _ _ r h => by simp [spec_CronValue.j0] at h, fun _ _ r h => by simp [spec_CronValue.j2] at h, fun _ _ _ _ r h => by simp [spec_CronValue.l0] at h⟩
 | k + 1 => by
  obtain ⟨ih0, ih1, ih2⟩ := spec_CronValue.mono_l k
  refine ⟨?_, ?_, ?_⟩
  ·intro y0 y1 y2
   unfold spec_CronValue.j0
   repeat' first
   | (with_reducible exact ih0 _ _ _)
   | (with_reducible exact ih1 _ _)
   | (with_reducible exact ih2 _ _ _ _)
   | (with_reducible exact spec_CronName.mono _ _ _)
   | (with_reducible exact spec_CronNumber.mono _ _)
   | (with_reducible exact spec_cronForeign.mono _ _)
   | (with_reducible exact spec_cronSame.mono _ _ _)
   | (with_reducible exact LeO.refl _)
   | (with_reducible exact LeO.none _)
   | (with_reducible refine LeO.ite ?_ ?_)
   | (with_reducible refine LeO.bind ?_ (fun _ => ?_))
   | exact ih0 _ _ _
   | exact ih1 _ _
   | exact ih2 _ _ _ _
   | exact spec_CronName.mono _ _ _
   | exact spec_CronNumber.mono _ _
   | exact spec_cronForeign.mono _ _
   | exact spec_cronSame.mono _ _ _
   | exact LeO.none _
   | refine LeO.ite ?_ ?_
   | refine LeO.bind ?_ (fun _ => ?_)
  ·intro y0 y1
   unfold spec_CronValue.j2
   repeat' first
   | (with_reducible exact ih0 _ _ _)
   | (with_reducible exact ih1 _ _)
   | (with_reducible exact ih2 _ _ _ _)
   | (with_reducible exact spec_CronName.mono _ _ _)
   | (with_reducible exact spec_CronNumber.mono _ _)
   | (with_reducible exact spec_cronForeign.mono _ _)
   | (with_reducible exact spec_cronSame.mono _ _ _)
   | (with_reducible exact LeO.refl _)
   | (with_reducible exact LeO.none _)
   | (with_reducible refine LeO.ite ?_ ?_)
   | (with_reducible refine LeO.bind ?_ (fun _ => ?_))
   | exact ih0 _ _ _
   | exact ih1 _ _
   | exact ih2 _ _ _ _
   | exact spec_CronName.mono _ _ _
   | exact spec_CronNumber.mono _ _
   | exact spec_cronForeign.mono _ _
   | exact spec_cronSame.mono _ _ _
   | exact LeO.none _
   | refine LeO.ite ?_ ?_
   | refine LeO.bind ?_ (fun _ => ?_)
  ·intro y0 y1 y2 y3
   unfold spec_CronValue.l0
   repeat' first
   | (with_reducible exact ih0 _ _ _)
   | (with_reducible exact ih1 _ _)
   | (with_reducible exact ih2 _ _ _ _)
   | (with_reducible exact spec_CronName.mono _ _ _)
   | (with_reducible exact spec_CronNumber.mono _ _)
   | (with_reducible exact spec_cronForeign.mono _ _)
   | (with_reducible exact spec_cronSame.mono _ _ _)
   | (with_reducible exact LeO.refl _)
   | (with_reducible exact LeO.none _)
   | (with_reducible refine LeO.ite ?_ ?_)
   | (with_reducible refine LeO.bind ?_ (fun _ => ?_))
   | exact ih0 _ _ _
   | exact ih1 _ _
   | exact ih2 _ _ _ _
   | exact spec_CronName.mono _ _ _
   | exact spec_CronNumber.mono _ _
   | exact spec_cronForeign.mono _ _
   | exact spec_cronSame.mono _ _ _
   | exact LeO.none _
   | refine LeO.ite ?_ ?_
   | refine LeO.bind ?_ (fun _ => ?_)
theorem spec_CronValue.mono : ∀ a0 a1 k, LeO (spec_CronValue.f k a0 a1) (spec_CronValue.f (k + 1) a0 a1) := by
 intro a0 a1 k
 obtain ⟨ih0, ih1, ih2⟩ := spec_CronValue.mono_l k
 unfold spec_CronValue.f
 repeat' first
   | (with_reducible exact ih0 _ _ _)
   | (with_reducible exact ih1 _ _)
   | (with_reducible exact ih2 _ _ _ _)
   | (with_reducible exact spec_CronName.mono _ _ _)
   | (with_reducible exact spec_CronNumber.mono _ _)
   | (with_reducible exact spec_cronForeign.mono _ _)
   | (with_reducible exact spec_cronSame.mono _ _ _)
   | (with_reducible exact LeO.refl _)
   | (with_reducible exact LeO.none _)
   | (with_reducible refine LeO.ite ?_ ?_)
   | (with_reducible refine LeO.bind ?_ (fun _ => ?_))
   | exact ih0 _ _ _
   | exact ih1 _ _
   | exact ih2 _ _ _ _
   | exact spec_CronName.mono _ _ _
   | exact spec_CronNumber.mono _ _
   | exact spec_cronForeign.mono _ _
   | exact spec_cronSame.mono _ _ _
   | exact LeO.none _
   | refine LeO.ite ?_ ?_
   | refine LeO.bind ?_ (fun _ => ?_)
set_option maxHeartbeats 8000000 in
set_option maxRecDepth 100000 in
theorem spec_CronValue.calls (k : Nat) (a0 : Int) (a1 : ByteArray) (r1 : Int) (r2 : Int) (w : World) (h : spec_CronValue.f k a0 a1 = some (r1, r2)) :
  Calls Tryz.prog 156 #[.int .i64 a0, .string a1] w fun e w' => e = .returned (.tuple #[.int .i64 r1, .int .i64 r2]) ∧ Below w.heap.size w w' := by
 have HB := Aside0.mk (Below.refl w.heap.size w)
 have H : (if a0 = 4 then (spec_CronValue.j0 k a0 a1 true) else (spec_CronValue.j0 k a0 a1 (a0 == 5))) = some (r1, r2) := h
 clear h
 have HC3 := Aside0.mk H
 clear H
 go_enter Tryz.func156, Tryz.ntmps156
 go_upto_region 1 with (fail)
 go_cut [6] (fun v6 wc => ∃ (kq : Nat) (x6_2 : Bool), v6 = .bool x6_2 ∧ Aside0 (spec_CronValue.j0 kq a0 a1 x6_2 = some (r1, r2)) ∧ Aside0 (kq ≤ k) ∧ Aside0 (Below w.heap.size w wc))
 case first =>
  have H := HC3.out
  clear HC3
  by_cases c4 : a0 = 4
  ·rw [if_pos c4] at H
   have c4b0 : (a0 == 4) = true := beq_iff_eq.mpr c4
   have c4b1 : (a0 != 4) = false := bne_eq_false_iff_eq.mpr c4
   clear c4
   (first | rw [c4b0] | (simp only [i64_w, i32_w]; rw [c4b0]) | skip)
   have H' := Aside0.mk H
   clear H
   go_wp2
   go_meet
   case rel => exact ⟨_, (true), (by first | rfl | (simp; done) | (simp [*]; done)), H', ⟨by first | omega | exact Nat.le_refl _⟩, ⟨by repeat (first | (with_reducible first | exact HB.out | apply below_alloc | apply pw_below_drewN | apply below_drew1) | exact HB.out)⟩⟩
  ·rw [if_neg c4] at H
   have c4b0 : (a0 == 4) = false := beq_eq_false_iff_ne.mpr c4
   have c4b1 : (a0 != 4) = true := bne_iff_ne.mpr c4
   (first | rw [c4b0] | (simp only [i64_w, i32_w]; rw [c4b0]) | skip)
   have H' := Aside0.mk H
   clear H
   go_wp2
   go_meet
   case rel => exact ⟨_, ((a0 == 5)), (by first | rfl | (simp; done) | (simp [*]; done)), H', ⟨by first | omega | exact Nat.le_refl _⟩, ⟨by repeat (first | (with_reducible first | exact HB.out | apply below_alloc | apply pw_below_drewN | apply below_drew1) | exact HB.out)⟩⟩
 case rest =>
  clear HC3
  try clear c1
  try clear p2
  try clear c4
  try clear c4b0
  try clear c4b1
  obtain ⟨kq, x6_2, rfl, HA, HJ2, HB⟩ := hcut
  cases kq with
  | zero => exact absurd HA.out (by simp [spec_CronValue.j0])
  | succ kj2 =>
   have H := HA.out
   clear HA
   simp only [spec_CronValue.j0] at H
   have HC5 := Aside0.mk H
   clear H
   go_upto_if 14 with (fail)
   go_cut [] (fun wc => ∃ (kq : Nat), Aside0 (spec_CronValue.j2 kq a1 x6_2 = some (r1, r2)) ∧ Aside0 (kq ≤ kj2) ∧ Aside0 (Below w.heap.size w wc))
   case first =>
    have H := HC5.out
    clear HC5
    by_cases c6 : x6_2 = true
    ·subst c6
     have H1 : ((spec_CronLow.f a0).bind fun t134 => (spec_CronValue.l0 kj2 a0 a1 true t134)) = some (r1, r2) := by rw [if_pos rfl] at H; exact H
     clear H
     have H := H1
     clear H1
     replace H := Option.bind_eq_some_iff.mp H
     obtain ⟨t134, A70, H⟩ := H
     replace H : (spec_CronValue.l0 kj2 a0 a1 true t134) = some (r1, r2) := H
     have A7 := Aside0.mk A70
     clear A70
     have H' := Aside0.mk H
     clear H
     go_wp2_with (first | ((with_reducible refine gate_callee (f := 60) rfl ?_); refine goesL_ (some 16) rfl rfl Tryz.func60 (by kernel_rfl) rfl #[.int .i64 a0] rfl (by (try simp only [List.map_toArray, List.map_cons, List.map_nil]); first | done | rfl | (simp only [List.length_drop, List.length_take]; rfl)) ?_; (with_reducible refine (spec_CronLow.calls a0 t134 _ A7.out).mono ?_); rintro e w' ⟨rfl, ⟨nd, rfl⟩⟩; refine ⟨_, rfl, ?_⟩))
     go_loopg [7] kj2 (fun kq v7 w' => ∃ (x7_2 : Int), v7 = .int .i64 x7_2 ∧ Aside0 (spec_CronValue.l0 kq a0 a1 true x7_2 = some (r1, r2)) ∧ Aside0 (kq ≤ kj2) ∧ Aside0 (Below w.heap.size w w'))
     case atStart => exact ⟨(t134), (by first | rfl | (simp; done) | (simp [*]; done)), H', ⟨Nat.le_refl _⟩, ⟨by repeat (first | (with_reducible first | exact HB.out | apply below_alloc | apply pw_below_drewN | apply below_drew1) | exact HB.out)⟩⟩
     case round =>
      clear H'
      try clear c1
      try clear p2
      try clear c4
      try clear c4b0
      try clear c4b1
      try clear c6
      try clear p2
      obtain ⟨x7_2, rfl, HA, HK2, HB⟩ := hrel
      cases gk with
      | zero => exact absurd HA.out (by simp [spec_CronValue.l0])
      | succ k2 =>
       have H := HA.out
       clear HA
       simp only [spec_CronValue.l0] at H
       replace H := Option.bind_eq_some_iff.mp H
       obtain ⟨t135, A80, H⟩ := H
       replace H : (if x7_2 ≤ t135 then ((spec_CronName.f k2 a0 x7_2).bind fun t136 => ((spec_cronSame.f k2 t136 a1).bind fun t137 => (if t137 = true then (some (x7_2, 1)) else (spec_CronValue.l0 k2 a0 a1 true (wrap64 (x7_2 + 1)))))) else (spec_CronValue.j2 k2 a1 true)) = some (r1, r2) := H
       have A8 := Aside0.mk A80
       clear A80
       by_cases c9 : x7_2 ≤ t135
       ·rw [if_pos c9] at H
        have c9b0 : decide (x7_2 ≤ t135) = true := decide_eq_true c9
        clear c9
        (first | rw [c9b0] | (simp only [i64_w, i32_w]; rw [c9b0]) | skip)
        replace H := Option.bind_eq_some_iff.mp H
        obtain ⟨t136, A100, H⟩ := H
        replace H : ((spec_cronSame.f k2 t136 a1).bind fun t137 => (if t137 = true then (some (x7_2, 1)) else (spec_CronValue.l0 k2 a0 a1 true (wrap64 (x7_2 + 1))))) = some (r1, r2) := H
        have A10 := Aside0.mk A100
        clear A100
        replace H := Option.bind_eq_some_iff.mp H
        obtain ⟨t137, A110, H⟩ := H
        replace H : (if t137 = true then (some (x7_2, 1)) else (spec_CronValue.l0 k2 a0 a1 true (wrap64 (x7_2 + 1)))) = some (r1, r2) := H
        have A11 := Aside0.mk A110
        clear A110
        by_cases c12 : t137 = true
        ·subst c12
         have H1 : (some (x7_2, 1)) = some (r1, r2) := by rw [if_pos rfl] at H; exact H
         clear H
         have H := H1
         clear H1
         simp only [Option.some.injEq, Prod.mk.injEq] at H
         obtain ⟨rfl, rfl⟩ := H
         go_wp2_with (first | ((with_reducible refine gate_callee (f := 61) rfl ?_); refine goesL_ (some 19) rfl rfl Tryz.func61 (by kernel_rfl) rfl #[.int .i64 a0] rfl (by (try simp only [List.map_toArray, List.map_cons, List.map_nil]); first | done | rfl | (simp only [List.length_drop, List.length_take]; rfl)) ?_; (with_reducible refine (spec_CronHigh.calls a0 t135 _ A8.out).mono ?_); rintro e w' ⟨rfl, ⟨nd, rfl⟩⟩; refine ⟨_, rfl, ?_⟩) | ((with_reducible refine gate_callee (f := 191) rfl ?_); refine goesL_ (some 25) rfl rfl Tryz.func191 (by kernel_rfl) rfl #[.int .i64 a0, .int .i64 x7_2] rfl (by (try simp only [List.map_toArray, List.map_cons, List.map_nil]); first | done | rfl | (simp only [List.length_drop, List.length_take]; rfl)) ?_; (with_reducible refine (spec_CronName.calls k2 a0 x7_2 t136 _ A10.out).mono ?_); rintro e w' ⟨rfl, ⟨nd, rfl⟩⟩; refine ⟨_, rfl, ?_⟩) | ((with_reducible refine gate_callee (f := 190) rfl ?_); refine goesL_ (some 27) rfl rfl Tryz.func190 (by kernel_rfl) rfl #[.string t136, .string a1] rfl (by (try simp only [List.map_toArray, List.map_cons, List.map_nil]); first | done | rfl | (simp only [List.length_drop, List.length_take]; rfl)) ?_; (with_reducible refine (spec_cronSame.calls k2 t136 a1 true _ A11.out).mono ?_); rintro e w' ⟨rfl, ⟨nd, rfl⟩⟩; refine ⟨_, rfl, ?_⟩))
         go_ret2
         exact ⟨by first | rfl | (simp [errW_none, errW_some] <;> rfl) | (simp [*, errW_none, errW_some] <;> rfl), by repeat (first | (with_reducible first | exact HB.out | apply below_alloc | apply pw_below_drewN | apply below_drew1) | exact HB.out)⟩
        ·replace c12 := Bool.eq_false_iff.mpr c12
         subst c12
         have H1 : (spec_CronValue.l0 k2 a0 a1 true (wrap64 (x7_2 + 1))) = some (r1, r2) := by rw [if_neg (show ¬ (false = true) by decide)] at H; exact H
         clear H
         have H := H1
         clear H1
         have H' := Aside0.mk H
         clear H
         go_wp2_with (first | ((with_reducible refine gate_callee (f := 61) rfl ?_); refine goesL_ (some 19) rfl rfl Tryz.func61 (by kernel_rfl) rfl #[.int .i64 a0] rfl (by (try simp only [List.map_toArray, List.map_cons, List.map_nil]); first | done | rfl | (simp only [List.length_drop, List.length_take]; rfl)) ?_; (with_reducible refine (spec_CronHigh.calls a0 t135 _ A8.out).mono ?_); rintro e w' ⟨rfl, ⟨nd, rfl⟩⟩; refine ⟨_, rfl, ?_⟩) | ((with_reducible refine gate_callee (f := 191) rfl ?_); refine goesL_ (some 25) rfl rfl Tryz.func191 (by kernel_rfl) rfl #[.int .i64 a0, .int .i64 x7_2] rfl (by (try simp only [List.map_toArray, List.map_cons, List.map_nil]); first | done | rfl | (simp only [List.length_drop, List.length_take]; rfl)) ?_; (with_reducible refine (spec_CronName.calls k2 a0 x7_2 t136 _ A10.out).mono ?_); rintro e w' ⟨rfl, ⟨nd, rfl⟩⟩; refine ⟨_, rfl, ?_⟩) | ((with_reducible refine gate_callee (f := 190) rfl ?_); refine goesL_ (some 27) rfl rfl Tryz.func190 (by kernel_rfl) rfl #[.string t136, .string a1] rfl (by (try simp only [List.map_toArray, List.map_cons, List.map_nil]); first | done | rfl | (simp only [List.length_drop, List.length_take]; rfl)) ?_; (with_reducible refine (spec_cronSame.calls k2 t136 a1 false _ A11.out).mono ?_); rintro e w' ⟨rfl, ⟨nd, rfl⟩⟩; refine ⟨_, rfl, ?_⟩))
         go_roundg k2
         case measure => have := HJ2.out; have := HK2.out; omega
         case rel => exact ⟨(wrap64 (x7_2 + 1)), (by first | rfl | (simp; done) | (simp [*]; done)), H', ⟨by have := HJ2.out; have := HK2.out; omega⟩, ⟨by repeat (first | (with_reducible first | exact HB.out | apply below_alloc | apply pw_below_drewN | apply below_drew1) | exact HB.out)⟩⟩
       ·rw [if_neg c9] at H
        have c9b0 : decide (x7_2 ≤ t135) = false := decide_eq_false c9
        clear c9
        (first | rw [c9b0] | (simp only [i64_w, i32_w]; rw [c9b0]) | skip)
        have H' := Aside0.mk H
        clear H
        go_wp2_with (first | ((with_reducible refine gate_callee (f := 61) rfl ?_); refine goesL_ (some 19) rfl rfl Tryz.func61 (by kernel_rfl) rfl #[.int .i64 a0] rfl (by (try simp only [List.map_toArray, List.map_cons, List.map_nil]); first | done | rfl | (simp only [List.length_drop, List.length_take]; rfl)) ?_; (with_reducible refine (spec_CronHigh.calls a0 t135 _ A8.out).mono ?_); rintro e w' ⟨rfl, ⟨nd, rfl⟩⟩; refine ⟨_, rfl, ?_⟩))
        go_meet
        case rel => exact ⟨_, H', ⟨by have := HJ2.out; have := HK2.out; first | omega | exact Nat.le_refl _⟩, ⟨by repeat (first | (with_reducible first | exact HB.out | apply below_alloc | apply pw_below_drewN | apply below_drew1) | exact HB.out)⟩⟩
    ·replace c6 := Bool.eq_false_iff.mpr c6
     subst c6
     have H1 : (spec_CronValue.j2 kj2 a1 false) = some (r1, r2) := by rw [if_neg (show ¬ (false = true) by decide)] at H; exact H
     clear H
     have H := H1
     clear H1
     have H' := Aside0.mk H
     clear H
     go_wp2
     go_meet
     case rel => exact ⟨_, H', ⟨by have := HJ2.out; first | omega | exact Nat.le_refl _⟩, ⟨by repeat (first | (with_reducible first | exact HB.out | apply below_alloc | apply pw_below_drewN | apply below_drew1) | exact HB.out)⟩⟩
   case rest =>
    clear HC5
    try clear c1
    try clear p2
    try clear c4
    try clear c4b0
    try clear c4b1
    try clear c6
    try clear p6
    try clear c9
    try clear c9b0
    try clear c12
    try clear p2
    obtain ⟨kq, HA, HJ4, HB⟩ := hcut
    cases kq with
    | zero => exact absurd HA.out (by simp [spec_CronValue.j2])
    | succ kj4 =>
     have H := HA.out
     clear HA
     simp only [spec_CronValue.j2] at H
     by_cases c13 : x6_2 = true
     ·subst c13
      have H1 : ((spec_cronForeign.f kj4 a1).bind fun t138 => (if t138 = true then (some (0, 2)) else ((spec_CronNumber.f kj4 a1).bind fun bt139 => (some (bt139.1, bt139.2))))) = some (r1, r2) := by rw [if_pos rfl] at H; exact H
      clear H
      have H := H1
      clear H1
      replace H := Option.bind_eq_some_iff.mp H
      obtain ⟨t138, A140, H⟩ := H
      replace H : (if t138 = true then (some (0, 2)) else ((spec_CronNumber.f kj4 a1).bind fun bt139 => (some (bt139.1, bt139.2)))) = some (r1, r2) := H
      have A14 := Aside0.mk A140
      clear A140
      by_cases c15 : t138 = true
      ·subst c15
       have H1 : (some (0, 2)) = some (r1, r2) := by rw [if_pos rfl] at H; exact H
       clear H
       have H := H1
       clear H1
       simp only [Option.some.injEq, Prod.mk.injEq] at H
       obtain ⟨rfl, rfl⟩ := H
       go_wp2_with (first | (go_at_call 92; (with_reducible refine (spec_cronForeign.calls kj4 a1 true _ A14.out).mono ?_); rintro e w' ⟨rfl, ⟨nd, rfl⟩⟩))
       go_ret2
       exact ⟨by first | rfl | (simp [errW_none, errW_some] <;> rfl) | (simp [*, errW_none, errW_some] <;> rfl), by repeat (first | (with_reducible first | exact HB.out | apply below_alloc | apply pw_below_drewN | apply below_drew1) | exact HB.out)⟩
      ·replace c15 := Bool.eq_false_iff.mpr c15
       subst c15
       have H1 : ((spec_CronNumber.f kj4 a1).bind fun bt139 => (some (bt139.1, bt139.2))) = some (r1, r2) := by rw [if_neg (show ¬ (false = true) by decide)] at H; exact H
       clear H
       have H := H1
       clear H1
       replace H := Option.bind_eq_some_iff.mp H
       obtain ⟨⟨t139, t140⟩, A160, H⟩ := H
       replace H : (some (t139, t140)) = some (r1, r2) := H
       have A16 := Aside0.mk A160
       clear A160
       simp only [Option.some.injEq, Prod.mk.injEq] at H
       obtain ⟨rfl, rfl⟩ := H
       go_wp2_with (first | (go_at_call 92; (with_reducible refine (spec_cronForeign.calls kj4 a1 false _ A14.out).mono ?_); rintro e w' ⟨rfl, ⟨nd, rfl⟩⟩) | ((with_reducible refine gate_callee (f := 157) rfl ?_); refine goesL_ (some 35) rfl rfl Tryz.func157 (by kernel_rfl) rfl #[.string a1] rfl (by (try simp only [List.map_toArray, List.map_cons, List.map_nil]); first | done | rfl | (simp only [List.length_drop, List.length_take]; rfl)) ?_; (with_reducible refine (spec_CronNumber.calls kj4 a1 t139 t140 _ A16.out).mono ?_); rintro e w17 ⟨rfl, hb⟩; refine ⟨_, rfl, ?_⟩; have n0_ := Aside0.mk (below_step (by repeat (first | (with_reducible first | exact HB.out | apply below_alloc | apply pw_below_drewN | apply below_drew1) | exact HB.out)) hb); clear HB; have HB := n0_; clear n0_; (try clear hb); (try clear hb2); (try clear hk); (try clear hi)))
       go_ret2
       exact ⟨by first | rfl | (simp [errW_none, errW_some] <;> rfl) | (simp [*, errW_none, errW_some] <;> rfl), by repeat (first | (with_reducible first | exact HB.out | apply below_alloc | apply pw_below_drewN | apply below_drew1) | exact HB.out)⟩
     ·replace c13 := Bool.eq_false_iff.mpr c13
      subst c13
      have H1 : ((spec_CronNumber.f kj4 a1).bind fun bt141 => (some (bt141.1, bt141.2))) = some (r1, r2) := by rw [if_neg (show ¬ (false = true) by decide)] at H; exact H
      clear H
      have H := H1
      clear H1
      replace H := Option.bind_eq_some_iff.mp H
      obtain ⟨⟨t141, t142⟩, A180, H⟩ := H
      replace H : (some (t141, t142)) = some (r1, r2) := H
      have A18 := Aside0.mk A180
      clear A180
      simp only [Option.some.injEq, Prod.mk.injEq] at H
      obtain ⟨rfl, rfl⟩ := H
      go_wp2_with (first | ((with_reducible refine gate_callee (f := 157) rfl ?_); refine goesL_ (some 35) rfl rfl Tryz.func157 (by kernel_rfl) rfl #[.string a1] rfl (by (try simp only [List.map_toArray, List.map_cons, List.map_nil]); first | done | rfl | (simp only [List.length_drop, List.length_take]; rfl)) ?_; (with_reducible refine (spec_CronNumber.calls kj4 a1 t141 t142 _ A18.out).mono ?_); rintro e w19 ⟨rfl, hb⟩; refine ⟨_, rfl, ?_⟩; have n0_ := Aside0.mk (below_step (by repeat (first | (with_reducible first | exact HB.out | apply below_alloc | apply pw_below_drewN | apply below_drew1) | exact HB.out)) hb); clear HB; have HB := n0_; clear n0_; (try clear hb); (try clear hb2); (try clear hk); (try clear hi)))
      go_ret2
      exact ⟨by first | rfl | (simp [errW_none, errW_some] <;> rfl) | (simp [*, errW_none, errW_some] <;> rfl), by repeat (first | (with_reducible first | exact HB.out | apply below_alloc | apply pw_below_drewN | apply below_drew1) | exact HB.out)⟩
end Go.Proofs.YtmecbmgfacpecaaGreatDoor.Pr
