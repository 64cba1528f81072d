/- Functions of the program and of its library as plain Lean functions, printed by the kit's print.sh, merged by wip/tools/pack.py. Conditions: none. -/
import Derived.Test.YtikgnpachlgakaaGreatDoorPrA
namespace Go.Proofs.YtikgnpachlgakaaGreatDoor.Pr
open Go.RowKit Go.Proofs.YtikgnpachlgakaaGreatDoorW.PrintWords Go.Proofs.YtikgnpachlgakaaGreatDoorW.PrintLast Go.Proofs.YtikgnpachlgakaaGreatDoorW.PrintMore
attribute [local go_sem] max2_int min2_int max_two min_two max_three min_three max_four min_four   -- for this text's walks alone
set_option linter.unusedVariables false
set_option linter.unusedSimpArgs false
/-! ### cron_zzSpace: function 52 -/
def cron_zzSpace.f (a0 : Int) : Option (Bool) := if a0 = 9 then (some true) else (if a0 = 10 then (some true) else (if a0 = 11 then (some true) else (if a0 = 12 then (some true) else (if a0 = 13 then (some true) else (if a0 = 32 then (some true) else (if a0 = 133 then (some true) else (if a0 = 160 then (some true) else (if a0 = 5760 then (some true) else (if a0 = 8232 then (some true) else (if a0 = 8233 then (some true) else (if a0 = 8239 then (some true) else (if a0 = 8287 then (some true) else (if a0 = 12288 then (some true) else (if 8192 ≤ a0 then (some (decide (a0 ≤ 8202))) else (some false)))))))))))))))
set_option maxHeartbeats 8000000 in
set_option maxRecDepth 100000 in
theorem cron_zzSpace.calls (a0 : Int) (r : Bool) (w : World) (h : cron_zzSpace.f a0 = some r) :
    Calls Tryz.prog 52 #[.int .i32 a0] w fun e w' => e = .returned (.bool r) ∧ Drawn0 w w' := by
  have H : (if a0 = 9 then (some true) else (if a0 = 10 then (some true) else (if a0 = 11 then (some true) else (if a0 = 12 then (some true) else (if a0 = 13 then (some true) else (if a0 = 32 then (some true) else (if a0 = 133 then (some true) else (if a0 = 160 then (some true) else (if a0 = 5760 then (some true) else (if a0 = 8232 then (some true) else (if a0 = 8233 then (some true) else (if a0 = 8239 then (some true) else (if a0 = 8287 then (some true) else (if a0 = 12288 then (some true) else (if 8192 ≤ a0 then (some (decide (a0 ≤ 8202))) else (some false)))))))))))))))) = some r := h
  clear h
  by_cases c2 : a0 = 9
  · rw [if_pos c2] at H
    have c2b0 : (a0 == 9) = true := beq_iff_eq.mpr c2
    have c2b1 : (a0 != 9) = false := bne_eq_false_iff_eq.mpr c2
    clear c2
    obtain rfl := Option.some.inj H
    go_enter Tryz.func52, Tryz.ntmps52
    go_wp2
    go_ret
    exact ⟨by first | rfl | (simp; done) | (simp [*]; done), by repeat (first | exact Drawn0.refl _ | apply Drawn0.step)⟩
  · rw [if_neg c2] at H
    have c2b0 : (a0 == 9) = false := beq_eq_false_iff_ne.mpr c2
    have c2b1 : (a0 != 9) = true := bne_iff_ne.mpr c2
    by_cases c3 : a0 = 10
    · rw [if_pos c3] at H
      have c3b0 : (a0 == 10) = true := beq_iff_eq.mpr c3
      have c3b1 : (a0 != 10) = false := bne_eq_false_iff_eq.mpr c3
      clear c3
      obtain rfl := Option.some.inj H
      go_enter Tryz.func52, Tryz.ntmps52
      go_wp2
      go_ret
      exact ⟨by first | rfl | (simp; done) | (simp [*]; done), by repeat (first | exact Drawn0.refl _ | apply Drawn0.step)⟩
    · rw [if_neg c3] at H
      have c3b0 : (a0 == 10) = false := beq_eq_false_iff_ne.mpr c3
      have c3b1 : (a0 != 10) = true := bne_iff_ne.mpr c3
      by_cases c4 : a0 = 11
      · rw [if_pos c4] at H
        have c4b0 : (a0 == 11) = true := beq_iff_eq.mpr c4
        have c4b1 : (a0 != 11) = false := bne_eq_false_iff_eq.mpr c4
        clear c4
        obtain rfl := Option.some.inj H
        go_enter Tryz.func52, Tryz.ntmps52
        go_wp2
        go_ret
        exact ⟨by first | rfl | (simp; done) | (simp [*]; done), by repeat (first | exact Drawn0.refl _ | apply Drawn0.step)⟩
      · rw [if_neg c4] at H
        have c4b0 : (a0 == 11) = false := beq_eq_false_iff_ne.mpr c4
        have c4b1 : (a0 != 11) = true := bne_iff_ne.mpr c4
        by_cases c5 : a0 = 12
        · rw [if_pos c5] at H
          have c5b0 : (a0 == 12) = true := beq_iff_eq.mpr c5
          have c5b1 : (a0 != 12) = false := bne_eq_false_iff_eq.mpr c5
          clear c5
          obtain rfl := Option.some.inj H
          go_enter Tryz.func52, Tryz.ntmps52
          go_wp2
          go_ret
          exact ⟨by first | rfl | (simp; done) | (simp [*]; done), by repeat (first | exact Drawn0.refl _ | apply Drawn0.step)⟩
        · rw [if_neg c5] at H
          have c5b0 : (a0 == 12) = false := beq_eq_false_iff_ne.mpr c5
          have c5b1 : (a0 != 12) = true := bne_iff_ne.mpr c5
          by_cases c6 : a0 = 13
          · rw [if_pos c6] at H
            have c6b0 : (a0 == 13) = true := beq_iff_eq.mpr c6
            have c6b1 : (a0 != 13) = false := bne_eq_false_iff_eq.mpr c6
            clear c6
            obtain rfl := Option.some.inj H
            go_enter Tryz.func52, Tryz.ntmps52
            go_wp2
            go_ret
            exact ⟨by first | rfl | (simp; done) | (simp [*]; done), by repeat (first | exact Drawn0.refl _ | apply Drawn0.step)⟩
          · rw [if_neg c6] at H
            have c6b0 : (a0 == 13) = false := beq_eq_false_iff_ne.mpr c6
            have c6b1 : (a0 != 13) = true := bne_iff_ne.mpr c6
            by_cases c7 : a0 = 32
            · rw [if_pos c7] at H
              have c7b0 : (a0 == 32) = true := beq_iff_eq.mpr c7
              have c7b1 : (a0 != 32) = false := bne_eq_false_iff_eq.mpr c7
              clear c7
              obtain rfl := Option.some.inj H
              go_enter Tryz.func52, Tryz.ntmps52
              go_wp2
              go_ret
              exact ⟨by first | rfl | (simp; done) | (simp [*]; done), by repeat (first | exact Drawn0.refl _ | apply Drawn0.step)⟩
            · rw [if_neg c7] at H
              have c7b0 : (a0 == 32) = false := beq_eq_false_iff_ne.mpr c7
              have c7b1 : (a0 != 32) = true := bne_iff_ne.mpr c7
              by_cases c8 : a0 = 133
              · rw [if_pos c8] at H
                have c8b0 : (a0 == 133) = true := beq_iff_eq.mpr c8
                have c8b1 : (a0 != 133) = false := bne_eq_false_iff_eq.mpr c8
                clear c8
                obtain rfl := Option.some.inj H
                go_enter Tryz.func52, Tryz.ntmps52
                go_wp2
                go_ret
                exact ⟨by first | rfl | (simp; done) | (simp [*]; done), by repeat (first | exact Drawn0.refl _ | apply Drawn0.step)⟩
              · rw [if_neg c8] at H
                have c8b0 : (a0 == 133) = false := beq_eq_false_iff_ne.mpr c8
                have c8b1 : (a0 != 133) = true := bne_iff_ne.mpr c8
                by_cases c9 : a0 = 160
                · rw [if_pos c9] at H
                  have c9b0 : (a0 == 160) = true := beq_iff_eq.mpr c9
                  have c9b1 : (a0 != 160) = false := bne_eq_false_iff_eq.mpr c9
                  clear c9
                  obtain rfl := Option.some.inj H
                  go_enter Tryz.func52, Tryz.ntmps52
                  go_wp2
                  go_ret
                  exact ⟨by first | rfl | (simp; done) | (simp [*]; done), by repeat (first | exact Drawn0.refl _ | apply Drawn0.step)⟩
                · rw [if_neg c9] at H
                  have c9b0 : (a0 == 160) = false := beq_eq_false_iff_ne.mpr c9
                  have c9b1 : (a0 != 160) = true := bne_iff_ne.mpr c9
                  by_cases c10 : a0 = 5760
                  · rw [if_pos c10] at H
                    have c10b0 : (a0 == 5760) = true := beq_iff_eq.mpr c10
                    have c10b1 : (a0 != 5760) = false := bne_eq_false_iff_eq.mpr c10
                    clear c10
                    obtain rfl := Option.some.inj H
                    go_enter Tryz.func52, Tryz.ntmps52
                    go_wp2
                    go_ret
                    exact ⟨by first | rfl | (simp; done) | (simp [*]; done), by repeat (first | exact Drawn0.refl _ | apply Drawn0.step)⟩
                  · rw [if_neg c10] at H
                    have c10b0 : (a0 == 5760) = false := beq_eq_false_iff_ne.mpr c10
                    have c10b1 : (a0 != 5760) = true := bne_iff_ne.mpr c10
                    by_cases c11 : a0 = 8232
                    · rw [if_pos c11] at H
                      have c11b0 : (a0 == 8232) = true := beq_iff_eq.mpr c11
                      have c11b1 : (a0 != 8232) = false := bne_eq_false_iff_eq.mpr c11
                      clear c11
                      obtain rfl := Option.some.inj H
                      go_enter Tryz.func52, Tryz.ntmps52
                      go_wp2
                      go_ret
                      exact ⟨by first | rfl | (simp; done) | (simp [*]; done), by repeat (first | exact Drawn0.refl _ | apply Drawn0.step)⟩
                    · rw [if_neg c11] at H
                      have c11b0 : (a0 == 8232) = false := beq_eq_false_iff_ne.mpr c11
                      have c11b1 : (a0 != 8232) = true := bne_iff_ne.mpr c11
                      by_cases c12 : a0 = 8233
                      · rw [if_pos c12] at H
                        have c12b0 : (a0 == 8233) = true := beq_iff_eq.mpr c12
                        have c12b1 : (a0 != 8233) = false := bne_eq_false_iff_eq.mpr c12
                        clear c12
                        obtain rfl := Option.some.inj H
                        go_enter Tryz.func52, Tryz.ntmps52
                        go_wp2
                        go_ret
                        exact ⟨by first | rfl | (simp; done) | (simp [*]; done), by repeat (first | exact Drawn0.refl _ | apply Drawn0.step)⟩
                      · rw [if_neg c12] at H
                        have c12b0 : (a0 == 8233) = false := beq_eq_false_iff_ne.mpr c12
                        have c12b1 : (a0 != 8233) = true := bne_iff_ne.mpr c12
                        by_cases c13 : a0 = 8239
                        · rw [if_pos c13] at H
                          have c13b0 : (a0 == 8239) = true := beq_iff_eq.mpr c13
                          have c13b1 : (a0 != 8239) = false := bne_eq_false_iff_eq.mpr c13
                          clear c13
                          obtain rfl := Option.some.inj H
                          go_enter Tryz.func52, Tryz.ntmps52
                          go_wp2
                          go_ret
                          exact ⟨by first | rfl | (simp; done) | (simp [*]; done), by repeat (first | exact Drawn0.refl _ | apply Drawn0.step)⟩
                        · rw [if_neg c13] at H
                          have c13b0 : (a0 == 8239) = false := beq_eq_false_iff_ne.mpr c13
                          have c13b1 : (a0 != 8239) = true := bne_iff_ne.mpr c13
                          by_cases c14 : a0 = 8287
                          · rw [if_pos c14] at H
                            have c14b0 : (a0 == 8287) = true := beq_iff_eq.mpr c14
                            have c14b1 : (a0 != 8287) = false := bne_eq_false_iff_eq.mpr c14
                            clear c14
                            obtain rfl := Option.some.inj H
                            go_enter Tryz.func52, Tryz.ntmps52
                            go_wp2
                            go_ret
                            exact ⟨by first | rfl | (simp; done) | (simp [*]; done), by repeat (first | exact Drawn0.refl _ | apply Drawn0.step)⟩
                          · rw [if_neg c14] at H
                            have c14b0 : (a0 == 8287) = false := beq_eq_false_iff_ne.mpr c14
                            have c14b1 : (a0 != 8287) = true := bne_iff_ne.mpr c14
                            by_cases c15 : a0 = 12288
                            · rw [if_pos c15] at H
                              have c15b0 : (a0 == 12288) = true := beq_iff_eq.mpr c15
                              have c15b1 : (a0 != 12288) = false := bne_eq_false_iff_eq.mpr c15
                              clear c15
                              obtain rfl := Option.some.inj H
                              go_enter Tryz.func52, Tryz.ntmps52
                              go_wp2
                              go_ret
                              exact ⟨by first | rfl | (simp; done) | (simp [*]; done), by repeat (first | exact Drawn0.refl _ | apply Drawn0.step)⟩
                            · rw [if_neg c15] at H
                              have c15b0 : (a0 == 12288) = false := beq_eq_false_iff_ne.mpr c15
                              have c15b1 : (a0 != 12288) = true := bne_iff_ne.mpr c15
                              by_cases c16 : 8192 ≤ a0
                              · rw [if_pos c16] at H
                                have c16b0 : decide (8192 ≤ a0) = true := decide_eq_true c16
                                clear c16
                                obtain rfl := Option.some.inj H
                                go_enter Tryz.func52, Tryz.ntmps52
                                go_wp2
                                go_ret
                                exact ⟨by first | rfl | (simp; done) | (simp [*]; done), by repeat (first | exact Drawn0.refl _ | apply Drawn0.step)⟩
                              · rw [if_neg c16] at H
                                have c16b0 : decide (8192 ≤ a0) = false := decide_eq_false c16
                                clear c16
                                obtain rfl := Option.some.inj H
                                go_enter Tryz.func52, Tryz.ntmps52
                                go_wp2
                                go_ret
                                exact ⟨by first | rfl | (simp; done) | (simp [*]; done), by repeat (first | exact Drawn0.refl _ | apply Drawn0.step)⟩
end Go.Proofs.YtikgnpachlgakaaGreatDoor.Pr

namespace Go.Proofs.YtikgnpachlgakaaGreatDoor.Pr
open Go.RowKit Go.Proofs.YtikgnpachlgakaaGreatDoorW.PrintWords Go.Proofs.YtikgnpachlgakaaGreatDoorW.PrintLast Go.Proofs.YtikgnpachlgakaaGreatDoorW.PrintMore
attribute [local go_sem] max2_int min2_int max_two min_two max_three min_three max_four min_four   -- for this text's walks alone
set_option linter.unusedVariables false
set_option linter.unusedSimpArgs false
/-! ### spec_CronTwoOptional: function 15 -/
def spec_CronTwoOptional.f (a0 : Int) : Option (Bool) := if (Go.bits .and .i64 a0 2) = 0 then (some false) else (some ((Go.bits .and .i64 a0 128) != 0))
set_option maxHeartbeats 8000000 in
set_option maxRecDepth 100000 in
theorem spec_CronTwoOptional.calls (a0 : Int) (r : Bool) (w : World) (h : spec_CronTwoOptional.f a0 = some r) :
    Calls Tryz.prog 15 #[.int .i64 a0] w fun e w' => e = .returned (.bool r) ∧ Drawn0 w w' := by
  have H : (if (Go.bits .and .i64 a0 2) = 0 then (some false) else (some ((Go.bits .and .i64 a0 128) != 0))) = some r := h
  clear h
  by_cases c2 : (Go.bits .and .i64 a0 2) = 0
  · rw [if_pos c2] at H
    have c2b0 : ((Go.bits .and .i64 a0 2) == 0) = true := beq_iff_eq.mpr c2
    have c2b1 : ((Go.bits .and .i64 a0 2) != 0) = false := bne_eq_false_iff_eq.mpr c2
    clear c2
    obtain rfl := Option.some.inj H
    go_enter Tryz.func15, Tryz.ntmps15
    go_wp2
    go_ret
    exact ⟨by first | rfl | (simp; done) | (simp [*]; done), by repeat (first | exact Drawn0.refl _ | apply Drawn0.step)⟩
  · rw [if_neg c2] at H
    have c2b0 : ((Go.bits .and .i64 a0 2) == 0) = false := beq_eq_false_iff_ne.mpr c2
    have c2b1 : ((Go.bits .and .i64 a0 2) != 0) = true := bne_iff_ne.mpr c2
    obtain rfl := Option.some.inj H
    go_enter Tryz.func15, Tryz.ntmps15
    go_wp2
    go_ret
    exact ⟨by first | rfl | (simp; done) | (simp [*]; done), by repeat (first | exact Drawn0.refl _ | apply Drawn0.step)⟩
end Go.Proofs.YtikgnpachlgakaaGreatDoor.Pr

namespace Go.Proofs.YtikgnpachlgakaaGreatDoor.Pr
open Go.RowKit Go.Proofs.YtikgnpachlgakaaGreatDoorW.PrintWords Go.Proofs.YtikgnpachlgakaaGreatDoorW.PrintLast Go.Proofs.YtikgnpachlgakaaGreatDoorW.PrintMore
attribute [local go_sem] max2_int min2_int max_two min_two max_three min_three max_four min_four   -- for this text's walks alone
set_option linter.unusedVariables false
set_option linter.unusedSimpArgs false
/-! ### spec_CronMayMiss: function 78 -/
def spec_CronMayMiss.f (a0 : Int) : Option (Int) := if (Go.bits .and .i64 a0 2) = 0 then (if (Go.bits .and .i64 a0 128) = 0 then (some (-1)) else (some 5)) else (some 0)
set_option maxHeartbeats 8000000 in
set_option maxRecDepth 100000 in
theorem spec_CronMayMiss.calls (a0 : Int) (r : Int) (w : World) (h : spec_CronMayMiss.f a0 = some r) :
    Calls Tryz.prog 78 #[.int .i64 a0] w fun e w' => e = .returned (.int .i64 r) ∧ Drawn0 w w' := by
  have H : (if (Go.bits .and .i64 a0 2) = 0 then (if (Go.bits .and .i64 a0 128) = 0 then (some (-1)) else (some 5)) else (some 0)) = some r := h
  clear h
  by_cases c2 : (Go.bits .and .i64 a0 2) = 0
  · rw [if_pos c2] at H
    have c2b0 : ((Go.bits .and .i64 a0 2) == 0) = true := beq_iff_eq.mpr c2
    have c2b1 : ((Go.bits .and .i64 a0 2) != 0) = false := bne_eq_false_iff_eq.mpr c2
    clear c2
    by_cases c3 : (Go.bits .and .i64 a0 128) = 0
    · rw [if_pos c3] at H
      have c3b0 : ((Go.bits .and .i64 a0 128) == 0) = true := beq_iff_eq.mpr c3
      have c3b1 : ((Go.bits .and .i64 a0 128) != 0) = false := bne_eq_false_iff_eq.mpr c3
      clear c3
      obtain rfl := Option.some.inj H
      go_enter Tryz.func78, Tryz.ntmps78
      go_wp2
      go_ret
      exact ⟨by first | rfl | (simp; done) | (simp [*]; done), by repeat (first | exact Drawn0.refl _ | apply Drawn0.step)⟩
    · rw [if_neg c3] at H
      have c3b0 : ((Go.bits .and .i64 a0 128) == 0) = false := beq_eq_false_iff_ne.mpr c3
      have c3b1 : ((Go.bits .and .i64 a0 128) != 0) = true := bne_iff_ne.mpr c3
      obtain rfl := Option.some.inj H
      go_enter Tryz.func78, Tryz.ntmps78
      go_wp2
      go_ret
      exact ⟨by first | rfl | (simp; done) | (simp [*]; done), by repeat (first | exact Drawn0.refl _ | apply Drawn0.step)⟩
  · rw [if_neg c2] at H
    have c2b0 : ((Go.bits .and .i64 a0 2) == 0) = false := beq_eq_false_iff_ne.mpr c2
    have c2b1 : ((Go.bits .and .i64 a0 2) != 0) = true := bne_iff_ne.mpr c2
    obtain rfl := Option.some.inj H
    go_enter Tryz.func78, Tryz.ntmps78
    go_wp2
    go_ret
    exact ⟨by first | rfl | (simp; done) | (simp [*]; done), by repeat (first | exact Drawn0.refl _ | apply Drawn0.step)⟩
end Go.Proofs.YtikgnpachlgakaaGreatDoor.Pr

namespace Go.Proofs.YtikgnpachlgakaaGreatDoor.Pr
open Go.RowKit Go.Proofs.YtikgnpachlgakaaGreatDoorW.PrintWords Go.Proofs.YtikgnpachlgakaaGreatDoorW.PrintLast Go.Proofs.YtikgnpachlgakaaGreatDoorW.PrintMore
attribute [local go_sem] max2_int min2_int max_two min_two max_three min_three max_four min_four   -- for this text's walks alone
set_option linter.unusedVariables false
set_option linter.unusedSimpArgs false
/-! ### spec_CronDefault: function 79 -/
def spec_CronDefault.f (a0 : Int) : Option (ByteArray) := if a0 ≤ 2 then (some (⟨#[48]⟩ : ByteArray)) else (some (⟨#[42]⟩ : ByteArray))
set_option maxHeartbeats 8000000 in
set_option maxRecDepth 100000 in
theorem spec_CronDefault.calls (a0 : Int) (r : ByteArray) (w : World) (h : spec_CronDefault.f a0 = some r) :
    Calls Tryz.prog 79 #[.int .i64 a0] w fun e w' => e = .returned (.string r) ∧ Drawn0 w w' := by
  have H : (if a0 ≤ 2 then (some (⟨#[48]⟩ : ByteArray)) else (some (⟨#[42]⟩ : ByteArray))) = some r := h
  clear h
  by_cases c2 : a0 ≤ 2
  · rw [if_pos c2] at H
    have c2b0 : decide (a0 ≤ 2) = true := decide_eq_true c2
    clear c2
    obtain rfl := Option.some.inj H
    go_enter Tryz.func79, Tryz.ntmps79
    go_wp2
    go_ret
    exact ⟨by first | rfl | (simp; done) | (simp [*]; done), by repeat (first | exact Drawn0.refl _ | apply Drawn0.step)⟩
  · rw [if_neg c2] at H
    have c2b0 : decide (a0 ≤ 2) = false := decide_eq_false c2
    clear c2
    obtain rfl := Option.some.inj H
    go_enter Tryz.func79, Tryz.ntmps79
    go_wp2
    go_ret
    exact ⟨by first | rfl | (simp; done) | (simp [*]; done), by repeat (first | exact Drawn0.refl _ | apply Drawn0.step)⟩
end Go.Proofs.YtikgnpachlgakaaGreatDoor.Pr

namespace Go.Proofs.YtikgnpachlgakaaGreatDoor.Pr
open Go.RowKit Go.Proofs.YtikgnpachlgakaaGreatDoorW.PrintWords Go.Proofs.YtikgnpachlgakaaGreatDoorW.PrintLast Go.Proofs.YtikgnpachlgakaaGreatDoorW.PrintMore
attribute [local go_sem] max2_int min2_int max_two min_two max_three min_three max_four min_four   -- for this text's walks alone
set_option linter.unusedVariables false
set_option linter.unusedSimpArgs false
/-! ### spec_cronBlank: function 14 -/
def spec_cronBlank.f (a0 : Int) : Option (Bool) := if a0 = 32 then (some true) else (if 9 ≤ a0 then (some (decide (a0 ≤ 13))) else (some false))
set_option maxHeartbeats 8000000 in
set_option maxRecDepth 100000 in
theorem spec_cronBlank.calls (a0 : Int) (r : Bool) (w : World) (h : spec_cronBlank.f a0 = some r) :
    Calls Tryz.prog 14 #[.int .u8 a0] w fun e w' => e = .returned (.bool r) ∧ Drawn0 w w' := by
  have H : (if a0 = 32 then (some true) else (if 9 ≤ a0 then (some (decide (a0 ≤ 13))) else (some false))) = some r := h
  clear h
  by_cases c2 : a0 = 32
  · rw [if_pos c2] at H
    have c2b0 : (a0 == 32) = true := beq_iff_eq.mpr c2
    have c2b1 : (a0 != 32) = false := bne_eq_false_iff_eq.mpr c2
    clear c2
    obtain rfl := Option.some.inj H
    go_enter Tryz.func14, Tryz.ntmps14
    go_wp2
    go_ret
    exact ⟨by first | rfl | (simp; done) | (simp [*]; done), by repeat (first | exact Drawn0.refl _ | apply Drawn0.step)⟩
  · rw [if_neg c2] at H
    have c2b0 : (a0 == 32) = false := beq_eq_false_iff_ne.mpr c2
    have c2b1 : (a0 != 32) = true := bne_iff_ne.mpr c2
    by_cases c3 : 9 ≤ a0
    · rw [if_pos c3] at H
      have c3b0 : decide (9 ≤ a0) = true := decide_eq_true c3
      clear c3
      obtain rfl := Option.some.inj H
      go_enter Tryz.func14, Tryz.ntmps14
      go_wp2
      go_ret
      exact ⟨by first | rfl | (simp; done) | (simp [*]; done), by repeat (first | exact Drawn0.refl _ | apply Drawn0.step)⟩
    · rw [if_neg c3] at H
      have c3b0 : decide (9 ≤ a0) = false := decide_eq_false c3
      clear c3
      obtain rfl := Option.some.inj H
      go_enter Tryz.func14, Tryz.ntmps14
      go_wp2
      go_ret
      exact ⟨by first | rfl | (simp; done) | (simp [*]; done), by repeat (first | exact Drawn0.refl _ | apply Drawn0.step)⟩
end Go.Proofs.YtikgnpachlgakaaGreatDoor.Pr

namespace Go.Proofs.YtikgnpachlgakaaGreatDoor.Pr
open Go.RowKit Go.Proofs.YtikgnpachlgakaaGreatDoorW.PrintWords Go.Proofs.YtikgnpachlgakaaGreatDoorW.PrintLast Go.Proofs.YtikgnpachlgakaaGreatDoorW.PrintMore
attribute [local go_sem] max2_int min2_int max_two min_two max_three min_three max_four min_four   -- for this text's walks alone
set_option linter.unusedVariables false
set_option linter.unusedSimpArgs false
/-! ### spec_CronWords: function 5 -/
mutual
def spec_CronWords.l0 : Nat → ByteArray → List ByteArray → Int → Int → Int → Option (List ByteArray)
  | 0, _, _, _, _, _ => none
  | k + 1, x0, x3, x4, x7, x8 => if x8 < x7 then (if 0 ≤ x8 then (if x8 < (x0.size : Int) then ((spec_cronBlank.f (bt x0 x8)).bind fun t104 => (if t104 = true then (spec_CronWords.j1 k x0 x3 x4 x8 x7 x8 (decide (x4 ≥ 0))) else (spec_CronWords.j1 k x0 x3 x4 x8 x7 x8 false))) else (none)) else (none)) else (if x4 ≥ 0 then (if 0 ≤ x4 then (if x4 ≤ (x0.size : Int) then (if x3.length < 8796093022208 then (some (x3 ++ [x0.extract (x4 : Int).toNat x0.size])) else (none)) else (none)) else (none)) else (some x3))
def spec_CronWords.j1 : Nat → ByteArray → List ByteArray → Int → Int → Int → Int → Bool → Option (List ByteArray)
  | 0, _, _, _, _, _, _, _ => none
  | k + 1, x0, x3, x4, x5, x7, x8, x11 => if x11 = true then (if 0 ≤ x4 then (if x4 ≤ x5 then (if x5 ≤ (x0.size : Int) then (if x3.length < 8796093022208 then (spec_CronWords.l0 k x0 (x3 ++ [x0.extract (x4 : Int).toNat (x5 : Int).toNat]) (-1) x7 (wrap64 (x8 + 1))) else (none)) else (none)) else (none)) else (none)) else (if 0 ≤ x5 then (if x5 < (x0.size : Int) then ((spec_cronBlank.f (bt x0 x5)).bind fun t108 => (if t108 = true then (spec_CronWords.l0 k x0 x3 x4 x7 (wrap64 (x8 + 1))) else (if x4 < 0 then (spec_CronWords.l0 k x0 x3 x5 x7 (wrap64 (x8 + 1))) else (spec_CronWords.l0 k x0 x3 x4 x7 (wrap64 (x8 + 1)))))) else (none)) else (none))
end
def spec_CronWords.f (k : Nat) (a0 : ByteArray) : Option (List ByteArray) := spec_CronWords.l0 k a0 ([] : List ByteArray) (-1) (a0.size : Int) 0
theorem spec_CronWords.mono_l : ∀ k, (∀ y0 y1 y2 y3 y4, LeO (spec_CronWords.l0 k y0 y1 y2 y3 y4) (spec_CronWords.l0 (k + 1) y0 y1 y2 y3 y4)) ∧ (∀ y0 y1 y2 y3 y4 y5 y6, LeO (spec_CronWords.j1 k y0 y1 y2 y3 y4 y5 y6) (spec_CronWords.j1 (k + 1) y0 y1 y2 y3 y4 y5 y6))
  | 0 => ⟨fun _ _ _ _ _ r h => by simp [spec_CronWords.l0] at h, fun _ _ _ _ _ _ _ r h => by simp [spec_CronWords.j1] at h⟩
  | k + 1 => by
    obtain ⟨ih0, ih1⟩ := spec_CronWords.mono_l k
    refine ⟨?_, ?_⟩
    · intro y0 y1 y2 y3 y4
      unfold spec_CronWords.l0
      repeat' first
      | (with_reducible exact ih0 _ _ _ _ _)
      | (with_reducible exact ih1 _ _ _ _ _ _ _)
      | (with_reducible exact LeO.refl _)
      | (with_reducible exact LeO.none _)
      | (with_reducible refine LeO.ite ?_ ?_)
      | (with_reducible refine LeO.bind ?_ (fun _ => ?_))
      | exact ih0 _ _ _ _ _
      | exact ih1 _ _ _ _ _ _ _
      | exact LeO.none _
      | refine LeO.ite ?_ ?_
      | refine LeO.bind ?_ (fun _ => ?_)
    · intro y0 y1 y2 y3 y4 y5 y6
      unfold spec_CronWords.j1
      repeat' first
      | (with_reducible exact ih0 _ _ _ _ _)
      | (with_reducible exact ih1 _ _ _ _ _ _ _)
      | (with_reducible exact LeO.refl _)
      | (with_reducible exact LeO.none _)
      | (with_reducible refine LeO.ite ?_ ?_)
      | (with_reducible refine LeO.bind ?_ (fun _ => ?_))
      | exact ih0 _ _ _ _ _
      | exact ih1 _ _ _ _ _ _ _
      | exact LeO.none _
      | refine LeO.ite ?_ ?_
      | refine LeO.bind ?_ (fun _ => ?_)
theorem spec_CronWords.mono : ∀ a0 k, LeO (spec_CronWords.f k a0) (spec_CronWords.f (k + 1) a0) := by
  intro a0 k
  obtain ⟨ih0, ih1⟩ := spec_CronWords.mono_l k
  unfold spec_CronWords.f
  repeat' first
      | (with_reducible exact ih0 _ _ _ _ _)
      | (with_reducible exact ih1 _ _ _ _ _ _ _)
      | (with_reducible exact LeO.refl _)
      | (with_reducible exact LeO.none _)
      | (with_reducible refine LeO.ite ?_ ?_)
      | (with_reducible refine LeO.bind ?_ (fun _ => ?_))
      | exact ih0 _ _ _ _ _
      | exact ih1 _ _ _ _ _ _ _
      | exact LeO.none _
      | refine LeO.ite ?_ ?_
      | refine LeO.bind ?_ (fun _ => ?_)
set_option maxHeartbeats 8000000 in
set_option maxRecDepth 100000 in
theorem spec_CronWords.calls (k : Nat) (a0 : ByteArray) (r : List ByteArray) (w : World) (h : spec_CronWords.f k a0 = some r) :
    Calls Tryz.prog 5 #[.string a0] w fun e w' => ∃ v0_ : Value, e = .returned (v0_) ∧ Kd.R Kd.string 9 w' w.heap.size (fun _ => True) v0_ r ∧ Below w.heap.size w w' := by
  have HB := Aside0.mk (Below.refl w.heap.size w)
  have H : (spec_CronWords.l0 k a0 ([] : List ByteArray) (-1) (a0.size : Int) 0) = some r := h
  clear h
  have H' := Aside0.mk H
  clear H
  go_enter Tryz.func5, Tryz.ntmps5
  go_wp2
  go_loopg [3, 4, 8] k (fun kq v3 v4 v8 w' => ∃ (x3_1 : List ByteArray) (x4_1 : Int) (x8_1 : Int), v4 = .int .i64 x4_1 ∧ v8 = .int .i64 x8_1 ∧ Aside0 (spec_CronWords.l0 kq a0 x3_1 x4_1 (a0.size : Int) x8_1 = some r) ∧ Aside0 (kq ≤ k) ∧ Aside0 (Kd.R Kd.string 9 w' w.heap.size (fun _ => True) v3 x3_1) ∧ Aside0 (Below w.heap.size w w'))
  case atStart => exact ⟨(([] : List ByteArray)), ((-1)), (0), (by first | rfl | (simp; done) | (simp [*]; done)), (by first | rfl | (simp; done) | (simp [*]; done)), H', ⟨Nat.le_refl _⟩, ⟨by first | exact Kd.R_nil _ _ _ _ _ | exact Kd.N_nil _ _ _ _ _ | exact Kd.V_nil _ _ _ _ _ | exact Kd.Q_nil _ _ _ _ _ | exact Kd.S_nil _ _ _ _ _⟩, ⟨by repeat (first | (with_reducible first | exact HB.out | apply below_alloc | apply pw_below_drewN | apply below_drew1) | exact HB.out)⟩⟩
  case round =>
    clear H'
    obtain ⟨x3_1, x4_1, x8_1, rfl, rfl, HA, HK1, HO_3, HB⟩ := hrel
    cases gk with
    | zero => exact absurd HA.out (by simp [spec_CronWords.l0])
    | succ k1 =>
      have H := HA.out
      clear HA
      simp only [spec_CronWords.l0] at H
      by_cases c2 : x8_1 < (a0.size : Int)
      · rw [if_pos c2] at H
        have c2b0 : decide (x8_1 < (a0.size : Int)) = true := decide_eq_true c2
        clear c2
        have HC3 := Aside0.mk H
        clear H
        go_upto_region 6 with (fail)
        go_cut [11] (fun v11 wc => ∃ (kq : Nat) (x11_2 : Bool), v11 = .bool x11_2 ∧ Aside0 (spec_CronWords.j1 kq a0 x3_1 x4_1 x8_1 (a0.size : Int) x8_1 x11_2 = some r) ∧ Aside0 (kq ≤ k1) ∧ Aside0 (Kd.R Kd.string 9 wc w.heap.size (fun _ => True) u3 x3_1) ∧ Aside0 (Below w.heap.size w wc))
        case first =>
          have H := HC3.out
          clear HC3
          by_cases c4 : 0 ≤ x8_1
          · rw [if_pos c4] at H
            have c4b0 : decide (0 ≤ x8_1) = true := decide_eq_true c4
            clear c4
            (first | rw [c4b0] | (simp only [i64_w, i32_w]; rw [c4b0]) | skip)
            by_cases c5 : x8_1 < (a0.size : Int)
            · rw [if_pos c5] at H
              have c5b0 : decide (x8_1 < (a0.size : Int)) = true := decide_eq_true c5
              clear c5
              replace H := Option.bind_eq_some_iff.mp H
              obtain ⟨t104, A70, H⟩ := H
              replace H : (if t104 = true then (spec_CronWords.j1 k1 a0 x3_1 x4_1 x8_1 (a0.size : Int) x8_1 (decide (x4_1 ≥ 0))) else (spec_CronWords.j1 k1 a0 x3_1 x4_1 x8_1 (a0.size : Int) x8_1 false)) = some r := H
              have A7 := Aside0.mk A70
              clear A70
              by_cases c8 : t104 = true
              · subst c8
                have H1 : (spec_CronWords.j1 k1 a0 x3_1 x4_1 x8_1 (a0.size : Int) x8_1 (decide (x4_1 ≥ 0))) = some r := by rw [if_pos rfl] at H; exact H
                clear H
                have H := H1
                clear H1
                have H' := Aside0.mk H
                clear H
                have p6 : 0 ≤ (x8_1 : Int) := of_decide_eq_true (by first | (with_reducible assumption) | assumption)
                have q6 : x8_1 < (a0.size : Int) := of_decide_eq_true (by first | (with_reducible assumption) | assumption)
                have hx6 := bt_at a0 x8_1
                replace p6 := eq_true p6
                replace q6 := eq_true q6
                go_wp2_with (first | ((with_reducible refine gate_callee (f := 14) rfl ?_); refine goesL_ (some 15) rfl rfl Tryz.func14 (by kernel_rfl) rfl #[.int .u8 (bt a0 x8_1)] rfl (by (try simp only [List.map_toArray, List.map_cons, List.map_nil]); first | done | rfl | (simp only [List.length_drop, List.length_take]; rfl)) ?_; (with_reducible refine (spec_cronBlank.calls (bt a0 x8_1) true _ A7.out).mono ?_); rintro e w' ⟨rfl, ⟨nd, rfl⟩⟩; refine ⟨_, rfl, ?_⟩))
                go_meet
                case rel => exact ⟨_, (decide (x4_1 ≥ 0)), (by first | rfl | (simp; done) | (simp [*]; done)), H', ⟨by have := HK1.out; first | omega | exact Nat.le_refl _⟩, ⟨by (with_reducible repeat (first | apply Kd.R_alloc | apply Kd.R_drewN | apply Kd.R_drew)); exact HO_3.out⟩, ⟨by repeat (first | (with_reducible first | exact HB.out | apply below_alloc | apply pw_below_drewN | apply below_drew1) | exact HB.out)⟩⟩
              · replace c8 := Bool.eq_false_iff.mpr c8
                subst c8
                have H1 : (spec_CronWords.j1 k1 a0 x3_1 x4_1 x8_1 (a0.size : Int) x8_1 false) = some r := by rw [if_neg (show ¬ (false = true) by decide)] at H; exact H
                clear H
                have H := H1
                clear H1
                have H' := Aside0.mk H
                clear H
                have p6 : 0 ≤ (x8_1 : Int) := of_decide_eq_true (by first | (with_reducible assumption) | assumption)
                have q6 : x8_1 < (a0.size : Int) := of_decide_eq_true (by first | (with_reducible assumption) | assumption)
                have hx6 := bt_at a0 x8_1
                replace p6 := eq_true p6
                replace q6 := eq_true q6
                go_wp2_with (first | ((with_reducible refine gate_callee (f := 14) rfl ?_); refine goesL_ (some 15) rfl rfl Tryz.func14 (by kernel_rfl) rfl #[.int .u8 (bt a0 x8_1)] rfl (by (try simp only [List.map_toArray, List.map_cons, List.map_nil]); first | done | rfl | (simp only [List.length_drop, List.length_take]; rfl)) ?_; (with_reducible refine (spec_cronBlank.calls (bt a0 x8_1) false _ A7.out).mono ?_); rintro e w' ⟨rfl, ⟨nd, rfl⟩⟩; refine ⟨_, rfl, ?_⟩))
                go_meet
                case rel => exact ⟨_, (false), (by first | rfl | (simp; done) | (simp [*]; done)), H', ⟨by have := HK1.out; first | omega | exact Nat.le_refl _⟩, ⟨by (with_reducible repeat (first | apply Kd.R_alloc | apply Kd.R_drewN | apply Kd.R_drew)); exact HO_3.out⟩, ⟨by repeat (first | (with_reducible first | exact HB.out | apply below_alloc | apply pw_below_drewN | apply below_drew1) | exact HB.out)⟩⟩
            · rw [if_neg c5] at H
              exact absurd H (by simp)
          · rw [if_neg c4] at H
            exact absurd H (by simp)
        case rest =>
          clear HC3
          try clear c1
          try clear c2
          try clear c2b0
          try clear p2
          try clear c4
          try clear c4b0
          try clear c5
          try clear c5b0
          try clear p6
          try clear q6
          try clear hx6
          try clear c8
          try clear p6
          try clear q6
          obtain ⟨kq, x11_2, rfl, HA, HJ2, HO_3, HB⟩ := hcut
          cases kq with
          | zero => exact absurd HA.out (by simp [spec_CronWords.j1])
          | succ kj2 =>
            have H := HA.out
            clear HA
            simp only [spec_CronWords.j1] at H
            by_cases c9 : x11_2 = true
            · subst c9
              have H1 : (if 0 ≤ x4_1 then (if x4_1 ≤ x8_1 then (if x8_1 ≤ (a0.size : Int) then (if x3_1.length < 8796093022208 then (spec_CronWords.l0 kj2 a0 (x3_1 ++ [a0.extract (x4_1 : Int).toNat (x8_1 : Int).toNat]) (-1) (a0.size : Int) (wrap64 (x8_1 + 1))) else (none)) else (none)) else (none)) else (none)) = some r := by rw [if_pos rfl] at H; exact H
              clear H
              have H := H1
              clear H1
              by_cases c10 : 0 ≤ x4_1
              · rw [if_pos c10] at H
                have c10b0 := eq_true c10
                have c10b1 : decide (0 ≤ x4_1) = true := decide_eq_true c10
                clear c10
                by_cases c11 : x4_1 ≤ x8_1
                · rw [if_pos c11] at H
                  have c11b0 := eq_true c11
                  have c11b1 : decide (x4_1 ≤ x8_1) = true := decide_eq_true c11
                  clear c11
                  by_cases c12 : x8_1 ≤ (a0.size : Int)
                  · rw [if_pos c12] at H
                    have c12b0 := eq_true c12
                    have c12b1 : decide (x8_1 ≤ (a0.size : Int)) = true := decide_eq_true c12
                    clear c12
                    by_cases c13 : x3_1.length < 8796093022208
                    · rw [if_pos c13] at H
                      have LMc13 := Aside0.mk c13
                      clear c13
                      obtain ⟨y105, hy105⟩ : ∃ y_ : List ByteArray, y_ = (x3_1 ++ [a0.extract (x4_1 : Int).toNat (x8_1 : Int).toNat]) := ⟨_, rfl⟩
                      replace H : (spec_CronWords.l0 kj2 a0 y105 (-1) (a0.size : Int) (wrap64 (x8_1 + 1))) = some r := by first | (rw [hy105]; with_reducible exact H) | (have H2_ := (Option.bind_some _ _).symm.trans H; rw [hy105]; with_reducible exact H2_) | (have H2_ := (Option.bind_some _ _).symm.trans H; with_reducible exact H2_) | with_reducible exact H | (rw [hy105]; exact H) | exact H
                      have Ny105 := Aside0.mk hy105
                      clear hy105
                      have H' := Aside0.mk H
                      clear H
                      go_wp2_with (first | ((with_reducible refine gate_builtin (b := .append) (xs := #[.tmp 20, .tmp 25]) rfl ?_); at_builtin; refine Kd.R_append Kd.string (w0 := w) w.heap.size rfl (.tmp 20) (.tmp 25) 22 9 (.string ⟨#[]⟩) 16 rfl Tryz.underlying22 info9 rfl (by decide) (by omega) u3 x3_1 (a0.extract (x4_1 : Int).toNat (x8_1 : Int).toNat) [.string (a0.extract (x4_1 : Int).toNat (x8_1 : Int).toNat)] (fun _ => True) (fun _ => False) rfl rfl ?aP (fun _ hk => hk.elim) ?aF ?aO ?aB ?aS ?aL ?_; (case aP => exact rfl); (case aB => exact (by repeat (first | (with_reducible first | exact HB.out | apply below_alloc | apply pw_below_drewN | apply below_drew1) | exact HB.out))); (case aF => exact (fun _ _ => trivial)); (case aO => exact (by (with_reducible repeat (first | apply Kd.R_alloc | apply Kd.R_drewN | apply Kd.R_drew)); exact HO_3.out)); (case aS => exact (below_size (by repeat (first | (with_reducible first | exact HB.out | apply below_alloc | apply pw_below_drewN | apply below_drew1) | exact HB.out)))); (case aL => have := LMc13.out; omega); intro v106 w14 ho hb hg hat; rw [← Ny105.out] at ho; have n0_ := Aside0.mk (hb); have n1_ := Aside0.mk (ho); clear HB; clear HO_3; have HB := n0_; have HO107 := n1_; clear n0_ n1_; clear ho hb hg hat))
                      go_roundg kj2
                      case measure => have := HK1.out; have := HJ2.out; omega
                      case rel => exact ⟨(y105), ((-1)), (wrap64 (x8_1 + 1)), (by first | rfl | (simp; done) | (simp [*]; done)), (by first | rfl | (simp; done) | (simp [*]; done)), H', ⟨by have := HK1.out; have := HJ2.out; omega⟩, ⟨by (with_reducible repeat (first | apply Kd.R_alloc | apply Kd.R_drewN | apply Kd.R_drew)); exact HO107.out⟩, ⟨by repeat (first | (with_reducible first | exact HB.out | apply below_alloc | apply pw_below_drewN | apply below_drew1) | exact HB.out)⟩⟩
                    · rw [if_neg c13] at H
                      exact absurd H (by simp)
                  · rw [if_neg c12] at H
                    exact absurd H (by simp)
                · rw [if_neg c11] at H
                  exact absurd H (by simp)
              · rw [if_neg c10] at H
                exact absurd H (by simp)
            · replace c9 := Bool.eq_false_iff.mpr c9
              subst c9
              have H1 : (if 0 ≤ x8_1 then (if x8_1 < (a0.size : Int) then ((spec_cronBlank.f (bt a0 x8_1)).bind fun t108 => (if t108 = true then (spec_CronWords.l0 kj2 a0 x3_1 x4_1 (a0.size : Int) (wrap64 (x8_1 + 1))) else (if x4_1 < 0 then (spec_CronWords.l0 kj2 a0 x3_1 x8_1 (a0.size : Int) (wrap64 (x8_1 + 1))) else (spec_CronWords.l0 kj2 a0 x3_1 x4_1 (a0.size : Int) (wrap64 (x8_1 + 1)))))) else (none)) else (none)) = some r := by rw [if_neg (show ¬ (false = true) by decide)] at H; exact H
              clear H
              have H := H1
              clear H1
              by_cases c15 : 0 ≤ x8_1
              · rw [if_pos c15] at H
                have c15b0 : decide (0 ≤ x8_1) = true := decide_eq_true c15
                clear c15
                by_cases c16 : x8_1 < (a0.size : Int)
                · rw [if_pos c16] at H
                  have c16b0 : decide (x8_1 < (a0.size : Int)) = true := decide_eq_true c16
                  clear c16
                  replace H := Option.bind_eq_some_iff.mp H
                  obtain ⟨t108, A180, H⟩ := H
                  replace H : (if t108 = true then (spec_CronWords.l0 kj2 a0 x3_1 x4_1 (a0.size : Int) (wrap64 (x8_1 + 1))) else (if x4_1 < 0 then (spec_CronWords.l0 kj2 a0 x3_1 x8_1 (a0.size : Int) (wrap64 (x8_1 + 1))) else (spec_CronWords.l0 kj2 a0 x3_1 x4_1 (a0.size : Int) (wrap64 (x8_1 + 1))))) = some r := H
                  have A18 := Aside0.mk A180
                  clear A180
                  by_cases c19 : t108 = true
                  · subst c19
                    have H1 : (spec_CronWords.l0 kj2 a0 x3_1 x4_1 (a0.size : Int) (wrap64 (x8_1 + 1))) = some r := by rw [if_pos rfl] at H; exact H
                    clear H
                    have H := H1
                    clear H1
                    have H' := Aside0.mk H
                    clear H
                    have p17 : 0 ≤ (x8_1 : Int) := of_decide_eq_true (by first | (with_reducible assumption) | assumption)
                    have q17 : x8_1 < (a0.size : Int) := of_decide_eq_true (by first | (with_reducible assumption) | assumption)
                    have hx17 := bt_at a0 x8_1
                    replace p17 := eq_true p17
                    replace q17 := eq_true q17
                    go_wp2_with (first | ((with_reducible refine gate_callee (f := 14) rfl ?_); refine goesL_ (some 31) rfl rfl Tryz.func14 (by kernel_rfl) rfl #[.int .u8 (bt a0 x8_1)] rfl (by (try simp only [List.map_toArray, List.map_cons, List.map_nil]); first | done | rfl | (simp only [List.length_drop, List.length_take]; rfl)) ?_; (with_reducible refine (spec_cronBlank.calls (bt a0 x8_1) true _ A18.out).mono ?_); rintro e w' ⟨rfl, ⟨nd, rfl⟩⟩; refine ⟨_, rfl, ?_⟩))
                    go_roundg kj2
                    case measure => have := HK1.out; have := HJ2.out; omega
                    case rel => exact ⟨(x3_1), (x4_1), (wrap64 (x8_1 + 1)), (by first | rfl | (simp; done) | (simp [*]; done)), (by first | rfl | (simp; done) | (simp [*]; done)), H', ⟨by have := HK1.out; have := HJ2.out; omega⟩, ⟨by (with_reducible repeat (first | apply Kd.R_alloc | apply Kd.R_drewN | apply Kd.R_drew)); exact HO_3.out⟩, ⟨by repeat (first | (with_reducible first | exact HB.out | apply below_alloc | apply pw_below_drewN | apply below_drew1) | exact HB.out)⟩⟩
                  · replace c19 := Bool.eq_false_iff.mpr c19
                    subst c19
                    have H1 : (if x4_1 < 0 then (spec_CronWords.l0 kj2 a0 x3_1 x8_1 (a0.size : Int) (wrap64 (x8_1 + 1))) else (spec_CronWords.l0 kj2 a0 x3_1 x4_1 (a0.size : Int) (wrap64 (x8_1 + 1)))) = some r := by rw [if_neg (show ¬ (false = true) by decide)] at H; exact H
                    clear H
                    have H := H1
                    clear H1
                    by_cases c20 : x4_1 < 0
                    · rw [if_pos c20] at H
                      have c20b0 : decide (x4_1 < 0) = true := decide_eq_true c20
                      clear c20
                      have H' := Aside0.mk H
                      clear H
                      have p17 : 0 ≤ (x8_1 : Int) := of_decide_eq_true (by first | (with_reducible assumption) | assumption)
                      have q17 : x8_1 < (a0.size : Int) := of_decide_eq_true (by first | (with_reducible assumption) | assumption)
                      have hx17 := bt_at a0 x8_1
                      replace p17 := eq_true p17
                      replace q17 := eq_true q17
                      go_wp2_with (first | ((with_reducible refine gate_callee (f := 14) rfl ?_); refine goesL_ (some 31) rfl rfl Tryz.func14 (by kernel_rfl) rfl #[.int .u8 (bt a0 x8_1)] rfl (by (try simp only [List.map_toArray, List.map_cons, List.map_nil]); first | done | rfl | (simp only [List.length_drop, List.length_take]; rfl)) ?_; (with_reducible refine (spec_cronBlank.calls (bt a0 x8_1) false _ A18.out).mono ?_); rintro e w' ⟨rfl, ⟨nd, rfl⟩⟩; refine ⟨_, rfl, ?_⟩))
                      go_roundg kj2
                      case measure => have := HK1.out; have := HJ2.out; omega
                      case rel => exact ⟨(x3_1), (x8_1), (wrap64 (x8_1 + 1)), (by first | rfl | (simp; done) | (simp [*]; done)), (by first | rfl | (simp; done) | (simp [*]; done)), H', ⟨by have := HK1.out; have := HJ2.out; omega⟩, ⟨by (with_reducible repeat (first | apply Kd.R_alloc | apply Kd.R_drewN | apply Kd.R_drew)); exact HO_3.out⟩, ⟨by repeat (first | (with_reducible first | exact HB.out | apply below_alloc | apply pw_below_drewN | apply below_drew1) | exact HB.out)⟩⟩
                    · rw [if_neg c20] at H
                      have c20b0 : decide (x4_1 < 0) = false := decide_eq_false c20
                      clear c20
                      have H' := Aside0.mk H
                      clear H
                      have p17 : 0 ≤ (x8_1 : Int) := of_decide_eq_true (by first | (with_reducible assumption) | assumption)
                      have q17 : x8_1 < (a0.size : Int) := of_decide_eq_true (by first | (with_reducible assumption) | assumption)
                      have hx17 := bt_at a0 x8_1
                      replace p17 := eq_true p17
                      replace q17 := eq_true q17
                      go_wp2_with (first | ((with_reducible refine gate_callee (f := 14) rfl ?_); refine goesL_ (some 31) rfl rfl Tryz.func14 (by kernel_rfl) rfl #[.int .u8 (bt a0 x8_1)] rfl (by (try simp only [List.map_toArray, List.map_cons, List.map_nil]); first | done | rfl | (simp only [List.length_drop, List.length_take]; rfl)) ?_; (with_reducible refine (spec_cronBlank.calls (bt a0 x8_1) false _ A18.out).mono ?_); rintro e w' ⟨rfl, ⟨nd, rfl⟩⟩; refine ⟨_, rfl, ?_⟩))
                      go_roundg kj2
                      case measure => have := HK1.out; have := HJ2.out; omega
                      case rel => exact ⟨(x3_1), (x4_1), (wrap64 (x8_1 + 1)), (by first | rfl | (simp; done) | (simp [*]; done)), (by first | rfl | (simp; done) | (simp [*]; done)), H', ⟨by have := HK1.out; have := HJ2.out; omega⟩, ⟨by (with_reducible repeat (first | apply Kd.R_alloc | apply Kd.R_drewN | apply Kd.R_drew)); exact HO_3.out⟩, ⟨by repeat (first | (with_reducible first | exact HB.out | apply below_alloc | apply pw_below_drewN | apply below_drew1) | exact HB.out)⟩⟩
                · rw [if_neg c16] at H
                  exact absurd H (by simp)
              · rw [if_neg c15] at H
                exact absurd H (by simp)
      · rw [if_neg c2] at H
        have c2b0 : decide (x8_1 < (a0.size : Int)) = false := decide_eq_false c2
        clear c2
        by_cases c21 : x4_1 ≥ 0
        · rw [if_pos c21] at H
          have c21b0 : decide (0 ≤ x4_1) = true := decide_eq_true c21
          clear c21
          by_cases c22 : 0 ≤ x4_1
          · rw [if_pos c22] at H
            have c22b0 := eq_true c22
            have c22b1 : decide (0 ≤ x4_1) = true := decide_eq_true c22
            clear c22
            by_cases c23 : x4_1 ≤ (a0.size : Int)
            · rw [if_pos c23] at H
              have c23b0 := eq_true c23
              have c23b1 : decide (x4_1 ≤ (a0.size : Int)) = true := decide_eq_true c23
              clear c23
              by_cases c24 : x3_1.length < 8796093022208
              · rw [if_pos c24] at H
                have LMc24 := Aside0.mk c24
                clear c24
                obtain ⟨y101, hy101⟩ : ∃ y_ : List ByteArray, y_ = (x3_1 ++ [a0.extract (x4_1 : Int).toNat a0.size]) := ⟨_, rfl⟩
                replace H : (some y101) = some r := by first | (rw [hy101]; with_reducible exact H) | (have H2_ := (Option.bind_some _ _).symm.trans H; rw [hy101]; with_reducible exact H2_) | (have H2_ := (Option.bind_some _ _).symm.trans H; with_reducible exact H2_) | with_reducible exact H | (rw [hy101]; exact H) | exact H
                have Ny101 := Aside0.mk hy101
                clear hy101
                obtain rfl := Option.some.inj H
                go_wp2_with (first | ((with_reducible refine gate_builtin (b := .append) (xs := #[.tmp 41, .tmp 45]) rfl ?_); at_builtin; refine Kd.R_append Kd.string (w0 := w) w.heap.size rfl (.tmp 41) (.tmp 45) 22 9 (.string ⟨#[]⟩) 16 rfl Tryz.underlying22 info9 rfl (by decide) (by omega) u3 x3_1 (a0.extract (x4_1 : Int).toNat a0.size) [.string (a0.extract (x4_1 : Int).toNat a0.size)] (fun _ => True) (fun _ => False) rfl rfl ?aP (fun _ hk => hk.elim) ?aF ?aO ?aB ?aS ?aL ?_; (case aP => exact rfl); (case aB => exact (by repeat (first | (with_reducible first | exact HB.out | apply below_alloc | apply pw_below_drewN | apply below_drew1) | exact HB.out))); (case aF => exact (fun _ _ => trivial)); (case aO => exact (by (with_reducible repeat (first | apply Kd.R_alloc | apply Kd.R_drewN | apply Kd.R_drew)); exact HO_3.out)); (case aS => exact (below_size (by repeat (first | (with_reducible first | exact HB.out | apply below_alloc | apply pw_below_drewN | apply below_drew1) | exact HB.out)))); (case aL => have := LMc24.out; omega); intro v102 w25 ho hb hg hat; rw [← Ny101.out] at ho; have n0_ := Aside0.mk (hb); have n1_ := Aside0.mk (ho); clear HB; clear HO_3; have HB := n0_; have HO103 := n1_; clear n0_ n1_; clear ho hb hg hat))
                go_ret
                exact ⟨_, by first | rfl | (simp [errW_none, errW_some] <;> rfl) | (simp [*, errW_none, errW_some] <;> rfl), by (with_reducible repeat (first | apply Kd.R_alloc | apply Kd.R_drewN | apply Kd.R_drew)); exact HO103.out, by repeat (first | (with_reducible first | exact HB.out | apply below_alloc | apply pw_below_drewN | apply below_drew1) | exact HB.out)⟩
              · rw [if_neg c24] at H
                exact absurd H (by simp)
            · rw [if_neg c23] at H
              exact absurd H (by simp)
          · rw [if_neg c22] at H
            exact absurd H (by simp)
        · rw [if_neg c21] at H
          have c21b0 : decide (0 ≤ x4_1) = false := decide_eq_false c21
          clear c21
          obtain rfl := Option.some.inj H
          go_wp2
          go_ret
          exact ⟨_, by first | rfl | (simp [errW_none, errW_some] <;> rfl) | (simp [*, errW_none, errW_some] <;> rfl), by (with_reducible repeat (first | apply Kd.R_alloc | apply Kd.R_drewN | apply Kd.R_drew)); exact HO_3.out, by repeat (first | (with_reducible first | exact HB.out | apply below_alloc | apply pw_below_drewN | apply below_drew1) | exact HB.out)⟩
end Go.Proofs.YtikgnpachlgakaaGreatDoor.Pr

namespace Go.Proofs.YtikgnpachlgakaaGreatDoor.Pr
open Go.RowKit Go.Proofs.YtikgnpachlgakaaGreatDoorW.PrintWords Go.Proofs.YtikgnpachlgakaaGreatDoorW.PrintLast Go.Proofs.YtikgnpachlgakaaGreatDoorW.PrintMore
attribute [local go_sem] max2_int min2_int max_two min_two max_three min_three max_four min_four   -- for this text's walks alone
set_option linter.unusedVariables false
set_option linter.unusedSimpArgs false
/-! ### spec_CronJoin: function 6 -/
def spec_CronJoin.l0 : Nat → ByteArray → ByteArray → List ByteArray → Int → Int → Option (ByteArray)
  | 0, _, _, _, _, _ => none
  | k + 1, x1, x5, x8, x9, x10 => if x10 < x9 then (if 0 ≤ x10 then (if x10 < (x8.length : Int) then (if x10 > 0 then (if x5.size + x1.size ≤ 9223372036854775807 then (if (x5 ++ x1).size + (rdOf ByteArray.empty x8 x10).size ≤ 9223372036854775807 then (spec_CronJoin.l0 k x1 ((x5 ++ x1) ++ (rdOf ByteArray.empty x8 x10)) x8 x9 (wrap64 (x10 + 1))) else (none)) else (none)) else (if x5.size + (rdOf ByteArray.empty x8 x10).size ≤ 9223372036854775807 then (spec_CronJoin.l0 k x1 (x5 ++ (rdOf ByteArray.empty x8 x10)) x8 x9 (wrap64 (x10 + 1))) else (none))) else (none)) else (none)) else (some x5)
def spec_CronJoin.f (k : Nat) (l0 : List ByteArray) (a1 : ByteArray) : Option (ByteArray) := spec_CronJoin.l0 k a1 (⟨#[]⟩ : ByteArray) l0 (l0.length : Int) 0
theorem spec_CronJoin.mono_l : ∀ k, (∀ y0 y1 y2 y3 y4, LeO (spec_CronJoin.l0 k y0 y1 y2 y3 y4) (spec_CronJoin.l0 (k + 1) y0 y1 y2 y3 y4))
  | 0 => fun _ _ _ _ _ r h => by simp [spec_CronJoin.l0] at h
  | k + 1 => by
    have ih0 := spec_CronJoin.mono_l k
    · intro y0 y1 y2 y3 y4
      unfold spec_CronJoin.l0
      repeat' first
      | (with_reducible exact ih0 _ _ _ _ _)
      | (with_reducible exact LeO.refl _)
      | (with_reducible exact LeO.none _)
      | (with_reducible refine LeO.ite ?_ ?_)
      | (with_reducible refine LeO.bind ?_ (fun _ => ?_))
      | exact ih0 _ _ _ _ _
      | exact LeO.none _
      | refine LeO.ite ?_ ?_
      | refine LeO.bind ?_ (fun _ => ?_)
theorem spec_CronJoin.mono : ∀ a0 a1 k, LeO (spec_CronJoin.f k a0 a1) (spec_CronJoin.f (k + 1) a0 a1) := by
  intro a0 a1 k
  have ih0 := spec_CronJoin.mono_l k
  unfold spec_CronJoin.f
  repeat' first
      | (with_reducible exact ih0 _ _ _ _ _)
      | (with_reducible exact LeO.refl _)
      | (with_reducible exact LeO.none _)
      | (with_reducible refine LeO.ite ?_ ?_)
      | (with_reducible refine LeO.bind ?_ (fun _ => ?_))
      | exact ih0 _ _ _ _ _
      | exact LeO.none _
      | refine LeO.ite ?_ ?_
      | refine LeO.bind ?_ (fun _ => ?_)
set_option maxHeartbeats 8000000 in
set_option maxRecDepth 100000 in
theorem spec_CronJoin.calls (k : Nat) (A0 : Option Addr) (c0 : Nat) (l0 : List ByteArray) (a1 : ByteArray) (r : ByteArray) (w : World) (hr0 : Kd.C Kd.string w A0 l0.length l0) (hc0 : l0.length ≤ c0) (h : spec_CronJoin.f k l0 a1 = some r) :
    Calls Tryz.prog 6 #[.slice A0 l0.length c0, .string a1] w fun e w' => e = .returned (.string r) ∧ Drawn0 w w' := by
  have HR0 := Aside0.mk hr0
  have HC0 := Aside0.mk hc0
  clear hr0 hc0
  have H : (spec_CronJoin.l0 k a1 (⟨#[]⟩ : ByteArray) l0 (l0.length : Int) 0) = some r := h
  clear h
  have H' := Aside0.mk H
  clear H
  go_enter Tryz.func6, Tryz.ntmps6
  go_wp2
  go_loopg [5, 10] k (fun kq v5 v10 w' => ∃ (x5_1 : ByteArray) (x10_1 : Int), v5 = .string x5_1 ∧ v10 = .int .i64 x10_1 ∧ Aside0 (spec_CronJoin.l0 kq a1 x5_1 l0 (l0.length : Int) x10_1 = some r) ∧ Aside0 (kq ≤ k) ∧ Drawn0 w w')
  case atStart => exact ⟨((⟨#[]⟩ : ByteArray)), (0), (by first | rfl | (simp; done) | (simp [*]; done)), (by first | rfl | (simp; done) | (simp [*]; done)), H', ⟨Nat.le_refl _⟩, by repeat (first | exact Drawn0.refl _ | apply Drawn0.step)⟩
  case round =>
    clear H'
    try clear p2
    obtain ⟨x5_1, x10_1, rfl, rfl, HA, HK1, ⟨m1, rfl⟩⟩ := hrel
    cases gk with
    | zero => exact absurd HA.out (by simp [spec_CronJoin.l0])
    | succ k1 =>
      have H := HA.out
      clear HA
      simp only [spec_CronJoin.l0] at H
      by_cases c3 : x10_1 < (l0.length : Int)
      · rw [if_pos c3] at H
        have c3b0 : decide (x10_1 < (l0.length : Int)) = true := decide_eq_true c3
        clear c3
        by_cases c4 : 0 ≤ x10_1
        · rw [if_pos c4] at H
          have c4b0 : decide (0 ≤ x10_1) = true := decide_eq_true c4
          clear c4
          by_cases c5 : x10_1 < (l0.length : Int)
          · rw [if_pos c5] at H
            have c5b0 : decide (x10_1 < (l0.length : Int)) = true := decide_eq_true c5
            clear c5
            by_cases c6 : x10_1 > 0
            · rw [if_pos c6] at H
              have c6b0 : decide (0 < x10_1) = true := decide_eq_true c6
              clear c6
              by_cases c7 : x5_1.size + a1.size ≤ 9223372036854775807
              · rw [if_pos c7] at H
                have c7b0 := eq_true c7
                have c7b1 : decide (x5_1.size + a1.size ≤ 9223372036854775807) = true := decide_eq_true c7
                try have c7b2 : (9223372036854775807 < x5_1.size + a1.size) = False := eq_false (Nat.not_lt.2 c7)
                by_cases c8 : (x5_1 ++ a1).size + (rdOf ByteArray.empty l0 x10_1).size ≤ 9223372036854775807
                · rw [if_pos c8] at H
                  have c8b0 := eq_true c8
                  have c8b1 : decide ((x5_1 ++ a1).size + (rdOf ByteArray.empty l0 x10_1).size ≤ 9223372036854775807) = true := decide_eq_true c8
                  try have c8b2 : (9223372036854775807 < (x5_1 ++ a1).size + (rdOf ByteArray.empty l0 x10_1).size) = False := eq_false (Nat.not_lt.2 c8)
                  have H' := Aside0.mk H
                  clear H
                  have p109 : 0 ≤ (x10_1 : Int) := of_decide_eq_true (by first | (with_reducible assumption) | assumption)
                  have q109 : x10_1 < (l0.length : Int) := of_decide_eq_true (by first | (with_reducible assumption) | assumption)
                  obtain ⟨ad109, e109, hx109_0⟩ := Kd.at_string HR0.out x10_1 p109 q109
                  cases e109
                  replace p109 := eq_true p109
                  replace q109 := eq_true q109
                  go_wp2
                  go_roundg k1
                  case measure => have := HK1.out; omega
                  case rel => exact ⟨((x5_1 ++ a1) ++ (rdOf ByteArray.empty l0 x10_1)), (wrap64 (x10_1 + 1)), (by first | rfl | (simp; done) | (simp [*]; done)), (by first | rfl | (simp; done) | (simp [*]; done)), H', ⟨by have := HK1.out; omega⟩, by repeat (first | exact Drawn0.refl _ | apply Drawn0.step)⟩
                · rw [if_neg c8] at H
                  exact absurd H (by simp)
              · rw [if_neg c7] at H
                exact absurd H (by simp)
            · rw [if_neg c6] at H
              have c6b0 : decide (0 < x10_1) = false := decide_eq_false c6
              clear c6
              by_cases c9 : x5_1.size + (rdOf ByteArray.empty l0 x10_1).size ≤ 9223372036854775807
              · rw [if_pos c9] at H
                have c9b0 := eq_true c9
                have c9b1 : decide (x5_1.size + (rdOf ByteArray.empty l0 x10_1).size ≤ 9223372036854775807) = true := decide_eq_true c9
                try have c9b2 : (9223372036854775807 < x5_1.size + (rdOf ByteArray.empty l0 x10_1).size) = False := eq_false (Nat.not_lt.2 c9)
                have H' := Aside0.mk H
                clear H
                have p109 : 0 ≤ (x10_1 : Int) := of_decide_eq_true (by first | (with_reducible assumption) | assumption)
                have q109 : x10_1 < (l0.length : Int) := of_decide_eq_true (by first | (with_reducible assumption) | assumption)
                obtain ⟨ad109, e109, hx109_0⟩ := Kd.at_string HR0.out x10_1 p109 q109
                cases e109
                replace p109 := eq_true p109
                replace q109 := eq_true q109
                go_wp2
                go_roundg k1
                case measure => have := HK1.out; omega
                case rel => exact ⟨(x5_1 ++ (rdOf ByteArray.empty l0 x10_1)), (wrap64 (x10_1 + 1)), (by first | rfl | (simp; done) | (simp [*]; done)), (by first | rfl | (simp; done) | (simp [*]; done)), H', ⟨by have := HK1.out; omega⟩, by repeat (first | exact Drawn0.refl _ | apply Drawn0.step)⟩
              · rw [if_neg c9] at H
                exact absurd H (by simp)
          · rw [if_neg c5] at H
            exact absurd H (by simp)
        · rw [if_neg c4] at H
          exact absurd H (by simp)
      · rw [if_neg c3] at H
        have c3b0 : decide (x10_1 < (l0.length : Int)) = false := decide_eq_false c3
        clear c3
        obtain rfl := Option.some.inj H
        go_wp2
        go_ret
        exact ⟨by first | rfl | (simp; done) | (simp [*]; done), by repeat (first | exact Drawn0.refl _ | apply Drawn0.step)⟩
end Go.Proofs.YtikgnpachlgakaaGreatDoor.Pr

namespace Go.Proofs.YtikgnpachlgakaaGreatDoor.Pr
open Go.RowKit Go.Proofs.YtikgnpachlgakaaGreatDoorW.PrintWords Go.Proofs.YtikgnpachlgakaaGreatDoorW.PrintLast Go.Proofs.YtikgnpachlgakaaGreatDoorW.PrintMore
attribute [local go_sem] max2_int min2_int max_two min_two max_three min_three max_four min_four   -- for this text's walks alone
set_option linter.unusedVariables false
set_option linter.unusedSimpArgs false
/-! ### spec_cronBegins: function 23 -/
def spec_cronBegins.f (a0 : ByteArray) (a1 : ByteArray) : Option (Bool) := if (a0.size : Int) ≥ (a1.size : Int) then (if 0 ≤ (a1.size : Int) then (if (a1.size : Int) ≤ (a0.size : Int) then (some ((a0.extract 0 ((a1.size : Int) : Int).toNat).toList == a1.toList)) else (none)) else (none)) else (some false)
set_option maxHeartbeats 8000000 in
set_option maxRecDepth 100000 in
theorem spec_cronBegins.calls (a0 : ByteArray) (a1 : ByteArray) (r : Bool) (w : World) (h : spec_cronBegins.f a0 a1 = some r) :
    Calls Tryz.prog 23 #[.string a0, .string a1] w fun e w' => e = .returned (.bool r) ∧ Drawn0 w w' := by
  have H : (if (a0.size : Int) ≥ (a1.size : Int) then (if 0 ≤ (a1.size : Int) then (if (a1.size : Int) ≤ (a0.size : Int) then (some ((a0.extract 0 ((a1.size : Int) : Int).toNat).toList == a1.toList)) else (none)) else (none)) else (some false)) = some r := h
  clear h
  by_cases c3 : (a0.size : Int) ≥ (a1.size : Int)
  · rw [if_pos c3] at H
    have c3b0 : decide ((a1.size : Int) ≤ (a0.size : Int)) = true := decide_eq_true c3
    have c3b1 : decide (a1.size ≤ a0.size) = true := decide_eq_true (Int.ofNat_le.mp c3)
    clear c3
    by_cases c4 : 0 ≤ (a1.size : Int)
    · rw [if_pos c4] at H
      have c4b0 := eq_true c4
      have c4b1 : decide (0 ≤ (a1.size : Int)) = true := decide_eq_true c4
      clear c4
      by_cases c5 : (a1.size : Int) ≤ (a0.size : Int)
      · rw [if_pos c5] at H
        have c5b0 := eq_true c5
        have c5b1 : decide ((a1.size : Int) ≤ (a0.size : Int)) = true := decide_eq_true c5
        clear c5
        obtain rfl := Option.some.inj H
        go_enter Tryz.func23, Tryz.ntmps23
        go_wp2
        go_ret
        exact ⟨by first | rfl | (simp; done) | (simp [*]; done), by repeat (first | exact Drawn0.refl _ | apply Drawn0.step)⟩
      · rw [if_neg c5] at H
        exact absurd H (by simp)
    · rw [if_neg c4] at H
      exact absurd H (by simp)
  · rw [if_neg c3] at H
    have c3b0 : decide ((a1.size : Int) ≤ (a0.size : Int)) = false := decide_eq_false c3
    have c3b1 : decide (a1.size ≤ a0.size) = false := decide_eq_false (fun h => c3 (Int.ofNat_le.mpr h))
    clear c3
    obtain rfl := Option.some.inj H
    go_enter Tryz.func23, Tryz.ntmps23
    go_wp2
    go_ret
    exact ⟨by first | rfl | (simp; done) | (simp [*]; done), by repeat (first | exact Drawn0.refl _ | apply Drawn0.step)⟩
end Go.Proofs.YtikgnpachlgakaaGreatDoor.Pr

namespace Go.Proofs.YtikgnpachlgakaaGreatDoor.Pr
open Go.RowKit Go.Proofs.YtikgnpachlgakaaGreatDoorW.PrintWords Go.Proofs.YtikgnpachlgakaaGreatDoorW.PrintLast Go.Proofs.YtikgnpachlgakaaGreatDoorW.PrintMore
attribute [local go_sem] max2_int min2_int max_two min_two max_three min_three max_four min_four   -- for this text's walks alone
set_option linter.unusedVariables false
set_option linter.unusedSimpArgs false
/-! ### laws_cronHead: function 16 -/
def laws_cronHead.f (a0 : ByteArray) (a1 : ByteArray) : Option (Bool) := if (a0.size : Int) ≥ (a1.size : Int) then (if 0 ≤ (a1.size : Int) then (if (a1.size : Int) ≤ (a0.size : Int) then (some ((a0.extract 0 ((a1.size : Int) : Int).toNat).toList == a1.toList)) else (none)) else (none)) else (some false)
set_option maxHeartbeats 8000000 in
set_option maxRecDepth 100000 in
theorem laws_cronHead.calls (a0 : ByteArray) (a1 : ByteArray) (r : Bool) (w : World) (h : laws_cronHead.f a0 a1 = some r) :
    Calls Tryz.prog 16 #[.string a0, .string a1] w fun e w' => e = .returned (.bool r) ∧ Drawn0 w w' := by
  have H : (if (a0.size : Int) ≥ (a1.size : Int) then (if 0 ≤ (a1.size : Int) then (if (a1.size : Int) ≤ (a0.size : Int) then (some ((a0.extract 0 ((a1.size : Int) : Int).toNat).toList == a1.toList)) else (none)) else (none)) else (some false)) = some r := h
  clear h
  by_cases c3 : (a0.size : Int) ≥ (a1.size : Int)
  · rw [if_pos c3] at H
    have c3b0 : decide ((a1.size : Int) ≤ (a0.size : Int)) = true := decide_eq_true c3
    have c3b1 : decide (a1.size ≤ a0.size) = true := decide_eq_true (Int.ofNat_le.mp c3)
    clear c3
    by_cases c4 : 0 ≤ (a1.size : Int)
    · rw [if_pos c4] at H
      have c4b0 := eq_true c4
      have c4b1 : decide (0 ≤ (a1.size : Int)) = true := decide_eq_true c4
      clear c4
      by_cases c5 : (a1.size : Int) ≤ (a0.size : Int)
      · rw [if_pos c5] at H
        have c5b0 := eq_true c5
        have c5b1 : decide ((a1.size : Int) ≤ (a0.size : Int)) = true := decide_eq_true c5
        clear c5
        obtain rfl := Option.some.inj H
        go_enter Tryz.func16, Tryz.ntmps16
        go_wp2
        go_ret
        exact ⟨by first | rfl | (simp; done) | (simp [*]; done), by repeat (first | exact Drawn0.refl _ | apply Drawn0.step)⟩
      · rw [if_neg c5] at H
        exact absurd H (by simp)
    · rw [if_neg c4] at H
      exact absurd H (by simp)
  · rw [if_neg c3] at H
    have c3b0 : decide ((a1.size : Int) ≤ (a0.size : Int)) = false := decide_eq_false c3
    have c3b1 : decide (a1.size ≤ a0.size) = false := decide_eq_false (fun h => c3 (Int.ofNat_le.mpr h))
    clear c3
    obtain rfl := Option.some.inj H
    go_enter Tryz.func16, Tryz.ntmps16
    go_wp2
    go_ret
    exact ⟨by first | rfl | (simp; done) | (simp [*]; done), by repeat (first | exact Drawn0.refl _ | apply Drawn0.step)⟩
end Go.Proofs.YtikgnpachlgakaaGreatDoor.Pr

namespace Go.Proofs.YtikgnpachlgakaaGreatDoor.Pr
open Go.RowKit Go.Proofs.YtikgnpachlgakaaGreatDoorW.PrintWords Go.Proofs.YtikgnpachlgakaaGreatDoorW.PrintLast Go.Proofs.YtikgnpachlgakaaGreatDoorW.PrintMore
attribute [local go_sem] max2_int min2_int max_two min_two max_three min_three max_four min_four   -- for this text's walks alone
set_option linter.unusedVariables false
set_option linter.unusedSimpArgs false
/-! ### spec_CronOptions: function 7 -/
def spec_CronOptions.f (a0 : Int) : Option (Bool) := if 0 ≤ a0 then (if a0 < 512 then ((spec_CronTwoOptional.f a0).bind fun t110 => (some (!t110))) else (some false)) else (some false)
set_option maxHeartbeats 8000000 in
set_option maxRecDepth 100000 in
theorem spec_CronOptions.calls (a0 : Int) (r : Bool) (w : World) (h : spec_CronOptions.f a0 = some r) :
    Calls Tryz.prog 7 #[.int .i64 a0] w fun e w' => e = .returned (.bool r) ∧ Drawn0 w w' := by
  have H : (if 0 ≤ a0 then (if a0 < 512 then ((spec_CronTwoOptional.f a0).bind fun t110 => (some (!t110))) else (some false)) else (some false)) = some r := h
  clear h
  by_cases c2 : 0 ≤ a0
  · rw [if_pos c2] at H
    have c2b0 : decide (0 ≤ a0) = true := decide_eq_true c2
    clear c2
    by_cases c3 : a0 < 512
    · rw [if_pos c3] at H
      have c3b0 : decide (a0 < 512) = true := decide_eq_true c3
      clear c3
      replace H := Option.bind_eq_some_iff.mp H
      obtain ⟨t110, A40, H⟩ := H
      replace H : (some (!t110)) = some r := H
      have A4 := Aside0.mk A40
      clear A40
      obtain rfl := Option.some.inj H
      go_enter Tryz.func7, Tryz.ntmps7
      go_wp2_with (first | (go_at_call 15; (with_reducible refine (spec_CronTwoOptional.calls a0 t110 _ A4.out).mono ?_); rintro e w' ⟨rfl, ⟨nd, rfl⟩⟩))
      go_ret
      exact ⟨by first | rfl | (simp; done) | (simp [*]; done), by repeat (first | exact Drawn0.refl _ | apply Drawn0.step)⟩
    · rw [if_neg c3] at H
      have c3b0 : decide (a0 < 512) = false := decide_eq_false c3
      clear c3
      obtain rfl := Option.some.inj H
      go_enter Tryz.func7, Tryz.ntmps7
      go_wp2
      go_ret
      exact ⟨by first | rfl | (simp; done) | (simp [*]; done), by repeat (first | exact Drawn0.refl _ | apply Drawn0.step)⟩
  · rw [if_neg c2] at H
    have c2b0 : decide (0 ≤ a0) = false := decide_eq_false c2
    clear c2
    obtain rfl := Option.some.inj H
    go_enter Tryz.func7, Tryz.ntmps7
    go_wp2
    go_ret
    exact ⟨by first | rfl | (simp; done) | (simp [*]; done), by repeat (first | exact Drawn0.refl _ | apply Drawn0.step)⟩
end Go.Proofs.YtikgnpachlgakaaGreatDoor.Pr
