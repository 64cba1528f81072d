/- Functions of the program and of its library as plain Lean functions, printed by the kit's print.sh, merged by wip/tools/merge.py. Conditions: none. -/
import Derived.Test.YtikgnpachlgakaaDoorPrA
namespace Go.Proofs.YtikgnpachlgakaaDoor.Pr
open Go.RowKit Go.Proofs.YtikgnpachlgakaaDoorW.PrintWords Go.Proofs.YtikgnpachlgakaaDoorW.PrintLast Go.Proofs.YtikgnpachlgakaaDoorW.PrintMore
attribute [local go_sem] max2_int min2_int max_two min_two max_three min_three max_four min_four   -- for this text's walks alone
set_option linter.unusedVariables false
set_option linter.unusedSimpArgs false
/-! ### impl_bits: function 37 -/
def impl_bits.f (a0 : Int) (a1 : Option Int) : Option (Int × Bool) := if a1.isNone = true then (some (a0, true)) else (some (0, false))
set_option maxHeartbeats 8000000 in
set_option maxRecDepth 100000 in
theorem impl_bits.calls (a0 : Int) (a1 : Option Int) (r1 : Int) (r2 : Bool) (w : World) (h : impl_bits.f a0 a1 = some (r1, r2)) :
    Calls Tryd.prog 37 #[.int .u64 a0, errW a1] w fun e w' => e = .returned (.tuple #[.int .u64 r1, .bool r2]) ∧ Drawn0 w w' := by
  have hu57 := Tryd.underlying57
  have H : (if a1.isNone = true then (some (a0, true)) else (some (0, false))) = some (r1, r2) := h
  clear h
  rcases a1 with _ | q138
  · have H1 : (some (a0, true)) = some (r1, r2) := by rw [if_pos (show (none : Option Int).isNone = true by rfl)] at H; exact H
    clear H
    have H := H1
    clear H1
    simp only [errW_none, errW_some]
    simp only [Option.some.injEq, Prod.mk.injEq] at H
    obtain ⟨rfl, rfl⟩ := H
    go_enter Tryd.func37, Tryd.ntmps37
    go_wp2
    go_ret2
    exact ⟨by first | rfl | (simp; done) | (simp [*]; done), by repeat (first | exact Drawn0.refl _ | apply Drawn0.step)⟩
  · have H1 : (some (0, false)) = some (r1, r2) := by rw [if_neg (show ¬ (some q138).isNone = true by simp)] at H; exact H
    clear H
    have H := H1
    clear H1
    simp only [errW_none, errW_some]
    simp only [Option.some.injEq, Prod.mk.injEq] at H
    obtain ⟨rfl, rfl⟩ := H
    go_enter Tryd.func37, Tryd.ntmps37
    go_wp2
    go_ret2
    exact ⟨by first | rfl | (simp; done) | (simp [*]; done), by repeat (first | exact Drawn0.refl _ | apply Drawn0.step)⟩
end Go.Proofs.YtikgnpachlgakaaDoor.Pr

namespace Go.Proofs.YtikgnpachlgakaaDoor.Pr
open Go.RowKit Go.Proofs.YtikgnpachlgakaaDoorW.PrintWords Go.Proofs.YtikgnpachlgakaaDoorW.PrintLast Go.Proofs.YtikgnpachlgakaaDoorW.PrintMore
attribute [local go_sem] max2_int min2_int max_two min_two max_three min_three max_four min_four   -- for this text's walks alone
set_option linter.unusedVariables false
set_option linter.unusedSimpArgs false
/-! ### spec_CronBoundsOf: function 21 -/
def spec_CronBoundsOf.f (a0 : Int) : Option (Int × Int × Int) := (spec_CronLow.f a0).bind fun t181 => ((spec_CronHigh.f a0).bind fun t182 => (some (t181, t182, a0)))
set_option maxHeartbeats 8000000 in
set_option maxRecDepth 100000 in
theorem spec_CronBoundsOf.calls (a0 : Int) (r1 : Int) (r2 : Int) (r3 : Int) (w : World) (h : spec_CronBoundsOf.f a0 = some (r1, r2, r3)) :
    Calls Tryd.prog 21 #[.int .i64 a0] w fun e w' => e = .returned (.agg #[.int .i64 r1, .int .i64 r2, .int .i64 r3]) ∧ Below w.heap.size w w' := by
  have hu36 := Tryd.underlying36
  have HB := Aside0.mk (Below.refl w.heap.size w)
  have H : ((spec_CronLow.f a0).bind fun t181 => ((spec_CronHigh.f a0).bind fun t182 => (some (t181, t182, a0)))) = some (r1, r2, r3) := h
  clear h
  replace H := Option.bind_eq_some_iff.mp H
  obtain ⟨t181, A20, H⟩ := H
  replace H : ((spec_CronHigh.f a0).bind fun t182 => (some (t181, t182, a0))) = some (r1, r2, r3) := H
  have A2 := Aside0.mk A20
  clear A20
  replace H := Option.bind_eq_some_iff.mp H
  obtain ⟨t182, A30, H⟩ := H
  replace H : (some (t181, t182, a0)) = some (r1, r2, r3) := H
  have A3 := Aside0.mk A30
  clear A30
  simp only [Option.some.injEq, Prod.mk.injEq] at H
  obtain ⟨rfl, rfl, rfl⟩ := H
  go_enter Tryd.func21, Tryd.ntmps21
  go_wp2_with (first | ((with_reducible refine gate_dst (N := 2) rfl ?_); refine box_event ?hg (N := 2) ?hd (cs := #[.int .i64 0, .int .i64 0, .int .i64 0]) (t := 36) ?hr ?_; (case hd => rfl); (case hg => rfl); (case hr => first | (go_simp; done) | (go_simp; rfl)); intro gb180 hg w4 hbox hb; have n0_ := Aside0.mk (below_step (by repeat (first | (with_reducible first | exact HB.out | apply below_alloc | apply pw_below_drewN | apply below_drew1) | exact HB.out)) hb); have n1_ := Aside0.mk (hbox); have n2_ := Aside0.mk ((by rw [hg]; exact (below_size (by repeat (first | (with_reducible first | exact HB.out | apply below_alloc | apply pw_below_drewN | apply below_drew1) | exact HB.out))) : w.heap.size ≤ gb180)); have n3_ := Aside0.mk ((by rw [hg]; exact (below_size (by repeat (first | (with_reducible first | exact HB.out | apply below_alloc | apply pw_below_drewN | apply below_drew1) | exact HB.out))) : w.heap.size ≤ gb180)); clear HB; have HB := n0_; have BK180 := n1_; have GW180 := n2_; have GE180 := n3_; clear n0_ n1_ n2_ n3_; clear hb hbox hg) | ((with_reducible refine gate_callee (f := 15) rfl ?_); refine goesL_ (some 4) rfl rfl Tryd.func15 (by kernel_rfl) rfl #[.int .i64 a0] rfl (by (try simp only [List.map_toArray, List.map_cons, List.map_nil]); first | done | rfl | (simp only [List.length_drop, List.length_take]; rfl)) ?_; (with_reducible refine (spec_CronLow.calls a0 t181 _ A2.out).mono ?_); rintro e w' ⟨rfl, ⟨nd, rfl⟩⟩; refine ⟨_, rfl, ?_⟩; (try (rw [drewN_self w4]; generalize hq_ : World.drewN w4 _ = w4; have n0_ : Aside0 (w4.heap[gb180]? = some (.cells #[.int .i64 0, .int .i64 0, .int .i64 0] 36 (0, 0))) := ⟨by rw [← hq_]; exact (by (with_reducible repeat (first | refine blk_drewN ?_ _ | refine blk_drew ?_ | refine blk_alloc ?_ _)); exact BK180.out)⟩; have n1_ : Aside0 (Below w.heap.size w w4) := ⟨by rw [← hq_]; exact (by repeat (first | (with_reducible first | exact HB.out | apply below_alloc | apply pw_below_drewN | apply below_drew1 | refine below_set ?_ GE180.out) | exact HB.out))⟩; clear BK180 HB hq_; have BK180 := n0_; have HB := n1_; clear n0_ n1_))) | ((with_reducible refine gate_callee (f := 16) rfl ?_); refine goesL_ (some 6) rfl rfl Tryd.func16 (by kernel_rfl) rfl #[.int .i64 a0] rfl (by (try simp only [List.map_toArray, List.map_cons, List.map_nil]); first | done | rfl | (simp only [List.length_drop, List.length_take]; rfl)) ?_; (with_reducible refine (spec_CronHigh.calls a0 t182 _ A3.out).mono ?_); rintro e w' ⟨rfl, ⟨nd, rfl⟩⟩; refine ⟨_, rfl, ?_⟩; (try (rw [drewN_self w4]; generalize hq_ : World.drewN w4 _ = w4; have n0_ : Aside0 (w4.heap[gb180]? = some (.cells #[.int .i64 0, .int .i64 0, .int .i64 0] 36 (0, 0))) := ⟨by rw [← hq_]; exact (by (with_reducible repeat (first | refine blk_drewN ?_ _ | refine blk_drew ?_ | refine blk_alloc ?_ _)); exact BK180.out)⟩; have n1_ : Aside0 (Below w.heap.size w w4) := ⟨by rw [← hq_]; exact (by repeat (first | (with_reducible first | exact HB.out | apply below_alloc | apply pw_below_drewN | apply below_drew1 | refine below_set ?_ GE180.out) | exact HB.out))⟩; clear BK180 HB hq_; have BK180 := n0_; have HB := n1_; clear n0_ n1_)); have hcz5_0 : w4.cell? ⟨gb180, 0, none⟩ = some (.int .i64 0) := (blk_cell BK180.out 0).trans rfl; have hcz5_1 : w4.cell? ⟨gb180, 1, none⟩ = some (.int .i64 0) := (blk_cell BK180.out 1).trans rfl; have hcz5_2 : w4.cell? ⟨gb180, 2, none⟩ = some (.int .i64 0) := (blk_cell BK180.out 2).trans rfl; have hfz5_0 := blk_frozen BK180.out 0; have hfz5_1 := blk_frozen BK180.out 1; have hfz5_2 := blk_frozen BK180.out 2))
  refine bodyPost_ret (results_cell_row rfl _ _ gb180 36 #[.int .i64 t181, .int .i64 t182, .int .i64 a0] (0, 0) _ rfl (by (with_reducible repeat (first | refine blk_drewN ?_ _ | refine blk_drew ?_ | refine blk_alloc ?_ _)); refine blk_put (cs := #[.int .i64 t181, .int .i64 t182, .int .i64 0]) ?_ 2 _ rfl; (with_reducible repeat (first | refine blk_drewN ?_ _ | refine blk_drew ?_ | refine blk_alloc ?_ _)); refine blk_put (cs := #[.int .i64 t181, .int .i64 0, .int .i64 0]) ?_ 1 _ rfl; (with_reducible repeat (first | refine blk_drewN ?_ _ | refine blk_drew ?_ | refine blk_alloc ?_ _)); refine blk_put (cs := #[.int .i64 0, .int .i64 0, .int .i64 0]) ?_ 0 _ rfl; (with_reducible repeat (first | refine blk_drewN ?_ _ | refine blk_drew ?_ | refine blk_alloc ?_ _)); exact BK180.out) Tryd.underlying36 rfl (by kernel_rfl)) rfl ?_
  exact ⟨by first | rfl | (simp [errW_none, errW_some] <;> rfl) | (simp [*, errW_none, errW_some] <;> rfl), by repeat (first | (with_reducible first | exact HB.out | apply below_alloc | apply pw_below_drewN | apply below_drew1 | refine below_set ?_ GE180.out) | exact HB.out)⟩
end Go.Proofs.YtikgnpachlgakaaDoor.Pr

namespace Go.Proofs.YtikgnpachlgakaaDoor.Pr
open Go.RowKit Go.Proofs.YtikgnpachlgakaaDoorW.PrintWords Go.Proofs.YtikgnpachlgakaaDoorW.PrintLast Go.Proofs.YtikgnpachlgakaaDoorW.PrintMore
attribute [local go_sem] max2_int min2_int max_two min_two max_three min_three max_four min_four   -- for this text's walks alone
set_option linter.unusedVariables false
set_option linter.unusedSimpArgs false
/-! ### spec_CronIsKind: function 8 -/
def spec_CronIsKind.f (a0 : Int) : Option (Bool) := if 0 ≤ a0 then (some (decide (a0 < 6))) else (some false)
set_option maxHeartbeats 8000000 in
set_option maxRecDepth 100000 in
theorem spec_CronIsKind.calls (a0 : Int) (r : Bool) (w : World) (h : spec_CronIsKind.f a0 = some r) :
    Calls Tryd.prog 8 #[.int .i64 a0] w fun e w' => e = .returned (.bool r) ∧ Drawn0 w w' := by
  have H : (if 0 ≤ a0 then (some (decide (a0 < 6))) else (some false)) = some r := h
  clear h
  by_cases c2 : 0 ≤ a0
  · rw [if_pos c2] at H
    have c2b0 : decide (0 ≤ a0) = true := decide_eq_true c2
    clear c2
    obtain rfl := Option.some.inj H
    go_enter Tryd.func8, Tryd.ntmps8
    go_wp2
    go_ret
    exact ⟨by first | rfl | (simp; done) | (simp [*]; done), by repeat (first | exact Drawn0.refl _ | apply Drawn0.step)⟩
  · rw [if_neg c2] at H
    have c2b0 : decide (0 ≤ a0) = false := decide_eq_false c2
    clear c2
    obtain rfl := Option.some.inj H
    go_enter Tryd.func8, Tryd.ntmps8
    go_wp2
    go_ret
    exact ⟨by first | rfl | (simp; done) | (simp [*]; done), by repeat (first | exact Drawn0.refl _ | apply Drawn0.step)⟩
end Go.Proofs.YtikgnpachlgakaaDoor.Pr

namespace Go.Proofs.YtikgnpachlgakaaDoor.Pr
open Go.RowKit Go.Proofs.YtikgnpachlgakaaDoorW.PrintWords Go.Proofs.YtikgnpachlgakaaDoorW.PrintLast Go.Proofs.YtikgnpachlgakaaDoorW.PrintMore
attribute [local go_sem] max2_int min2_int max_two min_two max_three min_three max_four min_four   -- for this text's walks alone
set_option linter.unusedVariables false
set_option linter.unusedSimpArgs false
/-! ### impl_number: function 31 -/
def impl_number.f (a0 : Int) (a1 : Option Int) : Option (Int × Bool) := if a1.isNone = true then (some (a0, true)) else (some (0, false))
set_option maxHeartbeats 8000000 in
set_option maxRecDepth 100000 in
theorem impl_number.calls (a0 : Int) (a1 : Option Int) (r1 : Int) (r2 : Bool) (w : World) (h : impl_number.f a0 a1 = some (r1, r2)) :
    Calls Tryd.prog 31 #[.int .u64 a0, errW a1] w fun e w' => e = .returned (.tuple #[.int .u64 r1, .bool r2]) ∧ Drawn0 w w' := by
  have hu57 := Tryd.underlying57
  have H : (if a1.isNone = true then (some (a0, true)) else (some (0, false))) = some (r1, r2) := h
  clear h
  rcases a1 with _ | q116
  · have H1 : (some (a0, true)) = some (r1, r2) := by rw [if_pos (show (none : Option Int).isNone = true by rfl)] at H; exact H
    clear H
    have H := H1
    clear H1
    simp only [errW_none, errW_some]
    simp only [Option.some.injEq, Prod.mk.injEq] at H
    obtain ⟨rfl, rfl⟩ := H
    go_enter Tryd.func31, Tryd.ntmps31
    go_wp2
    go_ret2
    exact ⟨by first | rfl | (simp; done) | (simp [*]; done), by repeat (first | exact Drawn0.refl _ | apply Drawn0.step)⟩
  · have H1 : (some (0, false)) = some (r1, r2) := by rw [if_neg (show ¬ (some q116).isNone = true by simp)] at H; exact H
    clear H
    have H := H1
    clear H1
    simp only [errW_none, errW_some]
    simp only [Option.some.injEq, Prod.mk.injEq] at H
    obtain ⟨rfl, rfl⟩ := H
    go_enter Tryd.func31, Tryd.ntmps31
    go_wp2
    go_ret2
    exact ⟨by first | rfl | (simp; done) | (simp [*]; done), by repeat (first | exact Drawn0.refl _ | apply Drawn0.step)⟩
end Go.Proofs.YtikgnpachlgakaaDoor.Pr

namespace Go.Proofs.YtikgnpachlgakaaDoor.Pr
open Go.RowKit Go.Proofs.YtikgnpachlgakaaDoorW.PrintWords Go.Proofs.YtikgnpachlgakaaDoorW.PrintLast Go.Proofs.YtikgnpachlgakaaDoorW.PrintMore
attribute [local go_sem] max2_int min2_int max_two min_two max_three min_three max_four min_four   -- for this text's walks alone
set_option linter.unusedVariables false
set_option linter.unusedSimpArgs false
/-! ### stringslite_HasPrefix: function 83 -/
def stringslite_HasPrefix.f (a0 : ByteArray) (a1 : ByteArray) : Option (Bool) := if (a0.size : Int) ≥ (a1.size : Int) then (if 0 ≤ (a1.size : Int) then (if (a1.size : Int) ≤ (a0.size : Int) then (some ((a0.extract 0 ((a1.size : Int) : Int).toNat).toList == a1.toList)) else (none)) else (none)) else (some false)
set_option maxHeartbeats 8000000 in
set_option maxRecDepth 100000 in
theorem stringslite_HasPrefix.calls (a0 : ByteArray) (a1 : ByteArray) (r : Bool) (w : World) (h : stringslite_HasPrefix.f a0 a1 = some r) :
    Calls Tryd.prog 83 #[.string a0, .string a1] w fun e w' => e = .returned (.bool r) ∧ Drawn0 w w' := by
  have H : (if (a0.size : Int) ≥ (a1.size : Int) then (if 0 ≤ (a1.size : Int) then (if (a1.size : Int) ≤ (a0.size : Int) then (some ((a0.extract 0 ((a1.size : Int) : Int).toNat).toList == a1.toList)) else (none)) else (none)) else (some false)) = some r := h
  clear h
  by_cases c3 : (a0.size : Int) ≥ (a1.size : Int)
  · rw [if_pos c3] at H
    have c3b0 : decide ((a1.size : Int) ≤ (a0.size : Int)) = true := decide_eq_true c3
    have c3b1 : decide (a1.size ≤ a0.size) = true := decide_eq_true (Int.ofNat_le.mp c3)
    clear c3
    by_cases c4 : 0 ≤ (a1.size : Int)
    · rw [if_pos c4] at H
      have c4b0 := eq_true c4
      have c4b1 : decide (0 ≤ (a1.size : Int)) = true := decide_eq_true c4
      clear c4
      by_cases c5 : (a1.size : Int) ≤ (a0.size : Int)
      · rw [if_pos c5] at H
        have c5b0 := eq_true c5
        have c5b1 : decide ((a1.size : Int) ≤ (a0.size : Int)) = true := decide_eq_true c5
        clear c5
        obtain rfl := Option.some.inj H
        go_enter Tryd.func83, Tryd.ntmps83
        go_wp2
        go_ret
        exact ⟨by first | rfl | (simp; done) | (simp [*]; done), by repeat (first | exact Drawn0.refl _ | apply Drawn0.step)⟩
      · rw [if_neg c5] at H
        exact absurd H (by simp)
    · rw [if_neg c4] at H
      exact absurd H (by simp)
  · rw [if_neg c3] at H
    have c3b0 : decide ((a1.size : Int) ≤ (a0.size : Int)) = false := decide_eq_false c3
    have c3b1 : decide (a1.size ≤ a0.size) = false := decide_eq_false (fun h => c3 (Int.ofNat_le.mpr h))
    clear c3
    obtain rfl := Option.some.inj H
    go_enter Tryd.func83, Tryd.ntmps83
    go_wp2
    go_ret
    exact ⟨by first | rfl | (simp; done) | (simp [*]; done), by repeat (first | exact Drawn0.refl _ | apply Drawn0.step)⟩
end Go.Proofs.YtikgnpachlgakaaDoor.Pr

namespace Go.Proofs.YtikgnpachlgakaaDoor.Pr
open Go.RowKit Go.Proofs.YtikgnpachlgakaaDoorW.PrintWords Go.Proofs.YtikgnpachlgakaaDoorW.PrintLast Go.Proofs.YtikgnpachlgakaaDoorW.PrintMore
attribute [local go_sem] max2_int min2_int max_two min_two max_three min_three max_four min_four   -- for this text's walks alone
set_option linter.unusedVariables false
set_option linter.unusedSimpArgs false
/-! ### strings_HasPrefix: function 59 -/
def strings_HasPrefix.f (a0 : ByteArray) (a1 : ByteArray) : Option (Bool) := (stringslite_HasPrefix.f a0 a1).bind fun t104 => (some t104)
set_option maxHeartbeats 8000000 in
set_option maxRecDepth 100000 in
theorem strings_HasPrefix.calls (a0 : ByteArray) (a1 : ByteArray) (r : Bool) (w : World) (h : strings_HasPrefix.f a0 a1 = some r) :
    Calls Tryd.prog 59 #[.string a0, .string a1] w fun e w' => e = .returned (.bool r) ∧ Drawn0 w w' := by
  have H : ((stringslite_HasPrefix.f a0 a1).bind fun t104 => (some t104)) = some r := h
  clear h
  replace H := Option.bind_eq_some_iff.mp H
  obtain ⟨t104, A30, H⟩ := H
  replace H : (some t104) = some r := H
  have A3 := Aside0.mk A30
  clear A30
  obtain rfl := Option.some.inj H
  go_enter Tryd.func59, Tryd.ntmps59
  go_wp2_with (first | ((with_reducible refine gate_callee (f := 83) rfl ?_); refine goesL_ (some 7) rfl rfl Tryd.func83 (by kernel_rfl) rfl #[.string a0, .string a1] rfl (by (try simp only [List.map_toArray, List.map_cons, List.map_nil]); first | done | rfl | (simp only [List.length_drop, List.length_take]; rfl)) ?_; (with_reducible refine (stringslite_HasPrefix.calls a0 a1 t104 _ A3.out).mono ?_); rintro e w' ⟨rfl, ⟨nd, rfl⟩⟩; refine ⟨_, rfl, ?_⟩))
  go_ret
  exact ⟨by first | rfl | (simp; done) | (simp [*]; done), by repeat (first | exact Drawn0.refl _ | apply Drawn0.step)⟩
end Go.Proofs.YtikgnpachlgakaaDoor.Pr

namespace Go.Proofs.YtikgnpachlgakaaDoor.Pr
open Go.RowKit Go.Proofs.YtikgnpachlgakaaDoorW.PrintWords Go.Proofs.YtikgnpachlgakaaDoorW.PrintLast Go.Proofs.YtikgnpachlgakaaDoorW.PrintMore
attribute [local go_sem] max2_int min2_int max_two min_two max_three min_three max_four min_four   -- for this text's walks alone
set_option linter.unusedVariables false
set_option linter.unusedSimpArgs false
/-! ### gotime_containsDotDot: function 85 -/
def gotime_containsDotDot.l0 : Nat → ByteArray → Int → Option (Bool)
  | 0, _, _ => none
  | k + 1, x0, x3 => if x3 < (wrap64 ((x0.size : Int) - 1)) then (if 0 ≤ x3 then (if x3 < (x0.size : Int) then (if (bt x0 x3) = 46 then (if 0 ≤ (wrap64 (x3 + 1)) then (if (wrap64 (x3 + 1)) < (x0.size : Int) then (if (bt x0 (wrap64 (x3 + 1))) = 46 then (some true) else (gotime_containsDotDot.l0 k x0 (wrap64 (x3 + 1)))) else (none)) else (none)) else (gotime_containsDotDot.l0 k x0 (wrap64 (x3 + 1)))) else (none)) else (none)) else (some false)
def gotime_containsDotDot.f (k : Nat) (a0 : ByteArray) : Option (Bool) := if (a0.size : Int) < 2 then (some false) else (gotime_containsDotDot.l0 k a0 0)
theorem gotime_containsDotDot.mono_l : ∀ k, (∀ y0 y1, LeO (gotime_containsDotDot.l0 k y0 y1) (gotime_containsDotDot.l0 (k + 1) y0 y1))
  | 0 => fun _ _ r h => by simp [gotime_containsDotDot.l0] at h
  | k + 1 => by
    have ih0 := gotime_containsDotDot.mono_l k
    · intro y0 y1
      unfold gotime_containsDotDot.l0
      repeat' first
      | (with_reducible exact ih0 _ _)
      | (with_reducible exact LeO.refl _)
      | (with_reducible exact LeO.none _)
      | (with_reducible refine LeO.ite ?_ ?_)
      | (with_reducible refine LeO.bind ?_ (fun _ => ?_))
      | exact ih0 _ _
      | exact LeO.none _
      | refine LeO.ite ?_ ?_
      | refine LeO.bind ?_ (fun _ => ?_)
theorem gotime_containsDotDot.mono : ∀ a0 k, LeO (gotime_containsDotDot.f k a0) (gotime_containsDotDot.f (k + 1) a0) := by
  intro a0 k
  have ih0 := gotime_containsDotDot.mono_l k
  unfold gotime_containsDotDot.f
  repeat' first
      | (with_reducible exact ih0 _ _)
      | (with_reducible exact LeO.refl _)
      | (with_reducible exact LeO.none _)
      | (with_reducible refine LeO.ite ?_ ?_)
      | (with_reducible refine LeO.bind ?_ (fun _ => ?_))
      | exact ih0 _ _
      | exact LeO.none _
      | refine LeO.ite ?_ ?_
      | refine LeO.bind ?_ (fun _ => ?_)
set_option maxHeartbeats 8000000 in
set_option maxRecDepth 100000 in
theorem gotime_containsDotDot.calls (k : Nat) (a0 : ByteArray) (r : Bool) (w : World) (h : gotime_containsDotDot.f k a0 = some r) :
    Calls Tryd.prog 85 #[.string a0] w fun e w' => e = .returned (.bool r) ∧ Drawn0 w w' := by
  have H : (if (a0.size : Int) < 2 then (some false) else (gotime_containsDotDot.l0 k a0 0)) = some r := h
  clear h
  by_cases c2 : (a0.size : Int) < 2
  · rw [if_pos c2] at H
    have c2b0 : decide ((a0.size : Int) < 2) = true := decide_eq_true c2
    have c2b1 : decide (a0.size < 2) = true := decide_eq_true (by omega)
    clear c2
    obtain rfl := Option.some.inj H
    go_enter Tryd.func85, Tryd.ntmps85
    go_wp2
    go_ret
    exact ⟨by first | rfl | (simp; done) | (simp [*]; done), by repeat (first | exact Drawn0.refl _ | apply Drawn0.step)⟩
  · rw [if_neg c2] at H
    have c2b0 : decide ((a0.size : Int) < 2) = false := decide_eq_false c2
    have c2b1 : decide (a0.size < 2) = false := decide_eq_false (by omega)
    clear c2
    have H' := Aside0.mk H
    clear H
    go_enter Tryd.func85, Tryd.ntmps85
    go_wp2
    go_loopg [3] k (fun kq v3 w' => ∃ (x3_1 : Int), v3 = .int .i64 x3_1 ∧ Aside0 (gotime_containsDotDot.l0 kq a0 x3_1 = some r) ∧ Aside0 (kq ≤ k) ∧ Drawn0 w w')
    case atStart => exact ⟨(0), (by first | rfl | (simp; done) | (simp [*]; done)), H', ⟨Nat.le_refl _⟩, by repeat (first | exact Drawn0.refl _ | apply Drawn0.step)⟩
    case round =>
      clear H'
      try clear c2
      try clear c2b0
      try clear c2b1
      try clear p2
      obtain ⟨x3_1, rfl, HA, HK1, ⟨m1, rfl⟩⟩ := hrel
      cases gk with
      | zero => exact absurd HA.out (by simp [gotime_containsDotDot.l0])
      | succ k1 =>
        have H := HA.out
        clear HA
        simp only [gotime_containsDotDot.l0] at H
        by_cases c3 : x3_1 < (wrap64 ((a0.size : Int) - 1))
        · rw [if_pos c3] at H
          have c3b0 : decide (x3_1 < (wrap64 ((a0.size : Int) - 1))) = true := decide_eq_true c3
          clear c3
          by_cases c4 : 0 ≤ x3_1
          · rw [if_pos c4] at H
            have c4b0 : decide (0 ≤ x3_1) = true := decide_eq_true c4
            clear c4
            by_cases c5 : x3_1 < (a0.size : Int)
            · rw [if_pos c5] at H
              have c5b0 : decide (x3_1 < (a0.size : Int)) = true := decide_eq_true c5
              clear c5
              by_cases c7 : (bt a0 x3_1) = 46
              · rw [if_pos c7] at H
                have c7b0 : ((bt a0 x3_1) == 46) = true := beq_iff_eq.mpr c7
                have c7b1 : ((bt a0 x3_1) != 46) = false := bne_eq_false_iff_eq.mpr c7
                clear c7
                obtain ⟨ji8, hji8⟩ : ∃ j_ : Int, (wrap64 (x3_1 + 1)) = j_ := ⟨_, rfl⟩
                replace H : (if 0 ≤ (ji8) then (if (ji8) < (a0.size : Int) then (if (bt a0 (ji8)) = 46 then (some true) else (gotime_containsDotDot.l0 k1 a0 ji8)) else (none)) else (none)) = some r := by first | (rw [hji8] at H; exact H) | (simp only [hji8] at H ⊢; exact H)
                have hji8w : (IntKind.i64.wrap (x3_1 + 1)) = ji8 := (i64_w _).trans hji8
                by_cases c9 : 0 ≤ (ji8)
                · rw [if_pos c9] at H
                  have c9b0 : decide (0 ≤ (ji8)) = true := decide_eq_true c9
                  clear c9
                  by_cases c10 : (ji8) < (a0.size : Int)
                  · rw [if_pos c10] at H
                    have c10b0 : decide ((ji8) < (a0.size : Int)) = true := decide_eq_true c10
                    clear c10
                    by_cases c12 : (bt a0 (ji8)) = 46
                    · rw [if_pos c12] at H
                      have c12b0 : ((bt a0 (ji8)) == 46) = true := beq_iff_eq.mpr c12
                      have c12b1 : ((bt a0 (ji8)) != 46) = false := bne_eq_false_iff_eq.mpr c12
                      clear c12
                      obtain rfl := Option.some.inj H
                      have p6 : 0 ≤ (x3_1 : Int) := of_decide_eq_true (by first | (with_reducible assumption) | assumption)
                      have q6 : x3_1 < (a0.size : Int) := of_decide_eq_true (by first | (with_reducible assumption) | assumption)
                      have hx6 := bt_at a0 x3_1
                      replace p6 := eq_true p6
                      replace q6 := eq_true q6
                      have p11 : 0 ≤ ((ji8) : Int) := of_decide_eq_true (by first | (with_reducible assumption) | assumption)
                      have q11 : (ji8) < (a0.size : Int) := of_decide_eq_true (by first | (with_reducible assumption) | assumption)
                      have hx11 := bt_at a0 (ji8)
                      replace p11 := eq_true p11
                      replace q11 := eq_true q11
                      go_wp2
                      go_ret
                      exact ⟨by first | rfl | (simp; done) | (simp only [← hji8] <;> (first | rfl | simp)) | (simp [*]; done), by repeat (first | exact Drawn0.refl _ | apply Drawn0.step)⟩
                    · rw [if_neg c12] at H
                      have c12b0 : ((bt a0 (ji8)) == 46) = false := beq_eq_false_iff_ne.mpr c12
                      have c12b1 : ((bt a0 (ji8)) != 46) = true := bne_iff_ne.mpr c12
                      have H' := Aside0.mk H
                      clear H
                      have p6 : 0 ≤ (x3_1 : Int) := of_decide_eq_true (by first | (with_reducible assumption) | assumption)
                      have q6 : x3_1 < (a0.size : Int) := of_decide_eq_true (by first | (with_reducible assumption) | assumption)
                      have hx6 := bt_at a0 x3_1
                      replace p6 := eq_true p6
                      replace q6 := eq_true q6
                      have p11 : 0 ≤ ((ji8) : Int) := of_decide_eq_true (by first | (with_reducible assumption) | assumption)
                      have q11 : (ji8) < (a0.size : Int) := of_decide_eq_true (by first | (with_reducible assumption) | assumption)
                      have hx11 := bt_at a0 (ji8)
                      replace p11 := eq_true p11
                      replace q11 := eq_true q11
                      go_wp2
                      go_roundg k1
                      case measure => have := HK1.out; omega
                      case rel => exact ⟨(ji8), (by first | rfl | (simp; done) | (simp only [← hji8] <;> (first | rfl | simp)) | (simp [*]; done)), H', ⟨by have := HK1.out; omega⟩, by repeat (first | exact Drawn0.refl _ | apply Drawn0.step)⟩
                  · rw [if_neg c10] at H
                    exact absurd H (by simp)
                · rw [if_neg c9] at H
                  exact absurd H (by simp)
              · rw [if_neg c7] at H
                have c7b0 : ((bt a0 x3_1) == 46) = false := beq_eq_false_iff_ne.mpr c7
                have c7b1 : ((bt a0 x3_1) != 46) = true := bne_iff_ne.mpr c7
                have H' := Aside0.mk H
                clear H
                have p6 : 0 ≤ (x3_1 : Int) := of_decide_eq_true (by first | (with_reducible assumption) | assumption)
                have q6 : x3_1 < (a0.size : Int) := of_decide_eq_true (by first | (with_reducible assumption) | assumption)
                have hx6 := bt_at a0 x3_1
                replace p6 := eq_true p6
                replace q6 := eq_true q6
                go_wp2
                go_roundg k1
                case measure => have := HK1.out; omega
                case rel => exact ⟨(wrap64 (x3_1 + 1)), (by first | rfl | (simp; done) | (simp [*]; done)), H', ⟨by have := HK1.out; omega⟩, by repeat (first | exact Drawn0.refl _ | apply Drawn0.step)⟩
            · rw [if_neg c5] at H
              exact absurd H (by simp)
          · rw [if_neg c4] at H
            exact absurd H (by simp)
        · rw [if_neg c3] at H
          have c3b0 : decide (x3_1 < (wrap64 ((a0.size : Int) - 1))) = false := decide_eq_false c3
          clear c3
          obtain rfl := Option.some.inj H
          go_wp2
          go_ret
          exact ⟨by first | rfl | (simp; done) | (simp [*]; done), by repeat (first | exact Drawn0.refl _ | apply Drawn0.step)⟩
end Go.Proofs.YtikgnpachlgakaaDoor.Pr

namespace Go.Proofs.YtikgnpachlgakaaDoor.Pr
open Go.RowKit Go.Proofs.YtikgnpachlgakaaDoorW.PrintWords Go.Proofs.YtikgnpachlgakaaDoorW.PrintLast Go.Proofs.YtikgnpachlgakaaDoorW.PrintMore
attribute [local go_sem] max2_int min2_int max_two min_two max_three min_three max_four min_four   -- for this text's walks alone
set_option linter.unusedVariables false
set_option linter.unusedSimpArgs false
/-! ### cron_zzSpace: function 87 -/
def cron_zzSpace.f (a0 : Int) : Option (Bool) := if a0 = 9 then (some true) else (if a0 = 10 then (some true) else (if a0 = 11 then (some true) else (if a0 = 12 then (some true) else (if a0 = 13 then (some true) else (if a0 = 32 then (some true) else (if a0 = 133 then (some true) else (if a0 = 160 then (some true) else (if a0 = 5760 then (some true) else (if a0 = 8232 then (some true) else (if a0 = 8233 then (some true) else (if a0 = 8239 then (some true) else (if a0 = 8287 then (some true) else (if a0 = 12288 then (some true) else (if 8192 ≤ a0 then (some (decide (a0 ≤ 8202))) else (some false)))))))))))))))
set_option maxHeartbeats 8000000 in
set_option maxRecDepth 100000 in
theorem cron_zzSpace.calls (a0 : Int) (r : Bool) (w : World) (h : cron_zzSpace.f a0 = some r) :
    Calls Tryd.prog 87 #[.int .i32 a0] w fun e w' => e = .returned (.bool r) ∧ Drawn0 w w' := by
  have H : (if a0 = 9 then (some true) else (if a0 = 10 then (some true) else (if a0 = 11 then (some true) else (if a0 = 12 then (some true) else (if a0 = 13 then (some true) else (if a0 = 32 then (some true) else (if a0 = 133 then (some true) else (if a0 = 160 then (some true) else (if a0 = 5760 then (some true) else (if a0 = 8232 then (some true) else (if a0 = 8233 then (some true) else (if a0 = 8239 then (some true) else (if a0 = 8287 then (some true) else (if a0 = 12288 then (some true) else (if 8192 ≤ a0 then (some (decide (a0 ≤ 8202))) else (some false)))))))))))))))) = some r := h
  clear h
  by_cases c2 : a0 = 9
  · rw [if_pos c2] at H
    have c2b0 : (a0 == 9) = true := beq_iff_eq.mpr c2
    have c2b1 : (a0 != 9) = false := bne_eq_false_iff_eq.mpr c2
    clear c2
    obtain rfl := Option.some.inj H
    go_enter Tryd.func87, Tryd.ntmps87
    go_wp2
    go_ret
    exact ⟨by first | rfl | (simp; done) | (simp [*]; done), by repeat (first | exact Drawn0.refl _ | apply Drawn0.step)⟩
  · rw [if_neg c2] at H
    have c2b0 : (a0 == 9) = false := beq_eq_false_iff_ne.mpr c2
    have c2b1 : (a0 != 9) = true := bne_iff_ne.mpr c2
    by_cases c3 : a0 = 10
    · rw [if_pos c3] at H
      have c3b0 : (a0 == 10) = true := beq_iff_eq.mpr c3
      have c3b1 : (a0 != 10) = false := bne_eq_false_iff_eq.mpr c3
      clear c3
      obtain rfl := Option.some.inj H
      go_enter Tryd.func87, Tryd.ntmps87
      go_wp2
      go_ret
      exact ⟨by first | rfl | (simp; done) | (simp [*]; done), by repeat (first | exact Drawn0.refl _ | apply Drawn0.step)⟩
    · rw [if_neg c3] at H
      have c3b0 : (a0 == 10) = false := beq_eq_false_iff_ne.mpr c3
      have c3b1 : (a0 != 10) = true := bne_iff_ne.mpr c3
      by_cases c4 : a0 = 11
      · rw [if_pos c4] at H
        have c4b0 : (a0 == 11) = true := beq_iff_eq.mpr c4
        have c4b1 : (a0 != 11) = false := bne_eq_false_iff_eq.mpr c4
        clear c4
        obtain rfl := Option.some.inj H
        go_enter Tryd.func87, Tryd.ntmps87
        go_wp2
        go_ret
        exact ⟨by first | rfl | (simp; done) | (simp [*]; done), by repeat (first | exact Drawn0.refl _ | apply Drawn0.step)⟩
      · rw [if_neg c4] at H
        have c4b0 : (a0 == 11) = false := beq_eq_false_iff_ne.mpr c4
        have c4b1 : (a0 != 11) = true := bne_iff_ne.mpr c4
        by_cases c5 : a0 = 12
        · rw [if_pos c5] at H
          have c5b0 : (a0 == 12) = true := beq_iff_eq.mpr c5
          have c5b1 : (a0 != 12) = false := bne_eq_false_iff_eq.mpr c5
          clear c5
          obtain rfl := Option.some.inj H
          go_enter Tryd.func87, Tryd.ntmps87
          go_wp2
          go_ret
          exact ⟨by first | rfl | (simp; done) | (simp [*]; done), by repeat (first | exact Drawn0.refl _ | apply Drawn0.step)⟩
        · rw [if_neg c5] at H
          have c5b0 : (a0 == 12) = false := beq_eq_false_iff_ne.mpr c5
          have c5b1 : (a0 != 12) = true := bne_iff_ne.mpr c5
          by_cases c6 : a0 = 13
          · rw [if_pos c6] at H
            have c6b0 : (a0 == 13) = true := beq_iff_eq.mpr c6
            have c6b1 : (a0 != 13) = false := bne_eq_false_iff_eq.mpr c6
            clear c6
            obtain rfl := Option.some.inj H
            go_enter Tryd.func87, Tryd.ntmps87
            go_wp2
            go_ret
            exact ⟨by first | rfl | (simp; done) | (simp [*]; done), by repeat (first | exact Drawn0.refl _ | apply Drawn0.step)⟩
          · rw [if_neg c6] at H
            have c6b0 : (a0 == 13) = false := beq_eq_false_iff_ne.mpr c6
            have c6b1 : (a0 != 13) = true := bne_iff_ne.mpr c6
            by_cases c7 : a0 = 32
            · rw [if_pos c7] at H
              have c7b0 : (a0 == 32) = true := beq_iff_eq.mpr c7
              have c7b1 : (a0 != 32) = false := bne_eq_false_iff_eq.mpr c7
              clear c7
              obtain rfl := Option.some.inj H
              go_enter Tryd.func87, Tryd.ntmps87
              go_wp2
              go_ret
              exact ⟨by first | rfl | (simp; done) | (simp [*]; done), by repeat (first | exact Drawn0.refl _ | apply Drawn0.step)⟩
            · rw [if_neg c7] at H
              have c7b0 : (a0 == 32) = false := beq_eq_false_iff_ne.mpr c7
              have c7b1 : (a0 != 32) = true := bne_iff_ne.mpr c7
              by_cases c8 : a0 = 133
              · rw [if_pos c8] at H
                have c8b0 : (a0 == 133) = true := beq_iff_eq.mpr c8
                have c8b1 : (a0 != 133) = false := bne_eq_false_iff_eq.mpr c8
                clear c8
                obtain rfl := Option.some.inj H
                go_enter Tryd.func87, Tryd.ntmps87
                go_wp2
                go_ret
                exact ⟨by first | rfl | (simp; done) | (simp [*]; done), by repeat (first | exact Drawn0.refl _ | apply Drawn0.step)⟩
              · rw [if_neg c8] at H
                have c8b0 : (a0 == 133) = false := beq_eq_false_iff_ne.mpr c8
                have c8b1 : (a0 != 133) = true := bne_iff_ne.mpr c8
                by_cases c9 : a0 = 160
                · rw [if_pos c9] at H
                  have c9b0 : (a0 == 160) = true := beq_iff_eq.mpr c9
                  have c9b1 : (a0 != 160) = false := bne_eq_false_iff_eq.mpr c9
                  clear c9
                  obtain rfl := Option.some.inj H
                  go_enter Tryd.func87, Tryd.ntmps87
                  go_wp2
                  go_ret
                  exact ⟨by first | rfl | (simp; done) | (simp [*]; done), by repeat (first | exact Drawn0.refl _ | apply Drawn0.step)⟩
                · rw [if_neg c9] at H
                  have c9b0 : (a0 == 160) = false := beq_eq_false_iff_ne.mpr c9
                  have c9b1 : (a0 != 160) = true := bne_iff_ne.mpr c9
                  by_cases c10 : a0 = 5760
                  · rw [if_pos c10] at H
                    have c10b0 : (a0 == 5760) = true := beq_iff_eq.mpr c10
                    have c10b1 : (a0 != 5760) = false := bne_eq_false_iff_eq.mpr c10
                    clear c10
                    obtain rfl := Option.some.inj H
                    go_enter Tryd.func87, Tryd.ntmps87
                    go_wp2
                    go_ret
                    exact ⟨by first | rfl | (simp; done) | (simp [*]; done), by repeat (first | exact Drawn0.refl _ | apply Drawn0.step)⟩
                  · rw [if_neg c10] at H
                    have c10b0 : (a0 == 5760) = false := beq_eq_false_iff_ne.mpr c10
                    have c10b1 : (a0 != 5760) = true := bne_iff_ne.mpr c10
                    by_cases c11 : a0 = 8232
                    · rw [if_pos c11] at H
                      have c11b0 : (a0 == 8232) = true := beq_iff_eq.mpr c11
                      have c11b1 : (a0 != 8232) = false := bne_eq_false_iff_eq.mpr c11
                      clear c11
                      obtain rfl := Option.some.inj H
                      go_enter Tryd.func87, Tryd.ntmps87
                      go_wp2
                      go_ret
                      exact ⟨by first | rfl | (simp; done) | (simp [*]; done), by repeat (first | exact Drawn0.refl _ | apply Drawn0.step)⟩
                    · rw [if_neg c11] at H
                      have c11b0 : (a0 == 8232) = false := beq_eq_false_iff_ne.mpr c11
                      have c11b1 : (a0 != 8232) = true := bne_iff_ne.mpr c11
                      by_cases c12 : a0 = 8233
                      · rw [if_pos c12] at H
                        have c12b0 : (a0 == 8233) = true := beq_iff_eq.mpr c12
                        have c12b1 : (a0 != 8233) = false := bne_eq_false_iff_eq.mpr c12
                        clear c12
                        obtain rfl := Option.some.inj H
                        go_enter Tryd.func87, Tryd.ntmps87
                        go_wp2
                        go_ret
                        exact ⟨by first | rfl | (simp; done) | (simp [*]; done), by repeat (first | exact Drawn0.refl _ | apply Drawn0.step)⟩
                      · rw [if_neg c12] at H
                        have c12b0 : (a0 == 8233) = false := beq_eq_false_iff_ne.mpr c12
                        have c12b1 : (a0 != 8233) = true := bne_iff_ne.mpr c12
                        by_cases c13 : a0 = 8239
                        · rw [if_pos c13] at H
                          have c13b0 : (a0 == 8239) = true := beq_iff_eq.mpr c13
                          have c13b1 : (a0 != 8239) = false := bne_eq_false_iff_eq.mpr c13
                          clear c13
                          obtain rfl := Option.some.inj H
                          go_enter Tryd.func87, Tryd.ntmps87
                          go_wp2
                          go_ret
                          exact ⟨by first | rfl | (simp; done) | (simp [*]; done), by repeat (first | exact Drawn0.refl _ | apply Drawn0.step)⟩
                        · rw [if_neg c13] at H
                          have c13b0 : (a0 == 8239) = false := beq_eq_false_iff_ne.mpr c13
                          have c13b1 : (a0 != 8239) = true := bne_iff_ne.mpr c13
                          by_cases c14 : a0 = 8287
                          · rw [if_pos c14] at H
                            have c14b0 : (a0 == 8287) = true := beq_iff_eq.mpr c14
                            have c14b1 : (a0 != 8287) = false := bne_eq_false_iff_eq.mpr c14
                            clear c14
                            obtain rfl := Option.some.inj H
                            go_enter Tryd.func87, Tryd.ntmps87
                            go_wp2
                            go_ret
                            exact ⟨by first | rfl | (simp; done) | (simp [*]; done), by repeat (first | exact Drawn0.refl _ | apply Drawn0.step)⟩
                          · rw [if_neg c14] at H
                            have c14b0 : (a0 == 8287) = false := beq_eq_false_iff_ne.mpr c14
                            have c14b1 : (a0 != 8287) = true := bne_iff_ne.mpr c14
                            by_cases c15 : a0 = 12288
                            · rw [if_pos c15] at H
                              have c15b0 : (a0 == 12288) = true := beq_iff_eq.mpr c15
                              have c15b1 : (a0 != 12288) = false := bne_eq_false_iff_eq.mpr c15
                              clear c15
                              obtain rfl := Option.some.inj H
                              go_enter Tryd.func87, Tryd.ntmps87
                              go_wp2
                              go_ret
                              exact ⟨by first | rfl | (simp; done) | (simp [*]; done), by repeat (first | exact Drawn0.refl _ | apply Drawn0.step)⟩
                            · rw [if_neg c15] at H
                              have c15b0 : (a0 == 12288) = false := beq_eq_false_iff_ne.mpr c15
                              have c15b1 : (a0 != 12288) = true := bne_iff_ne.mpr c15
                              by_cases c16 : 8192 ≤ a0
                              · rw [if_pos c16] at H
                                have c16b0 : decide (8192 ≤ a0) = true := decide_eq_true c16
                                clear c16
                                obtain rfl := Option.some.inj H
                                go_enter Tryd.func87, Tryd.ntmps87
                                go_wp2
                                go_ret
                                exact ⟨by first | rfl | (simp; done) | (simp [*]; done), by repeat (first | exact Drawn0.refl _ | apply Drawn0.step)⟩
                              · rw [if_neg c16] at H
                                have c16b0 : decide (8192 ≤ a0) = false := decide_eq_false c16
                                clear c16
                                obtain rfl := Option.some.inj H
                                go_enter Tryd.func87, Tryd.ntmps87
                                go_wp2
                                go_ret
                                exact ⟨by first | rfl | (simp; done) | (simp [*]; done), by repeat (first | exact Drawn0.refl _ | apply Drawn0.step)⟩
end Go.Proofs.YtikgnpachlgakaaDoor.Pr

namespace Go.Proofs.YtikgnpachlgakaaDoor.Pr
open Go.RowKit Go.Proofs.YtikgnpachlgakaaDoorW.PrintWords Go.Proofs.YtikgnpachlgakaaDoorW.PrintLast Go.Proofs.YtikgnpachlgakaaDoorW.PrintMore
attribute [local go_sem] max2_int min2_int max_two min_two max_three min_three max_four min_four   -- for this text's walks alone
set_option linter.unusedVariables false
set_option linter.unusedSimpArgs false
/-! ### gotime_Duration_Nanoseconds: function 103 -/
def gotime_Duration_Nanoseconds.f (a0 : Int) : Option (Int) := some a0
set_option maxHeartbeats 8000000 in
set_option maxRecDepth 100000 in
theorem gotime_Duration_Nanoseconds.calls (a0 : Int) (r : Int) (w : World) (h : gotime_Duration_Nanoseconds.f a0 = some r) :
    Calls Tryd.prog 103 #[.int .i64 a0] w fun e w' => e = .returned (.int .i64 r) ∧ Drawn0 w w' := by
  have H : (some a0) = some r := h
  clear h
  obtain rfl := Option.some.inj H
  go_enter Tryd.func103, Tryd.ntmps103
  go_wp2
  go_ret
  exact ⟨by first | rfl | (simp; done) | (simp [*]; done), by repeat (first | exact Drawn0.refl _ | apply Drawn0.step)⟩
end Go.Proofs.YtikgnpachlgakaaDoor.Pr

namespace Go.Proofs.YtikgnpachlgakaaDoor.Pr
open Go.RowKit Go.Proofs.YtikgnpachlgakaaDoorW.PrintWords Go.Proofs.YtikgnpachlgakaaDoorW.PrintLast Go.Proofs.YtikgnpachlgakaaDoorW.PrintMore
attribute [local go_sem] max2_int min2_int max_two min_two max_three min_three max_four min_four   -- for this text's walks alone
set_option linter.unusedVariables false
set_option linter.unusedSimpArgs false
/-! ### cron_Every: function 90 -/
def cron_Every.f (a0 : Int) : Option (Int) := if a0 < 1000000000 then ((gotime_Duration_Nanoseconds.f 1000000000).bind fun t107 => (some (wrap64 (1000000000 - (Int.tmod t107 1000000000))))) else ((gotime_Duration_Nanoseconds.f a0).bind fun t108 => (some (wrap64 (a0 - (Int.tmod t108 1000000000)))))
set_option maxHeartbeats 8000000 in
set_option maxRecDepth 100000 in
theorem cron_Every.calls (a0 : Int) (r : Int) (w : World) (h : cron_Every.f a0 = some r) :
    Calls Tryd.prog 90 #[.int .i64 a0] w fun e w' => e = .returned (.agg #[.int .i64 r]) ∧ Below w.heap.size w w' := by
  have hu98 := Tryd.underlying98
  have HB := Aside0.mk (Below.refl w.heap.size w)
  have H : (if a0 < 1000000000 then ((gotime_Duration_Nanoseconds.f 1000000000).bind fun t107 => (some (wrap64 (1000000000 - (Int.tmod t107 1000000000))))) else ((gotime_Duration_Nanoseconds.f a0).bind fun t108 => (some (wrap64 (a0 - (Int.tmod t108 1000000000)))))) = some r := h
  clear h
  by_cases c2 : a0 < 1000000000
  · rw [if_pos c2] at H
    have c2b0 : decide (a0 < 1000000000) = true := decide_eq_true c2
    clear c2
    replace H := Option.bind_eq_some_iff.mp H
    obtain ⟨t107, A30, H⟩ := H
    replace H : (some (wrap64 (1000000000 - (Int.tmod t107 1000000000)))) = some r := H
    have A3 := Aside0.mk A30
    clear A30
    obtain rfl := Option.some.inj H
    go_enter Tryd.func90, Tryd.ntmps90
    go_wp2_with (first | ((with_reducible refine gate_dst (N := 2) rfl ?_); refine box_event ?hg (N := 2) ?hd (cs := #[.int .i64 0]) (t := 98) ?hr ?_; (case hd => rfl); (case hg => rfl); (case hr => first | (go_simp; done) | (go_simp; rfl)); intro gb106 hg w4 hbox hb; have n0_ := Aside0.mk (below_step (by repeat (first | (with_reducible first | exact HB.out | apply below_alloc | apply pw_below_drewN | apply below_drew1) | exact HB.out)) hb); have n1_ := Aside0.mk (hbox); have n2_ := Aside0.mk ((by rw [hg]; exact (below_size (by repeat (first | (with_reducible first | exact HB.out | apply below_alloc | apply pw_below_drewN | apply below_drew1) | exact HB.out))) : w.heap.size ≤ gb106)); have n3_ := Aside0.mk ((by rw [hg]; exact (below_size (by repeat (first | (with_reducible first | exact HB.out | apply below_alloc | apply pw_below_drewN | apply below_drew1) | exact HB.out))) : w.heap.size ≤ gb106)); clear HB; have HB := n0_; have BK106 := n1_; have GW106 := n2_; have GE106 := n3_; clear n0_ n1_ n2_ n3_; clear hb hbox hg) | ((with_reducible refine gate_callee (f := 103) rfl ?_); refine goesL_ (some 7) rfl rfl Tryd.func103 (by kernel_rfl) rfl #[.int .i64 1000000000] rfl (by (try simp only [List.map_toArray, List.map_cons, List.map_nil]); first | done | rfl | (simp only [List.length_drop, List.length_take]; rfl)) ?_; (with_reducible refine (gotime_Duration_Nanoseconds.calls 1000000000 t107 _ A3.out).mono ?_); rintro e w' ⟨rfl, ⟨nd, rfl⟩⟩; refine ⟨_, rfl, ?_⟩; (try (rw [drewN_self w4]; generalize hq_ : World.drewN w4 _ = w4; have n0_ : Aside0 (w4.heap[gb106]? = some (.cells #[.int .i64 0] 98 (0, 0))) := ⟨by rw [← hq_]; exact (by (with_reducible repeat (first | refine blk_drewN ?_ _ | refine blk_drew ?_ | refine blk_alloc ?_ _)); exact BK106.out)⟩; have n1_ : Aside0 (Below w.heap.size w w4) := ⟨by rw [← hq_]; exact (by repeat (first | (with_reducible first | exact HB.out | apply below_alloc | apply pw_below_drewN | apply below_drew1 | refine below_set ?_ GE106.out) | exact HB.out))⟩; clear BK106 HB hq_; have BK106 := n0_; have HB := n1_; clear n0_ n1_)); have hcz5_0 : w4.cell? ⟨gb106, 0, none⟩ = some (.int .i64 0) := (blk_cell BK106.out 0).trans rfl; have hfz5_0 := blk_frozen BK106.out 0))
    refine bodyPost_ret (results_cell_row rfl _ _ gb106 98 #[.int .i64 (wrap64 (1000000000 - (Int.tmod t107 1000000000)))] (0, 0) _ rfl (by (with_reducible repeat (first | refine blk_drewN ?_ _ | refine blk_drew ?_ | refine blk_alloc ?_ _)); refine blk_put (cs := #[.int .i64 0]) ?_ 0 _ rfl; (with_reducible repeat (first | refine blk_drewN ?_ _ | refine blk_drew ?_ | refine blk_alloc ?_ _)); exact BK106.out) Tryd.underlying98 rfl (by kernel_rfl)) rfl ?_
    exact ⟨by first | rfl | (simp [errW_none, errW_some] <;> rfl) | (simp [*, errW_none, errW_some] <;> rfl), by repeat (first | (with_reducible first | exact HB.out | apply below_alloc | apply pw_below_drewN | apply below_drew1 | refine below_set ?_ GE106.out) | exact HB.out)⟩
  · rw [if_neg c2] at H
    have c2b0 : decide (a0 < 1000000000) = false := decide_eq_false c2
    clear c2
    replace H := Option.bind_eq_some_iff.mp H
    obtain ⟨t108, A60, H⟩ := H
    replace H : (some (wrap64 (a0 - (Int.tmod t108 1000000000)))) = some r := H
    have A6 := Aside0.mk A60
    clear A60
    obtain rfl := Option.some.inj H
    go_enter Tryd.func90, Tryd.ntmps90
    go_wp2_with (first | ((with_reducible refine gate_dst (N := 2) rfl ?_); refine box_event ?hg (N := 2) ?hd (cs := #[.int .i64 0]) (t := 98) ?hr ?_; (case hd => rfl); (case hg => rfl); (case hr => first | (go_simp; done) | (go_simp; rfl)); intro gb106 hg w7 hbox hb; have n0_ := Aside0.mk (below_step (by repeat (first | (with_reducible first | exact HB.out | apply below_alloc | apply pw_below_drewN | apply below_drew1) | exact HB.out)) hb); have n1_ := Aside0.mk (hbox); have n2_ := Aside0.mk ((by rw [hg]; exact (below_size (by repeat (first | (with_reducible first | exact HB.out | apply below_alloc | apply pw_below_drewN | apply below_drew1) | exact HB.out))) : w.heap.size ≤ gb106)); have n3_ := Aside0.mk ((by rw [hg]; exact (below_size (by repeat (first | (with_reducible first | exact HB.out | apply below_alloc | apply pw_below_drewN | apply below_drew1) | exact HB.out))) : w.heap.size ≤ gb106)); clear HB; have HB := n0_; have BK106 := n1_; have GW106 := n2_; have GE106 := n3_; clear n0_ n1_ n2_ n3_; clear hb hbox hg) | ((with_reducible refine gate_callee (f := 103) rfl ?_); refine goesL_ (some 7) rfl rfl Tryd.func103 (by kernel_rfl) rfl #[.int .i64 a0] rfl (by (try simp only [List.map_toArray, List.map_cons, List.map_nil]); first | done | rfl | (simp only [List.length_drop, List.length_take]; rfl)) ?_; (with_reducible refine (gotime_Duration_Nanoseconds.calls a0 t108 _ A6.out).mono ?_); rintro e w' ⟨rfl, ⟨nd, rfl⟩⟩; refine ⟨_, rfl, ?_⟩; (try (rw [drewN_self w7]; generalize hq_ : World.drewN w7 _ = w7; have n0_ : Aside0 (w7.heap[gb106]? = some (.cells #[.int .i64 0] 98 (0, 0))) := ⟨by rw [← hq_]; exact (by (with_reducible repeat (first | refine blk_drewN ?_ _ | refine blk_drew ?_ | refine blk_alloc ?_ _)); exact BK106.out)⟩; have n1_ : Aside0 (Below w.heap.size w w7) := ⟨by rw [← hq_]; exact (by repeat (first | (with_reducible first | exact HB.out | apply below_alloc | apply pw_below_drewN | apply below_drew1 | refine below_set ?_ GE106.out) | exact HB.out))⟩; clear BK106 HB hq_; have BK106 := n0_; have HB := n1_; clear n0_ n1_)); have hcz8_0 : w7.cell? ⟨gb106, 0, none⟩ = some (.int .i64 0) := (blk_cell BK106.out 0).trans rfl; have hfz8_0 := blk_frozen BK106.out 0))
    refine bodyPost_ret (results_cell_row rfl _ _ gb106 98 #[.int .i64 (wrap64 (a0 - (Int.tmod t108 1000000000)))] (0, 0) _ rfl (by (with_reducible repeat (first | refine blk_drewN ?_ _ | refine blk_drew ?_ | refine blk_alloc ?_ _)); refine blk_put (cs := #[.int .i64 0]) ?_ 0 _ rfl; (with_reducible repeat (first | refine blk_drewN ?_ _ | refine blk_drew ?_ | refine blk_alloc ?_ _)); exact BK106.out) Tryd.underlying98 rfl (by kernel_rfl)) rfl ?_
    exact ⟨by first | rfl | (simp [errW_none, errW_some] <;> rfl) | (simp [*, errW_none, errW_some] <;> rfl), by repeat (first | (with_reducible first | exact HB.out | apply below_alloc | apply pw_below_drewN | apply below_drew1 | refine below_set ?_ GE106.out) | exact HB.out)⟩
end Go.Proofs.YtikgnpachlgakaaDoor.Pr

namespace Go.Proofs.YtikgnpachlgakaaDoor.Pr
open Go.RowKit Go.Proofs.YtikgnpachlgakaaDoorW.PrintWords Go.Proofs.YtikgnpachlgakaaDoorW.PrintLast Go.Proofs.YtikgnpachlgakaaDoorW.PrintMore
attribute [local go_sem] max2_int min2_int max_two min_two max_three min_three max_four min_four   -- for this text's walks alone
set_option linter.unusedVariables false
set_option linter.unusedSimpArgs false
/-! ### cron_places: function 91 -/
def cron_places.f  : Option (List Int) := some (([1, 4, 8, 16, 32, 64] : List Int))
set_option maxHeartbeats 8000000 in
set_option maxRecDepth 100000 in
theorem cron_places.calls  (r : List Int) (w : World) (h : cron_places.f  = some r) :
    Calls Tryd.prog 91 #[] w fun e w' => ∃ v0_ : Value, e = .returned (v0_) ∧ Kd.R (Kd.int .i64) 71 w' w.heap.size (fun _ => True) v0_ r ∧ Below w.heap.size w w' := by
  have HB := Aside0.mk (Below.refl w.heap.size w)
  have H : (some (([1, 4, 8, 16, 32, 64] : List Int))) = some r := h
  clear h
  obtain ⟨y109, hy109⟩ : ∃ y_ : List Int, y_ = (([1, 4, 8, 16, 32, 64] : List Int)) := ⟨_, rfl⟩
  replace H : (some y109) = some r := by first | (rw [hy109]; with_reducible exact H) | (have H2_ := (Option.bind_some _ _).symm.trans H; rw [hy109]; with_reducible exact H2_) | (have H2_ := (Option.bind_some _ _).symm.trans H; with_reducible exact H2_) | with_reducible exact H | (rw [hy109]; exact H) | exact H
  have Ny109 := Aside0.mk hy109
  clear hy109
  obtain rfl := Option.some.inj H
  go_enter Tryd.func91, Tryd.ntmps91
  go_wp2_with (first | ((with_reducible refine gate_dst (N := 1) rfl ?_); refine Kd.R_lit (Kd.int .i64) _ 71 ?hg (N := 1) ?hd (xs := ([1, 4, 8, 16, 32, 64] : List Int)) (inner := [.int .i64 1, .int .i64 4, .int .i64 8, .int .i64 16, .int .i64 32, .int .i64 64]) (ok := fun _ => True) (okp := fun _ => True) ?hr ?hp (fun _ hk => hk) trivial (Below.refl _ _) (Nat.le_refl _) (by simp) ?_; (case hd => rfl); (case hg => rfl); (case hr => first | (go_simp; done) | (go_simp; rfl)); (case hp => exact (Reps.one (show Kd.M (Kd.int .i64) _ _ _ 1 [.int .i64 1] from rfl) (Reps.one (show Kd.M (Kd.int .i64) _ _ _ 4 [.int .i64 4] from rfl) (Reps.one (show Kd.M (Kd.int .i64) _ _ _ 8 [.int .i64 8] from rfl) (Reps.one (show Kd.M (Kd.int .i64) _ _ _ 16 [.int .i64 16] from rfl) (Reps.one (show Kd.M (Kd.int .i64) _ _ _ 32 [.int .i64 32] from rfl) (Reps.one (show Kd.M (Kd.int .i64) _ _ _ 64 [.int .i64 64] from rfl) (Reps.none _ _)))))))); intro v110 w1 ho2 hb hg_ hnew_; clear hg_ hnew_; (first | rw [← Ny109.out] at ho2 | (simp only [Int.reduceToNat] at ho2; rw [← Ny109.out] at ho2)); have n0_ := Aside0.mk (Kd.R_lower ho2 (below_size (by repeat (first | (with_reducible first | exact HB.out | apply below_alloc | apply pw_below_drewN | apply below_drew1) | exact HB.out)))); have n1_ := Aside0.mk (below_step (by repeat (first | (with_reducible first | exact HB.out | apply below_alloc | apply pw_below_drewN | apply below_drew1) | exact HB.out)) hb); clear HB; have HO111 := n0_; have HB := n1_; clear n0_ n1_; clear hb ho2))
  go_ret
  exact ⟨_, by first | rfl | (simp [errW_none, errW_some] <;> rfl) | (simp [*, errW_none, errW_some] <;> rfl), by (with_reducible repeat (first | apply Kd.R_alloc | apply Kd.R_drewN | apply Kd.R_drew)); exact HO111.out, by repeat (first | (with_reducible first | exact HB.out | apply below_alloc | apply pw_below_drewN | apply below_drew1) | exact HB.out)⟩
end Go.Proofs.YtikgnpachlgakaaDoor.Pr

namespace Go.Proofs.YtikgnpachlgakaaDoor.Pr
open Go.RowKit Go.Proofs.YtikgnpachlgakaaDoorW.PrintWords Go.Proofs.YtikgnpachlgakaaDoorW.PrintLast Go.Proofs.YtikgnpachlgakaaDoorW.PrintMore
attribute [local go_sem] max2_int min2_int max_two min_two max_three min_three max_four min_four   -- for this text's walks alone
set_option linter.unusedVariables false
set_option linter.unusedSimpArgs false
/-! ### cron_defaults: function 92 -/
def cron_defaults.f  : Option (List ByteArray) := some (([(⟨#[48]⟩ : ByteArray), (⟨#[48]⟩ : ByteArray), (⟨#[48]⟩ : ByteArray), (⟨#[42]⟩ : ByteArray), (⟨#[42]⟩ : ByteArray), (⟨#[42]⟩ : ByteArray)] : List ByteArray))
set_option maxHeartbeats 8000000 in
set_option maxRecDepth 100000 in
theorem cron_defaults.calls  (r : List ByteArray) (w : World) (h : cron_defaults.f  = some r) :
    Calls Tryd.prog 92 #[] w fun e w' => ∃ v0_ : Value, e = .returned (v0_) ∧ Kd.R Kd.string 9 w' w.heap.size (fun _ => True) v0_ r ∧ Below w.heap.size w w' := by
  have HB := Aside0.mk (Below.refl w.heap.size w)
  have H : (some (([(⟨#[48]⟩ : ByteArray), (⟨#[48]⟩ : ByteArray), (⟨#[48]⟩ : ByteArray), (⟨#[42]⟩ : ByteArray), (⟨#[42]⟩ : ByteArray), (⟨#[42]⟩ : ByteArray)] : List ByteArray))) = some r := h
  clear h
  obtain ⟨y112, hy112⟩ : ∃ y_ : List ByteArray, y_ = (([(⟨#[48]⟩ : ByteArray), (⟨#[48]⟩ : ByteArray), (⟨#[48]⟩ : ByteArray), (⟨#[42]⟩ : ByteArray), (⟨#[42]⟩ : ByteArray), (⟨#[42]⟩ : ByteArray)] : List ByteArray)) := ⟨_, rfl⟩
  replace H : (some y112) = some r := by first | (rw [hy112]; with_reducible exact H) | (have H2_ := (Option.bind_some _ _).symm.trans H; rw [hy112]; with_reducible exact H2_) | (have H2_ := (Option.bind_some _ _).symm.trans H; with_reducible exact H2_) | with_reducible exact H | (rw [hy112]; exact H) | exact H
  have Ny112 := Aside0.mk hy112
  clear hy112
  obtain rfl := Option.some.inj H
  go_enter Tryd.func92, Tryd.ntmps92
  go_wp2_with (first | ((with_reducible refine gate_dst (N := 1) rfl ?_); refine Kd.R_lit Kd.string _ 9 ?hg (N := 1) ?hd (xs := ([(⟨#[48]⟩ : ByteArray), (⟨#[48]⟩ : ByteArray), (⟨#[48]⟩ : ByteArray), (⟨#[42]⟩ : ByteArray), (⟨#[42]⟩ : ByteArray), (⟨#[42]⟩ : ByteArray)] : List ByteArray)) (inner := [.string (⟨#[48]⟩ : ByteArray), .string (⟨#[48]⟩ : ByteArray), .string (⟨#[48]⟩ : ByteArray), .string (⟨#[42]⟩ : ByteArray), .string (⟨#[42]⟩ : ByteArray), .string (⟨#[42]⟩ : ByteArray)]) (ok := fun _ => True) (okp := fun _ => True) ?hr ?hp (fun _ hk => hk) trivial (Below.refl _ _) (Nat.le_refl _) (by simp) ?_; (case hd => rfl); (case hg => rfl); (case hr => first | (go_simp; done) | (go_simp; rfl)); (case hp => exact (Reps.one (show Kd.M Kd.string _ _ _ (⟨#[48]⟩ : ByteArray) [.string (⟨#[48]⟩ : ByteArray)] from rfl) (Reps.one (show Kd.M Kd.string _ _ _ (⟨#[48]⟩ : ByteArray) [.string (⟨#[48]⟩ : ByteArray)] from rfl) (Reps.one (show Kd.M Kd.string _ _ _ (⟨#[48]⟩ : ByteArray) [.string (⟨#[48]⟩ : ByteArray)] from rfl) (Reps.one (show Kd.M Kd.string _ _ _ (⟨#[42]⟩ : ByteArray) [.string (⟨#[42]⟩ : ByteArray)] from rfl) (Reps.one (show Kd.M Kd.string _ _ _ (⟨#[42]⟩ : ByteArray) [.string (⟨#[42]⟩ : ByteArray)] from rfl) (Reps.one (show Kd.M Kd.string _ _ _ (⟨#[42]⟩ : ByteArray) [.string (⟨#[42]⟩ : ByteArray)] from rfl) (Reps.none _ _)))))))); intro v113 w1 ho2 hb hg_ hnew_; clear hg_ hnew_; (first | rw [← Ny112.out] at ho2 | (simp only [Int.reduceToNat] at ho2; rw [← Ny112.out] at ho2)); have n0_ := Aside0.mk (Kd.R_lower ho2 (below_size (by repeat (first | (with_reducible first | exact HB.out | apply below_alloc | apply pw_below_drewN | apply below_drew1) | exact HB.out)))); have n1_ := Aside0.mk (below_step (by repeat (first | (with_reducible first | exact HB.out | apply below_alloc | apply pw_below_drewN | apply below_drew1) | exact HB.out)) hb); clear HB; have HO114 := n0_; have HB := n1_; clear n0_ n1_; clear hb ho2))
  go_ret
  exact ⟨_, by first | rfl | (simp [errW_none, errW_some] <;> rfl) | (simp [*, errW_none, errW_some] <;> rfl), by (with_reducible repeat (first | apply Kd.R_alloc | apply Kd.R_drewN | apply Kd.R_drew)); exact HO114.out, by repeat (first | (with_reducible first | exact HB.out | apply below_alloc | apply pw_below_drewN | apply below_drew1) | exact HB.out)⟩
end Go.Proofs.YtikgnpachlgakaaDoor.Pr

namespace Go.Proofs.YtikgnpachlgakaaDoor.Pr
open Go.RowKit Go.Proofs.YtikgnpachlgakaaDoorW.PrintWords Go.Proofs.YtikgnpachlgakaaDoorW.PrintLast Go.Proofs.YtikgnpachlgakaaDoorW.PrintMore
attribute [local go_sem] max2_int min2_int max_two min_two max_three min_three max_four min_four   -- for this text's walks alone
set_option linter.unusedVariables false
set_option linter.unusedSimpArgs false
/-! ### spec_CronTwoOptional: function 24 -/
def spec_CronTwoOptional.f (a0 : Int) : Option (Bool) := if (Go.bits .and .i64 a0 2) = 0 then (some false) else (some ((Go.bits .and .i64 a0 128) != 0))
set_option maxHeartbeats 8000000 in
set_option maxRecDepth 100000 in
theorem spec_CronTwoOptional.calls (a0 : Int) (r : Bool) (w : World) (h : spec_CronTwoOptional.f a0 = some r) :
    Calls Tryd.prog 24 #[.int .i64 a0] w fun e w' => e = .returned (.bool r) ∧ Drawn0 w w' := by
  have H : (if (Go.bits .and .i64 a0 2) = 0 then (some false) else (some ((Go.bits .and .i64 a0 128) != 0))) = some r := h
  clear h
  by_cases c2 : (Go.bits .and .i64 a0 2) = 0
  · rw [if_pos c2] at H
    have c2b0 : ((Go.bits .and .i64 a0 2) == 0) = true := beq_iff_eq.mpr c2
    have c2b1 : ((Go.bits .and .i64 a0 2) != 0) = false := bne_eq_false_iff_eq.mpr c2
    clear c2
    obtain rfl := Option.some.inj H
    go_enter Tryd.func24, Tryd.ntmps24
    go_wp2
    go_ret
    exact ⟨by first | rfl | (simp; done) | (simp [*]; done), by repeat (first | exact Drawn0.refl _ | apply Drawn0.step)⟩
  · rw [if_neg c2] at H
    have c2b0 : ((Go.bits .and .i64 a0 2) == 0) = false := beq_eq_false_iff_ne.mpr c2
    have c2b1 : ((Go.bits .and .i64 a0 2) != 0) = true := bne_iff_ne.mpr c2
    obtain rfl := Option.some.inj H
    go_enter Tryd.func24, Tryd.ntmps24
    go_wp2
    go_ret
    exact ⟨by first | rfl | (simp; done) | (simp [*]; done), by repeat (first | exact Drawn0.refl _ | apply Drawn0.step)⟩
end Go.Proofs.YtikgnpachlgakaaDoor.Pr
