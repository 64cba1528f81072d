/- Functions of the program and of its library as plain Lean functions, printed by the kit's print.sh, merged by wip/tools/pack.py. Conditions: none. -/
import Derived.Test.YtmecbmgfacpecaaGreatDoorPrA
namespace Go.Proofs.YtmecbmgfacpecaaGreatDoor.Pr
open Go.RowKit Go.Proofs.YtmecbmgfacpecaaGreatDoorW.PrintWords Go.Proofs.YtmecbmgfacpecaaGreatDoorW.PrintLast Go.Proofs.YtmecbmgfacpecaaGreatDoorW.PrintMore
attribute [local go_sem] max2_int min2_int max_two min_two max_three min_three max_four min_four   -- for this text's walks alone
set_option linter.unusedVariables false
set_option linter.unusedSimpArgs false
def spec_CronMayMiss.f (a0 : Int) : Option (Int) := if (Go.bits .and .i64 a0 2) = 0 then (if (Go.bits .and .i64 a0 128) = 0 then (some (-1)) else (some 5)) else (some 0)
set_option maxHeartbeats 8000000 in
set_option maxRecDepth 100000 in
theorem spec_CronMayMiss.calls (a0 : Int) (r : Int) (w : World) (h : spec_CronMayMiss.f a0 = some r) :
  Calls Tryz.prog 79 #[.int .i64 a0] w fun e w' => e = .returned (.int .i64 r) ∧ Drawn0 w w' := by
 have H : (if (Go.bits .and .i64 a0 2) = 0 then (if (Go.bits .and .i64 a0 128) = 0 then (some (-1)) else (some 5)) else (some 0)) = some r := h;clear h
 by_cases c2 : (Go.bits .and .i64 a0 2) = 0
 ·rw [if_pos c2] at H;have c2b0 : ((Go.bits .and .i64 a0 2) == 0) = true := beq_iff_eq.mpr c2;have c2b1 : ((Go.bits .and .i64 a0 2) != 0) = false := bne_eq_false_iff_eq.mpr c2;clear c2
  by_cases c3 : (Go.bits .and .i64 a0 128) = 0
  ·rw [if_pos c3] at H;have c3b0 : ((Go.bits .and .i64 a0 128) == 0) = true := beq_iff_eq.mpr c3;have c3b1 : ((Go.bits .and .i64 a0 128) != 0) = false := bne_eq_false_iff_eq.mpr c3;clear c3;obtain rfl := Option.some.inj H
   go_enter Tryz.func79, Tryz.ntmps79
   go_wp2
   go_ret
   exact ⟨by first | rfl | (simp; done) | (simp [*]; done), by repeat (first | exact Drawn0.refl _ | apply Drawn0.step)⟩
  ·rw [if_neg c3] at H;have c3b0 : ((Go.bits .and .i64 a0 128) == 0) = false := beq_eq_false_iff_ne.mpr c3;have c3b1 : ((Go.bits .and .i64 a0 128) != 0) = true := bne_iff_ne.mpr c3;obtain rfl := Option.some.inj H
   go_enter Tryz.func79, Tryz.ntmps79
   go_wp2
   go_ret
   exact ⟨by first | rfl | (simp; done) | (simp [*]; done), by repeat (first | exact Drawn0.refl _ | apply Drawn0.step)⟩
 ·rw [if_neg c2] at H;have c2b0 : ((Go.bits .and .i64 a0 2) == 0) = false := beq_eq_false_iff_ne.mpr c2;have c2b1 : ((Go.bits .and .i64 a0 2) != 0) = true := bne_iff_ne.mpr c2;obtain rfl := Option.some.inj H
  go_enter Tryz.func79, Tryz.ntmps79
  go_wp2
  go_ret
  exact ⟨by first | rfl | (simp; done) | (simp [*]; done), by repeat (first | exact Drawn0.refl _ | apply Drawn0.step)⟩
end Go.Proofs.YtmecbmgfacpecaaGreatDoor.Pr
namespace Go.Proofs.YtmecbmgfacpecaaGreatDoor.Pr
open Go.RowKit Go.Proofs.YtmecbmgfacpecaaGreatDoorW.PrintWords Go.Proofs.YtmecbmgfacpecaaGreatDoorW.PrintLast Go.Proofs.YtmecbmgfacpecaaGreatDoorW.PrintMore
attribute [local go_sem] max2_int min2_int max_two min_two max_three min_three max_four min_four   -- for this text's walks alone
set_option linter.unusedVariables false
set_option linter.unusedSimpArgs false
def spec_CronDefault.f (a0 : Int) : Option (ByteArray) := if a0 ≤ 2 then (some (⟨#[48]⟩ : ByteArray)) else (some (⟨#[42]⟩ : ByteArray))
set_option maxHeartbeats 8000000 in
set_option maxRecDepth 100000 in
theorem spec_CronDefault.calls (a0 : Int) (r : ByteArray) (w : World) (h : spec_CronDefault.f a0 = some r) :
  Calls Tryz.prog 172 #[.int .i64 a0] w fun e w' => e = .returned (.string r) ∧ Drawn0 w w' := by
 have H : (if a0 ≤ 2 then (some (⟨#[48]⟩ : ByteArray)) else (some (⟨#[42]⟩ : ByteArray))) = some r := h;clear h
 by_cases c2 : a0 ≤ 2
 ·rw [if_pos c2] at H;have c2b0 : decide (a0 ≤ 2) = true := decide_eq_true c2;clear c2;obtain rfl := Option.some.inj H
  go_enter Tryz.func172, Tryz.ntmps172
  go_wp2
  go_ret
  exact ⟨by first | rfl | (simp; done) | (simp [*]; done), by repeat (first | exact Drawn0.refl _ | apply Drawn0.step)⟩
 ·rw [if_neg c2] at H;have c2b0 : decide (a0 ≤ 2) = false := decide_eq_false c2;clear c2;obtain rfl := Option.some.inj H
  go_enter Tryz.func172, Tryz.ntmps172
  go_wp2
  go_ret
  exact ⟨by first | rfl | (simp; done) | (simp [*]; done), by repeat (first | exact Drawn0.refl _ | apply Drawn0.step)⟩
end Go.Proofs.YtmecbmgfacpecaaGreatDoor.Pr
namespace Go.Proofs.YtmecbmgfacpecaaGreatDoor.Pr
open Go.RowKit Go.Proofs.YtmecbmgfacpecaaGreatDoorW.PrintWords Go.Proofs.YtmecbmgfacpecaaGreatDoorW.PrintLast Go.Proofs.YtmecbmgfacpecaaGreatDoorW.PrintMore
attribute [local go_sem] max2_int min2_int max_two min_two max_three min_three max_four min_four   -- for this text's walks alone
set_option linter.unusedVariables false
set_option linter.unusedSimpArgs false
def spec_cronBlank.f (a0 : Int) : Option (Bool) := if a0 = 32 then (some true) else (if 9 ≤ a0 then (some (decide (a0 ≤ 13))) else (some false))
set_option maxHeartbeats 8000000 in
set_option maxRecDepth 100000 in
theorem spec_cronBlank.calls (a0 : Int) (r : Bool) (w : World) (h : spec_cronBlank.f a0 = some r) :
  Calls Tryz.prog 62 #[.int .u8 a0] w fun e w' => e = .returned (.bool r) ∧ Drawn0 w w' := by
 have H : (if a0 = 32 then (some true) else (if 9 ≤ a0 then (some (decide (a0 ≤ 13))) else (some false))) = some r := h;clear h
 by_cases c2 : a0 = 32
 ·rw [if_pos c2] at H;have c2b0 : (a0 == 32) = true := beq_iff_eq.mpr c2;have c2b1 : (a0 != 32) = false := bne_eq_false_iff_eq.mpr c2;clear c2;obtain rfl := Option.some.inj H
  go_enter Tryz.func62, Tryz.ntmps62
  go_wp2
  go_ret
  exact ⟨by first | rfl | (simp; done) | (simp [*]; done), by repeat (first | exact Drawn0.refl _ | apply Drawn0.step)⟩
 ·rw [if_neg c2] at H;have c2b0 : (a0 == 32) = false := beq_eq_false_iff_ne.mpr c2;have c2b1 : (a0 != 32) = true := bne_iff_ne.mpr c2
  by_cases c3 : 9 ≤ a0
  ·rw [if_pos c3] at H;have c3b0 : decide (9 ≤ a0) = true := decide_eq_true c3;clear c3;obtain rfl := Option.some.inj H
   go_enter Tryz.func62, Tryz.ntmps62
   go_wp2
   go_ret
   exact ⟨by first | rfl | (simp; done) | (simp [*]; done), by repeat (first | exact Drawn0.refl _ | apply Drawn0.step)⟩
  ·rw [if_neg c3] at H;have c3b0 : decide (9 ≤ a0) = false := decide_eq_false c3;clear c3;obtain rfl := Option.some.inj H
   go_enter Tryz.func62, Tryz.ntmps62
   go_wp2
   go_ret
   exact ⟨by first | rfl | (simp; done) | (simp [*]; done), by repeat (first | exact Drawn0.refl _ | apply Drawn0.step)⟩
end Go.Proofs.YtmecbmgfacpecaaGreatDoor.Pr
namespace Go.Proofs.YtmecbmgfacpecaaGreatDoor.Pr
open Go.RowKit Go.Proofs.YtmecbmgfacpecaaGreatDoorW.PrintWords Go.Proofs.YtmecbmgfacpecaaGreatDoorW.PrintLast Go.Proofs.YtmecbmgfacpecaaGreatDoorW.PrintMore
attribute [local go_sem] max2_int min2_int max_two min_two max_three min_three max_four min_four   -- for this text's walks alone
set_option linter.unusedVariables false
set_option linter.unusedSimpArgs false
mutual
def spec_CronWords.l0 : Nat → ByteArray → List ByteArray → Int → Int → Int → Option (List ByteArray)
 | 0, _, _, _, _, _ => none
 | k + 1, x0, x3, x4, x7, x8 => if x8 < x7 then (if 0 ≤ x8 then (if x8 < (x0.size : Int) then ((spec_cronBlank.f (bt x0 x8)).bind fun t105 => (if t105 = true then (spec_CronWords.j1 k x0 x3 x4 x8 x7 x8 (decide (x4 ≥ 0))) else (spec_CronWords.j1 k x0 x3 x4 x8 x7 x8 false))) else (none)) else (none)) else (if x4 ≥ 0 then (if 0 ≤ x4 then (if x4 ≤ (x0.size : Int) then (if x3.length < 8796093022208 then (some (x3 ++ [x0.extract (x4 : Int).toNat x0.size])) else (none)) else (none)) else (none)) else (some x3))
def spec_CronWords.j1 : Nat → ByteArray → List ByteArray → Int → Int → Int → Int → Bool → Option (List ByteArray)
 | 0, _, _, _, _, _, _, _ => none
 | k + 1, x0, x3, x4, x5, x7, x8, x11 => if x11 = true then (if 0 ≤ x4 then (if x4 ≤ x5 then (if x5 ≤ (x0.size : Int) then (if x3.length < 8796093022208 then (spec_CronWords.l0 k x0 (x3 ++ [x0.extract (x4 : Int).toNat (x5 : Int).toNat]) (-1) x7 (wrap64 (x8 + 1))) else (none)) else (none)) else (none)) else (none)) else (if 0 ≤ x5 then (if x5 < (x0.size : Int) then ((spec_cronBlank.f (bt x0 x5)).bind fun t109 => (if t109 = true then (spec_CronWords.l0 k x0 x3 x4 x7 (wrap64 (x8 + 1))) else (if x4 < 0 then (spec_CronWords.l0 k x0 x3 x5 x7 (wrap64 (x8 + 1))) else (spec_CronWords.l0 k x0 x3 x4 x7 (wrap64 (x8 + 1)))))) else (none)) else (none))
end
def spec_CronWords.f (k : Nat) (a0 : ByteArray) : Option (List ByteArray) := spec_CronWords.l0 k a0 ([] : List ByteArray) (-1) (a0.size : Int) 0
theorem spec_CronWords.mono_l : ∀ k, (∀ y0 y1 y2 y3 y4, LeO (spec_CronWords.l0 k y0 y1 y2 y3 y4) (spec_CronWords.l0 (k + 1) y0 y1 y2 y3 y4)) ∧ (∀ y0 y1 y2 y3 y4 y5 y6, LeO (spec_CronWords.j1 k y0 y1 y2 y3 y4 y5 y6) (spec_CronWords.j1 (k + 1) y0 y1 y2 y3 y4 y5 y6))
 | 0 => ⟨fun _ _ _ _ _ r h => by simp [spec_CronWords.l0] at h, fun _ _ _ _ _ _ _ r h => by simp [spec_CronWords.j1] at h⟩
 | k + 1 => by
  obtain ⟨ih0, ih1⟩ := spec_CronWords.mono_l k;refine ⟨?_, ?_⟩;intro y0 y1 y2 y3 y4;unfold spec_CronWords.l0;rotate_left;intro y0 y1 y2 y3 y4 y5 y6;unfold spec_CronWords.j1;rotate_left
  all_goals repeat' first
  | (with_reducible exact ih0 _ _ _ _ _)
  | (with_reducible exact ih1 _ _ _ _ _ _ _)
  | (with_reducible exact LeO.refl _)
  | (with_reducible exact LeO.none _)
  | (with_reducible refine LeO.ite ?_ ?_)
  | (with_reducible refine LeO.bind ?_ (fun _ => ?_))
  | exact ih0 _ _ _ _ _
  | exact ih1 _ _ _ _ _ _ _
  | exact LeO.none _
  | refine LeO.ite ?_ ?_
  | refine LeO.bind ?_ (fun _ => ?_)
theorem spec_CronWords.mono : ∀ a0 k, LeO (spec_CronWords.f k a0) (spec_CronWords.f (k + 1) a0) := by
 intro a0 k;obtain ⟨ih0, ih1⟩ := spec_CronWords.mono_l k;unfold spec_CronWords.f
 repeat' first
  | (with_reducible exact ih0 _ _ _ _ _)
  | (with_reducible exact ih1 _ _ _ _ _ _ _)
  | (with_reducible exact LeO.refl _)
  | (with_reducible exact LeO.none _)
  | (with_reducible refine LeO.ite ?_ ?_)
  | (with_reducible refine LeO.bind ?_ (fun _ => ?_))
  | exact ih0 _ _ _ _ _
  | exact ih1 _ _ _ _ _ _ _
  | exact LeO.none _
  | refine LeO.ite ?_ ?_
  | refine LeO.bind ?_ (fun _ => ?_)
set_option maxHeartbeats 8000000 in
set_option maxRecDepth 100000 in
theorem spec_CronWords.calls (k : Nat) (a0 : ByteArray) (r : List ByteArray) (w : World) (h : spec_CronWords.f k a0 = some r) :
  Calls Tryz.prog 23 #[.string a0] w fun e w' => ∃ v0_ : Value, e = .returned (v0_) ∧ Kd.R Kd.string 9 w' w.heap.size (fun _ => True) v0_ r ∧ Below w.heap.size w w' := by
 have HB := Aside0.mk (Below.refl w.heap.size w);have H : (spec_CronWords.l0 k a0 ([] : List ByteArray) (-1) (a0.size : Int) 0) = some r := h;clear h;have H' := Aside0.mk H;clear H
 go_enter Tryz.func23, Tryz.ntmps23
 go_wp2
 go_loopg [3, 4, 8] k (fun kq v3 v4 v8 w' => ∃ (x3_1 : List ByteArray) (x4_1 : Int) (x8_1 : Int), v4 = .int .i64 x4_1 ∧ v8 = .int .i64 x8_1 ∧ Aside0 (spec_CronWords.l0 kq a0 x3_1 x4_1 (a0.size : Int) x8_1 = some r) ∧ Aside0 (kq ≤ k) ∧ Aside0 (Kd.R Kd.string 9 w' w.heap.size (fun _ => True) v3 x3_1) ∧ Aside0 (Below w.heap.size w w'))
 case atStart => exact ⟨(([] : List ByteArray)), ((-1)), (0), (by first | rfl | (simp; done) | (simp [*]; done)), (by first | rfl | (simp; done) | (simp [*]; done)), H', ⟨Nat.le_refl _⟩, ⟨by first | exact Kd.R_nil _ _ _ _ _ | exact Kd.N_nil _ _ _ _ _ | exact Kd.V_nil _ _ _ _ _ | exact Kd.Q_nil _ _ _ _ _ | exact Kd.S_nil _ _ _ _ _⟩, ⟨by repeat (first | (with_reducible first | exact HB.out | apply below_alloc | apply pw_below_drewN | apply below_drew1) | exact HB.out)⟩⟩
 case round =>
  clear H';obtain ⟨x3_1, x4_1, x8_1, rfl, rfl, HA, HK1, HO_3, HB⟩ := hrel
  cases gk with
  | zero => exact absurd HA.out (by simp [spec_CronWords.l0])
  | succ k1 =>
   have H := HA.out;clear HA;simp only [spec_CronWords.l0] at H
   by_cases c2 : x8_1 < (a0.size : Int)
   ·rw [if_pos c2] at H;have c2b0 : decide (x8_1 < (a0.size : Int)) = true := decide_eq_true c2;clear c2;have HC3 := Aside0.mk H;clear H
    go_upto_region 6 with (fail)
    go_cut [11] (fun v11 wc => ∃ (kq : Nat) (x11_2 : Bool), v11 = .bool x11_2 ∧ Aside0 (spec_CronWords.j1 kq a0 x3_1 x4_1 x8_1 (a0.size : Int) x8_1 x11_2 = some r) ∧ Aside0 (kq ≤ k1) ∧ Aside0 (Kd.R Kd.string 9 wc w.heap.size (fun _ => True) u3 x3_1) ∧ Aside0 (Below w.heap.size w wc))
    case first =>
     have H := HC3.out;clear HC3
     by_cases c4 : 0 ≤ x8_1
     ·rw [if_pos c4] at H;have c4b0 : decide (0 ≤ x8_1) = true := decide_eq_true c4;clear c4
      (first | rw [c4b0] | (simp only [i64_w, i32_w]; rw [c4b0]) | skip)
      by_cases c5 : x8_1 < (a0.size : Int)
      ·rw [if_pos c5] at H;have c5b0 : decide (x8_1 < (a0.size : Int)) = true := decide_eq_true c5;clear c5;replace H := Option.bind_eq_some_iff.mp H;obtain ⟨t105, A70, H⟩ := H;replace H : (if t105 = true then (spec_CronWords.j1 k1 a0 x3_1 x4_1 x8_1 (a0.size : Int) x8_1 (decide (x4_1 ≥ 0))) else (spec_CronWords.j1 k1 a0 x3_1 x4_1 x8_1 (a0.size : Int) x8_1 false)) = some r := H;have A7 := Aside0.mk A70;clear A70
       by_cases c8 : t105 = true
       ·subst c8;have H1 : (spec_CronWords.j1 k1 a0 x3_1 x4_1 x8_1 (a0.size : Int) x8_1 (decide (x4_1 ≥ 0))) = some r := by rw [if_pos rfl] at H; exact H
        clear H;have H := H1;clear H1;have H' := Aside0.mk H;clear H;have p6 : 0 ≤ (x8_1 : Int) := of_decide_eq_true (by first | (with_reducible assumption) | assumption);have q6 : x8_1 < (a0.size : Int) := of_decide_eq_true (by first | (with_reducible assumption) | assumption);have hx6 := bt_at a0 x8_1;replace p6 := eq_true p6;replace q6 := eq_true q6
        go_wp2_with (first | ((with_reducible refine gate_callee (f := 62) rfl ?_); refine goesL_ (some 15) rfl rfl Tryz.func62 (by kernel_rfl) rfl #[.int .u8 (bt a0 x8_1)] rfl (by (try simp only [List.map_toArray, List.map_cons, List.map_nil]); first | done | rfl | (simp only [List.length_drop, List.length_take]; rfl)) ?_; (with_reducible refine (spec_cronBlank.calls (bt a0 x8_1) true _ A7.out).mono ?_); rintro e w' ⟨rfl, ⟨nd, rfl⟩⟩; refine ⟨_, rfl, ?_⟩))
        go_meet
        case rel => exact ⟨_, (decide (x4_1 ≥ 0)), (by first | rfl | (simp; done) | (simp [*]; done)), H', ⟨by have := HK1.out; first | omega | exact Nat.le_refl _⟩, ⟨by (with_reducible repeat (first | apply Kd.R_alloc | apply Kd.R_drewN | apply Kd.R_drew)); exact HO_3.out⟩, ⟨by repeat (first | (with_reducible first | exact HB.out | apply below_alloc | apply pw_below_drewN | apply below_drew1) | exact HB.out)⟩⟩
       ·replace c8 := Bool.eq_false_iff.mpr c8;subst c8;have H1 : (spec_CronWords.j1 k1 a0 x3_1 x4_1 x8_1 (a0.size : Int) x8_1 false) = some r := by rw [if_neg (show ¬ (false = true) by decide)] at H; exact H
        clear H;have H := H1;clear H1;have H' := Aside0.mk H;clear H;have p6 : 0 ≤ (x8_1 : Int) := of_decide_eq_true (by first | (with_reducible assumption) | assumption);have q6 : x8_1 < (a0.size : Int) := of_decide_eq_true (by first | (with_reducible assumption) | assumption);have hx6 := bt_at a0 x8_1;replace p6 := eq_true p6;replace q6 := eq_true q6
        go_wp2_with (first | ((with_reducible refine gate_callee (f := 62) rfl ?_); refine goesL_ (some 15) rfl rfl Tryz.func62 (by kernel_rfl) rfl #[.int .u8 (bt a0 x8_1)] rfl (by (try simp only [List.map_toArray, List.map_cons, List.map_nil]); first | done | rfl | (simp only [List.length_drop, List.length_take]; rfl)) ?_; (with_reducible refine (spec_cronBlank.calls (bt a0 x8_1) false _ A7.out).mono ?_); rintro e w' ⟨rfl, ⟨nd, rfl⟩⟩; refine ⟨_, rfl, ?_⟩))
        go_meet
        case rel => exact ⟨_, (false), (by first | rfl | (simp; done) | (simp [*]; done)), H', ⟨by have := HK1.out; first | omega | exact Nat.le_refl _⟩, ⟨by (with_reducible repeat (first | apply Kd.R_alloc | apply Kd.R_drewN | apply Kd.R_drew)); exact HO_3.out⟩, ⟨by repeat (first | (with_reducible first | exact HB.out | apply below_alloc | apply pw_below_drewN | apply below_drew1) | exact HB.out)⟩⟩
      ·rw [if_neg c5] at H;exact absurd H (by simp)
     ·rw [if_neg c4] at H;exact absurd H (by simp)
    case rest =>
     clear HC3
     try clear c2
     try clear c2b0
     try clear p2
     try clear c4
     try clear c4b0
     try clear c5
     try clear c5b0
     try clear c6
     try clear p6
     try clear q6
     try clear hx6
     try clear c8
     try clear p6
     try clear q6
     obtain ⟨kq, x11_2, rfl, HA, HJ2, HO_3, HB⟩ := hcut
     cases kq with
     | zero => exact absurd HA.out (by simp [spec_CronWords.j1])
     | succ kj2 =>
      have H := HA.out;clear HA;simp only [spec_CronWords.j1] at H
      by_cases c9 : x11_2 = true
      ·subst c9;have H1 : (if 0 ≤ x4_1 then (if x4_1 ≤ x8_1 then (if x8_1 ≤ (a0.size : Int) then (if x3_1.length < 8796093022208 then (spec_CronWords.l0 kj2 a0 (x3_1 ++ [a0.extract (x4_1 : Int).toNat (x8_1 : Int).toNat]) (-1) (a0.size : Int) (wrap64 (x8_1 + 1))) else (none)) else (none)) else (none)) else (none)) = some r := by rw [if_pos rfl] at H; exact H
       clear H;have H := H1;clear H1
       by_cases c10 : 0 ≤ x4_1
       ·rw [if_pos c10] at H;have c10b0 := eq_true c10;have c10b1 : decide (0 ≤ x4_1) = true := decide_eq_true c10;clear c10
        by_cases c11 : x4_1 ≤ x8_1
        ·rw [if_pos c11] at H;have c11b0 := eq_true c11;have c11b1 : decide (x4_1 ≤ x8_1) = true := decide_eq_true c11;clear c11
         by_cases c12 : x8_1 ≤ (a0.size : Int)
         ·rw [if_pos c12] at H;have c12b0 := eq_true c12;have c12b1 : decide (x8_1 ≤ (a0.size : Int)) = true := decide_eq_true c12;clear c12
          by_cases c13 : x3_1.length < 8796093022208
          ·rw [if_pos c13] at H;have LMc13 := Aside0.mk c13;clear c13;obtain ⟨y106, hy106⟩ : ∃ y_ : List ByteArray, y_ = (x3_1 ++ [a0.extract (x4_1 : Int).toNat (x8_1 : Int).toNat]) := ⟨_, rfl⟩
           replace H : (spec_CronWords.l0 kj2 a0 y106 (-1) (a0.size : Int) (wrap64 (x8_1 + 1))) = some r := by first | (rw [hy106]; with_reducible exact H) | (have H2_ := (Option.bind_some _ _).symm.trans H; rw [hy106]; with_reducible exact H2_) | (have H2_ := (Option.bind_some _ _).symm.trans H; with_reducible exact H2_) | with_reducible exact H | (rw [hy106]; exact H) | exact H
           have Ny106 := Aside0.mk hy106;clear hy106;have H' := Aside0.mk H;clear H
           go_wp2_with (first | ((with_reducible refine gate_builtin (b := .append) (xs := #[.tmp 20, .tmp 25]) rfl ?_); at_builtin; refine Kd.R_append Kd.string (w0 := w) w.heap.size rfl (.tmp 20) (.tmp 25) 33 9 (.string ⟨#[]⟩) 16 rfl Tryz.underlying33 info9 rfl (by decide) (by omega) u3 x3_1 (a0.extract (x4_1 : Int).toNat (x8_1 : Int).toNat) [.string (a0.extract (x4_1 : Int).toNat (x8_1 : Int).toNat)] (fun _ => True) (fun _ => False) rfl rfl ?aP (fun _ hk => hk.elim) ?aF ?aO ?aB ?aS ?aL ?_; (case aP => exact rfl); (case aB => exact (by repeat (first | (with_reducible first | exact HB.out | apply below_alloc | apply pw_below_drewN | apply below_drew1) | exact HB.out))); (case aF => exact (fun _ _ => trivial)); (case aO => exact (by (with_reducible repeat (first | apply Kd.R_alloc | apply Kd.R_drewN | apply Kd.R_drew)); exact HO_3.out)); (case aS => exact (below_size (by repeat (first | (with_reducible first | exact HB.out | apply below_alloc | apply pw_below_drewN | apply below_drew1) | exact HB.out)))); (case aL => have := LMc13.out; omega); intro v107 w14 ho hb hg hat; rw [← Ny106.out] at ho; have n0_ := Aside0.mk (hb); have n1_ := Aside0.mk (ho); clear HB; clear HO_3; have HB := n0_; have HO108 := n1_; clear n0_ n1_; clear ho hb hg hat))
           go_roundg kj2
           case measure => have := HK1.out; have := HJ2.out; omega
           case rel => exact ⟨(y106), ((-1)), (wrap64 (x8_1 + 1)), (by first | rfl | (simp; done) | (simp [*]; done)), (by first | rfl | (simp; done) | (simp [*]; done)), H', ⟨by have := HK1.out; have := HJ2.out; omega⟩, ⟨by (with_reducible repeat (first | apply Kd.R_alloc | apply Kd.R_drewN | apply Kd.R_drew)); exact HO108.out⟩, ⟨by repeat (first | (with_reducible first | exact HB.out | apply below_alloc | apply pw_below_drewN | apply below_drew1) | exact HB.out)⟩⟩
          ·rw [if_neg c13] at H;exact absurd H (by simp)
         ·rw [if_neg c12] at H;exact absurd H (by simp)
        ·rw [if_neg c11] at H;exact absurd H (by simp)
       ·rw [if_neg c10] at H;exact absurd H (by simp)
      ·replace c9 := Bool.eq_false_iff.mpr c9;subst c9;have H1 : (if 0 ≤ x8_1 then (if x8_1 < (a0.size : Int) then ((spec_cronBlank.f (bt a0 x8_1)).bind fun t109 => (if t109 = true then (spec_CronWords.l0 kj2 a0 x3_1 x4_1 (a0.size : Int) (wrap64 (x8_1 + 1))) else (if x4_1 < 0 then (spec_CronWords.l0 kj2 a0 x3_1 x8_1 (a0.size : Int) (wrap64 (x8_1 + 1))) else (spec_CronWords.l0 kj2 a0 x3_1 x4_1 (a0.size : Int) (wrap64 (x8_1 + 1)))))) else (none)) else (none)) = some r := by rw [if_neg (show ¬ (false = true) by decide)] at H; exact H
       clear H;have H := H1;clear H1
       by_cases c15 : 0 ≤ x8_1
       ·rw [if_pos c15] at H;have c15b0 : decide (0 ≤ x8_1) = true := decide_eq_true c15;clear c15
        by_cases c16 : x8_1 < (a0.size : Int)
        ·rw [if_pos c16] at H;have c16b0 : decide (x8_1 < (a0.size : Int)) = true := decide_eq_true c16;clear c16;replace H := Option.bind_eq_some_iff.mp H;obtain ⟨t109, A180, H⟩ := H;replace H : (if t109 = true then (spec_CronWords.l0 kj2 a0 x3_1 x4_1 (a0.size : Int) (wrap64 (x8_1 + 1))) else (if x4_1 < 0 then (spec_CronWords.l0 kj2 a0 x3_1 x8_1 (a0.size : Int) (wrap64 (x8_1 + 1))) else (spec_CronWords.l0 kj2 a0 x3_1 x4_1 (a0.size : Int) (wrap64 (x8_1 + 1))))) = some r := H;have A18 := Aside0.mk A180;clear A180
         by_cases c19 : t109 = true
         ·subst c19;have H1 : (spec_CronWords.l0 kj2 a0 x3_1 x4_1 (a0.size : Int) (wrap64 (x8_1 + 1))) = some r := by rw [if_pos rfl] at H; exact H
          clear H;have H := H1;clear H1;have H' := Aside0.mk H;clear H;have p17 : 0 ≤ (x8_1 : Int) := of_decide_eq_true (by first | (with_reducible assumption) | assumption);have q17 : x8_1 < (a0.size : Int) := of_decide_eq_true (by first | (with_reducible assumption) | assumption);have hx17 := bt_at a0 x8_1;replace p17 := eq_true p17;replace q17 := eq_true q17
          go_wp2_with (first | ((with_reducible refine gate_callee (f := 62) rfl ?_); refine goesL_ (some 31) rfl rfl Tryz.func62 (by kernel_rfl) rfl #[.int .u8 (bt a0 x8_1)] rfl (by (try simp only [List.map_toArray, List.map_cons, List.map_nil]); first | done | rfl | (simp only [List.length_drop, List.length_take]; rfl)) ?_; (with_reducible refine (spec_cronBlank.calls (bt a0 x8_1) true _ A18.out).mono ?_); rintro e w' ⟨rfl, ⟨nd, rfl⟩⟩; refine ⟨_, rfl, ?_⟩))
          go_roundg kj2
          case measure => have := HK1.out; have := HJ2.out; omega
          case rel => exact ⟨(x3_1), (x4_1), (wrap64 (x8_1 + 1)), (by first | rfl | (simp; done) | (simp [*]; done)), (by first | rfl | (simp; done) | (simp [*]; done)), H', ⟨by have := HK1.out; have := HJ2.out; omega⟩, ⟨by (with_reducible repeat (first | apply Kd.R_alloc | apply Kd.R_drewN | apply Kd.R_drew)); exact HO_3.out⟩, ⟨by repeat (first | (with_reducible first | exact HB.out | apply below_alloc | apply pw_below_drewN | apply below_drew1) | exact HB.out)⟩⟩
         ·replace c19 := Bool.eq_false_iff.mpr c19;subst c19;have H1 : (if x4_1 < 0 then (spec_CronWords.l0 kj2 a0 x3_1 x8_1 (a0.size : Int) (wrap64 (x8_1 + 1))) else (spec_CronWords.l0 kj2 a0 x3_1 x4_1 (a0.size : Int) (wrap64 (x8_1 + 1)))) = some r := by rw [if_neg (show ¬ (false = true) by decide)] at H; exact H
          clear H;have H := H1;clear H1
          by_cases c20 : x4_1 < 0
          ·rw [if_pos c20] at H;have c20b0 : decide (x4_1 < 0) = true := decide_eq_true c20;clear c20;have H' := Aside0.mk H;clear H;have p17 : 0 ≤ (x8_1 : Int) := of_decide_eq_true (by first | (with_reducible assumption) | assumption);have q17 : x8_1 < (a0.size : Int) := of_decide_eq_true (by first | (with_reducible assumption) | assumption);have hx17 := bt_at a0 x8_1;replace p17 := eq_true p17;replace q17 := eq_true q17
           go_wp2_with (first | ((with_reducible refine gate_callee (f := 62) rfl ?_); refine goesL_ (some 31) rfl rfl Tryz.func62 (by kernel_rfl) rfl #[.int .u8 (bt a0 x8_1)] rfl (by (try simp only [List.map_toArray, List.map_cons, List.map_nil]); first | done | rfl | (simp only [List.length_drop, List.length_take]; rfl)) ?_; (with_reducible refine (spec_cronBlank.calls (bt a0 x8_1) false _ A18.out).mono ?_); rintro e w' ⟨rfl, ⟨nd, rfl⟩⟩; refine ⟨_, rfl, ?_⟩))
           go_roundg kj2
           case measure => have := HK1.out; have := HJ2.out; omega
           case rel => exact ⟨(x3_1), (x8_1), (wrap64 (x8_1 + 1)), (by first | rfl | (simp; done) | (simp [*]; done)), (by first | rfl | (simp; done) | (simp [*]; done)), H', ⟨by have := HK1.out; have := HJ2.out; omega⟩, ⟨by (with_reducible repeat (first | apply Kd.R_alloc | apply Kd.R_drewN | apply Kd.R_drew)); exact HO_3.out⟩, ⟨by repeat (first | (with_reducible first | exact HB.out | apply below_alloc | apply pw_below_drewN | apply below_drew1) | exact HB.out)⟩⟩
          ·rw [if_neg c20] at H;have c20b0 : decide (x4_1 < 0) = false := decide_eq_false c20;clear c20;have H' := Aside0.mk H;clear H;have p17 : 0 ≤ (x8_1 : Int) := of_decide_eq_true (by first | (with_reducible assumption) | assumption);have q17 : x8_1 < (a0.size : Int) := of_decide_eq_true (by first | (with_reducible assumption) | assumption);have hx17 := bt_at a0 x8_1;replace p17 := eq_true p17;replace q17 := eq_true q17
           go_wp2_with (first | ((with_reducible refine gate_callee (f := 62) rfl ?_); refine goesL_ (some 31) rfl rfl Tryz.func62 (by kernel_rfl) rfl #[.int .u8 (bt a0 x8_1)] rfl (by (try simp only [List.map_toArray, List.map_cons, List.map_nil]); first | done | rfl | (simp only [List.length_drop, List.length_take]; rfl)) ?_; (with_reducible refine (spec_cronBlank.calls (bt a0 x8_1) false _ A18.out).mono ?_); rintro e w' ⟨rfl, ⟨nd, rfl⟩⟩; refine ⟨_, rfl, ?_⟩))
           go_roundg kj2
           case measure => have := HK1.out; have := HJ2.out; omega
           case rel => exact ⟨(x3_1), (x4_1), (wrap64 (x8_1 + 1)), (by first | rfl | (simp; done) | (simp [*]; done)), (by first | rfl | (simp; done) | (simp [*]; done)), H', ⟨by have := HK1.out; have := HJ2.out; omega⟩, ⟨by (with_reducible repeat (first | apply Kd.R_alloc | apply Kd.R_drewN | apply Kd.R_drew)); exact HO_3.out⟩, ⟨by repeat (first | (with_reducible first | exact HB.out | apply below_alloc | apply pw_below_drewN | apply below_drew1) | exact HB.out)⟩⟩
        ·rw [if_neg c16] at H;exact absurd H (by simp)
       ·rw [if_neg c15] at H;exact absurd H (by simp)
   ·rw [if_neg c2] at H;have c2b0 : decide (x8_1 < (a0.size : Int)) = false := decide_eq_false c2;clear c2
    by_cases c21 : x4_1 ≥ 0
    ·rw [if_pos c21] at H;have c21b0 : decide (0 ≤ x4_1) = true := decide_eq_true c21;clear c21
     by_cases c22 : 0 ≤ x4_1
     ·rw [if_pos c22] at H;have c22b0 := eq_true c22;have c22b1 : decide (0 ≤ x4_1) = true := decide_eq_true c22;clear c22
      by_cases c23 : x4_1 ≤ (a0.size : Int)
      ·rw [if_pos c23] at H;have c23b0 := eq_true c23;have c23b1 : decide (x4_1 ≤ (a0.size : Int)) = true := decide_eq_true c23;clear c23
       by_cases c24 : x3_1.length < 8796093022208
       ·rw [if_pos c24] at H;have LMc24 := Aside0.mk c24;clear c24;obtain ⟨y102, hy102⟩ : ∃ y_ : List ByteArray, y_ = (x3_1 ++ [a0.extract (x4_1 : Int).toNat a0.size]) := ⟨_, rfl⟩
        replace H : (some y102) = some r := by first | (rw [hy102]; with_reducible exact H) | (have H2_ := (Option.bind_some _ _).symm.trans H; rw [hy102]; with_reducible exact H2_) | (have H2_ := (Option.bind_some _ _).symm.trans H; with_reducible exact H2_) | with_reducible exact H | (rw [hy102]; exact H) | exact H
        have Ny102 := Aside0.mk hy102;clear hy102;obtain rfl := Option.some.inj H
        go_wp2_with (first | ((with_reducible refine gate_builtin (b := .append) (xs := #[.tmp 41, .tmp 45]) rfl ?_); at_builtin; refine Kd.R_append Kd.string (w0 := w) w.heap.size rfl (.tmp 41) (.tmp 45) 33 9 (.string ⟨#[]⟩) 16 rfl Tryz.underlying33 info9 rfl (by decide) (by omega) u3 x3_1 (a0.extract (x4_1 : Int).toNat a0.size) [.string (a0.extract (x4_1 : Int).toNat a0.size)] (fun _ => True) (fun _ => False) rfl rfl ?aP (fun _ hk => hk.elim) ?aF ?aO ?aB ?aS ?aL ?_; (case aP => exact rfl); (case aB => exact (by repeat (first | (with_reducible first | exact HB.out | apply below_alloc | apply pw_below_drewN | apply below_drew1) | exact HB.out))); (case aF => exact (fun _ _ => trivial)); (case aO => exact (by (with_reducible repeat (first | apply Kd.R_alloc | apply Kd.R_drewN | apply Kd.R_drew)); exact HO_3.out)); (case aS => exact (below_size (by repeat (first | (with_reducible first | exact HB.out | apply below_alloc | apply pw_below_drewN | apply below_drew1) | exact HB.out)))); (case aL => have := LMc24.out; omega); intro v103 w25 ho hb hg hat; rw [← Ny102.out] at ho; have n0_ := Aside0.mk (hb); have n1_ := Aside0.mk (ho); clear HB; clear HO_3; have HB := n0_; have HO104 := n1_; clear n0_ n1_; clear ho hb hg hat))
        go_ret
        exact ⟨_, by first | rfl | (simp [errW_none, errW_some] <;> rfl) | (simp [*, errW_none, errW_some] <;> rfl), by (with_reducible repeat (first | apply Kd.R_alloc | apply Kd.R_drewN | apply Kd.R_drew)); exact HO104.out, by repeat (first | (with_reducible first | exact HB.out | apply below_alloc | apply pw_below_drewN | apply below_drew1) | exact HB.out)⟩
       ·rw [if_neg c24] at H;exact absurd H (by simp)
      ·rw [if_neg c23] at H;exact absurd H (by simp)
     ·rw [if_neg c22] at H;exact absurd H (by simp)
    ·rw [if_neg c21] at H;have c21b0 : decide (0 ≤ x4_1) = false := decide_eq_false c21;clear c21;obtain rfl := Option.some.inj H
     go_wp2
     go_ret
     exact ⟨_, by first | rfl | (simp [errW_none, errW_some] <;> rfl) | (simp [*, errW_none, errW_some] <;> rfl), by (with_reducible repeat (first | apply Kd.R_alloc | apply Kd.R_drewN | apply Kd.R_drew)); exact HO_3.out, by repeat (first | (with_reducible first | exact HB.out | apply below_alloc | apply pw_below_drewN | apply below_drew1) | exact HB.out)⟩
end Go.Proofs.YtmecbmgfacpecaaGreatDoor.Pr
namespace Go.Proofs.YtmecbmgfacpecaaGreatDoor.Pr
open Go.RowKit Go.Proofs.YtmecbmgfacpecaaGreatDoorW.PrintWords Go.Proofs.YtmecbmgfacpecaaGreatDoorW.PrintLast Go.Proofs.YtmecbmgfacpecaaGreatDoorW.PrintMore
attribute [local go_sem] max2_int min2_int max_two min_two max_three min_three max_four min_four   -- for this text's walks alone
set_option linter.unusedVariables false
set_option linter.unusedSimpArgs false
def spec_cronBegins.f (a0 : ByteArray) (a1 : ByteArray) : Option (Bool) := if (a0.size : Int) ≥ (a1.size : Int) then (if 0 ≤ (a1.size : Int) then (if (a1.size : Int) ≤ (a0.size : Int) then (some ((a0.extract 0 ((a1.size : Int) : Int).toNat).toList == a1.toList)) else (none)) else (none)) else (some false)
set_option maxHeartbeats 8000000 in
set_option maxRecDepth 100000 in
theorem spec_cronBegins.calls (a0 : ByteArray) (a1 : ByteArray) (r : Bool) (w : World) (h : spec_cronBegins.f a0 a1 = some r) :
  Calls Tryz.prog 88 #[.string a0, .string a1] w fun e w' => e = .returned (.bool r) ∧ Drawn0 w w' := by
 have H : (if (a0.size : Int) ≥ (a1.size : Int) then (if 0 ≤ (a1.size : Int) then (if (a1.size : Int) ≤ (a0.size : Int) then (some ((a0.extract 0 ((a1.size : Int) : Int).toNat).toList == a1.toList)) else (none)) else (none)) else (some false)) = some r := h;clear h
 by_cases c3 : (a0.size : Int) ≥ (a1.size : Int)
 ·rw [if_pos c3] at H;have c3b0 : decide ((a1.size : Int) ≤ (a0.size : Int)) = true := decide_eq_true c3;have c3b1 : decide (a1.size ≤ a0.size) = true := decide_eq_true (Int.ofNat_le.mp c3);clear c3
  by_cases c4 : 0 ≤ (a1.size : Int)
  ·rw [if_pos c4] at H;have c4b0 := eq_true c4;have c4b1 : decide (0 ≤ (a1.size : Int)) = true := decide_eq_true c4;clear c4
   by_cases c5 : (a1.size : Int) ≤ (a0.size : Int)
   ·rw [if_pos c5] at H;have c5b0 := eq_true c5;have c5b1 : decide ((a1.size : Int) ≤ (a0.size : Int)) = true := decide_eq_true c5;clear c5;obtain rfl := Option.some.inj H
    go_enter Tryz.func88, Tryz.ntmps88
    go_wp2
    go_ret
    exact ⟨by first | rfl | (simp; done) | (simp [*]; done), by repeat (first | exact Drawn0.refl _ | apply Drawn0.step)⟩
   ·rw [if_neg c5] at H;exact absurd H (by simp)
  ·rw [if_neg c4] at H;exact absurd H (by simp)
 ·rw [if_neg c3] at H;have c3b0 : decide ((a1.size : Int) ≤ (a0.size : Int)) = false := decide_eq_false c3;have c3b1 : decide (a1.size ≤ a0.size) = false := decide_eq_false (fun h => c3 (Int.ofNat_le.mpr h));clear c3;obtain rfl := Option.some.inj H
  go_enter Tryz.func88, Tryz.ntmps88
  go_wp2
  go_ret
  exact ⟨by first | rfl | (simp; done) | (simp [*]; done), by repeat (first | exact Drawn0.refl _ | apply Drawn0.step)⟩
end Go.Proofs.YtmecbmgfacpecaaGreatDoor.Pr
namespace Go.Proofs.YtmecbmgfacpecaaGreatDoor.Pr
open Go.RowKit Go.Proofs.YtmecbmgfacpecaaGreatDoorW.PrintWords Go.Proofs.YtmecbmgfacpecaaGreatDoorW.PrintLast Go.Proofs.YtmecbmgfacpecaaGreatDoorW.PrintMore
attribute [local go_sem] max2_int min2_int max_two min_two max_three min_three max_four min_four   -- for this text's walks alone
set_option linter.unusedVariables false
set_option linter.unusedSimpArgs false
attribute [local go_sem high] eqA26
def gotime_Duration_Nanoseconds.f (a0 : Int) : Option (Int) := some a0
set_option maxHeartbeats 8000000 in
set_option maxRecDepth 100000 in
theorem gotime_Duration_Nanoseconds.calls (a0 : Int) (r : Int) (w : World) (h : gotime_Duration_Nanoseconds.f a0 = some r) :
  Calls Tryz.prog 178 #[.int .i64 a0] w fun e w' => e = .returned (.int .i64 r) ∧ Drawn0 w w' := by
 have H : (some a0) = some r := h;clear h;obtain rfl := Option.some.inj H
 go_enter Tryz.func178, Tryz.ntmps178
 go_wp2
 go_ret
 exact ⟨by first | rfl | (simp; done) | (simp [*]; done), by repeat (first | exact Drawn0.refl _ | apply Drawn0.step)⟩
end Go.Proofs.YtmecbmgfacpecaaGreatDoor.Pr
namespace Go.Proofs.YtmecbmgfacpecaaGreatDoor.Pr
open Go.RowKit Go.Proofs.YtmecbmgfacpecaaGreatDoorW.PrintWords Go.Proofs.YtmecbmgfacpecaaGreatDoorW.PrintLast Go.Proofs.YtmecbmgfacpecaaGreatDoorW.PrintMore
attribute [local go_sem] max2_int min2_int max_two min_two max_three min_three max_four min_four   -- for this text's walks alone
set_option linter.unusedVariables false
set_option linter.unusedSimpArgs false
attribute [local go_sem high] eqA26
def cron_Every.f (a0 : Int) : Option (Int) := if a0 < 1000000000 then ((gotime_Duration_Nanoseconds.f 1000000000).bind fun t171 => (some (wrap64 (1000000000 - (Int.tmod t171 1000000000))))) else ((gotime_Duration_Nanoseconds.f a0).bind fun t172 => (some (wrap64 (a0 - (Int.tmod t172 1000000000)))))
set_option maxHeartbeats 8000000 in
set_option maxRecDepth 100000 in
theorem cron_Every.calls (a0 : Int) (r : Int) (w : World) (h : cron_Every.f a0 = some r) :
  Calls Tryz.prog 147 #[.int .i64 a0] w fun e w' => e = .returned (.agg #[.int .i64 r]) ∧ Below w.heap.size w w' := by
 have hu174 := Tryz.underlying174;have HB := Aside0.mk (Below.refl w.heap.size w);have H : (if a0 < 1000000000 then ((gotime_Duration_Nanoseconds.f 1000000000).bind fun t171 => (some (wrap64 (1000000000 - (Int.tmod t171 1000000000))))) else ((gotime_Duration_Nanoseconds.f a0).bind fun t172 => (some (wrap64 (a0 - (Int.tmod t172 1000000000)))))) = some r := h;clear h
 by_cases c2 : a0 < 1000000000
 ·rw [if_pos c2] at H;have c2b0 : decide (a0 < 1000000000) = true := decide_eq_true c2;clear c2;replace H := Option.bind_eq_some_iff.mp H;obtain ⟨t171, A30, H⟩ := H;replace H : (some (wrap64 (1000000000 - (Int.tmod t171 1000000000)))) = some r := H;have A3 := Aside0.mk A30;clear A30;obtain rfl := Option.some.inj H
  go_enter Tryz.func147, Tryz.ntmps147
  go_wp2_with (first | ((with_reducible refine gate_dst (N := 2) rfl ?_); refine box_event ?hg (N := 2) ?hd (cs := #[.int .i64 0]) (t := 174) ?hr ?_; (case hd => rfl); (case hg => rfl); (case hr => first | (go_simp; done) | (go_simp; rfl)); intro gb170 hg w4 hbox hb; have n0_ := Aside0.mk (below_step (by repeat (first | (with_reducible first | exact HB.out | apply below_alloc | apply pw_below_drewN | apply below_drew1) | exact HB.out)) hb); have n1_ := Aside0.mk (hbox); have n2_ := Aside0.mk ((by rw [hg]; exact (below_size (by repeat (first | (with_reducible first | exact HB.out | apply below_alloc | apply pw_below_drewN | apply below_drew1) | exact HB.out))) : w.heap.size ≤ gb170)); have n3_ := Aside0.mk ((by rw [hg]; exact (below_size (by repeat (first | (with_reducible first | exact HB.out | apply below_alloc | apply pw_below_drewN | apply below_drew1) | exact HB.out))) : w.heap.size ≤ gb170)); clear HB; have HB := n0_; have BK170 := n1_; have GW170 := n2_; have GE170 := n3_; clear n0_ n1_ n2_ n3_; clear hb hbox hg) | ((with_reducible refine gate_callee (f := 178) rfl ?_); refine goesL_ (some 7) rfl rfl Tryz.func178 (by kernel_rfl) rfl #[.int .i64 1000000000] rfl (by (try simp only [List.map_toArray, List.map_cons, List.map_nil]); first | done | rfl | (simp only [List.length_drop, List.length_take]; rfl)) ?_; (with_reducible refine (gotime_Duration_Nanoseconds.calls 1000000000 t171 _ A3.out).mono ?_); rintro e w' ⟨rfl, ⟨nd, rfl⟩⟩; refine ⟨_, rfl, ?_⟩; (try (rw [drewN_self w4]; generalize hq_ : World.drewN w4 _ = w4; have n0_ : Aside0 (w4.heap[gb170]? = some (.cells #[.int .i64 0] 174 (0, 0))) := ⟨by rw [← hq_]; exact (by (with_reducible repeat (first | refine blk_drewN ?_ _ | refine blk_drew ?_ | refine blk_alloc ?_ _)); exact BK170.out)⟩; have n1_ : Aside0 (Below w.heap.size w w4) := ⟨by rw [← hq_]; exact (by repeat (first | (with_reducible first | exact HB.out | apply below_alloc | apply pw_below_drewN | apply below_drew1 | refine below_set ?_ GE170.out) | exact HB.out))⟩; clear BK170 HB hq_; have BK170 := n0_; have HB := n1_; clear n0_ n1_)); have hcz5_0 : w4.cell? ⟨gb170, 0, none⟩ = some (.int .i64 0) := (blk_cell BK170.out 0).trans rfl; have hfz5_0 := blk_frozen BK170.out 0))
  refine bodyPost_ret (results_cell_row rfl _ _ gb170 174 #[.int .i64 (wrap64 (1000000000 - (Int.tmod t171 1000000000)))] (0, 0) _ rfl (by (with_reducible repeat (first | refine blk_drewN ?_ _ | refine blk_drew ?_ | refine blk_alloc ?_ _)); refine blk_put (cs := #[.int .i64 0]) ?_ 0 _ rfl; (with_reducible repeat (first | refine blk_drewN ?_ _ | refine blk_drew ?_ | refine blk_alloc ?_ _)); exact BK170.out) Tryz.underlying174 rfl (by kernel_rfl)) rfl ?_;exact ⟨by first | rfl | (simp [errW_none, errW_some] <;> rfl) | (simp [*, errW_none, errW_some] <;> rfl), by repeat (first | (with_reducible first | exact HB.out | apply below_alloc | apply pw_below_drewN | apply below_drew1 | refine below_set ?_ GE170.out) | exact HB.out)⟩
 ·rw [if_neg c2] at H;have c2b0 : decide (a0 < 1000000000) = false := decide_eq_false c2;clear c2;replace H := Option.bind_eq_some_iff.mp H;obtain ⟨t172, A60, H⟩ := H;replace H : (some (wrap64 (a0 - (Int.tmod t172 1000000000)))) = some r := H;have A6 := Aside0.mk A60;clear A60;obtain rfl := Option.some.inj H
  go_enter Tryz.func147, Tryz.ntmps147
  go_wp2_with (first | ((with_reducible refine gate_dst (N := 2) rfl ?_); refine box_event ?hg (N := 2) ?hd (cs := #[.int .i64 0]) (t := 174) ?hr ?_; (case hd => rfl); (case hg => rfl); (case hr => first | (go_simp; done) | (go_simp; rfl)); intro gb170 hg w7 hbox hb; have n0_ := Aside0.mk (below_step (by repeat (first | (with_reducible first | exact HB.out | apply below_alloc | apply pw_below_drewN | apply below_drew1) | exact HB.out)) hb); have n1_ := Aside0.mk (hbox); have n2_ := Aside0.mk ((by rw [hg]; exact (below_size (by repeat (first | (with_reducible first | exact HB.out | apply below_alloc | apply pw_below_drewN | apply below_drew1) | exact HB.out))) : w.heap.size ≤ gb170)); have n3_ := Aside0.mk ((by rw [hg]; exact (below_size (by repeat (first | (with_reducible first | exact HB.out | apply below_alloc | apply pw_below_drewN | apply below_drew1) | exact HB.out))) : w.heap.size ≤ gb170)); clear HB; have HB := n0_; have BK170 := n1_; have GW170 := n2_; have GE170 := n3_; clear n0_ n1_ n2_ n3_; clear hb hbox hg) | ((with_reducible refine gate_callee (f := 178) rfl ?_); refine goesL_ (some 7) rfl rfl Tryz.func178 (by kernel_rfl) rfl #[.int .i64 a0] rfl (by (try simp only [List.map_toArray, List.map_cons, List.map_nil]); first | done | rfl | (simp only [List.length_drop, List.length_take]; rfl)) ?_; (with_reducible refine (gotime_Duration_Nanoseconds.calls a0 t172 _ A6.out).mono ?_); rintro e w' ⟨rfl, ⟨nd, rfl⟩⟩; refine ⟨_, rfl, ?_⟩; (try (rw [drewN_self w7]; generalize hq_ : World.drewN w7 _ = w7; have n0_ : Aside0 (w7.heap[gb170]? = some (.cells #[.int .i64 0] 174 (0, 0))) := ⟨by rw [← hq_]; exact (by (with_reducible repeat (first | refine blk_drewN ?_ _ | refine blk_drew ?_ | refine blk_alloc ?_ _)); exact BK170.out)⟩; have n1_ : Aside0 (Below w.heap.size w w7) := ⟨by rw [← hq_]; exact (by repeat (first | (with_reducible first | exact HB.out | apply below_alloc | apply pw_below_drewN | apply below_drew1 | refine below_set ?_ GE170.out) | exact HB.out))⟩; clear BK170 HB hq_; have BK170 := n0_; have HB := n1_; clear n0_ n1_)); have hcz8_0 : w7.cell? ⟨gb170, 0, none⟩ = some (.int .i64 0) := (blk_cell BK170.out 0).trans rfl; have hfz8_0 := blk_frozen BK170.out 0))
  refine bodyPost_ret (results_cell_row rfl _ _ gb170 174 #[.int .i64 (wrap64 (a0 - (Int.tmod t172 1000000000)))] (0, 0) _ rfl (by (with_reducible repeat (first | refine blk_drewN ?_ _ | refine blk_drew ?_ | refine blk_alloc ?_ _)); refine blk_put (cs := #[.int .i64 0]) ?_ 0 _ rfl; (with_reducible repeat (first | refine blk_drewN ?_ _ | refine blk_drew ?_ | refine blk_alloc ?_ _)); exact BK170.out) Tryz.underlying174 rfl (by kernel_rfl)) rfl ?_;exact ⟨by first | rfl | (simp [errW_none, errW_some] <;> rfl) | (simp [*, errW_none, errW_some] <;> rfl), by repeat (first | (with_reducible first | exact HB.out | apply below_alloc | apply pw_below_drewN | apply below_drew1 | refine below_set ?_ GE170.out) | exact HB.out)⟩
end Go.Proofs.YtmecbmgfacpecaaGreatDoor.Pr
namespace Go.Proofs.YtmecbmgfacpecaaGreatDoor.Pr
open Go.RowKit Go.Proofs.YtmecbmgfacpecaaGreatDoorW.PrintWords Go.Proofs.YtmecbmgfacpecaaGreatDoorW.PrintLast Go.Proofs.YtmecbmgfacpecaaGreatDoorW.PrintMore
attribute [local go_sem] max2_int min2_int max_two min_two max_three min_three max_four min_four   -- for this text's walks alone
set_option linter.unusedVariables false
set_option linter.unusedSimpArgs false
attribute [local go_sem high] eqA26
def gotime_containsDotDot.l0 : Nat → ByteArray → Int → Option (Bool)
 | 0, _, _ => none
 | k + 1, x0, x3 => if x3 < (wrap64 ((x0.size : Int) - 1)) then (if 0 ≤ x3 then (if x3 < (x0.size : Int) then (if (bt x0 x3) = 46 then (if 0 ≤ (wrap64 (x3 + 1)) then (if (wrap64 (x3 + 1)) < (x0.size : Int) then (if (bt x0 (wrap64 (x3 + 1))) = 46 then (some true) else (gotime_containsDotDot.l0 k x0 (wrap64 (x3 + 1)))) else (none)) else (none)) else (gotime_containsDotDot.l0 k x0 (wrap64 (x3 + 1)))) else (none)) else (none)) else (some false)
def gotime_containsDotDot.f (k : Nat) (a0 : ByteArray) : Option (Bool) := if (a0.size : Int) < 2 then (some false) else (gotime_containsDotDot.l0 k a0 0)
theorem gotime_containsDotDot.mono_l : ∀ k, (∀ y0 y1, LeO (gotime_containsDotDot.l0 k y0 y1) (gotime_containsDotDot.l0 (k + 1) y0 y1))
 | 0 => fun _ _ r h => by simp [gotime_containsDotDot.l0] at h
 | k + 1 => by
  have ih0 := gotime_containsDotDot.mono_l k
  ·intro y0 y1;unfold gotime_containsDotDot.l0
   repeat' first
   | (with_reducible exact ih0 _ _)
   | (with_reducible exact LeO.refl _)
   | (with_reducible exact LeO.none _)
   | (with_reducible refine LeO.ite ?_ ?_)
   | (with_reducible refine LeO.bind ?_ (fun _ => ?_))
   | exact ih0 _ _
   | exact LeO.none _
   | refine LeO.ite ?_ ?_
   | refine LeO.bind ?_ (fun _ => ?_)
theorem gotime_containsDotDot.mono : ∀ a0 k, LeO (gotime_containsDotDot.f k a0) (gotime_containsDotDot.f (k + 1) a0) := by
 intro a0 k;have ih0 := gotime_containsDotDot.mono_l k;unfold gotime_containsDotDot.f
 repeat' first
  | (with_reducible exact ih0 _ _)
  | (with_reducible exact LeO.refl _)
  | (with_reducible exact LeO.none _)
  | (with_reducible refine LeO.ite ?_ ?_)
  | (with_reducible refine LeO.bind ?_ (fun _ => ?_))
  | exact ih0 _ _
  | exact LeO.none _
  | refine LeO.ite ?_ ?_
  | refine LeO.bind ?_ (fun _ => ?_)
set_option maxHeartbeats 8000000 in
set_option maxRecDepth 100000 in
theorem gotime_containsDotDot.calls (k : Nat) (a0 : ByteArray) (r : Bool) (w : World) (h : gotime_containsDotDot.f k a0 = some r) :
  Calls Tryz.prog 142 #[.string a0] w fun e w' => e = .returned (.bool r) ∧ Drawn0 w w' := by
 have H : (if (a0.size : Int) < 2 then (some false) else (gotime_containsDotDot.l0 k a0 0)) = some r := h;clear h
 by_cases c2 : (a0.size : Int) < 2
 ·rw [if_pos c2] at H;have c2b0 : decide ((a0.size : Int) < 2) = true := decide_eq_true c2;have c2b1 : decide (a0.size < 2) = true := decide_eq_true (by omega);clear c2;obtain rfl := Option.some.inj H
  go_enter Tryz.func142, Tryz.ntmps142
  go_wp2
  go_ret
  exact ⟨by first | rfl | (simp; done) | (simp [*]; done), by repeat (first | exact Drawn0.refl _ | apply Drawn0.step)⟩
 ·rw [if_neg c2] at H;have c2b0 : decide ((a0.size : Int) < 2) = false := decide_eq_false c2;have c2b1 : decide (a0.size < 2) = false := decide_eq_false (by omega);clear c2;have H' := Aside0.mk H;clear H
  go_enter Tryz.func142, Tryz.ntmps142
  go_wp2
  go_loopg [3] k (fun kq v3 w' => ∃ (x3_1 : Int), v3 = .int .i64 x3_1 ∧ Aside0 (gotime_containsDotDot.l0 kq a0 x3_1 = some r) ∧ Aside0 (kq ≤ k) ∧ Drawn0 w w')
  case atStart => exact ⟨(0), (by first | rfl | (simp; done) | (simp [*]; done)), H', ⟨Nat.le_refl _⟩, by repeat (first | exact Drawn0.refl _ | apply Drawn0.step)⟩
  case round =>
   clear H'
   try clear c1
   try clear c2
   try clear c2b0
   try clear c2b1
   try clear p2
   obtain ⟨x3_1, rfl, HA, HK1, ⟨m1, rfl⟩⟩ := hrel
   cases gk with
   | zero => exact absurd HA.out (by simp [gotime_containsDotDot.l0])
   | succ k1 =>
    have H := HA.out;clear HA;simp only [gotime_containsDotDot.l0] at H
    by_cases c3 : x3_1 < (wrap64 ((a0.size : Int) - 1))
    ·rw [if_pos c3] at H;have c3b0 : decide (x3_1 < (wrap64 ((a0.size : Int) - 1))) = true := decide_eq_true c3;clear c3
     by_cases c4 : 0 ≤ x3_1
     ·rw [if_pos c4] at H;have c4b0 : decide (0 ≤ x3_1) = true := decide_eq_true c4;clear c4
      by_cases c5 : x3_1 < (a0.size : Int)
      ·rw [if_pos c5] at H;have c5b0 : decide (x3_1 < (a0.size : Int)) = true := decide_eq_true c5;clear c5
       by_cases c7 : (bt a0 x3_1) = 46
       ·rw [if_pos c7] at H;have c7b0 : ((bt a0 x3_1) == 46) = true := beq_iff_eq.mpr c7;have c7b1 : ((bt a0 x3_1) != 46) = false := bne_eq_false_iff_eq.mpr c7;clear c7;obtain ⟨ji8, hji8⟩ : ∃ j_ : Int, (wrap64 (x3_1 + 1)) = j_ := ⟨_, rfl⟩
        replace H : (if 0 ≤ (ji8) then (if (ji8) < (a0.size : Int) then (if (bt a0 (ji8)) = 46 then (some true) else (gotime_containsDotDot.l0 k1 a0 ji8)) else (none)) else (none)) = some r := by first | (rw [hji8] at H; exact H) | (simp only [hji8] at H ⊢; exact H)
        have hji8w : (IntKind.i64.wrap (x3_1 + 1)) = ji8 := (i64_w _).trans hji8
        by_cases c9 : 0 ≤ (ji8)
        ·rw [if_pos c9] at H;have c9b0 : decide (0 ≤ (ji8)) = true := decide_eq_true c9;clear c9
         by_cases c10 : (ji8) < (a0.size : Int)
         ·rw [if_pos c10] at H;have c10b0 : decide ((ji8) < (a0.size : Int)) = true := decide_eq_true c10;clear c10
          by_cases c12 : (bt a0 (ji8)) = 46
          ·rw [if_pos c12] at H;have c12b0 : ((bt a0 (ji8)) == 46) = true := beq_iff_eq.mpr c12;have c12b1 : ((bt a0 (ji8)) != 46) = false := bne_eq_false_iff_eq.mpr c12;clear c12;obtain rfl := Option.some.inj H;have p6 : 0 ≤ (x3_1 : Int) := of_decide_eq_true (by first | (with_reducible assumption) | assumption);have q6 : x3_1 < (a0.size : Int) := of_decide_eq_true (by first | (with_reducible assumption) | assumption);have hx6 := bt_at a0 x3_1;replace p6 := eq_true p6;replace q6 := eq_true q6;have p11 : 0 ≤ ((ji8) : Int) := of_decide_eq_true (by first | (with_reducible assumption) | assumption);have q11 : (ji8) < (a0.size : Int) := of_decide_eq_true (by first | (with_reducible assumption) | assumption);have hx11 := bt_at a0 (ji8);replace p11 := eq_true p11;replace q11 := eq_true q11
           go_wp2
           go_ret
           exact ⟨by first | rfl | (simp; done) | (simp only [← hji8] <;> (first | rfl | simp)) | (simp [*]; done), by repeat (first | exact Drawn0.refl _ | apply Drawn0.step)⟩
          ·rw [if_neg c12] at H;have c12b0 : ((bt a0 (ji8)) == 46) = false := beq_eq_false_iff_ne.mpr c12;have c12b1 : ((bt a0 (ji8)) != 46) = true := bne_iff_ne.mpr c12;have H' := Aside0.mk H;clear H;have p6 : 0 ≤ (x3_1 : Int) := of_decide_eq_true (by first | (with_reducible assumption) | assumption);have q6 : x3_1 < (a0.size : Int) := of_decide_eq_true (by first | (with_reducible assumption) | assumption);have hx6 := bt_at a0 x3_1;replace p6 := eq_true p6;replace q6 := eq_true q6;have p11 : 0 ≤ ((ji8) : Int) := of_decide_eq_true (by first | (with_reducible assumption) | assumption);have q11 : (ji8) < (a0.size : Int) := of_decide_eq_true (by first | (with_reducible assumption) | assumption);have hx11 := bt_at a0 (ji8);replace p11 := eq_true p11;replace q11 := eq_true q11
           go_wp2
           go_roundg k1
           case measure => have := HK1.out; omega
           case rel => exact ⟨(ji8), (by first | rfl | (simp; done) | (simp only [← hji8] <;> (first | rfl | simp)) | (simp [*]; done)), H', ⟨by have := HK1.out; omega⟩, by repeat (first | exact Drawn0.refl _ | apply Drawn0.step)⟩
         ·rw [if_neg c10] at H;exact absurd H (by simp)
        ·rw [if_neg c9] at H;exact absurd H (by simp)
       ·rw [if_neg c7] at H;have c7b0 : ((bt a0 x3_1) == 46) = false := beq_eq_false_iff_ne.mpr c7;have c7b1 : ((bt a0 x3_1) != 46) = true := bne_iff_ne.mpr c7;have H' := Aside0.mk H;clear H;have p6 : 0 ≤ (x3_1 : Int) := of_decide_eq_true (by first | (with_reducible assumption) | assumption);have q6 : x3_1 < (a0.size : Int) := of_decide_eq_true (by first | (with_reducible assumption) | assumption);have hx6 := bt_at a0 x3_1;replace p6 := eq_true p6;replace q6 := eq_true q6
        go_wp2
        go_roundg k1
        case measure => have := HK1.out; omega
        case rel => exact ⟨(wrap64 (x3_1 + 1)), (by first | rfl | (simp; done) | (simp [*]; done)), H', ⟨by have := HK1.out; omega⟩, by repeat (first | exact Drawn0.refl _ | apply Drawn0.step)⟩
      ·rw [if_neg c5] at H;exact absurd H (by simp)
     ·rw [if_neg c4] at H;exact absurd H (by simp)
    ·rw [if_neg c3] at H;have c3b0 : decide (x3_1 < (wrap64 ((a0.size : Int) - 1))) = false := decide_eq_false c3;clear c3;obtain rfl := Option.some.inj H
     go_wp2
     go_ret
     exact ⟨by first | rfl | (simp; done) | (simp [*]; done), by repeat (first | exact Drawn0.refl _ | apply Drawn0.step)⟩
end Go.Proofs.YtmecbmgfacpecaaGreatDoor.Pr
namespace Go.Proofs.YtmecbmgfacpecaaGreatDoor.Pr
open Go.RowKit Go.Proofs.YtmecbmgfacpecaaGreatDoorW.PrintWords Go.Proofs.YtmecbmgfacpecaaGreatDoorW.PrintLast Go.Proofs.YtmecbmgfacpecaaGreatDoorW.PrintMore
attribute [local go_sem] max2_int min2_int max_two min_two max_three min_three max_four min_four   -- for this text's walks alone
set_option linter.unusedVariables false
set_option linter.unusedSimpArgs false
def spec_cronUnit.j0 : Nat → ByteArray → Bool → Option (Int × Int)
 | 0, _, _ => none
 | k + 1, x4, x7 => if x7 = true then (some (1000, 3)) else (if x4.toList = ([109, 115] : List UInt8) then (some (1000000, 6)) else (if x4.toList = ([115] : List UInt8) then (some (1000000000, 9)) else (if x4.toList = ([109] : List UInt8) then (some (60000000000, 10)) else (if x4.toList = ([104] : List UInt8) then (some (3600000000000, 11)) else (some (0, 0))))))
def spec_cronUnit.f (k : Nat) (a0 : ByteArray) : Option (Int × Int) := if a0.toList = ([110, 115] : List UInt8) then (some (1, 0)) else (if a0.toList = ([117, 115] : List UInt8) then (spec_cronUnit.j0 k a0 (a0.toList == ([117, 115] : List UInt8))) else (if a0.toList = ([194, 181, 115] : List UInt8) then (spec_cronUnit.j0 k a0 (a0.toList == ([194, 181, 115] : List UInt8))) else (spec_cronUnit.j0 k a0 (a0.toList == ([206, 188, 115] : List UInt8)))))
theorem spec_cronUnit.mono_l : ∀ k, (∀ y0 y1, LeO (spec_cronUnit.j0 k y0 y1) (spec_cronUnit.j0 (k + 1) y0 y1))
 | 0 => fun _ _ r h => by simp [spec_cronUnit.j0] at h
 | k + 1 => by
  have ih0 := spec_cronUnit.mono_l k
  ·intro y0 y1;unfold spec_cronUnit.j0
   repeat' first
   | (with_reducible exact ih0 _ _)
   | (with_reducible exact LeO.refl _)
   | (with_reducible exact LeO.none _)
   | (with_reducible refine LeO.ite ?_ ?_)
   | (with_reducible refine LeO.bind ?_ (fun _ => ?_))
   | exact ih0 _ _
   | exact LeO.none _
   | refine LeO.ite ?_ ?_
   | refine LeO.bind ?_ (fun _ => ?_)
theorem spec_cronUnit.mono : ∀ a0 k, LeO (spec_cronUnit.f k a0) (spec_cronUnit.f (k + 1) a0) := by
 intro a0 k;have ih0 := spec_cronUnit.mono_l k;unfold spec_cronUnit.f
 repeat' first
  | (with_reducible exact ih0 _ _)
  | (with_reducible exact LeO.refl _)
  | (with_reducible exact LeO.none _)
  | (with_reducible refine LeO.ite ?_ ?_)
  | (with_reducible refine LeO.bind ?_ (fun _ => ?_))
  | exact ih0 _ _
  | exact LeO.none _
  | refine LeO.ite ?_ ?_
  | refine LeO.bind ?_ (fun _ => ?_)
set_option maxHeartbeats 8000000 in
set_option maxRecDepth 100000 in
theorem spec_cronUnit.calls (k : Nat) (a0 : ByteArray) (r1 : Int) (r2 : Int) (w : World) (h : spec_cronUnit.f k a0 = some (r1, r2)) :
  Calls Tryz.prog 219 #[.string a0] w fun e w' => e = .returned (.tuple #[.int .i64 r1, .int .i64 r2]) ∧ Drawn0 w w' := by
 have H : (if a0.toList = ([110, 115] : List UInt8) then (some (1, 0)) else (if a0.toList = ([117, 115] : List UInt8) then (spec_cronUnit.j0 k a0 (a0.toList == ([117, 115] : List UInt8))) else (if a0.toList = ([194, 181, 115] : List UInt8) then (spec_cronUnit.j0 k a0 (a0.toList == ([194, 181, 115] : List UInt8))) else (spec_cronUnit.j0 k a0 (a0.toList == ([206, 188, 115] : List UInt8)))))) = some (r1, r2) := h;clear h
 by_cases c2 : a0.toList = ([110, 115] : List UInt8)
 ·rw [if_pos c2] at H;have c2b0 : (a0.toList == ([110, 115] : List UInt8)) = true := beq_iff_eq.mpr c2;have c2b1 : (a0.toList != ([110, 115] : List UInt8)) = false := bne_eq_false_iff_eq.mpr c2;clear c2;simp only [Option.some.injEq, Prod.mk.injEq] at H;obtain ⟨rfl, rfl⟩ := H
  go_enter Tryz.func219, Tryz.ntmps219
  go_wp2
  go_ret2
  exact ⟨by first | rfl | (simp; done) | (simp [*]; done), by repeat (first | exact Drawn0.refl _ | apply Drawn0.step)⟩
 ·rw [if_neg c2] at H;have c2b0 : (a0.toList == ([110, 115] : List UInt8)) = false := beq_eq_false_iff_ne.mpr c2;have c2b1 : (a0.toList != ([110, 115] : List UInt8)) = true := bne_iff_ne.mpr c2;have HC3 := Aside0.mk H;clear H
  go_enter Tryz.func219, Tryz.ntmps219
  go_upto_if 7 with (fail)
  go_cut [7] (fun v7 wc => ∃ (kq : Nat) (x7_2 : Bool), v7 = .bool x7_2 ∧ Aside0 (spec_cronUnit.j0 kq a0 x7_2 = some (r1, r2)) ∧ Aside0 (kq ≤ k) ∧ Drawn0 w wc)
  case first =>
   have H := HC3.out;clear HC3
   by_cases c4 : a0.toList = ([117, 115] : List UInt8)
   ·rw [if_pos c4] at H;have c4b0 : (a0.toList == ([117, 115] : List UInt8)) = true := beq_iff_eq.mpr c4;have c4b1 : (a0.toList != ([117, 115] : List UInt8)) = false := bne_eq_false_iff_eq.mpr c4;clear c4
    (first | rw [c4b0] | (simp only [i64_w, i32_w]; rw [c4b0]) | skip)
    have H' := Aside0.mk H;clear H
    go_wp2
    go_meet
    case rel => exact ⟨_, ((a0.toList == ([117, 115] : List UInt8))), (by first | rfl | (simp; done) | (simp [*]; done)), H', ⟨by first | omega | exact Nat.le_refl _⟩, by repeat (first | exact Drawn0.refl _ | apply Drawn0.step)⟩
   ·rw [if_neg c4] at H;have c4b0 : (a0.toList == ([117, 115] : List UInt8)) = false := beq_eq_false_iff_ne.mpr c4;have c4b1 : (a0.toList != ([117, 115] : List UInt8)) = true := bne_iff_ne.mpr c4
    (first | rw [c4b0] | (simp only [i64_w, i32_w]; rw [c4b0]) | skip)
    by_cases c5 : a0.toList = ([194, 181, 115] : List UInt8)
    ·rw [if_pos c5] at H;have c5b0 : (a0.toList == ([194, 181, 115] : List UInt8)) = true := beq_iff_eq.mpr c5;have c5b1 : (a0.toList != ([194, 181, 115] : List UInt8)) = false := bne_eq_false_iff_eq.mpr c5;clear c5;have H' := Aside0.mk H;clear H
     go_wp2
     go_meet
     case rel => exact ⟨_, ((a0.toList == ([194, 181, 115] : List UInt8))), (by first | rfl | (simp; done) | (simp [*]; done)), H', ⟨by first | omega | exact Nat.le_refl _⟩, by repeat (first | exact Drawn0.refl _ | apply Drawn0.step)⟩
    ·rw [if_neg c5] at H;have c5b0 : (a0.toList == ([194, 181, 115] : List UInt8)) = false := beq_eq_false_iff_ne.mpr c5;have c5b1 : (a0.toList != ([194, 181, 115] : List UInt8)) = true := bne_iff_ne.mpr c5;have H' := Aside0.mk H;clear H
     go_wp2
     go_meet
     case rel => exact ⟨_, ((a0.toList == ([206, 188, 115] : List UInt8))), (by first | rfl | (simp; done) | (simp [*]; done)), H', ⟨by first | omega | exact Nat.le_refl _⟩, by repeat (first | exact Drawn0.refl _ | apply Drawn0.step)⟩
  case rest =>
   clear HC3
   try clear c2
   try clear c2b0
   try clear c2b1
   try clear p2
   try clear c4
   try clear c4b0
   try clear c4b1
   try clear c5
   try clear c5b0
   try clear c5b1
   obtain ⟨kq, x7_2, rfl, HA, HJ2, ⟨mc2, rfl⟩⟩ := hcut
   cases kq with
   | zero => exact absurd HA.out (by simp [spec_cronUnit.j0])
   | succ kj2 =>
    have H := HA.out;clear HA;simp only [spec_cronUnit.j0] at H
    by_cases c6 : x7_2 = true
    ·subst c6;have H1 : (some (1000, 3)) = some (r1, r2) := by rw [if_pos rfl] at H; exact H
     clear H;have H := H1;clear H1;simp only [Option.some.injEq, Prod.mk.injEq] at H;obtain ⟨rfl, rfl⟩ := H
     go_wp2
     go_ret2
     exact ⟨by first | rfl | (simp; done) | (simp [*]; done), by repeat (first | exact Drawn0.refl _ | apply Drawn0.step)⟩
    ·replace c6 := Bool.eq_false_iff.mpr c6;subst c6;have H1 : (if a0.toList = ([109, 115] : List UInt8) then (some (1000000, 6)) else (if a0.toList = ([115] : List UInt8) then (some (1000000000, 9)) else (if a0.toList = ([109] : List UInt8) then (some (60000000000, 10)) else (if a0.toList = ([104] : List UInt8) then (some (3600000000000, 11)) else (some (0, 0)))))) = some (r1, r2) := by rw [if_neg (show ¬ (false = true) by decide)] at H; exact H
     clear H;have H := H1;clear H1
     by_cases c7 : a0.toList = ([109, 115] : List UInt8)
     ·rw [if_pos c7] at H;have c7b0 : (a0.toList == ([109, 115] : List UInt8)) = true := beq_iff_eq.mpr c7;have c7b1 : (a0.toList != ([109, 115] : List UInt8)) = false := bne_eq_false_iff_eq.mpr c7;clear c7;simp only [Option.some.injEq, Prod.mk.injEq] at H;obtain ⟨rfl, rfl⟩ := H
      go_wp2
      go_ret2
      exact ⟨by first | rfl | (simp; done) | (simp [*]; done), by repeat (first | exact Drawn0.refl _ | apply Drawn0.step)⟩
     ·rw [if_neg c7] at H;have c7b0 : (a0.toList == ([109, 115] : List UInt8)) = false := beq_eq_false_iff_ne.mpr c7;have c7b1 : (a0.toList != ([109, 115] : List UInt8)) = true := bne_iff_ne.mpr c7
      by_cases c8 : a0.toList = ([115] : List UInt8)
      ·rw [if_pos c8] at H;have c8b0 : (a0.toList == ([115] : List UInt8)) = true := beq_iff_eq.mpr c8;have c8b1 : (a0.toList != ([115] : List UInt8)) = false := bne_eq_false_iff_eq.mpr c8;clear c8;simp only [Option.some.injEq, Prod.mk.injEq] at H;obtain ⟨rfl, rfl⟩ := H
       go_wp2
       go_ret2
       exact ⟨by first | rfl | (simp; done) | (simp [*]; done), by repeat (first | exact Drawn0.refl _ | apply Drawn0.step)⟩
      ·rw [if_neg c8] at H;have c8b0 : (a0.toList == ([115] : List UInt8)) = false := beq_eq_false_iff_ne.mpr c8;have c8b1 : (a0.toList != ([115] : List UInt8)) = true := bne_iff_ne.mpr c8
       by_cases c9 : a0.toList = ([109] : List UInt8)
       ·rw [if_pos c9] at H;have c9b0 : (a0.toList == ([109] : List UInt8)) = true := beq_iff_eq.mpr c9;have c9b1 : (a0.toList != ([109] : List UInt8)) = false := bne_eq_false_iff_eq.mpr c9;clear c9;simp only [Option.some.injEq, Prod.mk.injEq] at H;obtain ⟨rfl, rfl⟩ := H
        go_wp2
        go_ret2
        exact ⟨by first | rfl | (simp; done) | (simp [*]; done), by repeat (first | exact Drawn0.refl _ | apply Drawn0.step)⟩
       ·rw [if_neg c9] at H;have c9b0 : (a0.toList == ([109] : List UInt8)) = false := beq_eq_false_iff_ne.mpr c9;have c9b1 : (a0.toList != ([109] : List UInt8)) = true := bne_iff_ne.mpr c9
        by_cases c10 : a0.toList = ([104] : List UInt8)
        ·rw [if_pos c10] at H;have c10b0 : (a0.toList == ([104] : List UInt8)) = true := beq_iff_eq.mpr c10;have c10b1 : (a0.toList != ([104] : List UInt8)) = false := bne_eq_false_iff_eq.mpr c10;clear c10;simp only [Option.some.injEq, Prod.mk.injEq] at H;obtain ⟨rfl, rfl⟩ := H
         go_wp2
         go_ret2
         exact ⟨by first | rfl | (simp; done) | (simp [*]; done), by repeat (first | exact Drawn0.refl _ | apply Drawn0.step)⟩
        ·rw [if_neg c10] at H;have c10b0 : (a0.toList == ([104] : List UInt8)) = false := beq_eq_false_iff_ne.mpr c10;have c10b1 : (a0.toList != ([104] : List UInt8)) = true := bne_iff_ne.mpr c10;simp only [Option.some.injEq, Prod.mk.injEq] at H;obtain ⟨rfl, rfl⟩ := H
         go_wp2
         go_ret2
         exact ⟨by first | rfl | (simp; done) | (simp [*]; done), by repeat (first | exact Drawn0.refl _ | apply Drawn0.step)⟩
end Go.Proofs.YtmecbmgfacpecaaGreatDoor.Pr
namespace Go.Proofs.YtmecbmgfacpecaaGreatDoor.Pr
open Go.RowKit Go.Proofs.YtmecbmgfacpecaaGreatDoorW.PrintWords Go.Proofs.YtmecbmgfacpecaaGreatDoorW.PrintLast Go.Proofs.YtmecbmgfacpecaaGreatDoorW.PrintMore
attribute [local go_sem] max2_int min2_int max_two min_two max_three min_three max_four min_four   -- for this text's walks alone
set_option linter.unusedVariables false
set_option linter.unusedSimpArgs false
mutual
def spec_cronTerm.l0 : Nat → ByteArray → Int → Int → Int → Int → Int → Option (Int × ByteArray × Int)
 | 0, _, _, _, _, _, _ => none
 | k + 1, x0, x4, x5, x6, x7, x8 => if x5 < (x0.size : Int) then (if 0 ≤ x5 then ((spec_isDigit.f (bt x0 x5)).bind fun t110 => (spec_cronTerm.j1 k x0 x4 x5 x6 x7 x8 t110)) else (none)) else (spec_cronTerm.j1 k x0 x4 x5 x6 x7 x8 false)
def spec_cronTerm.j1 : Nat → ByteArray → Int → Int → Int → Int → Int → Bool → Option (Int × ByteArray × Int)
 | 0, _, _, _, _, _, _, _ => none
 | k + 1, x0, x4, x5, x6, x7, x8, x24 => if x24 = true then (if x5 < 15 then (if 0 ≤ x5 then (if x5 < (x0.size : Int) then (spec_cronTerm.l0 k x0 x4 (wrap64 (x5 + 1)) (wrap64 ((wrap64 (10 * x6)) + (((bt x0 x5) - 48) % 256))) x7 x8) else (none)) else (none)) else (spec_cronTerm.l0 k x0 2 (wrap64 (x5 + 1)) x6 x7 x8)) else (if x5 < (x0.size : Int) then (if 0 ≤ x5 then (spec_cronTerm.j2 k x0 x4 x5 x6 x7 x8 x5 ((bt x0 x5) == 46)) else (none)) else (spec_cronTerm.j2 k x0 x4 x5 x6 x7 x8 x5 false))
def spec_cronTerm.j2 : Nat → ByteArray → Int → Int → Int → Int → Int → Int → Bool → Option (Int × ByteArray × Int)
 | 0, _, _, _, _, _, _, _, _ => none
 | k + 1, x0, x4, x5, x6, x7, x8, x9, x47 => if x47 = true then (spec_cronTerm.l1 k x0 x4 (wrap64 (x5 + 1)) x6 x7 x8 x9) else (spec_cronTerm.j5 k x0 x4 x5 x6 x7 x8 x9)
def spec_cronTerm.j5 : Nat → ByteArray → Int → Int → Int → Int → Int → Int → Option (Int × ByteArray × Int)
 | 0, _, _, _, _, _, _, _ => none
 | k + 1, x0, x4, x5, x6, x7, x8, x9 => spec_cronTerm.l2 k x0 x4 x5 x6 x7 x8 x9 x5
def spec_cronTerm.j7 : Nat → ByteArray → Int → Int → Int → Int → Int → Int → Int → Option (Int × ByteArray × Int)
 | 0, _, _, _, _, _, _, _, _ => none
 | k + 1, x0, x4, x5, x6, x7, x8, x9, x10 => if 0 ≤ x10 then (if x10 ≤ x5 then (if x5 ≤ (x0.size : Int) then ((spec_cronUnit.f k (x0.extract (x10 : Int).toNat (x5 : Int).toNat)).bind fun bt113 => (if x9 = 0 then (spec_cronTerm.j8 k x0 x4 x5 x6 x7 x8 x10 bt113.1 bt113.2 true) else (spec_cronTerm.j8 k x0 x4 x5 x6 x7 x8 x10 bt113.1 bt113.2 (bt113.1 == 0)))) else (none)) else (none)) else (none)
def spec_cronTerm.j8 : Nat → ByteArray → Int → Int → Int → Int → Int → Int → Int → Int → Bool → Option (Int × ByteArray × Int)
 | 0, _, _, _, _, _, _, _, _, _, _ => none
 | k + 1, x0, x4, x5, x6, x7, x8, x10, x11, x12, x110 => if x110 = true then (some (0, (⟨#[]⟩ : ByteArray), 0)) else (if x8 > x12 then (spec_cronTerm.j9 k x0 x4 x5 x6 x7 x8 x10 x11 true) else (if x11 = 0 then (none) else (spec_cronTerm.j9 k x0 x4 x5 x6 x7 x8 x10 x11 (decide (x6 > (wrap64 ((wrap64 ((4611686018427387904 : Int) / x11)) - 1)))))))
def spec_cronTerm.j9 : Nat → ByteArray → Int → Int → Int → Int → Int → Int → Int → Bool → Option (Int × ByteArray × Int)
 | 0, _, _, _, _, _, _, _, _, _ => none
 | k + 1, x0, x4, x5, x6, x7, x8, x10, x11, x120 => if x120 = true then (if 0 ≤ x5 then (if x5 ≤ (x0.size : Int) then (some (0, x0.extract (x5 : Int).toNat x0.size, 2)) else (none)) else (none)) else (spec_cronTerm.l3 k x0 x4 x5 x6 x7 x10 x11 x8 0)
def spec_cronTerm.l3 : Nat → ByteArray → Int → Int → Int → Int → Int → Int → Int → Int → Option (Int × ByteArray × Int)
 | 0, _, _, _, _, _, _, _, _, _ => none
 | k + 1, x0, x4, x5, x6, x7, x10, x11, x124, x125 => if x125 < x124 then (spec_cronTerm.l3 k x0 x4 x5 x6 x7 x10 (wrap64 (Int.tdiv x11 10)) x124 (wrap64 (x125 + 1))) else (if 0 ≤ x10 then (if x10 ≤ x5 then (if x5 ≤ (x0.size : Int) then ((spec_cronUnit.f k (x0.extract (x10 : Int).toNat (x5 : Int).toNat)).bind fun bt115 => (if 0 ≤ x5 then (some (wrap64 ((wrap64 (x6 * bt115.1)) + (wrap64 (x7 * x11))), x0.extract (x5 : Int).toNat x0.size, x4)) else (none))) else (none)) else (none)) else (none))
def spec_cronTerm.l2 : Nat → ByteArray → Int → Int → Int → Int → Int → Int → Int → Option (Int × ByteArray × Int)
 | 0, _, _, _, _, _, _, _, _ => none
 | k + 1, x0, x4, x5, x6, x7, x8, x9, x10 => if x5 < (x0.size : Int) then (if 0 ≤ x5 then ((spec_isDigit.f (bt x0 x5)).bind fun t112 => (if t112 = true then (spec_cronTerm.j7 k x0 x4 x5 x6 x7 x8 x9 x10) else (if (bt x0 x5) = 46 then (spec_cronTerm.j7 k x0 x4 x5 x6 x7 x8 x9 x10) else (spec_cronTerm.l2 k x0 x4 (wrap64 (x5 + 1)) x6 x7 x8 x9 x10)))) else (none)) else (spec_cronTerm.j7 k x0 x4 x5 x6 x7 x8 x9 x10)
def spec_cronTerm.l1 : Nat → ByteArray → Int → Int → Int → Int → Int → Int → Option (Int × ByteArray × Int)
 | 0, _, _, _, _, _, _, _ => none
 | k + 1, x0, x4, x5, x6, x7, x8, x9 => if x5 < (x0.size : Int) then (if 0 ≤ x5 then ((spec_isDigit.f (bt x0 x5)).bind fun t111 => (spec_cronTerm.j4 k x0 x4 x5 x6 x7 x8 x9 t111)) else (none)) else (spec_cronTerm.j4 k x0 x4 x5 x6 x7 x8 x9 false)
def spec_cronTerm.j4 : Nat → ByteArray → Int → Int → Int → Int → Int → Int → Bool → Option (Int × ByteArray × Int)
 | 0, _, _, _, _, _, _, _, _ => none
 | k + 1, x0, x4, x5, x6, x7, x8, x9, x59 => if x59 = true then (if (wrap64 (x8 + 1)) ≤ 11 then (if 0 ≤ x5 then (if x5 < (x0.size : Int) then (spec_cronTerm.l1 k x0 x4 (wrap64 (x5 + 1)) x6 (wrap64 ((wrap64 (10 * x7)) + (((bt x0 x5) - 48) % 256))) (wrap64 (x8 + 1)) x9) else (none)) else (none)) else (spec_cronTerm.l1 k x0 x4 (wrap64 (x5 + 1)) x6 x7 (wrap64 (x8 + 1)) x9)) else (spec_cronTerm.j5 k x0 x4 x5 x6 x7 x8 (wrap64 (x9 + x8)))
end
def spec_cronTerm.f (k : Nat) (a0 : ByteArray) : Option (Int × ByteArray × Int) := spec_cronTerm.l0 k a0 1 0 0 0 0
theorem spec_cronTerm.mono_l : ∀ k, (∀ y0 y1 y2 y3 y4 y5, LeO (spec_cronTerm.l0 k y0 y1 y2 y3 y4 y5) (spec_cronTerm.l0 (k + 1) y0 y1 y2 y3 y4 y5)) ∧ (∀ y0 y1 y2 y3 y4 y5 y6, LeO (spec_cronTerm.j1 k y0 y1 y2 y3 y4 y5 y6) (spec_cronTerm.j1 (k + 1) y0 y1 y2 y3 y4 y5 y6)) ∧ (∀ y0 y1 y2 y3 y4 y5 y6 y7, LeO (spec_cronTerm.j2 k y0 y1 y2 y3 y4 y5 y6 y7) (spec_cronTerm.j2 (k + 1) y0 y1 y2 y3 y4 y5 y6 y7)) ∧ (∀ y0 y1 y2 y3 y4 y5 y6, LeO (spec_cronTerm.j5 k y0 y1 y2 y3 y4 y5 y6) (spec_cronTerm.j5 (k + 1) y0 y1 y2 y3 y4 y5 y6)) ∧ (∀ y0 y1 y2 y3 y4 y5 y6 y7, LeO (spec_cronTerm.j7 k y0 y1 y2 y3 y4 y5 y6 y7) (spec_cronTerm.j7 (k + 1) y0 y1 y2 y3 y4 y5 y6 y7)) ∧ (∀ y0 y1 y2 y3 y4 y5 y6 y7 y8 y9, LeO (spec_cronTerm.j8 k y0 y1 y2 y3 y4 y5 y6 y7 y8 y9) (spec_cronTerm.j8 (k + 1) y0 y1 y2 y3 y4 y5 y6 y7 y8 y9)) ∧ (∀ y0 y1 y2 y3 y4 y5 y6 y7 y8, LeO (spec_cronTerm.j9 k y0 y1 y2 y3 y4 y5 y6 y7 y8) (spec_cronTerm.j9 (k + 1) y0 y1 y2 y3 y4 y5 y6 y7 y8)) ∧ (∀ y0 y1 y2 y3 y4 y5 y6 y7 y8, LeO (spec_cronTerm.l3 k y0 y1 y2 y3 y4 y5 y6 y7 y8) (spec_cronTerm.l3 (k + 1) y0 y1 y2 y3 y4 y5 y6 y7 y8)) ∧ (∀ y0 y1 y2 y3 y4 y5 y6 y7, LeO (spec_cronTerm.l2 k y0 y1 y2 y3 y4 y5 y6 y7) (spec_cronTerm.l2 (k + 1) y0 y1 y2 y3 y4 y5 y6 y7)) ∧ (∀ y0 y1 y2 y3 y4 y5 y6, LeO (spec_cronTerm.l1 k y0 y1 y2 y3 y4 y5 y6) (spec_cronTerm.l1 (k + 1) y0 y1 y2 y3 y4 y5 y6)) ∧ (∀ y0 y1 y2 y3 y4 y5 y6 y7, LeO (spec_cronTerm.j4 k y0 y1 y2 y3 y4 y5 y6 y7) (spec_cronTerm.j4 (k + 1) y0 y1 y2 y3 y4 y5 y6 y7))
 | 0 => ⟨fun _ _ _ _ _ _ r h => by simp [spec_cronTerm.l0] at h, fun _ _ _ _ _ _ _ r h => by simp [spec_cronTerm.j1] at h, fun _ _ _ _ _ _ _ _ r h => by simp [spec_cronTerm.j2] at h, fun _ _ _ _ _ _ _ r h => by simp [spec_cronTerm.j5] at h, fun _ _ _ _ _ _ _ _ r h => by simp [spec_cronTerm.j7] at h, fun _ _ _ _ _ _ _ _ _ _ r h => by simp [spec_cronTerm.j8] at h, fun _ _ _ _ _ _ _ _ _ r h => by simp [spec_cronTerm.j9] at h, fun _ _ _ _ _ _ _ _ _ r h => by simp [spec_cronTerm.l3] at h, fun _ _ _ _ _ _ _ _ r h => by simp [spec_cronTerm.l2] at h, fun _ _ _ _ _ _ _ r h => by simp [spec_cronTerm.l1] at h, fun _ _ _ _ _ _ _ _ r h => by simp [spec_cronTerm.j4] at h⟩
 | k + 1 => by
  obtain ⟨ih0, ih1, ih2, ih3, ih4, ih5, ih6, ih7, ih8, ih9, ih10⟩ := spec_cronTerm.mono_l k;refine ⟨?_, ?_, ?_, ?_, ?_, ?_, ?_, ?_, ?_, ?_, ?_⟩;intro y0 y1 y2 y3 y4 y5;unfold spec_cronTerm.l0;rotate_left;intro y0 y1 y2 y3 y4 y5 y6;unfold spec_cronTerm.j1;rotate_left;intro y0 y1 y2 y3 y4 y5 y6 y7;unfold spec_cronTerm.j2;rotate_left;intro y0 y1 y2 y3 y4 y5 y6;unfold spec_cronTerm.j5;rotate_left;intro y0 y1 y2 y3 y4 y5 y6 y7;unfold spec_cronTerm.j7;rotate_left;intro y0 y1 y2 y3 y4 y5 y6 y7 y8 y9;unfold spec_cronTerm.j8;rotate_left;intro y0 y1 y2 y3 y4 y5 y6 y7 y8;unfold spec_cronTerm.j9;rotate_left;intro y0 y1 y2 y3 y4 y5 y6 y7 y8;unfold spec_cronTerm.l3;rotate_left;intro y0 y1 y2 y3 y4 y5 y6 y7;unfold spec_cronTerm.l2;rotate_left;intro y0 y1 y2 y3 y4 y5 y6;unfold spec_cronTerm.l1;rotate_left;intro y0 y1 y2 y3 y4 y5 y6 y7;unfold spec_cronTerm.j4;rotate_left
  all_goals repeat' first
  | (with_reducible exact ih0 _ _ _ _ _ _)
  | (with_reducible exact ih1 _ _ _ _ _ _ _)
  | (with_reducible exact ih2 _ _ _ _ _ _ _ _)
  | (with_reducible exact ih3 _ _ _ _ _ _ _)
  | (with_reducible exact ih4 _ _ _ _ _ _ _ _)
  | (with_reducible exact ih5 _ _ _ _ _ _ _ _ _ _)
  | (with_reducible exact ih6 _ _ _ _ _ _ _ _ _)
  | (with_reducible exact ih7 _ _ _ _ _ _ _ _ _)
  | (with_reducible exact ih8 _ _ _ _ _ _ _ _)
  | (with_reducible exact ih9 _ _ _ _ _ _ _)
  | (with_reducible exact ih10 _ _ _ _ _ _ _ _)
  | (with_reducible exact spec_cronUnit.mono _ _)
  | (with_reducible exact LeO.refl _)
  | (with_reducible exact LeO.none _)
  | (with_reducible refine LeO.ite ?_ ?_)
  | (with_reducible refine LeO.bind ?_ (fun _ => ?_))
  | exact ih0 _ _ _ _ _ _
  | exact ih1 _ _ _ _ _ _ _
  | exact ih2 _ _ _ _ _ _ _ _
  | exact ih3 _ _ _ _ _ _ _
  | exact ih4 _ _ _ _ _ _ _ _
  | exact ih5 _ _ _ _ _ _ _ _ _ _
  | exact ih6 _ _ _ _ _ _ _ _ _
  | exact ih7 _ _ _ _ _ _ _ _ _
  | exact ih8 _ _ _ _ _ _ _ _
  | exact ih9 _ _ _ _ _ _ _
  | exact ih10 _ _ _ _ _ _ _ _
  | exact spec_cronUnit.mono _ _
  | exact LeO.none _
  | refine LeO.ite ?_ ?_
  | refine LeO.bind ?_ (fun _ => ?_)
theorem spec_cronTerm.mono : ∀ a0 k, LeO (spec_cronTerm.f k a0) (spec_cronTerm.f (k + 1) a0) := by
 intro a0 k;obtain ⟨ih0, ih1, ih2, ih3, ih4, ih5, ih6, ih7, ih8, ih9, ih10⟩ := spec_cronTerm.mono_l k;unfold spec_cronTerm.f
 repeat' first
  | (with_reducible exact ih0 _ _ _ _ _ _)
  | (with_reducible exact ih1 _ _ _ _ _ _ _)
  | (with_reducible exact ih2 _ _ _ _ _ _ _ _)
  | (with_reducible exact ih3 _ _ _ _ _ _ _)
  | (with_reducible exact ih4 _ _ _ _ _ _ _ _)
  | (with_reducible exact ih5 _ _ _ _ _ _ _ _ _ _)
  | (with_reducible exact ih6 _ _ _ _ _ _ _ _ _)
  | (with_reducible exact ih7 _ _ _ _ _ _ _ _ _)
  | (with_reducible exact ih8 _ _ _ _ _ _ _ _)
  | (with_reducible exact ih9 _ _ _ _ _ _ _)
  | (with_reducible exact ih10 _ _ _ _ _ _ _ _)
  | (with_reducible exact spec_cronUnit.mono _ _)
  | (with_reducible exact LeO.refl _)
  | (with_reducible exact LeO.none _)
  | (with_reducible refine LeO.ite ?_ ?_)
  | (with_reducible refine LeO.bind ?_ (fun _ => ?_))
  | exact ih0 _ _ _ _ _ _
  | exact ih1 _ _ _ _ _ _ _
  | exact ih2 _ _ _ _ _ _ _ _
  | exact ih3 _ _ _ _ _ _ _
  | exact ih4 _ _ _ _ _ _ _ _
  | exact ih5 _ _ _ _ _ _ _ _ _ _
  | exact ih6 _ _ _ _ _ _ _ _ _
  | exact ih7 _ _ _ _ _ _ _ _ _
  | exact ih8 _ _ _ _ _ _ _ _
  | exact ih9 _ _ _ _ _ _ _
  | exact ih10 _ _ _ _ _ _ _ _
  | exact spec_cronUnit.mono _ _
  | exact LeO.none _
  | refine LeO.ite ?_ ?_
  | refine LeO.bind ?_ (fun _ => ?_)
set_option maxHeartbeats 8000000 in
set_option maxRecDepth 100000 in
theorem spec_cronTerm.calls (k : Nat) (a0 : ByteArray) (r1 : Int) (r2 : ByteArray) (r3 : Int) (w : World) (h : spec_cronTerm.f k a0 = some (r1, r2, r3)) :
  Calls Tryz.prog 205 #[.string a0] w fun e w' => e = .returned (.tuple #[.int .i64 r1, .string r2, .int .i64 r3]) ∧ Drawn0 w w' := by
 have H : (spec_cronTerm.l0 k a0 1 0 0 0 0) = some (r1, r2, r3) := h;clear h;have H' := Aside0.mk H;clear H
 go_enter Tryz.func205, Tryz.ntmps205
 go_wp2
 repeat (go_quiet (fail); try go_wp2)
 go_loopg [4, 5, 6] k (fun kq v4 v5 v6 w' => ∃ (x4_1 : Int) (x5_1 : Int) (x6_1 : Int), v4 = .int .i64 x4_1 ∧ v5 = .int .i64 x5_1 ∧ v6 = .int .i64 x6_1 ∧ Aside0 (spec_cronTerm.l0 kq a0 x4_1 x5_1 x6_1 0 0 = some (r1, r2, r3)) ∧ Aside0 (kq ≤ k) ∧ Drawn0 w w')
 case atStart => exact ⟨(1), (0), (0), (by first | rfl | (simp; done) | (simp [*]; done)), (by first | rfl | (simp; done) | (simp [*]; done)), (by first | rfl | (simp; done) | (simp [*]; done)), H', ⟨Nat.le_refl _⟩, by repeat (first | exact Drawn0.refl _ | apply Drawn0.step)⟩
 case round =>
  clear H';obtain ⟨x4_1, x5_1, x6_1, rfl, rfl, rfl, HA, HK1, ⟨m1, rfl⟩⟩ := hrel
  cases gk with
  | zero => exact absurd HA.out (by simp [spec_cronTerm.l0])
  | succ k1 =>
   have H := HA.out;clear HA;simp only [spec_cronTerm.l0] at H;have HC2 := Aside0.mk H;clear H
   go_upto_region 3 with (fail)
   repeat (go_quiet (fail); go_upto_region 3 with (fail))
   go_cut [24] (fun v24 wc => ∃ (kq : Nat) (x24_1 : Bool), v24 = .bool x24_1 ∧ Aside0 (spec_cronTerm.j1 kq a0 x4_1 x5_1 x6_1 0 0 x24_1 = some (r1, r2, r3)) ∧ Aside0 (kq ≤ k1) ∧ Drawn0 w wc)
   case first =>
    have H := HC2.out;clear HC2
    by_cases c3 : x5_1 < (a0.size : Int)
    ·rw [if_pos c3] at H;have c3b0 : decide (x5_1 < (a0.size : Int)) = true := decide_eq_true c3;clear c3
     (first | rw [c3b0] | (simp only [i64_w, i32_w]; rw [c3b0]) | skip)
     by_cases c4 : 0 ≤ x5_1
     ·rw [if_pos c4] at H;have c4b0 : decide (0 ≤ x5_1) = true := decide_eq_true c4;clear c4;replace H := Option.bind_eq_some_iff.mp H;obtain ⟨t110, A60, H⟩ := H;replace H : (spec_cronTerm.j1 k1 a0 x4_1 x5_1 x6_1 0 0 t110) = some (r1, r2, r3) := H;have A6 := Aside0.mk A60;clear A60;have H' := Aside0.mk H;clear H;have p5 : 0 ≤ (x5_1 : Int) := of_decide_eq_true (by first | (with_reducible assumption) | assumption);have q5 : x5_1 < (a0.size : Int) := of_decide_eq_true (by first | (with_reducible assumption) | assumption);have hx5 := bt_at a0 x5_1;replace p5 := eq_true p5;replace q5 := eq_true q5
      go_wp2_with (first | (go_at_call 193; (with_reducible refine (spec_isDigit.calls (bt a0 x5_1) t110 _ A6.out).mono ?_); rintro e w' ⟨rfl, ⟨nd, rfl⟩⟩; (try first | exact ⟨rfl, _, World.drewN_drewN _ _ _⟩ | exact ⟨rfl, _, Eq.trans (World.drewN_drewN _ _ _) (congrArg (World.drewN _) (Nat.add_assoc _ _ _))⟩)))
      repeat (go_quiet (first | (go_at_call 193; (with_reducible refine (spec_isDigit.calls (bt a0 x5_1) t110 _ A6.out).mono ?_); rintro e w' ⟨rfl, ⟨nd, rfl⟩⟩; (try first | exact ⟨rfl, _, World.drewN_drewN _ _ _⟩ | exact ⟨rfl, _, Eq.trans (World.drewN_drewN _ _ _) (congrArg (World.drewN _) (Nat.add_assoc _ _ _))⟩))); try go_wp2_with (first | (go_at_call 193; (with_reducible refine (spec_isDigit.calls (bt a0 x5_1) t110 _ A6.out).mono ?_); rintro e w' ⟨rfl, ⟨nd, rfl⟩⟩; (try first | exact ⟨rfl, _, World.drewN_drewN _ _ _⟩ | exact ⟨rfl, _, Eq.trans (World.drewN_drewN _ _ _) (congrArg (World.drewN _) (Nat.add_assoc _ _ _))⟩))))
      go_meet
      case rel => exact ⟨_, (t110), (by first | rfl | (simp; done) | (simp [*]; done)), H', ⟨by have := HK1.out; first | omega | exact Nat.le_refl _⟩, by repeat (first | exact Drawn0.refl _ | apply Drawn0.step)⟩
     ·rw [if_neg c4] at H;exact absurd H (by simp)
    ·rw [if_neg c3] at H;have c3b0 : decide (x5_1 < (a0.size : Int)) = false := decide_eq_false c3;clear c3
     (first | rw [c3b0] | (simp only [i64_w, i32_w]; rw [c3b0]) | skip)
     have H' := Aside0.mk H;clear H
     go_wp2
     repeat (go_quiet (fail); try go_wp2)
     go_meet
     case rel => exact ⟨_, (false), (by first | rfl | (simp; done) | (simp [*]; done)), H', ⟨by have := HK1.out; first | omega | exact Nat.le_refl _⟩, by repeat (first | exact Drawn0.refl _ | apply Drawn0.step)⟩
   case rest =>
    clear HC2
    try clear c2
    try clear p2
    try clear c3
    try clear c3b0
    try clear c4
    try clear c4b0
    try clear p5
    try clear q5
    try clear hx5
    try clear p5
    try clear q5
    obtain ⟨kq, x24_1, rfl, HA, HJ1, ⟨mc1, rfl⟩⟩ := hcut
    cases kq with
    | zero => exact absurd HA.out (by simp [spec_cronTerm.j1])
    | succ kj1 =>
     have H := HA.out;clear HA;simp only [spec_cronTerm.j1] at H
     by_cases c7 : x24_1 = true
     ·subst c7;have H1 : (if x5_1 < 15 then (if 0 ≤ x5_1 then (if x5_1 < (a0.size : Int) then (spec_cronTerm.l0 kj1 a0 x4_1 (wrap64 (x5_1 + 1)) (wrap64 ((wrap64 (10 * x6_1)) + (((bt a0 x5_1) - 48) % 256))) 0 0) else (none)) else (none)) else (spec_cronTerm.l0 kj1 a0 2 (wrap64 (x5_1 + 1)) x6_1 0 0)) = some (r1, r2, r3) := by rw [if_pos rfl] at H; exact H
      clear H;have H := H1;clear H1
      by_cases c8 : x5_1 < 15
      ·rw [if_pos c8] at H;have c8b0 : decide (x5_1 < 15) = true := decide_eq_true c8;clear c8
       by_cases c9 : 0 ≤ x5_1
       ·rw [if_pos c9] at H;have c9b0 : decide (0 ≤ x5_1) = true := decide_eq_true c9;clear c9
        by_cases c10 : x5_1 < (a0.size : Int)
        ·rw [if_pos c10] at H;have c10b0 : decide (x5_1 < (a0.size : Int)) = true := decide_eq_true c10;clear c10;have H' := Aside0.mk H;clear H;have p11 : 0 ≤ (x5_1 : Int) := of_decide_eq_true (by first | (with_reducible assumption) | assumption);have q11 : x5_1 < (a0.size : Int) := of_decide_eq_true (by first | (with_reducible assumption) | assumption);have hx11 := bt_at a0 x5_1;replace p11 := eq_true p11;replace q11 := eq_true q11
         go_wp2
         repeat (go_quiet (fail); try go_wp2)
         go_roundg kj1
         case measure => have := HK1.out; have := HJ1.out; omega
         case rel => exact ⟨(x4_1), (wrap64 (x5_1 + 1)), (wrap64 ((wrap64 (10 * x6_1)) + (((bt a0 x5_1) - 48) % 256))), (by first | rfl | (simp; done) | (simp [*]; done)), (by first | rfl | (simp; done) | (simp [*]; done)), (by first | rfl | (simp; done) | (simp [*]; done)), H', ⟨by have := HK1.out; have := HJ1.out; omega⟩, by repeat (first | exact Drawn0.refl _ | apply Drawn0.step)⟩
        ·rw [if_neg c10] at H;exact absurd H (by simp)
       ·rw [if_neg c9] at H;exact absurd H (by simp)
      ·rw [if_neg c8] at H;have c8b0 : decide (x5_1 < 15) = false := decide_eq_false c8;clear c8;have H' := Aside0.mk H;clear H
       go_wp2
       repeat (go_quiet (fail); try go_wp2)
       go_roundg kj1
       case measure => have := HK1.out; have := HJ1.out; omega
       case rel => exact ⟨(2), (wrap64 (x5_1 + 1)), (x6_1), (by first | rfl | (simp; done) | (simp [*]; done)), (by first | rfl | (simp; done) | (simp [*]; done)), (by first | rfl | (simp; done) | (simp [*]; done)), H', ⟨by have := HK1.out; have := HJ1.out; omega⟩, by repeat (first | exact Drawn0.refl _ | apply Drawn0.step)⟩
     ·replace c7 := Bool.eq_false_iff.mpr c7;subst c7;have H1 : (if x5_1 < (a0.size : Int) then (if 0 ≤ x5_1 then (spec_cronTerm.j2 kj1 a0 x4_1 x5_1 x6_1 0 0 x5_1 ((bt a0 x5_1) == 46)) else (none)) else (spec_cronTerm.j2 kj1 a0 x4_1 x5_1 x6_1 0 0 x5_1 false)) = some (r1, r2, r3) := by rw [if_neg (show ¬ (false = true) by decide)] at H; exact H
      clear H;have H := H1;clear H1;have HC12 := Aside0.mk H;clear H
      go_upto_region 9 with (fail)
      repeat (go_quiet (fail); go_upto_region 9 with (fail))
      go_cut [47] (fun v47 wc => ∃ (kq : Nat) (x47_11 : Bool), v47 = .bool x47_11 ∧ Aside0 (spec_cronTerm.j2 kq a0 x4_1 x5_1 x6_1 0 0 x5_1 x47_11 = some (r1, r2, r3)) ∧ Aside0 (kq ≤ kj1) ∧ Drawn0 w wc)
      case first =>
       have H := HC12.out;clear HC12
       by_cases c13 : x5_1 < (a0.size : Int)
       ·rw [if_pos c13] at H;have c13b0 : decide (x5_1 < (a0.size : Int)) = true := decide_eq_true c13;clear c13
        (first | rw [c13b0] | (simp only [i64_w, i32_w]; rw [c13b0]) | skip)
        by_cases c14 : 0 ≤ x5_1
        ·rw [if_pos c14] at H;have c14b0 : decide (0 ≤ x5_1) = true := decide_eq_true c14;clear c14;have H' := Aside0.mk H;clear H;have p15 : 0 ≤ (x5_1 : Int) := of_decide_eq_true (by first | (with_reducible assumption) | assumption);have q15 : x5_1 < (a0.size : Int) := of_decide_eq_true (by first | (with_reducible assumption) | assumption);have hx15 := bt_at a0 x5_1;replace p15 := eq_true p15;replace q15 := eq_true q15
         go_wp2
         repeat (go_quiet (fail); try go_wp2)
         go_meet
         case rel => exact ⟨_, (((bt a0 x5_1) == 46)), (by first | rfl | (simp; done) | (simp [*]; done)), H', ⟨by have := HK1.out; have := HJ1.out; first | omega | exact Nat.le_refl _⟩, by repeat (first | exact Drawn0.refl _ | apply Drawn0.step)⟩
        ·rw [if_neg c14] at H;exact absurd H (by simp)
       ·rw [if_neg c13] at H;have c13b0 : decide (x5_1 < (a0.size : Int)) = false := decide_eq_false c13;clear c13
        (first | rw [c13b0] | (simp only [i64_w, i32_w]; rw [c13b0]) | skip)
        have H' := Aside0.mk H;clear H
        go_wp2
        repeat (go_quiet (fail); try go_wp2)
        go_meet
        case rel => exact ⟨_, (false), (by first | rfl | (simp; done) | (simp [*]; done)), H', ⟨by have := HK1.out; have := HJ1.out; first | omega | exact Nat.le_refl _⟩, by repeat (first | exact Drawn0.refl _ | apply Drawn0.step)⟩
      case rest =>
       clear HC12
       try clear c1
       try clear p1
       try clear q1
       try clear hx1
       try clear c2
       try clear p2
       try clear c3
       try clear c3b0
       try clear c4
       try clear c4b0
       try clear p5
       try clear q5
       try clear hx5
       try clear p6
       try clear c7
       try clear c8
       try clear c8b0
       try clear c9
       try clear c9b0
       try clear c10
       try clear c10b0
       try clear p11
       try clear q11
       try clear hx11
       try clear c13
       try clear c13b0
       try clear c14
       try clear c14b0
       try clear p15
       try clear q15
       try clear hx15
       try clear p11
       try clear p15
       try clear p2
       try clear p5
       try clear q11
       try clear q15
       try clear q5
       obtain ⟨kq, x47_11, rfl, HA, HJ11, ⟨mc11, rfl⟩⟩ := hcut
       cases kq with
       | zero => exact absurd HA.out (by simp [spec_cronTerm.j2])
       | succ kj11 =>
        have H := HA.out;clear HA;simp only [spec_cronTerm.j2] at H;have HC16 := Aside0.mk H;clear H
        go_upto_if 47 with (fail)
        repeat (go_quiet (fail); go_upto_if 47 with (fail))
        go_cut [5, 7, 8, 9] (fun v5 v7 v8 v9 wc => ∃ (kq : Nat) (x5_15 : Int) (x7_15 : Int) (x8_15 : Int) (x9_15 : Int), v5 = .int .i64 x5_15 ∧ v7 = .int .i64 x7_15 ∧ v8 = .int .i64 x8_15 ∧ v9 = .int .i64 x9_15 ∧ Aside0 (spec_cronTerm.j5 kq a0 x4_1 x5_15 x6_1 x7_15 x8_15 x9_15 = some (r1, r2, r3)) ∧ Aside0 (kq ≤ kj11) ∧ Drawn0 w wc)
        case first =>
         have H := HC16.out;clear HC16
         by_cases c17 : x47_11 = true
         ·subst c17;have H1 : (spec_cronTerm.l1 kj11 a0 x4_1 (wrap64 (x5_1 + 1)) x6_1 0 0 x5_1) = some (r1, r2, r3) := by rw [if_pos rfl] at H; exact H
          clear H;have H := H1;clear H1;have H' := Aside0.mk H;clear H
          go_wp2
          repeat (go_quiet (fail); try go_wp2)
          go_loopg [5, 7, 8] kj11 (fun kq v5 v7 v8 w' => ∃ (x5_4 : Int) (x7_4 : Int) (x8_4 : Int), v5 = .int .i64 x5_4 ∧ v7 = .int .i64 x7_4 ∧ v8 = .int .i64 x8_4 ∧ Aside0 (spec_cronTerm.l1 kq a0 x4_1 x5_4 x6_1 x7_4 x8_4 x5_1 = some (r1, r2, r3)) ∧ Aside0 (kq ≤ kj11) ∧ Drawn0 w w')
          case atStart => exact ⟨(wrap64 (x5_1 + 1)), (0), (0), (by first | rfl | (simp; done) | (simp [*]; done)), (by first | rfl | (simp; done) | (simp [*]; done)), (by first | rfl | (simp; done) | (simp [*]; done)), H', ⟨Nat.le_refl _⟩, by repeat (first | exact Drawn0.refl _ | apply Drawn0.step)⟩
          case round =>
           clear H'
           try clear c1
           try clear p1
           try clear q1
           try clear hx1
           try clear c2
           try clear p2
           try clear c3
           try clear c3b0
           try clear c4
           try clear c4b0
           try clear p5
           try clear q5
           try clear hx5
           try clear p6
           try clear c7
           try clear c8
           try clear c8b0
           try clear c9
           try clear c9b0
           try clear c10
           try clear c10b0
           try clear c11
           try clear p11
           try clear q11
           try clear hx11
           try clear c13
           try clear c13b0
           try clear c14
           try clear c14b0
           try clear p15
           try clear q15
           try clear hx15
           try clear c17
           try clear p1
           try clear p11
           try clear p15
           try clear p2
           try clear p5
           try clear p6
           try clear q1
           try clear q11
           try clear q15
           try clear q5
           obtain ⟨x5_4, x7_4, x8_4, rfl, rfl, rfl, HA, HK4, ⟨m4, rfl⟩⟩ := hrel
           cases gk with
           | zero => exact absurd HA.out (by simp [spec_cronTerm.l1])
           | succ k4 =>
            have H := HA.out;clear HA;simp only [spec_cronTerm.l1] at H;have HC18 := Aside0.mk H;clear H
            go_upto_region 11 with (fail)
            repeat (go_quiet (fail); go_upto_region 11 with (fail))
            go_cut [59] (fun v59 wc => ∃ (kq : Nat) (x59_17 : Bool), v59 = .bool x59_17 ∧ Aside0 (spec_cronTerm.j4 kq a0 x4_1 x5_4 x6_1 x7_4 x8_4 x5_1 x59_17 = some (r1, r2, r3)) ∧ Aside0 (kq ≤ k4) ∧ Drawn0 w wc)
            case first =>
             have H := HC18.out;clear HC18
             by_cases c19 : x5_4 < (a0.size : Int)
             ·rw [if_pos c19] at H;have c19b0 : decide (x5_4 < (a0.size : Int)) = true := decide_eq_true c19;clear c19
              (first | rw [c19b0] | (simp only [i64_w, i32_w]; rw [c19b0]) | skip)
              by_cases c20 : 0 ≤ x5_4
              ·rw [if_pos c20] at H;have c20b0 : decide (0 ≤ x5_4) = true := decide_eq_true c20;clear c20;replace H := Option.bind_eq_some_iff.mp H;obtain ⟨t111, A220, H⟩ := H;replace H : (spec_cronTerm.j4 k4 a0 x4_1 x5_4 x6_1 x7_4 x8_4 x5_1 t111) = some (r1, r2, r3) := H;have A22 := Aside0.mk A220;clear A220;have H' := Aside0.mk H;clear H;have p21 : 0 ≤ (x5_4 : Int) := of_decide_eq_true (by first | (with_reducible assumption) | assumption);have q21 : x5_4 < (a0.size : Int) := of_decide_eq_true (by first | (with_reducible assumption) | assumption);have hx21 := bt_at a0 x5_4;replace p21 := eq_true p21;replace q21 := eq_true q21
               go_wp2_with (first | (go_at_call 193; (with_reducible refine (spec_isDigit.calls (bt a0 x5_4) t111 _ A22.out).mono ?_); rintro e w' ⟨rfl, ⟨nd, rfl⟩⟩; (try first | exact ⟨rfl, _, World.drewN_drewN _ _ _⟩ | exact ⟨rfl, _, Eq.trans (World.drewN_drewN _ _ _) (congrArg (World.drewN _) (Nat.add_assoc _ _ _))⟩)))
               repeat (go_quiet (first | (go_at_call 193; (with_reducible refine (spec_isDigit.calls (bt a0 x5_4) t111 _ A22.out).mono ?_); rintro e w' ⟨rfl, ⟨nd, rfl⟩⟩; (try first | exact ⟨rfl, _, World.drewN_drewN _ _ _⟩ | exact ⟨rfl, _, Eq.trans (World.drewN_drewN _ _ _) (congrArg (World.drewN _) (Nat.add_assoc _ _ _))⟩))); try go_wp2_with (first | (go_at_call 193; (with_reducible refine (spec_isDigit.calls (bt a0 x5_4) t111 _ A22.out).mono ?_); rintro e w' ⟨rfl, ⟨nd, rfl⟩⟩; (try first | exact ⟨rfl, _, World.drewN_drewN _ _ _⟩ | exact ⟨rfl, _, Eq.trans (World.drewN_drewN _ _ _) (congrArg (World.drewN _) (Nat.add_assoc _ _ _))⟩))))
               go_meet
               case rel => exact ⟨_, (t111), (by first | rfl | (simp; done) | (simp [*]; done)), H', ⟨by have := HK1.out; have := HJ1.out; have := HJ11.out; have := HK4.out; first | omega | exact Nat.le_refl _⟩, by repeat (first | exact Drawn0.refl _ | apply Drawn0.step)⟩
              ·rw [if_neg c20] at H;exact absurd H (by simp)
             ·rw [if_neg c19] at H;have c19b0 : decide (x5_4 < (a0.size : Int)) = false := decide_eq_false c19;clear c19
              (first | rw [c19b0] | (simp only [i64_w, i32_w]; rw [c19b0]) | skip)
              have H' := Aside0.mk H;clear H
              go_wp2
              repeat (go_quiet (fail); try go_wp2)
              go_meet
              case rel => exact ⟨_, (false), (by first | rfl | (simp; done) | (simp [*]; done)), H', ⟨by have := HK1.out; have := HJ1.out; have := HJ11.out; have := HK4.out; first | omega | exact Nat.le_refl _⟩, by repeat (first | exact Drawn0.refl _ | apply Drawn0.step)⟩
            case rest =>
             clear HC18
             try clear c1
             try clear p1
             try clear q1
             try clear hx1
             try clear c2
             try clear p2
             try clear q2
             try clear hx2
             try clear c3
             try clear c3b0
             try clear c4
             try clear c4b0
             try clear p5
             try clear q5
             try clear hx5
             try clear p6
             try clear c7
             try clear c8
             try clear c8b0
             try clear c9
             try clear c9b0
             try clear c10
             try clear c10b0
             try clear c11
             try clear p11
             try clear q11
             try clear hx11
             try clear c13
             try clear c13b0
             try clear c14
             try clear c14b0
             try clear p15
             try clear q15
             try clear hx15
             try clear c17
             try clear c19
             try clear c19b0
             try clear c20
             try clear c20b0
             try clear p21
             try clear q21
             try clear hx21
             try clear p1
             try clear p11
             try clear p15
             try clear p2
             try clear p21
             try clear p5
             try clear p6
             try clear q1
             try clear q11
             try clear q15
             try clear q21
             try clear q5
             obtain ⟨kq, x59_17, rfl, HA, HJ17, ⟨mc17, rfl⟩⟩ := hcut
             cases kq with
             | zero => exact absurd HA.out (by simp [spec_cronTerm.j4])
             | succ kj17 =>
              have H := HA.out;clear HA;simp only [spec_cronTerm.j4] at H
              by_cases c23 : x59_17 = true
              ·subst c23;have H1 : (if (wrap64 (x8_4 + 1)) ≤ 11 then (if 0 ≤ x5_4 then (if x5_4 < (a0.size : Int) then (spec_cronTerm.l1 kj17 a0 x4_1 (wrap64 (x5_4 + 1)) x6_1 (wrap64 ((wrap64 (10 * x7_4)) + (((bt a0 x5_4) - 48) % 256))) (wrap64 (x8_4 + 1)) x5_1) else (none)) else (none)) else (spec_cronTerm.l1 kj17 a0 x4_1 (wrap64 (x5_4 + 1)) x6_1 x7_4 (wrap64 (x8_4 + 1)) x5_1)) = some (r1, r2, r3) := by rw [if_pos rfl] at H; exact H
               clear H;have H := H1;clear H1
               by_cases c24 : (wrap64 (x8_4 + 1)) ≤ 11
               ·rw [if_pos c24] at H;have c24b0 : decide ((wrap64 (x8_4 + 1)) ≤ 11) = true := decide_eq_true c24;clear c24
                by_cases c25 : 0 ≤ x5_4
                ·rw [if_pos c25] at H;have c25b0 : decide (0 ≤ x5_4) = true := decide_eq_true c25;clear c25
                 by_cases c26 : x5_4 < (a0.size : Int)
                 ·rw [if_pos c26] at H;have c26b0 : decide (x5_4 < (a0.size : Int)) = true := decide_eq_true c26;clear c26;have H' := Aside0.mk H;clear H;have p27 : 0 ≤ (x5_4 : Int) := of_decide_eq_true (by first | (with_reducible assumption) | assumption);have q27 : x5_4 < (a0.size : Int) := of_decide_eq_true (by first | (with_reducible assumption) | assumption);have hx27 := bt_at a0 x5_4;replace p27 := eq_true p27;replace q27 := eq_true q27
                  go_wp2
                  repeat (go_quiet (fail); try go_wp2)
                  go_roundg kj17
                  case measure => have := HK1.out; have := HJ1.out; have := HJ11.out; have := HK4.out; have := HJ17.out; omega
                  case rel => exact ⟨(wrap64 (x5_4 + 1)), (wrap64 ((wrap64 (10 * x7_4)) + (((bt a0 x5_4) - 48) % 256))), (wrap64 (x8_4 + 1)), (by first | rfl | (simp; done) | (simp [*]; done)), (by first | rfl | (simp; done) | (simp [*]; done)), (by first | rfl | (simp; done) | (simp [*]; done)), H', ⟨by have := HK1.out; have := HJ1.out; have := HJ11.out; have := HK4.out; have := HJ17.out; omega⟩, by repeat (first | exact Drawn0.refl _ | apply Drawn0.step)⟩
                 ·rw [if_neg c26] at H;exact absurd H (by simp)
                ·rw [if_neg c25] at H;exact absurd H (by simp)
               ·rw [if_neg c24] at H;have c24b0 : decide ((wrap64 (x8_4 + 1)) ≤ 11) = false := decide_eq_false c24;clear c24;have H' := Aside0.mk H;clear H
                go_wp2
                repeat (go_quiet (fail); try go_wp2)
                go_roundg kj17
                case measure => have := HK1.out; have := HJ1.out; have := HJ11.out; have := HK4.out; have := HJ17.out; omega
                case rel => exact ⟨(wrap64 (x5_4 + 1)), (x7_4), (wrap64 (x8_4 + 1)), (by first | rfl | (simp; done) | (simp [*]; done)), (by first | rfl | (simp; done) | (simp [*]; done)), (by first | rfl | (simp; done) | (simp [*]; done)), H', ⟨by have := HK1.out; have := HJ1.out; have := HJ11.out; have := HK4.out; have := HJ17.out; omega⟩, by repeat (first | exact Drawn0.refl _ | apply Drawn0.step)⟩
              ·replace c23 := Bool.eq_false_iff.mpr c23;subst c23;have H1 : (spec_cronTerm.j5 kj17 a0 x4_1 x5_4 x6_1 x7_4 x8_4 (wrap64 (x5_1 + x8_4))) = some (r1, r2, r3) := by rw [if_neg (show ¬ (false = true) by decide)] at H; exact H
               clear H;have H := H1;clear H1;have H' := Aside0.mk H;clear H
               go_wp2
               repeat (go_quiet (fail); try go_wp2)
               go_meet
               case rel => exact ⟨_, (x5_4), (x7_4), (x8_4), (wrap64 (x5_1 + x8_4)), (by first | rfl | (simp; done) | (simp [*]; done)), (by first | rfl | (simp; done) | (simp [*]; done)), (by first | rfl | (simp; done) | (simp [*]; done)), (by first | rfl | (simp; done) | (simp [*]; done)), H', ⟨by have := HK1.out; have := HJ1.out; have := HJ11.out; have := HK4.out; have := HJ17.out; first | omega | exact Nat.le_refl _⟩, by repeat (first | exact Drawn0.refl _ | apply Drawn0.step)⟩
         ·replace c17 := Bool.eq_false_iff.mpr c17;subst c17;have H1 : (spec_cronTerm.j5 kj11 a0 x4_1 x5_1 x6_1 0 0 x5_1) = some (r1, r2, r3) := by rw [if_neg (show ¬ (false = true) by decide)] at H; exact H
          clear H;have H := H1;clear H1;have H' := Aside0.mk H;clear H
          go_wp2
          repeat (go_quiet (fail); try go_wp2)
          go_meet
          case rel => exact ⟨_, (x5_1), (0), (0), (x5_1), (by first | rfl | (simp; done) | (simp [*]; done)), (by first | rfl | (simp; done) | (simp [*]; done)), (by first | rfl | (simp; done) | (simp [*]; done)), (by first | rfl | (simp; done) | (simp [*]; done)), H', ⟨by have := HK1.out; have := HJ1.out; have := HJ11.out; first | omega | exact Nat.le_refl _⟩, by repeat (first | exact Drawn0.refl _ | apply Drawn0.step)⟩
        case rest =>
         clear HC16
         try clear c1
         try clear p1
         try clear q1
         try clear hx1
         try clear c2
         try clear p2
         try clear q2
         try clear hx2
         try clear c3
         try clear c3b0
         try clear c4
         try clear c4b0
         try clear p5
         try clear q5
         try clear hx5
         try clear p6
         try clear c7
         try clear c8
         try clear c8b0
         try clear c9
         try clear c9b0
         try clear c10
         try clear c10b0
         try clear c11
         try clear p11
         try clear q11
         try clear hx11
         try clear c13
         try clear c13b0
         try clear c14
         try clear c14b0
         try clear p15
         try clear q15
         try clear hx15
         try clear c17
         try clear c19
         try clear c19b0
         try clear c20
         try clear c20b0
         try clear p21
         try clear q21
         try clear hx21
         try clear c23
         try clear c24
         try clear c24b0
         try clear c25
         try clear c25b0
         try clear c26
         try clear c26b0
         try clear p27
         try clear q27
         try clear hx27
         try clear p1
         try clear p11
         try clear p15
         try clear p2
         try clear p21
         try clear p27
         try clear p5
         try clear p6
         try clear q1
         try clear q11
         try clear q15
         try clear q2
         try clear q21
         try clear q27
         try clear q5
         obtain ⟨kq, x5_15, x7_15, x8_15, x9_15, rfl, rfl, rfl, rfl, HA, HJ15, ⟨mc15, rfl⟩⟩ := hcut
         cases kq with
         | zero => exact absurd HA.out (by simp [spec_cronTerm.j5])
         | succ kj15 =>
          have H := HA.out;clear HA;simp only [spec_cronTerm.j5] at H;have HC28 := Aside0.mk H;clear H
          go_upto_block 4 with (fail)
          repeat (go_quiet (fail); go_upto_block 4 with (fail))
          go_cut [5] (fun v5 wc => ∃ (kq : Nat) (x5_27 : Int), v5 = .int .i64 x5_27 ∧ Aside0 (spec_cronTerm.j7 kq a0 x4_1 x5_27 x6_1 x7_15 x8_15 x9_15 x5_15 = some (r1, r2, r3)) ∧ Aside0 (kq ≤ kj15) ∧ Drawn0 w wc)
          case first =>
           have H := HC28.out;clear HC28;have H' := Aside0.mk H;clear H
           go_wp2
           repeat (go_quiet (fail); try go_wp2)
           go_loopg [5] kj15 (fun kq v5 w' => ∃ (x5_5 : Int), v5 = .int .i64 x5_5 ∧ Aside0 (spec_cronTerm.l2 kq a0 x4_1 x5_5 x6_1 x7_15 x8_15 x9_15 x5_15 = some (r1, r2, r3)) ∧ Aside0 (kq ≤ kj15) ∧ Drawn0 w w')
           case atStart => exact ⟨(x5_15), (by first | rfl | (simp; done) | (simp [*]; done)), H', ⟨Nat.le_refl _⟩, by repeat (first | exact Drawn0.refl _ | apply Drawn0.step)⟩
           case round =>
            clear H'
            try clear c1
            try clear p1
            try clear q1
            try clear hx1
            try clear c2
            try clear p2
            try clear q2
            try clear hx2
            try clear c3
            try clear c3b0
            try clear c4
            try clear c4b0
            try clear p5
            try clear q5
            try clear hx5
            try clear p6
            try clear c7
            try clear c8
            try clear c8b0
            try clear c9
            try clear c9b0
            try clear c10
            try clear c10b0
            try clear c11
            try clear p11
            try clear q11
            try clear hx11
            try clear c13
            try clear c13b0
            try clear c14
            try clear c14b0
            try clear c15
            try clear p15
            try clear q15
            try clear hx15
            try clear c17
            try clear c19
            try clear c19b0
            try clear c20
            try clear c20b0
            try clear p21
            try clear q21
            try clear hx21
            try clear c23
            try clear c24
            try clear c24b0
            try clear c25
            try clear c25b0
            try clear c26
            try clear c26b0
            try clear p27
            try clear q27
            try clear hx27
            try clear p1
            try clear p11
            try clear p15
            try clear p2
            try clear p21
            try clear p27
            try clear p5
            try clear p6
            try clear q1
            try clear q11
            try clear q15
            try clear q2
            try clear q21
            try clear q27
            try clear q5
            obtain ⟨x5_5, rfl, HA, HK5, ⟨m5, rfl⟩⟩ := hrel
            cases gk with
            | zero => exact absurd HA.out (by simp [spec_cronTerm.l2])
            | succ k5 =>
             have H := HA.out;clear HA;simp only [spec_cronTerm.l2] at H
             by_cases c29 : x5_5 < (a0.size : Int)
             ·rw [if_pos c29] at H;have c29b0 : decide (x5_5 < (a0.size : Int)) = true := decide_eq_true c29;clear c29
              (first | rw [c29b0] | (simp only [i64_w, i32_w]; rw [c29b0]) | skip)
              by_cases c30 : 0 ≤ x5_5
              ·rw [if_pos c30] at H;have c30b0 : decide (0 ≤ x5_5) = true := decide_eq_true c30;clear c30;replace H := Option.bind_eq_some_iff.mp H;obtain ⟨t112, A320, H⟩ := H;replace H : (if t112 = true then (spec_cronTerm.j7 k5 a0 x4_1 x5_5 x6_1 x7_15 x8_15 x9_15 x5_15) else (if (bt a0 x5_5) = 46 then (spec_cronTerm.j7 k5 a0 x4_1 x5_5 x6_1 x7_15 x8_15 x9_15 x5_15) else (spec_cronTerm.l2 k5 a0 x4_1 (wrap64 (x5_5 + 1)) x6_1 x7_15 x8_15 x9_15 x5_15))) = some (r1, r2, r3) := H;have A32 := Aside0.mk A320;clear A320
               by_cases c33 : t112 = true
               ·subst c33;have H1 : (spec_cronTerm.j7 k5 a0 x4_1 x5_5 x6_1 x7_15 x8_15 x9_15 x5_15) = some (r1, r2, r3) := by rw [if_pos rfl] at H; exact H
                clear H;have H := H1;clear H1;have H' := Aside0.mk H;clear H;have p31 : 0 ≤ (x5_5 : Int) := of_decide_eq_true (by first | (with_reducible assumption) | assumption);have q31 : x5_5 < (a0.size : Int) := of_decide_eq_true (by first | (with_reducible assumption) | assumption);have hx31 := bt_at a0 x5_5;replace p31 := eq_true p31;replace q31 := eq_true q31
                go_wp2_with (first | (go_at_call 193; (with_reducible refine (spec_isDigit.calls (bt a0 x5_5) true _ A32.out).mono ?_); rintro e w' ⟨rfl, ⟨nd, rfl⟩⟩; (try first | exact ⟨rfl, _, World.drewN_drewN _ _ _⟩ | exact ⟨rfl, _, Eq.trans (World.drewN_drewN _ _ _) (congrArg (World.drewN _) (Nat.add_assoc _ _ _))⟩)))
                repeat (go_quiet (first | (go_at_call 193; (with_reducible refine (spec_isDigit.calls (bt a0 x5_5) true _ A32.out).mono ?_); rintro e w' ⟨rfl, ⟨nd, rfl⟩⟩; (try first | exact ⟨rfl, _, World.drewN_drewN _ _ _⟩ | exact ⟨rfl, _, Eq.trans (World.drewN_drewN _ _ _) (congrArg (World.drewN _) (Nat.add_assoc _ _ _))⟩))); try go_wp2_with (first | (go_at_call 193; (with_reducible refine (spec_isDigit.calls (bt a0 x5_5) true _ A32.out).mono ?_); rintro e w' ⟨rfl, ⟨nd, rfl⟩⟩; (try first | exact ⟨rfl, _, World.drewN_drewN _ _ _⟩ | exact ⟨rfl, _, Eq.trans (World.drewN_drewN _ _ _) (congrArg (World.drewN _) (Nat.add_assoc _ _ _))⟩))))
                go_meet
                case rel => exact ⟨_, (x5_5), (by first | rfl | (simp; done) | (simp [*]; done)), H', ⟨by have := HK1.out; have := HJ1.out; have := HJ11.out; have := HJ15.out; have := HK5.out; first | omega | exact Nat.le_refl _⟩, by repeat (first | exact Drawn0.refl _ | apply Drawn0.step)⟩
               ·replace c33 := Bool.eq_false_iff.mpr c33;subst c33;have H1 : (if (bt a0 x5_5) = 46 then (spec_cronTerm.j7 k5 a0 x4_1 x5_5 x6_1 x7_15 x8_15 x9_15 x5_15) else (spec_cronTerm.l2 k5 a0 x4_1 (wrap64 (x5_5 + 1)) x6_1 x7_15 x8_15 x9_15 x5_15)) = some (r1, r2, r3) := by rw [if_neg (show ¬ (false = true) by decide)] at H; exact H
                clear H;have H := H1;clear H1
                by_cases c35 : (bt a0 x5_5) = 46
                ·rw [if_pos c35] at H;have c35b0 : ((bt a0 x5_5) == 46) = true := beq_iff_eq.mpr c35;have c35b1 : ((bt a0 x5_5) != 46) = false := bne_eq_false_iff_eq.mpr c35;clear c35;have H' := Aside0.mk H;clear H;have p31 : 0 ≤ (x5_5 : Int) := of_decide_eq_true (by first | (with_reducible assumption) | assumption);have q31 : x5_5 < (a0.size : Int) := of_decide_eq_true (by first | (with_reducible assumption) | assumption);have hx31 := bt_at a0 x5_5;replace p31 := eq_true p31;replace q31 := eq_true q31
                 go_wp2_with (first | (go_at_call 193; (with_reducible refine (spec_isDigit.calls (bt a0 x5_5) false _ A32.out).mono ?_); rintro e w' ⟨rfl, ⟨nd, rfl⟩⟩; (try first | exact ⟨rfl, _, World.drewN_drewN _ _ _⟩ | exact ⟨rfl, _, Eq.trans (World.drewN_drewN _ _ _) (congrArg (World.drewN _) (Nat.add_assoc _ _ _))⟩); have p34 : 0 ≤ (x5_5 : Int) := of_decide_eq_true (by first | (with_reducible assumption) | assumption); have q34 : x5_5 < (a0.size : Int) := of_decide_eq_true (by first | (with_reducible assumption) | assumption); have hx34 := bt_at a0 x5_5; replace p34 := eq_true p34; replace q34 := eq_true q34))
                 repeat (go_quiet (first | (go_at_call 193; (with_reducible refine (spec_isDigit.calls (bt a0 x5_5) false _ A32.out).mono ?_); rintro e w' ⟨rfl, ⟨nd, rfl⟩⟩; (try first | exact ⟨rfl, _, World.drewN_drewN _ _ _⟩ | exact ⟨rfl, _, Eq.trans (World.drewN_drewN _ _ _) (congrArg (World.drewN _) (Nat.add_assoc _ _ _))⟩); have p34 : 0 ≤ (x5_5 : Int) := of_decide_eq_true (by first | (with_reducible assumption) | assumption); have q34 : x5_5 < (a0.size : Int) := of_decide_eq_true (by first | (with_reducible assumption) | assumption); have hx34 := bt_at a0 x5_5; replace p34 := eq_true p34; replace q34 := eq_true q34)); try go_wp2_with (first | (go_at_call 193; (with_reducible refine (spec_isDigit.calls (bt a0 x5_5) false _ A32.out).mono ?_); rintro e w' ⟨rfl, ⟨nd, rfl⟩⟩; (try first | exact ⟨rfl, _, World.drewN_drewN _ _ _⟩ | exact ⟨rfl, _, Eq.trans (World.drewN_drewN _ _ _) (congrArg (World.drewN _) (Nat.add_assoc _ _ _))⟩); have p34 : 0 ≤ (x5_5 : Int) := of_decide_eq_true (by first | (with_reducible assumption) | assumption); have q34 : x5_5 < (a0.size : Int) := of_decide_eq_true (by first | (with_reducible assumption) | assumption); have hx34 := bt_at a0 x5_5; replace p34 := eq_true p34; replace q34 := eq_true q34)))
                 go_meet
                 case rel => exact ⟨_, (x5_5), (by first | rfl | (simp; done) | (simp [*]; done)), H', ⟨by have := HK1.out; have := HJ1.out; have := HJ11.out; have := HJ15.out; have := HK5.out; first | omega | exact Nat.le_refl _⟩, by repeat (first | exact Drawn0.refl _ | apply Drawn0.step)⟩
                ·rw [if_neg c35] at H;have c35b0 : ((bt a0 x5_5) == 46) = false := beq_eq_false_iff_ne.mpr c35;have c35b1 : ((bt a0 x5_5) != 46) = true := bne_iff_ne.mpr c35;have H' := Aside0.mk H;clear H;have p31 : 0 ≤ (x5_5 : Int) := of_decide_eq_true (by first | (with_reducible assumption) | assumption);have q31 : x5_5 < (a0.size : Int) := of_decide_eq_true (by first | (with_reducible assumption) | assumption);have hx31 := bt_at a0 x5_5;replace p31 := eq_true p31;replace q31 := eq_true q31
                 go_wp2_with (first | (go_at_call 193; (with_reducible refine (spec_isDigit.calls (bt a0 x5_5) false _ A32.out).mono ?_); rintro e w' ⟨rfl, ⟨nd, rfl⟩⟩; (try first | exact ⟨rfl, _, World.drewN_drewN _ _ _⟩ | exact ⟨rfl, _, Eq.trans (World.drewN_drewN _ _ _) (congrArg (World.drewN _) (Nat.add_assoc _ _ _))⟩); have p34 : 0 ≤ (x5_5 : Int) := of_decide_eq_true (by first | (with_reducible assumption) | assumption); have q34 : x5_5 < (a0.size : Int) := of_decide_eq_true (by first | (with_reducible assumption) | assumption); have hx34 := bt_at a0 x5_5; replace p34 := eq_true p34; replace q34 := eq_true q34))
                 repeat (go_quiet (first | (go_at_call 193; (with_reducible refine (spec_isDigit.calls (bt a0 x5_5) false _ A32.out).mono ?_); rintro e w' ⟨rfl, ⟨nd, rfl⟩⟩; (try first | exact ⟨rfl, _, World.drewN_drewN _ _ _⟩ | exact ⟨rfl, _, Eq.trans (World.drewN_drewN _ _ _) (congrArg (World.drewN _) (Nat.add_assoc _ _ _))⟩); have p34 : 0 ≤ (x5_5 : Int) := of_decide_eq_true (by first | (with_reducible assumption) | assumption); have q34 : x5_5 < (a0.size : Int) := of_decide_eq_true (by first | (with_reducible assumption) | assumption); have hx34 := bt_at a0 x5_5; replace p34 := eq_true p34; replace q34 := eq_true q34)); try go_wp2_with (first | (go_at_call 193; (with_reducible refine (spec_isDigit.calls (bt a0 x5_5) false _ A32.out).mono ?_); rintro e w' ⟨rfl, ⟨nd, rfl⟩⟩; (try first | exact ⟨rfl, _, World.drewN_drewN _ _ _⟩ | exact ⟨rfl, _, Eq.trans (World.drewN_drewN _ _ _) (congrArg (World.drewN _) (Nat.add_assoc _ _ _))⟩); have p34 : 0 ≤ (x5_5 : Int) := of_decide_eq_true (by first | (with_reducible assumption) | assumption); have q34 : x5_5 < (a0.size : Int) := of_decide_eq_true (by first | (with_reducible assumption) | assumption); have hx34 := bt_at a0 x5_5; replace p34 := eq_true p34; replace q34 := eq_true q34)))
                 go_roundg k5
                 case measure => have := HK1.out; have := HJ1.out; have := HJ11.out; have := HJ15.out; have := HK5.out; omega
                 case rel => exact ⟨(wrap64 (x5_5 + 1)), (by first | rfl | (simp; done) | (simp [*]; done)), H', ⟨by have := HK1.out; have := HJ1.out; have := HJ11.out; have := HJ15.out; have := HK5.out; omega⟩, by repeat (first | exact Drawn0.refl _ | apply Drawn0.step)⟩
              ·rw [if_neg c30] at H;exact absurd H (by simp)
             ·rw [if_neg c29] at H;have c29b0 : decide (x5_5 < (a0.size : Int)) = false := decide_eq_false c29;clear c29
              (first | rw [c29b0] | (simp only [i64_w, i32_w]; rw [c29b0]) | skip)
              have H' := Aside0.mk H;clear H
              go_wp2
              repeat (go_quiet (fail); try go_wp2)
              go_meet
              case rel => exact ⟨_, (x5_5), (by first | rfl | (simp; done) | (simp [*]; done)), H', ⟨by have := HK1.out; have := HJ1.out; have := HJ11.out; have := HJ15.out; have := HK5.out; first | omega | exact Nat.le_refl _⟩, by repeat (first | exact Drawn0.refl _ | apply Drawn0.step)⟩
          case rest =>
           clear HC28
           try clear c1
           try clear p1
           try clear q1
           try clear hx1
           try clear c2
           try clear p2
           try clear q2
           try clear hx2
           try clear c3
           try clear c3b0
           try clear p3
           try clear q3
           try clear hx3
           try clear c4
           try clear c4b0
           try clear p5
           try clear q5
           try clear hx5
           try clear p6
           try clear c7
           try clear c8
           try clear c8b0
           try clear c9
           try clear c9b0
           try clear c10
           try clear c10b0
           try clear c11
           try clear p11
           try clear q11
           try clear hx11
           try clear c13
           try clear c13b0
           try clear c14
           try clear c14b0
           try clear c15
           try clear p15
           try clear q15
           try clear hx15
           try clear c17
           try clear c19
           try clear c19b0
           try clear c20
           try clear c20b0
           try clear p21
           try clear q21
           try clear hx21
           try clear c23
           try clear c24
           try clear c24b0
           try clear c25
           try clear c25b0
           try clear c26
           try clear c26b0
           try clear p27
           try clear q27
           try clear hx27
           try clear c29
           try clear c29b0
           try clear c30
           try clear c30b0
           try clear p31
           try clear q31
           try clear hx31
           try clear c33
           try clear p34
           try clear q34
           try clear hx34
           try clear c35
           try clear c35b0
           try clear c35b1
           try clear p1
           try clear p11
           try clear p15
           try clear p2
           try clear p21
           try clear p27
           try clear p31
           try clear p34
           try clear p5
           try clear p6
           try clear q1
           try clear q11
           try clear q15
           try clear q2
           try clear q21
           try clear q27
           try clear q31
           try clear q34
           try clear q5
           obtain ⟨kq, x5_27, rfl, HA, HJ27, ⟨mc27, rfl⟩⟩ := hcut
           cases kq with
           | zero => exact absurd HA.out (by simp [spec_cronTerm.j7])
           | succ kj27 =>
            have H := HA.out;clear HA;simp only [spec_cronTerm.j7] at H
            by_cases c36 : 0 ≤ x5_15
            ·rw [if_pos c36] at H;have c36b0 := eq_true c36;have c36b1 : decide (0 ≤ x5_15) = true := decide_eq_true c36;clear c36
             by_cases c37 : x5_15 ≤ x5_27
             ·rw [if_pos c37] at H;have c37b0 := eq_true c37;have c37b1 : decide (x5_15 ≤ x5_27) = true := decide_eq_true c37;clear c37
              by_cases c38 : x5_27 ≤ (a0.size : Int)
              ·rw [if_pos c38] at H;have c38b0 := eq_true c38;have c38b1 : decide (x5_27 ≤ (a0.size : Int)) = true := decide_eq_true c38;clear c38;replace H := Option.bind_eq_some_iff.mp H;obtain ⟨⟨t113, t114⟩, A390, H⟩ := H;replace H : (if x9_15 = 0 then (spec_cronTerm.j8 kj27 a0 x4_1 x5_27 x6_1 x7_15 x8_15 x5_15 t113 t114 true) else (spec_cronTerm.j8 kj27 a0 x4_1 x5_27 x6_1 x7_15 x8_15 x5_15 t113 t114 (t113 == 0))) = some (r1, r2, r3) := H;have A39 := Aside0.mk A390;clear A390;have HC40 := Aside0.mk H;clear H
               go_upto_region 21 with (first | (go_at_call 219; (with_reducible refine (spec_cronUnit.calls kj27 (a0.extract (x5_15 : Int).toNat (x5_27 : Int).toNat) t113 t114 _ A39.out).mono ?_); rintro e w' ⟨rfl, ⟨nd, rfl⟩⟩; (try first | exact ⟨rfl, _, World.drewN_drewN _ _ _⟩ | exact ⟨rfl, _, Eq.trans (World.drewN_drewN _ _ _) (congrArg (World.drewN _) (Nat.add_assoc _ _ _))⟩)))
               repeat (go_quiet (first | (go_at_call 219; (with_reducible refine (spec_cronUnit.calls kj27 (a0.extract (x5_15 : Int).toNat (x5_27 : Int).toNat) t113 t114 _ A39.out).mono ?_); rintro e w' ⟨rfl, ⟨nd, rfl⟩⟩; (try first | exact ⟨rfl, _, World.drewN_drewN _ _ _⟩ | exact ⟨rfl, _, Eq.trans (World.drewN_drewN _ _ _) (congrArg (World.drewN _) (Nat.add_assoc _ _ _))⟩))); go_upto_region 21 with (first | (go_at_call 219; (with_reducible refine (spec_cronUnit.calls kj27 (a0.extract (x5_15 : Int).toNat (x5_27 : Int).toNat) t113 t114 _ A39.out).mono ?_); rintro e w' ⟨rfl, ⟨nd, rfl⟩⟩; (try first | exact ⟨rfl, _, World.drewN_drewN _ _ _⟩ | exact ⟨rfl, _, Eq.trans (World.drewN_drewN _ _ _) (congrArg (World.drewN _) (Nat.add_assoc _ _ _))⟩))))
               (try simp only [Act.put, List.setIfInBounds_toArray, List.set_cons_zero, List.set_cons_succ])
               go_cut [110] (fun v110 wc => ∃ (kq : Nat) (x110_39 : Bool), v110 = .bool x110_39 ∧ Aside0 (spec_cronTerm.j8 kq a0 x4_1 x5_27 x6_1 x7_15 x8_15 x5_15 t113 t114 x110_39 = some (r1, r2, r3)) ∧ Aside0 (kq ≤ kj27) ∧ Drawn0 w wc)
               case first =>
                have H := HC40.out;clear HC40
                by_cases c41 : x9_15 = 0
                ·rw [if_pos c41] at H;have c41b0 : (x9_15 == 0) = true := beq_iff_eq.mpr c41;have c41b1 : (x9_15 != 0) = false := bne_eq_false_iff_eq.mpr c41;clear c41
                 (first | rw [c41b0] | (simp only [i64_w, i32_w]; rw [c41b0]) | skip)
                 have H' := Aside0.mk H;clear H
                 go_wp2
                 repeat (go_quiet (fail); try go_wp2)
                 go_meet
                 case rel => exact ⟨_, (true), (by first | rfl | (simp; done) | (simp [*]; done)), H', ⟨by have := HK1.out; have := HJ1.out; have := HJ11.out; have := HJ15.out; have := HJ27.out; first | omega | exact Nat.le_refl _⟩, by repeat (first | exact Drawn0.refl _ | apply Drawn0.step)⟩
                ·rw [if_neg c41] at H;have c41b0 : (x9_15 == 0) = false := beq_eq_false_iff_ne.mpr c41;have c41b1 : (x9_15 != 0) = true := bne_iff_ne.mpr c41
                 (first | rw [c41b0] | (simp only [i64_w, i32_w]; rw [c41b0]) | skip)
                 have H' := Aside0.mk H;clear H
                 go_wp2
                 repeat (go_quiet (fail); try go_wp2)
                 go_meet
                 case rel => exact ⟨_, ((t113 == 0)), (by first | rfl | (simp; done) | (simp [*]; done)), H', ⟨by have := HK1.out; have := HJ1.out; have := HJ11.out; have := HJ15.out; have := HJ27.out; first | omega | exact Nat.le_refl _⟩, by repeat (first | exact Drawn0.refl _ | apply Drawn0.step)⟩
               case rest =>
                clear HC40
                try clear c1
                try clear p1
                try clear q1
                try clear hx1
                try clear c2
                try clear p2
                try clear q2
                try clear hx2
                try clear c3
                try clear c3b0
                try clear p3
                try clear q3
                try clear hx3
                try clear c4
                try clear c4b0
                try clear p5
                try clear q5
                try clear hx5
                try clear p6
                try clear c7
                try clear c8
                try clear c8b0
                try clear c9
                try clear c9b0
                try clear c10
                try clear c10b0
                try clear c11
                try clear p11
                try clear q11
                try clear hx11
                try clear c13
                try clear c13b0
                try clear c14
                try clear c14b0
                try clear c15
                try clear p15
                try clear q15
                try clear hx15
                try clear c17
                try clear c19
                try clear c19b0
                try clear c20
                try clear c20b0
                try clear p21
                try clear q21
                try clear hx21
                try clear c23
                try clear c24
                try clear c24b0
                try clear c25
                try clear c25b0
                try clear c26
                try clear c26b0
                try clear c27
                try clear p27
                try clear q27
                try clear hx27
                try clear c29
                try clear c29b0
                try clear c30
                try clear c30b0
                try clear p31
                try clear q31
                try clear hx31
                try clear c33
                try clear p34
                try clear q34
                try clear hx34
                try clear c35
                try clear c35b0
                try clear c35b1
                try clear c36
                try clear c36b0
                try clear c36b1
                try clear c37
                try clear c37b0
                try clear c37b1
                try clear c38
                try clear c38b0
                try clear c38b1
                try clear c41
                try clear c41b0
                try clear c41b1
                try clear p1
                try clear p11
                try clear p15
                try clear p2
                try clear p21
                try clear p27
                try clear p3
                try clear p31
                try clear p34
                try clear p5
                try clear p6
                try clear q1
                try clear q11
                try clear q15
                try clear q2
                try clear q21
                try clear q27
                try clear q3
                try clear q31
                try clear q34
                try clear q5
                obtain ⟨kq, x110_39, rfl, HA, HJ39, ⟨mc39, rfl⟩⟩ := hcut
                cases kq with
                | zero => exact absurd HA.out (by simp [spec_cronTerm.j8])
                | succ kj39 =>
                 have H := HA.out;clear HA;simp only [spec_cronTerm.j8] at H
                 by_cases c42 : x110_39 = true
                 ·subst c42;have H1 : (some (0, (⟨#[]⟩ : ByteArray), 0)) = some (r1, r2, r3) := by rw [if_pos rfl] at H; exact H
                  clear H;have H := H1;clear H1;simp only [Option.some.injEq, Prod.mk.injEq] at H;obtain ⟨rfl, rfl, rfl⟩ := H
                  go_wp2
                  repeat (go_quiet (fail); try go_wp2)
                  go_ret3
                  exact ⟨by first | rfl | (simp; done) | (simp [*]; done), by repeat (first | exact Drawn0.refl _ | apply Drawn0.step)⟩
                 ·replace c42 := Bool.eq_false_iff.mpr c42;subst c42;have H1 : (if x8_15 > t114 then (spec_cronTerm.j9 kj39 a0 x4_1 x5_27 x6_1 x7_15 x8_15 x5_15 t113 true) else (if t113 = 0 then (none) else (spec_cronTerm.j9 kj39 a0 x4_1 x5_27 x6_1 x7_15 x8_15 x5_15 t113 (decide (x6_1 > (wrap64 ((wrap64 ((4611686018427387904 : Int) / t113)) - 1))))))) = some (r1, r2, r3) := by rw [if_neg (show ¬ (false = true) by decide)] at H; exact H
                  clear H;have H := H1;clear H1;have HC43 := Aside0.mk H;clear H
                  go_upto_region 23 with (fail)
                  repeat (go_quiet (fail); go_upto_region 23 with (fail))
                  go_cut [120] (fun v120 wc => ∃ (kq : Nat) (x120_42 : Bool), v120 = .bool x120_42 ∧ Aside0 (spec_cronTerm.j9 kq a0 x4_1 x5_27 x6_1 x7_15 x8_15 x5_15 t113 x120_42 = some (r1, r2, r3)) ∧ Aside0 (kq ≤ kj39) ∧ Drawn0 w wc)
                  case first =>
                   have H := HC43.out;clear HC43
                   by_cases c44 : x8_15 > t114
                   ·rw [if_pos c44] at H;have c44b0 : decide (t114 < x8_15) = true := decide_eq_true c44;clear c44
                    (first | rw [c44b0] | (simp only [i64_w, i32_w]; rw [c44b0]) | skip)
                    have H' := Aside0.mk H;clear H
                    go_wp2
                    repeat (go_quiet (fail); try go_wp2)
                    go_meet
                    case rel => exact ⟨_, (true), (by first | rfl | (simp; done) | (simp [*]; done)), H', ⟨by have := HK1.out; have := HJ1.out; have := HJ11.out; have := HJ15.out; have := HJ27.out; have := HJ39.out; first | omega | exact Nat.le_refl _⟩, by repeat (first | exact Drawn0.refl _ | apply Drawn0.step)⟩
                   ·rw [if_neg c44] at H;have c44b0 : decide (t114 < x8_15) = false := decide_eq_false c44;clear c44
                    (first | rw [c44b0] | (simp only [i64_w, i32_w]; rw [c44b0]) | skip)
                    by_cases c45 : t113 = 0
                    ·rw [if_pos c45] at H;exact absurd H (by simp)
                    ·rw [if_neg c45] at H;have c45b0 : (t113 == 0) = false := beq_eq_false_iff_ne.mpr c45;have c45b1 : (t113 != 0) = true := bne_iff_ne.mpr c45;have H' := Aside0.mk H;clear H
                     go_wp2
                     repeat (go_quiet (fail); try go_wp2)
                     go_meet
                     case rel => exact ⟨_, (decide (x6_1 > (wrap64 ((wrap64 ((4611686018427387904 : Int) / t113)) - 1)))), (by first | rfl | (simp [Int.tdiv_eq_ediv_of_nonneg (show (0 : Int) ≤ 4611686018427387904 by decide)]; done) | (simp; done) | (simp [*]; done)), H', ⟨by have := HK1.out; have := HJ1.out; have := HJ11.out; have := HJ15.out; have := HJ27.out; have := HJ39.out; first | omega | exact Nat.le_refl _⟩, by repeat (first | exact Drawn0.refl _ | apply Drawn0.step)⟩
                  case rest =>
                   clear HC43
                   try clear c1
                   try clear p1
                   try clear q1
                   try clear hx1
                   try clear c2
                   try clear p2
                   try clear q2
                   try clear hx2
                   try clear c3
                   try clear c3b0
                   try clear p3
                   try clear q3
                   try clear hx3
                   try clear c4
                   try clear c4b0
                   try clear p5
                   try clear q5
                   try clear hx5
                   try clear p6
                   try clear c7
                   try clear c8
                   try clear c8b0
                   try clear c9
                   try clear c9b0
                   try clear c10
                   try clear c10b0
                   try clear c11
                   try clear p11
                   try clear q11
                   try clear hx11
                   try clear c13
                   try clear c13b0
                   try clear c14
                   try clear c14b0
                   try clear c15
                   try clear p15
                   try clear q15
                   try clear hx15
                   try clear c17
                   try clear c19
                   try clear c19b0
                   try clear c20
                   try clear c20b0
                   try clear p21
                   try clear q21
                   try clear hx21
                   try clear c23
                   try clear c24
                   try clear c24b0
                   try clear c25
                   try clear c25b0
                   try clear c26
                   try clear c26b0
                   try clear c27
                   try clear p27
                   try clear q27
                   try clear hx27
                   try clear c29
                   try clear c29b0
                   try clear c30
                   try clear c30b0
                   try clear p31
                   try clear q31
                   try clear hx31
                   try clear c33
                   try clear p34
                   try clear q34
                   try clear hx34
                   try clear c35
                   try clear c35b0
                   try clear c35b1
                   try clear c36
                   try clear c36b0
                   try clear c36b1
                   try clear c37
                   try clear c37b0
                   try clear c37b1
                   try clear c38
                   try clear c38b0
                   try clear c38b1
                   try clear c39
                   try clear c41
                   try clear c41b0
                   try clear c41b1
                   try clear c42
                   try clear c44
                   try clear c44b0
                   try clear c45
                   try clear c45b0
                   try clear c45b1
                   try clear p1
                   try clear p11
                   try clear p15
                   try clear p2
                   try clear p21
                   try clear p27
                   try clear p3
                   try clear p31
                   try clear p34
                   try clear p5
                   try clear p6
                   try clear q1
                   try clear q11
                   try clear q15
                   try clear q2
                   try clear q21
                   try clear q27
                   try clear q3
                   try clear q31
                   try clear q34
                   try clear q5
                   obtain ⟨kq, x120_42, rfl, HA, HJ42, ⟨mc42, rfl⟩⟩ := hcut
                   cases kq with
                   | zero => exact absurd HA.out (by simp [spec_cronTerm.j9])
                   | succ kj42 =>
                    have H := HA.out;clear HA;simp only [spec_cronTerm.j9] at H
                    by_cases c46 : x120_42 = true
                    ·subst c46;have H1 : (if 0 ≤ x5_27 then (if x5_27 ≤ (a0.size : Int) then (some (0, a0.extract (x5_27 : Int).toNat a0.size, 2)) else (none)) else (none)) = some (r1, r2, r3) := by rw [if_pos rfl] at H; exact H
                     clear H;have H := H1;clear H1
                     by_cases c47 : 0 ≤ x5_27
                     ·rw [if_pos c47] at H;have c47b0 := eq_true c47;have c47b1 : decide (0 ≤ x5_27) = true := decide_eq_true c47;clear c47
                      by_cases c48 : x5_27 ≤ (a0.size : Int)
                      ·rw [if_pos c48] at H;have c48b0 := eq_true c48;have c48b1 : decide (x5_27 ≤ (a0.size : Int)) = true := decide_eq_true c48;clear c48;simp only [Option.some.injEq, Prod.mk.injEq] at H;obtain ⟨rfl, rfl, rfl⟩ := H
                       go_wp2
                       repeat (go_quiet (fail); try go_wp2)
                       go_ret3
                       exact ⟨by first | rfl | (simp; done) | (simp [*]; done), by repeat (first | exact Drawn0.refl _ | apply Drawn0.step)⟩
                      ·rw [if_neg c48] at H;exact absurd H (by simp)
                     ·rw [if_neg c47] at H;exact absurd H (by simp)
                    ·replace c46 := Bool.eq_false_iff.mpr c46;subst c46;have H1 : (spec_cronTerm.l3 kj42 a0 x4_1 x5_27 x6_1 x7_15 x5_15 t113 x8_15 0) = some (r1, r2, r3) := by rw [if_neg (show ¬ (false = true) by decide)] at H; exact H
                     clear H;have H := H1;clear H1;have H' := Aside0.mk H;clear H
                     go_wp2
                     repeat (go_quiet (fail); try go_wp2)
                     go_loopg [11, 125] kj42 (fun kq v11 v125 w' => ∃ (x11_8 : Int) (x125_8 : Int), v11 = .int .i64 x11_8 ∧ v125 = .int .i64 x125_8 ∧ Aside0 (spec_cronTerm.l3 kq a0 x4_1 x5_27 x6_1 x7_15 x5_15 x11_8 x8_15 x125_8 = some (r1, r2, r3)) ∧ Aside0 (kq ≤ kj42) ∧ Drawn0 w w')
                     case atStart => exact ⟨(t113), (0), (by first | rfl | (simp; done) | (simp [*]; done)), (by first | rfl | (simp; done) | (simp [*]; done)), H', ⟨Nat.le_refl _⟩, by repeat (first | exact Drawn0.refl _ | apply Drawn0.step)⟩
                     case round =>
                      clear H'
                      try clear c1
                      try clear p1
                      try clear q1
                      try clear hx1
                      try clear c2
                      try clear p2
                      try clear q2
                      try clear hx2
                      try clear c3
                      try clear c3b0
                      try clear p3
                      try clear q3
                      try clear hx3
                      try clear c4
                      try clear c4b0
                      try clear p5
                      try clear q5
                      try clear hx5
                      try clear p6
                      try clear c7
                      try clear c8
                      try clear c8b0
                      try clear c9
                      try clear c9b0
                      try clear c10
                      try clear c10b0
                      try clear c11
                      try clear p11
                      try clear q11
                      try clear hx11
                      try clear c13
                      try clear c13b0
                      try clear c14
                      try clear c14b0
                      try clear c15
                      try clear p15
                      try clear q15
                      try clear hx15
                      try clear c17
                      try clear c19
                      try clear c19b0
                      try clear c20
                      try clear c20b0
                      try clear p21
                      try clear q21
                      try clear hx21
                      try clear c23
                      try clear c24
                      try clear c24b0
                      try clear c25
                      try clear c25b0
                      try clear c26
                      try clear c26b0
                      try clear c27
                      try clear p27
                      try clear q27
                      try clear hx27
                      try clear c29
                      try clear c29b0
                      try clear c30
                      try clear c30b0
                      try clear p31
                      try clear q31
                      try clear hx31
                      try clear c33
                      try clear p34
                      try clear q34
                      try clear hx34
                      try clear c35
                      try clear c35b0
                      try clear c35b1
                      try clear c36
                      try clear c36b0
                      try clear c36b1
                      try clear c37
                      try clear c37b0
                      try clear c37b1
                      try clear c38
                      try clear c38b0
                      try clear c38b1
                      try clear c39
                      try clear c41
                      try clear c41b0
                      try clear c41b1
                      try clear c42
                      try clear c44
                      try clear c44b0
                      try clear c45
                      try clear c45b0
                      try clear c45b1
                      try clear c46
                      try clear c47
                      try clear c47b0
                      try clear c47b1
                      try clear c48
                      try clear c48b0
                      try clear c48b1
                      try clear p1
                      try clear p11
                      try clear p15
                      try clear p2
                      try clear p21
                      try clear p27
                      try clear p3
                      try clear p31
                      try clear p34
                      try clear p5
                      try clear p6
                      try clear q1
                      try clear q11
                      try clear q15
                      try clear q2
                      try clear q21
                      try clear q27
                      try clear q3
                      try clear q31
                      try clear q34
                      try clear q5
                      obtain ⟨x11_8, x125_8, rfl, rfl, HA, HK8, ⟨m8, rfl⟩⟩ := hrel
                      cases gk with
                      | zero => exact absurd HA.out (by simp [spec_cronTerm.l3])
                      | succ k8 =>
                       have H := HA.out;clear HA;simp only [spec_cronTerm.l3] at H
                       by_cases c49 : x125_8 < x8_15
                       ·rw [if_pos c49] at H;have c49b0 : decide (x125_8 < x8_15) = true := decide_eq_true c49;clear c49;have H' := Aside0.mk H;clear H
                        go_wp2
                        repeat (go_quiet (fail); try go_wp2)
                        go_roundg k8
                        case measure => have := HK1.out; have := HJ1.out; have := HJ11.out; have := HJ15.out; have := HJ27.out; have := HJ39.out; have := HJ42.out; have := HK8.out; omega
                        case rel => exact ⟨(wrap64 (Int.tdiv x11_8 10)), (wrap64 (x125_8 + 1)), (by first | rfl | (simp; done) | (simp [*]; done)), (by first | rfl | (simp; done) | (simp [*]; done)), H', ⟨by have := HK1.out; have := HJ1.out; have := HJ11.out; have := HJ15.out; have := HJ27.out; have := HJ39.out; have := HJ42.out; have := HK8.out; omega⟩, by repeat (first | exact Drawn0.refl _ | apply Drawn0.step)⟩
                       ·rw [if_neg c49] at H;have c49b0 : decide (x125_8 < x8_15) = false := decide_eq_false c49;clear c49
                        by_cases c50 : 0 ≤ x5_15
                        ·rw [if_pos c50] at H;have c50b0 := eq_true c50;have c50b1 : decide (0 ≤ x5_15) = true := decide_eq_true c50;clear c50
                         by_cases c51 : x5_15 ≤ x5_27
                         ·rw [if_pos c51] at H;have c51b0 := eq_true c51;have c51b1 : decide (x5_15 ≤ x5_27) = true := decide_eq_true c51;clear c51
                          by_cases c52 : x5_27 ≤ (a0.size : Int)
                          ·rw [if_pos c52] at H;have c52b0 := eq_true c52;have c52b1 : decide (x5_27 ≤ (a0.size : Int)) = true := decide_eq_true c52;clear c52;replace H := Option.bind_eq_some_iff.mp H;obtain ⟨⟨t115, t116⟩, A530, H⟩ := H;replace H : (if 0 ≤ x5_27 then (some (wrap64 ((wrap64 (x6_1 * t115)) + (wrap64 (x7_15 * x11_8))), a0.extract (x5_27 : Int).toNat a0.size, x4_1)) else (none)) = some (r1, r2, r3) := H;have A53 := Aside0.mk A530;clear A530
                           by_cases c54 : 0 ≤ x5_27
                           ·rw [if_pos c54] at H;have c54b0 := eq_true c54;have c54b1 : decide (0 ≤ x5_27) = true := decide_eq_true c54;clear c54;have c55b0 := eq_true (of_decide_eq_true (by first | (with_reducible assumption) | assumption) : x5_27 ≤ (a0.size : Int));simp only [Option.some.injEq, Prod.mk.injEq] at H;obtain ⟨rfl, rfl, rfl⟩ := H
                            go_wp2_with (first | (go_at_call 219; (with_reducible refine (spec_cronUnit.calls k8 (a0.extract (x5_15 : Int).toNat (x5_27 : Int).toNat) t115 t116 _ A53.out).mono ?_); rintro e w' ⟨rfl, ⟨nd, rfl⟩⟩; (try first | exact ⟨rfl, _, World.drewN_drewN _ _ _⟩ | exact ⟨rfl, _, Eq.trans (World.drewN_drewN _ _ _) (congrArg (World.drewN _) (Nat.add_assoc _ _ _))⟩)))
                            repeat (go_quiet (first | (go_at_call 219; (with_reducible refine (spec_cronUnit.calls k8 (a0.extract (x5_15 : Int).toNat (x5_27 : Int).toNat) t115 t116 _ A53.out).mono ?_); rintro e w' ⟨rfl, ⟨nd, rfl⟩⟩; (try first | exact ⟨rfl, _, World.drewN_drewN _ _ _⟩ | exact ⟨rfl, _, Eq.trans (World.drewN_drewN _ _ _) (congrArg (World.drewN _) (Nat.add_assoc _ _ _))⟩))); try go_wp2_with (first | (go_at_call 219; (with_reducible refine (spec_cronUnit.calls k8 (a0.extract (x5_15 : Int).toNat (x5_27 : Int).toNat) t115 t116 _ A53.out).mono ?_); rintro e w' ⟨rfl, ⟨nd, rfl⟩⟩; (try first | exact ⟨rfl, _, World.drewN_drewN _ _ _⟩ | exact ⟨rfl, _, Eq.trans (World.drewN_drewN _ _ _) (congrArg (World.drewN _) (Nat.add_assoc _ _ _))⟩))))
                            go_ret3
                            exact ⟨by first | rfl | (simp; done) | (simp [*]; done), by repeat (first | exact Drawn0.refl _ | apply Drawn0.step)⟩
                           ·rw [if_neg c54] at H;exact absurd H (by simp)
                          ·rw [if_neg c52] at H;exact absurd H (by simp)
                         ·rw [if_neg c51] at H;exact absurd H (by simp)
                        ·rw [if_neg c50] at H;exact absurd H (by simp)
              ·rw [if_neg c38] at H;exact absurd H (by simp)
             ·rw [if_neg c37] at H;exact absurd H (by simp)
            ·rw [if_neg c36] at H;exact absurd H (by simp)
end Go.Proofs.YtmecbmgfacpecaaGreatDoor.Pr
namespace Go.Proofs.YtmecbmgfacpecaaGreatDoor.Pr
open Go.RowKit Go.Proofs.YtmecbmgfacpecaaGreatDoorW.PrintWords Go.Proofs.YtmecbmgfacpecaaGreatDoorW.PrintLast Go.Proofs.YtmecbmgfacpecaaGreatDoorW.PrintMore
attribute [local go_sem] max2_int min2_int max_two min_two max_three min_three max_four min_four   -- for this text's walks alone
set_option linter.unusedVariables false
set_option linter.unusedSimpArgs false
mutual
def spec_CronDuration.j0 : Nat → ByteArray → Bool → Bool → Option (Int × Int)
 | 0, _, _, _ => none
 | k + 1, x0, x4, x21 => if x21 = true then (if 0 < (x0.size : Int) then (if 1 ≤ (x0.size : Int) then (spec_CronDuration.j1 k (x0.extract 1 x0.size) ((bt x0 0) == 45)) else (none)) else (none)) else (spec_CronDuration.j1 k x0 x4)
def spec_CronDuration.j1 : Nat → ByteArray → Bool → Option (Int × Int)
 | 0, _, _ => none
 | k + 1, x0, x4 => if x0.toList = ([48] : List UInt8) then (some (0, 1)) else (if x0.toList = ([] : List UInt8) then (some (0, 0)) else (spec_CronDuration.l0 k x0 x4 0 1))
def spec_CronDuration.l0 : Nat → ByteArray → Bool → Int → Int → Option (Int × Int)
 | 0, _, _, _, _ => none
 | k + 1, x0, x4, x5, x6 => if x0.toList = ([] : List UInt8) then (if x6 = 1 then (if x4 = true then (some (wrap64 (-x5), 1)) else (some (x5, 1))) else (some (0, x6))) else ((spec_cronTerm.f k x0).bind fun bt117 => ((spec_worse.f x6 bt117.2.2).bind fun t120 => (if t120 = 0 then (some (0, 0)) else (if x5 > (wrap64 (4611686018427387904 - bt117.1)) then (spec_CronDuration.l0 k bt117.2.1 x4 (wrap64 (x5 + 0)) 2) else (spec_CronDuration.l0 k bt117.2.1 x4 (wrap64 (x5 + bt117.1)) t120)))))
end
def spec_CronDuration.f (k : Nat) (a0 : ByteArray) : Option (Int × Int) := if a0.toList = ([] : List UInt8) then (spec_CronDuration.j0 k a0 false false) else (if 0 < (a0.size : Int) then (if (bt a0 0) = 45 then (spec_CronDuration.j0 k a0 false true) else (spec_CronDuration.j0 k a0 false ((bt a0 0) == 43))) else (none))
theorem spec_CronDuration.mono_l : ∀ k, (∀ y0 y1 y2, LeO (spec_CronDuration.j0 k y0 y1 y2) (spec_CronDuration.j0 (k + 1) y0 y1 y2)) ∧ (∀ y0 y1, LeO (spec_CronDuration.j1 k y0 y1) (spec_CronDuration.j1 (k + 1) y0 y1)) ∧ (∀ y0 y1 y2 y3, LeO (spec_CronDuration.l0 k y0 y1 y2 y3) (spec_CronDuration.l0 (k + 1) y0 y1 y2 y3))
 | 0 => ⟨fun _ _ _ r h => by simp [spec_CronDuration.j0] at h, fun _ _ r h => by simp [spec_CronDuration.j1] at h, fun _ _ _ _ r h => by simp [spec_CronDuration.l0] at h⟩
 | k + 1 => by
  obtain ⟨ih0, ih1, ih2⟩ := spec_CronDuration.mono_l k;refine ⟨?_, ?_, ?_⟩;intro y0 y1 y2;unfold spec_CronDuration.j0;rotate_left;intro y0 y1;unfold spec_CronDuration.j1;rotate_left;intro y0 y1 y2 y3;unfold spec_CronDuration.l0;rotate_left
  all_goals repeat' first
  | (with_reducible exact ih0 _ _ _)
  | (with_reducible exact ih1 _ _)
  | (with_reducible exact ih2 _ _ _ _)
  | (with_reducible exact spec_cronTerm.mono _ _)
  | (with_reducible exact LeO.refl _)
  | (with_reducible exact LeO.none _)
  | (with_reducible refine LeO.ite ?_ ?_)
  | (with_reducible refine LeO.bind ?_ (fun _ => ?_))
  | exact ih0 _ _ _
  | exact ih1 _ _
  | exact ih2 _ _ _ _
  | exact spec_cronTerm.mono _ _
  | exact LeO.none _
  | refine LeO.ite ?_ ?_
  | refine LeO.bind ?_ (fun _ => ?_)
theorem spec_CronDuration.mono : ∀ a0 k, LeO (spec_CronDuration.f k a0) (spec_CronDuration.f (k + 1) a0) := by
 intro a0 k;obtain ⟨ih0, ih1, ih2⟩ := spec_CronDuration.mono_l k;unfold spec_CronDuration.f
 repeat' first
  | (with_reducible exact ih0 _ _ _)
  | (with_reducible exact ih1 _ _)
  | (with_reducible exact ih2 _ _ _ _)
  | (with_reducible exact spec_cronTerm.mono _ _)
  | (with_reducible exact LeO.refl _)
  | (with_reducible exact LeO.none _)
  | (with_reducible refine LeO.ite ?_ ?_)
  | (with_reducible refine LeO.bind ?_ (fun _ => ?_))
  | exact ih0 _ _ _
  | exact ih1 _ _
  | exact ih2 _ _ _ _
  | exact spec_cronTerm.mono _ _
  | exact LeO.none _
  | refine LeO.ite ?_ ?_
  | refine LeO.bind ?_ (fun _ => ?_)
set_option maxHeartbeats 8000000 in
set_option maxRecDepth 100000 in
theorem spec_CronDuration.calls (k : Nat) (a0 : ByteArray) (r1 : Int) (r2 : Int) (w : World) (h : spec_CronDuration.f k a0 = some (r1, r2)) :
  Calls Tryz.prog 170 #[.string a0] w fun e w' => e = .returned (.tuple #[.int .i64 r1, .int .i64 r2]) ∧ Below w.heap.size w w' := by
 have HB := Aside0.mk (Below.refl w.heap.size w);have H : (if a0.toList = ([] : List UInt8) then (spec_CronDuration.j0 k a0 false false) else (if 0 < (a0.size : Int) then (if (bt a0 0) = 45 then (spec_CronDuration.j0 k a0 false true) else (spec_CronDuration.j0 k a0 false ((bt a0 0) == 43))) else (none))) = some (r1, r2) := h;clear h;have HC2 := Aside0.mk H;clear H
 go_enter Tryz.func170, Tryz.ntmps170
 go_upto_region 2 with (fail)
 repeat (go_quiet (fail); go_upto_region 2 with (fail))
 go_cut [21] (fun v21 wc => ∃ (kq : Nat) (x21_1 : Bool), v21 = .bool x21_1 ∧ Aside0 (spec_CronDuration.j0 kq a0 false x21_1 = some (r1, r2)) ∧ Aside0 (kq ≤ k) ∧ Aside0 (Below w.heap.size w wc))
 case first =>
  have H := HC2.out;clear HC2
  by_cases c3 : a0.toList = ([] : List UInt8)
  ·rw [if_pos c3] at H;have c3b0 : (a0.toList == ([] : List UInt8)) = true := beq_iff_eq.mpr c3;have c3b1 : (a0.toList != ([] : List UInt8)) = false := bne_eq_false_iff_eq.mpr c3;clear c3
   (first | rw [c3b0] | (simp only [i64_w, i32_w]; rw [c3b0]) | skip)
   have H' := Aside0.mk H;clear H
   go_wp2
   repeat (go_quiet (fail); try go_wp2)
   go_meet
   case rel => exact ⟨_, (false), (by first | rfl | (simp; done) | (simp [*]; done)), H', ⟨by first | omega | exact Nat.le_refl _⟩, ⟨by repeat (first | (with_reducible first | exact HB.out | apply below_alloc | apply pw_below_drewN | apply below_drew1) | exact HB.out)⟩⟩
  ·rw [if_neg c3] at H;have c3b0 : (a0.toList == ([] : List UInt8)) = false := beq_eq_false_iff_ne.mpr c3;have c3b1 : (a0.toList != ([] : List UInt8)) = true := bne_iff_ne.mpr c3
   (first | rw [c3b0] | (simp only [i64_w, i32_w]; rw [c3b0]) | skip)
   by_cases c4 : 0 < (a0.size : Int)
   ·rw [if_pos c4] at H;have c4b0 : decide (0 < (a0.size : Int)) = true := decide_eq_true c4;have c4b1 : decide (0 < a0.size) = true := decide_eq_true (by omega);clear c4
    by_cases c6 : (bt a0 0) = 45
    ·rw [if_pos c6] at H;have c6b0 : ((bt a0 0) == 45) = true := beq_iff_eq.mpr c6;have c6b1 : ((bt a0 0) != 45) = false := bne_eq_false_iff_eq.mpr c6;clear c6;have H' := Aside0.mk H;clear H;have p5 : 0 ≤ (0 : Int) := (by omega)
     have q5 : 0 < a0.size := (by have : (0 : Int) < (a0.size : Int) := of_decide_eq_true (by first | (with_reducible assumption) | assumption); omega)
     have hx5 : ∀ h : 0 < a0.size, ((a0[0]'h).toNat : Int) = bt a0 0 := bt_at a0 0;clear p5;have qi5 : (0 < (a0.size : Int)) = True := eq_true (of_decide_eq_true (by first | (with_reducible assumption) | assumption));replace q5 := eq_true q5
     go_wp2
     repeat (go_quiet (fail); try go_wp2)
     go_meet
     case rel => exact ⟨_, (true), (by first | rfl | (simp; done) | (simp [*]; done)), H', ⟨by first | omega | exact Nat.le_refl _⟩, ⟨by repeat (first | (with_reducible first | exact HB.out | apply below_alloc | apply pw_below_drewN | apply below_drew1) | exact HB.out)⟩⟩
    ·rw [if_neg c6] at H;have c6b0 : ((bt a0 0) == 45) = false := beq_eq_false_iff_ne.mpr c6;have c6b1 : ((bt a0 0) != 45) = true := bne_iff_ne.mpr c6;have H' := Aside0.mk H;clear H;have p5 : 0 ≤ (0 : Int) := (by omega)
     have q5 : 0 < a0.size := (by have : (0 : Int) < (a0.size : Int) := of_decide_eq_true (by first | (with_reducible assumption) | assumption); omega)
     have hx5 : ∀ h : 0 < a0.size, ((a0[0]'h).toNat : Int) = bt a0 0 := bt_at a0 0;clear p5;have qi5 : (0 < (a0.size : Int)) = True := eq_true (of_decide_eq_true (by first | (with_reducible assumption) | assumption));replace q5 := eq_true q5;have p7 : 0 ≤ (0 : Int) := (by omega)
     have q7 : 0 < a0.size := (by have : (0 : Int) < (a0.size : Int) := of_decide_eq_true (by first | (with_reducible assumption) | assumption); omega)
     have hx7 : ∀ h : 0 < a0.size, ((a0[0]'h).toNat : Int) = bt a0 0 := bt_at a0 0;clear p7;have qi7 : (0 < (a0.size : Int)) = True := eq_true (of_decide_eq_true (by first | (with_reducible assumption) | assumption));replace q7 := eq_true q7
     go_wp2
     repeat (go_quiet (fail); try go_wp2)
     go_meet
     case rel => exact ⟨_, (((bt a0 0) == 43)), (by first | rfl | (simp; done) | (simp [*]; done)), H', ⟨by first | omega | exact Nat.le_refl _⟩, ⟨by repeat (first | (with_reducible first | exact HB.out | apply below_alloc | apply pw_below_drewN | apply below_drew1) | exact HB.out)⟩⟩
   ·rw [if_neg c4] at H;exact absurd H (by simp)
 case rest =>
  clear HC2
  try clear c1
  try clear p2
  try clear c3
  try clear c3b0
  try clear c3b1
  try clear c4
  try clear c4b0
  try clear c4b1
  try clear p5
  try clear q5
  try clear hx5
  try clear qi5
  try clear c6
  try clear c6b0
  try clear c6b1
  try clear p7
  try clear q7
  try clear hx7
  try clear qi7
  try clear p5
  try clear p7
  try clear q5
  try clear q7
  obtain ⟨kq, x21_1, rfl, HA, HJ1, HB⟩ := hcut
  cases kq with
  | zero => exact absurd HA.out (by simp [spec_CronDuration.j0])
  | succ kj1 =>
   have H := HA.out;clear HA;simp only [spec_CronDuration.j0] at H;have HC8 := Aside0.mk H;clear H
   go_upto_if 21 with (fail)
   repeat (go_quiet (fail); go_upto_if 21 with (fail))
   go_cut [0, 4] (fun v0 v4 wc => ∃ (kq : Nat) (x0_7 : ByteArray) (x4_7 : Bool), v0 = .string x0_7 ∧ v4 = .bool x4_7 ∧ Aside0 (spec_CronDuration.j1 kq x0_7 x4_7 = some (r1, r2)) ∧ Aside0 (kq ≤ kj1) ∧ Aside0 (Below w.heap.size w wc))
   case first =>
    have H := HC8.out;clear HC8
    by_cases c9 : x21_1 = true
    ·subst c9;have H1 : (if 0 < (a0.size : Int) then (if 1 ≤ (a0.size : Int) then (spec_CronDuration.j1 kj1 (a0.extract 1 a0.size) ((bt a0 0) == 45)) else (none)) else (none)) = some (r1, r2) := by rw [if_pos rfl] at H; exact H
     clear H;have H := H1;clear H1
     by_cases c10 : 0 < (a0.size : Int)
     ·rw [if_pos c10] at H;have c10b0 : decide (0 < (a0.size : Int)) = true := decide_eq_true c10;have c10b1 : decide (0 < a0.size) = true := decide_eq_true (by omega);clear c10
      (first | rw [c10b0] | (simp only [i64_w, i32_w]; rw [c10b0]) | skip)
      by_cases c12 : 1 ≤ (a0.size : Int)
      ·rw [if_pos c12] at H;have c12b0 := eq_true c12;have c12b1 : decide (1 ≤ (a0.size : Int)) = true := decide_eq_true c12;clear c12;have H' := Aside0.mk H;clear H;have p11 : 0 ≤ (0 : Int) := (by omega)
       have q11 : 0 < a0.size := (by have : (0 : Int) < (a0.size : Int) := of_decide_eq_true (by first | (with_reducible assumption) | assumption); omega)
       have hx11 : ∀ h : 0 < a0.size, ((a0[0]'h).toNat : Int) = bt a0 0 := bt_at a0 0;clear p11;have qi11 : (0 < (a0.size : Int)) = True := eq_true (of_decide_eq_true (by first | (with_reducible assumption) | assumption));replace q11 := eq_true q11
       go_wp2
       repeat (go_quiet (fail); try go_wp2)
       go_meet
       case rel => exact ⟨_, (a0.extract 1 a0.size), (((bt a0 0) == 45)), (by first | rfl | (simp; done) | (simp [*]; done)), (by first | rfl | (simp; done) | (simp [*]; done)), H', ⟨by have := HJ1.out; first | omega | exact Nat.le_refl _⟩, ⟨by repeat (first | (with_reducible first | exact HB.out | apply below_alloc | apply pw_below_drewN | apply below_drew1) | exact HB.out)⟩⟩
      ·rw [if_neg c12] at H;exact absurd H (by simp)
     ·rw [if_neg c10] at H;exact absurd H (by simp)
    ·replace c9 := Bool.eq_false_iff.mpr c9;subst c9;have H1 : (spec_CronDuration.j1 kj1 a0 false) = some (r1, r2) := by rw [if_neg (show ¬ (false = true) by decide)] at H; exact H
     clear H;have H := H1;clear H1;have H' := Aside0.mk H;clear H
     go_wp2
     repeat (go_quiet (fail); try go_wp2)
     go_meet
     case rel => exact ⟨_, (a0), (false), (by first | rfl | (simp; done) | (simp [*]; done)), (by first | rfl | (simp; done) | (simp [*]; done)), H', ⟨by have := HJ1.out; first | omega | exact Nat.le_refl _⟩, ⟨by repeat (first | (with_reducible first | exact HB.out | apply below_alloc | apply pw_below_drewN | apply below_drew1) | exact HB.out)⟩⟩
   case rest =>
    clear HC8
    try clear c1
    try clear p1
    try clear q1
    try clear hx1
    try clear qi1
    try clear p2
    try clear c3
    try clear c3b0
    try clear c3b1
    try clear c4
    try clear c4b0
    try clear c4b1
    try clear p5
    try clear q5
    try clear hx5
    try clear qi5
    try clear c6
    try clear c6b0
    try clear c6b1
    try clear p7
    try clear q7
    try clear hx7
    try clear qi7
    try clear c9
    try clear c10
    try clear c10b0
    try clear c10b1
    try clear p11
    try clear q11
    try clear hx11
    try clear qi11
    try clear c12
    try clear c12b0
    try clear c12b1
    try clear p11
    try clear p2
    try clear p5
    try clear p7
    try clear q11
    try clear q5
    try clear q7
    obtain ⟨kq, x0_7, x4_7, rfl, rfl, HA, HJ7, HB⟩ := hcut
    cases kq with
    | zero => exact absurd HA.out (by simp [spec_CronDuration.j1])
    | succ kj7 =>
     have H := HA.out;clear HA;simp only [spec_CronDuration.j1] at H
     by_cases c13 : x0_7.toList = ([48] : List UInt8)
     ·rw [if_pos c13] at H;have c13b0 : (x0_7.toList == ([48] : List UInt8)) = true := beq_iff_eq.mpr c13;have c13b1 : (x0_7.toList != ([48] : List UInt8)) = false := bne_eq_false_iff_eq.mpr c13;clear c13;simp only [Option.some.injEq, Prod.mk.injEq] at H;obtain ⟨rfl, rfl⟩ := H
      go_wp2
      repeat (go_quiet (fail); try go_wp2)
      go_ret2
      exact ⟨by first | rfl | (simp [errW_none, errW_some] <;> rfl) | (simp [*, errW_none, errW_some] <;> rfl), by repeat (first | (with_reducible first | exact HB.out | apply below_alloc | apply pw_below_drewN | apply below_drew1) | exact HB.out)⟩
     ·rw [if_neg c13] at H;have c13b0 : (x0_7.toList == ([48] : List UInt8)) = false := beq_eq_false_iff_ne.mpr c13;have c13b1 : (x0_7.toList != ([48] : List UInt8)) = true := bne_iff_ne.mpr c13
      by_cases c14 : x0_7.toList = ([] : List UInt8)
      ·rw [if_pos c14] at H;have c14b0 : (x0_7.toList == ([] : List UInt8)) = true := beq_iff_eq.mpr c14;have c14b1 : (x0_7.toList != ([] : List UInt8)) = false := bne_eq_false_iff_eq.mpr c14;clear c14;simp only [Option.some.injEq, Prod.mk.injEq] at H;obtain ⟨rfl, rfl⟩ := H
       go_wp2
       repeat (go_quiet (fail); try go_wp2)
       go_ret2
       exact ⟨by first | rfl | (simp [errW_none, errW_some] <;> rfl) | (simp [*, errW_none, errW_some] <;> rfl), by repeat (first | (with_reducible first | exact HB.out | apply below_alloc | apply pw_below_drewN | apply below_drew1) | exact HB.out)⟩
      ·rw [if_neg c14] at H;have c14b0 : (x0_7.toList == ([] : List UInt8)) = false := beq_eq_false_iff_ne.mpr c14;have c14b1 : (x0_7.toList != ([] : List UInt8)) = true := bne_iff_ne.mpr c14;have H' := Aside0.mk H;clear H
       go_wp2
       repeat (go_quiet (fail); try go_wp2)
       go_loopg [0, 5, 6] kj7 (fun kq v0 v5 v6 w' => ∃ (x0_3 : ByteArray) (x5_3 : Int) (x6_3 : Int), v0 = .string x0_3 ∧ v5 = .int .i64 x5_3 ∧ v6 = .int .i64 x6_3 ∧ Aside0 (spec_CronDuration.l0 kq x0_3 x4_7 x5_3 x6_3 = some (r1, r2)) ∧ Aside0 (kq ≤ kj7) ∧ Aside0 (Below w.heap.size w w'))
       case atStart => exact ⟨(x0_7), (0), (1), (by first | rfl | (simp; done) | (simp [*]; done)), (by first | rfl | (simp; done) | (simp [*]; done)), (by first | rfl | (simp; done) | (simp [*]; done)), H', ⟨Nat.le_refl _⟩, ⟨by repeat (first | (with_reducible first | exact HB.out | apply below_alloc | apply pw_below_drewN | apply below_drew1) | exact HB.out)⟩⟩
       case round =>
        clear H'
        try clear c1
        try clear p1
        try clear q1
        try clear hx1
        try clear qi1
        try clear p2
        try clear c3
        try clear c3b0
        try clear c3b1
        try clear c4
        try clear c4b0
        try clear c4b1
        try clear p5
        try clear q5
        try clear hx5
        try clear qi5
        try clear c6
        try clear c6b0
        try clear c6b1
        try clear p7
        try clear q7
        try clear hx7
        try clear qi7
        try clear c9
        try clear c10
        try clear c10b0
        try clear c10b1
        try clear p11
        try clear q11
        try clear hx11
        try clear qi11
        try clear c12
        try clear c12b0
        try clear c12b1
        try clear c13
        try clear c13b0
        try clear c13b1
        try clear c14
        try clear c14b0
        try clear c14b1
        try clear p1
        try clear p11
        try clear p2
        try clear p5
        try clear p7
        try clear q1
        try clear q11
        try clear q5
        try clear q7
        obtain ⟨x0_3, x5_3, x6_3, rfl, rfl, rfl, HA, HK3, HB⟩ := hrel
        cases gk with
        | zero => exact absurd HA.out (by simp [spec_CronDuration.l0])
        | succ k3 =>
         have H := HA.out;clear HA;simp only [spec_CronDuration.l0] at H
         by_cases c15 : x0_3.toList = ([] : List UInt8)
         ·rw [if_pos c15] at H;have c15b0 : (x0_3.toList == ([] : List UInt8)) = true := beq_iff_eq.mpr c15;have c15b1 : (x0_3.toList != ([] : List UInt8)) = false := bne_eq_false_iff_eq.mpr c15;clear c15
          by_cases c16 : x6_3 = 1
          ·rw [if_pos c16] at H;have c16b0 : (x6_3 == 1) = true := beq_iff_eq.mpr c16;have c16b1 : (x6_3 != 1) = false := bne_eq_false_iff_eq.mpr c16;clear c16
           by_cases c17 : x4_7 = true
           ·subst c17;have H1 : (some (wrap64 (-x5_3), 1)) = some (r1, r2) := by rw [if_pos rfl] at H; exact H
            clear H;have H := H1;clear H1;simp only [Option.some.injEq, Prod.mk.injEq] at H;obtain ⟨rfl, rfl⟩ := H
            go_wp2
            repeat (go_quiet (fail); try go_wp2)
            go_ret2
            exact ⟨by first | rfl | (simp [errW_none, errW_some] <;> rfl) | (simp [*, errW_none, errW_some] <;> rfl), by repeat (first | (with_reducible first | exact HB.out | apply below_alloc | apply pw_below_drewN | apply below_drew1) | exact HB.out)⟩
           ·replace c17 := Bool.eq_false_iff.mpr c17;subst c17;have H1 : (some (x5_3, 1)) = some (r1, r2) := by rw [if_neg (show ¬ (false = true) by decide)] at H; exact H
            clear H;have H := H1;clear H1;simp only [Option.some.injEq, Prod.mk.injEq] at H;obtain ⟨rfl, rfl⟩ := H
            go_wp2
            repeat (go_quiet (fail); try go_wp2)
            go_ret2
            exact ⟨by first | rfl | (simp [errW_none, errW_some] <;> rfl) | (simp [*, errW_none, errW_some] <;> rfl), by repeat (first | (with_reducible first | exact HB.out | apply below_alloc | apply pw_below_drewN | apply below_drew1) | exact HB.out)⟩
          ·rw [if_neg c16] at H;have c16b0 : (x6_3 == 1) = false := beq_eq_false_iff_ne.mpr c16;have c16b1 : (x6_3 != 1) = true := bne_iff_ne.mpr c16;simp only [Option.some.injEq, Prod.mk.injEq] at H;obtain ⟨rfl, rfl⟩ := H
           go_wp2
           repeat (go_quiet (fail); try go_wp2)
           go_ret2
           exact ⟨by first | rfl | (simp [errW_none, errW_some] <;> rfl) | (simp [*, errW_none, errW_some] <;> rfl), by repeat (first | (with_reducible first | exact HB.out | apply below_alloc | apply pw_below_drewN | apply below_drew1) | exact HB.out)⟩
         ·rw [if_neg c15] at H;have c15b0 : (x0_3.toList == ([] : List UInt8)) = false := beq_eq_false_iff_ne.mpr c15;have c15b1 : (x0_3.toList != ([] : List UInt8)) = true := bne_iff_ne.mpr c15;replace H := Option.bind_eq_some_iff.mp H;obtain ⟨⟨t117, t118, t119⟩, A180, H⟩ := H;replace H : ((spec_worse.f x6_3 t119).bind fun t120 => (if t120 = 0 then (some (0, 0)) else (if x5_3 > (wrap64 (4611686018427387904 - t117)) then (spec_CronDuration.l0 k3 t118 x4_7 (wrap64 (x5_3 + 0)) 2) else (spec_CronDuration.l0 k3 t118 x4_7 (wrap64 (x5_3 + t117)) t120)))) = some (r1, r2) := H;have A18 := Aside0.mk A180;clear A180;replace H := Option.bind_eq_some_iff.mp H;obtain ⟨t120, A190, H⟩ := H;replace H : (if t120 = 0 then (some (0, 0)) else (if x5_3 > (wrap64 (4611686018427387904 - t117)) then (spec_CronDuration.l0 k3 t118 x4_7 (wrap64 (x5_3 + 0)) 2) else (spec_CronDuration.l0 k3 t118 x4_7 (wrap64 (x5_3 + t117)) t120))) = some (r1, r2) := H;have A19 := Aside0.mk A190;clear A190
          by_cases c20 : t120 = 0
          ·rw [if_pos c20] at H;have c20b0 : (t120 == 0) = true := beq_iff_eq.mpr c20;have c20b1 : (t120 != 0) = false := bne_eq_false_iff_eq.mpr c20;clear c20;simp only [Option.some.injEq, Prod.mk.injEq] at H;obtain ⟨rfl, rfl⟩ := H
           go_wp2_with (first | (go_at_call 205; (with_reducible refine (spec_cronTerm.calls k3 x0_3 t117 t118 t119 _ A18.out).mono ?_); rintro e w' ⟨rfl, ⟨nd, rfl⟩⟩; (try first | exact ⟨rfl, _, World.drewN_drewN _ _ _⟩ | exact ⟨rfl, _, Eq.trans (World.drewN_drewN _ _ _) (congrArg (World.drewN _) (Nat.add_assoc _ _ _))⟩)) | (go_at_call 57; (with_reducible refine (spec_worse.calls x6_3 t119 t120 _ A19.out).mono ?_); rintro e w21 ⟨rfl, hb⟩; have n0_ := Aside0.mk (below_step (by repeat (first | (with_reducible first | exact HB.out | apply below_alloc | apply pw_below_drewN | apply below_drew1) | exact HB.out)) hb); clear HB; have HB := n0_; clear n0_; (try clear hb); (try clear hb2); (try clear hk); (try clear hi)))
           repeat (go_quiet (first | (go_at_call 205; (with_reducible refine (spec_cronTerm.calls k3 x0_3 t117 t118 t119 _ A18.out).mono ?_); rintro e w' ⟨rfl, ⟨nd, rfl⟩⟩; (try first | exact ⟨rfl, _, World.drewN_drewN _ _ _⟩ | exact ⟨rfl, _, Eq.trans (World.drewN_drewN _ _ _) (congrArg (World.drewN _) (Nat.add_assoc _ _ _))⟩)) | (go_at_call 57; (with_reducible refine (spec_worse.calls x6_3 t119 t120 _ A19.out).mono ?_); rintro e w21 ⟨rfl, hb⟩; have n0_ := Aside0.mk (below_step (by repeat (first | (with_reducible first | exact HB.out | apply below_alloc | apply pw_below_drewN | apply below_drew1) | exact HB.out)) hb); clear HB; have HB := n0_; clear n0_; (try clear hb); (try clear hb2); (try clear hk); (try clear hi))); try go_wp2_with (first | (go_at_call 205; (with_reducible refine (spec_cronTerm.calls k3 x0_3 t117 t118 t119 _ A18.out).mono ?_); rintro e w' ⟨rfl, ⟨nd, rfl⟩⟩; (try first | exact ⟨rfl, _, World.drewN_drewN _ _ _⟩ | exact ⟨rfl, _, Eq.trans (World.drewN_drewN _ _ _) (congrArg (World.drewN _) (Nat.add_assoc _ _ _))⟩)) | (go_at_call 57; (with_reducible refine (spec_worse.calls x6_3 t119 t120 _ A19.out).mono ?_); rintro e w21 ⟨rfl, hb⟩; have n0_ := Aside0.mk (below_step (by repeat (first | (with_reducible first | exact HB.out | apply below_alloc | apply pw_below_drewN | apply below_drew1) | exact HB.out)) hb); clear HB; have HB := n0_; clear n0_; (try clear hb); (try clear hb2); (try clear hk); (try clear hi))))
           go_ret2
           exact ⟨by first | rfl | (simp [errW_none, errW_some] <;> rfl) | (simp [*, errW_none, errW_some] <;> rfl), by repeat (first | (with_reducible first | exact HB.out | apply below_alloc | apply pw_below_drewN | apply below_drew1) | exact HB.out)⟩
          ·rw [if_neg c20] at H;have c20b0 : (t120 == 0) = false := beq_eq_false_iff_ne.mpr c20;have c20b1 : (t120 != 0) = true := bne_iff_ne.mpr c20
           by_cases c22 : x5_3 > (wrap64 (4611686018427387904 - t117))
           ·rw [if_pos c22] at H;have c22b0 : decide ((wrap64 (4611686018427387904 - t117)) < x5_3) = true := decide_eq_true c22;clear c22;have H' := Aside0.mk H;clear H
            go_wp2_with (first | (go_at_call 205; (with_reducible refine (spec_cronTerm.calls k3 x0_3 t117 t118 t119 _ A18.out).mono ?_); rintro e w' ⟨rfl, ⟨nd, rfl⟩⟩; (try first | exact ⟨rfl, _, World.drewN_drewN _ _ _⟩ | exact ⟨rfl, _, Eq.trans (World.drewN_drewN _ _ _) (congrArg (World.drewN _) (Nat.add_assoc _ _ _))⟩)) | (go_at_call 57; (with_reducible refine (spec_worse.calls x6_3 t119 t120 _ A19.out).mono ?_); rintro e w23 ⟨rfl, hb⟩; have n0_ := Aside0.mk (below_step (by repeat (first | (with_reducible first | exact HB.out | apply below_alloc | apply pw_below_drewN | apply below_drew1) | exact HB.out)) hb); clear HB; have HB := n0_; clear n0_; (try clear hb); (try clear hb2); (try clear hk); (try clear hi)))
            repeat (go_quiet (first | (go_at_call 205; (with_reducible refine (spec_cronTerm.calls k3 x0_3 t117 t118 t119 _ A18.out).mono ?_); rintro e w' ⟨rfl, ⟨nd, rfl⟩⟩; (try first | exact ⟨rfl, _, World.drewN_drewN _ _ _⟩ | exact ⟨rfl, _, Eq.trans (World.drewN_drewN _ _ _) (congrArg (World.drewN _) (Nat.add_assoc _ _ _))⟩)) | (go_at_call 57; (with_reducible refine (spec_worse.calls x6_3 t119 t120 _ A19.out).mono ?_); rintro e w23 ⟨rfl, hb⟩; have n0_ := Aside0.mk (below_step (by repeat (first | (with_reducible first | exact HB.out | apply below_alloc | apply pw_below_drewN | apply below_drew1) | exact HB.out)) hb); clear HB; have HB := n0_; clear n0_; (try clear hb); (try clear hb2); (try clear hk); (try clear hi))); try go_wp2_with (first | (go_at_call 205; (with_reducible refine (spec_cronTerm.calls k3 x0_3 t117 t118 t119 _ A18.out).mono ?_); rintro e w' ⟨rfl, ⟨nd, rfl⟩⟩; (try first | exact ⟨rfl, _, World.drewN_drewN _ _ _⟩ | exact ⟨rfl, _, Eq.trans (World.drewN_drewN _ _ _) (congrArg (World.drewN _) (Nat.add_assoc _ _ _))⟩)) | (go_at_call 57; (with_reducible refine (spec_worse.calls x6_3 t119 t120 _ A19.out).mono ?_); rintro e w23 ⟨rfl, hb⟩; have n0_ := Aside0.mk (below_step (by repeat (first | (with_reducible first | exact HB.out | apply below_alloc | apply pw_below_drewN | apply below_drew1) | exact HB.out)) hb); clear HB; have HB := n0_; clear n0_; (try clear hb); (try clear hb2); (try clear hk); (try clear hi))))
            go_roundg k3
            case measure => have := HJ1.out; have := HJ7.out; have := HK3.out; omega
            case rel => exact ⟨(t118), (wrap64 (x5_3 + 0)), (2), (by first | rfl | (simp; done) | (simp [*]; done)), (by first | rfl | (simp; done) | (simp [*]; done)), (by first | rfl | (simp; done) | (simp [*]; done)), H', ⟨by have := HJ1.out; have := HJ7.out; have := HK3.out; omega⟩, ⟨by repeat (first | (with_reducible first | exact HB.out | apply below_alloc | apply pw_below_drewN | apply below_drew1) | exact HB.out)⟩⟩
           ·rw [if_neg c22] at H;have c22b0 : decide ((wrap64 (4611686018427387904 - t117)) < x5_3) = false := decide_eq_false c22;clear c22;have H' := Aside0.mk H;clear H
            go_wp2_with (first | (go_at_call 205; (with_reducible refine (spec_cronTerm.calls k3 x0_3 t117 t118 t119 _ A18.out).mono ?_); rintro e w' ⟨rfl, ⟨nd, rfl⟩⟩; (try first | exact ⟨rfl, _, World.drewN_drewN _ _ _⟩ | exact ⟨rfl, _, Eq.trans (World.drewN_drewN _ _ _) (congrArg (World.drewN _) (Nat.add_assoc _ _ _))⟩)) | (go_at_call 57; (with_reducible refine (spec_worse.calls x6_3 t119 t120 _ A19.out).mono ?_); rintro e w24 ⟨rfl, hb⟩; have n0_ := Aside0.mk (below_step (by repeat (first | (with_reducible first | exact HB.out | apply below_alloc | apply pw_below_drewN | apply below_drew1) | exact HB.out)) hb); clear HB; have HB := n0_; clear n0_; (try clear hb); (try clear hb2); (try clear hk); (try clear hi)))
            repeat (go_quiet (first | (go_at_call 205; (with_reducible refine (spec_cronTerm.calls k3 x0_3 t117 t118 t119 _ A18.out).mono ?_); rintro e w' ⟨rfl, ⟨nd, rfl⟩⟩; (try first | exact ⟨rfl, _, World.drewN_drewN _ _ _⟩ | exact ⟨rfl, _, Eq.trans (World.drewN_drewN _ _ _) (congrArg (World.drewN _) (Nat.add_assoc _ _ _))⟩)) | (go_at_call 57; (with_reducible refine (spec_worse.calls x6_3 t119 t120 _ A19.out).mono ?_); rintro e w24 ⟨rfl, hb⟩; have n0_ := Aside0.mk (below_step (by repeat (first | (with_reducible first | exact HB.out | apply below_alloc | apply pw_below_drewN | apply below_drew1) | exact HB.out)) hb); clear HB; have HB := n0_; clear n0_; (try clear hb); (try clear hb2); (try clear hk); (try clear hi))); try go_wp2_with (first | (go_at_call 205; (with_reducible refine (spec_cronTerm.calls k3 x0_3 t117 t118 t119 _ A18.out).mono ?_); rintro e w' ⟨rfl, ⟨nd, rfl⟩⟩; (try first | exact ⟨rfl, _, World.drewN_drewN _ _ _⟩ | exact ⟨rfl, _, Eq.trans (World.drewN_drewN _ _ _) (congrArg (World.drewN _) (Nat.add_assoc _ _ _))⟩)) | (go_at_call 57; (with_reducible refine (spec_worse.calls x6_3 t119 t120 _ A19.out).mono ?_); rintro e w24 ⟨rfl, hb⟩; have n0_ := Aside0.mk (below_step (by repeat (first | (with_reducible first | exact HB.out | apply below_alloc | apply pw_below_drewN | apply below_drew1) | exact HB.out)) hb); clear HB; have HB := n0_; clear n0_; (try clear hb); (try clear hb2); (try clear hk); (try clear hi))))
            go_roundg k3
            case measure => have := HJ1.out; have := HJ7.out; have := HK3.out; omega
            case rel => exact ⟨(t118), (wrap64 (x5_3 + t117)), (t120), (by first | rfl | (simp; done) | (simp [*]; done)), (by first | rfl | (simp; done) | (simp [*]; done)), (by first | rfl | (simp; done) | (simp [*]; done)), H', ⟨by have := HJ1.out; have := HJ7.out; have := HK3.out; omega⟩, ⟨by repeat (first | (with_reducible first | exact HB.out | apply below_alloc | apply pw_below_drewN | apply below_drew1) | exact HB.out)⟩⟩
end Go.Proofs.YtmecbmgfacpecaaGreatDoor.Pr
namespace Go.Proofs.YtmecbmgfacpecaaGreatDoor.Pr
open Go.RowKit Go.Proofs.YtmecbmgfacpecaaGreatDoorW.PrintWords Go.Proofs.YtmecbmgfacpecaaGreatDoorW.PrintLast Go.Proofs.YtmecbmgfacpecaaGreatDoorW.PrintMore
attribute [local go_sem] max2_int min2_int max_two min_two max_three min_three max_four min_four   -- for this text's walks alone
set_option linter.unusedVariables false
set_option linter.unusedSimpArgs false
mutual
def spec_CronDescribed.j0 : Nat → ByteArray → Bool → Option (ByteArray)
 | 0, _, _ => none
 | k + 1, x3, x4 => if x4 = true then (some (⟨#[48, 32, 48, 32, 49, 32, 49, 32, 42]⟩ : ByteArray)) else (if x3.toList = ([64, 109, 111, 110, 116, 104, 108, 121] : List UInt8) then (some (⟨#[48, 32, 48, 32, 49, 32, 42, 32, 42]⟩ : ByteArray)) else (if x3.toList = ([64, 119, 101, 101, 107, 108, 121] : List UInt8) then (some (⟨#[48, 32, 48, 32, 42, 32, 42, 32, 48]⟩ : ByteArray)) else (if x3.toList = ([64, 100, 97, 105, 108, 121] : List UInt8) then (spec_CronDescribed.j1 k x3 (x3.toList == ([64, 100, 97, 105, 108, 121] : List UInt8))) else (spec_CronDescribed.j1 k x3 (x3.toList == ([64, 109, 105, 100, 110, 105, 103, 104, 116] : List UInt8))))))
def spec_CronDescribed.j1 : Nat → ByteArray → Bool → Option (ByteArray)
 | 0, _, _ => none
 | k + 1, x3, x11 => if x11 = true then (some (⟨#[48, 32, 48, 32, 42, 32, 42, 32, 42]⟩ : ByteArray)) else (if x3.toList = ([64, 104, 111, 117, 114, 108, 121] : List UInt8) then (some (⟨#[48, 32, 42, 32, 42, 32, 42, 32, 42]⟩ : ByteArray)) else (some (⟨#[]⟩ : ByteArray)))
end
def spec_CronDescribed.f (k : Nat) (a0 : ByteArray) : Option (ByteArray) := if a0.toList = ([64, 121, 101, 97, 114, 108, 121] : List UInt8) then (spec_CronDescribed.j0 k a0 (a0.toList == ([64, 121, 101, 97, 114, 108, 121] : List UInt8))) else (spec_CronDescribed.j0 k a0 (a0.toList == ([64, 97, 110, 110, 117, 97, 108, 108, 121] : List UInt8)))
theorem spec_CronDescribed.mono_l : ∀ k, (∀ y0 y1, LeO (spec_CronDescribed.j0 k y0 y1) (spec_CronDescribed.j0 (k + 1) y0 y1)) ∧ (∀ y0 y1, LeO (spec_CronDescribed.j1 k y0 y1) (spec_CronDescribed.j1 (k + 1) y0 y1))
 | 0 => ⟨fun _ _ r h => by simp [spec_CronDescribed.j0] at h, fun _ _ r h => by simp [spec_CronDescribed.j1] at h⟩
 | k + 1 => by
  obtain ⟨ih0, ih1⟩ := spec_CronDescribed.mono_l k;refine ⟨?_, ?_⟩;intro y0 y1;unfold spec_CronDescribed.j0;rotate_left;intro y0 y1;unfold spec_CronDescribed.j1;rotate_left
  all_goals repeat' first
  | (with_reducible exact ih0 _ _)
  | (with_reducible exact ih1 _ _)
  | (with_reducible exact LeO.refl _)
  | (with_reducible exact LeO.none _)
  | (with_reducible refine LeO.ite ?_ ?_)
  | (with_reducible refine LeO.bind ?_ (fun _ => ?_))
  | exact ih0 _ _
  | exact ih1 _ _
  | exact LeO.none _
  | refine LeO.ite ?_ ?_
  | refine LeO.bind ?_ (fun _ => ?_)
theorem spec_CronDescribed.mono : ∀ a0 k, LeO (spec_CronDescribed.f k a0) (spec_CronDescribed.f (k + 1) a0) := by
 intro a0 k;obtain ⟨ih0, ih1⟩ := spec_CronDescribed.mono_l k;unfold spec_CronDescribed.f
 repeat' first
  | (with_reducible exact ih0 _ _)
  | (with_reducible exact ih1 _ _)
  | (with_reducible exact LeO.refl _)
  | (with_reducible exact LeO.none _)
  | (with_reducible refine LeO.ite ?_ ?_)
  | (with_reducible refine LeO.bind ?_ (fun _ => ?_))
  | exact ih0 _ _
  | exact ih1 _ _
  | exact LeO.none _
  | refine LeO.ite ?_ ?_
  | refine LeO.bind ?_ (fun _ => ?_)
set_option maxHeartbeats 8000000 in
set_option maxRecDepth 100000 in
theorem spec_CronDescribed.calls (k : Nat) (a0 : ByteArray) (r : ByteArray) (w : World) (h : spec_CronDescribed.f k a0 = some r) :
  Calls Tryz.prog 169 #[.string a0] w fun e w' => e = .returned (.string r) ∧ Drawn0 w w' := by
 have H : (if a0.toList = ([64, 121, 101, 97, 114, 108, 121] : List UInt8) then (spec_CronDescribed.j0 k a0 (a0.toList == ([64, 121, 101, 97, 114, 108, 121] : List UInt8))) else (spec_CronDescribed.j0 k a0 (a0.toList == ([64, 97, 110, 110, 117, 97, 108, 108, 121] : List UInt8)))) = some r := h;clear h;have HC2 := Aside0.mk H;clear H
 go_enter Tryz.func169, Tryz.ntmps169
 go_upto_if 4 with (fail)
 go_cut [4] (fun v4 wc => ∃ (kq : Nat) (x4_1 : Bool), v4 = .bool x4_1 ∧ Aside0 (spec_CronDescribed.j0 kq a0 x4_1 = some r) ∧ Aside0 (kq ≤ k) ∧ Drawn0 w wc)
 case first =>
  have H := HC2.out;clear HC2
  by_cases c3 : a0.toList = ([64, 121, 101, 97, 114, 108, 121] : List UInt8)
  ·rw [if_pos c3] at H;have c3b0 : (a0.toList == ([64, 121, 101, 97, 114, 108, 121] : List UInt8)) = true := beq_iff_eq.mpr c3;have c3b1 : (a0.toList != ([64, 121, 101, 97, 114, 108, 121] : List UInt8)) = false := bne_eq_false_iff_eq.mpr c3;clear c3
   (first | rw [c3b0] | (simp only [i64_w, i32_w]; rw [c3b0]) | skip)
   have H' := Aside0.mk H;clear H
   go_wp2
   go_meet
   case rel => exact ⟨_, ((a0.toList == ([64, 121, 101, 97, 114, 108, 121] : List UInt8))), (by first | rfl | (simp; done) | (simp [*]; done)), H', ⟨by first | omega | exact Nat.le_refl _⟩, by repeat (first | exact Drawn0.refl _ | apply Drawn0.step)⟩
  ·rw [if_neg c3] at H;have c3b0 : (a0.toList == ([64, 121, 101, 97, 114, 108, 121] : List UInt8)) = false := beq_eq_false_iff_ne.mpr c3;have c3b1 : (a0.toList != ([64, 121, 101, 97, 114, 108, 121] : List UInt8)) = true := bne_iff_ne.mpr c3
   (first | rw [c3b0] | (simp only [i64_w, i32_w]; rw [c3b0]) | skip)
   have H' := Aside0.mk H;clear H
   go_wp2
   go_meet
   case rel => exact ⟨_, ((a0.toList == ([64, 97, 110, 110, 117, 97, 108, 108, 121] : List UInt8))), (by first | rfl | (simp; done) | (simp [*]; done)), H', ⟨by first | omega | exact Nat.le_refl _⟩, by repeat (first | exact Drawn0.refl _ | apply Drawn0.step)⟩
 case rest =>
  clear HC2
  try clear c1
  try clear p2
  try clear c3
  try clear c3b0
  try clear c3b1
  obtain ⟨kq, x4_1, rfl, HA, HJ1, ⟨mc1, rfl⟩⟩ := hcut
  cases kq with
  | zero => exact absurd HA.out (by simp [spec_CronDescribed.j0])
  | succ kj1 =>
   have H := HA.out;clear HA;simp only [spec_CronDescribed.j0] at H
   by_cases c4 : x4_1 = true
   ·subst c4;have H1 : (some (⟨#[48, 32, 48, 32, 49, 32, 49, 32, 42]⟩ : ByteArray)) = some r := by rw [if_pos rfl] at H; exact H
    clear H;have H := H1;clear H1;obtain rfl := Option.some.inj H
    go_wp2
    go_ret
    exact ⟨by first | rfl | (simp; done) | (simp [*]; done), by repeat (first | exact Drawn0.refl _ | apply Drawn0.step)⟩
   ·replace c4 := Bool.eq_false_iff.mpr c4;subst c4;have H1 : (if a0.toList = ([64, 109, 111, 110, 116, 104, 108, 121] : List UInt8) then (some (⟨#[48, 32, 48, 32, 49, 32, 42, 32, 42]⟩ : ByteArray)) else (if a0.toList = ([64, 119, 101, 101, 107, 108, 121] : List UInt8) then (some (⟨#[48, 32, 48, 32, 42, 32, 42, 32, 48]⟩ : ByteArray)) else (if a0.toList = ([64, 100, 97, 105, 108, 121] : List UInt8) then (spec_CronDescribed.j1 kj1 a0 (a0.toList == ([64, 100, 97, 105, 108, 121] : List UInt8))) else (spec_CronDescribed.j1 kj1 a0 (a0.toList == ([64, 109, 105, 100, 110, 105, 103, 104, 116] : List UInt8)))))) = some r := by rw [if_neg (show ¬ (false = true) by decide)] at H; exact H
    clear H;have H := H1;clear H1
    by_cases c5 : a0.toList = ([64, 109, 111, 110, 116, 104, 108, 121] : List UInt8)
    ·rw [if_pos c5] at H;have c5b0 : (a0.toList == ([64, 109, 111, 110, 116, 104, 108, 121] : List UInt8)) = true := beq_iff_eq.mpr c5;have c5b1 : (a0.toList != ([64, 109, 111, 110, 116, 104, 108, 121] : List UInt8)) = false := bne_eq_false_iff_eq.mpr c5;clear c5;obtain rfl := Option.some.inj H
     go_wp2
     go_ret
     exact ⟨by first | rfl | (simp; done) | (simp [*]; done), by repeat (first | exact Drawn0.refl _ | apply Drawn0.step)⟩
    ·rw [if_neg c5] at H;have c5b0 : (a0.toList == ([64, 109, 111, 110, 116, 104, 108, 121] : List UInt8)) = false := beq_eq_false_iff_ne.mpr c5;have c5b1 : (a0.toList != ([64, 109, 111, 110, 116, 104, 108, 121] : List UInt8)) = true := bne_iff_ne.mpr c5
     by_cases c6 : a0.toList = ([64, 119, 101, 101, 107, 108, 121] : List UInt8)
     ·rw [if_pos c6] at H;have c6b0 : (a0.toList == ([64, 119, 101, 101, 107, 108, 121] : List UInt8)) = true := beq_iff_eq.mpr c6;have c6b1 : (a0.toList != ([64, 119, 101, 101, 107, 108, 121] : List UInt8)) = false := bne_eq_false_iff_eq.mpr c6;clear c6;obtain rfl := Option.some.inj H
      go_wp2
      go_ret
      exact ⟨by first | rfl | (simp; done) | (simp [*]; done), by repeat (first | exact Drawn0.refl _ | apply Drawn0.step)⟩
     ·rw [if_neg c6] at H;have c6b0 : (a0.toList == ([64, 119, 101, 101, 107, 108, 121] : List UInt8)) = false := beq_eq_false_iff_ne.mpr c6;have c6b1 : (a0.toList != ([64, 119, 101, 101, 107, 108, 121] : List UInt8)) = true := bne_iff_ne.mpr c6;have HC7 := Aside0.mk H;clear H
      go_upto_if 11 with (fail)
      go_cut [11] (fun v11 wc => ∃ (kq : Nat) (x11_6 : Bool), v11 = .bool x11_6 ∧ Aside0 (spec_CronDescribed.j1 kq a0 x11_6 = some r) ∧ Aside0 (kq ≤ kj1) ∧ Drawn0 w wc)
      case first =>
       have H := HC7.out;clear HC7
       by_cases c8 : a0.toList = ([64, 100, 97, 105, 108, 121] : List UInt8)
       ·rw [if_pos c8] at H;have c8b0 : (a0.toList == ([64, 100, 97, 105, 108, 121] : List UInt8)) = true := beq_iff_eq.mpr c8;have c8b1 : (a0.toList != ([64, 100, 97, 105, 108, 121] : List UInt8)) = false := bne_eq_false_iff_eq.mpr c8;clear c8
        (first | rw [c8b0] | (simp only [i64_w, i32_w]; rw [c8b0]) | skip)
        have H' := Aside0.mk H;clear H
        go_wp2
        go_meet
        case rel => exact ⟨_, ((a0.toList == ([64, 100, 97, 105, 108, 121] : List UInt8))), (by first | rfl | (simp; done) | (simp [*]; done)), H', ⟨by have := HJ1.out; first | omega | exact Nat.le_refl _⟩, by repeat (first | exact Drawn0.refl _ | apply Drawn0.step)⟩
       ·rw [if_neg c8] at H;have c8b0 : (a0.toList == ([64, 100, 97, 105, 108, 121] : List UInt8)) = false := beq_eq_false_iff_ne.mpr c8;have c8b1 : (a0.toList != ([64, 100, 97, 105, 108, 121] : List UInt8)) = true := bne_iff_ne.mpr c8
        (first | rw [c8b0] | (simp only [i64_w, i32_w]; rw [c8b0]) | skip)
        have H' := Aside0.mk H;clear H
        go_wp2
        go_meet
        case rel => exact ⟨_, ((a0.toList == ([64, 109, 105, 100, 110, 105, 103, 104, 116] : List UInt8))), (by first | rfl | (simp; done) | (simp [*]; done)), H', ⟨by have := HJ1.out; first | omega | exact Nat.le_refl _⟩, by repeat (first | exact Drawn0.refl _ | apply Drawn0.step)⟩
      case rest =>
       clear HC7
       try clear c1
       try clear p2
       try clear c3
       try clear c3b0
       try clear c3b1
       try clear c4
       try clear c5
       try clear c5b0
       try clear c5b1
       try clear c6
       try clear c6b0
       try clear c6b1
       try clear c8
       try clear c8b0
       try clear c8b1
       try clear p2
       obtain ⟨kq, x11_6, rfl, HA, HJ6, ⟨mc6, rfl⟩⟩ := hcut
       cases kq with
       | zero => exact absurd HA.out (by simp [spec_CronDescribed.j1])
       | succ kj6 =>
        have H := HA.out;clear HA;simp only [spec_CronDescribed.j1] at H
        by_cases c9 : x11_6 = true
        ·subst c9;have H1 : (some (⟨#[48, 32, 48, 32, 42, 32, 42, 32, 42]⟩ : ByteArray)) = some r := by rw [if_pos rfl] at H; exact H
         clear H;have H := H1;clear H1;obtain rfl := Option.some.inj H
         go_wp2
         go_ret
         exact ⟨by first | rfl | (simp; done) | (simp [*]; done), by repeat (first | exact Drawn0.refl _ | apply Drawn0.step)⟩
        ·replace c9 := Bool.eq_false_iff.mpr c9;subst c9;have H1 : (if a0.toList = ([64, 104, 111, 117, 114, 108, 121] : List UInt8) then (some (⟨#[48, 32, 42, 32, 42, 32, 42, 32, 42]⟩ : ByteArray)) else (some (⟨#[]⟩ : ByteArray))) = some r := by rw [if_neg (show ¬ (false = true) by decide)] at H; exact H
         clear H;have H := H1;clear H1
         by_cases c10 : a0.toList = ([64, 104, 111, 117, 114, 108, 121] : List UInt8)
         ·rw [if_pos c10] at H;have c10b0 : (a0.toList == ([64, 104, 111, 117, 114, 108, 121] : List UInt8)) = true := beq_iff_eq.mpr c10;have c10b1 : (a0.toList != ([64, 104, 111, 117, 114, 108, 121] : List UInt8)) = false := bne_eq_false_iff_eq.mpr c10;clear c10;obtain rfl := Option.some.inj H
          go_wp2
          go_ret
          exact ⟨by first | rfl | (simp; done) | (simp [*]; done), by repeat (first | exact Drawn0.refl _ | apply Drawn0.step)⟩
         ·rw [if_neg c10] at H;have c10b0 : (a0.toList == ([64, 104, 111, 117, 114, 108, 121] : List UInt8)) = false := beq_eq_false_iff_ne.mpr c10;have c10b1 : (a0.toList != ([64, 104, 111, 117, 114, 108, 121] : List UInt8)) = true := bne_iff_ne.mpr c10;obtain rfl := Option.some.inj H
          go_wp2
          go_ret
          exact ⟨by first | rfl | (simp; done) | (simp [*]; done), by repeat (first | exact Drawn0.refl _ | apply Drawn0.step)⟩
end Go.Proofs.YtmecbmgfacpecaaGreatDoor.Pr
namespace Go.Proofs.YtmecbmgfacpecaaGreatDoor.Pr
open Go.RowKit Go.Proofs.YtmecbmgfacpecaaGreatDoorW.PrintWords Go.Proofs.YtmecbmgfacpecaaGreatDoorW.PrintLast Go.Proofs.YtmecbmgfacpecaaGreatDoorW.PrintMore
attribute [local go_sem] max2_int min2_int max_two min_two max_three min_three max_four min_four   -- for this text's walks alone
set_option linter.unusedVariables false
set_option linter.unusedSimpArgs false
def spec_CronDelay.f (a0 : Int) : Option (Int) := if a0 < 1000000000 then (some 1000000000) else (some (wrap64 ((wrap64 (Int.tdiv a0 1000000000)) * 1000000000)))
set_option maxHeartbeats 8000000 in
set_option maxRecDepth 100000 in
theorem spec_CronDelay.calls (a0 : Int) (r : Int) (w : World) (h : spec_CronDelay.f a0 = some r) :
  Calls Tryz.prog 171 #[.int .i64 a0] w fun e w' => e = .returned (.int .i64 r) ∧ Drawn0 w w' := by
 have H : (if a0 < 1000000000 then (some 1000000000) else (some (wrap64 ((wrap64 (Int.tdiv a0 1000000000)) * 1000000000)))) = some r := h;clear h
 by_cases c2 : a0 < 1000000000
 ·rw [if_pos c2] at H;have c2b0 : decide (a0 < 1000000000) = true := decide_eq_true c2;clear c2;obtain rfl := Option.some.inj H
  go_enter Tryz.func171, Tryz.ntmps171
  go_wp2
  go_ret
  exact ⟨by first | rfl | (simp; done) | (simp [*]; done), by repeat (first | exact Drawn0.refl _ | apply Drawn0.step)⟩
 ·rw [if_neg c2] at H;have c2b0 : decide (a0 < 1000000000) = false := decide_eq_false c2;clear c2;obtain rfl := Option.some.inj H
  go_enter Tryz.func171, Tryz.ntmps171
  go_wp2
  go_ret
  exact ⟨by first | rfl | (simp; done) | (simp [*]; done), by repeat (first | exact Drawn0.refl _ | apply Drawn0.step)⟩
end Go.Proofs.YtmecbmgfacpecaaGreatDoor.Pr
namespace Go.Proofs.YtmecbmgfacpecaaGreatDoor.Pr
open Go.RowKit Go.Proofs.YtmecbmgfacpecaaGreatDoorW.PrintWords Go.Proofs.YtmecbmgfacpecaaGreatDoorW.PrintLast Go.Proofs.YtmecbmgfacpecaaGreatDoorW.PrintMore
attribute [local go_sem] max2_int min2_int max_two min_two max_three min_three max_four min_four   -- for this text's walks alone
set_option linter.unusedVariables false
set_option linter.unusedSimpArgs false
mutual
def spec_CronZoneName.j0 : Nat → ByteArray → Bool → Option (Bool × Int)
 | 0, _, _ => none
 | k + 1, x0, x5 => if x5 = true then (some (true, 1)) else (if x0.toList = ([76, 111, 99, 97, 108] : List UInt8) then (some (false, 1)) else (if 0 < (x0.size : Int) then (if (bt x0 0) = 47 then (some (false, 0)) else (if (bt x0 0) = 92 then (some (false, 0)) else (spec_CronZoneName.l0 k x0 1))) else (none)))
def spec_CronZoneName.l0 : Nat → ByteArray → Int → Option (Bool × Int)
 | 0, _, _ => none
 | k + 1, x0, x4 => if x4 < (x0.size : Int) then (if 0 ≤ (wrap64 (x4 - 1)) then (if (wrap64 (x4 - 1)) < (x0.size : Int) then (if (bt x0 (wrap64 (x4 - 1))) = 46 then (if 0 ≤ x4 then (if (bt x0 x4) = 46 then (some (false, 0)) else (spec_CronZoneName.l0 k x0 (wrap64 (x4 + 1)))) else (none)) else (spec_CronZoneName.l0 k x0 (wrap64 (x4 + 1)))) else (none)) else (none)) else (some (false, 2))
end
def spec_CronZoneName.f (k : Nat) (a0 : ByteArray) : Option (Bool × Int) := if a0.toList = ([] : List UInt8) then (spec_CronZoneName.j0 k a0 true) else (spec_CronZoneName.j0 k a0 (a0.toList == ([85, 84, 67] : List UInt8)))
theorem spec_CronZoneName.mono_l : ∀ k, (∀ y0 y1, LeO (spec_CronZoneName.j0 k y0 y1) (spec_CronZoneName.j0 (k + 1) y0 y1)) ∧ (∀ y0 y1, LeO (spec_CronZoneName.l0 k y0 y1) (spec_CronZoneName.l0 (k + 1) y0 y1))
 | 0 => ⟨fun _ _ r h => by simp [spec_CronZoneName.j0] at h, fun _ _ r h => by simp [spec_CronZoneName.l0] at h⟩
 | k + 1 => by
  obtain ⟨ih0, ih1⟩ := spec_CronZoneName.mono_l k;refine ⟨?_, ?_⟩;intro y0 y1;unfold spec_CronZoneName.j0;rotate_left;intro y0 y1;unfold spec_CronZoneName.l0;rotate_left
  all_goals repeat' first
  | (with_reducible exact ih0 _ _)
  | (with_reducible exact ih1 _ _)
  | (with_reducible exact LeO.refl _)
  | (with_reducible exact LeO.none _)
  | (with_reducible refine LeO.ite ?_ ?_)
  | (with_reducible refine LeO.bind ?_ (fun _ => ?_))
  | exact ih0 _ _
  | exact ih1 _ _
  | exact LeO.none _
  | refine LeO.ite ?_ ?_
  | refine LeO.bind ?_ (fun _ => ?_)
theorem spec_CronZoneName.mono : ∀ a0 k, LeO (spec_CronZoneName.f k a0) (spec_CronZoneName.f (k + 1) a0) := by
 intro a0 k;obtain ⟨ih0, ih1⟩ := spec_CronZoneName.mono_l k;unfold spec_CronZoneName.f
 repeat' first
  | (with_reducible exact ih0 _ _)
  | (with_reducible exact ih1 _ _)
  | (with_reducible exact LeO.refl _)
  | (with_reducible exact LeO.none _)
  | (with_reducible refine LeO.ite ?_ ?_)
  | (with_reducible refine LeO.bind ?_ (fun _ => ?_))
  | exact ih0 _ _
  | exact ih1 _ _
  | exact LeO.none _
  | refine LeO.ite ?_ ?_
  | refine LeO.bind ?_ (fun _ => ?_)
set_option maxHeartbeats 8000000 in
set_option maxRecDepth 100000 in
theorem spec_CronZoneName.calls (k : Nat) (a0 : ByteArray) (r1 : Bool) (r2 : Int) (w : World) (h : spec_CronZoneName.f k a0 = some (r1, r2)) :
  Calls Tryz.prog 90 #[.string a0] w fun e w' => e = .returned (.tuple #[.bool r1, .int .i64 r2]) ∧ Drawn0 w w' := by
 have H : (if a0.toList = ([] : List UInt8) then (spec_CronZoneName.j0 k a0 true) else (spec_CronZoneName.j0 k a0 (a0.toList == ([85, 84, 67] : List UInt8)))) = some (r1, r2) := h;clear h;have HC2 := Aside0.mk H;clear H
 go_enter Tryz.func90, Tryz.ntmps90
 go_upto_region 1 with (fail)
 go_cut [5] (fun v5 wc => ∃ (kq : Nat) (x5_1 : Bool), v5 = .bool x5_1 ∧ Aside0 (spec_CronZoneName.j0 kq a0 x5_1 = some (r1, r2)) ∧ Aside0 (kq ≤ k) ∧ Drawn0 w wc)
 case first =>
  have H := HC2.out;clear HC2
  by_cases c3 : a0.toList = ([] : List UInt8)
  ·rw [if_pos c3] at H;have c3b0 : (a0.toList == ([] : List UInt8)) = true := beq_iff_eq.mpr c3;have c3b1 : (a0.toList != ([] : List UInt8)) = false := bne_eq_false_iff_eq.mpr c3;clear c3
   (first | rw [c3b0] | (simp only [i64_w, i32_w]; rw [c3b0]) | skip)
   have H' := Aside0.mk H;clear H
   go_wp2
   go_meet
   case rel => exact ⟨_, (true), (by first | rfl | (simp; done) | (simp [*]; done)), H', ⟨by first | omega | exact Nat.le_refl _⟩, by repeat (first | exact Drawn0.refl _ | apply Drawn0.step)⟩
  ·rw [if_neg c3] at H;have c3b0 : (a0.toList == ([] : List UInt8)) = false := beq_eq_false_iff_ne.mpr c3;have c3b1 : (a0.toList != ([] : List UInt8)) = true := bne_iff_ne.mpr c3
   (first | rw [c3b0] | (simp only [i64_w, i32_w]; rw [c3b0]) | skip)
   have H' := Aside0.mk H;clear H
   go_wp2
   go_meet
   case rel => exact ⟨_, ((a0.toList == ([85, 84, 67] : List UInt8))), (by first | rfl | (simp; done) | (simp [*]; done)), H', ⟨by first | omega | exact Nat.le_refl _⟩, by repeat (first | exact Drawn0.refl _ | apply Drawn0.step)⟩
 case rest =>
  clear HC2
  try clear p2
  try clear c3
  try clear c3b0
  try clear c3b1
  obtain ⟨kq, x5_1, rfl, HA, HJ1, ⟨mc1, rfl⟩⟩ := hcut
  cases kq with
  | zero => exact absurd HA.out (by simp [spec_CronZoneName.j0])
  | succ kj1 =>
   have H := HA.out;clear HA;simp only [spec_CronZoneName.j0] at H
   by_cases c4 : x5_1 = true
   ·subst c4;have H1 : (some (true, 1)) = some (r1, r2) := by rw [if_pos rfl] at H; exact H
    clear H;have H := H1;clear H1;simp only [Option.some.injEq, Prod.mk.injEq] at H;obtain ⟨rfl, rfl⟩ := H
    go_wp2
    go_ret2
    exact ⟨by first | rfl | (simp; done) | (simp [*]; done), by repeat (first | exact Drawn0.refl _ | apply Drawn0.step)⟩
   ·replace c4 := Bool.eq_false_iff.mpr c4;subst c4;have H1 : (if a0.toList = ([76, 111, 99, 97, 108] : List UInt8) then (some (false, 1)) else (if 0 < (a0.size : Int) then (if (bt a0 0) = 47 then (some (false, 0)) else (if (bt a0 0) = 92 then (some (false, 0)) else (spec_CronZoneName.l0 kj1 a0 1))) else (none))) = some (r1, r2) := by rw [if_neg (show ¬ (false = true) by decide)] at H; exact H
    clear H;have H := H1;clear H1
    by_cases c5 : a0.toList = ([76, 111, 99, 97, 108] : List UInt8)
    ·rw [if_pos c5] at H;have c5b0 : (a0.toList == ([76, 111, 99, 97, 108] : List UInt8)) = true := beq_iff_eq.mpr c5;have c5b1 : (a0.toList != ([76, 111, 99, 97, 108] : List UInt8)) = false := bne_eq_false_iff_eq.mpr c5;clear c5;simp only [Option.some.injEq, Prod.mk.injEq] at H;obtain ⟨rfl, rfl⟩ := H
     go_wp2
     go_ret2
     exact ⟨by first | rfl | (simp; done) | (simp [*]; done), by repeat (first | exact Drawn0.refl _ | apply Drawn0.step)⟩
    ·rw [if_neg c5] at H;have c5b0 : (a0.toList == ([76, 111, 99, 97, 108] : List UInt8)) = false := beq_eq_false_iff_ne.mpr c5;have c5b1 : (a0.toList != ([76, 111, 99, 97, 108] : List UInt8)) = true := bne_iff_ne.mpr c5
     by_cases c6 : 0 < (a0.size : Int)
     ·rw [if_pos c6] at H;have c6b0 : decide (0 < (a0.size : Int)) = true := decide_eq_true c6;have c6b1 : decide (0 < a0.size) = true := decide_eq_true (by omega);clear c6
      by_cases c8 : (bt a0 0) = 47
      ·rw [if_pos c8] at H;have c8b0 : ((bt a0 0) == 47) = true := beq_iff_eq.mpr c8;have c8b1 : ((bt a0 0) != 47) = false := bne_eq_false_iff_eq.mpr c8;clear c8;simp only [Option.some.injEq, Prod.mk.injEq] at H;obtain ⟨rfl, rfl⟩ := H;have p7 : 0 ≤ (0 : Int) := (by omega)
       have q7 : 0 < a0.size := (by have : (0 : Int) < (a0.size : Int) := of_decide_eq_true (by first | (with_reducible assumption) | assumption); omega)
       have hx7 : ∀ h : 0 < a0.size, ((a0[0]'h).toNat : Int) = bt a0 0 := bt_at a0 0;clear p7;have qi7 : (0 < (a0.size : Int)) = True := eq_true (of_decide_eq_true (by first | (with_reducible assumption) | assumption));replace q7 := eq_true q7
       go_wp2
       go_ret2
       exact ⟨by first | rfl | (simp; done) | (simp [*]; done), by repeat (first | exact Drawn0.refl _ | apply Drawn0.step)⟩
      ·rw [if_neg c8] at H;have c8b0 : ((bt a0 0) == 47) = false := beq_eq_false_iff_ne.mpr c8;have c8b1 : ((bt a0 0) != 47) = true := bne_iff_ne.mpr c8
       by_cases c10 : (bt a0 0) = 92
       ·rw [if_pos c10] at H;have c10b0 : ((bt a0 0) == 92) = true := beq_iff_eq.mpr c10;have c10b1 : ((bt a0 0) != 92) = false := bne_eq_false_iff_eq.mpr c10;clear c10;simp only [Option.some.injEq, Prod.mk.injEq] at H;obtain ⟨rfl, rfl⟩ := H;have p7 : 0 ≤ (0 : Int) := (by omega)
        have q7 : 0 < a0.size := (by have : (0 : Int) < (a0.size : Int) := of_decide_eq_true (by first | (with_reducible assumption) | assumption); omega)
        have hx7 : ∀ h : 0 < a0.size, ((a0[0]'h).toNat : Int) = bt a0 0 := bt_at a0 0;clear p7;have qi7 : (0 < (a0.size : Int)) = True := eq_true (of_decide_eq_true (by first | (with_reducible assumption) | assumption));replace q7 := eq_true q7;have p9 : 0 ≤ (0 : Int) := (by omega)
        have q9 : 0 < a0.size := (by have : (0 : Int) < (a0.size : Int) := of_decide_eq_true (by first | (with_reducible assumption) | assumption); omega)
        have hx9 : ∀ h : 0 < a0.size, ((a0[0]'h).toNat : Int) = bt a0 0 := bt_at a0 0;clear p9;have qi9 : (0 < (a0.size : Int)) = True := eq_true (of_decide_eq_true (by first | (with_reducible assumption) | assumption));replace q9 := eq_true q9
        go_wp2
        go_ret2
        exact ⟨by first | rfl | (simp; done) | (simp [*]; done), by repeat (first | exact Drawn0.refl _ | apply Drawn0.step)⟩
       ·rw [if_neg c10] at H;have c10b0 : ((bt a0 0) == 92) = false := beq_eq_false_iff_ne.mpr c10;have c10b1 : ((bt a0 0) != 92) = true := bne_iff_ne.mpr c10;have H' := Aside0.mk H;clear H;have p7 : 0 ≤ (0 : Int) := (by omega)
        have q7 : 0 < a0.size := (by have : (0 : Int) < (a0.size : Int) := of_decide_eq_true (by first | (with_reducible assumption) | assumption); omega)
        have hx7 : ∀ h : 0 < a0.size, ((a0[0]'h).toNat : Int) = bt a0 0 := bt_at a0 0;clear p7;have qi7 : (0 < (a0.size : Int)) = True := eq_true (of_decide_eq_true (by first | (with_reducible assumption) | assumption));replace q7 := eq_true q7;have p9 : 0 ≤ (0 : Int) := (by omega)
        have q9 : 0 < a0.size := (by have : (0 : Int) < (a0.size : Int) := of_decide_eq_true (by first | (with_reducible assumption) | assumption); omega)
        have hx9 : ∀ h : 0 < a0.size, ((a0[0]'h).toNat : Int) = bt a0 0 := bt_at a0 0;clear p9;have qi9 : (0 < (a0.size : Int)) = True := eq_true (of_decide_eq_true (by first | (with_reducible assumption) | assumption));replace q9 := eq_true q9
        go_wp2
        go_loopg [4] kj1 (fun kq v4 w' => ∃ (x4_2 : Int), v4 = .int .i64 x4_2 ∧ Aside0 (spec_CronZoneName.l0 kq a0 x4_2 = some (r1, r2)) ∧ Aside0 (kq ≤ kj1) ∧ Drawn0 w w')
        case atStart => exact ⟨(1), (by first | rfl | (simp; done) | (simp [*]; done)), H', ⟨Nat.le_refl _⟩, by repeat (first | exact Drawn0.refl _ | apply Drawn0.step)⟩
        case round =>
         clear H'
         try clear c1
         try clear p2
         try clear c3
         try clear c3b0
         try clear c3b1
         try clear c4
         try clear c5
         try clear c5b0
         try clear c5b1
         try clear c6
         try clear c6b0
         try clear c6b1
         try clear p7
         try clear q7
         try clear hx7
         try clear qi7
         try clear c8
         try clear c8b0
         try clear c8b1
         try clear c9
         try clear p9
         try clear q9
         try clear hx9
         try clear qi9
         try clear c10
         try clear c10b0
         try clear c10b1
         try clear p2
         try clear p7
         try clear p9
         try clear q7
         try clear q9
         obtain ⟨x4_2, rfl, HA, HK2, ⟨m2, rfl⟩⟩ := hrel
         cases gk with
         | zero => exact absurd HA.out (by simp [spec_CronZoneName.l0])
         | succ k2 =>
          have H := HA.out;clear HA;simp only [spec_CronZoneName.l0] at H
          by_cases c11 : x4_2 < (a0.size : Int)
          ·rw [if_pos c11] at H;have c11b0 : decide (x4_2 < (a0.size : Int)) = true := decide_eq_true c11;clear c11;obtain ⟨ji12, hji12⟩ : ∃ j_ : Int, (wrap64 (x4_2 - 1)) = j_ := ⟨_, rfl⟩
           replace H : (if 0 ≤ (ji12) then (if (ji12) < (a0.size : Int) then (if (bt a0 (ji12)) = 46 then (if 0 ≤ x4_2 then (if (bt a0 x4_2) = 46 then (some (false, 0)) else (spec_CronZoneName.l0 k2 a0 (wrap64 (x4_2 + 1)))) else (none)) else (spec_CronZoneName.l0 k2 a0 (wrap64 (x4_2 + 1)))) else (none)) else (none)) = some (r1, r2) := by first | (rw [hji12] at H; exact H) | (simp only [hji12] at H ⊢; exact H)
           have hji12w : (IntKind.i64.wrap (x4_2 - 1)) = ji12 := (i64_w _).trans hji12
           by_cases c13 : 0 ≤ (ji12)
           ·rw [if_pos c13] at H;have c13b0 : decide (0 ≤ (ji12)) = true := decide_eq_true c13;clear c13
            by_cases c14 : (ji12) < (a0.size : Int)
            ·rw [if_pos c14] at H;have c14b0 : decide ((ji12) < (a0.size : Int)) = true := decide_eq_true c14;clear c14
             by_cases c16 : (bt a0 (ji12)) = 46
             ·rw [if_pos c16] at H;have c16b0 : ((bt a0 (ji12)) == 46) = true := beq_iff_eq.mpr c16;have c16b1 : ((bt a0 (ji12)) != 46) = false := bne_eq_false_iff_eq.mpr c16;clear c16
              by_cases c17 : 0 ≤ x4_2
              ·rw [if_pos c17] at H;have c17b0 : decide (0 ≤ x4_2) = true := decide_eq_true c17;clear c17
               by_cases c19 : (bt a0 x4_2) = 46
               ·rw [if_pos c19] at H;have c19b0 : ((bt a0 x4_2) == 46) = true := beq_iff_eq.mpr c19;have c19b1 : ((bt a0 x4_2) != 46) = false := bne_eq_false_iff_eq.mpr c19;clear c19;simp only [Option.some.injEq, Prod.mk.injEq] at H;obtain ⟨rfl, rfl⟩ := H;have p15 : 0 ≤ ((ji12) : Int) := of_decide_eq_true (by first | (with_reducible assumption) | assumption);have q15 : (ji12) < (a0.size : Int) := of_decide_eq_true (by first | (with_reducible assumption) | assumption);have hx15 := bt_at a0 (ji12);replace p15 := eq_true p15;replace q15 := eq_true q15;have p18 : 0 ≤ (x4_2 : Int) := of_decide_eq_true (by first | (with_reducible assumption) | assumption);have q18 : x4_2 < (a0.size : Int) := of_decide_eq_true (by first | (with_reducible assumption) | assumption);have hx18 := bt_at a0 x4_2;replace p18 := eq_true p18;replace q18 := eq_true q18
                go_wp2
                go_ret2
                exact ⟨by first | rfl | (simp; done) | (simp only [← hji12] <;> (first | rfl | simp)) | (simp [*]; done), by repeat (first | exact Drawn0.refl _ | apply Drawn0.step)⟩
               ·rw [if_neg c19] at H;have c19b0 : ((bt a0 x4_2) == 46) = false := beq_eq_false_iff_ne.mpr c19;have c19b1 : ((bt a0 x4_2) != 46) = true := bne_iff_ne.mpr c19;have H' := Aside0.mk H;clear H;have p15 : 0 ≤ ((ji12) : Int) := of_decide_eq_true (by first | (with_reducible assumption) | assumption);have q15 : (ji12) < (a0.size : Int) := of_decide_eq_true (by first | (with_reducible assumption) | assumption);have hx15 := bt_at a0 (ji12);replace p15 := eq_true p15;replace q15 := eq_true q15;have p18 : 0 ≤ (x4_2 : Int) := of_decide_eq_true (by first | (with_reducible assumption) | assumption);have q18 : x4_2 < (a0.size : Int) := of_decide_eq_true (by first | (with_reducible assumption) | assumption);have hx18 := bt_at a0 x4_2;replace p18 := eq_true p18;replace q18 := eq_true q18
                go_wp2
                go_roundg k2
                case measure => have := HJ1.out; have := HK2.out; omega
                case rel => exact ⟨(wrap64 (x4_2 + 1)), (by first | rfl | (simp; done) | (simp [*]; done)), H', ⟨by have := HJ1.out; have := HK2.out; omega⟩, by repeat (first | exact Drawn0.refl _ | apply Drawn0.step)⟩
              ·rw [if_neg c17] at H;exact absurd H (by simp)
             ·rw [if_neg c16] at H;have c16b0 : ((bt a0 (ji12)) == 46) = false := beq_eq_false_iff_ne.mpr c16;have c16b1 : ((bt a0 (ji12)) != 46) = true := bne_iff_ne.mpr c16;have H' := Aside0.mk H;clear H;have p15 : 0 ≤ ((ji12) : Int) := of_decide_eq_true (by first | (with_reducible assumption) | assumption);have q15 : (ji12) < (a0.size : Int) := of_decide_eq_true (by first | (with_reducible assumption) | assumption);have hx15 := bt_at a0 (ji12);replace p15 := eq_true p15;replace q15 := eq_true q15
              go_wp2
              go_roundg k2
              case measure => have := HJ1.out; have := HK2.out; omega
              case rel => exact ⟨(wrap64 (x4_2 + 1)), (by first | rfl | (simp; done) | (simp [*]; done)), H', ⟨by have := HJ1.out; have := HK2.out; omega⟩, by repeat (first | exact Drawn0.refl _ | apply Drawn0.step)⟩
            ·rw [if_neg c14] at H;exact absurd H (by simp)
           ·rw [if_neg c13] at H;exact absurd H (by simp)
          ·rw [if_neg c11] at H;have c11b0 : decide (x4_2 < (a0.size : Int)) = false := decide_eq_false c11;clear c11;simp only [Option.some.injEq, Prod.mk.injEq] at H;obtain ⟨rfl, rfl⟩ := H
           go_wp2
           go_ret2
           exact ⟨by first | rfl | (simp; done) | (simp [*]; done), by repeat (first | exact Drawn0.refl _ | apply Drawn0.step)⟩
     ·rw [if_neg c6] at H;exact absurd H (by simp)
end Go.Proofs.YtmecbmgfacpecaaGreatDoor.Pr
namespace Go.Proofs.YtmecbmgfacpecaaGreatDoor.Pr
open Go.RowKit Go.Proofs.YtmecbmgfacpecaaGreatDoorW.PrintWords Go.Proofs.YtmecbmgfacpecaaGreatDoorW.PrintLast Go.Proofs.YtmecbmgfacpecaaGreatDoorW.PrintMore
attribute [local go_sem] max2_int min2_int max_two min_two max_three min_three max_four min_four   -- for this text's walks alone
set_option linter.unusedVariables false
set_option linter.unusedSimpArgs false
mutual
def spec_CronTrim.j1 : Nat → ByteArray → Option (ByteArray)
 | 0, _ => none
 | k + 1, x0 => spec_CronTrim.l1 k x0
def spec_CronTrim.l1 : Nat → ByteArray → Option (ByteArray)
 | 0, _ => none
 | k + 1, x0 => if x0.toList = ([] : List UInt8) then (some x0) else (if 0 ≤ (wrap64 ((x0.size : Int) - 1)) then (if (wrap64 ((x0.size : Int) - 1)) < (x0.size : Int) then ((spec_cronBlank.f (bt x0 (wrap64 ((x0.size : Int) - 1)))).bind fun t163 => (if t163 = true then (if (wrap64 ((x0.size : Int) - 1)) ≤ (x0.size : Int) then (spec_CronTrim.l1 k (x0.extract 0 ((wrap64 ((x0.size : Int) - 1)) : Int).toNat)) else (none)) else (some x0))) else (none)) else (none))
def spec_CronTrim.l0 : Nat → ByteArray → Option (ByteArray)
 | 0, _ => none
 | k + 1, x0 => if x0.toList = ([] : List UInt8) then (spec_CronTrim.j1 k x0) else (if 0 < (x0.size : Int) then ((spec_cronBlank.f (bt x0 0)).bind fun t162 => (if t162 = true then (if 1 ≤ (x0.size : Int) then (spec_CronTrim.l0 k (x0.extract 1 x0.size)) else (none)) else (spec_CronTrim.j1 k x0))) else (none))
end
def spec_CronTrim.f (k : Nat) (a0 : ByteArray) : Option (ByteArray) := spec_CronTrim.l0 k a0
theorem spec_CronTrim.mono_l : ∀ k, (∀ y0, LeO (spec_CronTrim.j1 k y0) (spec_CronTrim.j1 (k + 1) y0)) ∧ (∀ y0, LeO (spec_CronTrim.l1 k y0) (spec_CronTrim.l1 (k + 1) y0)) ∧ (∀ y0, LeO (spec_CronTrim.l0 k y0) (spec_CronTrim.l0 (k + 1) y0))
 | 0 => ⟨fun _ r h => by simp [spec_CronTrim.j1] at h, fun _ r h => by simp [spec_CronTrim.l1] at h, fun _ r h => by simp [spec_CronTrim.l0] at h⟩
 | k + 1 => by
  obtain ⟨ih0, ih1, ih2⟩ := spec_CronTrim.mono_l k;refine ⟨?_, ?_, ?_⟩;intro y0;unfold spec_CronTrim.j1;rotate_left;intro y0;unfold spec_CronTrim.l1;rotate_left;intro y0;unfold spec_CronTrim.l0;rotate_left
  all_goals repeat' first
  | (with_reducible exact ih0 _)
  | (with_reducible exact ih1 _)
  | (with_reducible exact ih2 _)
  | (with_reducible exact LeO.refl _)
  | (with_reducible exact LeO.none _)
  | (with_reducible refine LeO.ite ?_ ?_)
  | (with_reducible refine LeO.bind ?_ (fun _ => ?_))
  | exact ih0 _
  | exact ih1 _
  | exact ih2 _
  | exact LeO.none _
  | refine LeO.ite ?_ ?_
  | refine LeO.bind ?_ (fun _ => ?_)
theorem spec_CronTrim.mono : ∀ a0 k, LeO (spec_CronTrim.f k a0) (spec_CronTrim.f (k + 1) a0) := by
 intro a0 k;obtain ⟨ih0, ih1, ih2⟩ := spec_CronTrim.mono_l k;unfold spec_CronTrim.f
 repeat' first
  | (with_reducible exact ih0 _)
  | (with_reducible exact ih1 _)
  | (with_reducible exact ih2 _)
  | (with_reducible exact LeO.refl _)
  | (with_reducible exact LeO.none _)
  | (with_reducible refine LeO.ite ?_ ?_)
  | (with_reducible refine LeO.bind ?_ (fun _ => ?_))
  | exact ih0 _
  | exact ih1 _
  | exact ih2 _
  | exact LeO.none _
  | refine LeO.ite ?_ ?_
  | refine LeO.bind ?_ (fun _ => ?_)
set_option maxHeartbeats 8000000 in
set_option maxRecDepth 100000 in
theorem spec_CronTrim.calls (k : Nat) (a0 : ByteArray) (r : ByteArray) (w : World) (h : spec_CronTrim.f k a0 = some r) :
  Calls Tryz.prog 91 #[.string a0] w fun e w' => e = .returned (.string r) ∧ Drawn0 w w' := by
 have H : (spec_CronTrim.l0 k a0) = some r := h;clear h;have HC2 := Aside0.mk H;clear H
 go_enter Tryz.func91, Tryz.ntmps91
 go_upto_block 0 with (fail)
 go_cut [0] (fun v0 wc => ∃ (kq : Nat) (x0_1 : ByteArray), v0 = .string x0_1 ∧ Aside0 (spec_CronTrim.j1 kq x0_1 = some r) ∧ Aside0 (kq ≤ k) ∧ Drawn0 w wc)
 case first =>
  have H := HC2.out;clear HC2;have H' := Aside0.mk H;clear H
  go_wp2
  go_loopg [0] k (fun kq v0 w' => ∃ (x0_1 : ByteArray), v0 = .string x0_1 ∧ Aside0 (spec_CronTrim.l0 kq x0_1 = some r) ∧ Aside0 (kq ≤ k) ∧ Drawn0 w w')
  case atStart => exact ⟨(a0), (by first | rfl | (simp; done) | (simp [*]; done)), H', ⟨Nat.le_refl _⟩, by repeat (first | exact Drawn0.refl _ | apply Drawn0.step)⟩
  case round =>
   clear H'
   try clear p2
   obtain ⟨x0_1, rfl, HA, HK1, ⟨m1, rfl⟩⟩ := hrel
   cases gk with
   | zero => exact absurd HA.out (by simp [spec_CronTrim.l0])
   | succ k1 =>
    have H := HA.out;clear HA;simp only [spec_CronTrim.l0] at H
    by_cases c3 : x0_1.toList = ([] : List UInt8)
    ·rw [if_pos c3] at H;have c3b0 : (x0_1.toList == ([] : List UInt8)) = true := beq_iff_eq.mpr c3;have c3b1 : (x0_1.toList != ([] : List UInt8)) = false := bne_eq_false_iff_eq.mpr c3;clear c3
     (first | rw [c3b0] | (simp only [i64_w, i32_w]; rw [c3b0]) | skip)
     have H' := Aside0.mk H;clear H
     go_wp2
     go_meet
     case rel => exact ⟨_, (x0_1), (by first | rfl | (simp; done) | (simp [*]; done)), H', ⟨by have := HK1.out; first | omega | exact Nat.le_refl _⟩, by repeat (first | exact Drawn0.refl _ | apply Drawn0.step)⟩
    ·rw [if_neg c3] at H;have c3b0 : (x0_1.toList == ([] : List UInt8)) = false := beq_eq_false_iff_ne.mpr c3;have c3b1 : (x0_1.toList != ([] : List UInt8)) = true := bne_iff_ne.mpr c3
     (first | rw [c3b0] | (simp only [i64_w, i32_w]; rw [c3b0]) | skip)
     by_cases c4 : 0 < (x0_1.size : Int)
     ·rw [if_pos c4] at H;have c4b0 : decide (0 < (x0_1.size : Int)) = true := decide_eq_true c4;have c4b1 : decide (0 < x0_1.size) = true := decide_eq_true (by omega);clear c4;replace H := Option.bind_eq_some_iff.mp H;obtain ⟨t162, A60, H⟩ := H;replace H : (if t162 = true then (if 1 ≤ (x0_1.size : Int) then (spec_CronTrim.l0 k1 (x0_1.extract 1 x0_1.size)) else (none)) else (spec_CronTrim.j1 k1 x0_1)) = some r := H;have A6 := Aside0.mk A60;clear A60
      by_cases c7 : t162 = true
      ·subst c7;have H1 : (if 1 ≤ (x0_1.size : Int) then (spec_CronTrim.l0 k1 (x0_1.extract 1 x0_1.size)) else (none)) = some r := by rw [if_pos rfl] at H; exact H
       clear H;have H := H1;clear H1
       by_cases c8 : 1 ≤ (x0_1.size : Int)
       ·rw [if_pos c8] at H;have c8b0 := eq_true c8;have c8b1 : decide (1 ≤ (x0_1.size : Int)) = true := decide_eq_true c8;clear c8;have H' := Aside0.mk H;clear H;have p5 : 0 ≤ (0 : Int) := (by omega)
        have q5 : 0 < x0_1.size := (by have : (0 : Int) < (x0_1.size : Int) := of_decide_eq_true (by first | (with_reducible assumption) | assumption); omega)
        have hx5 : ∀ h : 0 < x0_1.size, ((x0_1[0]'h).toNat : Int) = bt x0_1 0 := bt_at x0_1 0;clear p5;have qi5 : (0 < (x0_1.size : Int)) = True := eq_true (of_decide_eq_true (by first | (with_reducible assumption) | assumption));replace q5 := eq_true q5
        go_wp2_with (first | (go_at_call 62; (with_reducible refine (spec_cronBlank.calls (bt x0_1 0) true _ A6.out).mono ?_); rintro e w' ⟨rfl, ⟨nd, rfl⟩⟩))
        go_roundg k1
        case measure => have := HK1.out; omega
        case rel => exact ⟨(x0_1.extract 1 x0_1.size), (by first | rfl | (simp; done) | (simp [*]; done)), H', ⟨by have := HK1.out; omega⟩, by repeat (first | exact Drawn0.refl _ | apply Drawn0.step)⟩
       ·rw [if_neg c8] at H;exact absurd H (by simp)
      ·replace c7 := Bool.eq_false_iff.mpr c7;subst c7;have H1 : (spec_CronTrim.j1 k1 x0_1) = some r := by rw [if_neg (show ¬ (false = true) by decide)] at H; exact H
       clear H;have H := H1;clear H1;have H' := Aside0.mk H;clear H;have p5 : 0 ≤ (0 : Int) := (by omega)
       have q5 : 0 < x0_1.size := (by have : (0 : Int) < (x0_1.size : Int) := of_decide_eq_true (by first | (with_reducible assumption) | assumption); omega)
       have hx5 : ∀ h : 0 < x0_1.size, ((x0_1[0]'h).toNat : Int) = bt x0_1 0 := bt_at x0_1 0;clear p5;have qi5 : (0 < (x0_1.size : Int)) = True := eq_true (of_decide_eq_true (by first | (with_reducible assumption) | assumption));replace q5 := eq_true q5
       go_wp2_with (first | (go_at_call 62; (with_reducible refine (spec_cronBlank.calls (bt x0_1 0) false _ A6.out).mono ?_); rintro e w' ⟨rfl, ⟨nd, rfl⟩⟩))
       go_meet
       case rel => exact ⟨_, (x0_1), (by first | rfl | (simp; done) | (simp [*]; done)), H', ⟨by have := HK1.out; first | omega | exact Nat.le_refl _⟩, by repeat (first | exact Drawn0.refl _ | apply Drawn0.step)⟩
     ·rw [if_neg c4] at H;exact absurd H (by simp)
 case rest =>
  clear HC2
  try clear p2
  try clear c3
  try clear c3b0
  try clear c3b1
  try clear c4
  try clear c4b0
  try clear c4b1
  try clear p5
  try clear q5
  try clear hx5
  try clear qi5
  try clear c7
  try clear c8
  try clear c8b0
  try clear c8b1
  try clear p2
  try clear p5
  try clear q5
  obtain ⟨kq, x0_1, rfl, HA, HJ1, ⟨mc1, rfl⟩⟩ := hcut
  cases kq with
  | zero => exact absurd HA.out (by simp [spec_CronTrim.j1])
  | succ kj1 =>
   have H := HA.out;clear HA;simp only [spec_CronTrim.j1] at H;have H' := Aside0.mk H;clear H
   go_wp2
   go_loopg [0] kj1 (fun kq v0 w' => ∃ (x0_2 : ByteArray), v0 = .string x0_2 ∧ Aside0 (spec_CronTrim.l1 kq x0_2 = some r) ∧ Aside0 (kq ≤ kj1) ∧ Drawn0 w w')
   case atStart => exact ⟨(x0_1), (by first | rfl | (simp; done) | (simp [*]; done)), H', ⟨Nat.le_refl _⟩, by repeat (first | exact Drawn0.refl _ | apply Drawn0.step)⟩
   case round =>
    clear H'
    try clear c1
    try clear p2
    try clear c3
    try clear c3b0
    try clear c3b1
    try clear c4
    try clear c4b0
    try clear c4b1
    try clear p5
    try clear q5
    try clear hx5
    try clear qi5
    try clear c7
    try clear c8
    try clear c8b0
    try clear c8b1
    try clear p2
    try clear p5
    try clear q5
    obtain ⟨x0_2, rfl, HA, HK2, ⟨m2, rfl⟩⟩ := hrel
    cases gk with
    | zero => exact absurd HA.out (by simp [spec_CronTrim.l1])
    | succ k2 =>
     have H := HA.out;clear HA;simp only [spec_CronTrim.l1] at H
     by_cases c9 : x0_2.toList = ([] : List UInt8)
     ·rw [if_pos c9] at H;have c9b0 : (x0_2.toList == ([] : List UInt8)) = true := beq_iff_eq.mpr c9;have c9b1 : (x0_2.toList != ([] : List UInt8)) = false := bne_eq_false_iff_eq.mpr c9;clear c9;obtain rfl := Option.some.inj H
      go_wp2
      go_ret
      exact ⟨by first | rfl | (simp; done) | (simp [*]; done), by repeat (first | exact Drawn0.refl _ | apply Drawn0.step)⟩
     ·rw [if_neg c9] at H;have c9b0 : (x0_2.toList == ([] : List UInt8)) = false := beq_eq_false_iff_ne.mpr c9;have c9b1 : (x0_2.toList != ([] : List UInt8)) = true := bne_iff_ne.mpr c9;obtain ⟨ji10, hji10⟩ : ∃ j_ : Int, (wrap64 ((x0_2.size : Int) - 1)) = j_ := ⟨_, rfl⟩
      replace H : (if 0 ≤ (ji10) then (if (ji10) < (x0_2.size : Int) then ((spec_cronBlank.f (bt x0_2 (ji10))).bind fun t163 => (if t163 = true then (if (ji10) ≤ (x0_2.size : Int) then (spec_CronTrim.l1 k2 (x0_2.extract 0 ((ji10) : Int).toNat)) else (none)) else (some x0_2))) else (none)) else (none)) = some r := by first | (rw [hji10] at H; exact H) | (simp only [hji10] at H ⊢; exact H)
      have hji10w : (IntKind.i64.wrap ((x0_2.size : Int) - 1)) = ji10 := (i64_w _).trans hji10
      by_cases c11 : 0 ≤ (ji10)
      ·rw [if_pos c11] at H;have c11b0 : decide (0 ≤ (ji10)) = true := decide_eq_true c11;clear c11
       by_cases c12 : (ji10) < (x0_2.size : Int)
       ·rw [if_pos c12] at H;have c12b0 : decide ((ji10) < (x0_2.size : Int)) = true := decide_eq_true c12;clear c12;replace H := Option.bind_eq_some_iff.mp H;obtain ⟨t163, A140, H⟩ := H;replace H : (if t163 = true then (if (ji10) ≤ (x0_2.size : Int) then (spec_CronTrim.l1 k2 (x0_2.extract 0 ((ji10) : Int).toNat)) else (none)) else (some x0_2)) = some r := H;have A14 := Aside0.mk A140;clear A140
        by_cases c15 : t163 = true
        ·subst c15;have H1 : (if (ji10) ≤ (x0_2.size : Int) then (spec_CronTrim.l1 k2 (x0_2.extract 0 ((ji10) : Int).toNat)) else (none)) = some r := by rw [if_pos rfl] at H; exact H
         clear H;have H := H1;clear H1;have c16b0 := eq_true (of_decide_eq_true (by first | (with_reducible assumption) | assumption) : 0 ≤ (ji10))
         by_cases c17 : (ji10) ≤ (x0_2.size : Int)
         ·rw [if_pos c17] at H;have c17b0 := eq_true c17;have c17b1 : decide ((ji10) ≤ (x0_2.size : Int)) = true := decide_eq_true c17;clear c17;have H' := Aside0.mk H;clear H;have p13 : 0 ≤ ((ji10) : Int) := of_decide_eq_true (by first | (with_reducible assumption) | assumption);have q13 : (ji10) < (x0_2.size : Int) := of_decide_eq_true (by first | (with_reducible assumption) | assumption);have hx13 := bt_at x0_2 (ji10);replace p13 := eq_true p13;replace q13 := eq_true q13
          go_wp2_with (first | (go_at_call 62; (with_reducible refine (spec_cronBlank.calls (bt x0_2 (ji10)) true _ A14.out).mono ?_); rintro e w' ⟨rfl, ⟨nd, rfl⟩⟩))
          go_roundg k2
          case measure => have := HJ1.out; have := HK2.out; omega
          case rel => exact ⟨(x0_2.extract 0 ((ji10) : Int).toNat), (by first | rfl | (simp; done) | (simp only [← hji10] <;> (first | rfl | simp)) | (simp [*]; done)), H', ⟨by have := HJ1.out; have := HK2.out; omega⟩, by repeat (first | exact Drawn0.refl _ | apply Drawn0.step)⟩
         ·rw [if_neg c17] at H;exact absurd H (by simp)
        ·replace c15 := Bool.eq_false_iff.mpr c15;subst c15;have H1 : (some x0_2) = some r := by rw [if_neg (show ¬ (false = true) by decide)] at H; exact H
         clear H;have H := H1;clear H1;obtain rfl := Option.some.inj H;have p13 : 0 ≤ ((ji10) : Int) := of_decide_eq_true (by first | (with_reducible assumption) | assumption);have q13 : (ji10) < (x0_2.size : Int) := of_decide_eq_true (by first | (with_reducible assumption) | assumption);have hx13 := bt_at x0_2 (ji10);replace p13 := eq_true p13;replace q13 := eq_true q13
         go_wp2_with (first | (go_at_call 62; (with_reducible refine (spec_cronBlank.calls (bt x0_2 (ji10)) false _ A14.out).mono ?_); rintro e w' ⟨rfl, ⟨nd, rfl⟩⟩))
         go_ret
         exact ⟨by first | rfl | (simp; done) | (simp only [← hji10] <;> (first | rfl | simp)) | (simp [*]; done), by repeat (first | exact Drawn0.refl _ | apply Drawn0.step)⟩
       ·rw [if_neg c12] at H;exact absurd H (by simp)
      ·rw [if_neg c11] at H;exact absurd H (by simp)
end Go.Proofs.YtmecbmgfacpecaaGreatDoor.Pr
