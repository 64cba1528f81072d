/- Functions of the program and of its library as plain Lean functions, printed by the kit's print.sh, merged by wip/tools/pack.py. Conditions: none. -/
import Derived.Test.YtmecbmgfacpecaaGreatDoorPrA
set_option linter.unusedVariables false
set_option linter.unusedSimpArgs false
namespace Go.Proofs.YtmecbmgfacpecaaGreatDoor.Pr
open Go.RowKit Go.Proofs.YtmecbmgfacpecaaGreatDoorW.PrintWords Go.Proofs.YtmecbmgfacpecaaGreatDoorW.PrintLast Go.Proofs.YtmecbmgfacpecaaGreatDoorW.PrintMore
attribute [local go_sem] max2_int min2_int max_two min_two max_three min_three max_four min_four   -- for this text's walks alone
attribute [local go_sem high] eqA26
def gotime_containsDotDot.l0 : Nat → ByteArray → Int → Option (Bool)
 | 0, _, _ => none
 | k + 1, x0, x3 => if x3 < (wrap64 ((x0.size : Int) - 1)) then (if 0 ≤ x3 then (if x3 < (x0.size : Int) then (if (bt x0 x3) = 46 then (if 0 ≤ (wrap64 (x3 + 1)) then (if (wrap64 (x3 + 1)) < (x0.size : Int) then (if (bt x0 (wrap64 (x3 + 1))) = 46 then (some true) else (gotime_containsDotDot.l0 k x0 (wrap64 (x3 + 1)))) else (none)) else (none)) else (gotime_containsDotDot.l0 k x0 (wrap64 (x3 + 1)))) else (none)) else (none)) else (some false)
def gotime_containsDotDot.f (k : Nat) (a0 : ByteArray) : Option (Bool) := if (a0.size : Int) < 2 then (some false) else (gotime_containsDotDot.l0 k a0 0)
theorem gotime_containsDotDot.mono_l : ∀ k, (∀ y0 y1, LeO (gotime_containsDotDot.l0 k y0 y1) (gotime_containsDotDot.l0 (k + 1) y0 y1))
 | 0 => fun _ _ r h => by simp [gotime_containsDotDot.l0] at h
 | k + 1 => by
  have ih0 := gotime_containsDotDot.mono_l k
  ·intro y0 y1;unfold gotime_containsDotDot.l0;repeat' first
   | (with_reducible exact ih0 _ _)
   | (with_reducible exact LeO.refl _)
   | (with_reducible exact LeO.none _)
   | (with_reducible refine LeO.ite ?_ ?_)
   | (with_reducible refine LeO.bind ?_ (fun _ => ?_))
   | exact ih0 _ _
   | exact LeO.none _
   | refine LeO.ite ?_ ?_
   | refine LeO.bind ?_ (fun _ => ?_)
theorem gotime_containsDotDot.mono : ∀ a0 k, LeO (gotime_containsDotDot.f k a0) (gotime_containsDotDot.f (k + 1) a0) := by
 intro a0 k;have ih0 := gotime_containsDotDot.mono_l k;unfold gotime_containsDotDot.f
 repeat' first
  | (with_reducible exact ih0 _ _)
  | (with_reducible exact LeO.refl _)
  | (with_reducible exact LeO.none _)
  | (with_reducible refine LeO.ite ?_ ?_)
  | (with_reducible refine LeO.bind ?_ (fun _ => ?_))
  | exact ih0 _ _
  | exact LeO.none _
  | refine LeO.ite ?_ ?_
  | refine LeO.bind ?_ (fun _ => ?_)
set_option maxHeartbeats 8000000 in
set_option maxRecDepth 100000 in
theorem gotime_containsDotDot.calls (k : Nat) (a0 : ByteArray) (r : Bool) (w : World) (h : gotime_containsDotDot.f k a0 = some r) :
  Calls Tryz.prog 142 #[.string a0] w fun e w' => e = .returned (.bool r) ∧ Drawn0 w w' := by
 have H : (if (a0.size : Int) < 2 then (some false) else (gotime_containsDotDot.l0 k a0 0)) = some r := h;clear h;by_cases c2 : (a0.size : Int) < 2
 ·rw [if_pos c2] at H;have c2b0 : decide ((a0.size : Int) < 2) = true := decide_eq_true c2;have c2b1 : decide (a0.size < 2) = true := decide_eq_true (by omega);clear c2;obtain rfl := Option.some.inj H;go_enter Tryz.func142, Tryz.ntmps142;go_wp2
  go_ret;exact ⟨by first | rfl | (simp; done) | (simp [*]; done), by repeat (first | exact Drawn0.refl _ | apply Drawn0.step)⟩
 ·rw [if_neg c2] at H;have c2b0 : decide ((a0.size : Int) < 2) = false := decide_eq_false c2;have c2b1 : decide (a0.size < 2) = false := decide_eq_false (by omega);clear c2;have H' := Aside0.mk H;clear H;go_enter Tryz.func142, Tryz.ntmps142;go_wp2
  go_loopg [3] k (fun kq v3 w' => ∃ (x3_1 : Int), v3 = .int .i64 x3_1 ∧ Aside0 (gotime_containsDotDot.l0 kq a0 x3_1 = some r) ∧ Aside0 (kq ≤ k) ∧ Drawn0 w w')
  case atStart => exact ⟨(0), (by first | rfl | (simp; done) | (simp [*]; done)), H', ⟨Nat.le_refl _⟩, by repeat (first | exact Drawn0.refl _ | apply Drawn0.step)⟩
  case round =>
   clear H';try clear c1
   try clear c2
   try clear c2b0
   try clear c2b1
   try clear p2
   obtain ⟨x3_1, rfl, HA, HK1, ⟨m1, rfl⟩⟩ := hrel;cases gk with
   | zero => exact absurd HA.out (by simp [gotime_containsDotDot.l0])
   | succ k1 =>
    have H := HA.out;clear HA;simp only [gotime_containsDotDot.l0] at H;by_cases c3 : x3_1 < (wrap64 ((a0.size : Int) - 1))
    ·rw [if_pos c3] at H;have c3b0 : decide (x3_1 < (wrap64 ((a0.size : Int) - 1))) = true := decide_eq_true c3;clear c3;by_cases c4 : 0 ≤ x3_1
     ·rw [if_pos c4] at H;have c4b0 : decide (0 ≤ x3_1) = true := decide_eq_true c4;clear c4;by_cases c5 : x3_1 < (a0.size : Int)
      ·rw [if_pos c5] at H;have c5b0 : decide (x3_1 < (a0.size : Int)) = true := decide_eq_true c5;clear c5;by_cases c7 : (bt a0 x3_1) = 46
       ·rw [if_pos c7] at H;have c7b0 : ((bt a0 x3_1) == 46) = true := beq_iff_eq.mpr c7;have c7b1 : ((bt a0 x3_1) != 46) = false := bne_eq_false_iff_eq.mpr c7;clear c7;obtain ⟨ji8, hji8⟩ : ∃ j_ : Int, (wrap64 (x3_1 + 1)) = j_ := ⟨_, rfl⟩
        replace H : (if 0 ≤ (ji8) then (if (ji8) < (a0.size : Int) then (if (bt a0 (ji8)) = 46 then (some true) else (gotime_containsDotDot.l0 k1 a0 ji8)) else (none)) else (none)) = some r := by first | (rw [hji8] at H; exact H) | (simp only [hji8] at H ⊢; exact H)
        have hji8w : (IntKind.i64.wrap (x3_1 + 1)) = ji8 := (i64_w _).trans hji8;by_cases c9 : 0 ≤ (ji8)
        ·rw [if_pos c9] at H;have c9b0 : decide (0 ≤ (ji8)) = true := decide_eq_true c9;clear c9;by_cases c10 : (ji8) < (a0.size : Int)
         ·rw [if_pos c10] at H;have c10b0 : decide ((ji8) < (a0.size : Int)) = true := decide_eq_true c10;clear c10;by_cases c12 : (bt a0 (ji8)) = 46
          ·rw [if_pos c12] at H;have c12b0 : ((bt a0 (ji8)) == 46) = true := beq_iff_eq.mpr c12;have c12b1 : ((bt a0 (ji8)) != 46) = false := bne_eq_false_iff_eq.mpr c12;clear c12;obtain rfl := Option.some.inj H;have p6 : 0 ≤ (x3_1 : Int) := of_decide_eq_true (by first | (with_reducible assumption) | assumption);have q6 : x3_1 < (a0.size : Int) := of_decide_eq_true (by first | (with_reducible assumption) | assumption);have hx6 := bt_at a0 x3_1;replace p6 := eq_true p6;replace q6 := eq_true q6;have p11 : 0 ≤ ((ji8) : Int) := of_decide_eq_true (by first | (with_reducible assumption) | assumption);have q11 : (ji8) < (a0.size : Int) := of_decide_eq_true (by first | (with_reducible assumption) | assumption);have hx11 := bt_at a0 (ji8);replace p11 := eq_true p11;replace q11 := eq_true q11;go_wp2
           go_ret;exact ⟨by first | rfl | (simp; done) | (simp only [← hji8] <;> (first | rfl | simp)) | (simp [*]; done), by repeat (first | exact Drawn0.refl _ | apply Drawn0.step)⟩
          ·rw [if_neg c12] at H;have c12b0 : ((bt a0 (ji8)) == 46) = false := beq_eq_false_iff_ne.mpr c12;have c12b1 : ((bt a0 (ji8)) != 46) = true := bne_iff_ne.mpr c12;have H' := Aside0.mk H;clear H;have p6 : 0 ≤ (x3_1 : Int) := of_decide_eq_true (by first | (with_reducible assumption) | assumption);have q6 : x3_1 < (a0.size : Int) := of_decide_eq_true (by first | (with_reducible assumption) | assumption);have hx6 := bt_at a0 x3_1;replace p6 := eq_true p6;replace q6 := eq_true q6;have p11 : 0 ≤ ((ji8) : Int) := of_decide_eq_true (by first | (with_reducible assumption) | assumption);have q11 : (ji8) < (a0.size : Int) := of_decide_eq_true (by first | (with_reducible assumption) | assumption);have hx11 := bt_at a0 (ji8);replace p11 := eq_true p11;replace q11 := eq_true q11;go_wp2
           go_roundg k1
           case measure => have := HK1.out; omega
           case rel => exact ⟨(ji8), (by first | rfl | (simp; done) | (simp only [← hji8] <;> (first | rfl | simp)) | (simp [*]; done)), H', ⟨by have := HK1.out; omega⟩, by repeat (first | exact Drawn0.refl _ | apply Drawn0.step)⟩
         ·rw [if_neg c10] at H;exact absurd H (by simp)
        ·rw [if_neg c9] at H;exact absurd H (by simp)
       ·rw [if_neg c7] at H;have c7b0 : ((bt a0 x3_1) == 46) = false := beq_eq_false_iff_ne.mpr c7;have c7b1 : ((bt a0 x3_1) != 46) = true := bne_iff_ne.mpr c7;have H' := Aside0.mk H;clear H;have p6 : 0 ≤ (x3_1 : Int) := of_decide_eq_true (by first | (with_reducible assumption) | assumption);have q6 : x3_1 < (a0.size : Int) := of_decide_eq_true (by first | (with_reducible assumption) | assumption);have hx6 := bt_at a0 x3_1;replace p6 := eq_true p6;replace q6 := eq_true q6;go_wp2
        go_roundg k1
        case measure => have := HK1.out; omega
        case rel => exact ⟨(wrap64 (x3_1 + 1)), (by first | rfl | (simp; done) | (simp [*]; done)), H', ⟨by have := HK1.out; omega⟩, by repeat (first | exact Drawn0.refl _ | apply Drawn0.step)⟩
      ·rw [if_neg c5] at H;exact absurd H (by simp)
     ·rw [if_neg c4] at H;exact absurd H (by simp)
    ·rw [if_neg c3] at H;have c3b0 : decide (x3_1 < (wrap64 ((a0.size : Int) - 1))) = false := decide_eq_false c3;clear c3;obtain rfl := Option.some.inj H;go_wp2
     go_ret;exact ⟨by first | rfl | (simp; done) | (simp [*]; done), by repeat (first | exact Drawn0.refl _ | apply Drawn0.step)⟩
end Go.Proofs.YtmecbmgfacpecaaGreatDoor.Pr
namespace Go.Proofs.YtmecbmgfacpecaaGreatDoor.Pr
open Go.RowKit Go.Proofs.YtmecbmgfacpecaaGreatDoorW.PrintWords Go.Proofs.YtmecbmgfacpecaaGreatDoorW.PrintLast Go.Proofs.YtmecbmgfacpecaaGreatDoorW.PrintMore
attribute [local go_sem] max2_int min2_int max_two min_two max_three min_three max_four min_four
def spec_cronBlank.f (a0 : Int) : Option (Bool) := if a0 = 32 then (some true) else (if 9 ≤ a0 then (some (decide (a0 ≤ 13))) else (some false))
set_option maxHeartbeats 8000000 in
set_option maxRecDepth 100000 in
theorem spec_cronBlank.calls (a0 : Int) (r : Bool) (w : World) (h : spec_cronBlank.f a0 = some r) :
  Calls Tryz.prog 62 #[.int .u8 a0] w fun e w' => e = .returned (.bool r) ∧ Drawn0 w w' := by
 have H : (if a0 = 32 then (some true) else (if 9 ≤ a0 then (some (decide (a0 ≤ 13))) else (some false))) = some r := h;clear h;by_cases c2 : a0 = 32
 ·rw [if_pos c2] at H;have c2b0 : (a0 == 32) = true := beq_iff_eq.mpr c2;have c2b1 : (a0 != 32) = false := bne_eq_false_iff_eq.mpr c2;clear c2;obtain rfl := Option.some.inj H;go_enter Tryz.func62, Tryz.ntmps62;go_wp2
  go_ret;exact ⟨by first | rfl | (simp; done) | (simp [*]; done), by repeat (first | exact Drawn0.refl _ | apply Drawn0.step)⟩
 ·rw [if_neg c2] at H;have c2b0 : (a0 == 32) = false := beq_eq_false_iff_ne.mpr c2;have c2b1 : (a0 != 32) = true := bne_iff_ne.mpr c2;by_cases c3 : 9 ≤ a0
  ·rw [if_pos c3] at H;have c3b0 : decide (9 ≤ a0) = true := decide_eq_true c3;clear c3;obtain rfl := Option.some.inj H;go_enter Tryz.func62, Tryz.ntmps62;go_wp2
   go_ret;exact ⟨by first | rfl | (simp; done) | (simp [*]; done), by repeat (first | exact Drawn0.refl _ | apply Drawn0.step)⟩
  ·rw [if_neg c3] at H;have c3b0 : decide (9 ≤ a0) = false := decide_eq_false c3;clear c3;obtain rfl := Option.some.inj H;go_enter Tryz.func62, Tryz.ntmps62;go_wp2
   go_ret;exact ⟨by first | rfl | (simp; done) | (simp [*]; done), by repeat (first | exact Drawn0.refl _ | apply Drawn0.step)⟩
mutual
def spec_CronWords.l0 : Nat → ByteArray → List ByteArray → Int → Int → Int → Option (List ByteArray)
 | 0, _, _, _, _, _ => none
 | k + 1, x0, x3, x4, x7, x8 => if x8 < x7 then (if 0 ≤ x8 then (if x8 < (x0.size : Int) then ((spec_cronBlank.f (bt x0 x8)).bind fun t105 => (if t105 = true then (spec_CronWords.j1 k x0 x3 x4 x8 x7 x8 (decide (x4 ≥ 0))) else (spec_CronWords.j1 k x0 x3 x4 x8 x7 x8 false))) else (none)) else (none)) else (if x4 ≥ 0 then (if 0 ≤ x4 then (if x4 ≤ (x0.size : Int) then (if x3.length < 8796093022208 then (some (x3 ++ [x0.extract (x4 : Int).toNat x0.size])) else (none)) else (none)) else (none)) else (some x3))
def spec_CronWords.j1 : Nat → ByteArray → List ByteArray → Int → Int → Int → Int → Bool → Option (List ByteArray)
 | 0, _, _, _, _, _, _, _ => none
 | k + 1, x0, x3, x4, x5, x7, x8, x11 => if x11 = true then (if 0 ≤ x4 then (if x4 ≤ x5 then (if x5 ≤ (x0.size : Int) then (if x3.length < 8796093022208 then (spec_CronWords.l0 k x0 (x3 ++ [x0.extract (x4 : Int).toNat (x5 : Int).toNat]) (-1) x7 (wrap64 (x8 + 1))) else (none)) else (none)) else (none)) else (none)) else (if 0 ≤ x5 then (if x5 < (x0.size : Int) then ((spec_cronBlank.f (bt x0 x5)).bind fun t109 => (if t109 = true then (spec_CronWords.l0 k x0 x3 x4 x7 (wrap64 (x8 + 1))) else (if x4 < 0 then (spec_CronWords.l0 k x0 x3 x5 x7 (wrap64 (x8 + 1))) else (spec_CronWords.l0 k x0 x3 x4 x7 (wrap64 (x8 + 1)))))) else (none)) else (none))
end
def spec_CronWords.f (k : Nat) (a0 : ByteArray) : Option (List ByteArray) := spec_CronWords.l0 k a0 ([] : List ByteArray) (-1) (a0.size : Int) 0
theorem spec_CronWords.mono_l : ∀ k, (∀ y0 y1 y2 y3 y4, LeO (spec_CronWords.l0 k y0 y1 y2 y3 y4) (spec_CronWords.l0 (k + 1) y0 y1 y2 y3 y4)) ∧ (∀ y0 y1 y2 y3 y4 y5 y6, LeO (spec_CronWords.j1 k y0 y1 y2 y3 y4 y5 y6) (spec_CronWords.j1 (k + 1) y0 y1 y2 y3 y4 y5 y6))
 | 0 => ⟨fun _ _ _ _ _ r h => by simp [spec_CronWords.l0] at h, fun _ _ _ _ _ _ _ r h => by simp [spec_CronWords.j1] at h⟩
 | k + 1 => by
  obtain ⟨ih0, ih1⟩ := spec_CronWords.mono_l k;refine ⟨?_, ?_⟩;intro y0 y1 y2 y3 y4;unfold spec_CronWords.l0;rotate_left;intro y0 y1 y2 y3 y4 y5 y6;unfold spec_CronWords.j1;rotate_left;all_goals repeat' first
  | (with_reducible exact ih0 _ _ _ _ _)
  | (with_reducible exact ih1 _ _ _ _ _ _ _)
  | (with_reducible exact LeO.refl _)
  | (with_reducible exact LeO.none _)
  | (with_reducible refine LeO.ite ?_ ?_)
  | (with_reducible refine LeO.bind ?_ (fun _ => ?_))
  | exact ih0 _ _ _ _ _
  | exact ih1 _ _ _ _ _ _ _
  | exact LeO.none _
  | refine LeO.ite ?_ ?_
  | refine LeO.bind ?_ (fun _ => ?_)
theorem spec_CronWords.mono : ∀ a0 k, LeO (spec_CronWords.f k a0) (spec_CronWords.f (k + 1) a0) := by
 intro a0 k;obtain ⟨ih0, ih1⟩ := spec_CronWords.mono_l k;unfold spec_CronWords.f
 repeat' first
  | (with_reducible exact ih0 _ _ _ _ _)
  | (with_reducible exact ih1 _ _ _ _ _ _ _)
  | (with_reducible exact LeO.refl _)
  | (with_reducible exact LeO.none _)
  | (with_reducible refine LeO.ite ?_ ?_)
  | (with_reducible refine LeO.bind ?_ (fun _ => ?_))
  | exact ih0 _ _ _ _ _
  | exact ih1 _ _ _ _ _ _ _
  | exact LeO.none _
  | refine LeO.ite ?_ ?_
  | refine LeO.bind ?_ (fun _ => ?_)
set_option maxHeartbeats 8000000 in
set_option maxRecDepth 100000 in
theorem spec_CronWords.calls (k : Nat) (a0 : ByteArray) (r : List ByteArray) (w : World) (h : spec_CronWords.f k a0 = some r) :
  Calls Tryz.prog 23 #[.string a0] w fun e w' => ∃ v0_ : Value, e = .returned (v0_) ∧ Kd.R Kd.string 9 w' w.heap.size (fun _ => True) v0_ r ∧ Below w.heap.size w w' := by
 have HB := Aside0.mk (Below.refl w.heap.size w);have H : (spec_CronWords.l0 k a0 ([] : List ByteArray) (-1) (a0.size : Int) 0) = some r := h;clear h;have H' := Aside0.mk H;clear H;go_enter Tryz.func23, Tryz.ntmps23;go_wp2
 go_loopg [3, 4, 8] k (fun kq v3 v4 v8 w' => ∃ (x3_1 : List ByteArray) (x4_1 : Int) (x8_1 : Int), v4 = .int .i64 x4_1 ∧ v8 = .int .i64 x8_1 ∧ Aside0 (spec_CronWords.l0 kq a0 x3_1 x4_1 (a0.size : Int) x8_1 = some r) ∧ Aside0 (kq ≤ k) ∧ Aside0 (Kd.R Kd.string 9 w' w.heap.size (fun _ => True) v3 x3_1) ∧ Aside0 (Below w.heap.size w w'))
 case atStart => exact ⟨(([] : List ByteArray)), ((-1)), (0), (by first | rfl | (simp; done) | (simp [*]; done)), (by first | rfl | (simp; done) | (simp [*]; done)), H', ⟨Nat.le_refl _⟩, ⟨by first | exact Kd.R_nil _ _ _ _ _ | exact Kd.N_nil _ _ _ _ _ | exact Kd.V_nil _ _ _ _ _ | exact Kd.Q_nil _ _ _ _ _ | exact Kd.S_nil _ _ _ _ _⟩, ⟨by repeat (first | (with_reducible first | exact HB.out | apply below_alloc | apply pw_below_drewN | apply below_drew1) | exact HB.out)⟩⟩
 case round =>
  clear H';obtain ⟨x3_1, x4_1, x8_1, rfl, rfl, HA, HK1, HO_3, HB⟩ := hrel;cases gk with
  | zero => exact absurd HA.out (by simp [spec_CronWords.l0])
  | succ k1 =>
   have H := HA.out;clear HA;simp only [spec_CronWords.l0] at H;by_cases c2 : x8_1 < (a0.size : Int)
   ·rw [if_pos c2] at H;have c2b0 : decide (x8_1 < (a0.size : Int)) = true := decide_eq_true c2;clear c2;have HC3 := Aside0.mk H;clear H;go_upto_region 6 with (fail)
    go_cut [11] (fun v11 wc => ∃ (kq : Nat) (x11_2 : Bool), v11 = .bool x11_2 ∧ Aside0 (spec_CronWords.j1 kq a0 x3_1 x4_1 x8_1 (a0.size : Int) x8_1 x11_2 = some r) ∧ Aside0 (kq ≤ k1) ∧ Aside0 (Kd.R Kd.string 9 wc w.heap.size (fun _ => True) u3 x3_1) ∧ Aside0 (Below w.heap.size w wc))
    case first =>
     have H := HC3.out;clear HC3;by_cases c4 : 0 ≤ x8_1
     ·rw [if_pos c4] at H;have c4b0 : decide (0 ≤ x8_1) = true := decide_eq_true c4;clear c4
      (first | rw [c4b0] | (simp only [i64_w, i32_w]; rw [c4b0]) | skip)
      by_cases c5 : x8_1 < (a0.size : Int)
      ·rw [if_pos c5] at H;have c5b0 : decide (x8_1 < (a0.size : Int)) = true := decide_eq_true c5;clear c5;replace H := Option.bind_eq_some_iff.mp H;obtain ⟨t105, A70, H⟩ := H;replace H : (if t105 = true then (spec_CronWords.j1 k1 a0 x3_1 x4_1 x8_1 (a0.size : Int) x8_1 (decide (x4_1 ≥ 0))) else (spec_CronWords.j1 k1 a0 x3_1 x4_1 x8_1 (a0.size : Int) x8_1 false)) = some r := H;have A7 := Aside0.mk A70;clear A70;by_cases c8 : t105 = true
       ·subst c8;have H1 : (spec_CronWords.j1 k1 a0 x3_1 x4_1 x8_1 (a0.size : Int) x8_1 (decide (x4_1 ≥ 0))) = some r := by rw [if_pos rfl] at H; exact H
        clear H;have H := H1;clear H1;have H' := Aside0.mk H;clear H;have p6 : 0 ≤ (x8_1 : Int) := of_decide_eq_true (by first | (with_reducible assumption) | assumption);have q6 : x8_1 < (a0.size : Int) := of_decide_eq_true (by first | (with_reducible assumption) | assumption);have hx6 := bt_at a0 x8_1;replace p6 := eq_true p6;replace q6 := eq_true q6;go_wp2_with (first | ((with_reducible refine gate_callee (f := 62) rfl ?_); refine goesL_ (some 15) rfl rfl Tryz.func62 (by kernel_rfl) rfl #[.int .u8 (bt a0 x8_1)] rfl (by (try simp only [List.map_toArray, List.map_cons, List.map_nil]); first | done | rfl | (simp only [List.length_drop, List.length_take]; rfl)) ?_; (with_reducible refine (spec_cronBlank.calls (bt a0 x8_1) true _ A7.out).mono ?_); rintro e w' ⟨rfl, ⟨nd, rfl⟩⟩; refine ⟨_, rfl, ?_⟩))
        go_meet
        case rel => exact ⟨_, (decide (x4_1 ≥ 0)), (by first | rfl | (simp; done) | (simp [*]; done)), H', ⟨by have := HK1.out; first | omega | exact Nat.le_refl _⟩, ⟨by (with_reducible repeat (first | apply Kd.R_alloc | apply Kd.R_drewN | apply Kd.R_drew)); exact HO_3.out⟩, ⟨by repeat (first | (with_reducible first | exact HB.out | apply below_alloc | apply pw_below_drewN | apply below_drew1) | exact HB.out)⟩⟩
       ·replace c8 := Bool.eq_false_iff.mpr c8;subst c8;have H1 : (spec_CronWords.j1 k1 a0 x3_1 x4_1 x8_1 (a0.size : Int) x8_1 false) = some r := by rw [if_neg (show ¬ (false = true) by decide)] at H; exact H
        clear H;have H := H1;clear H1;have H' := Aside0.mk H;clear H;have p6 : 0 ≤ (x8_1 : Int) := of_decide_eq_true (by first | (with_reducible assumption) | assumption);have q6 : x8_1 < (a0.size : Int) := of_decide_eq_true (by first | (with_reducible assumption) | assumption);have hx6 := bt_at a0 x8_1;replace p6 := eq_true p6;replace q6 := eq_true q6;go_wp2_with (first | ((with_reducible refine gate_callee (f := 62) rfl ?_); refine goesL_ (some 15) rfl rfl Tryz.func62 (by kernel_rfl) rfl #[.int .u8 (bt a0 x8_1)] rfl (by (try simp only [List.map_toArray, List.map_cons, List.map_nil]); first | done | rfl | (simp only [List.length_drop, List.length_take]; rfl)) ?_; (with_reducible refine (spec_cronBlank.calls (bt a0 x8_1) false _ A7.out).mono ?_); rintro e w' ⟨rfl, ⟨nd, rfl⟩⟩; refine ⟨_, rfl, ?_⟩))
        go_meet
        case rel => exact ⟨_, (false), (by first | rfl | (simp; done) | (simp [*]; done)), H', ⟨by have := HK1.out; first | omega | exact Nat.le_refl _⟩, ⟨by (with_reducible repeat (first | apply Kd.R_alloc | apply Kd.R_drewN | apply Kd.R_drew)); exact HO_3.out⟩, ⟨by repeat (first | (with_reducible first | exact HB.out | apply below_alloc | apply pw_below_drewN | apply below_drew1) | exact HB.out)⟩⟩
      ·rw [if_neg c5] at H;exact absurd H (by simp)
     ·rw [if_neg c4] at H;exact absurd H (by simp)
    case rest =>
     clear HC3;try clear c2
     try clear c2b0
     try clear p2
     try clear c4
     try clear c4b0
     try clear c5
     try clear c5b0
     try clear c6
     try clear p6
     try clear q6
     try clear hx6
     try clear c8
     try clear p6
     try clear q6
     obtain ⟨kq, x11_2, rfl, HA, HJ2, HO_3, HB⟩ := hcut;cases kq with
     | zero => exact absurd HA.out (by simp [spec_CronWords.j1])
     | succ kj2 =>
      have H := HA.out;clear HA;simp only [spec_CronWords.j1] at H;by_cases c9 : x11_2 = true
      ·subst c9;have H1 : (if 0 ≤ x4_1 then (if x4_1 ≤ x8_1 then (if x8_1 ≤ (a0.size : Int) then (if x3_1.length < 8796093022208 then (spec_CronWords.l0 kj2 a0 (x3_1 ++ [a0.extract (x4_1 : Int).toNat (x8_1 : Int).toNat]) (-1) (a0.size : Int) (wrap64 (x8_1 + 1))) else (none)) else (none)) else (none)) else (none)) = some r := by rw [if_pos rfl] at H; exact H
       clear H;have H := H1;clear H1;by_cases c10 : 0 ≤ x4_1
       ·rw [if_pos c10] at H;have c10b0 := eq_true c10;have c10b1 : decide (0 ≤ x4_1) = true := decide_eq_true c10;clear c10;by_cases c11 : x4_1 ≤ x8_1
        ·rw [if_pos c11] at H;have c11b0 := eq_true c11;have c11b1 : decide (x4_1 ≤ x8_1) = true := decide_eq_true c11;clear c11;by_cases c12 : x8_1 ≤ (a0.size : Int)
         ·rw [if_pos c12] at H;have c12b0 := eq_true c12;have c12b1 : decide (x8_1 ≤ (a0.size : Int)) = true := decide_eq_true c12;clear c12;by_cases c13 : x3_1.length < 8796093022208
          ·rw [if_pos c13] at H;have LMc13 := Aside0.mk c13;clear c13;obtain ⟨y106, hy106⟩ : ∃ y_ : List ByteArray, y_ = (x3_1 ++ [a0.extract (x4_1 : Int).toNat (x8_1 : Int).toNat]) := ⟨_, rfl⟩
           replace H : (spec_CronWords.l0 kj2 a0 y106 (-1) (a0.size : Int) (wrap64 (x8_1 + 1))) = some r := by first | (rw [hy106]; with_reducible exact H) | (have H2_ := (Option.bind_some _ _).symm.trans H; rw [hy106]; with_reducible exact H2_) | (have H2_ := (Option.bind_some _ _).symm.trans H; with_reducible exact H2_) | with_reducible exact H | (rw [hy106]; exact H) | exact H
           have Ny106 := Aside0.mk hy106;clear hy106;have H' := Aside0.mk H;clear H;go_wp2_with (first | ((with_reducible refine gate_builtin (b := .append) (xs := #[.tmp 20, .tmp 25]) rfl ?_); at_builtin; refine Kd.R_append Kd.string (w0 := w) w.heap.size rfl (.tmp 20) (.tmp 25) 33 9 (.string ⟨#[]⟩) 16 rfl Tryz.underlying33 info9 rfl (by decide) (by omega) u3 x3_1 (a0.extract (x4_1 : Int).toNat (x8_1 : Int).toNat) [.string (a0.extract (x4_1 : Int).toNat (x8_1 : Int).toNat)] (fun _ => True) (fun _ => False) rfl rfl ?aP (fun _ hk => hk.elim) ?aF ?aO ?aB ?aS ?aL ?_; (case aP => exact rfl); (case aB => exact (by repeat (first | (with_reducible first | exact HB.out | apply below_alloc | apply pw_below_drewN | apply below_drew1) | exact HB.out))); (case aF => exact (fun _ _ => trivial)); (case aO => exact (by (with_reducible repeat (first | apply Kd.R_alloc | apply Kd.R_drewN | apply Kd.R_drew)); exact HO_3.out)); (case aS => exact (below_size (by repeat (first | (with_reducible first | exact HB.out | apply below_alloc | apply pw_below_drewN | apply below_drew1) | exact HB.out)))); (case aL => have := LMc13.out; omega); intro v107 w14 ho hb hg hat; rw [← Ny106.out] at ho; have n0_ := Aside0.mk (hb); have n1_ := Aside0.mk (ho); clear HB; clear HO_3; have HB := n0_; have HO108 := n1_; clear n0_ n1_; clear ho hb hg hat))
           go_roundg kj2
           case measure => have := HK1.out; have := HJ2.out; omega
           case rel => exact ⟨(y106), ((-1)), (wrap64 (x8_1 + 1)), (by first | rfl | (simp; done) | (simp [*]; done)), (by first | rfl | (simp; done) | (simp [*]; done)), H', ⟨by have := HK1.out; have := HJ2.out; omega⟩, ⟨by (with_reducible repeat (first | apply Kd.R_alloc | apply Kd.R_drewN | apply Kd.R_drew)); exact HO108.out⟩, ⟨by repeat (first | (with_reducible first | exact HB.out | apply below_alloc | apply pw_below_drewN | apply below_drew1) | exact HB.out)⟩⟩
          ·rw [if_neg c13] at H;exact absurd H (by simp)
         ·rw [if_neg c12] at H;exact absurd H (by simp)
        ·rw [if_neg c11] at H;exact absurd H (by simp)
       ·rw [if_neg c10] at H;exact absurd H (by simp)
      ·replace c9 := Bool.eq_false_iff.mpr c9;subst c9;have H1 : (if 0 ≤ x8_1 then (if x8_1 < (a0.size : Int) then ((spec_cronBlank.f (bt a0 x8_1)).bind fun t109 => (if t109 = true then (spec_CronWords.l0 kj2 a0 x3_1 x4_1 (a0.size : Int) (wrap64 (x8_1 + 1))) else (if x4_1 < 0 then (spec_CronWords.l0 kj2 a0 x3_1 x8_1 (a0.size : Int) (wrap64 (x8_1 + 1))) else (spec_CronWords.l0 kj2 a0 x3_1 x4_1 (a0.size : Int) (wrap64 (x8_1 + 1)))))) else (none)) else (none)) = some r := by rw [if_neg (show ¬ (false = true) by decide)] at H; exact H
       clear H;have H := H1;clear H1;by_cases c15 : 0 ≤ x8_1
       ·rw [if_pos c15] at H;have c15b0 : decide (0 ≤ x8_1) = true := decide_eq_true c15;clear c15;by_cases c16 : x8_1 < (a0.size : Int)
        ·rw [if_pos c16] at H;have c16b0 : decide (x8_1 < (a0.size : Int)) = true := decide_eq_true c16;clear c16;replace H := Option.bind_eq_some_iff.mp H;obtain ⟨t109, A180, H⟩ := H;replace H : (if t109 = true then (spec_CronWords.l0 kj2 a0 x3_1 x4_1 (a0.size : Int) (wrap64 (x8_1 + 1))) else (if x4_1 < 0 then (spec_CronWords.l0 kj2 a0 x3_1 x8_1 (a0.size : Int) (wrap64 (x8_1 + 1))) else (spec_CronWords.l0 kj2 a0 x3_1 x4_1 (a0.size : Int) (wrap64 (x8_1 + 1))))) = some r := H;have A18 := Aside0.mk A180;clear A180;by_cases c19 : t109 = true
         ·subst c19;have H1 : (spec_CronWords.l0 kj2 a0 x3_1 x4_1 (a0.size : Int) (wrap64 (x8_1 + 1))) = some r := by rw [if_pos rfl] at H; exact H
          clear H;have H := H1;clear H1;have H' := Aside0.mk H;clear H;have p17 : 0 ≤ (x8_1 : Int) := of_decide_eq_true (by first | (with_reducible assumption) | assumption);have q17 : x8_1 < (a0.size : Int) := of_decide_eq_true (by first | (with_reducible assumption) | assumption);have hx17 := bt_at a0 x8_1;replace p17 := eq_true p17;replace q17 := eq_true q17;go_wp2_with (first | ((with_reducible refine gate_callee (f := 62) rfl ?_); refine goesL_ (some 31) rfl rfl Tryz.func62 (by kernel_rfl) rfl #[.int .u8 (bt a0 x8_1)] rfl (by (try simp only [List.map_toArray, List.map_cons, List.map_nil]); first | done | rfl | (simp only [List.length_drop, List.length_take]; rfl)) ?_; (with_reducible refine (spec_cronBlank.calls (bt a0 x8_1) true _ A18.out).mono ?_); rintro e w' ⟨rfl, ⟨nd, rfl⟩⟩; refine ⟨_, rfl, ?_⟩))
          go_roundg kj2
          case measure => have := HK1.out; have := HJ2.out; omega
          case rel => exact ⟨(x3_1), (x4_1), (wrap64 (x8_1 + 1)), (by first | rfl | (simp; done) | (simp [*]; done)), (by first | rfl | (simp; done) | (simp [*]; done)), H', ⟨by have := HK1.out; have := HJ2.out; omega⟩, ⟨by (with_reducible repeat (first | apply Kd.R_alloc | apply Kd.R_drewN | apply Kd.R_drew)); exact HO_3.out⟩, ⟨by repeat (first | (with_reducible first | exact HB.out | apply below_alloc | apply pw_below_drewN | apply below_drew1) | exact HB.out)⟩⟩
         ·replace c19 := Bool.eq_false_iff.mpr c19;subst c19;have H1 : (if x4_1 < 0 then (spec_CronWords.l0 kj2 a0 x3_1 x8_1 (a0.size : Int) (wrap64 (x8_1 + 1))) else (spec_CronWords.l0 kj2 a0 x3_1 x4_1 (a0.size : Int) (wrap64 (x8_1 + 1)))) = some r := by rw [if_neg (show ¬ (false = true) by decide)] at H; exact H
          clear H;have H := H1;clear H1;by_cases c20 : x4_1 < 0
          ·rw [if_pos c20] at H;have c20b0 : decide (x4_1 < 0) = true := decide_eq_true c20;clear c20;have H' := Aside0.mk H;clear H;have p17 : 0 ≤ (x8_1 : Int) := of_decide_eq_true (by first | (with_reducible assumption) | assumption);have q17 : x8_1 < (a0.size : Int) := of_decide_eq_true (by first | (with_reducible assumption) | assumption);have hx17 := bt_at a0 x8_1;replace p17 := eq_true p17;replace q17 := eq_true q17;go_wp2_with (first | ((with_reducible refine gate_callee (f := 62) rfl ?_); refine goesL_ (some 31) rfl rfl Tryz.func62 (by kernel_rfl) rfl #[.int .u8 (bt a0 x8_1)] rfl (by (try simp only [List.map_toArray, List.map_cons, List.map_nil]); first | done | rfl | (simp only [List.length_drop, List.length_take]; rfl)) ?_; (with_reducible refine (spec_cronBlank.calls (bt a0 x8_1) false _ A18.out).mono ?_); rintro e w' ⟨rfl, ⟨nd, rfl⟩⟩; refine ⟨_, rfl, ?_⟩))
           go_roundg kj2
           case measure => have := HK1.out; have := HJ2.out; omega
           case rel => exact ⟨(x3_1), (x8_1), (wrap64 (x8_1 + 1)), (by first | rfl | (simp; done) | (simp [*]; done)), (by first | rfl | (simp; done) | (simp [*]; done)), H', ⟨by have := HK1.out; have := HJ2.out; omega⟩, ⟨by (with_reducible repeat (first | apply Kd.R_alloc | apply Kd.R_drewN | apply Kd.R_drew)); exact HO_3.out⟩, ⟨by repeat (first | (with_reducible first | exact HB.out | apply below_alloc | apply pw_below_drewN | apply below_drew1) | exact HB.out)⟩⟩
          ·rw [if_neg c20] at H;have c20b0 : decide (x4_1 < 0) = false := decide_eq_false c20;clear c20;have H' := Aside0.mk H;clear H;have p17 : 0 ≤ (x8_1 : Int) := of_decide_eq_true (by first | (with_reducible assumption) | assumption);have q17 : x8_1 < (a0.size : Int) := of_decide_eq_true (by first | (with_reducible assumption) | assumption);have hx17 := bt_at a0 x8_1;replace p17 := eq_true p17;replace q17 := eq_true q17;go_wp2_with (first | ((with_reducible refine gate_callee (f := 62) rfl ?_); refine goesL_ (some 31) rfl rfl Tryz.func62 (by kernel_rfl) rfl #[.int .u8 (bt a0 x8_1)] rfl (by (try simp only [List.map_toArray, List.map_cons, List.map_nil]); first | done | rfl | (simp only [List.length_drop, List.length_take]; rfl)) ?_; (with_reducible refine (spec_cronBlank.calls (bt a0 x8_1) false _ A18.out).mono ?_); rintro e w' ⟨rfl, ⟨nd, rfl⟩⟩; refine ⟨_, rfl, ?_⟩))
           go_roundg kj2
           case measure => have := HK1.out; have := HJ2.out; omega
           case rel => exact ⟨(x3_1), (x4_1), (wrap64 (x8_1 + 1)), (by first | rfl | (simp; done) | (simp [*]; done)), (by first | rfl | (simp; done) | (simp [*]; done)), H', ⟨by have := HK1.out; have := HJ2.out; omega⟩, ⟨by (with_reducible repeat (first | apply Kd.R_alloc | apply Kd.R_drewN | apply Kd.R_drew)); exact HO_3.out⟩, ⟨by repeat (first | (with_reducible first | exact HB.out | apply below_alloc | apply pw_below_drewN | apply below_drew1) | exact HB.out)⟩⟩
        ·rw [if_neg c16] at H;exact absurd H (by simp)
       ·rw [if_neg c15] at H;exact absurd H (by simp)
   ·rw [if_neg c2] at H;have c2b0 : decide (x8_1 < (a0.size : Int)) = false := decide_eq_false c2;clear c2;by_cases c21 : x4_1 ≥ 0
    ·rw [if_pos c21] at H;have c21b0 : decide (0 ≤ x4_1) = true := decide_eq_true c21;clear c21;by_cases c22 : 0 ≤ x4_1
     ·rw [if_pos c22] at H;have c22b0 := eq_true c22;have c22b1 : decide (0 ≤ x4_1) = true := decide_eq_true c22;clear c22;by_cases c23 : x4_1 ≤ (a0.size : Int)
      ·rw [if_pos c23] at H;have c23b0 := eq_true c23;have c23b1 : decide (x4_1 ≤ (a0.size : Int)) = true := decide_eq_true c23;clear c23;by_cases c24 : x3_1.length < 8796093022208
       ·rw [if_pos c24] at H;have LMc24 := Aside0.mk c24;clear c24;obtain ⟨y102, hy102⟩ : ∃ y_ : List ByteArray, y_ = (x3_1 ++ [a0.extract (x4_1 : Int).toNat a0.size]) := ⟨_, rfl⟩
        replace H : (some y102) = some r := by first | (rw [hy102]; with_reducible exact H) | (have H2_ := (Option.bind_some _ _).symm.trans H; rw [hy102]; with_reducible exact H2_) | (have H2_ := (Option.bind_some _ _).symm.trans H; with_reducible exact H2_) | with_reducible exact H | (rw [hy102]; exact H) | exact H
        have Ny102 := Aside0.mk hy102;clear hy102;obtain rfl := Option.some.inj H;go_wp2_with (first | ((with_reducible refine gate_builtin (b := .append) (xs := #[.tmp 41, .tmp 45]) rfl ?_); at_builtin; refine Kd.R_append Kd.string (w0 := w) w.heap.size rfl (.tmp 41) (.tmp 45) 33 9 (.string ⟨#[]⟩) 16 rfl Tryz.underlying33 info9 rfl (by decide) (by omega) u3 x3_1 (a0.extract (x4_1 : Int).toNat a0.size) [.string (a0.extract (x4_1 : Int).toNat a0.size)] (fun _ => True) (fun _ => False) rfl rfl ?aP (fun _ hk => hk.elim) ?aF ?aO ?aB ?aS ?aL ?_; (case aP => exact rfl); (case aB => exact (by repeat (first | (with_reducible first | exact HB.out | apply below_alloc | apply pw_below_drewN | apply below_drew1) | exact HB.out))); (case aF => exact (fun _ _ => trivial)); (case aO => exact (by (with_reducible repeat (first | apply Kd.R_alloc | apply Kd.R_drewN | apply Kd.R_drew)); exact HO_3.out)); (case aS => exact (below_size (by repeat (first | (with_reducible first | exact HB.out | apply below_alloc | apply pw_below_drewN | apply below_drew1) | exact HB.out)))); (case aL => have := LMc24.out; omega); intro v103 w25 ho hb hg hat; rw [← Ny102.out] at ho; have n0_ := Aside0.mk (hb); have n1_ := Aside0.mk (ho); clear HB; clear HO_3; have HB := n0_; have HO104 := n1_; clear n0_ n1_; clear ho hb hg hat))
        go_ret;exact ⟨_, by first | rfl | (simp [errW_none, errW_some] <;> rfl) | (simp [*, errW_none, errW_some] <;> rfl), by (with_reducible repeat (first | apply Kd.R_alloc | apply Kd.R_drewN | apply Kd.R_drew)); exact HO104.out, by repeat (first | (with_reducible first | exact HB.out | apply below_alloc | apply pw_below_drewN | apply below_drew1) | exact HB.out)⟩
       ·rw [if_neg c24] at H;exact absurd H (by simp)
      ·rw [if_neg c23] at H;exact absurd H (by simp)
     ·rw [if_neg c22] at H;exact absurd H (by simp)
    ·rw [if_neg c21] at H;have c21b0 : decide (0 ≤ x4_1) = false := decide_eq_false c21;clear c21;obtain rfl := Option.some.inj H;go_wp2
     go_ret;exact ⟨_, by first | rfl | (simp [errW_none, errW_some] <;> rfl) | (simp [*, errW_none, errW_some] <;> rfl), by (with_reducible repeat (first | apply Kd.R_alloc | apply Kd.R_drewN | apply Kd.R_drew)); exact HO_3.out, by repeat (first | (with_reducible first | exact HB.out | apply below_alloc | apply pw_below_drewN | apply below_drew1) | exact HB.out)⟩
def spec_cronBegins.f (a0 : ByteArray) (a1 : ByteArray) : Option (Bool) := if (a0.size : Int) ≥ (a1.size : Int) then (if 0 ≤ (a1.size : Int) then (if (a1.size : Int) ≤ (a0.size : Int) then (some ((a0.extract 0 ((a1.size : Int) : Int).toNat).toList == a1.toList)) else (none)) else (none)) else (some false)
set_option maxHeartbeats 8000000 in
set_option maxRecDepth 100000 in
theorem spec_cronBegins.calls (a0 : ByteArray) (a1 : ByteArray) (r : Bool) (w : World) (h : spec_cronBegins.f a0 a1 = some r) :
  Calls Tryz.prog 88 #[.string a0, .string a1] w fun e w' => e = .returned (.bool r) ∧ Drawn0 w w' := by
 have H : (if (a0.size : Int) ≥ (a1.size : Int) then (if 0 ≤ (a1.size : Int) then (if (a1.size : Int) ≤ (a0.size : Int) then (some ((a0.extract 0 ((a1.size : Int) : Int).toNat).toList == a1.toList)) else (none)) else (none)) else (some false)) = some r := h;clear h;by_cases c3 : (a0.size : Int) ≥ (a1.size : Int)
 ·rw [if_pos c3] at H;have c3b0 : decide ((a1.size : Int) ≤ (a0.size : Int)) = true := decide_eq_true c3;have c3b1 : decide (a1.size ≤ a0.size) = true := decide_eq_true (Int.ofNat_le.mp c3);clear c3;by_cases c4 : 0 ≤ (a1.size : Int)
  ·rw [if_pos c4] at H;have c4b0 := eq_true c4;have c4b1 : decide (0 ≤ (a1.size : Int)) = true := decide_eq_true c4;clear c4;by_cases c5 : (a1.size : Int) ≤ (a0.size : Int)
   ·rw [if_pos c5] at H;have c5b0 := eq_true c5;have c5b1 : decide ((a1.size : Int) ≤ (a0.size : Int)) = true := decide_eq_true c5;clear c5;obtain rfl := Option.some.inj H;go_enter Tryz.func88, Tryz.ntmps88;go_wp2
    go_ret;exact ⟨by first | rfl | (simp; done) | (simp [*]; done), by repeat (first | exact Drawn0.refl _ | apply Drawn0.step)⟩
   ·rw [if_neg c5] at H;exact absurd H (by simp)
  ·rw [if_neg c4] at H;exact absurd H (by simp)
 ·rw [if_neg c3] at H;have c3b0 : decide ((a1.size : Int) ≤ (a0.size : Int)) = false := decide_eq_false c3;have c3b1 : decide (a1.size ≤ a0.size) = false := decide_eq_false (fun h => c3 (Int.ofNat_le.mpr h));clear c3;obtain rfl := Option.some.inj H;go_enter Tryz.func88, Tryz.ntmps88;go_wp2
  go_ret;exact ⟨by first | rfl | (simp; done) | (simp [*]; done), by repeat (first | exact Drawn0.refl _ | apply Drawn0.step)⟩
def spec_CronTwoOptional.f (a0 : Int) : Option (Bool) := if (Go.bits .and .i64 a0 2) = 0 then (some false) else (some ((Go.bits .and .i64 a0 128) != 0))
set_option maxHeartbeats 8000000 in
set_option maxRecDepth 100000 in
theorem spec_CronTwoOptional.calls (a0 : Int) (r : Bool) (w : World) (h : spec_CronTwoOptional.f a0 = some r) :
  Calls Tryz.prog 41 #[.int .i64 a0] w fun e w' => e = .returned (.bool r) ∧ Drawn0 w w' := by
 have H : (if (Go.bits .and .i64 a0 2) = 0 then (some false) else (some ((Go.bits .and .i64 a0 128) != 0))) = some r := h;clear h;by_cases c2 : (Go.bits .and .i64 a0 2) = 0
 ·rw [if_pos c2] at H;have c2b0 : ((Go.bits .and .i64 a0 2) == 0) = true := beq_iff_eq.mpr c2;have c2b1 : ((Go.bits .and .i64 a0 2) != 0) = false := bne_eq_false_iff_eq.mpr c2;clear c2;obtain rfl := Option.some.inj H;go_enter Tryz.func41, Tryz.ntmps41;go_wp2
  go_ret;exact ⟨by first | rfl | (simp; done) | (simp [*]; done), by repeat (first | exact Drawn0.refl _ | apply Drawn0.step)⟩
 ·rw [if_neg c2] at H;have c2b0 : ((Go.bits .and .i64 a0 2) == 0) = false := beq_eq_false_iff_ne.mpr c2;have c2b1 : ((Go.bits .and .i64 a0 2) != 0) = true := bne_iff_ne.mpr c2;obtain rfl := Option.some.inj H;go_enter Tryz.func41, Tryz.ntmps41;go_wp2
  go_ret;exact ⟨by first | rfl | (simp; done) | (simp [*]; done), by repeat (first | exact Drawn0.refl _ | apply Drawn0.step)⟩
def spec_CronMayMiss.f (a0 : Int) : Option (Int) := if (Go.bits .and .i64 a0 2) = 0 then (if (Go.bits .and .i64 a0 128) = 0 then (some (-1)) else (some 5)) else (some 0)
set_option maxHeartbeats 8000000 in
set_option maxRecDepth 100000 in
theorem spec_CronMayMiss.calls (a0 : Int) (r : Int) (w : World) (h : spec_CronMayMiss.f a0 = some r) :
  Calls Tryz.prog 79 #[.int .i64 a0] w fun e w' => e = .returned (.int .i64 r) ∧ Drawn0 w w' := by
 have H : (if (Go.bits .and .i64 a0 2) = 0 then (if (Go.bits .and .i64 a0 128) = 0 then (some (-1)) else (some 5)) else (some 0)) = some r := h;clear h;by_cases c2 : (Go.bits .and .i64 a0 2) = 0
 ·rw [if_pos c2] at H;have c2b0 : ((Go.bits .and .i64 a0 2) == 0) = true := beq_iff_eq.mpr c2;have c2b1 : ((Go.bits .and .i64 a0 2) != 0) = false := bne_eq_false_iff_eq.mpr c2;clear c2;by_cases c3 : (Go.bits .and .i64 a0 128) = 0
  ·rw [if_pos c3] at H;have c3b0 : ((Go.bits .and .i64 a0 128) == 0) = true := beq_iff_eq.mpr c3;have c3b1 : ((Go.bits .and .i64 a0 128) != 0) = false := bne_eq_false_iff_eq.mpr c3;clear c3;obtain rfl := Option.some.inj H;go_enter Tryz.func79, Tryz.ntmps79;go_wp2
   go_ret;exact ⟨by first | rfl | (simp; done) | (simp [*]; done), by repeat (first | exact Drawn0.refl _ | apply Drawn0.step)⟩
  ·rw [if_neg c3] at H;have c3b0 : ((Go.bits .and .i64 a0 128) == 0) = false := beq_eq_false_iff_ne.mpr c3;have c3b1 : ((Go.bits .and .i64 a0 128) != 0) = true := bne_iff_ne.mpr c3;obtain rfl := Option.some.inj H;go_enter Tryz.func79, Tryz.ntmps79;go_wp2
   go_ret;exact ⟨by first | rfl | (simp; done) | (simp [*]; done), by repeat (first | exact Drawn0.refl _ | apply Drawn0.step)⟩
 ·rw [if_neg c2] at H;have c2b0 : ((Go.bits .and .i64 a0 2) == 0) = false := beq_eq_false_iff_ne.mpr c2;have c2b1 : ((Go.bits .and .i64 a0 2) != 0) = true := bne_iff_ne.mpr c2;obtain rfl := Option.some.inj H;go_enter Tryz.func79, Tryz.ntmps79;go_wp2
  go_ret;exact ⟨by first | rfl | (simp; done) | (simp [*]; done), by repeat (first | exact Drawn0.refl _ | apply Drawn0.step)⟩
def spec_CronDefault.f (a0 : Int) : Option (ByteArray) := if a0 ≤ 2 then (some (⟨#[48]⟩ : ByteArray)) else (some (⟨#[42]⟩ : ByteArray))
set_option maxHeartbeats 8000000 in
set_option maxRecDepth 100000 in
theorem spec_CronDefault.calls (a0 : Int) (r : ByteArray) (w : World) (h : spec_CronDefault.f a0 = some r) :
  Calls Tryz.prog 172 #[.int .i64 a0] w fun e w' => e = .returned (.string r) ∧ Drawn0 w w' := by
 have H : (if a0 ≤ 2 then (some (⟨#[48]⟩ : ByteArray)) else (some (⟨#[42]⟩ : ByteArray))) = some r := h;clear h;by_cases c2 : a0 ≤ 2
 ·rw [if_pos c2] at H;have c2b0 : decide (a0 ≤ 2) = true := decide_eq_true c2;clear c2;obtain rfl := Option.some.inj H;go_enter Tryz.func172, Tryz.ntmps172;go_wp2
  go_ret;exact ⟨by first | rfl | (simp; done) | (simp [*]; done), by repeat (first | exact Drawn0.refl _ | apply Drawn0.step)⟩
 ·rw [if_neg c2] at H;have c2b0 : decide (a0 ≤ 2) = false := decide_eq_false c2;clear c2;obtain rfl := Option.some.inj H;go_enter Tryz.func172, Tryz.ntmps172;go_wp2
  go_ret;exact ⟨by first | rfl | (simp; done) | (simp [*]; done), by repeat (first | exact Drawn0.refl _ | apply Drawn0.step)⟩
def spec_cronUnit.j0 : Nat → ByteArray → Bool → Option (Int × Int)
 | 0, _, _ => none
 | k + 1, x4, x7 => if x7 = true then (some (1000, 3)) else (if x4.toList = ([109, 115] : List UInt8) then (some (1000000, 6)) else (if x4.toList = ([115] : List UInt8) then (some (1000000000, 9)) else (if x4.toList = ([109] : List UInt8) then (some (60000000000, 10)) else (if x4.toList = ([104] : List UInt8) then (some (3600000000000, 11)) else (some (0, 0))))))
def spec_cronUnit.f (k : Nat) (a0 : ByteArray) : Option (Int × Int) := if a0.toList = ([110, 115] : List UInt8) then (some (1, 0)) else (if a0.toList = ([117, 115] : List UInt8) then (spec_cronUnit.j0 k a0 (a0.toList == ([117, 115] : List UInt8))) else (if a0.toList = ([194, 181, 115] : List UInt8) then (spec_cronUnit.j0 k a0 (a0.toList == ([194, 181, 115] : List UInt8))) else (spec_cronUnit.j0 k a0 (a0.toList == ([206, 188, 115] : List UInt8)))))
theorem spec_cronUnit.mono_l : ∀ k, (∀ y0 y1, LeO (spec_cronUnit.j0 k y0 y1) (spec_cronUnit.j0 (k + 1) y0 y1))
 | 0 => fun _ _ r h => by simp [spec_cronUnit.j0] at h
 | k + 1 => by
  have ih0 := spec_cronUnit.mono_l k
  ·intro y0 y1;unfold spec_cronUnit.j0;repeat' first
   | (with_reducible exact ih0 _ _)
   | (with_reducible exact LeO.refl _)
   | (with_reducible exact LeO.none _)
   | (with_reducible refine LeO.ite ?_ ?_)
   | (with_reducible refine LeO.bind ?_ (fun _ => ?_))
   | exact ih0 _ _
   | exact LeO.none _
   | refine LeO.ite ?_ ?_
   | refine LeO.bind ?_ (fun _ => ?_)
theorem spec_cronUnit.mono : ∀ a0 k, LeO (spec_cronUnit.f k a0) (spec_cronUnit.f (k + 1) a0) := by
 intro a0 k;have ih0 := spec_cronUnit.mono_l k;unfold spec_cronUnit.f
 repeat' first
  | (with_reducible exact ih0 _ _)
  | (with_reducible exact LeO.refl _)
  | (with_reducible exact LeO.none _)
  | (with_reducible refine LeO.ite ?_ ?_)
  | (with_reducible refine LeO.bind ?_ (fun _ => ?_))
  | exact ih0 _ _
  | exact LeO.none _
  | refine LeO.ite ?_ ?_
  | refine LeO.bind ?_ (fun _ => ?_)
set_option maxHeartbeats 8000000 in
set_option maxRecDepth 100000 in
theorem spec_cronUnit.calls (k : Nat) (a0 : ByteArray) (r1 : Int) (r2 : Int) (w : World) (h : spec_cronUnit.f k a0 = some (r1, r2)) :
  Calls Tryz.prog 219 #[.string a0] w fun e w' => e = .returned (.tuple #[.int .i64 r1, .int .i64 r2]) ∧ Drawn0 w w' := by
 have H : (if a0.toList = ([110, 115] : List UInt8) then (some (1, 0)) else (if a0.toList = ([117, 115] : List UInt8) then (spec_cronUnit.j0 k a0 (a0.toList == ([117, 115] : List UInt8))) else (if a0.toList = ([194, 181, 115] : List UInt8) then (spec_cronUnit.j0 k a0 (a0.toList == ([194, 181, 115] : List UInt8))) else (spec_cronUnit.j0 k a0 (a0.toList == ([206, 188, 115] : List UInt8)))))) = some (r1, r2) := h;clear h;by_cases c2 : a0.toList = ([110, 115] : List UInt8)
 ·rw [if_pos c2] at H;have c2b0 : (a0.toList == ([110, 115] : List UInt8)) = true := beq_iff_eq.mpr c2;have c2b1 : (a0.toList != ([110, 115] : List UInt8)) = false := bne_eq_false_iff_eq.mpr c2;clear c2;simp only [Option.some.injEq, Prod.mk.injEq] at H;obtain ⟨rfl, rfl⟩ := H;go_enter Tryz.func219, Tryz.ntmps219;go_wp2
  go_ret2;exact ⟨by first | rfl | (simp; done) | (simp [*]; done), by repeat (first | exact Drawn0.refl _ | apply Drawn0.step)⟩
 ·rw [if_neg c2] at H;have c2b0 : (a0.toList == ([110, 115] : List UInt8)) = false := beq_eq_false_iff_ne.mpr c2;have c2b1 : (a0.toList != ([110, 115] : List UInt8)) = true := bne_iff_ne.mpr c2;have HC3 := Aside0.mk H;clear H;go_enter Tryz.func219, Tryz.ntmps219;go_upto_if 7 with (fail)
  go_cut [7] (fun v7 wc => ∃ (kq : Nat) (x7_2 : Bool), v7 = .bool x7_2 ∧ Aside0 (spec_cronUnit.j0 kq a0 x7_2 = some (r1, r2)) ∧ Aside0 (kq ≤ k) ∧ Drawn0 w wc)
  case first =>
   have H := HC3.out;clear HC3;by_cases c4 : a0.toList = ([117, 115] : List UInt8)
   ·rw [if_pos c4] at H;have c4b0 : (a0.toList == ([117, 115] : List UInt8)) = true := beq_iff_eq.mpr c4;have c4b1 : (a0.toList != ([117, 115] : List UInt8)) = false := bne_eq_false_iff_eq.mpr c4;clear c4
    (first | rw [c4b0] | (simp only [i64_w, i32_w]; rw [c4b0]) | skip)
    have H' := Aside0.mk H;clear H;go_wp2
    go_meet
    case rel => exact ⟨_, ((a0.toList == ([117, 115] : List UInt8))), (by first | rfl | (simp; done) | (simp [*]; done)), H', ⟨by first | omega | exact Nat.le_refl _⟩, by repeat (first | exact Drawn0.refl _ | apply Drawn0.step)⟩
   ·rw [if_neg c4] at H;have c4b0 : (a0.toList == ([117, 115] : List UInt8)) = false := beq_eq_false_iff_ne.mpr c4;have c4b1 : (a0.toList != ([117, 115] : List UInt8)) = true := bne_iff_ne.mpr c4
    (first | rw [c4b0] | (simp only [i64_w, i32_w]; rw [c4b0]) | skip)
    by_cases c5 : a0.toList = ([194, 181, 115] : List UInt8)
    ·rw [if_pos c5] at H;have c5b0 : (a0.toList == ([194, 181, 115] : List UInt8)) = true := beq_iff_eq.mpr c5;have c5b1 : (a0.toList != ([194, 181, 115] : List UInt8)) = false := bne_eq_false_iff_eq.mpr c5;clear c5;have H' := Aside0.mk H;clear H;go_wp2
     go_meet
     case rel => exact ⟨_, ((a0.toList == ([194, 181, 115] : List UInt8))), (by first | rfl | (simp; done) | (simp [*]; done)), H', ⟨by first | omega | exact Nat.le_refl _⟩, by repeat (first | exact Drawn0.refl _ | apply Drawn0.step)⟩
    ·rw [if_neg c5] at H;have c5b0 : (a0.toList == ([194, 181, 115] : List UInt8)) = false := beq_eq_false_iff_ne.mpr c5;have c5b1 : (a0.toList != ([194, 181, 115] : List UInt8)) = true := bne_iff_ne.mpr c5;have H' := Aside0.mk H;clear H;go_wp2
     go_meet
     case rel => exact ⟨_, ((a0.toList == ([206, 188, 115] : List UInt8))), (by first | rfl | (simp; done) | (simp [*]; done)), H', ⟨by first | omega | exact Nat.le_refl _⟩, by repeat (first | exact Drawn0.refl _ | apply Drawn0.step)⟩
  case rest =>
   clear HC3;try clear c2
   try clear c2b0
   try clear c2b1
   try clear p2
   try clear c4
   try clear c4b0
   try clear c4b1
   try clear c5
   try clear c5b0
   try clear c5b1
   obtain ⟨kq, x7_2, rfl, HA, HJ2, ⟨mc2, rfl⟩⟩ := hcut;cases kq with
   | zero => exact absurd HA.out (by simp [spec_cronUnit.j0])
   | succ kj2 =>
    have H := HA.out;clear HA;simp only [spec_cronUnit.j0] at H;by_cases c6 : x7_2 = true
    ·subst c6;have H1 : (some (1000, 3)) = some (r1, r2) := by rw [if_pos rfl] at H; exact H
     clear H;have H := H1;clear H1;simp only [Option.some.injEq, Prod.mk.injEq] at H;obtain ⟨rfl, rfl⟩ := H;go_wp2
     go_ret2;exact ⟨by first | rfl | (simp; done) | (simp [*]; done), by repeat (first | exact Drawn0.refl _ | apply Drawn0.step)⟩
    ·replace c6 := Bool.eq_false_iff.mpr c6;subst c6;have H1 : (if a0.toList = ([109, 115] : List UInt8) then (some (1000000, 6)) else (if a0.toList = ([115] : List UInt8) then (some (1000000000, 9)) else (if a0.toList = ([109] : List UInt8) then (some (60000000000, 10)) else (if a0.toList = ([104] : List UInt8) then (some (3600000000000, 11)) else (some (0, 0)))))) = some (r1, r2) := by rw [if_neg (show ¬ (false = true) by decide)] at H; exact H
     clear H;have H := H1;clear H1;by_cases c7 : a0.toList = ([109, 115] : List UInt8)
     ·rw [if_pos c7] at H;have c7b0 : (a0.toList == ([109, 115] : List UInt8)) = true := beq_iff_eq.mpr c7;have c7b1 : (a0.toList != ([109, 115] : List UInt8)) = false := bne_eq_false_iff_eq.mpr c7;clear c7;simp only [Option.some.injEq, Prod.mk.injEq] at H;obtain ⟨rfl, rfl⟩ := H;go_wp2
      go_ret2;exact ⟨by first | rfl | (simp; done) | (simp [*]; done), by repeat (first | exact Drawn0.refl _ | apply Drawn0.step)⟩
     ·rw [if_neg c7] at H;have c7b0 : (a0.toList == ([109, 115] : List UInt8)) = false := beq_eq_false_iff_ne.mpr c7;have c7b1 : (a0.toList != ([109, 115] : List UInt8)) = true := bne_iff_ne.mpr c7;by_cases c8 : a0.toList = ([115] : List UInt8)
      ·rw [if_pos c8] at H;have c8b0 : (a0.toList == ([115] : List UInt8)) = true := beq_iff_eq.mpr c8;have c8b1 : (a0.toList != ([115] : List UInt8)) = false := bne_eq_false_iff_eq.mpr c8;clear c8;simp only [Option.some.injEq, Prod.mk.injEq] at H;obtain ⟨rfl, rfl⟩ := H;go_wp2
       go_ret2;exact ⟨by first | rfl | (simp; done) | (simp [*]; done), by repeat (first | exact Drawn0.refl _ | apply Drawn0.step)⟩
      ·rw [if_neg c8] at H;have c8b0 : (a0.toList == ([115] : List UInt8)) = false := beq_eq_false_iff_ne.mpr c8;have c8b1 : (a0.toList != ([115] : List UInt8)) = true := bne_iff_ne.mpr c8;by_cases c9 : a0.toList = ([109] : List UInt8)
       ·rw [if_pos c9] at H;have c9b0 : (a0.toList == ([109] : List UInt8)) = true := beq_iff_eq.mpr c9;have c9b1 : (a0.toList != ([109] : List UInt8)) = false := bne_eq_false_iff_eq.mpr c9;clear c9;simp only [Option.some.injEq, Prod.mk.injEq] at H;obtain ⟨rfl, rfl⟩ := H;go_wp2
        go_ret2;exact ⟨by first | rfl | (simp; done) | (simp [*]; done), by repeat (first | exact Drawn0.refl _ | apply Drawn0.step)⟩
       ·rw [if_neg c9] at H;have c9b0 : (a0.toList == ([109] : List UInt8)) = false := beq_eq_false_iff_ne.mpr c9;have c9b1 : (a0.toList != ([109] : List UInt8)) = true := bne_iff_ne.mpr c9;by_cases c10 : a0.toList = ([104] : List UInt8)
        ·rw [if_pos c10] at H;have c10b0 : (a0.toList == ([104] : List UInt8)) = true := beq_iff_eq.mpr c10;have c10b1 : (a0.toList != ([104] : List UInt8)) = false := bne_eq_false_iff_eq.mpr c10;clear c10;simp only [Option.some.injEq, Prod.mk.injEq] at H;obtain ⟨rfl, rfl⟩ := H;go_wp2
         go_ret2;exact ⟨by first | rfl | (simp; done) | (simp [*]; done), by repeat (first | exact Drawn0.refl _ | apply Drawn0.step)⟩
        ·rw [if_neg c10] at H;have c10b0 : (a0.toList == ([104] : List UInt8)) = false := beq_eq_false_iff_ne.mpr c10;have c10b1 : (a0.toList != ([104] : List UInt8)) = true := bne_iff_ne.mpr c10;simp only [Option.some.injEq, Prod.mk.injEq] at H;obtain ⟨rfl, rfl⟩ := H;go_wp2
         go_ret2;exact ⟨by first | rfl | (simp; done) | (simp [*]; done), by repeat (first | exact Drawn0.refl _ | apply Drawn0.step)⟩
mutual
def spec_CronDescribed.j0 : Nat → ByteArray → Bool → Option (ByteArray)
 | 0, _, _ => none
 | k + 1, x3, x4 => if x4 = true then (some (⟨#[48, 32, 48, 32, 49, 32, 49, 32, 42]⟩ : ByteArray)) else (if x3.toList = ([64, 109, 111, 110, 116, 104, 108, 121] : List UInt8) then (some (⟨#[48, 32, 48, 32, 49, 32, 42, 32, 42]⟩ : ByteArray)) else (if x3.toList = ([64, 119, 101, 101, 107, 108, 121] : List UInt8) then (some (⟨#[48, 32, 48, 32, 42, 32, 42, 32, 48]⟩ : ByteArray)) else (if x3.toList = ([64, 100, 97, 105, 108, 121] : List UInt8) then (spec_CronDescribed.j1 k x3 (x3.toList == ([64, 100, 97, 105, 108, 121] : List UInt8))) else (spec_CronDescribed.j1 k x3 (x3.toList == ([64, 109, 105, 100, 110, 105, 103, 104, 116] : List UInt8))))))
def spec_CronDescribed.j1 : Nat → ByteArray → Bool → Option (ByteArray)
 | 0, _, _ => none
 | k + 1, x3, x11 => if x11 = true then (some (⟨#[48, 32, 48, 32, 42, 32, 42, 32, 42]⟩ : ByteArray)) else (if x3.toList = ([64, 104, 111, 117, 114, 108, 121] : List UInt8) then (some (⟨#[48, 32, 42, 32, 42, 32, 42, 32, 42]⟩ : ByteArray)) else (some (⟨#[]⟩ : ByteArray)))
end
def spec_CronDescribed.f (k : Nat) (a0 : ByteArray) : Option (ByteArray) := if a0.toList = ([64, 121, 101, 97, 114, 108, 121] : List UInt8) then (spec_CronDescribed.j0 k a0 (a0.toList == ([64, 121, 101, 97, 114, 108, 121] : List UInt8))) else (spec_CronDescribed.j0 k a0 (a0.toList == ([64, 97, 110, 110, 117, 97, 108, 108, 121] : List UInt8)))
theorem spec_CronDescribed.mono_l : ∀ k, (∀ y0 y1, LeO (spec_CronDescribed.j0 k y0 y1) (spec_CronDescribed.j0 (k + 1) y0 y1)) ∧ (∀ y0 y1, LeO (spec_CronDescribed.j1 k y0 y1) (spec_CronDescribed.j1 (k + 1) y0 y1))
 | 0 => ⟨fun _ _ r h => by simp [spec_CronDescribed.j0] at h, fun _ _ r h => by simp [spec_CronDescribed.j1] at h⟩
 | k + 1 => by
  obtain ⟨ih0, ih1⟩ := spec_CronDescribed.mono_l k;refine ⟨?_, ?_⟩;intro y0 y1;unfold spec_CronDescribed.j0;rotate_left;intro y0 y1;unfold spec_CronDescribed.j1;rotate_left;all_goals repeat' first
  | (with_reducible exact ih0 _ _)
  | (with_reducible exact ih1 _ _)
  | (with_reducible exact LeO.refl _)
  | (with_reducible exact LeO.none _)
  | (with_reducible refine LeO.ite ?_ ?_)
  | (with_reducible refine LeO.bind ?_ (fun _ => ?_))
  | exact ih0 _ _
  | exact ih1 _ _
  | exact LeO.none _
  | refine LeO.ite ?_ ?_
  | refine LeO.bind ?_ (fun _ => ?_)
theorem spec_CronDescribed.mono : ∀ a0 k, LeO (spec_CronDescribed.f k a0) (spec_CronDescribed.f (k + 1) a0) := by
 intro a0 k;obtain ⟨ih0, ih1⟩ := spec_CronDescribed.mono_l k;unfold spec_CronDescribed.f
 repeat' first
  | (with_reducible exact ih0 _ _)
  | (with_reducible exact ih1 _ _)
  | (with_reducible exact LeO.refl _)
  | (with_reducible exact LeO.none _)
  | (with_reducible refine LeO.ite ?_ ?_)
  | (with_reducible refine LeO.bind ?_ (fun _ => ?_))
  | exact ih0 _ _
  | exact ih1 _ _
  | exact LeO.none _
  | refine LeO.ite ?_ ?_
  | refine LeO.bind ?_ (fun _ => ?_)
set_option maxHeartbeats 8000000 in
set_option maxRecDepth 100000 in
theorem spec_CronDescribed.calls (k : Nat) (a0 : ByteArray) (r : ByteArray) (w : World) (h : spec_CronDescribed.f k a0 = some r) :
  Calls Tryz.prog 169 #[.string a0] w fun e w' => e = .returned (.string r) ∧ Drawn0 w w' := by
 have H : (if a0.toList = ([64, 121, 101, 97, 114, 108, 121] : List UInt8) then (spec_CronDescribed.j0 k a0 (a0.toList == ([64, 121, 101, 97, 114, 108, 121] : List UInt8))) else (spec_CronDescribed.j0 k a0 (a0.toList == ([64, 97, 110, 110, 117, 97, 108, 108, 121] : List UInt8)))) = some r := h;clear h;have HC2 := Aside0.mk H;clear H;go_enter Tryz.func169, Tryz.ntmps169;go_upto_if 4 with (fail)
 go_cut [4] (fun v4 wc => ∃ (kq : Nat) (x4_1 : Bool), v4 = .bool x4_1 ∧ Aside0 (spec_CronDescribed.j0 kq a0 x4_1 = some r) ∧ Aside0 (kq ≤ k) ∧ Drawn0 w wc)
 case first =>
  have H := HC2.out;clear HC2;by_cases c3 : a0.toList = ([64, 121, 101, 97, 114, 108, 121] : List UInt8)
  ·rw [if_pos c3] at H;have c3b0 : (a0.toList == ([64, 121, 101, 97, 114, 108, 121] : List UInt8)) = true := beq_iff_eq.mpr c3;have c3b1 : (a0.toList != ([64, 121, 101, 97, 114, 108, 121] : List UInt8)) = false := bne_eq_false_iff_eq.mpr c3;clear c3
   (first | rw [c3b0] | (simp only [i64_w, i32_w]; rw [c3b0]) | skip)
   have H' := Aside0.mk H;clear H;go_wp2
   go_meet
   case rel => exact ⟨_, ((a0.toList == ([64, 121, 101, 97, 114, 108, 121] : List UInt8))), (by first | rfl | (simp; done) | (simp [*]; done)), H', ⟨by first | omega | exact Nat.le_refl _⟩, by repeat (first | exact Drawn0.refl _ | apply Drawn0.step)⟩
  ·rw [if_neg c3] at H;have c3b0 : (a0.toList == ([64, 121, 101, 97, 114, 108, 121] : List UInt8)) = false := beq_eq_false_iff_ne.mpr c3;have c3b1 : (a0.toList != ([64, 121, 101, 97, 114, 108, 121] : List UInt8)) = true := bne_iff_ne.mpr c3
   (first | rw [c3b0] | (simp only [i64_w, i32_w]; rw [c3b0]) | skip)
   have H' := Aside0.mk H;clear H;go_wp2
   go_meet
   case rel => exact ⟨_, ((a0.toList == ([64, 97, 110, 110, 117, 97, 108, 108, 121] : List UInt8))), (by first | rfl | (simp; done) | (simp [*]; done)), H', ⟨by first | omega | exact Nat.le_refl _⟩, by repeat (first | exact Drawn0.refl _ | apply Drawn0.step)⟩
 case rest =>
  clear HC2;try clear c1
  try clear p2
  try clear c3
  try clear c3b0
  try clear c3b1
  obtain ⟨kq, x4_1, rfl, HA, HJ1, ⟨mc1, rfl⟩⟩ := hcut;cases kq with
  | zero => exact absurd HA.out (by simp [spec_CronDescribed.j0])
  | succ kj1 =>
   have H := HA.out;clear HA;simp only [spec_CronDescribed.j0] at H;by_cases c4 : x4_1 = true
   ·subst c4;have H1 : (some (⟨#[48, 32, 48, 32, 49, 32, 49, 32, 42]⟩ : ByteArray)) = some r := by rw [if_pos rfl] at H; exact H
    clear H;have H := H1;clear H1;obtain rfl := Option.some.inj H;go_wp2
    go_ret;exact ⟨by first | rfl | (simp; done) | (simp [*]; done), by repeat (first | exact Drawn0.refl _ | apply Drawn0.step)⟩
   ·replace c4 := Bool.eq_false_iff.mpr c4;subst c4;have H1 : (if a0.toList = ([64, 109, 111, 110, 116, 104, 108, 121] : List UInt8) then (some (⟨#[48, 32, 48, 32, 49, 32, 42, 32, 42]⟩ : ByteArray)) else (if a0.toList = ([64, 119, 101, 101, 107, 108, 121] : List UInt8) then (some (⟨#[48, 32, 48, 32, 42, 32, 42, 32, 48]⟩ : ByteArray)) else (if a0.toList = ([64, 100, 97, 105, 108, 121] : List UInt8) then (spec_CronDescribed.j1 kj1 a0 (a0.toList == ([64, 100, 97, 105, 108, 121] : List UInt8))) else (spec_CronDescribed.j1 kj1 a0 (a0.toList == ([64, 109, 105, 100, 110, 105, 103, 104, 116] : List UInt8)))))) = some r := by rw [if_neg (show ¬ (false = true) by decide)] at H; exact H
    clear H;have H := H1;clear H1;by_cases c5 : a0.toList = ([64, 109, 111, 110, 116, 104, 108, 121] : List UInt8)
    ·rw [if_pos c5] at H;have c5b0 : (a0.toList == ([64, 109, 111, 110, 116, 104, 108, 121] : List UInt8)) = true := beq_iff_eq.mpr c5;have c5b1 : (a0.toList != ([64, 109, 111, 110, 116, 104, 108, 121] : List UInt8)) = false := bne_eq_false_iff_eq.mpr c5;clear c5;obtain rfl := Option.some.inj H;go_wp2
     go_ret;exact ⟨by first | rfl | (simp; done) | (simp [*]; done), by repeat (first | exact Drawn0.refl _ | apply Drawn0.step)⟩
    ·rw [if_neg c5] at H;have c5b0 : (a0.toList == ([64, 109, 111, 110, 116, 104, 108, 121] : List UInt8)) = false := beq_eq_false_iff_ne.mpr c5;have c5b1 : (a0.toList != ([64, 109, 111, 110, 116, 104, 108, 121] : List UInt8)) = true := bne_iff_ne.mpr c5;by_cases c6 : a0.toList = ([64, 119, 101, 101, 107, 108, 121] : List UInt8)
     ·rw [if_pos c6] at H;have c6b0 : (a0.toList == ([64, 119, 101, 101, 107, 108, 121] : List UInt8)) = true := beq_iff_eq.mpr c6;have c6b1 : (a0.toList != ([64, 119, 101, 101, 107, 108, 121] : List UInt8)) = false := bne_eq_false_iff_eq.mpr c6;clear c6;obtain rfl := Option.some.inj H;go_wp2
      go_ret;exact ⟨by first | rfl | (simp; done) | (simp [*]; done), by repeat (first | exact Drawn0.refl _ | apply Drawn0.step)⟩
     ·rw [if_neg c6] at H;have c6b0 : (a0.toList == ([64, 119, 101, 101, 107, 108, 121] : List UInt8)) = false := beq_eq_false_iff_ne.mpr c6;have c6b1 : (a0.toList != ([64, 119, 101, 101, 107, 108, 121] : List UInt8)) = true := bne_iff_ne.mpr c6;have HC7 := Aside0.mk H;clear H;go_upto_if 11 with (fail)
      go_cut [11] (fun v11 wc => ∃ (kq : Nat) (x11_6 : Bool), v11 = .bool x11_6 ∧ Aside0 (spec_CronDescribed.j1 kq a0 x11_6 = some r) ∧ Aside0 (kq ≤ kj1) ∧ Drawn0 w wc)
      case first =>
       have H := HC7.out;clear HC7;by_cases c8 : a0.toList = ([64, 100, 97, 105, 108, 121] : List UInt8)
       ·rw [if_pos c8] at H;have c8b0 : (a0.toList == ([64, 100, 97, 105, 108, 121] : List UInt8)) = true := beq_iff_eq.mpr c8;have c8b1 : (a0.toList != ([64, 100, 97, 105, 108, 121] : List UInt8)) = false := bne_eq_false_iff_eq.mpr c8;clear c8
        (first | rw [c8b0] | (simp only [i64_w, i32_w]; rw [c8b0]) | skip)
        have H' := Aside0.mk H;clear H;go_wp2
        go_meet
        case rel => exact ⟨_, ((a0.toList == ([64, 100, 97, 105, 108, 121] : List UInt8))), (by first | rfl | (simp; done) | (simp [*]; done)), H', ⟨by have := HJ1.out; first | omega | exact Nat.le_refl _⟩, by repeat (first | exact Drawn0.refl _ | apply Drawn0.step)⟩
       ·rw [if_neg c8] at H;have c8b0 : (a0.toList == ([64, 100, 97, 105, 108, 121] : List UInt8)) = false := beq_eq_false_iff_ne.mpr c8;have c8b1 : (a0.toList != ([64, 100, 97, 105, 108, 121] : List UInt8)) = true := bne_iff_ne.mpr c8
        (first | rw [c8b0] | (simp only [i64_w, i32_w]; rw [c8b0]) | skip)
        have H' := Aside0.mk H;clear H;go_wp2
        go_meet
        case rel => exact ⟨_, ((a0.toList == ([64, 109, 105, 100, 110, 105, 103, 104, 116] : List UInt8))), (by first | rfl | (simp; done) | (simp [*]; done)), H', ⟨by have := HJ1.out; first | omega | exact Nat.le_refl _⟩, by repeat (first | exact Drawn0.refl _ | apply Drawn0.step)⟩
      case rest =>
       clear HC7;try clear c1
       try clear p2
       try clear c3
       try clear c3b0
       try clear c3b1
       try clear c4
       try clear c5
       try clear c5b0
       try clear c5b1
       try clear c6
       try clear c6b0
       try clear c6b1
       try clear c8
       try clear c8b0
       try clear c8b1
       try clear p2
       obtain ⟨kq, x11_6, rfl, HA, HJ6, ⟨mc6, rfl⟩⟩ := hcut;cases kq with
       | zero => exact absurd HA.out (by simp [spec_CronDescribed.j1])
       | succ kj6 =>
        have H := HA.out;clear HA;simp only [spec_CronDescribed.j1] at H;by_cases c9 : x11_6 = true
        ·subst c9;have H1 : (some (⟨#[48, 32, 48, 32, 42, 32, 42, 32, 42]⟩ : ByteArray)) = some r := by rw [if_pos rfl] at H; exact H
         clear H;have H := H1;clear H1;obtain rfl := Option.some.inj H;go_wp2
         go_ret;exact ⟨by first | rfl | (simp; done) | (simp [*]; done), by repeat (first | exact Drawn0.refl _ | apply Drawn0.step)⟩
        ·replace c9 := Bool.eq_false_iff.mpr c9;subst c9;have H1 : (if a0.toList = ([64, 104, 111, 117, 114, 108, 121] : List UInt8) then (some (⟨#[48, 32, 42, 32, 42, 32, 42, 32, 42]⟩ : ByteArray)) else (some (⟨#[]⟩ : ByteArray))) = some r := by rw [if_neg (show ¬ (false = true) by decide)] at H; exact H
         clear H;have H := H1;clear H1;by_cases c10 : a0.toList = ([64, 104, 111, 117, 114, 108, 121] : List UInt8)
         ·rw [if_pos c10] at H;have c10b0 : (a0.toList == ([64, 104, 111, 117, 114, 108, 121] : List UInt8)) = true := beq_iff_eq.mpr c10;have c10b1 : (a0.toList != ([64, 104, 111, 117, 114, 108, 121] : List UInt8)) = false := bne_eq_false_iff_eq.mpr c10;clear c10;obtain rfl := Option.some.inj H;go_wp2
          go_ret;exact ⟨by first | rfl | (simp; done) | (simp [*]; done), by repeat (first | exact Drawn0.refl _ | apply Drawn0.step)⟩
         ·rw [if_neg c10] at H;have c10b0 : (a0.toList == ([64, 104, 111, 117, 114, 108, 121] : List UInt8)) = false := beq_eq_false_iff_ne.mpr c10;have c10b1 : (a0.toList != ([64, 104, 111, 117, 114, 108, 121] : List UInt8)) = true := bne_iff_ne.mpr c10;obtain rfl := Option.some.inj H;go_wp2
          go_ret;exact ⟨by first | rfl | (simp; done) | (simp [*]; done), by repeat (first | exact Drawn0.refl _ | apply Drawn0.step)⟩
def spec_CronDelay.f (a0 : Int) : Option (Int) := if a0 < 1000000000 then (some 1000000000) else (some (wrap64 ((wrap64 (Int.tdiv a0 1000000000)) * 1000000000)))
set_option maxHeartbeats 8000000 in
set_option maxRecDepth 100000 in
theorem spec_CronDelay.calls (a0 : Int) (r : Int) (w : World) (h : spec_CronDelay.f a0 = some r) :
  Calls Tryz.prog 171 #[.int .i64 a0] w fun e w' => e = .returned (.int .i64 r) ∧ Drawn0 w w' := by
 have H : (if a0 < 1000000000 then (some 1000000000) else (some (wrap64 ((wrap64 (Int.tdiv a0 1000000000)) * 1000000000)))) = some r := h;clear h;by_cases c2 : a0 < 1000000000
 ·rw [if_pos c2] at H;have c2b0 : decide (a0 < 1000000000) = true := decide_eq_true c2;clear c2;obtain rfl := Option.some.inj H;go_enter Tryz.func171, Tryz.ntmps171;go_wp2
  go_ret;exact ⟨by first | rfl | (simp; done) | (simp [*]; done), by repeat (first | exact Drawn0.refl _ | apply Drawn0.step)⟩
 ·rw [if_neg c2] at H;have c2b0 : decide (a0 < 1000000000) = false := decide_eq_false c2;clear c2;obtain rfl := Option.some.inj H;go_enter Tryz.func171, Tryz.ntmps171;go_wp2
  go_ret;exact ⟨by first | rfl | (simp; done) | (simp [*]; done), by repeat (first | exact Drawn0.refl _ | apply Drawn0.step)⟩
mutual
def spec_CronZoneName.j0 : Nat → ByteArray → Bool → Option (Bool × Int)
 | 0, _, _ => none
 | k + 1, x0, x5 => if x5 = true then (some (true, 1)) else (if x0.toList = ([76, 111, 99, 97, 108] : List UInt8) then (some (false, 1)) else (if 0 < (x0.size : Int) then (if (bt x0 0) = 47 then (some (false, 0)) else (if (bt x0 0) = 92 then (some (false, 0)) else (spec_CronZoneName.l0 k x0 1))) else (none)))
def spec_CronZoneName.l0 : Nat → ByteArray → Int → Option (Bool × Int)
 | 0, _, _ => none
 | k + 1, x0, x4 => if x4 < (x0.size : Int) then (if 0 ≤ (wrap64 (x4 - 1)) then (if (wrap64 (x4 - 1)) < (x0.size : Int) then (if (bt x0 (wrap64 (x4 - 1))) = 46 then (if 0 ≤ x4 then (if (bt x0 x4) = 46 then (some (false, 0)) else (spec_CronZoneName.l0 k x0 (wrap64 (x4 + 1)))) else (none)) else (spec_CronZoneName.l0 k x0 (wrap64 (x4 + 1)))) else (none)) else (none)) else (some (false, 2))
end
def spec_CronZoneName.f (k : Nat) (a0 : ByteArray) : Option (Bool × Int) := if a0.toList = ([] : List UInt8) then (spec_CronZoneName.j0 k a0 true) else (spec_CronZoneName.j0 k a0 (a0.toList == ([85, 84, 67] : List UInt8)))
theorem spec_CronZoneName.mono_l : ∀ k, (∀ y0 y1, LeO (spec_CronZoneName.j0 k y0 y1) (spec_CronZoneName.j0 (k + 1) y0 y1)) ∧ (∀ y0 y1, LeO (spec_CronZoneName.l0 k y0 y1) (spec_CronZoneName.l0 (k + 1) y0 y1))
 | 0 => ⟨fun _ _ r h => by simp [spec_CronZoneName.j0] at h, fun _ _ r h => by simp [spec_CronZoneName.l0] at h⟩
 | k + 1 => by
  obtain ⟨ih0, ih1⟩ := spec_CronZoneName.mono_l k;refine ⟨?_, ?_⟩;intro y0 y1;unfold spec_CronZoneName.j0;rotate_left;intro y0 y1;unfold spec_CronZoneName.l0;rotate_left;all_goals repeat' first
  | (with_reducible exact ih0 _ _)
  | (with_reducible exact ih1 _ _)
  | (with_reducible exact LeO.refl _)
  | (with_reducible exact LeO.none _)
  | (with_reducible refine LeO.ite ?_ ?_)
  | (with_reducible refine LeO.bind ?_ (fun _ => ?_))
  | exact ih0 _ _
  | exact ih1 _ _
  | exact LeO.none _
  | refine LeO.ite ?_ ?_
  | refine LeO.bind ?_ (fun _ => ?_)
theorem spec_CronZoneName.mono : ∀ a0 k, LeO (spec_CronZoneName.f k a0) (spec_CronZoneName.f (k + 1) a0) := by
 intro a0 k;obtain ⟨ih0, ih1⟩ := spec_CronZoneName.mono_l k;unfold spec_CronZoneName.f
 repeat' first
  | (with_reducible exact ih0 _ _)
  | (with_reducible exact ih1 _ _)
  | (with_reducible exact LeO.refl _)
  | (with_reducible exact LeO.none _)
  | (with_reducible refine LeO.ite ?_ ?_)
  | (with_reducible refine LeO.bind ?_ (fun _ => ?_))
  | exact ih0 _ _
  | exact ih1 _ _
  | exact LeO.none _
  | refine LeO.ite ?_ ?_
  | refine LeO.bind ?_ (fun _ => ?_)
set_option maxHeartbeats 8000000 in
set_option maxRecDepth 100000 in
theorem spec_CronZoneName.calls (k : Nat) (a0 : ByteArray) (r1 : Bool) (r2 : Int) (w : World) (h : spec_CronZoneName.f k a0 = some (r1, r2)) :
  Calls Tryz.prog 90 #[.string a0] w fun e w' => e = .returned (.tuple #[.bool r1, .int .i64 r2]) ∧ Drawn0 w w' := by
 have H : (if a0.toList = ([] : List UInt8) then (spec_CronZoneName.j0 k a0 true) else (spec_CronZoneName.j0 k a0 (a0.toList == ([85, 84, 67] : List UInt8)))) = some (r1, r2) := h;clear h;have HC2 := Aside0.mk H;clear H;go_enter Tryz.func90, Tryz.ntmps90;go_upto_region 1 with (fail)
 go_cut [5] (fun v5 wc => ∃ (kq : Nat) (x5_1 : Bool), v5 = .bool x5_1 ∧ Aside0 (spec_CronZoneName.j0 kq a0 x5_1 = some (r1, r2)) ∧ Aside0 (kq ≤ k) ∧ Drawn0 w wc)
 case first =>
  have H := HC2.out;clear HC2;by_cases c3 : a0.toList = ([] : List UInt8)
  ·rw [if_pos c3] at H;have c3b0 : (a0.toList == ([] : List UInt8)) = true := beq_iff_eq.mpr c3;have c3b1 : (a0.toList != ([] : List UInt8)) = false := bne_eq_false_iff_eq.mpr c3;clear c3
   (first | rw [c3b0] | (simp only [i64_w, i32_w]; rw [c3b0]) | skip)
   have H' := Aside0.mk H;clear H;go_wp2
   go_meet
   case rel => exact ⟨_, (true), (by first | rfl | (simp; done) | (simp [*]; done)), H', ⟨by first | omega | exact Nat.le_refl _⟩, by repeat (first | exact Drawn0.refl _ | apply Drawn0.step)⟩
  ·rw [if_neg c3] at H;have c3b0 : (a0.toList == ([] : List UInt8)) = false := beq_eq_false_iff_ne.mpr c3;have c3b1 : (a0.toList != ([] : List UInt8)) = true := bne_iff_ne.mpr c3
   (first | rw [c3b0] | (simp only [i64_w, i32_w]; rw [c3b0]) | skip)
   have H' := Aside0.mk H;clear H;go_wp2
   go_meet
   case rel => exact ⟨_, ((a0.toList == ([85, 84, 67] : List UInt8))), (by first | rfl | (simp; done) | (simp [*]; done)), H', ⟨by first | omega | exact Nat.le_refl _⟩, by repeat (first | exact Drawn0.refl _ | apply Drawn0.step)⟩
 case rest =>
  clear HC2;try clear p2
  try clear c3
  try clear c3b0
  try clear c3b1
  obtain ⟨kq, x5_1, rfl, HA, HJ1, ⟨mc1, rfl⟩⟩ := hcut;cases kq with
  | zero => exact absurd HA.out (by simp [spec_CronZoneName.j0])
  | succ kj1 =>
   have H := HA.out;clear HA;simp only [spec_CronZoneName.j0] at H;by_cases c4 : x5_1 = true
   ·subst c4;have H1 : (some (true, 1)) = some (r1, r2) := by rw [if_pos rfl] at H; exact H
    clear H;have H := H1;clear H1;simp only [Option.some.injEq, Prod.mk.injEq] at H;obtain ⟨rfl, rfl⟩ := H;go_wp2
    go_ret2;exact ⟨by first | rfl | (simp; done) | (simp [*]; done), by repeat (first | exact Drawn0.refl _ | apply Drawn0.step)⟩
   ·replace c4 := Bool.eq_false_iff.mpr c4;subst c4;have H1 : (if a0.toList = ([76, 111, 99, 97, 108] : List UInt8) then (some (false, 1)) else (if 0 < (a0.size : Int) then (if (bt a0 0) = 47 then (some (false, 0)) else (if (bt a0 0) = 92 then (some (false, 0)) else (spec_CronZoneName.l0 kj1 a0 1))) else (none))) = some (r1, r2) := by rw [if_neg (show ¬ (false = true) by decide)] at H; exact H
    clear H;have H := H1;clear H1;by_cases c5 : a0.toList = ([76, 111, 99, 97, 108] : List UInt8)
    ·rw [if_pos c5] at H;have c5b0 : (a0.toList == ([76, 111, 99, 97, 108] : List UInt8)) = true := beq_iff_eq.mpr c5;have c5b1 : (a0.toList != ([76, 111, 99, 97, 108] : List UInt8)) = false := bne_eq_false_iff_eq.mpr c5;clear c5;simp only [Option.some.injEq, Prod.mk.injEq] at H;obtain ⟨rfl, rfl⟩ := H;go_wp2
     go_ret2;exact ⟨by first | rfl | (simp; done) | (simp [*]; done), by repeat (first | exact Drawn0.refl _ | apply Drawn0.step)⟩
    ·rw [if_neg c5] at H;have c5b0 : (a0.toList == ([76, 111, 99, 97, 108] : List UInt8)) = false := beq_eq_false_iff_ne.mpr c5;have c5b1 : (a0.toList != ([76, 111, 99, 97, 108] : List UInt8)) = true := bne_iff_ne.mpr c5;by_cases c6 : 0 < (a0.size : Int)
     ·rw [if_pos c6] at H;have c6b0 : decide (0 < (a0.size : Int)) = true := decide_eq_true c6;have c6b1 : decide (0 < a0.size) = true := decide_eq_true (by omega);clear c6;by_cases c8 : (bt a0 0) = 47
      ·rw [if_pos c8] at H;have c8b0 : ((bt a0 0) == 47) = true := beq_iff_eq.mpr c8;have c8b1 : ((bt a0 0) != 47) = false := bne_eq_false_iff_eq.mpr c8;clear c8;simp only [Option.some.injEq, Prod.mk.injEq] at H;obtain ⟨rfl, rfl⟩ := H;have p7 : 0 ≤ (0 : Int) := (by omega)
       have q7 : 0 < a0.size := (by have : (0 : Int) < (a0.size : Int) := of_decide_eq_true (by first | (with_reducible assumption) | assumption); omega)
       have hx7 : ∀ h : 0 < a0.size, ((a0[0]'h).toNat : Int) = bt a0 0 := bt_at a0 0;clear p7;have qi7 : (0 < (a0.size : Int)) = True := eq_true (of_decide_eq_true (by first | (with_reducible assumption) | assumption));replace q7 := eq_true q7;go_wp2
       go_ret2;exact ⟨by first | rfl | (simp; done) | (simp [*]; done), by repeat (first | exact Drawn0.refl _ | apply Drawn0.step)⟩
      ·rw [if_neg c8] at H;have c8b0 : ((bt a0 0) == 47) = false := beq_eq_false_iff_ne.mpr c8;have c8b1 : ((bt a0 0) != 47) = true := bne_iff_ne.mpr c8;by_cases c10 : (bt a0 0) = 92
       ·rw [if_pos c10] at H;have c10b0 : ((bt a0 0) == 92) = true := beq_iff_eq.mpr c10;have c10b1 : ((bt a0 0) != 92) = false := bne_eq_false_iff_eq.mpr c10;clear c10;simp only [Option.some.injEq, Prod.mk.injEq] at H;obtain ⟨rfl, rfl⟩ := H;have p7 : 0 ≤ (0 : Int) := (by omega)
        have q7 : 0 < a0.size := (by have : (0 : Int) < (a0.size : Int) := of_decide_eq_true (by first | (with_reducible assumption) | assumption); omega)
        have hx7 : ∀ h : 0 < a0.size, ((a0[0]'h).toNat : Int) = bt a0 0 := bt_at a0 0;clear p7;have qi7 : (0 < (a0.size : Int)) = True := eq_true (of_decide_eq_true (by first | (with_reducible assumption) | assumption));replace q7 := eq_true q7;have p9 : 0 ≤ (0 : Int) := (by omega)
        have q9 : 0 < a0.size := (by have : (0 : Int) < (a0.size : Int) := of_decide_eq_true (by first | (with_reducible assumption) | assumption); omega)
        have hx9 : ∀ h : 0 < a0.size, ((a0[0]'h).toNat : Int) = bt a0 0 := bt_at a0 0;clear p9;have qi9 : (0 < (a0.size : Int)) = True := eq_true (of_decide_eq_true (by first | (with_reducible assumption) | assumption));replace q9 := eq_true q9;go_wp2
        go_ret2;exact ⟨by first | rfl | (simp; done) | (simp [*]; done), by repeat (first | exact Drawn0.refl _ | apply Drawn0.step)⟩
       ·rw [if_neg c10] at H;have c10b0 : ((bt a0 0) == 92) = false := beq_eq_false_iff_ne.mpr c10;have c10b1 : ((bt a0 0) != 92) = true := bne_iff_ne.mpr c10;have H' := Aside0.mk H;clear H;have p7 : 0 ≤ (0 : Int) := (by omega)
        have q7 : 0 < a0.size := (by have : (0 : Int) < (a0.size : Int) := of_decide_eq_true (by first | (with_reducible assumption) | assumption); omega)
        have hx7 : ∀ h : 0 < a0.size, ((a0[0]'h).toNat : Int) = bt a0 0 := bt_at a0 0;clear p7;have qi7 : (0 < (a0.size : Int)) = True := eq_true (of_decide_eq_true (by first | (with_reducible assumption) | assumption));replace q7 := eq_true q7;have p9 : 0 ≤ (0 : Int) := (by omega)
        have q9 : 0 < a0.size := (by have : (0 : Int) < (a0.size : Int) := of_decide_eq_true (by first | (with_reducible assumption) | assumption); omega)
        have hx9 : ∀ h : 0 < a0.size, ((a0[0]'h).toNat : Int) = bt a0 0 := bt_at a0 0;clear p9;have qi9 : (0 < (a0.size : Int)) = True := eq_true (of_decide_eq_true (by first | (with_reducible assumption) | assumption));replace q9 := eq_true q9;go_wp2
        go_loopg [4] kj1 (fun kq v4 w' => ∃ (x4_2 : Int), v4 = .int .i64 x4_2 ∧ Aside0 (spec_CronZoneName.l0 kq a0 x4_2 = some (r1, r2)) ∧ Aside0 (kq ≤ kj1) ∧ Drawn0 w w')
        case atStart => exact ⟨(1), (by first | rfl | (simp; done) | (simp [*]; done)), H', ⟨Nat.le_refl _⟩, by repeat (first | exact Drawn0.refl _ | apply Drawn0.step)⟩
        case round =>
         clear H';try clear c1
         try clear p2
         try clear c3
         try clear c3b0
         try clear c3b1
         try clear c4
         try clear c5
         try clear c5b0
         try clear c5b1
         try clear c6
         try clear c6b0
         try clear c6b1
         try clear p7
         try clear q7
         try clear hx7
         try clear qi7
         try clear c8
         try clear c8b0
         try clear c8b1
         try clear c9
         try clear p9
         try clear q9
         try clear hx9
         try clear qi9
         try clear c10
         try clear c10b0
         try clear c10b1
         try clear p2
         try clear p7
         try clear p9
         try clear q7
         try clear q9
         obtain ⟨x4_2, rfl, HA, HK2, ⟨m2, rfl⟩⟩ := hrel;cases gk with
         | zero => exact absurd HA.out (by simp [spec_CronZoneName.l0])
         | succ k2 =>
          have H := HA.out;clear HA;simp only [spec_CronZoneName.l0] at H;by_cases c11 : x4_2 < (a0.size : Int)
          ·rw [if_pos c11] at H;have c11b0 : decide (x4_2 < (a0.size : Int)) = true := decide_eq_true c11;clear c11;obtain ⟨ji12, hji12⟩ : ∃ j_ : Int, (wrap64 (x4_2 - 1)) = j_ := ⟨_, rfl⟩
           replace H : (if 0 ≤ (ji12) then (if (ji12) < (a0.size : Int) then (if (bt a0 (ji12)) = 46 then (if 0 ≤ x4_2 then (if (bt a0 x4_2) = 46 then (some (false, 0)) else (spec_CronZoneName.l0 k2 a0 (wrap64 (x4_2 + 1)))) else (none)) else (spec_CronZoneName.l0 k2 a0 (wrap64 (x4_2 + 1)))) else (none)) else (none)) = some (r1, r2) := by first | (rw [hji12] at H; exact H) | (simp only [hji12] at H ⊢; exact H)
           have hji12w : (IntKind.i64.wrap (x4_2 - 1)) = ji12 := (i64_w _).trans hji12;by_cases c13 : 0 ≤ (ji12)
           ·rw [if_pos c13] at H;have c13b0 : decide (0 ≤ (ji12)) = true := decide_eq_true c13;clear c13;by_cases c14 : (ji12) < (a0.size : Int)
            ·rw [if_pos c14] at H;have c14b0 : decide ((ji12) < (a0.size : Int)) = true := decide_eq_true c14;clear c14;by_cases c16 : (bt a0 (ji12)) = 46
             ·rw [if_pos c16] at H;have c16b0 : ((bt a0 (ji12)) == 46) = true := beq_iff_eq.mpr c16;have c16b1 : ((bt a0 (ji12)) != 46) = false := bne_eq_false_iff_eq.mpr c16;clear c16;by_cases c17 : 0 ≤ x4_2
              ·rw [if_pos c17] at H;have c17b0 : decide (0 ≤ x4_2) = true := decide_eq_true c17;clear c17;by_cases c19 : (bt a0 x4_2) = 46
               ·rw [if_pos c19] at H;have c19b0 : ((bt a0 x4_2) == 46) = true := beq_iff_eq.mpr c19;have c19b1 : ((bt a0 x4_2) != 46) = false := bne_eq_false_iff_eq.mpr c19;clear c19;simp only [Option.some.injEq, Prod.mk.injEq] at H;obtain ⟨rfl, rfl⟩ := H;have p15 : 0 ≤ ((ji12) : Int) := of_decide_eq_true (by first | (with_reducible assumption) | assumption);have q15 : (ji12) < (a0.size : Int) := of_decide_eq_true (by first | (with_reducible assumption) | assumption);have hx15 := bt_at a0 (ji12);replace p15 := eq_true p15;replace q15 := eq_true q15;have p18 : 0 ≤ (x4_2 : Int) := of_decide_eq_true (by first | (with_reducible assumption) | assumption);have q18 : x4_2 < (a0.size : Int) := of_decide_eq_true (by first | (with_reducible assumption) | assumption);have hx18 := bt_at a0 x4_2;replace p18 := eq_true p18;replace q18 := eq_true q18;go_wp2
                go_ret2;exact ⟨by first | rfl | (simp; done) | (simp only [← hji12] <;> (first | rfl | simp)) | (simp [*]; done), by repeat (first | exact Drawn0.refl _ | apply Drawn0.step)⟩
               ·rw [if_neg c19] at H;have c19b0 : ((bt a0 x4_2) == 46) = false := beq_eq_false_iff_ne.mpr c19;have c19b1 : ((bt a0 x4_2) != 46) = true := bne_iff_ne.mpr c19;have H' := Aside0.mk H;clear H;have p15 : 0 ≤ ((ji12) : Int) := of_decide_eq_true (by first | (with_reducible assumption) | assumption);have q15 : (ji12) < (a0.size : Int) := of_decide_eq_true (by first | (with_reducible assumption) | assumption);have hx15 := bt_at a0 (ji12);replace p15 := eq_true p15;replace q15 := eq_true q15;have p18 : 0 ≤ (x4_2 : Int) := of_decide_eq_true (by first | (with_reducible assumption) | assumption);have q18 : x4_2 < (a0.size : Int) := of_decide_eq_true (by first | (with_reducible assumption) | assumption);have hx18 := bt_at a0 x4_2;replace p18 := eq_true p18;replace q18 := eq_true q18;go_wp2
                go_roundg k2
                case measure => have := HJ1.out; have := HK2.out; omega
                case rel => exact ⟨(wrap64 (x4_2 + 1)), (by first | rfl | (simp; done) | (simp [*]; done)), H', ⟨by have := HJ1.out; have := HK2.out; omega⟩, by repeat (first | exact Drawn0.refl _ | apply Drawn0.step)⟩
              ·rw [if_neg c17] at H;exact absurd H (by simp)
             ·rw [if_neg c16] at H;have c16b0 : ((bt a0 (ji12)) == 46) = false := beq_eq_false_iff_ne.mpr c16;have c16b1 : ((bt a0 (ji12)) != 46) = true := bne_iff_ne.mpr c16;have H' := Aside0.mk H;clear H;have p15 : 0 ≤ ((ji12) : Int) := of_decide_eq_true (by first | (with_reducible assumption) | assumption);have q15 : (ji12) < (a0.size : Int) := of_decide_eq_true (by first | (with_reducible assumption) | assumption);have hx15 := bt_at a0 (ji12);replace p15 := eq_true p15;replace q15 := eq_true q15;go_wp2
              go_roundg k2
              case measure => have := HJ1.out; have := HK2.out; omega
              case rel => exact ⟨(wrap64 (x4_2 + 1)), (by first | rfl | (simp; done) | (simp [*]; done)), H', ⟨by have := HJ1.out; have := HK2.out; omega⟩, by repeat (first | exact Drawn0.refl _ | apply Drawn0.step)⟩
            ·rw [if_neg c14] at H;exact absurd H (by simp)
           ·rw [if_neg c13] at H;exact absurd H (by simp)
          ·rw [if_neg c11] at H;have c11b0 : decide (x4_2 < (a0.size : Int)) = false := decide_eq_false c11;clear c11;simp only [Option.some.injEq, Prod.mk.injEq] at H;obtain ⟨rfl, rfl⟩ := H;go_wp2
           go_ret2;exact ⟨by first | rfl | (simp; done) | (simp [*]; done), by repeat (first | exact Drawn0.refl _ | apply Drawn0.step)⟩
     ·rw [if_neg c6] at H;exact absurd H (by simp)
mutual
def spec_CronTrim.j1 : Nat → ByteArray → Option (ByteArray)
 | 0, _ => none
 | k + 1, x0 => spec_CronTrim.l1 k x0
def spec_CronTrim.l1 : Nat → ByteArray → Option (ByteArray)
 | 0, _ => none
 | k + 1, x0 => if x0.toList = ([] : List UInt8) then (some x0) else (if 0 ≤ (wrap64 ((x0.size : Int) - 1)) then (if (wrap64 ((x0.size : Int) - 1)) < (x0.size : Int) then ((spec_cronBlank.f (bt x0 (wrap64 ((x0.size : Int) - 1)))).bind fun t163 => (if t163 = true then (if (wrap64 ((x0.size : Int) - 1)) ≤ (x0.size : Int) then (spec_CronTrim.l1 k (x0.extract 0 ((wrap64 ((x0.size : Int) - 1)) : Int).toNat)) else (none)) else (some x0))) else (none)) else (none))
def spec_CronTrim.l0 : Nat → ByteArray → Option (ByteArray)
 | 0, _ => none
 | k + 1, x0 => if x0.toList = ([] : List UInt8) then (spec_CronTrim.j1 k x0) else (if 0 < (x0.size : Int) then ((spec_cronBlank.f (bt x0 0)).bind fun t162 => (if t162 = true then (if 1 ≤ (x0.size : Int) then (spec_CronTrim.l0 k (x0.extract 1 x0.size)) else (none)) else (spec_CronTrim.j1 k x0))) else (none))
end
def spec_CronTrim.f (k : Nat) (a0 : ByteArray) : Option (ByteArray) := spec_CronTrim.l0 k a0
theorem spec_CronTrim.mono_l : ∀ k, (∀ y0, LeO (spec_CronTrim.j1 k y0) (spec_CronTrim.j1 (k + 1) y0)) ∧ (∀ y0, LeO (spec_CronTrim.l1 k y0) (spec_CronTrim.l1 (k + 1) y0)) ∧ (∀ y0, LeO (spec_CronTrim.l0 k y0) (spec_CronTrim.l0 (k + 1) y0))
 | 0 => ⟨fun _ r h => by simp [spec_CronTrim.j1] at h, fun _ r h => by simp [spec_CronTrim.l1] at h, fun _ r h => by simp [spec_CronTrim.l0] at h⟩
 | k + 1 => by
  obtain ⟨ih0, ih1, ih2⟩ := spec_CronTrim.mono_l k;refine ⟨?_, ?_, ?_⟩;intro y0;unfold spec_CronTrim.j1;rotate_left;intro y0;unfold spec_CronTrim.l1;rotate_left;intro y0;unfold spec_CronTrim.l0;rotate_left;all_goals repeat' first
  | (with_reducible exact ih0 _)
  | (with_reducible exact ih1 _)
  | (with_reducible exact ih2 _)
  | (with_reducible exact LeO.refl _)
  | (with_reducible exact LeO.none _)
  | (with_reducible refine LeO.ite ?_ ?_)
  | (with_reducible refine LeO.bind ?_ (fun _ => ?_))
  | exact ih0 _
  | exact ih1 _
  | exact ih2 _
  | exact LeO.none _
  | refine LeO.ite ?_ ?_
  | refine LeO.bind ?_ (fun _ => ?_)
theorem spec_CronTrim.mono : ∀ a0 k, LeO (spec_CronTrim.f k a0) (spec_CronTrim.f (k + 1) a0) := by
 intro a0 k;obtain ⟨ih0, ih1, ih2⟩ := spec_CronTrim.mono_l k;unfold spec_CronTrim.f
 repeat' first
  | (with_reducible exact ih0 _)
  | (with_reducible exact ih1 _)
  | (with_reducible exact ih2 _)
  | (with_reducible exact LeO.refl _)
  | (with_reducible exact LeO.none _)
  | (with_reducible refine LeO.ite ?_ ?_)
  | (with_reducible refine LeO.bind ?_ (fun _ => ?_))
  | exact ih0 _
  | exact ih1 _
  | exact ih2 _
  | exact LeO.none _
  | refine LeO.ite ?_ ?_
  | refine LeO.bind ?_ (fun _ => ?_)
set_option maxHeartbeats 8000000 in
set_option maxRecDepth 100000 in
theorem spec_CronTrim.calls (k : Nat) (a0 : ByteArray) (r : ByteArray) (w : World) (h : spec_CronTrim.f k a0 = some r) :
  Calls Tryz.prog 91 #[.string a0] w fun e w' => e = .returned (.string r) ∧ Drawn0 w w' := by
 have H : (spec_CronTrim.l0 k a0) = some r := h;clear h;have HC2 := Aside0.mk H;clear H;go_enter Tryz.func91, Tryz.ntmps91;go_upto_block 0 with (fail)
 go_cut [0] (fun v0 wc => ∃ (kq : Nat) (x0_1 : ByteArray), v0 = .string x0_1 ∧ Aside0 (spec_CronTrim.j1 kq x0_1 = some r) ∧ Aside0 (kq ≤ k) ∧ Drawn0 w wc)
 case first =>
  have H := HC2.out;clear HC2;have H' := Aside0.mk H;clear H;go_wp2
  go_loopg [0] k (fun kq v0 w' => ∃ (x0_1 : ByteArray), v0 = .string x0_1 ∧ Aside0 (spec_CronTrim.l0 kq x0_1 = some r) ∧ Aside0 (kq ≤ k) ∧ Drawn0 w w')
  case atStart => exact ⟨(a0), (by first | rfl | (simp; done) | (simp [*]; done)), H', ⟨Nat.le_refl _⟩, by repeat (first | exact Drawn0.refl _ | apply Drawn0.step)⟩
  case round =>
   clear H';try clear p2
   obtain ⟨x0_1, rfl, HA, HK1, ⟨m1, rfl⟩⟩ := hrel;cases gk with
   | zero => exact absurd HA.out (by simp [spec_CronTrim.l0])
   | succ k1 =>
    have H := HA.out;clear HA;simp only [spec_CronTrim.l0] at H;by_cases c3 : x0_1.toList = ([] : List UInt8)
    ·rw [if_pos c3] at H;have c3b0 : (x0_1.toList == ([] : List UInt8)) = true := beq_iff_eq.mpr c3;have c3b1 : (x0_1.toList != ([] : List UInt8)) = false := bne_eq_false_iff_eq.mpr c3;clear c3
     (first | rw [c3b0] | (simp only [i64_w, i32_w]; rw [c3b0]) | skip)
     have H' := Aside0.mk H;clear H;go_wp2
     go_meet
     case rel => exact ⟨_, (x0_1), (by first | rfl | (simp; done) | (simp [*]; done)), H', ⟨by have := HK1.out; first | omega | exact Nat.le_refl _⟩, by repeat (first | exact Drawn0.refl _ | apply Drawn0.step)⟩
    ·rw [if_neg c3] at H;have c3b0 : (x0_1.toList == ([] : List UInt8)) = false := beq_eq_false_iff_ne.mpr c3;have c3b1 : (x0_1.toList != ([] : List UInt8)) = true := bne_iff_ne.mpr c3
     (first | rw [c3b0] | (simp only [i64_w, i32_w]; rw [c3b0]) | skip)
     by_cases c4 : 0 < (x0_1.size : Int)
     ·rw [if_pos c4] at H;have c4b0 : decide (0 < (x0_1.size : Int)) = true := decide_eq_true c4;have c4b1 : decide (0 < x0_1.size) = true := decide_eq_true (by omega);clear c4;replace H := Option.bind_eq_some_iff.mp H;obtain ⟨t162, A60, H⟩ := H;replace H : (if t162 = true then (if 1 ≤ (x0_1.size : Int) then (spec_CronTrim.l0 k1 (x0_1.extract 1 x0_1.size)) else (none)) else (spec_CronTrim.j1 k1 x0_1)) = some r := H;have A6 := Aside0.mk A60;clear A60;by_cases c7 : t162 = true
      ·subst c7;have H1 : (if 1 ≤ (x0_1.size : Int) then (spec_CronTrim.l0 k1 (x0_1.extract 1 x0_1.size)) else (none)) = some r := by rw [if_pos rfl] at H; exact H
       clear H;have H := H1;clear H1;by_cases c8 : 1 ≤ (x0_1.size : Int)
       ·rw [if_pos c8] at H;have c8b0 := eq_true c8;have c8b1 : decide (1 ≤ (x0_1.size : Int)) = true := decide_eq_true c8;clear c8;have H' := Aside0.mk H;clear H;have p5 : 0 ≤ (0 : Int) := (by omega)
        have q5 : 0 < x0_1.size := (by have : (0 : Int) < (x0_1.size : Int) := of_decide_eq_true (by first | (with_reducible assumption) | assumption); omega)
        have hx5 : ∀ h : 0 < x0_1.size, ((x0_1[0]'h).toNat : Int) = bt x0_1 0 := bt_at x0_1 0;clear p5;have qi5 : (0 < (x0_1.size : Int)) = True := eq_true (of_decide_eq_true (by first | (with_reducible assumption) | assumption));replace q5 := eq_true q5;go_wp2_with (first | (go_at_call 62; (with_reducible refine (spec_cronBlank.calls (bt x0_1 0) true _ A6.out).mono ?_); rintro e w' ⟨rfl, ⟨nd, rfl⟩⟩))
        go_roundg k1
        case measure => have := HK1.out; omega
        case rel => exact ⟨(x0_1.extract 1 x0_1.size), (by first | rfl | (simp; done) | (simp [*]; done)), H', ⟨by have := HK1.out; omega⟩, by repeat (first | exact Drawn0.refl _ | apply Drawn0.step)⟩
       ·rw [if_neg c8] at H;exact absurd H (by simp)
      ·replace c7 := Bool.eq_false_iff.mpr c7;subst c7;have H1 : (spec_CronTrim.j1 k1 x0_1) = some r := by rw [if_neg (show ¬ (false = true) by decide)] at H; exact H
       clear H;have H := H1;clear H1;have H' := Aside0.mk H;clear H;have p5 : 0 ≤ (0 : Int) := (by omega)
       have q5 : 0 < x0_1.size := (by have : (0 : Int) < (x0_1.size : Int) := of_decide_eq_true (by first | (with_reducible assumption) | assumption); omega)
       have hx5 : ∀ h : 0 < x0_1.size, ((x0_1[0]'h).toNat : Int) = bt x0_1 0 := bt_at x0_1 0;clear p5;have qi5 : (0 < (x0_1.size : Int)) = True := eq_true (of_decide_eq_true (by first | (with_reducible assumption) | assumption));replace q5 := eq_true q5;go_wp2_with (first | (go_at_call 62; (with_reducible refine (spec_cronBlank.calls (bt x0_1 0) false _ A6.out).mono ?_); rintro e w' ⟨rfl, ⟨nd, rfl⟩⟩))
       go_meet
       case rel => exact ⟨_, (x0_1), (by first | rfl | (simp; done) | (simp [*]; done)), H', ⟨by have := HK1.out; first | omega | exact Nat.le_refl _⟩, by repeat (first | exact Drawn0.refl _ | apply Drawn0.step)⟩
     ·rw [if_neg c4] at H;exact absurd H (by simp)
 case rest =>
  clear HC2;try clear p2
  try clear c3
  try clear c3b0
  try clear c3b1
  try clear c4
  try clear c4b0
  try clear c4b1
  try clear p5
  try clear q5
  try clear hx5
  try clear qi5
  try clear c7
  try clear c8
  try clear c8b0
  try clear c8b1
  try clear p2
  try clear p5
  try clear q5
  obtain ⟨kq, x0_1, rfl, HA, HJ1, ⟨mc1, rfl⟩⟩ := hcut;cases kq with
  | zero => exact absurd HA.out (by simp [spec_CronTrim.j1])
  | succ kj1 =>
   have H := HA.out;clear HA;simp only [spec_CronTrim.j1] at H;have H' := Aside0.mk H;clear H;go_wp2
   go_loopg [0] kj1 (fun kq v0 w' => ∃ (x0_2 : ByteArray), v0 = .string x0_2 ∧ Aside0 (spec_CronTrim.l1 kq x0_2 = some r) ∧ Aside0 (kq ≤ kj1) ∧ Drawn0 w w')
   case atStart => exact ⟨(x0_1), (by first | rfl | (simp; done) | (simp [*]; done)), H', ⟨Nat.le_refl _⟩, by repeat (first | exact Drawn0.refl _ | apply Drawn0.step)⟩
   case round =>
    clear H';try clear c1
    try clear p2
    try clear c3
    try clear c3b0
    try clear c3b1
    try clear c4
    try clear c4b0
    try clear c4b1
    try clear p5
    try clear q5
    try clear hx5
    try clear qi5
    try clear c7
    try clear c8
    try clear c8b0
    try clear c8b1
    try clear p2
    try clear p5
    try clear q5
    obtain ⟨x0_2, rfl, HA, HK2, ⟨m2, rfl⟩⟩ := hrel;cases gk with
    | zero => exact absurd HA.out (by simp [spec_CronTrim.l1])
    | succ k2 =>
     have H := HA.out;clear HA;simp only [spec_CronTrim.l1] at H;by_cases c9 : x0_2.toList = ([] : List UInt8)
     ·rw [if_pos c9] at H;have c9b0 : (x0_2.toList == ([] : List UInt8)) = true := beq_iff_eq.mpr c9;have c9b1 : (x0_2.toList != ([] : List UInt8)) = false := bne_eq_false_iff_eq.mpr c9;clear c9;obtain rfl := Option.some.inj H;go_wp2
      go_ret;exact ⟨by first | rfl | (simp; done) | (simp [*]; done), by repeat (first | exact Drawn0.refl _ | apply Drawn0.step)⟩
     ·rw [if_neg c9] at H;have c9b0 : (x0_2.toList == ([] : List UInt8)) = false := beq_eq_false_iff_ne.mpr c9;have c9b1 : (x0_2.toList != ([] : List UInt8)) = true := bne_iff_ne.mpr c9;obtain ⟨ji10, hji10⟩ : ∃ j_ : Int, (wrap64 ((x0_2.size : Int) - 1)) = j_ := ⟨_, rfl⟩
      replace H : (if 0 ≤ (ji10) then (if (ji10) < (x0_2.size : Int) then ((spec_cronBlank.f (bt x0_2 (ji10))).bind fun t163 => (if t163 = true then (if (ji10) ≤ (x0_2.size : Int) then (spec_CronTrim.l1 k2 (x0_2.extract 0 ((ji10) : Int).toNat)) else (none)) else (some x0_2))) else (none)) else (none)) = some r := by first | (rw [hji10] at H; exact H) | (simp only [hji10] at H ⊢; exact H)
      have hji10w : (IntKind.i64.wrap ((x0_2.size : Int) - 1)) = ji10 := (i64_w _).trans hji10;by_cases c11 : 0 ≤ (ji10)
      ·rw [if_pos c11] at H;have c11b0 : decide (0 ≤ (ji10)) = true := decide_eq_true c11;clear c11;by_cases c12 : (ji10) < (x0_2.size : Int)
       ·rw [if_pos c12] at H;have c12b0 : decide ((ji10) < (x0_2.size : Int)) = true := decide_eq_true c12;clear c12;replace H := Option.bind_eq_some_iff.mp H;obtain ⟨t163, A140, H⟩ := H;replace H : (if t163 = true then (if (ji10) ≤ (x0_2.size : Int) then (spec_CronTrim.l1 k2 (x0_2.extract 0 ((ji10) : Int).toNat)) else (none)) else (some x0_2)) = some r := H;have A14 := Aside0.mk A140;clear A140;by_cases c15 : t163 = true
        ·subst c15;have H1 : (if (ji10) ≤ (x0_2.size : Int) then (spec_CronTrim.l1 k2 (x0_2.extract 0 ((ji10) : Int).toNat)) else (none)) = some r := by rw [if_pos rfl] at H; exact H
         clear H;have H := H1;clear H1;have c16b0 := eq_true (of_decide_eq_true (by first | (with_reducible assumption) | assumption) : 0 ≤ (ji10));by_cases c17 : (ji10) ≤ (x0_2.size : Int)
         ·rw [if_pos c17] at H;have c17b0 := eq_true c17;have c17b1 : decide ((ji10) ≤ (x0_2.size : Int)) = true := decide_eq_true c17;clear c17;have H' := Aside0.mk H;clear H;have p13 : 0 ≤ ((ji10) : Int) := of_decide_eq_true (by first | (with_reducible assumption) | assumption);have q13 : (ji10) < (x0_2.size : Int) := of_decide_eq_true (by first | (with_reducible assumption) | assumption);have hx13 := bt_at x0_2 (ji10);replace p13 := eq_true p13;replace q13 := eq_true q13;go_wp2_with (first | (go_at_call 62; (with_reducible refine (spec_cronBlank.calls (bt x0_2 (ji10)) true _ A14.out).mono ?_); rintro e w' ⟨rfl, ⟨nd, rfl⟩⟩))
          go_roundg k2
          case measure => have := HJ1.out; have := HK2.out; omega
          case rel => exact ⟨(x0_2.extract 0 ((ji10) : Int).toNat), (by first | rfl | (simp; done) | (simp only [← hji10] <;> (first | rfl | simp)) | (simp [*]; done)), H', ⟨by have := HJ1.out; have := HK2.out; omega⟩, by repeat (first | exact Drawn0.refl _ | apply Drawn0.step)⟩
         ·rw [if_neg c17] at H;exact absurd H (by simp)
        ·replace c15 := Bool.eq_false_iff.mpr c15;subst c15;have H1 : (some x0_2) = some r := by rw [if_neg (show ¬ (false = true) by decide)] at H; exact H
         clear H;have H := H1;clear H1;obtain rfl := Option.some.inj H;have p13 : 0 ≤ ((ji10) : Int) := of_decide_eq_true (by first | (with_reducible assumption) | assumption);have q13 : (ji10) < (x0_2.size : Int) := of_decide_eq_true (by first | (with_reducible assumption) | assumption);have hx13 := bt_at x0_2 (ji10);replace p13 := eq_true p13;replace q13 := eq_true q13;go_wp2_with (first | (go_at_call 62; (with_reducible refine (spec_cronBlank.calls (bt x0_2 (ji10)) false _ A14.out).mono ?_); rintro e w' ⟨rfl, ⟨nd, rfl⟩⟩))
         go_ret;exact ⟨by first | rfl | (simp; done) | (simp only [← hji10] <;> (first | rfl | simp)) | (simp [*]; done), by repeat (first | exact Drawn0.refl _ | apply Drawn0.step)⟩
       ·rw [if_neg c12] at H;exact absurd H (by simp)
      ·rw [if_neg c11] at H;exact absurd H (by simp)
def laws_entriesAdd.l0 : Nat → List (S41) → List ByteArray → Int → Int → Option ((List (S41)))
 | 0, _, _, _, _ => none
 | k + 1, x3, x6, x7, x8 => if x8 < x7 then (if 0 ≤ x8 then (if x8 < (x6.length : Int) then (if x3.length < 4398046511104 then (laws_entriesAdd.l0 k (x3 ++ [(⟨0, rdOf ByteArray.empty x6 x8, 0⟩ : S41)]) x6 x7 (wrap64 (x8 + 1))) else (none)) else (none)) else (none)) else (some x3)
def laws_entriesAdd.f (k : Nat) (l0 : List ByteArray) : Option ((List (S41))) := laws_entriesAdd.l0 k ([] : List (S41)) l0 (l0.length : Int) 0
theorem laws_entriesAdd.mono_l : ∀ k, (∀ y0 y1 y2 y3, LeO (laws_entriesAdd.l0 k y0 y1 y2 y3) (laws_entriesAdd.l0 (k + 1) y0 y1 y2 y3))
 | 0 => fun _ _ _ _ r h => by simp [laws_entriesAdd.l0] at h
 | k + 1 => by
  have ih0 := laws_entriesAdd.mono_l k
  ·intro y0 y1 y2 y3;unfold laws_entriesAdd.l0;repeat' first
   | (with_reducible exact ih0 _ _ _ _)
   | (with_reducible exact LeO.refl _)
   | (with_reducible exact LeO.none _)
   | (with_reducible refine LeO.ite ?_ ?_)
   | (with_reducible refine LeO.bind ?_ (fun _ => ?_))
   | exact ih0 _ _ _ _
   | exact LeO.none _
   | refine LeO.ite ?_ ?_
   | refine LeO.bind ?_ (fun _ => ?_)
theorem laws_entriesAdd.mono : ∀ a0 k, LeO (laws_entriesAdd.f k a0) (laws_entriesAdd.f (k + 1) a0) := by
 intro a0 k;have ih0 := laws_entriesAdd.mono_l k;unfold laws_entriesAdd.f
 repeat' first
  | (with_reducible exact ih0 _ _ _ _)
  | (with_reducible exact LeO.refl _)
  | (with_reducible exact LeO.none _)
  | (with_reducible refine LeO.ite ?_ ?_)
  | (with_reducible refine LeO.bind ?_ (fun _ => ?_))
  | exact ih0 _ _ _ _
  | exact LeO.none _
  | refine LeO.ite ?_ ?_
  | refine LeO.bind ?_ (fun _ => ?_)
set_option maxHeartbeats 8000000 in
set_option maxRecDepth 100000 in
theorem laws_entriesAdd.calls (k : Nat) (A0 : Option Addr) (c0 : Nat) (l0 : List ByteArray) (r : List (S41)) (w : World) (hr0 : Kd.C Kd.string w A0 l0.length l0) (hc0 : l0.length ≤ c0) (h : laws_entriesAdd.f k l0 = some r) :
  Calls Tryz.prog 15 #[.slice A0 l0.length c0] w fun e w' => ∃ v0_ : Value, e = .returned (v0_) ∧ Kd.R k41 41 w' w.heap.size (fun _ => True) v0_ r ∧ Below w.heap.size w w' := by
 have hu41 := Tryz.underlying41;have HR0 := Aside0.mk hr0;have HC0 := Aside0.mk hc0;clear hr0 hc0;have HB := Aside0.mk (Below.refl w.heap.size w);have H : (laws_entriesAdd.l0 k ([] : List (S41)) l0 (l0.length : Int) 0) = some r := h;clear h;have H' := Aside0.mk H;clear H;go_enter Tryz.func15, Tryz.ntmps15;go_wp2
 go_loopg [3, 8] k (fun kq v3 v8 w' => ∃ (x3_1 : List (S41)) (x8_1 : Int), v8 = .int .i64 x8_1 ∧ Aside0 (laws_entriesAdd.l0 kq x3_1 l0 (l0.length : Int) x8_1 = some r) ∧ Aside0 (kq ≤ k) ∧ Aside0 (Kd.R k41 41 w' w.heap.size (fun _ => True) v3 x3_1) ∧ Aside0 (Below w.heap.size w w'))
 case atStart => exact ⟨(([] : List (S41))), (0), (by first | rfl | (simp; done) | (simp [*]; done)), H', ⟨Nat.le_refl _⟩, ⟨by first | exact Kd.R_nil _ _ _ _ _ | exact Kd.N_nil _ _ _ _ _ | exact Kd.V_nil _ _ _ _ _ | exact Kd.Q_nil _ _ _ _ _ | exact Kd.S_nil _ _ _ _ _⟩, ⟨by repeat (first | (with_reducible first | exact HB.out | apply below_alloc | apply pw_below_drewN | apply below_drew1) | exact HB.out)⟩⟩
 case round =>
  clear H';try clear c1
  obtain ⟨x3_1, x8_1, rfl, HA, HK1, HO_3, HB⟩ := hrel;cases gk with
  | zero => exact absurd HA.out (by simp [laws_entriesAdd.l0])
  | succ k1 =>
   have H := HA.out;clear HA;simp only [laws_entriesAdd.l0] at H;by_cases c2 : x8_1 < (l0.length : Int)
   ·rw [if_pos c2] at H;have c2b0 : decide (x8_1 < (l0.length : Int)) = true := decide_eq_true c2;clear c2;by_cases c3 : 0 ≤ x8_1
    ·rw [if_pos c3] at H;have c3b0 : decide (0 ≤ x8_1) = true := decide_eq_true c3;clear c3;by_cases c4 : x8_1 < (l0.length : Int)
     ·rw [if_pos c4] at H;have c4b0 : decide (x8_1 < (l0.length : Int)) = true := decide_eq_true c4;clear c4;by_cases c5 : x3_1.length < 4398046511104
      ·rw [if_pos c5] at H;have LMc5 := Aside0.mk c5;clear c5;obtain ⟨y118, hy118⟩ : ∃ y_ : List (S41), y_ = (x3_1 ++ [(⟨0, rdOf ByteArray.empty l0 x8_1, 0⟩ : S41)]) := ⟨_, rfl⟩
       replace H : (laws_entriesAdd.l0 k1 y118 l0 (l0.length : Int) (wrap64 (x8_1 + 1))) = some r := by first | (rw [hy118]; with_reducible exact H) | (have H2_ := (Option.bind_some _ _).symm.trans H; rw [hy118]; with_reducible exact H2_) | (have H2_ := (Option.bind_some _ _).symm.trans H; with_reducible exact H2_) | with_reducible exact H | (rw [hy118]; exact H) | exact H
       have Ny118 := Aside0.mk hy118;clear hy118;have H' := Aside0.mk H;clear H;have p117 : 0 ≤ (x8_1 : Int) := of_decide_eq_true (by first | (with_reducible assumption) | assumption);have q117 : x8_1 < (l0.length : Int) := of_decide_eq_true (by first | (with_reducible assumption) | assumption);obtain ⟨ad117, e117, hx117_0⟩ := Kd.at_string HR0.out x8_1 p117 q117;cases e117
       replace hx117_0 := (HB.out.cell (World.block_lt_of_cell? w _ hx117_0)).trans hx117_0;replace p117 := eq_true p117;replace q117 := eq_true q117;go_wp2_with (first | ((with_reducible refine gate_builtin (b := .append) (xs := #[.tmp 12, .tmp 15]) rfl ?_); at_builtin; refine Kd.R_append k41 (w0 := w) w.heap.size rfl (.tmp 12) (.tmp 15) 36 41 (.agg #[(.int .i64 0), (.string ⟨#[]⟩), (.int .i64 0)]) 32 rfl Tryz.underlying36 info41 rfl (by decide) (by omega) u3 x3_1 (⟨0, rdOf ByteArray.empty l0 x8_1, 0⟩ : S41) [.int .i64 0, .string (rdOf ByteArray.empty l0 x8_1), .int .i64 0] (fun _ => True) (fun _ => False) rfl rfl ?aP (fun _ hk => hk.elim) ?aF ?aO ?aB ?aS ?aL ?_; (case aP => exact k41_mkM _ _ _ (⟨0, rdOf ByteArray.empty l0 x8_1, 0⟩ : S41)); (case aB => exact (by repeat (first | (with_reducible first | exact HB.out | apply below_alloc | apply pw_below_drewN | apply below_drew1) | exact HB.out))); (case aF => exact (fun _ _ => trivial)); (case aO => exact (by (with_reducible repeat (first | apply Kd.R_alloc | apply Kd.R_drewN | apply Kd.R_drew)); exact HO_3.out)); (case aS => exact (below_size (by repeat (first | (with_reducible first | exact HB.out | apply below_alloc | apply pw_below_drewN | apply below_drew1) | exact HB.out)))); (case aL => have := LMc5.out; omega); intro v119 w6 ho hb hg hat; rw [← Ny118.out] at ho; have n0_ := Aside0.mk (hb); have n1_ := Aside0.mk (ho); clear HB; clear HO_3; have HB := n0_; have HO120 := n1_; clear n0_ n1_; clear ho hb hg hat))
       go_roundg k1
       case measure => have := HK1.out; omega
       case rel => exact ⟨(y118), (wrap64 (x8_1 + 1)), (by first | rfl | (simp; done) | (simp [*]; done)), H', ⟨by have := HK1.out; omega⟩, ⟨by (with_reducible repeat (first | apply Kd.R_alloc | apply Kd.R_drewN | apply Kd.R_drew)); exact HO120.out⟩, ⟨by repeat (first | (with_reducible first | exact HB.out | apply below_alloc | apply pw_below_drewN | apply below_drew1) | exact HB.out)⟩⟩
      ·rw [if_neg c5] at H;exact absurd H (by simp)
     ·rw [if_neg c4] at H;exact absurd H (by simp)
    ·rw [if_neg c3] at H;exact absurd H (by simp)
   ·rw [if_neg c2] at H;have c2b0 : decide (x8_1 < (l0.length : Int)) = false := decide_eq_false c2;clear c2;obtain rfl := Option.some.inj H;go_wp2
    go_ret;exact ⟨_, by first | rfl | (simp [errW_none, errW_some] <;> rfl) | (simp [*, errW_none, errW_some] <;> rfl), by (with_reducible repeat (first | apply Kd.R_alloc | apply Kd.R_drewN | apply Kd.R_drew)); exact HO_3.out, by repeat (first | (with_reducible first | exact HB.out | apply below_alloc | apply pw_below_drewN | apply below_drew1) | exact HB.out)⟩
def spec_CronEntryOptions.f (a0 : Bool) : Option (Int) := if a0 = true then (some 381) else (some 380)
set_option maxHeartbeats 8000000 in
set_option maxRecDepth 100000 in
theorem spec_CronEntryOptions.calls (a0 : Bool) (r : Int) (w : World) (h : spec_CronEntryOptions.f a0 = some r) :
  Calls Tryz.prog 17 #[.bool a0] w fun e w' => e = .returned (.int .i64 r) ∧ Drawn0 w w' := by
 have H : (if a0 = true then (some 381) else (some 380)) = some r := h;clear h;by_cases c2 : a0 = true
 ·subst c2;have H1 : (some 381) = some r := by rw [if_pos rfl] at H; exact H
  clear H;have H := H1;clear H1;obtain rfl := Option.some.inj H;go_enter Tryz.func17, Tryz.ntmps17;go_wp2
  go_ret;exact ⟨by first | rfl | (simp; done) | (simp [*]; done), by repeat (first | exact Drawn0.refl _ | apply Drawn0.step)⟩
 ·replace c2 := Bool.eq_false_iff.mpr c2;subst c2;have H1 : (some 380) = some r := by rw [if_neg (show ¬ (false = true) by decide)] at H; exact H
  clear H;have H := H1;clear H1;obtain rfl := Option.some.inj H;go_enter Tryz.func17, Tryz.ntmps17;go_wp2
  go_ret;exact ⟨by first | rfl | (simp; done) | (simp [*]; done), by repeat (first | exact Drawn0.refl _ | apply Drawn0.step)⟩
def laws_zzFits2.l0 : Nat → List ByteArray → Int → Int → Option (Bool)
 | 0, _, _, _ => none
 | k + 1, x8, x9, x10 => if x10 < x9 then (if 0 ≤ x10 then (if x10 < (x8.length : Int) then (if ((rdOf ByteArray.empty x8 x10).size : Int) > 2147483647 then (some false) else (laws_zzFits2.l0 k x8 x9 (wrap64 (x10 + 1)))) else (none)) else (none)) else (some true)
def laws_zzFits2.f (k : Nat) (l0 : List ByteArray) : Option (Bool) := if (l0.length : Int) > 2147483647 then (some false) else (laws_zzFits2.l0 k l0 (l0.length : Int) 0)
theorem laws_zzFits2.mono_l : ∀ k, (∀ y0 y1 y2, LeO (laws_zzFits2.l0 k y0 y1 y2) (laws_zzFits2.l0 (k + 1) y0 y1 y2))
 | 0 => fun _ _ _ r h => by simp [laws_zzFits2.l0] at h
 | k + 1 => by
  have ih0 := laws_zzFits2.mono_l k
  ·intro y0 y1 y2;unfold laws_zzFits2.l0;repeat' first
   | (with_reducible exact ih0 _ _ _)
   | (with_reducible exact LeO.refl _)
   | (with_reducible exact LeO.none _)
   | (with_reducible refine LeO.ite ?_ ?_)
   | (with_reducible refine LeO.bind ?_ (fun _ => ?_))
   | exact ih0 _ _ _
   | exact LeO.none _
   | refine LeO.ite ?_ ?_
   | refine LeO.bind ?_ (fun _ => ?_)
theorem laws_zzFits2.mono : ∀ a0 k, LeO (laws_zzFits2.f k a0) (laws_zzFits2.f (k + 1) a0) := by
 intro a0 k;have ih0 := laws_zzFits2.mono_l k;unfold laws_zzFits2.f
 repeat' first
  | (with_reducible exact ih0 _ _ _)
  | (with_reducible exact LeO.refl _)
  | (with_reducible exact LeO.none _)
  | (with_reducible refine LeO.ite ?_ ?_)
  | (with_reducible refine LeO.bind ?_ (fun _ => ?_))
  | exact ih0 _ _ _
  | exact LeO.none _
  | refine LeO.ite ?_ ?_
  | refine LeO.bind ?_ (fun _ => ?_)
set_option maxHeartbeats 8000000 in
set_option maxRecDepth 100000 in
theorem laws_zzFits2.calls (k : Nat) (A0 : Option Addr) (c0 : Nat) (l0 : List ByteArray) (r : Bool) (w : World) (hr0 : Kd.C Kd.string w A0 l0.length l0) (hc0 : l0.length ≤ c0) (h : laws_zzFits2.f k l0 = some r) :
  Calls Tryz.prog 13 #[.slice A0 l0.length c0] w fun e w' => e = .returned (.bool r) ∧ Drawn0 w w' := by
 have HR0 := Aside0.mk hr0;have HC0 := Aside0.mk hc0;clear hr0 hc0;have H : (if (l0.length : Int) > 2147483647 then (some false) else (laws_zzFits2.l0 k l0 (l0.length : Int) 0)) = some r := h;clear h;by_cases c2 : (l0.length : Int) > 2147483647
 ·rw [if_pos c2] at H;have c2b0 : decide (2147483647 < (l0.length : Int)) = true := decide_eq_true c2;have c2b1 : decide (2147483647 < l0.length) = true := decide_eq_true (by omega);clear c2;obtain rfl := Option.some.inj H;go_enter Tryz.func13, Tryz.ntmps13;go_wp2
  go_ret;exact ⟨by first | rfl | (simp; done) | (simp [*]; done), by repeat (first | exact Drawn0.refl _ | apply Drawn0.step)⟩
 ·rw [if_neg c2] at H;have c2b0 : decide (2147483647 < (l0.length : Int)) = false := decide_eq_false c2;have c2b1 : decide (2147483647 < l0.length) = false := decide_eq_false (by omega);clear c2;have H' := Aside0.mk H;clear H;go_enter Tryz.func13, Tryz.ntmps13;go_wp2
  go_loopg [10] k (fun kq v10 w' => ∃ (x10_1 : Int), v10 = .int .i64 x10_1 ∧ Aside0 (laws_zzFits2.l0 kq l0 (l0.length : Int) x10_1 = some r) ∧ Aside0 (kq ≤ k) ∧ Drawn0 w w')
  case atStart => exact ⟨(0), (by first | rfl | (simp; done) | (simp [*]; done)), H', ⟨Nat.le_refl _⟩, by repeat (first | exact Drawn0.refl _ | apply Drawn0.step)⟩
  case round =>
   clear H';try clear c1
   try clear c2
   try clear c2b0
   try clear c2b1
   try clear p2
   obtain ⟨x10_1, rfl, HA, HK1, ⟨m1, rfl⟩⟩ := hrel;cases gk with
   | zero => exact absurd HA.out (by simp [laws_zzFits2.l0])
   | succ k1 =>
    have H := HA.out;clear HA;simp only [laws_zzFits2.l0] at H;by_cases c3 : x10_1 < (l0.length : Int)
    ·rw [if_pos c3] at H;have c3b0 : decide (x10_1 < (l0.length : Int)) = true := decide_eq_true c3;clear c3;by_cases c4 : 0 ≤ x10_1
     ·rw [if_pos c4] at H;have c4b0 : decide (0 ≤ x10_1) = true := decide_eq_true c4;clear c4;by_cases c5 : x10_1 < (l0.length : Int)
      ·rw [if_pos c5] at H;have c5b0 : decide (x10_1 < (l0.length : Int)) = true := decide_eq_true c5;clear c5;by_cases c6 : ((rdOf ByteArray.empty l0 x10_1).size : Int) > 2147483647
       ·rw [if_pos c6] at H;have c6b0 : decide (2147483647 < ((rdOf ByteArray.empty l0 x10_1).size : Int)) = true := decide_eq_true c6;have c6b1 : decide (2147483647 < (rdOf ByteArray.empty l0 x10_1).size) = true := decide_eq_true (by omega);clear c6;obtain rfl := Option.some.inj H;have p116 : 0 ≤ (x10_1 : Int) := of_decide_eq_true (by first | (with_reducible assumption) | assumption);have q116 : x10_1 < (l0.length : Int) := of_decide_eq_true (by first | (with_reducible assumption) | assumption);obtain ⟨ad116, e116, hx116_0⟩ := Kd.at_string HR0.out x10_1 p116 q116;cases e116
        replace p116 := eq_true p116;replace q116 := eq_true q116;go_wp2
        go_ret;exact ⟨by first | rfl | (simp; done) | (simp [*]; done), by repeat (first | exact Drawn0.refl _ | apply Drawn0.step)⟩
       ·rw [if_neg c6] at H;have c6b0 : decide (2147483647 < ((rdOf ByteArray.empty l0 x10_1).size : Int)) = false := decide_eq_false c6;have c6b1 : decide (2147483647 < (rdOf ByteArray.empty l0 x10_1).size) = false := decide_eq_false (by omega);clear c6;have H' := Aside0.mk H;clear H;have p116 : 0 ≤ (x10_1 : Int) := of_decide_eq_true (by first | (with_reducible assumption) | assumption);have q116 : x10_1 < (l0.length : Int) := of_decide_eq_true (by first | (with_reducible assumption) | assumption);obtain ⟨ad116, e116, hx116_0⟩ := Kd.at_string HR0.out x10_1 p116 q116;cases e116
        replace p116 := eq_true p116;replace q116 := eq_true q116;go_wp2
        go_roundg k1
        case measure => have := HK1.out; omega
        case rel => exact ⟨(wrap64 (x10_1 + 1)), (by first | rfl | (simp; done) | (simp [*]; done)), H', ⟨by have := HK1.out; omega⟩, by repeat (first | exact Drawn0.refl _ | apply Drawn0.step)⟩
      ·rw [if_neg c5] at H;exact absurd H (by simp)
     ·rw [if_neg c4] at H;exact absurd H (by simp)
    ·rw [if_neg c3] at H;have c3b0 : decide (x10_1 < (l0.length : Int)) = false := decide_eq_false c3;clear c3;obtain rfl := Option.some.inj H;go_wp2
     go_ret;exact ⟨by first | rfl | (simp; done) | (simp [*]; done), by repeat (first | exact Drawn0.refl _ | apply Drawn0.step)⟩
mutual
def laws_entriesAlike.l0 : Nat → List Int → List Int → List Int → Int → Int → Option (Bool)
 | 0, _, _, _, _, _ => none
 | k + 1, x0, x1, x14, x15, x16 => if x16 < x15 then (if 0 ≤ x16 then (if x16 < (x14.length : Int) then (laws_entriesAlike.l1 k x0 x1 x16 (rd x14 x16) false x14 x15 x16 (x1.length : Int) 0) else (none)) else (none)) else (some true)
def laws_entriesAlike.l1 : Nat → List Int → List Int → Int → Int → Bool → List Int → Int → Int → Int → Int → Option (Bool)
 | 0, _, _, _, _, _, _, _, _, _, _ => none
 | k + 1, x0, x1, x5, x6, x7, x14, x15, x16, x22, x23 => if x23 < x22 then (if x7 = true then (if x23 < x5 then (if 0 ≤ x23 then (if x23 < (x0.length : Int) then (if (rd x0 x23) = x6 then (some false) else (laws_entriesAlike.l1 k x0 x1 x5 x6 true x14 x15 x16 x22 (wrap64 (x23 + 1)))) else (none)) else (none)) else (laws_entriesAlike.l1 k x0 x1 x5 x6 true x14 x15 x16 x22 (wrap64 (x23 + 1)))) else (if 0 ≤ x23 then (if x23 < (x1.length : Int) then (if x23 < x5 then (if x23 < (x0.length : Int) then (if (rd x0 x23) = x6 then (some false) else (laws_entriesAlike.l1 k x0 x1 x5 x6 ((rd x1 x23) == x6) x14 x15 x16 x22 (wrap64 (x23 + 1)))) else (none)) else (laws_entriesAlike.l1 k x0 x1 x5 x6 ((rd x1 x23) == x6) x14 x15 x16 x22 (wrap64 (x23 + 1)))) else (none)) else (none))) else (if x7 = true then (laws_entriesAlike.l0 k x0 x1 x14 x15 (wrap64 (x16 + 1))) else (some false))
end
def laws_entriesAlike.f (k : Nat) (l0 : List Int) (l1 : List Int) : Option (Bool) := if (l0.length : Int) = (l1.length : Int) then (laws_entriesAlike.l0 k l0 l1 l0 (l0.length : Int) 0) else (some false)
theorem laws_entriesAlike.mono_l : ∀ k, (∀ y0 y1 y2 y3 y4, LeO (laws_entriesAlike.l0 k y0 y1 y2 y3 y4) (laws_entriesAlike.l0 (k + 1) y0 y1 y2 y3 y4)) ∧ (∀ y0 y1 y2 y3 y4 y5 y6 y7 y8 y9, LeO (laws_entriesAlike.l1 k y0 y1 y2 y3 y4 y5 y6 y7 y8 y9) (laws_entriesAlike.l1 (k + 1) y0 y1 y2 y3 y4 y5 y6 y7 y8 y9))
 | 0 => ⟨fun _ _ _ _ _ r h => by simp [laws_entriesAlike.l0] at h, fun _ _ _ _ _ _ _ _ _ _ r h => by simp [laws_entriesAlike.l1] at h⟩
 | k + 1 => by
  obtain ⟨ih0, ih1⟩ := laws_entriesAlike.mono_l k;refine ⟨?_, ?_⟩;intro y0 y1 y2 y3 y4;unfold laws_entriesAlike.l0;rotate_left;intro y0 y1 y2 y3 y4 y5 y6 y7 y8 y9;unfold laws_entriesAlike.l1;rotate_left;all_goals repeat' first
  | (with_reducible exact ih0 _ _ _ _ _)
  | (with_reducible exact ih1 _ _ _ _ _ _ _ _ _ _)
  | (with_reducible exact LeO.refl _)
  | (with_reducible exact LeO.none _)
  | (with_reducible refine LeO.ite ?_ ?_)
  | (with_reducible refine LeO.bind ?_ (fun _ => ?_))
  | exact ih0 _ _ _ _ _
  | exact ih1 _ _ _ _ _ _ _ _ _ _
  | exact LeO.none _
  | refine LeO.ite ?_ ?_
  | refine LeO.bind ?_ (fun _ => ?_)
theorem laws_entriesAlike.mono : ∀ a0 a1 k, LeO (laws_entriesAlike.f k a0 a1) (laws_entriesAlike.f (k + 1) a0 a1) := by
 intro a0 a1 k;obtain ⟨ih0, ih1⟩ := laws_entriesAlike.mono_l k;unfold laws_entriesAlike.f
 repeat' first
  | (with_reducible exact ih0 _ _ _ _ _)
  | (with_reducible exact ih1 _ _ _ _ _ _ _ _ _ _)
  | (with_reducible exact LeO.refl _)
  | (with_reducible exact LeO.none _)
  | (with_reducible refine LeO.ite ?_ ?_)
  | (with_reducible refine LeO.bind ?_ (fun _ => ?_))
  | exact ih0 _ _ _ _ _
  | exact ih1 _ _ _ _ _ _ _ _ _ _
  | exact LeO.none _
  | refine LeO.ite ?_ ?_
  | refine LeO.bind ?_ (fun _ => ?_)
set_option maxHeartbeats 8000000 in
set_option maxRecDepth 100000 in
theorem laws_entriesAlike.calls (k : Nat) (A0 : Option Addr) (c0 : Nat) (l0 : List Int) (A1 : Option Addr) (c1 : Nat) (l1 : List Int) (r : Bool) (w : World) (hr0 : Kd.C (Kd.int .i64) w A0 l0.length l0) (hc0 : l0.length ≤ c0) (hr1 : Kd.C (Kd.int .i64) w A1 l1.length l1) (hc1 : l1.length ≤ c1) (h : laws_entriesAlike.f k l0 l1 = some r) :
  Calls Tryz.prog 18 #[.slice A0 l0.length c0, .slice A1 l1.length c1] w fun e w' => e = .returned (.bool r) ∧ Drawn0 w w' := by
 have HR0 := Aside0.mk hr0;have HC0 := Aside0.mk hc0;clear hr0 hc0;have HR1 := Aside0.mk hr1;have HC1 := Aside0.mk hc1;clear hr1 hc1;have H : (if (l0.length : Int) = (l1.length : Int) then (laws_entriesAlike.l0 k l0 l1 l0 (l0.length : Int) 0) else (some false)) = some r := h;clear h;by_cases c3 : (l0.length : Int) = (l1.length : Int)
 ·rw [if_pos c3] at H;have c3b0 : ((l0.length : Int) == (l1.length : Int)) = true := beq_iff_eq.mpr c3;have c3b1 : ((l0.length : Int) != (l1.length : Int)) = false := bne_eq_false_iff_eq.mpr c3;have c3b2 : (l0.length == l1.length) = true := by first | simpa using c3 | (simp at c3 ⊢; omega)
  clear c3;have H' := Aside0.mk H;clear H;go_enter Tryz.func18, Tryz.ntmps18;go_wp2
  go_loopg [16] k (fun kq v16 w' => ∃ (x16_1 : Int), v16 = .int .i64 x16_1 ∧ Aside0 (laws_entriesAlike.l0 kq l0 l1 l0 (l0.length : Int) x16_1 = some r) ∧ Aside0 (kq ≤ k) ∧ Drawn0 w w')
  case atStart => exact ⟨(0), (by first | rfl | (simp; done) | (simp [*]; done)), H', ⟨Nat.le_refl _⟩, by repeat (first | exact Drawn0.refl _ | apply Drawn0.step)⟩
  case round =>
   clear H';try clear c1
   try clear p2
   try clear c3
   try clear c3b0
   try clear c3b1
   try clear c3b2
   obtain ⟨x16_1, rfl, HA, HK1, ⟨m1, rfl⟩⟩ := hrel;cases gk with
   | zero => exact absurd HA.out (by simp [laws_entriesAlike.l0])
   | succ k1 =>
    have H := HA.out;clear HA;simp only [laws_entriesAlike.l0] at H;by_cases c4 : x16_1 < (l0.length : Int)
    ·rw [if_pos c4] at H;have c4b0 : decide (x16_1 < (l0.length : Int)) = true := decide_eq_true c4;clear c4;by_cases c5 : 0 ≤ x16_1
     ·rw [if_pos c5] at H;have c5b0 : decide (0 ≤ x16_1) = true := decide_eq_true c5;clear c5;by_cases c6 : x16_1 < (l0.length : Int)
      ·rw [if_pos c6] at H;have c6b0 : decide (x16_1 < (l0.length : Int)) = true := decide_eq_true c6;clear c6;have H' := Aside0.mk H;clear H;have p191 : 0 ≤ (x16_1 : Int) := of_decide_eq_true (by first | (with_reducible assumption) | assumption);have q191 : x16_1 < (l0.length : Int) := of_decide_eq_true (by first | (with_reducible assumption) | assumption);obtain ⟨ad191, e191, hx191_0⟩ := Kd.at_int HR0.out x16_1 p191 q191;cases e191
       replace p191 := eq_true p191;replace q191 := eq_true q191;go_wp2
       go_loopg [7, 23] k1 (fun kq v7 v23 w' => ∃ (x7_2 : Bool) (x23_2 : Int), v7 = .bool x7_2 ∧ v23 = .int .i64 x23_2 ∧ Aside0 (laws_entriesAlike.l1 kq l0 l1 x16_1 (rd l0 x16_1) x7_2 l0 (l0.length : Int) x16_1 (l1.length : Int) x23_2 = some r) ∧ Aside0 (kq ≤ k1) ∧ Drawn0 w w')
       case atStart => exact ⟨(false), (0), (by first | rfl | (simp; done) | (simp [*]; done)), (by first | rfl | (simp; done) | (simp [*]; done)), H', ⟨Nat.le_refl _⟩, by repeat (first | exact Drawn0.refl _ | apply Drawn0.step)⟩
       case round =>
        clear H';try clear c1
        try clear p1
        try clear q1
        try clear hx1
        try clear p2
        try clear c3
        try clear c3b0
        try clear c3b1
        try clear c3b2
        try clear c4
        try clear c4b0
        try clear c5
        try clear c5b0
        try clear c6
        try clear c6b0
        try clear hx191_0
        try clear p191
        try clear p2
        try clear q191
        obtain ⟨x7_2, x23_2, rfl, rfl, HA, HK2, ⟨m2, rfl⟩⟩ := hrel;cases gk with
        | zero => exact absurd HA.out (by simp [laws_entriesAlike.l1])
        | succ k2 =>
         have H := HA.out;clear HA;simp only [laws_entriesAlike.l1] at H;by_cases c7 : x23_2 < (l1.length : Int)
         ·rw [if_pos c7] at H;have c7b0 : decide (x23_2 < (l1.length : Int)) = true := decide_eq_true c7;clear c7;by_cases c8 : x7_2 = true
          ·subst c8;have H1 : (if x23_2 < x16_1 then (if 0 ≤ x23_2 then (if x23_2 < (l0.length : Int) then (if (rd l0 x23_2) = (rd l0 x16_1) then (some false) else (laws_entriesAlike.l1 k2 l0 l1 x16_1 (rd l0 x16_1) true l0 (l0.length : Int) x16_1 (l1.length : Int) (wrap64 (x23_2 + 1)))) else (none)) else (none)) else (laws_entriesAlike.l1 k2 l0 l1 x16_1 (rd l0 x16_1) true l0 (l0.length : Int) x16_1 (l1.length : Int) (wrap64 (x23_2 + 1)))) = some r := by rw [if_pos rfl] at H; exact H
           clear H;have H := H1;clear H1;by_cases c9 : x23_2 < x16_1
           ·rw [if_pos c9] at H;have c9b0 : decide (x23_2 < x16_1) = true := decide_eq_true c9;clear c9;by_cases c10 : 0 ≤ x23_2
            ·rw [if_pos c10] at H;have c10b0 : decide (0 ≤ x23_2) = true := decide_eq_true c10;clear c10;by_cases c11 : x23_2 < (l0.length : Int)
             ·rw [if_pos c11] at H;have c11b0 : decide (x23_2 < (l0.length : Int)) = true := decide_eq_true c11;clear c11;by_cases c12 : (rd l0 x23_2) = (rd l0 x16_1)
              ·rw [if_pos c12] at H;have c12b0 : ((rd l0 x23_2) == (rd l0 x16_1)) = true := beq_iff_eq.mpr c12;have c12b1 : ((rd l0 x23_2) != (rd l0 x16_1)) = false := bne_eq_false_iff_eq.mpr c12;clear c12;obtain rfl := Option.some.inj H;have p192 : 0 ≤ (x23_2 : Int) := of_decide_eq_true (by first | (with_reducible assumption) | assumption);have q192 : x23_2 < (l0.length : Int) := of_decide_eq_true (by first | (with_reducible assumption) | assumption);obtain ⟨ad192, e192, hx192_0⟩ := Kd.at_int HR0.out x23_2 p192 q192;obtain rfl : ad191 = ad192 := (by injection e192)
               replace p192 := eq_true p192;replace q192 := eq_true q192;go_wp2
               go_ret;exact ⟨by first | rfl | (simp; done) | (simp [*]; done), by repeat (first | exact Drawn0.refl _ | apply Drawn0.step)⟩
              ·rw [if_neg c12] at H;have c12b0 : ((rd l0 x23_2) == (rd l0 x16_1)) = false := beq_eq_false_iff_ne.mpr c12;have c12b1 : ((rd l0 x23_2) != (rd l0 x16_1)) = true := bne_iff_ne.mpr c12;have H' := Aside0.mk H;clear H;have p192 : 0 ≤ (x23_2 : Int) := of_decide_eq_true (by first | (with_reducible assumption) | assumption);have q192 : x23_2 < (l0.length : Int) := of_decide_eq_true (by first | (with_reducible assumption) | assumption);obtain ⟨ad192, e192, hx192_0⟩ := Kd.at_int HR0.out x23_2 p192 q192;obtain rfl : ad191 = ad192 := (by injection e192)
               replace p192 := eq_true p192;replace q192 := eq_true q192;go_wp2
               go_roundg k2
               case measure => have := HK1.out; have := HK2.out; omega
               case rel => exact ⟨(true), (wrap64 (x23_2 + 1)), (by first | rfl | (simp; done) | (simp [*]; done)), (by first | rfl | (simp; done) | (simp [*]; done)), H', ⟨by have := HK1.out; have := HK2.out; omega⟩, by repeat (first | exact Drawn0.refl _ | apply Drawn0.step)⟩
             ·rw [if_neg c11] at H;exact absurd H (by simp)
            ·rw [if_neg c10] at H;exact absurd H (by simp)
           ·rw [if_neg c9] at H;have c9b0 : decide (x23_2 < x16_1) = false := decide_eq_false c9;clear c9;have H' := Aside0.mk H;clear H;go_wp2
            go_roundg k2
            case measure => have := HK1.out; have := HK2.out; omega
            case rel => exact ⟨(true), (wrap64 (x23_2 + 1)), (by first | rfl | (simp; done) | (simp [*]; done)), (by first | rfl | (simp; done) | (simp [*]; done)), H', ⟨by have := HK1.out; have := HK2.out; omega⟩, by repeat (first | exact Drawn0.refl _ | apply Drawn0.step)⟩
          ·replace c8 := Bool.eq_false_iff.mpr c8;subst c8;have H1 : (if 0 ≤ x23_2 then (if x23_2 < (l1.length : Int) then (if x23_2 < x16_1 then (if x23_2 < (l0.length : Int) then (if (rd l0 x23_2) = (rd l0 x16_1) then (some false) else (laws_entriesAlike.l1 k2 l0 l1 x16_1 (rd l0 x16_1) ((rd l1 x23_2) == (rd l0 x16_1)) l0 (l0.length : Int) x16_1 (l1.length : Int) (wrap64 (x23_2 + 1)))) else (none)) else (laws_entriesAlike.l1 k2 l0 l1 x16_1 (rd l0 x16_1) ((rd l1 x23_2) == (rd l0 x16_1)) l0 (l0.length : Int) x16_1 (l1.length : Int) (wrap64 (x23_2 + 1)))) else (none)) else (none)) = some r := by rw [if_neg (show ¬ (false = true) by decide)] at H; exact H
           clear H;have H := H1;clear H1;by_cases c13 : 0 ≤ x23_2
           ·rw [if_pos c13] at H;have c13b0 : decide (0 ≤ x23_2) = true := decide_eq_true c13;clear c13;by_cases c14 : x23_2 < (l1.length : Int)
            ·rw [if_pos c14] at H;have c14b0 : decide (x23_2 < (l1.length : Int)) = true := decide_eq_true c14;clear c14;by_cases c15 : x23_2 < x16_1
             ·rw [if_pos c15] at H;have c15b0 : decide (x23_2 < x16_1) = true := decide_eq_true c15;clear c15;by_cases c16 : x23_2 < (l0.length : Int)
              ·rw [if_pos c16] at H;have c16b0 : decide (x23_2 < (l0.length : Int)) = true := decide_eq_true c16;clear c16;by_cases c17 : (rd l0 x23_2) = (rd l0 x16_1)
               ·rw [if_pos c17] at H;have c17b0 : ((rd l0 x23_2) == (rd l0 x16_1)) = true := beq_iff_eq.mpr c17;have c17b1 : ((rd l0 x23_2) != (rd l0 x16_1)) = false := bne_eq_false_iff_eq.mpr c17;clear c17;obtain rfl := Option.some.inj H;have p193 : 0 ≤ (x23_2 : Int) := of_decide_eq_true (by first | (with_reducible assumption) | assumption);have q193 : x23_2 < (l1.length : Int) := of_decide_eq_true (by first | (with_reducible assumption) | assumption);obtain ⟨ad193, e193, hx193_0⟩ := Kd.at_int HR1.out x23_2 p193 q193;cases e193
                replace p193 := eq_true p193;replace q193 := eq_true q193;have p194 : 0 ≤ (x23_2 : Int) := of_decide_eq_true (by first | (with_reducible assumption) | assumption);have q194 : x23_2 < (l0.length : Int) := of_decide_eq_true (by first | (with_reducible assumption) | assumption);obtain ⟨ad194, e194, hx194_0⟩ := Kd.at_int HR0.out x23_2 p194 q194;obtain rfl : ad191 = ad194 := (by injection e194)
                replace p194 := eq_true p194;replace q194 := eq_true q194;go_wp2
                go_ret;exact ⟨by first | rfl | (simp; done) | (simp [*]; done), by repeat (first | exact Drawn0.refl _ | apply Drawn0.step)⟩
               ·rw [if_neg c17] at H;have c17b0 : ((rd l0 x23_2) == (rd l0 x16_1)) = false := beq_eq_false_iff_ne.mpr c17;have c17b1 : ((rd l0 x23_2) != (rd l0 x16_1)) = true := bne_iff_ne.mpr c17;have H' := Aside0.mk H;clear H;have p193 : 0 ≤ (x23_2 : Int) := of_decide_eq_true (by first | (with_reducible assumption) | assumption);have q193 : x23_2 < (l1.length : Int) := of_decide_eq_true (by first | (with_reducible assumption) | assumption);obtain ⟨ad193, e193, hx193_0⟩ := Kd.at_int HR1.out x23_2 p193 q193;cases e193
                replace p193 := eq_true p193;replace q193 := eq_true q193;have p194 : 0 ≤ (x23_2 : Int) := of_decide_eq_true (by first | (with_reducible assumption) | assumption);have q194 : x23_2 < (l0.length : Int) := of_decide_eq_true (by first | (with_reducible assumption) | assumption);obtain ⟨ad194, e194, hx194_0⟩ := Kd.at_int HR0.out x23_2 p194 q194;obtain rfl : ad191 = ad194 := (by injection e194)
                replace p194 := eq_true p194;replace q194 := eq_true q194;go_wp2
                go_roundg k2
                case measure => have := HK1.out; have := HK2.out; omega
                case rel => exact ⟨(((rd l1 x23_2) == (rd l0 x16_1))), (wrap64 (x23_2 + 1)), (by first | rfl | (simp; done) | (simp [*]; done)), (by first | rfl | (simp; done) | (simp [*]; done)), H', ⟨by have := HK1.out; have := HK2.out; omega⟩, by repeat (first | exact Drawn0.refl _ | apply Drawn0.step)⟩
              ·rw [if_neg c16] at H;exact absurd H (by simp)
             ·rw [if_neg c15] at H;have c15b0 : decide (x23_2 < x16_1) = false := decide_eq_false c15;clear c15;have H' := Aside0.mk H;clear H;have p193 : 0 ≤ (x23_2 : Int) := of_decide_eq_true (by first | (with_reducible assumption) | assumption);have q193 : x23_2 < (l1.length : Int) := of_decide_eq_true (by first | (with_reducible assumption) | assumption);obtain ⟨ad193, e193, hx193_0⟩ := Kd.at_int HR1.out x23_2 p193 q193;cases e193
              replace p193 := eq_true p193;replace q193 := eq_true q193;go_wp2
              go_roundg k2
              case measure => have := HK1.out; have := HK2.out; omega
              case rel => exact ⟨(((rd l1 x23_2) == (rd l0 x16_1))), (wrap64 (x23_2 + 1)), (by first | rfl | (simp; done) | (simp [*]; done)), (by first | rfl | (simp; done) | (simp [*]; done)), H', ⟨by have := HK1.out; have := HK2.out; omega⟩, by repeat (first | exact Drawn0.refl _ | apply Drawn0.step)⟩
            ·rw [if_neg c14] at H;exact absurd H (by simp)
           ·rw [if_neg c13] at H;exact absurd H (by simp)
         ·rw [if_neg c7] at H;have c7b0 : decide (x23_2 < (l1.length : Int)) = false := decide_eq_false c7;clear c7;by_cases c18 : x7_2 = true
          ·subst c18;have H1 : (laws_entriesAlike.l0 k2 l0 l1 l0 (l0.length : Int) (wrap64 (x16_1 + 1))) = some r := by rw [if_pos rfl] at H; exact H
           clear H;have H := H1;clear H1;have H' := Aside0.mk H;clear H;go_wp2
           go_roundg k2
           case measure => have := HK1.out; have := HK2.out; omega
           case rel => exact ⟨(wrap64 (x16_1 + 1)), (by first | rfl | (simp; done) | (simp [*]; done)), H', ⟨by have := HK1.out; have := HK2.out; omega⟩, by repeat (first | exact Drawn0.refl _ | apply Drawn0.step)⟩
          ·replace c18 := Bool.eq_false_iff.mpr c18;subst c18;have H1 : (some false) = some r := by rw [if_neg (show ¬ (false = true) by decide)] at H; exact H
           clear H;have H := H1;clear H1;obtain rfl := Option.some.inj H;go_wp2
           go_ret;exact ⟨by first | rfl | (simp; done) | (simp [*]; done), by repeat (first | exact Drawn0.refl _ | apply Drawn0.step)⟩
      ·rw [if_neg c6] at H;exact absurd H (by simp)
     ·rw [if_neg c5] at H;exact absurd H (by simp)
    ·rw [if_neg c4] at H;have c4b0 : decide (x16_1 < (l0.length : Int)) = false := decide_eq_false c4;clear c4;obtain rfl := Option.some.inj H;go_wp2
     go_ret;exact ⟨by first | rfl | (simp; done) | (simp [*]; done), by repeat (first | exact Drawn0.refl _ | apply Drawn0.step)⟩
 ·rw [if_neg c3] at H;have c3b0 : ((l0.length : Int) == (l1.length : Int)) = false := beq_eq_false_iff_ne.mpr c3;have c3b1 : ((l0.length : Int) != (l1.length : Int)) = true := bne_iff_ne.mpr c3;have c3b2 : (l0.length == l1.length) = false := by first | simpa using c3 | (simp at c3 ⊢; omega)
  obtain rfl := Option.some.inj H;go_enter Tryz.func18, Tryz.ntmps18;go_wp2
  go_ret;exact ⟨by first | rfl | (simp; done) | (simp [*]; done), by repeat (first | exact Drawn0.refl _ | apply Drawn0.step)⟩
end Go.Proofs.YtmecbmgfacpecaaGreatDoor.Pr
