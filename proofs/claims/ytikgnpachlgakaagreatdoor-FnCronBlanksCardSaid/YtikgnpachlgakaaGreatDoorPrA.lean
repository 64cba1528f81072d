/- Functions of the program and of its library as plain Lean functions, printed by the kit's print.sh, merged by wip/tools/pack.py. Conditions: none. -/
import Derived.Test.YtikgnpachlgakaaGreatDoorProg
import Derived.Below
import Derived.Deep.Draws
import Derived.Deep.AppendLies
import Derived.Maps.AppendAt
import Derived.OwnWalk
import Derived.Laws.BytesArg
import Derived.Laws.MakeOwn
import Derived.Laws.OwnMore
import Derived.Deep.OwnRows
import Derived.Tactics
import Derived.Lib.ConvBytes
import Derived.Laws.Slices
import Derived.WalkKit
import Derived.KernelRfl
import Derived.RowKit3
import Derived.Deep.LoopGhost
import Derived.Deep.QuietTactic
import Derived.BigQuiet
import Derived.WideLaws
import Derived.Deep.DeepCutAuto
import Derived.Deep.CutBlock
import Derived.Deep.RegionHeld3
import Derived.Laws.Rows
import Derived.Lib.AppendStr
import Derived.ArgAppend
import Derived.Laws.IdiomCopy
import Derived.OrdersHeld
import Derived.Laws.BitsLemmas
import Derived.RowKit
import Derived.Test.YtikgnpachlgakaaGreatDoorWWords
import Derived.Test.YtikgnpachlgakaaGreatDoorWLast
import Derived.Test.YtikgnpachlgakaaGreatDoorWTab
import Derived.Test.YtikgnpachlgakaaGreatDoorWFour
import Derived.Test.YtikgnpachlgakaaGreatDoorWQPut
import Derived.Test.YtikgnpachlgakaaGreatDoorWApart
import Derived.Test.YtikgnpachlgakaaGreatDoorWArr
import Derived.Test.YtikgnpachlgakaaGreatDoorWZeros
import Derived.Test.YtikgnpachlgakaaGreatDoorWFoot
import Derived.Test.YtikgnpachlgakaaGreatDoorWKept
import Derived.Test.YtikgnpachlgakaaGreatDoorWShare
import Derived.Test.YtikgnpachlgakaaGreatDoorWN
import Derived.Test.YtikgnpachlgakaaGreatDoorWFootNe
import Derived.Test.YtikgnpachlgakaaGreatDoorWAt
import Derived.Test.YtikgnpachlgakaaGreatDoorWEqStruct
import Derived.Test.YtikgnpachlgakaaGreatDoorWRepsOne
import Derived.Test.YtikgnpachlgakaaGreatDoorWInv
import Derived.Test.YtikgnpachlgakaaGreatDoorWInvWords
import Derived.Test.YtikgnpachlgakaaGreatDoorWGuard
import Derived.Test.YtikgnpachlgakaaGreatDoorWNEv
import Derived.Test.YtikgnpachlgakaaGreatDoorWMore
namespace Go.Proofs.YtikgnpachlgakaaGreatDoor.Pr
open Go.RowKit Go.Proofs.YtikgnpachlgakaaGreatDoorW.PrintWords Go.Proofs.YtikgnpachlgakaaGreatDoorW.PrintLast Go.Proofs.YtikgnpachlgakaaGreatDoorW.PrintMore
attribute [local go_sem] max2_int min2_int max_two min_two max_three min_three max_four min_four   -- for this text's walks alone
set_option linter.unusedVariables false
set_option linter.unusedSimpArgs false
def errW : Option Int → Value
  | none => .nilIface
  | some c => .iface 0 (.int .i64 c)
theorem errW_none : errW none = .nilIface := rfl
theorem errW_some (c : Int) : errW (some c) = .iface 0 (.int .i64 c) := rfl
theorem info9 : (Tryz.prog.info? 9).map (fun i => (i.zero, i.size, i.bytes)) = some (some (.string ⟨#[]⟩), 1, 16) := by kernel_rfl
theorem info39 : (Tryz.prog.info? 39).map (fun i => (i.zero, i.size, i.bytes)) = some (some (.int .i64 0), 1, 8) := by kernel_rfl
-- the values' own types
end Go.Proofs.YtikgnpachlgakaaGreatDoor.Pr

namespace Go.Proofs.YtikgnpachlgakaaGreatDoor.Pr
open Go.RowKit Go.Proofs.YtikgnpachlgakaaGreatDoorW.PrintWords Go.Proofs.YtikgnpachlgakaaGreatDoorW.PrintLast Go.Proofs.YtikgnpachlgakaaGreatDoorW.PrintMore
attribute [local go_sem] max2_int min2_int max_two min_two max_three min_three max_four min_four   -- for this text's walks alone
set_option linter.unusedVariables false
set_option linter.unusedSimpArgs false
/-! ### cron_zzIndex: function 28 -/
def cron_zzIndex.l0 : Nat → ByteArray → ByteArray → Int → Option (Int)
  | 0, _, _, _ => none
  | k + 1, x0, x1, x5 => if (wrap64 (x5 + (x1.size : Int))) ≤ (x0.size : Int) then (if 0 ≤ x5 then (if x5 ≤ (wrap64 (x5 + (x1.size : Int))) then (if (x0.extract (x5 : Int).toNat ((wrap64 (x5 + (x1.size : Int))) : Int).toNat).toList = x1.toList then (some x5) else (cron_zzIndex.l0 k x0 x1 (wrap64 (x5 + 1)))) else (none)) else (none)) else (some (-1))
def cron_zzIndex.f (k : Nat) (a0 : ByteArray) (a1 : ByteArray) : Option (Int) := cron_zzIndex.l0 k a0 a1 0
theorem cron_zzIndex.mono_l : ∀ k, (∀ y0 y1 y2, LeO (cron_zzIndex.l0 k y0 y1 y2) (cron_zzIndex.l0 (k + 1) y0 y1 y2))
  | 0 => fun _ _ _ r h => by simp [cron_zzIndex.l0] at h
  | k + 1 => by
    have ih0 := cron_zzIndex.mono_l k
    · intro y0 y1 y2
      unfold cron_zzIndex.l0
      repeat' first
      | (with_reducible exact ih0 _ _ _)
      | (with_reducible exact LeO.refl _)
      | (with_reducible exact LeO.none _)
      | (with_reducible refine LeO.ite ?_ ?_)
      | (with_reducible refine LeO.bind ?_ (fun _ => ?_))
      | exact ih0 _ _ _
      | exact LeO.none _
      | refine LeO.ite ?_ ?_
      | refine LeO.bind ?_ (fun _ => ?_)
theorem cron_zzIndex.mono : ∀ a0 a1 k, LeO (cron_zzIndex.f k a0 a1) (cron_zzIndex.f (k + 1) a0 a1) := by
  intro a0 a1 k
  have ih0 := cron_zzIndex.mono_l k
  unfold cron_zzIndex.f
  repeat' first
      | (with_reducible exact ih0 _ _ _)
      | (with_reducible exact LeO.refl _)
      | (with_reducible exact LeO.none _)
      | (with_reducible refine LeO.ite ?_ ?_)
      | (with_reducible refine LeO.bind ?_ (fun _ => ?_))
      | exact ih0 _ _ _
      | exact LeO.none _
      | refine LeO.ite ?_ ?_
      | refine LeO.bind ?_ (fun _ => ?_)
set_option maxHeartbeats 8000000 in
set_option maxRecDepth 100000 in
theorem cron_zzIndex.calls (k : Nat) (a0 : ByteArray) (a1 : ByteArray) (r : Int) (w : World) (h : cron_zzIndex.f k a0 a1 = some r) :
    Calls Tryz.prog 28 #[.string a0, .string a1] w fun e w' => e = .returned (.int .i64 r) ∧ Drawn0 w w' := by
  have H : (cron_zzIndex.l0 k a0 a1 0) = some r := h
  clear h
  have H' := Aside0.mk H
  clear H
  go_enter Tryz.func28, Tryz.ntmps28
  go_wp2
  go_loopg [5] k (fun kq v5 w' => ∃ (x5_1 : Int), v5 = .int .i64 x5_1 ∧ Aside0 (cron_zzIndex.l0 kq a0 a1 x5_1 = some r) ∧ Aside0 (kq ≤ k) ∧ Drawn0 w w')
  case atStart => exact ⟨(0), (by first | rfl | (simp; done) | (simp [*]; done)), H', ⟨Nat.le_refl _⟩, by repeat (first | exact Drawn0.refl _ | apply Drawn0.step)⟩
  case round =>
    clear H'
    try clear c2
    try clear p2
    obtain ⟨x5_1, rfl, HA, HK1, ⟨m1, rfl⟩⟩ := hrel
    cases gk with
    | zero => exact absurd HA.out (by simp [cron_zzIndex.l0])
    | succ k1 =>
      have H := HA.out
      clear HA
      simp only [cron_zzIndex.l0] at H
      by_cases c3 : (wrap64 (x5_1 + (a1.size : Int))) ≤ (a0.size : Int)
      · rw [if_pos c3] at H
        have c3b0 : decide ((wrap64 (x5_1 + (a1.size : Int))) ≤ (a0.size : Int)) = true := decide_eq_true c3
        clear c3
        by_cases c4 : 0 ≤ x5_1
        · rw [if_pos c4] at H
          have c4b0 := eq_true c4
          have c4b1 : decide (0 ≤ x5_1) = true := decide_eq_true c4
          clear c4
          by_cases c5 : x5_1 ≤ (wrap64 (x5_1 + (a1.size : Int)))
          · rw [if_pos c5] at H
            have c5b0 := eq_true c5
            have c5b1 : decide (x5_1 ≤ (wrap64 (x5_1 + (a1.size : Int)))) = true := decide_eq_true c5
            have c6b0 := eq_true (of_decide_eq_true (by first | (with_reducible assumption) | assumption) : (wrap64 (x5_1 + (a1.size : Int))) ≤ (a0.size : Int))
            by_cases c7 : (a0.extract (x5_1 : Int).toNat ((wrap64 (x5_1 + (a1.size : Int))) : Int).toNat).toList = a1.toList
            · rw [if_pos c7] at H
              have c7b0 : ((a0.extract (x5_1 : Int).toNat ((wrap64 (x5_1 + (a1.size : Int))) : Int).toNat).toList == a1.toList) = true := beq_iff_eq.mpr c7
              have c7b1 : ((a0.extract (x5_1 : Int).toNat ((wrap64 (x5_1 + (a1.size : Int))) : Int).toNat).toList != a1.toList) = false := bne_eq_false_iff_eq.mpr c7
              clear c7
              obtain rfl := Option.some.inj H
              go_wp2
              go_ret
              exact ⟨by first | rfl | (simp; done) | (simp [*]; done), by repeat (first | exact Drawn0.refl _ | apply Drawn0.step)⟩
            · rw [if_neg c7] at H
              have c7b0 : ((a0.extract (x5_1 : Int).toNat ((wrap64 (x5_1 + (a1.size : Int))) : Int).toNat).toList == a1.toList) = false := beq_eq_false_iff_ne.mpr c7
              have c7b1 : ((a0.extract (x5_1 : Int).toNat ((wrap64 (x5_1 + (a1.size : Int))) : Int).toNat).toList != a1.toList) = true := bne_iff_ne.mpr c7
              have H' := Aside0.mk H
              clear H
              go_wp2
              go_roundg k1
              case measure => have := HK1.out; omega
              case rel => exact ⟨(wrap64 (x5_1 + 1)), (by first | rfl | (simp; done) | (simp [*]; done)), H', ⟨by have := HK1.out; omega⟩, by repeat (first | exact Drawn0.refl _ | apply Drawn0.step)⟩
          · rw [if_neg c5] at H
            exact absurd H (by simp)
        · rw [if_neg c4] at H
          exact absurd H (by simp)
      · rw [if_neg c3] at H
        have c3b0 : decide ((wrap64 (x5_1 + (a1.size : Int))) ≤ (a0.size : Int)) = false := decide_eq_false c3
        clear c3
        obtain rfl := Option.some.inj H
        go_wp2
        go_ret
        exact ⟨by first | rfl | (simp; done) | (simp [*]; done), by repeat (first | exact Drawn0.refl _ | apply Drawn0.step)⟩
end Go.Proofs.YtikgnpachlgakaaGreatDoor.Pr

namespace Go.Proofs.YtikgnpachlgakaaGreatDoor.Pr
open Go.RowKit Go.Proofs.YtikgnpachlgakaaGreatDoorW.PrintWords Go.Proofs.YtikgnpachlgakaaGreatDoorW.PrintLast Go.Proofs.YtikgnpachlgakaaGreatDoorW.PrintMore
attribute [local go_sem] max2_int min2_int max_two min_two max_three min_three max_four min_four   -- for this text's walks alone
set_option linter.unusedVariables false
set_option linter.unusedSimpArgs false
/-! ### cron_zzSplit: function 71 -/
def cron_zzSplit.l0 : Nat → ByteArray → ByteArray → List ByteArray → Option (List ByteArray)
  | 0, _, _, _ => none
  | k + 1, x0, x1, x5 => (cron_zzIndex.f k x0 x1).bind fun t173 => (if t173 < 0 then (if x5.length < 8796093022208 then (some (x5 ++ [x0])) else (none)) else (if 0 ≤ t173 then (if t173 ≤ (x0.size : Int) then (if x5.length < 8796093022208 then (if 0 ≤ (wrap64 (t173 + (x1.size : Int))) then (if (wrap64 (t173 + (x1.size : Int))) ≤ (x0.size : Int) then (cron_zzSplit.l0 k (x0.extract ((wrap64 (t173 + (x1.size : Int))) : Int).toNat x0.size) x1 (x5 ++ [x0.extract 0 (t173 : Int).toNat])) else (none)) else (none)) else (none)) else (none)) else (none)))
def cron_zzSplit.f (k : Nat) (a0 : ByteArray) (a1 : ByteArray) : Option (List ByteArray) := cron_zzSplit.l0 k a0 a1 ([] : List ByteArray)
theorem cron_zzSplit.mono_l : ∀ k, (∀ y0 y1 y2, LeO (cron_zzSplit.l0 k y0 y1 y2) (cron_zzSplit.l0 (k + 1) y0 y1 y2))
  | 0 => fun _ _ _ r h => by simp [cron_zzSplit.l0] at h
  | k + 1 => by
    have ih0 := cron_zzSplit.mono_l k
    · intro y0 y1 y2
      unfold cron_zzSplit.l0
      repeat' first
      | (with_reducible exact ih0 _ _ _)
      | (with_reducible exact cron_zzIndex.mono _ _ _)
      | (with_reducible exact LeO.refl _)
      | (with_reducible exact LeO.none _)
      | (with_reducible refine LeO.ite ?_ ?_)
      | (with_reducible refine LeO.bind ?_ (fun _ => ?_))
      | exact ih0 _ _ _
      | exact cron_zzIndex.mono _ _ _
      | exact LeO.none _
      | refine LeO.ite ?_ ?_
      | refine LeO.bind ?_ (fun _ => ?_)
theorem cron_zzSplit.mono : ∀ a0 a1 k, LeO (cron_zzSplit.f k a0 a1) (cron_zzSplit.f (k + 1) a0 a1) := by
  intro a0 a1 k
  have ih0 := cron_zzSplit.mono_l k
  unfold cron_zzSplit.f
  repeat' first
      | (with_reducible exact ih0 _ _ _)
      | (with_reducible exact cron_zzIndex.mono _ _ _)
      | (with_reducible exact LeO.refl _)
      | (with_reducible exact LeO.none _)
      | (with_reducible refine LeO.ite ?_ ?_)
      | (with_reducible refine LeO.bind ?_ (fun _ => ?_))
      | exact ih0 _ _ _
      | exact cron_zzIndex.mono _ _ _
      | exact LeO.none _
      | refine LeO.ite ?_ ?_
      | refine LeO.bind ?_ (fun _ => ?_)
set_option maxHeartbeats 8000000 in
set_option maxRecDepth 100000 in
theorem cron_zzSplit.calls (k : Nat) (a0 : ByteArray) (a1 : ByteArray) (r : List ByteArray) (w : World) (h : cron_zzSplit.f k a0 a1 = some r) :
    Calls Tryz.prog 71 #[.string a0, .string a1] w fun e w' => ∃ v0_ : Value, e = .returned (v0_) ∧ Kd.R Kd.string 9 w' w.heap.size (fun _ => True) v0_ r ∧ Below w.heap.size w w' := by
  have HB := Aside0.mk (Below.refl w.heap.size w)
  have H : (cron_zzSplit.l0 k a0 a1 ([] : List ByteArray)) = some r := h
  clear h
  have H' := Aside0.mk H
  clear H
  go_enter Tryz.func71, Tryz.ntmps71
  go_wp2
  go_loopg [0, 5] k (fun kq v0 v5 w' => ∃ (x0_1 : ByteArray) (x5_1 : List ByteArray), v0 = .string x0_1 ∧ Aside0 (cron_zzSplit.l0 kq x0_1 a1 x5_1 = some r) ∧ Aside0 (kq ≤ k) ∧ Aside0 (Kd.R Kd.string 9 w' w.heap.size (fun _ => True) v5 x5_1) ∧ Aside0 (Below w.heap.size w w'))
  case atStart => exact ⟨(a0), (([] : List ByteArray)), (by first | rfl | (simp; done) | (simp [*]; done)), H', ⟨Nat.le_refl _⟩, ⟨by first | exact Kd.R_nil _ _ _ _ _ | exact Kd.N_nil _ _ _ _ _ | exact Kd.V_nil _ _ _ _ _ | exact Kd.Q_nil _ _ _ _ _ | exact Kd.S_nil _ _ _ _ _⟩, ⟨by repeat (first | (with_reducible first | exact HB.out | apply below_alloc | apply pw_below_drewN | apply below_drew1) | exact HB.out)⟩⟩
  case round =>
    clear H'
    try clear p2
    obtain ⟨x0_1, x5_1, rfl, HA, HK1, HO_5, HB⟩ := hrel
    cases gk with
    | zero => exact absurd HA.out (by simp [cron_zzSplit.l0])
    | succ k1 =>
      have H := HA.out
      clear HA
      simp only [cron_zzSplit.l0] at H
      replace H := Option.bind_eq_some_iff.mp H
      obtain ⟨t173, A30, H⟩ := H
      replace H : (if t173 < 0 then (if x5_1.length < 8796093022208 then (some (x5_1 ++ [x0_1])) else (none)) else (if 0 ≤ t173 then (if t173 ≤ (x0_1.size : Int) then (if x5_1.length < 8796093022208 then (if 0 ≤ (wrap64 (t173 + (a1.size : Int))) then (if (wrap64 (t173 + (a1.size : Int))) ≤ (x0_1.size : Int) then (cron_zzSplit.l0 k1 (x0_1.extract ((wrap64 (t173 + (a1.size : Int))) : Int).toNat x0_1.size) a1 (x5_1 ++ [x0_1.extract 0 (t173 : Int).toNat])) else (none)) else (none)) else (none)) else (none)) else (none))) = some r := H
      have A3 := Aside0.mk A30
      clear A30
      by_cases c4 : t173 < 0
      · rw [if_pos c4] at H
        have c4b0 : decide (t173 < 0) = true := decide_eq_true c4
        clear c4
        by_cases c5 : x5_1.length < 8796093022208
        · rw [if_pos c5] at H
          have LMc5 := Aside0.mk c5
          clear c5
          obtain ⟨y174, hy174⟩ : ∃ y_ : List ByteArray, y_ = (x5_1 ++ [x0_1]) := ⟨_, rfl⟩
          replace H : (some y174) = some r := by first | (rw [hy174]; with_reducible exact H) | (have H2_ := (Option.bind_some _ _).symm.trans H; rw [hy174]; with_reducible exact H2_) | (have H2_ := (Option.bind_some _ _).symm.trans H; with_reducible exact H2_) | with_reducible exact H | (rw [hy174]; exact H) | exact H
          have Ny174 := Aside0.mk hy174
          clear hy174
          obtain rfl := Option.some.inj H
          go_wp2_with (first | ((with_reducible refine gate_callee (f := 28) rfl ?_); refine goesL_ (some 9) rfl rfl Tryz.func28 (by kernel_rfl) rfl #[.string x0_1, .string a1] rfl (by (try simp only [List.map_toArray, List.map_cons, List.map_nil]); first | done | rfl | (simp only [List.length_drop, List.length_take]; rfl)) ?_; (with_reducible refine (cron_zzIndex.calls k1 x0_1 a1 t173 _ A3.out).mono ?_); rintro e w' ⟨rfl, ⟨nd, rfl⟩⟩; refine ⟨_, rfl, ?_⟩) | ((with_reducible refine gate_builtin (b := .append) (xs := #[.tmp 12, .tmp 14]) rfl ?_); at_builtin; refine Kd.R_append Kd.string (w0 := w) w.heap.size rfl (.tmp 12) (.tmp 14) 22 9 (.string ⟨#[]⟩) 16 rfl Tryz.underlying22 info9 rfl (by decide) (by omega) u5 x5_1 x0_1 [.string x0_1] (fun _ => True) (fun _ => False) rfl rfl ?aP (fun _ hk => hk.elim) ?aF ?aO ?aB ?aS ?aL ?_; (case aP => exact rfl); (case aB => exact (by repeat (first | (with_reducible first | exact HB.out | apply below_alloc | apply pw_below_drewN | apply below_drew1) | exact HB.out))); (case aF => exact (fun _ _ => trivial)); (case aO => exact (by (with_reducible repeat (first | apply Kd.R_alloc | apply Kd.R_drewN | apply Kd.R_drew)); exact HO_5.out)); (case aS => exact (below_size (by repeat (first | (with_reducible first | exact HB.out | apply below_alloc | apply pw_below_drewN | apply below_drew1) | exact HB.out)))); (case aL => have := LMc5.out; omega); intro v175 w6 ho hb hg hat; rw [← Ny174.out] at ho; have n0_ := Aside0.mk (hb); have n1_ := Aside0.mk (ho); clear HB; clear HO_5; have HB := n0_; have HO176 := n1_; clear n0_ n1_; clear ho hb hg hat))
          go_ret
          exact ⟨_, by first | rfl | (simp [errW_none, errW_some] <;> rfl) | (simp [*, errW_none, errW_some] <;> rfl), by (with_reducible repeat (first | apply Kd.R_alloc | apply Kd.R_drewN | apply Kd.R_drew)); exact HO176.out, by repeat (first | (with_reducible first | exact HB.out | apply below_alloc | apply pw_below_drewN | apply below_drew1) | exact HB.out)⟩
        · rw [if_neg c5] at H
          exact absurd H (by simp)
      · rw [if_neg c4] at H
        have c4b0 : decide (t173 < 0) = false := decide_eq_false c4
        clear c4
        by_cases c7 : 0 ≤ t173
        · rw [if_pos c7] at H
          have c7b0 := eq_true c7
          have c7b1 : decide (0 ≤ t173) = true := decide_eq_true c7
          clear c7
          by_cases c8 : t173 ≤ (x0_1.size : Int)
          · rw [if_pos c8] at H
            have c8b0 := eq_true c8
            have c8b1 : decide (t173 ≤ (x0_1.size : Int)) = true := decide_eq_true c8
            clear c8
            by_cases c9 : x5_1.length < 8796093022208
            · rw [if_pos c9] at H
              have LMc9 := Aside0.mk c9
              clear c9
              obtain ⟨y177, hy177⟩ : ∃ y_ : List ByteArray, y_ = (x5_1 ++ [x0_1.extract 0 (t173 : Int).toNat]) := ⟨_, rfl⟩
              replace H : (if 0 ≤ (wrap64 (t173 + (a1.size : Int))) then (if (wrap64 (t173 + (a1.size : Int))) ≤ (x0_1.size : Int) then (cron_zzSplit.l0 k1 (x0_1.extract ((wrap64 (t173 + (a1.size : Int))) : Int).toNat x0_1.size) a1 y177) else (none)) else (none)) = some r := by first | (rw [hy177]; with_reducible exact H) | (have H2_ := (Option.bind_some _ _).symm.trans H; rw [hy177]; with_reducible exact H2_) | (have H2_ := (Option.bind_some _ _).symm.trans H; with_reducible exact H2_) | with_reducible exact H | (rw [hy177]; exact H) | exact H
              have Ny177 := Aside0.mk hy177
              clear hy177
              obtain ⟨ji10, hji10⟩ : ∃ j_ : Int, (wrap64 (t173 + (a1.size : Int))) = j_ := ⟨_, rfl⟩
              replace H : (if 0 ≤ (ji10) then (if (ji10) ≤ (x0_1.size : Int) then (cron_zzSplit.l0 k1 (x0_1.extract ((ji10) : Int).toNat x0_1.size) a1 y177) else (none)) else (none)) = some r := by first | (rw [hji10] at H; exact H) | (simp only [hji10] at H ⊢; exact H)
              (try rw [hji10] at A3)
              have hji10w : (IntKind.i64.wrap (t173 + (a1.size : Int))) = ji10 := (i64_w _).trans hji10
              by_cases c11 : 0 ≤ (ji10)
              · rw [if_pos c11] at H
                have c11b0 := eq_true c11
                have c11b1 : decide (0 ≤ (ji10)) = true := decide_eq_true c11
                clear c11
                by_cases c12 : (ji10) ≤ (x0_1.size : Int)
                · rw [if_pos c12] at H
                  have c12b0 := eq_true c12
                  have c12b1 : decide ((ji10) ≤ (x0_1.size : Int)) = true := decide_eq_true c12
                  clear c12
                  have H' := Aside0.mk H
                  clear H
                  go_wp2_with (first | ((with_reducible refine gate_callee (f := 28) rfl ?_); refine goesL_ (some 9) rfl rfl Tryz.func28 (by kernel_rfl) rfl #[.string x0_1, .string a1] rfl (by (try simp only [List.map_toArray, List.map_cons, List.map_nil]); first | done | rfl | (simp only [List.length_drop, List.length_take]; rfl)) ?_; (with_reducible refine (cron_zzIndex.calls k1 x0_1 a1 t173 _ A3.out).mono ?_); rintro e w' ⟨rfl, ⟨nd, rfl⟩⟩; refine ⟨_, rfl, ?_⟩) | ((with_reducible refine gate_builtin (b := .append) (xs := #[.tmp 16, .tmp 20]) rfl ?_); at_builtin; refine Kd.R_append Kd.string (w0 := w) w.heap.size rfl (.tmp 16) (.tmp 20) 22 9 (.string ⟨#[]⟩) 16 rfl Tryz.underlying22 info9 rfl (by decide) (by omega) u5 x5_1 (x0_1.extract 0 (t173 : Int).toNat) [.string (x0_1.extract 0 (t173 : Int).toNat)] (fun _ => True) (fun _ => False) rfl rfl ?aP (fun _ hk => hk.elim) ?aF ?aO ?aB ?aS ?aL ?_; (case aP => exact rfl); (case aB => exact (by repeat (first | (with_reducible first | exact HB.out | apply below_alloc | apply pw_below_drewN | apply below_drew1) | exact HB.out))); (case aF => exact (fun _ _ => trivial)); (case aO => exact (by (with_reducible repeat (first | apply Kd.R_alloc | apply Kd.R_drewN | apply Kd.R_drew)); exact HO_5.out)); (case aS => exact (below_size (by repeat (first | (with_reducible first | exact HB.out | apply below_alloc | apply pw_below_drewN | apply below_drew1) | exact HB.out)))); (case aL => have := LMc9.out; omega); intro v178 w13 ho hb hg hat; rw [← Ny177.out] at ho; have n0_ := Aside0.mk (hb); have n1_ := Aside0.mk (ho); clear HB; clear HO_5; have HB := n0_; have HO179 := n1_; clear n0_ n1_; clear ho hb hg hat))
                  go_roundg k1
                  case measure => have := HK1.out; omega
                  case rel => exact ⟨(x0_1.extract ((ji10) : Int).toNat x0_1.size), (y177), (by first | rfl | (simp; done) | (simp only [← hji10] <;> (first | rfl | simp)) | (simp [*]; done)), H', ⟨by have := HK1.out; omega⟩, ⟨by (with_reducible repeat (first | apply Kd.R_alloc | apply Kd.R_drewN | apply Kd.R_drew)); exact HO179.out⟩, ⟨by repeat (first | (with_reducible first | exact HB.out | apply below_alloc | apply pw_below_drewN | apply below_drew1) | exact HB.out)⟩⟩
                · rw [if_neg c12] at H
                  exact absurd H (by simp)
              · rw [if_neg c11] at H
                exact absurd H (by simp)
            · rw [if_neg c9] at H
              exact absurd H (by simp)
          · rw [if_neg c8] at H
            exact absurd H (by simp)
        · rw [if_neg c7] at H
          exact absurd H (by simp)
end Go.Proofs.YtikgnpachlgakaaGreatDoor.Pr

namespace Go.Proofs.YtikgnpachlgakaaGreatDoor.Pr
open Go.RowKit Go.Proofs.YtikgnpachlgakaaGreatDoorW.PrintWords Go.Proofs.YtikgnpachlgakaaGreatDoorW.PrintLast Go.Proofs.YtikgnpachlgakaaGreatDoorW.PrintMore
attribute [local go_sem] max2_int min2_int max_two min_two max_three min_three max_four min_four   -- for this text's walks alone
set_option linter.unusedVariables false
set_option linter.unusedSimpArgs false
/-! ### spec_cronPieces: function 85 -/
def spec_cronPieces.l0 : Nat → ByteArray → Int → List ByteArray → Int → Int → Int → Option (List ByteArray)
  | 0, _, _, _, _, _, _ => none
  | k + 1, x0, x1, x5, x6, x9, x10 => if x10 < x9 then (if 0 ≤ x10 then (if x10 < (x0.size : Int) then (if (bt x0 x10) = x1 then (if 0 ≤ x6 then (if x6 ≤ x10 then (if x10 ≤ (x0.size : Int) then (if x5.length < 8796093022208 then (spec_cronPieces.l0 k x0 x1 (x5 ++ [x0.extract (x6 : Int).toNat (x10 : Int).toNat]) (wrap64 (x10 + 1)) x9 (wrap64 (x10 + 1))) else (none)) else (none)) else (none)) else (none)) else (spec_cronPieces.l0 k x0 x1 x5 x6 x9 (wrap64 (x10 + 1)))) else (none)) else (none)) else (if 0 ≤ x6 then (if x6 ≤ (x0.size : Int) then (if x5.length < 8796093022208 then (some (x5 ++ [x0.extract (x6 : Int).toNat x0.size])) else (none)) else (none)) else (none))
def spec_cronPieces.f (k : Nat) (a0 : ByteArray) (a1 : Int) : Option (List ByteArray) := spec_cronPieces.l0 k a0 a1 ([] : List ByteArray) 0 (a0.size : Int) 0
theorem spec_cronPieces.mono_l : ∀ k, (∀ y0 y1 y2 y3 y4 y5, LeO (spec_cronPieces.l0 k y0 y1 y2 y3 y4 y5) (spec_cronPieces.l0 (k + 1) y0 y1 y2 y3 y4 y5))
  | 0 => fun _ _ _ _ _ _ r h => by simp [spec_cronPieces.l0] at h
  | k + 1 => by
    have ih0 := spec_cronPieces.mono_l k
    · intro y0 y1 y2 y3 y4 y5
      unfold spec_cronPieces.l0
      repeat' first
      | (with_reducible exact ih0 _ _ _ _ _ _)
      | (with_reducible exact LeO.refl _)
      | (with_reducible exact LeO.none _)
      | (with_reducible refine LeO.ite ?_ ?_)
      | (with_reducible refine LeO.bind ?_ (fun _ => ?_))
      | exact ih0 _ _ _ _ _ _
      | exact LeO.none _
      | refine LeO.ite ?_ ?_
      | refine LeO.bind ?_ (fun _ => ?_)
theorem spec_cronPieces.mono : ∀ a0 a1 k, LeO (spec_cronPieces.f k a0 a1) (spec_cronPieces.f (k + 1) a0 a1) := by
  intro a0 a1 k
  have ih0 := spec_cronPieces.mono_l k
  unfold spec_cronPieces.f
  repeat' first
      | (with_reducible exact ih0 _ _ _ _ _ _)
      | (with_reducible exact LeO.refl _)
      | (with_reducible exact LeO.none _)
      | (with_reducible refine LeO.ite ?_ ?_)
      | (with_reducible refine LeO.bind ?_ (fun _ => ?_))
      | exact ih0 _ _ _ _ _ _
      | exact LeO.none _
      | refine LeO.ite ?_ ?_
      | refine LeO.bind ?_ (fun _ => ?_)
set_option maxHeartbeats 8000000 in
set_option maxRecDepth 100000 in
theorem spec_cronPieces.calls (k : Nat) (a0 : ByteArray) (a1 : Int) (r : List ByteArray) (w : World) (h : spec_cronPieces.f k a0 a1 = some r) :
    Calls Tryz.prog 85 #[.string a0, .int .u8 a1] w fun e w' => ∃ v0_ : Value, e = .returned (v0_) ∧ Kd.R Kd.string 9 w' w.heap.size (fun _ => True) v0_ r ∧ Below w.heap.size w w' := by
  have HB := Aside0.mk (Below.refl w.heap.size w)
  have H : (spec_cronPieces.l0 k a0 a1 ([] : List ByteArray) 0 (a0.size : Int) 0) = some r := h
  clear h
  have H' := Aside0.mk H
  clear H
  go_enter Tryz.func85, Tryz.ntmps85
  go_wp2
  go_loopg [5, 6, 10] k (fun kq v5 v6 v10 w' => ∃ (x5_1 : List ByteArray) (x6_1 : Int) (x10_1 : Int), v6 = .int .i64 x6_1 ∧ v10 = .int .i64 x10_1 ∧ Aside0 (spec_cronPieces.l0 kq a0 a1 x5_1 x6_1 (a0.size : Int) x10_1 = some r) ∧ Aside0 (kq ≤ k) ∧ Aside0 (Kd.R Kd.string 9 w' w.heap.size (fun _ => True) v5 x5_1) ∧ Aside0 (Below w.heap.size w w'))
  case atStart => exact ⟨(([] : List ByteArray)), (0), (0), (by first | rfl | (simp; done) | (simp [*]; done)), (by first | rfl | (simp; done) | (simp [*]; done)), H', ⟨Nat.le_refl _⟩, ⟨by first | exact Kd.R_nil _ _ _ _ _ | exact Kd.N_nil _ _ _ _ _ | exact Kd.V_nil _ _ _ _ _ | exact Kd.Q_nil _ _ _ _ _ | exact Kd.S_nil _ _ _ _ _⟩, ⟨by repeat (first | (with_reducible first | exact HB.out | apply below_alloc | apply pw_below_drewN | apply below_drew1) | exact HB.out)⟩⟩
  case round =>
    clear H'
    try clear p2
    obtain ⟨x5_1, x6_1, x10_1, rfl, rfl, HA, HK1, HO_5, HB⟩ := hrel
    cases gk with
    | zero => exact absurd HA.out (by simp [spec_cronPieces.l0])
    | succ k1 =>
      have H := HA.out
      clear HA
      simp only [spec_cronPieces.l0] at H
      by_cases c3 : x10_1 < (a0.size : Int)
      · rw [if_pos c3] at H
        have c3b0 : decide (x10_1 < (a0.size : Int)) = true := decide_eq_true c3
        clear c3
        by_cases c4 : 0 ≤ x10_1
        · rw [if_pos c4] at H
          have c4b0 : decide (0 ≤ x10_1) = true := decide_eq_true c4
          clear c4
          by_cases c5 : x10_1 < (a0.size : Int)
          · rw [if_pos c5] at H
            have c5b0 : decide (x10_1 < (a0.size : Int)) = true := decide_eq_true c5
            clear c5
            by_cases c7 : (bt a0 x10_1) = a1
            · rw [if_pos c7] at H
              have c7b0 : ((bt a0 x10_1) == a1) = true := beq_iff_eq.mpr c7
              have c7b1 : ((bt a0 x10_1) != a1) = false := bne_eq_false_iff_eq.mpr c7
              clear c7
              by_cases c8 : 0 ≤ x6_1
              · rw [if_pos c8] at H
                have c8b0 := eq_true c8
                have c8b1 : decide (0 ≤ x6_1) = true := decide_eq_true c8
                clear c8
                by_cases c9 : x6_1 ≤ x10_1
                · rw [if_pos c9] at H
                  have c9b0 := eq_true c9
                  have c9b1 : decide (x6_1 ≤ x10_1) = true := decide_eq_true c9
                  clear c9
                  by_cases c10 : x10_1 ≤ (a0.size : Int)
                  · rw [if_pos c10] at H
                    have c10b0 := eq_true c10
                    have c10b1 : decide (x10_1 ≤ (a0.size : Int)) = true := decide_eq_true c10
                    clear c10
                    by_cases c11 : x5_1.length < 8796093022208
                    · rw [if_pos c11] at H
                      have LMc11 := Aside0.mk c11
                      clear c11
                      obtain ⟨y139, hy139⟩ : ∃ y_ : List ByteArray, y_ = (x5_1 ++ [a0.extract (x6_1 : Int).toNat (x10_1 : Int).toNat]) := ⟨_, rfl⟩
                      replace H : (spec_cronPieces.l0 k1 a0 a1 y139 (wrap64 (x10_1 + 1)) (a0.size : Int) (wrap64 (x10_1 + 1))) = some r := by first | (rw [hy139]; with_reducible exact H) | (have H2_ := (Option.bind_some _ _).symm.trans H; rw [hy139]; with_reducible exact H2_) | (have H2_ := (Option.bind_some _ _).symm.trans H; with_reducible exact H2_) | with_reducible exact H | (rw [hy139]; exact H) | exact H
                      have Ny139 := Aside0.mk hy139
                      clear hy139
                      have H' := Aside0.mk H
                      clear H
                      have p6 : 0 ≤ (x10_1 : Int) := of_decide_eq_true (by first | (with_reducible assumption) | assumption)
                      have q6 : x10_1 < (a0.size : Int) := of_decide_eq_true (by first | (with_reducible assumption) | assumption)
                      have hx6 := bt_at a0 x10_1
                      replace p6 := eq_true p6
                      replace q6 := eq_true q6
                      go_wp2_with (first | ((with_reducible refine gate_builtin (b := .append) (xs := #[.tmp 18, .tmp 23]) rfl ?_); at_builtin; refine Kd.R_append Kd.string (w0 := w) w.heap.size rfl (.tmp 18) (.tmp 23) 22 9 (.string ⟨#[]⟩) 16 rfl Tryz.underlying22 info9 rfl (by decide) (by omega) u5 x5_1 (a0.extract (x6_1 : Int).toNat (x10_1 : Int).toNat) [.string (a0.extract (x6_1 : Int).toNat (x10_1 : Int).toNat)] (fun _ => True) (fun _ => False) rfl rfl ?aP (fun _ hk => hk.elim) ?aF ?aO ?aB ?aS ?aL ?_; (case aP => exact rfl); (case aB => exact (by repeat (first | (with_reducible first | exact HB.out | apply below_alloc | apply pw_below_drewN | apply below_drew1) | exact HB.out))); (case aF => exact (fun _ _ => trivial)); (case aO => exact (by (with_reducible repeat (first | apply Kd.R_alloc | apply Kd.R_drewN | apply Kd.R_drew)); exact HO_5.out)); (case aS => exact (below_size (by repeat (first | (with_reducible first | exact HB.out | apply below_alloc | apply pw_below_drewN | apply below_drew1) | exact HB.out)))); (case aL => have := LMc11.out; omega); intro v140 w12 ho hb hg hat; rw [← Ny139.out] at ho; have n0_ := Aside0.mk (hb); have n1_ := Aside0.mk (ho); clear HB; clear HO_5; have HB := n0_; have HO141 := n1_; clear n0_ n1_; clear ho hb hg hat))
                      go_roundg k1
                      case measure => have := HK1.out; omega
                      case rel => exact ⟨(y139), (wrap64 (x10_1 + 1)), (wrap64 (x10_1 + 1)), (by first | rfl | (simp; done) | (simp [*]; done)), (by first | rfl | (simp; done) | (simp [*]; done)), H', ⟨by have := HK1.out; omega⟩, ⟨by (with_reducible repeat (first | apply Kd.R_alloc | apply Kd.R_drewN | apply Kd.R_drew)); exact HO141.out⟩, ⟨by repeat (first | (with_reducible first | exact HB.out | apply below_alloc | apply pw_below_drewN | apply below_drew1) | exact HB.out)⟩⟩
                    · rw [if_neg c11] at H
                      exact absurd H (by simp)
                  · rw [if_neg c10] at H
                    exact absurd H (by simp)
                · rw [if_neg c9] at H
                  exact absurd H (by simp)
              · rw [if_neg c8] at H
                exact absurd H (by simp)
            · rw [if_neg c7] at H
              have c7b0 : ((bt a0 x10_1) == a1) = false := beq_eq_false_iff_ne.mpr c7
              have c7b1 : ((bt a0 x10_1) != a1) = true := bne_iff_ne.mpr c7
              have H' := Aside0.mk H
              clear H
              have p6 : 0 ≤ (x10_1 : Int) := of_decide_eq_true (by first | (with_reducible assumption) | assumption)
              have q6 : x10_1 < (a0.size : Int) := of_decide_eq_true (by first | (with_reducible assumption) | assumption)
              have hx6 := bt_at a0 x10_1
              replace p6 := eq_true p6
              replace q6 := eq_true q6
              go_wp2
              go_roundg k1
              case measure => have := HK1.out; omega
              case rel => exact ⟨(x5_1), (x6_1), (wrap64 (x10_1 + 1)), (by first | rfl | (simp; done) | (simp [*]; done)), (by first | rfl | (simp; done) | (simp [*]; done)), H', ⟨by have := HK1.out; omega⟩, ⟨by (with_reducible repeat (first | apply Kd.R_alloc | apply Kd.R_drewN | apply Kd.R_drew)); exact HO_5.out⟩, ⟨by repeat (first | (with_reducible first | exact HB.out | apply below_alloc | apply pw_below_drewN | apply below_drew1) | exact HB.out)⟩⟩
          · rw [if_neg c5] at H
            exact absurd H (by simp)
        · rw [if_neg c4] at H
          exact absurd H (by simp)
      · rw [if_neg c3] at H
        have c3b0 : decide (x10_1 < (a0.size : Int)) = false := decide_eq_false c3
        clear c3
        by_cases c13 : 0 ≤ x6_1
        · rw [if_pos c13] at H
          have c13b0 := eq_true c13
          have c13b1 : decide (0 ≤ x6_1) = true := decide_eq_true c13
          clear c13
          by_cases c14 : x6_1 ≤ (a0.size : Int)
          · rw [if_pos c14] at H
            have c14b0 := eq_true c14
            have c14b1 : decide (x6_1 ≤ (a0.size : Int)) = true := decide_eq_true c14
            clear c14
            by_cases c15 : x5_1.length < 8796093022208
            · rw [if_pos c15] at H
              have LMc15 := Aside0.mk c15
              clear c15
              obtain ⟨y142, hy142⟩ : ∃ y_ : List ByteArray, y_ = (x5_1 ++ [a0.extract (x6_1 : Int).toNat a0.size]) := ⟨_, rfl⟩
              replace H : (some y142) = some r := by first | (rw [hy142]; with_reducible exact H) | (have H2_ := (Option.bind_some _ _).symm.trans H; rw [hy142]; with_reducible exact H2_) | (have H2_ := (Option.bind_some _ _).symm.trans H; with_reducible exact H2_) | with_reducible exact H | (rw [hy142]; exact H) | exact H
              have Ny142 := Aside0.mk hy142
              clear hy142
              obtain rfl := Option.some.inj H
              go_wp2_with (first | ((with_reducible refine gate_builtin (b := .append) (xs := #[.tmp 28, .tmp 32]) rfl ?_); at_builtin; refine Kd.R_append Kd.string (w0 := w) w.heap.size rfl (.tmp 28) (.tmp 32) 22 9 (.string ⟨#[]⟩) 16 rfl Tryz.underlying22 info9 rfl (by decide) (by omega) u5 x5_1 (a0.extract (x6_1 : Int).toNat a0.size) [.string (a0.extract (x6_1 : Int).toNat a0.size)] (fun _ => True) (fun _ => False) rfl rfl ?aP (fun _ hk => hk.elim) ?aF ?aO ?aB ?aS ?aL ?_; (case aP => exact rfl); (case aB => exact (by repeat (first | (with_reducible first | exact HB.out | apply below_alloc | apply pw_below_drewN | apply below_drew1) | exact HB.out))); (case aF => exact (fun _ _ => trivial)); (case aO => exact (by (with_reducible repeat (first | apply Kd.R_alloc | apply Kd.R_drewN | apply Kd.R_drew)); exact HO_5.out)); (case aS => exact (below_size (by repeat (first | (with_reducible first | exact HB.out | apply below_alloc | apply pw_below_drewN | apply below_drew1) | exact HB.out)))); (case aL => have := LMc15.out; omega); intro v143 w16 ho hb hg hat; rw [← Ny142.out] at ho; have n0_ := Aside0.mk (hb); have n1_ := Aside0.mk (ho); clear HB; clear HO_5; have HB := n0_; have HO144 := n1_; clear n0_ n1_; clear ho hb hg hat))
              go_ret
              exact ⟨_, by first | rfl | (simp [errW_none, errW_some] <;> rfl) | (simp [*, errW_none, errW_some] <;> rfl), by (with_reducible repeat (first | apply Kd.R_alloc | apply Kd.R_drewN | apply Kd.R_drew)); exact HO144.out, by repeat (first | (with_reducible first | exact HB.out | apply below_alloc | apply pw_below_drewN | apply below_drew1) | exact HB.out)⟩
            · rw [if_neg c15] at H
              exact absurd H (by simp)
          · rw [if_neg c14] at H
            exact absurd H (by simp)
        · rw [if_neg c13] at H
          exact absurd H (by simp)
end Go.Proofs.YtikgnpachlgakaaGreatDoor.Pr

namespace Go.Proofs.YtikgnpachlgakaaGreatDoor.Pr
open Go.RowKit Go.Proofs.YtikgnpachlgakaaGreatDoorW.PrintWords Go.Proofs.YtikgnpachlgakaaGreatDoorW.PrintLast Go.Proofs.YtikgnpachlgakaaGreatDoorW.PrintMore
attribute [local go_sem] max2_int min2_int max_two min_two max_three min_three max_four min_four   -- for this text's walks alone
set_option linter.unusedVariables false
set_option linter.unusedSimpArgs false
/-! ### spec_isDigit: function 92 -/
def spec_isDigit.f (a0 : Int) : Option (Bool) := if 48 ≤ a0 then (some (decide (a0 ≤ 57))) else (some false)
set_option maxHeartbeats 8000000 in
set_option maxRecDepth 100000 in
theorem spec_isDigit.calls (a0 : Int) (r : Bool) (w : World) (h : spec_isDigit.f a0 = some r) :
    Calls Tryz.prog 92 #[.int .u8 a0] w fun e w' => e = .returned (.bool r) ∧ Drawn0 w w' := by
  have H : (if 48 ≤ a0 then (some (decide (a0 ≤ 57))) else (some false)) = some r := h
  clear h
  by_cases c2 : 48 ≤ a0
  · rw [if_pos c2] at H
    have c2b0 : decide (48 ≤ a0) = true := decide_eq_true c2
    clear c2
    obtain rfl := Option.some.inj H
    go_enter Tryz.func92, Tryz.ntmps92
    go_wp2
    go_ret
    exact ⟨by first | rfl | (simp; done) | (simp [*]; done), by repeat (first | exact Drawn0.refl _ | apply Drawn0.step)⟩
  · rw [if_neg c2] at H
    have c2b0 : decide (48 ≤ a0) = false := decide_eq_false c2
    clear c2
    obtain rfl := Option.some.inj H
    go_enter Tryz.func92, Tryz.ntmps92
    go_wp2
    go_ret
    exact ⟨by first | rfl | (simp; done) | (simp [*]; done), by repeat (first | exact Drawn0.refl _ | apply Drawn0.step)⟩
end Go.Proofs.YtikgnpachlgakaaGreatDoor.Pr

namespace Go.Proofs.YtikgnpachlgakaaGreatDoor.Pr
open Go.RowKit Go.Proofs.YtikgnpachlgakaaGreatDoorW.PrintWords Go.Proofs.YtikgnpachlgakaaGreatDoorW.PrintLast Go.Proofs.YtikgnpachlgakaaGreatDoorW.PrintMore
attribute [local go_sem] max2_int min2_int max_two min_two max_three min_three max_four min_four   -- for this text's walks alone
set_option linter.unusedVariables false
set_option linter.unusedSimpArgs false
/-! ### spec_cronZeros: function 108 -/
def spec_cronZeros.l0 : Nat → ByteArray → Int → Int → Option (Bool)
  | 0, _, _, _ => none
  | k + 1, x0, x5, x6 => if x6 < x5 then (if 0 ≤ x6 then (if x6 < (x0.size : Int) then (if (bt x0 x6) = 48 then (spec_cronZeros.l0 k x0 x5 (wrap64 (x6 + 1))) else (some false)) else (none)) else (none)) else (some true)
def spec_cronZeros.f (k : Nat) (a0 : ByteArray) : Option (Bool) := spec_cronZeros.l0 k a0 (a0.size : Int) 0
theorem spec_cronZeros.mono_l : ∀ k, (∀ y0 y1 y2, LeO (spec_cronZeros.l0 k y0 y1 y2) (spec_cronZeros.l0 (k + 1) y0 y1 y2))
  | 0 => fun _ _ _ r h => by simp [spec_cronZeros.l0] at h
  | k + 1 => by
    have ih0 := spec_cronZeros.mono_l k
    · intro y0 y1 y2
      unfold spec_cronZeros.l0
      repeat' first
      | (with_reducible exact ih0 _ _ _)
      | (with_reducible exact LeO.refl _)
      | (with_reducible exact LeO.none _)
      | (with_reducible refine LeO.ite ?_ ?_)
      | (with_reducible refine LeO.bind ?_ (fun _ => ?_))
      | exact ih0 _ _ _
      | exact LeO.none _
      | refine LeO.ite ?_ ?_
      | refine LeO.bind ?_ (fun _ => ?_)
theorem spec_cronZeros.mono : ∀ a0 k, LeO (spec_cronZeros.f k a0) (spec_cronZeros.f (k + 1) a0) := by
  intro a0 k
  have ih0 := spec_cronZeros.mono_l k
  unfold spec_cronZeros.f
  repeat' first
      | (with_reducible exact ih0 _ _ _)
      | (with_reducible exact LeO.refl _)
      | (with_reducible exact LeO.none _)
      | (with_reducible refine LeO.ite ?_ ?_)
      | (with_reducible refine LeO.bind ?_ (fun _ => ?_))
      | exact ih0 _ _ _
      | exact LeO.none _
      | refine LeO.ite ?_ ?_
      | refine LeO.bind ?_ (fun _ => ?_)
set_option maxHeartbeats 8000000 in
set_option maxRecDepth 100000 in
theorem spec_cronZeros.calls (k : Nat) (a0 : ByteArray) (r : Bool) (w : World) (h : spec_cronZeros.f k a0 = some r) :
    Calls Tryz.prog 108 #[.string a0] w fun e w' => e = .returned (.bool r) ∧ Drawn0 w w' := by
  have H : (spec_cronZeros.l0 k a0 (a0.size : Int) 0) = some r := h
  clear h
  have H' := Aside0.mk H
  clear H
  go_enter Tryz.func108, Tryz.ntmps108
  go_wp2
  go_loopg [6] k (fun kq v6 w' => ∃ (x6_1 : Int), v6 = .int .i64 x6_1 ∧ Aside0 (spec_cronZeros.l0 kq a0 (a0.size : Int) x6_1 = some r) ∧ Aside0 (kq ≤ k) ∧ Drawn0 w w')
  case atStart => exact ⟨(0), (by first | rfl | (simp; done) | (simp [*]; done)), H', ⟨Nat.le_refl _⟩, by repeat (first | exact Drawn0.refl _ | apply Drawn0.step)⟩
  case round =>
    clear H'
    try clear c1
    obtain ⟨x6_1, rfl, HA, HK1, ⟨m1, rfl⟩⟩ := hrel
    cases gk with
    | zero => exact absurd HA.out (by simp [spec_cronZeros.l0])
    | succ k1 =>
      have H := HA.out
      clear HA
      simp only [spec_cronZeros.l0] at H
      by_cases c2 : x6_1 < (a0.size : Int)
      · rw [if_pos c2] at H
        have c2b0 : decide (x6_1 < (a0.size : Int)) = true := decide_eq_true c2
        clear c2
        by_cases c3 : 0 ≤ x6_1
        · rw [if_pos c3] at H
          have c3b0 : decide (0 ≤ x6_1) = true := decide_eq_true c3
          clear c3
          by_cases c4 : x6_1 < (a0.size : Int)
          · rw [if_pos c4] at H
            have c4b0 : decide (x6_1 < (a0.size : Int)) = true := decide_eq_true c4
            clear c4
            by_cases c6 : (bt a0 x6_1) = 48
            · rw [if_pos c6] at H
              have c6b0 : ((bt a0 x6_1) == 48) = true := beq_iff_eq.mpr c6
              have c6b1 : ((bt a0 x6_1) != 48) = false := bne_eq_false_iff_eq.mpr c6
              clear c6
              have H' := Aside0.mk H
              clear H
              have p5 : 0 ≤ (x6_1 : Int) := of_decide_eq_true (by first | (with_reducible assumption) | assumption)
              have q5 : x6_1 < (a0.size : Int) := of_decide_eq_true (by first | (with_reducible assumption) | assumption)
              have hx5 := bt_at a0 x6_1
              replace p5 := eq_true p5
              replace q5 := eq_true q5
              go_wp2
              go_roundg k1
              case measure => have := HK1.out; omega
              case rel => exact ⟨(wrap64 (x6_1 + 1)), (by first | rfl | (simp; done) | (simp [*]; done)), H', ⟨by have := HK1.out; omega⟩, by repeat (first | exact Drawn0.refl _ | apply Drawn0.step)⟩
            · rw [if_neg c6] at H
              have c6b0 : ((bt a0 x6_1) == 48) = false := beq_eq_false_iff_ne.mpr c6
              have c6b1 : ((bt a0 x6_1) != 48) = true := bne_iff_ne.mpr c6
              obtain rfl := Option.some.inj H
              have p5 : 0 ≤ (x6_1 : Int) := of_decide_eq_true (by first | (with_reducible assumption) | assumption)
              have q5 : x6_1 < (a0.size : Int) := of_decide_eq_true (by first | (with_reducible assumption) | assumption)
              have hx5 := bt_at a0 x6_1
              replace p5 := eq_true p5
              replace q5 := eq_true q5
              go_wp2
              go_ret
              exact ⟨by first | rfl | (simp; done) | (simp [*]; done), by repeat (first | exact Drawn0.refl _ | apply Drawn0.step)⟩
          · rw [if_neg c4] at H
            exact absurd H (by simp)
        · rw [if_neg c3] at H
          exact absurd H (by simp)
      · rw [if_neg c2] at H
        have c2b0 : decide (x6_1 < (a0.size : Int)) = false := decide_eq_false c2
        clear c2
        obtain rfl := Option.some.inj H
        go_wp2
        go_ret
        exact ⟨by first | rfl | (simp; done) | (simp [*]; done), by repeat (first | exact Drawn0.refl _ | apply Drawn0.step)⟩
end Go.Proofs.YtikgnpachlgakaaGreatDoor.Pr

namespace Go.Proofs.YtikgnpachlgakaaGreatDoor.Pr
open Go.RowKit Go.Proofs.YtikgnpachlgakaaGreatDoorW.PrintWords Go.Proofs.YtikgnpachlgakaaGreatDoorW.PrintLast Go.Proofs.YtikgnpachlgakaaGreatDoorW.PrintMore
attribute [local go_sem] max2_int min2_int max_two min_two max_three min_three max_four min_four   -- for this text's walks alone
set_option linter.unusedVariables false
set_option linter.unusedSimpArgs false
/-! ### spec_CronNumber: function 102 -/
mutual
def spec_CronNumber.j0 : Nat → ByteArray → Int → Bool → Option (Int × Int)
  | 0, _, _, _ => none
  | k + 1, x0, x4, x24 => if x24 = true then (if 1 ≤ (x0.size : Int) then (spec_CronNumber.j1 k (x0.extract 1 x0.size) 2) else (none)) else (spec_CronNumber.j1 k x0 x4)
def spec_CronNumber.j1 : Nat → ByteArray → Int → Option (Int × Int)
  | 0, _, _ => none
  | k + 1, x0, x4 => if x0.toList = ([] : List UInt8) then (some (0, 0)) else (spec_CronNumber.l0 k x0 x4 0 (x0.size : Int) 0)
def spec_CronNumber.l0 : Nat → ByteArray → Int → Int → Int → Int → Option (Int × Int)
  | 0, _, _, _, _, _ => none
  | k + 1, x0, x4, x5, x30, x31 => if x31 < x30 then (if 0 ≤ x31 then (if x31 < (x0.size : Int) then ((spec_isDigit.f (bt x0 x31)).bind fun t146 => (if t146 = true then (spec_CronNumber.l0 k x0 x4 (mn (wrap64 ((wrap64 (10 * x5)) + (((bt x0 x31) - 48) % 256))) 1099511627776) x30 (wrap64 (x31 + 1))) else (some (0, 0)))) else (none)) else (none)) else (some (x5, x4))
end
def spec_CronNumber.f (k : Nat) (a0 : ByteArray) : Option (Int × Int) := if (a0.size : Int) > 0 then (if 0 < (a0.size : Int) then (if (bt a0 0) = 43 then (spec_CronNumber.j0 k a0 1 true) else (if (bt a0 0) = 45 then (if 1 ≤ (a0.size : Int) then ((spec_cronZeros.f k (a0.extract 1 a0.size)).bind fun t145 => (spec_CronNumber.j0 k a0 1 t145)) else (none)) else (spec_CronNumber.j0 k a0 1 false))) else (none)) else (spec_CronNumber.j0 k a0 1 false)
theorem spec_CronNumber.mono_l : ∀ k, (∀ y0 y1 y2, LeO (spec_CronNumber.j0 k y0 y1 y2) (spec_CronNumber.j0 (k + 1) y0 y1 y2)) ∧ (∀ y0 y1, LeO (spec_CronNumber.j1 k y0 y1) (spec_CronNumber.j1 (k + 1) y0 y1)) ∧ (∀ y0 y1 y2 y3 y4, LeO (spec_CronNumber.l0 k y0 y1 y2 y3 y4) (spec_CronNumber.l0 (k + 1) y0 y1 y2 y3 y4))
  | 0 => ⟨fun _ _ _ r h => by simp [spec_CronNumber.j0] at h, fun _ _ r h => by simp [spec_CronNumber.j1] at h, fun _ _ _ _ _ r h => by simp [spec_CronNumber.l0] at h⟩
  | k + 1 => by
    obtain ⟨ih0, ih1, ih2⟩ := spec_CronNumber.mono_l k
    refine ⟨?_, ?_, ?_⟩
    · intro y0 y1 y2
      unfold spec_CronNumber.j0
      repeat' first
      | (with_reducible exact ih0 _ _ _)
      | (with_reducible exact ih1 _ _)
      | (with_reducible exact ih2 _ _ _ _ _)
      | (with_reducible exact spec_cronZeros.mono _ _)
      | (with_reducible exact LeO.refl _)
      | (with_reducible exact LeO.none _)
      | (with_reducible refine LeO.ite ?_ ?_)
      | (with_reducible refine LeO.bind ?_ (fun _ => ?_))
      | exact ih0 _ _ _
      | exact ih1 _ _
      | exact ih2 _ _ _ _ _
      | exact spec_cronZeros.mono _ _
      | exact LeO.none _
      | refine LeO.ite ?_ ?_
      | refine LeO.bind ?_ (fun _ => ?_)
    · intro y0 y1
      unfold spec_CronNumber.j1
      repeat' first
      | (with_reducible exact ih0 _ _ _)
      | (with_reducible exact ih1 _ _)
      | (with_reducible exact ih2 _ _ _ _ _)
      | (with_reducible exact spec_cronZeros.mono _ _)
      | (with_reducible exact LeO.refl _)
      | (with_reducible exact LeO.none _)
      | (with_reducible refine LeO.ite ?_ ?_)
      | (with_reducible refine LeO.bind ?_ (fun _ => ?_))
      | exact ih0 _ _ _
      | exact ih1 _ _
      | exact ih2 _ _ _ _ _
      | exact spec_cronZeros.mono _ _
      | exact LeO.none _
      | refine LeO.ite ?_ ?_
      | refine LeO.bind ?_ (fun _ => ?_)
    · intro y0 y1 y2 y3 y4
      unfold spec_CronNumber.l0
      repeat' first
      | (with_reducible exact ih0 _ _ _)
      | (with_reducible exact ih1 _ _)
      | (with_reducible exact ih2 _ _ _ _ _)
      | (with_reducible exact spec_cronZeros.mono _ _)
      | (with_reducible exact LeO.refl _)
      | (with_reducible exact LeO.none _)
      | (with_reducible refine LeO.ite ?_ ?_)
      | (with_reducible refine LeO.bind ?_ (fun _ => ?_))
      | exact ih0 _ _ _
      | exact ih1 _ _
      | exact ih2 _ _ _ _ _
      | exact spec_cronZeros.mono _ _
      | exact LeO.none _
      | refine LeO.ite ?_ ?_
      | refine LeO.bind ?_ (fun _ => ?_)
theorem spec_CronNumber.mono : ∀ a0 k, LeO (spec_CronNumber.f k a0) (spec_CronNumber.f (k + 1) a0) := by
  intro a0 k
  obtain ⟨ih0, ih1, ih2⟩ := spec_CronNumber.mono_l k
  unfold spec_CronNumber.f
  repeat' first
      | (with_reducible exact ih0 _ _ _)
      | (with_reducible exact ih1 _ _)
      | (with_reducible exact ih2 _ _ _ _ _)
      | (with_reducible exact spec_cronZeros.mono _ _)
      | (with_reducible exact LeO.refl _)
      | (with_reducible exact LeO.none _)
      | (with_reducible refine LeO.ite ?_ ?_)
      | (with_reducible refine LeO.bind ?_ (fun _ => ?_))
      | exact ih0 _ _ _
      | exact ih1 _ _
      | exact ih2 _ _ _ _ _
      | exact spec_cronZeros.mono _ _
      | exact LeO.none _
      | refine LeO.ite ?_ ?_
      | refine LeO.bind ?_ (fun _ => ?_)
set_option maxHeartbeats 8000000 in
set_option maxRecDepth 100000 in
theorem spec_CronNumber.calls (k : Nat) (a0 : ByteArray) (r1 : Int) (r2 : Int) (w : World) (h : spec_CronNumber.f k a0 = some (r1, r2)) :
    Calls Tryz.prog 102 #[.string a0] w fun e w' => e = .returned (.tuple #[.int .i64 r1, .int .i64 r2]) ∧ Below w.heap.size w w' := by
  have HB := Aside0.mk (Below.refl w.heap.size w)
  have H : (if (a0.size : Int) > 0 then (if 0 < (a0.size : Int) then (if (bt a0 0) = 43 then (spec_CronNumber.j0 k a0 1 true) else (if (bt a0 0) = 45 then (if 1 ≤ (a0.size : Int) then ((spec_cronZeros.f k (a0.extract 1 a0.size)).bind fun t145 => (spec_CronNumber.j0 k a0 1 t145)) else (none)) else (spec_CronNumber.j0 k a0 1 false))) else (none)) else (spec_CronNumber.j0 k a0 1 false)) = some (r1, r2) := h
  clear h
  have HC2 := Aside0.mk H
  clear H
  go_enter Tryz.func102, Tryz.ntmps102
  go_upto_region 2 with (fail)
  go_cut [24] (fun v24 wc => ∃ (kq : Nat) (x24_1 : Bool), v24 = .bool x24_1 ∧ Aside0 (spec_CronNumber.j0 kq a0 1 x24_1 = some (r1, r2)) ∧ Aside0 (kq ≤ k) ∧ Aside0 (Below w.heap.size w wc))
  case first =>
    have H := HC2.out
    clear HC2
    by_cases c3 : (a0.size : Int) > 0
    · rw [if_pos c3] at H
      have c3b0 : decide (0 < (a0.size : Int)) = true := decide_eq_true c3
      have c3b1 : decide (0 < a0.size) = true := decide_eq_true (by omega)
      clear c3
      (first | rw [c3b0] | (simp only [i64_w, i32_w]; rw [c3b0]) | skip)
      by_cases c4 : 0 < (a0.size : Int)
      · rw [if_pos c4] at H
        have c4b0 : decide (0 < (a0.size : Int)) = true := decide_eq_true c4
        have c4b1 : decide (0 < a0.size) = true := decide_eq_true (by omega)
        clear c4
        by_cases c6 : (bt a0 0) = 43
        · rw [if_pos c6] at H
          have c6b0 : ((bt a0 0) == 43) = true := beq_iff_eq.mpr c6
          have c6b1 : ((bt a0 0) != 43) = false := bne_eq_false_iff_eq.mpr c6
          clear c6
          have H' := Aside0.mk H
          clear H
          have p5 : 0 ≤ (0 : Int) := (by omega)
          have q5 : 0 < a0.size := (by have : (0 : Int) < (a0.size : Int) := of_decide_eq_true (by first | (with_reducible assumption) | assumption); omega)
          have hx5 : ∀ h : 0 < a0.size, ((a0[0]'h).toNat : Int) = bt a0 0 := bt_at a0 0
          clear p5
          have qi5 : (0 < (a0.size : Int)) = True := eq_true (of_decide_eq_true (by first | (with_reducible assumption) | assumption))
          replace q5 := eq_true q5
          go_wp2
          go_meet
          case rel => exact ⟨_, (true), (by first | rfl | (simp; done) | (simp [*]; done)), H', ⟨by first | omega | exact Nat.le_refl _⟩, ⟨by repeat (first | (with_reducible first | exact HB.out | apply below_alloc | apply pw_below_drewN | apply below_drew1) | exact HB.out)⟩⟩
        · rw [if_neg c6] at H
          have c6b0 : ((bt a0 0) == 43) = false := beq_eq_false_iff_ne.mpr c6
          have c6b1 : ((bt a0 0) != 43) = true := bne_iff_ne.mpr c6
          by_cases c8 : (bt a0 0) = 45
          · rw [if_pos c8] at H
            have c8b0 : ((bt a0 0) == 45) = true := beq_iff_eq.mpr c8
            have c8b1 : ((bt a0 0) != 45) = false := bne_eq_false_iff_eq.mpr c8
            clear c8
            by_cases c9 : 1 ≤ (a0.size : Int)
            · rw [if_pos c9] at H
              have c9b0 := eq_true c9
              have c9b1 : decide (1 ≤ (a0.size : Int)) = true := decide_eq_true c9
              clear c9
              replace H := Option.bind_eq_some_iff.mp H
              obtain ⟨t145, A100, H⟩ := H
              replace H : (spec_CronNumber.j0 k a0 1 t145) = some (r1, r2) := H
              have A10 := Aside0.mk A100
              clear A100
              have H' := Aside0.mk H
              clear H
              have p5 : 0 ≤ (0 : Int) := (by omega)
              have q5 : 0 < a0.size := (by have : (0 : Int) < (a0.size : Int) := of_decide_eq_true (by first | (with_reducible assumption) | assumption); omega)
              have hx5 : ∀ h : 0 < a0.size, ((a0[0]'h).toNat : Int) = bt a0 0 := bt_at a0 0
              clear p5
              have qi5 : (0 < (a0.size : Int)) = True := eq_true (of_decide_eq_true (by first | (with_reducible assumption) | assumption))
              replace q5 := eq_true q5
              have p7 : 0 ≤ (0 : Int) := (by omega)
              have q7 : 0 < a0.size := (by have : (0 : Int) < (a0.size : Int) := of_decide_eq_true (by first | (with_reducible assumption) | assumption); omega)
              have hx7 : ∀ h : 0 < a0.size, ((a0[0]'h).toNat : Int) = bt a0 0 := bt_at a0 0
              clear p7
              have qi7 : (0 < (a0.size : Int)) = True := eq_true (of_decide_eq_true (by first | (with_reducible assumption) | assumption))
              replace q7 := eq_true q7
              go_wp2_with (first | (go_at_call 108; (with_reducible refine (spec_cronZeros.calls k (a0.extract 1 a0.size) t145 _ A10.out).mono ?_); rintro e w' ⟨rfl, ⟨nd, rfl⟩⟩))
              go_meet
              case rel => exact ⟨_, (t145), (by first | rfl | (simp; done) | (simp [*]; done)), H', ⟨by first | omega | exact Nat.le_refl _⟩, ⟨by repeat (first | (with_reducible first | exact HB.out | apply below_alloc | apply pw_below_drewN | apply below_drew1) | exact HB.out)⟩⟩
            · rw [if_neg c9] at H
              exact absurd H (by simp)
          · rw [if_neg c8] at H
            have c8b0 : ((bt a0 0) == 45) = false := beq_eq_false_iff_ne.mpr c8
            have c8b1 : ((bt a0 0) != 45) = true := bne_iff_ne.mpr c8
            have H' := Aside0.mk H
            clear H
            have p5 : 0 ≤ (0 : Int) := (by omega)
            have q5 : 0 < a0.size := (by have : (0 : Int) < (a0.size : Int) := of_decide_eq_true (by first | (with_reducible assumption) | assumption); omega)
            have hx5 : ∀ h : 0 < a0.size, ((a0[0]'h).toNat : Int) = bt a0 0 := bt_at a0 0
            clear p5
            have qi5 : (0 < (a0.size : Int)) = True := eq_true (of_decide_eq_true (by first | (with_reducible assumption) | assumption))
            replace q5 := eq_true q5
            have p7 : 0 ≤ (0 : Int) := (by omega)
            have q7 : 0 < a0.size := (by have : (0 : Int) < (a0.size : Int) := of_decide_eq_true (by first | (with_reducible assumption) | assumption); omega)
            have hx7 : ∀ h : 0 < a0.size, ((a0[0]'h).toNat : Int) = bt a0 0 := bt_at a0 0
            clear p7
            have qi7 : (0 < (a0.size : Int)) = True := eq_true (of_decide_eq_true (by first | (with_reducible assumption) | assumption))
            replace q7 := eq_true q7
            go_wp2
            go_meet
            case rel => exact ⟨_, (false), (by first | rfl | (simp; done) | (simp [*]; done)), H', ⟨by first | omega | exact Nat.le_refl _⟩, ⟨by repeat (first | (with_reducible first | exact HB.out | apply below_alloc | apply pw_below_drewN | apply below_drew1) | exact HB.out)⟩⟩
      · rw [if_neg c4] at H
        exact absurd H (by simp)
    · rw [if_neg c3] at H
      have c3b0 : decide (0 < (a0.size : Int)) = false := decide_eq_false c3
      have c3b1 : decide (0 < a0.size) = false := decide_eq_false (by omega)
      clear c3
      (first | rw [c3b0] | (simp only [i64_w, i32_w]; rw [c3b0]) | skip)
      have H' := Aside0.mk H
      clear H
      go_wp2
      go_meet
      case rel => exact ⟨_, (false), (by first | rfl | (simp; done) | (simp [*]; done)), H', ⟨by first | omega | exact Nat.le_refl _⟩, ⟨by repeat (first | (with_reducible first | exact HB.out | apply below_alloc | apply pw_below_drewN | apply below_drew1) | exact HB.out)⟩⟩
  case rest =>
    clear HC2
    try clear c1
    try clear p2
    try clear c3
    try clear c3b0
    try clear c3b1
    try clear c4
    try clear c4b0
    try clear c4b1
    try clear p5
    try clear q5
    try clear hx5
    try clear qi5
    try clear c6
    try clear c6b0
    try clear c6b1
    try clear p7
    try clear q7
    try clear hx7
    try clear qi7
    try clear c8
    try clear c8b0
    try clear c8b1
    try clear c9
    try clear c9b0
    try clear c9b1
    try clear c10
    try clear p5
    try clear p7
    try clear q5
    try clear q7
    obtain ⟨kq, x24_1, rfl, HA, HJ1, HB⟩ := hcut
    cases kq with
    | zero => exact absurd HA.out (by simp [spec_CronNumber.j0])
    | succ kj1 =>
      have H := HA.out
      clear HA
      simp only [spec_CronNumber.j0] at H
      have HC11 := Aside0.mk H
      clear H
      go_upto_if 24 with (fail)
      go_cut [0, 4] (fun v0 v4 wc => ∃ (kq : Nat) (x0_10 : ByteArray) (x4_10 : Int), v0 = .string x0_10 ∧ v4 = .int .i64 x4_10 ∧ Aside0 (spec_CronNumber.j1 kq x0_10 x4_10 = some (r1, r2)) ∧ Aside0 (kq ≤ kj1) ∧ Aside0 (Below w.heap.size w wc))
      case first =>
        have H := HC11.out
        clear HC11
        by_cases c12 : x24_1 = true
        · subst c12
          have H1 : (if 1 ≤ (a0.size : Int) then (spec_CronNumber.j1 kj1 (a0.extract 1 a0.size) 2) else (none)) = some (r1, r2) := by rw [if_pos rfl] at H; exact H
          clear H
          have H := H1
          clear H1
          by_cases c13 : 1 ≤ (a0.size : Int)
          · rw [if_pos c13] at H
            have c13b0 := eq_true c13
            have c13b1 : decide (1 ≤ (a0.size : Int)) = true := decide_eq_true c13
            clear c13
            have H' := Aside0.mk H
            clear H
            go_wp2
            go_meet
            case rel => exact ⟨_, (a0.extract 1 a0.size), (2), (by first | rfl | (simp; done) | (simp [*]; done)), (by first | rfl | (simp; done) | (simp [*]; done)), H', ⟨by have := HJ1.out; first | omega | exact Nat.le_refl _⟩, ⟨by repeat (first | (with_reducible first | exact HB.out | apply below_alloc | apply pw_below_drewN | apply below_drew1) | exact HB.out)⟩⟩
          · rw [if_neg c13] at H
            exact absurd H (by simp)
        · replace c12 := Bool.eq_false_iff.mpr c12
          subst c12
          have H1 : (spec_CronNumber.j1 kj1 a0 1) = some (r1, r2) := by rw [if_neg (show ¬ (false = true) by decide)] at H; exact H
          clear H
          have H := H1
          clear H1
          have H' := Aside0.mk H
          clear H
          go_wp2
          go_meet
          case rel => exact ⟨_, (a0), (1), (by first | rfl | (simp; done) | (simp [*]; done)), (by first | rfl | (simp; done) | (simp [*]; done)), H', ⟨by have := HJ1.out; first | omega | exact Nat.le_refl _⟩, ⟨by repeat (first | (with_reducible first | exact HB.out | apply below_alloc | apply pw_below_drewN | apply below_drew1) | exact HB.out)⟩⟩
      case rest =>
        clear HC11
        try clear c1
        try clear p2
        try clear c3
        try clear c3b0
        try clear c3b1
        try clear c4
        try clear c4b0
        try clear c4b1
        try clear p5
        try clear q5
        try clear hx5
        try clear qi5
        try clear c6
        try clear c6b0
        try clear c6b1
        try clear p7
        try clear q7
        try clear hx7
        try clear qi7
        try clear c8
        try clear c8b0
        try clear c8b1
        try clear c9
        try clear c9b0
        try clear c9b1
        try clear c10
        try clear c12
        try clear c13
        try clear c13b0
        try clear c13b1
        try clear p2
        try clear p5
        try clear p7
        try clear q5
        try clear q7
        obtain ⟨kq, x0_10, x4_10, rfl, rfl, HA, HJ10, HB⟩ := hcut
        cases kq with
        | zero => exact absurd HA.out (by simp [spec_CronNumber.j1])
        | succ kj10 =>
          have H := HA.out
          clear HA
          simp only [spec_CronNumber.j1] at H
          by_cases c14 : x0_10.toList = ([] : List UInt8)
          · rw [if_pos c14] at H
            have c14b0 : (x0_10.toList == ([] : List UInt8)) = true := beq_iff_eq.mpr c14
            have c14b1 : (x0_10.toList != ([] : List UInt8)) = false := bne_eq_false_iff_eq.mpr c14
            clear c14
            simp only [Option.some.injEq, Prod.mk.injEq] at H
            obtain ⟨rfl, rfl⟩ := H
            go_wp2
            go_ret2
            exact ⟨by first | rfl | (simp [errW_none, errW_some] <;> rfl) | (simp [*, errW_none, errW_some] <;> rfl), by repeat (first | (with_reducible first | exact HB.out | apply below_alloc | apply pw_below_drewN | apply below_drew1) | exact HB.out)⟩
          · rw [if_neg c14] at H
            have c14b0 : (x0_10.toList == ([] : List UInt8)) = false := beq_eq_false_iff_ne.mpr c14
            have c14b1 : (x0_10.toList != ([] : List UInt8)) = true := bne_iff_ne.mpr c14
            have H' := Aside0.mk H
            clear H
            go_wp2
            go_loopg [5, 31] kj10 (fun kq v5 v31 w' => ∃ (x5_3 : Int) (x31_3 : Int), v5 = .int .i64 x5_3 ∧ v31 = .int .i64 x31_3 ∧ Aside0 (spec_CronNumber.l0 kq x0_10 x4_10 x5_3 (x0_10.size : Int) x31_3 = some (r1, r2)) ∧ Aside0 (kq ≤ kj10) ∧ Aside0 (Below w.heap.size w w'))
            case atStart => exact ⟨(0), (0), (by first | rfl | (simp; done) | (simp [*]; done)), (by first | rfl | (simp; done) | (simp [*]; done)), H', ⟨Nat.le_refl _⟩, ⟨by repeat (first | (with_reducible first | exact HB.out | apply below_alloc | apply pw_below_drewN | apply below_drew1) | exact HB.out)⟩⟩
            case round =>
              clear H'
              try clear c1
              try clear p2
              try clear c3
              try clear c3b0
              try clear c3b1
              try clear c4
              try clear c4b0
              try clear c4b1
              try clear p5
              try clear q5
              try clear hx5
              try clear qi5
              try clear c6
              try clear c6b0
              try clear c6b1
              try clear p7
              try clear q7
              try clear hx7
              try clear qi7
              try clear c8
              try clear c8b0
              try clear c8b1
              try clear c9
              try clear c9b0
              try clear c9b1
              try clear c10
              try clear c12
              try clear c13
              try clear c13b0
              try clear c13b1
              try clear c14
              try clear c14b0
              try clear c14b1
              try clear p2
              try clear p5
              try clear p7
              try clear q5
              try clear q7
              obtain ⟨x5_3, x31_3, rfl, rfl, HA, HK3, HB⟩ := hrel
              cases gk with
              | zero => exact absurd HA.out (by simp [spec_CronNumber.l0])
              | succ k3 =>
                have H := HA.out
                clear HA
                simp only [spec_CronNumber.l0] at H
                by_cases c15 : x31_3 < (x0_10.size : Int)
                · rw [if_pos c15] at H
                  have c15b0 : decide (x31_3 < (x0_10.size : Int)) = true := decide_eq_true c15
                  clear c15
                  by_cases c16 : 0 ≤ x31_3
                  · rw [if_pos c16] at H
                    have c16b0 : decide (0 ≤ x31_3) = true := decide_eq_true c16
                    clear c16
                    by_cases c17 : x31_3 < (x0_10.size : Int)
                    · rw [if_pos c17] at H
                      have c17b0 : decide (x31_3 < (x0_10.size : Int)) = true := decide_eq_true c17
                      clear c17
                      replace H := Option.bind_eq_some_iff.mp H
                      obtain ⟨t146, A190, H⟩ := H
                      replace H : (if t146 = true then (spec_CronNumber.l0 k3 x0_10 x4_10 (mn (wrap64 ((wrap64 (10 * x5_3)) + (((bt x0_10 x31_3) - 48) % 256))) 1099511627776) (x0_10.size : Int) (wrap64 (x31_3 + 1))) else (some (0, 0))) = some (r1, r2) := H
                      have A19 := Aside0.mk A190
                      clear A190
                      by_cases c20 : t146 = true
                      · subst c20
                        have H1 : (spec_CronNumber.l0 k3 x0_10 x4_10 (mn (wrap64 ((wrap64 (10 * x5_3)) + (((bt x0_10 x31_3) - 48) % 256))) 1099511627776) (x0_10.size : Int) (wrap64 (x31_3 + 1))) = some (r1, r2) := by rw [if_pos rfl] at H; exact H
                        clear H
                        have H := H1
                        clear H1
                        obtain ⟨ji22, hji22⟩ : ∃ j_ : Int, (mn (wrap64 ((wrap64 (10 * x5_3)) + (((bt x0_10 x31_3) - 48) % 256))) 1099511627776) = j_ := ⟨_, rfl⟩
                        replace H : (spec_CronNumber.l0 k3 x0_10 x4_10 ji22 (x0_10.size : Int) (wrap64 (x31_3 + 1))) = some (r1, r2) := by first | (rw [hji22] at H; exact H) | (simp only [hji22] at H ⊢; exact H)
                        (try rw [hji22] at A19)
                        have hji22_ : (if 1099511627776 < (wrap64 ((wrap64 (10 * x5_3)) + (((bt x0_10 x31_3) - 48) % 256))) then 1099511627776 else (wrap64 ((wrap64 (10 * x5_3)) + (((bt x0_10 x31_3) - 48) % 256)))) = ji22 := hji22
                        have H' := Aside0.mk H
                        clear H
                        have p18 : 0 ≤ (x31_3 : Int) := of_decide_eq_true (by first | (with_reducible assumption) | assumption)
                        have q18 : x31_3 < (x0_10.size : Int) := of_decide_eq_true (by first | (with_reducible assumption) | assumption)
                        have hx18 := bt_at x0_10 x31_3
                        replace p18 := eq_true p18
                        replace q18 := eq_true q18
                        go_wp2_with (first | ((with_reducible refine gate_callee (f := 92) rfl ?_); refine goesL_ (some 37) rfl rfl Tryz.func92 (by kernel_rfl) rfl #[.int .u8 (bt x0_10 x31_3)] rfl (by (try simp only [List.map_toArray, List.map_cons, List.map_nil]); first | done | rfl | (simp only [List.length_drop, List.length_take]; rfl)) ?_; (with_reducible refine (spec_isDigit.calls (bt x0_10 x31_3) true _ A19.out).mono ?_); rintro e w' ⟨rfl, ⟨nd, rfl⟩⟩; refine ⟨_, rfl, ?_⟩; have p21 : 0 ≤ (x31_3 : Int) := of_decide_eq_true (by first | (with_reducible assumption) | assumption); have q21 : x31_3 < (x0_10.size : Int) := of_decide_eq_true (by first | (with_reducible assumption) | assumption); have hx21 := bt_at x0_10 x31_3; replace p21 := eq_true p21; replace q21 := eq_true q21))
                        go_roundg k3
                        case measure => have := HJ1.out; have := HJ10.out; have := HK3.out; omega
                        case rel => exact ⟨(ji22), (wrap64 (x31_3 + 1)), (by first | rfl | (simp; done) | (simp only [← hji22] <;> (first | rfl | simp)) | (simp [*]; done)), (by first | rfl | (simp; done) | (simp [*]; done)), H', ⟨by have := HJ1.out; have := HJ10.out; have := HK3.out; omega⟩, ⟨by repeat (first | (with_reducible first | exact HB.out | apply below_alloc | apply pw_below_drewN | apply below_drew1) | exact HB.out)⟩⟩
                      · replace c20 := Bool.eq_false_iff.mpr c20
                        subst c20
                        have H1 : (some (0, 0)) = some (r1, r2) := by rw [if_neg (show ¬ (false = true) by decide)] at H; exact H
                        clear H
                        have H := H1
                        clear H1
                        simp only [Option.some.injEq, Prod.mk.injEq] at H
                        obtain ⟨rfl, rfl⟩ := H
                        have p18 : 0 ≤ (x31_3 : Int) := of_decide_eq_true (by first | (with_reducible assumption) | assumption)
                        have q18 : x31_3 < (x0_10.size : Int) := of_decide_eq_true (by first | (with_reducible assumption) | assumption)
                        have hx18 := bt_at x0_10 x31_3
                        replace p18 := eq_true p18
                        replace q18 := eq_true q18
                        go_wp2_with (first | ((with_reducible refine gate_callee (f := 92) rfl ?_); refine goesL_ (some 37) rfl rfl Tryz.func92 (by kernel_rfl) rfl #[.int .u8 (bt x0_10 x31_3)] rfl (by (try simp only [List.map_toArray, List.map_cons, List.map_nil]); first | done | rfl | (simp only [List.length_drop, List.length_take]; rfl)) ?_; (with_reducible refine (spec_isDigit.calls (bt x0_10 x31_3) false _ A19.out).mono ?_); rintro e w' ⟨rfl, ⟨nd, rfl⟩⟩; refine ⟨_, rfl, ?_⟩))
                        go_ret2
                        exact ⟨by first | rfl | (simp [errW_none, errW_some] <;> rfl) | (simp [*, errW_none, errW_some] <;> rfl), by repeat (first | (with_reducible first | exact HB.out | apply below_alloc | apply pw_below_drewN | apply below_drew1) | exact HB.out)⟩
                    · rw [if_neg c17] at H
                      exact absurd H (by simp)
                  · rw [if_neg c16] at H
                    exact absurd H (by simp)
                · rw [if_neg c15] at H
                  have c15b0 : decide (x31_3 < (x0_10.size : Int)) = false := decide_eq_false c15
                  clear c15
                  simp only [Option.some.injEq, Prod.mk.injEq] at H
                  obtain ⟨rfl, rfl⟩ := H
                  go_wp2
                  go_ret2
                  exact ⟨by first | rfl | (simp [errW_none, errW_some] <;> rfl) | (simp [*, errW_none, errW_some] <;> rfl), by repeat (first | (with_reducible first | exact HB.out | apply below_alloc | apply pw_below_drewN | apply below_drew1) | exact HB.out)⟩
end Go.Proofs.YtikgnpachlgakaaGreatDoor.Pr

namespace Go.Proofs.YtikgnpachlgakaaGreatDoor.Pr
open Go.RowKit Go.Proofs.YtikgnpachlgakaaGreatDoorW.PrintWords Go.Proofs.YtikgnpachlgakaaGreatDoorW.PrintLast Go.Proofs.YtikgnpachlgakaaGreatDoorW.PrintMore
attribute [local go_sem] max2_int min2_int max_two min_two max_three min_three max_four min_four   -- for this text's walks alone
set_option linter.unusedVariables false
set_option linter.unusedSimpArgs false
/-! ### spec_CronStep: function 95 -/
def spec_CronStep.j0 : Nat → Int → Int → Bool → Option (Int × Int)
  | 0, _, _, _ => none
  | k + 1, x4, x5, x16 => if x16 = true then (some (0, 0)) else (if x4 = 1099511627776 then (some (0, 2)) else (some (x4, x5)))
def spec_CronStep.f (k : Nat) (a0 : ByteArray) : Option (Int × Int) := (spec_CronNumber.f k a0).bind fun bt174 => (if bt174.2 = 0 then (spec_CronStep.j0 k bt174.1 bt174.2 true) else (spec_CronStep.j0 k bt174.1 bt174.2 (bt174.1 == 0)))
theorem spec_CronStep.mono_l : ∀ k, (∀ y0 y1 y2, LeO (spec_CronStep.j0 k y0 y1 y2) (spec_CronStep.j0 (k + 1) y0 y1 y2))
  | 0 => fun _ _ _ r h => by simp [spec_CronStep.j0] at h
  | k + 1 => by
    have ih0 := spec_CronStep.mono_l k
    · intro y0 y1 y2
      unfold spec_CronStep.j0
      repeat' first
      | (with_reducible exact ih0 _ _ _)
      | (with_reducible exact spec_CronNumber.mono _ _)
      | (with_reducible exact LeO.refl _)
      | (with_reducible exact LeO.none _)
      | (with_reducible refine LeO.ite ?_ ?_)
      | (with_reducible refine LeO.bind ?_ (fun _ => ?_))
      | exact ih0 _ _ _
      | exact spec_CronNumber.mono _ _
      | exact LeO.none _
      | refine LeO.ite ?_ ?_
      | refine LeO.bind ?_ (fun _ => ?_)
theorem spec_CronStep.mono : ∀ a0 k, LeO (spec_CronStep.f k a0) (spec_CronStep.f (k + 1) a0) := by
  intro a0 k
  have ih0 := spec_CronStep.mono_l k
  unfold spec_CronStep.f
  repeat' first
      | (with_reducible exact ih0 _ _ _)
      | (with_reducible exact spec_CronNumber.mono _ _)
      | (with_reducible exact LeO.refl _)
      | (with_reducible exact LeO.none _)
      | (with_reducible refine LeO.ite ?_ ?_)
      | (with_reducible refine LeO.bind ?_ (fun _ => ?_))
      | exact ih0 _ _ _
      | exact spec_CronNumber.mono _ _
      | exact LeO.none _
      | refine LeO.ite ?_ ?_
      | refine LeO.bind ?_ (fun _ => ?_)
set_option maxHeartbeats 8000000 in
set_option maxRecDepth 100000 in
theorem spec_CronStep.calls (k : Nat) (a0 : ByteArray) (r1 : Int) (r2 : Int) (w : World) (h : spec_CronStep.f k a0 = some (r1, r2)) :
    Calls Tryz.prog 95 #[.string a0] w fun e w' => e = .returned (.tuple #[.int .i64 r1, .int .i64 r2]) ∧ Below w.heap.size w w' := by
  have HB := Aside0.mk (Below.refl w.heap.size w)
  have H : ((spec_CronNumber.f k a0).bind fun bt174 => (if bt174.2 = 0 then (spec_CronStep.j0 k bt174.1 bt174.2 true) else (spec_CronStep.j0 k bt174.1 bt174.2 (bt174.1 == 0)))) = some (r1, r2) := h
  clear h
  replace H := Option.bind_eq_some_iff.mp H
  obtain ⟨⟨t174, t175⟩, A20, H⟩ := H
  replace H : (if t175 = 0 then (spec_CronStep.j0 k t174 t175 true) else (spec_CronStep.j0 k t174 t175 (t174 == 0))) = some (r1, r2) := H
  have A2 := Aside0.mk A20
  clear A20
  have HC3 := Aside0.mk H
  clear H
  go_enter Tryz.func95, Tryz.ntmps95
  go_upto_region 2 with (first | ((with_reducible refine gate_callee (f := 102) rfl ?_); refine goesL_ (some 8) rfl rfl Tryz.func102 (by kernel_rfl) rfl #[.string a0] rfl (by (try simp only [List.map_toArray, List.map_cons, List.map_nil]); first | done | rfl | (simp only [List.length_drop, List.length_take]; rfl)) ?_; (with_reducible refine (spec_CronNumber.calls k a0 t174 t175 _ A2.out).mono ?_); rintro e w4 ⟨rfl, hb⟩; refine ⟨_, rfl, ?_⟩; have n0_ := Aside0.mk (below_step (by repeat (first | (with_reducible first | exact HB.out | apply below_alloc | apply pw_below_drewN | apply below_drew1) | exact HB.out)) hb); clear HB; have HB := n0_; clear n0_; (try clear hb); (try clear hb2); (try clear hk); (try clear hi)))
  (try simp only [Act.put, List.setIfInBounds_toArray, List.set_cons_zero, List.set_cons_succ])
  go_cut [16] (fun v16 wc => ∃ (kq : Nat) (x16_2 : Bool), v16 = .bool x16_2 ∧ Aside0 (spec_CronStep.j0 kq t174 t175 x16_2 = some (r1, r2)) ∧ Aside0 (kq ≤ k) ∧ Aside0 (Below w.heap.size w wc))
  case first =>
    have H := HC3.out
    clear HC3
    by_cases c5 : t175 = 0
    · rw [if_pos c5] at H
      have c5b0 : (t175 == 0) = true := beq_iff_eq.mpr c5
      have c5b1 : (t175 != 0) = false := bne_eq_false_iff_eq.mpr c5
      clear c5
      (first | rw [c5b0] | (simp only [i64_w, i32_w]; rw [c5b0]) | skip)
      have H' := Aside0.mk H
      clear H
      go_wp2
      go_meet
      case rel => exact ⟨_, (true), (by first | rfl | (simp; done) | (simp [*]; done)), H', ⟨by first | omega | exact Nat.le_refl _⟩, ⟨by repeat (first | (with_reducible first | exact HB.out | apply below_alloc | apply pw_below_drewN | apply below_drew1) | exact HB.out)⟩⟩
    · rw [if_neg c5] at H
      have c5b0 : (t175 == 0) = false := beq_eq_false_iff_ne.mpr c5
      have c5b1 : (t175 != 0) = true := bne_iff_ne.mpr c5
      (first | rw [c5b0] | (simp only [i64_w, i32_w]; rw [c5b0]) | skip)
      have H' := Aside0.mk H
      clear H
      go_wp2
      go_meet
      case rel => exact ⟨_, ((t174 == 0)), (by first | rfl | (simp; done) | (simp [*]; done)), H', ⟨by first | omega | exact Nat.le_refl _⟩, ⟨by repeat (first | (with_reducible first | exact HB.out | apply below_alloc | apply pw_below_drewN | apply below_drew1) | exact HB.out)⟩⟩
  case rest =>
    clear HC3
    try clear c1
    try clear p2
    try clear c5
    try clear c5b0
    try clear c5b1
    obtain ⟨kq, x16_2, rfl, HA, HJ2, HB⟩ := hcut
    cases kq with
    | zero => exact absurd HA.out (by simp [spec_CronStep.j0])
    | succ kj2 =>
      have H := HA.out
      clear HA
      simp only [spec_CronStep.j0] at H
      by_cases c6 : x16_2 = true
      · subst c6
        have H1 : (some (0, 0)) = some (r1, r2) := by rw [if_pos rfl] at H; exact H
        clear H
        have H := H1
        clear H1
        simp only [Option.some.injEq, Prod.mk.injEq] at H
        obtain ⟨rfl, rfl⟩ := H
        go_wp2
        go_ret2
        exact ⟨by first | rfl | (simp [errW_none, errW_some] <;> rfl) | (simp [*, errW_none, errW_some] <;> rfl), by repeat (first | (with_reducible first | exact HB.out | apply below_alloc | apply pw_below_drewN | apply below_drew1) | exact HB.out)⟩
      · replace c6 := Bool.eq_false_iff.mpr c6
        subst c6
        have H1 : (if t174 = 1099511627776 then (some (0, 2)) else (some (t174, t175))) = some (r1, r2) := by rw [if_neg (show ¬ (false = true) by decide)] at H; exact H
        clear H
        have H := H1
        clear H1
        by_cases c7 : t174 = 1099511627776
        · rw [if_pos c7] at H
          have c7b0 : (t174 == 1099511627776) = true := beq_iff_eq.mpr c7
          have c7b1 : (t174 != 1099511627776) = false := bne_eq_false_iff_eq.mpr c7
          clear c7
          simp only [Option.some.injEq, Prod.mk.injEq] at H
          obtain ⟨rfl, rfl⟩ := H
          go_wp2
          go_ret2
          exact ⟨by first | rfl | (simp [errW_none, errW_some] <;> rfl) | (simp [*, errW_none, errW_some] <;> rfl), by repeat (first | (with_reducible first | exact HB.out | apply below_alloc | apply pw_below_drewN | apply below_drew1) | exact HB.out)⟩
        · rw [if_neg c7] at H
          have c7b0 : (t174 == 1099511627776) = false := beq_eq_false_iff_ne.mpr c7
          have c7b1 : (t174 != 1099511627776) = true := bne_iff_ne.mpr c7
          simp only [Option.some.injEq, Prod.mk.injEq] at H
          obtain ⟨rfl, rfl⟩ := H
          go_wp2
          go_ret2
          exact ⟨by first | rfl | (simp [errW_none, errW_some] <;> rfl) | (simp [*, errW_none, errW_some] <;> rfl), by repeat (first | (with_reducible first | exact HB.out | apply below_alloc | apply pw_below_drewN | apply below_drew1) | exact HB.out)⟩
end Go.Proofs.YtikgnpachlgakaaGreatDoor.Pr

namespace Go.Proofs.YtikgnpachlgakaaGreatDoor.Pr
open Go.RowKit Go.Proofs.YtikgnpachlgakaaGreatDoorW.PrintWords Go.Proofs.YtikgnpachlgakaaGreatDoorW.PrintLast Go.Proofs.YtikgnpachlgakaaGreatDoorW.PrintMore
attribute [local go_sem] max2_int min2_int max_two min_two max_three min_three max_four min_four   -- for this text's walks alone
set_option linter.unusedVariables false
set_option linter.unusedSimpArgs false
/-! ### spec_worse: function 46 -/
def spec_worse.f (a0 : Int) (a1 : Int) : Option (Int) := if a0 = 0 then (some 0) else (if a1 = 0 then (some 0) else (some (mx a0 a1)))
set_option maxHeartbeats 8000000 in
set_option maxRecDepth 100000 in
theorem spec_worse.calls (a0 : Int) (a1 : Int) (r : Int) (w : World) (h : spec_worse.f a0 a1 = some r) :
    Calls Tryz.prog 46 #[.int .i64 a0, .int .i64 a1] w fun e w' => e = .returned (.int .i64 r) ∧ Below w.heap.size w w' := by
  have HB := Aside0.mk (Below.refl w.heap.size w)
  have H : (if a0 = 0 then (some 0) else (if a1 = 0 then (some 0) else (some (mx a0 a1)))) = some r := h
  clear h
  by_cases c3 : a0 = 0
  · rw [if_pos c3] at H
    have c3b0 : (a0 == 0) = true := beq_iff_eq.mpr c3
    have c3b1 : (a0 != 0) = false := bne_eq_false_iff_eq.mpr c3
    clear c3
    obtain rfl := Option.some.inj H
    go_enter Tryz.func46, Tryz.ntmps46
    go_wp2
    go_ret
    exact ⟨by first | rfl | (simp [errW_none, errW_some] <;> rfl) | (simp [*, errW_none, errW_some] <;> rfl), by repeat (first | (with_reducible first | exact HB.out | apply below_alloc | apply pw_below_drewN | apply below_drew1) | exact HB.out)⟩
  · rw [if_neg c3] at H
    have c3b0 : (a0 == 0) = false := beq_eq_false_iff_ne.mpr c3
    have c3b1 : (a0 != 0) = true := bne_iff_ne.mpr c3
    by_cases c4 : a1 = 0
    · rw [if_pos c4] at H
      have c4b0 : (a1 == 0) = true := beq_iff_eq.mpr c4
      have c4b1 : (a1 != 0) = false := bne_eq_false_iff_eq.mpr c4
      clear c4
      obtain rfl := Option.some.inj H
      go_enter Tryz.func46, Tryz.ntmps46
      go_wp2
      go_ret
      exact ⟨by first | rfl | (simp [errW_none, errW_some] <;> rfl) | (simp [*, errW_none, errW_some] <;> rfl), by repeat (first | (with_reducible first | exact HB.out | apply below_alloc | apply pw_below_drewN | apply below_drew1) | exact HB.out)⟩
    · rw [if_neg c4] at H
      have c4b0 : (a1 == 0) = false := beq_eq_false_iff_ne.mpr c4
      have c4b1 : (a1 != 0) = true := bne_iff_ne.mpr c4
      obtain ⟨ji5, hji5⟩ : ∃ j_ : Int, (mx a0 a1) = j_ := ⟨_, rfl⟩
      replace H : (some ji5) = some r := by first | (rw [hji5] at H; exact H) | (simp only [hji5] at H ⊢; exact H)
      have hji5_ : (if a0 < a1 then a1 else a0) = ji5 := hji5
      obtain rfl := Option.some.inj H
      go_enter Tryz.func46, Tryz.ntmps46
      go_wp2
      go_ret
      exact ⟨by first | rfl | (simp [errW_none, errW_some] <;> rfl) | (simp only [← hji5]; first | rfl | (simp [errW_none, errW_some] <;> rfl)) | (simp [*, errW_none, errW_some] <;> rfl), by repeat (first | (with_reducible first | exact HB.out | apply below_alloc | apply pw_below_drewN | apply below_drew1) | exact HB.out)⟩
end Go.Proofs.YtikgnpachlgakaaGreatDoor.Pr

namespace Go.Proofs.YtikgnpachlgakaaGreatDoor.Pr
open Go.RowKit Go.Proofs.YtikgnpachlgakaaGreatDoorW.PrintWords Go.Proofs.YtikgnpachlgakaaGreatDoorW.PrintLast Go.Proofs.YtikgnpachlgakaaGreatDoorW.PrintMore
attribute [local go_sem] max2_int min2_int max_two min_two max_three min_three max_four min_four   -- for this text's walks alone
set_option linter.unusedVariables false
set_option linter.unusedSimpArgs false
/-! ### spec_cronForeign: function 45 -/
def spec_cronForeign.l0 : Nat → ByteArray → Int → Int → Option (Bool)
  | 0, _, _, _ => none
  | k + 1, x0, x5, x6 => if x6 < x5 then (if 0 ≤ x6 then (if x6 < (x0.size : Int) then (if (bt x0 x6) ≥ 128 then (some true) else (spec_cronForeign.l0 k x0 x5 (wrap64 (x6 + 1)))) else (none)) else (none)) else (some false)
def spec_cronForeign.f (k : Nat) (a0 : ByteArray) : Option (Bool) := spec_cronForeign.l0 k a0 (a0.size : Int) 0
theorem spec_cronForeign.mono_l : ∀ k, (∀ y0 y1 y2, LeO (spec_cronForeign.l0 k y0 y1 y2) (spec_cronForeign.l0 (k + 1) y0 y1 y2))
  | 0 => fun _ _ _ r h => by simp [spec_cronForeign.l0] at h
  | k + 1 => by
    have ih0 := spec_cronForeign.mono_l k
    · intro y0 y1 y2
      unfold spec_cronForeign.l0
      repeat' first
      | (with_reducible exact ih0 _ _ _)
      | (with_reducible exact LeO.refl _)
      | (with_reducible exact LeO.none _)
      | (with_reducible refine LeO.ite ?_ ?_)
      | (with_reducible refine LeO.bind ?_ (fun _ => ?_))
      | exact ih0 _ _ _
      | exact LeO.none _
      | refine LeO.ite ?_ ?_
      | refine LeO.bind ?_ (fun _ => ?_)
theorem spec_cronForeign.mono : ∀ a0 k, LeO (spec_cronForeign.f k a0) (spec_cronForeign.f (k + 1) a0) := by
  intro a0 k
  have ih0 := spec_cronForeign.mono_l k
  unfold spec_cronForeign.f
  repeat' first
      | (with_reducible exact ih0 _ _ _)
      | (with_reducible exact LeO.refl _)
      | (with_reducible exact LeO.none _)
      | (with_reducible refine LeO.ite ?_ ?_)
      | (with_reducible refine LeO.bind ?_ (fun _ => ?_))
      | exact ih0 _ _ _
      | exact LeO.none _
      | refine LeO.ite ?_ ?_
      | refine LeO.bind ?_ (fun _ => ?_)
set_option maxHeartbeats 8000000 in
set_option maxRecDepth 100000 in
theorem spec_cronForeign.calls (k : Nat) (a0 : ByteArray) (r : Bool) (w : World) (h : spec_cronForeign.f k a0 = some r) :
    Calls Tryz.prog 45 #[.string a0] w fun e w' => e = .returned (.bool r) ∧ Drawn0 w w' := by
  have H : (spec_cronForeign.l0 k a0 (a0.size : Int) 0) = some r := h
  clear h
  have H' := Aside0.mk H
  clear H
  go_enter Tryz.func45, Tryz.ntmps45
  go_wp2
  go_loopg [6] k (fun kq v6 w' => ∃ (x6_1 : Int), v6 = .int .i64 x6_1 ∧ Aside0 (spec_cronForeign.l0 kq a0 (a0.size : Int) x6_1 = some r) ∧ Aside0 (kq ≤ k) ∧ Drawn0 w w')
  case atStart => exact ⟨(0), (by first | rfl | (simp; done) | (simp [*]; done)), H', ⟨Nat.le_refl _⟩, by repeat (first | exact Drawn0.refl _ | apply Drawn0.step)⟩
  case round =>
    clear H'
    obtain ⟨x6_1, rfl, HA, HK1, ⟨m1, rfl⟩⟩ := hrel
    cases gk with
    | zero => exact absurd HA.out (by simp [spec_cronForeign.l0])
    | succ k1 =>
      have H := HA.out
      clear HA
      simp only [spec_cronForeign.l0] at H
      by_cases c2 : x6_1 < (a0.size : Int)
      · rw [if_pos c2] at H
        have c2b0 : decide (x6_1 < (a0.size : Int)) = true := decide_eq_true c2
        clear c2
        by_cases c3 : 0 ≤ x6_1
        · rw [if_pos c3] at H
          have c3b0 : decide (0 ≤ x6_1) = true := decide_eq_true c3
          clear c3
          by_cases c4 : x6_1 < (a0.size : Int)
          · rw [if_pos c4] at H
            have c4b0 : decide (x6_1 < (a0.size : Int)) = true := decide_eq_true c4
            clear c4
            by_cases c6 : (bt a0 x6_1) ≥ 128
            · rw [if_pos c6] at H
              have c6b0 : decide (128 ≤ (bt a0 x6_1)) = true := decide_eq_true c6
              clear c6
              obtain rfl := Option.some.inj H
              have p5 : 0 ≤ (x6_1 : Int) := of_decide_eq_true (by first | (with_reducible assumption) | assumption)
              have q5 : x6_1 < (a0.size : Int) := of_decide_eq_true (by first | (with_reducible assumption) | assumption)
              have hx5 := bt_at a0 x6_1
              replace p5 := eq_true p5
              replace q5 := eq_true q5
              go_wp2
              go_ret
              exact ⟨by first | rfl | (simp; done) | (simp [*]; done), by repeat (first | exact Drawn0.refl _ | apply Drawn0.step)⟩
            · rw [if_neg c6] at H
              have c6b0 : decide (128 ≤ (bt a0 x6_1)) = false := decide_eq_false c6
              clear c6
              have H' := Aside0.mk H
              clear H
              have p5 : 0 ≤ (x6_1 : Int) := of_decide_eq_true (by first | (with_reducible assumption) | assumption)
              have q5 : x6_1 < (a0.size : Int) := of_decide_eq_true (by first | (with_reducible assumption) | assumption)
              have hx5 := bt_at a0 x6_1
              replace p5 := eq_true p5
              replace q5 := eq_true q5
              go_wp2
              go_roundg k1
              case measure => have := HK1.out; omega
              case rel => exact ⟨(wrap64 (x6_1 + 1)), (by first | rfl | (simp; done) | (simp [*]; done)), H', ⟨by have := HK1.out; omega⟩, by repeat (first | exact Drawn0.refl _ | apply Drawn0.step)⟩
          · rw [if_neg c4] at H
            exact absurd H (by simp)
        · rw [if_neg c3] at H
          exact absurd H (by simp)
      · rw [if_neg c2] at H
        have c2b0 : decide (x6_1 < (a0.size : Int)) = false := decide_eq_false c2
        clear c2
        obtain rfl := Option.some.inj H
        go_wp2
        go_ret
        exact ⟨by first | rfl | (simp; done) | (simp [*]; done), by repeat (first | exact Drawn0.refl _ | apply Drawn0.step)⟩
end Go.Proofs.YtikgnpachlgakaaGreatDoor.Pr

namespace Go.Proofs.YtikgnpachlgakaaGreatDoor.Pr
open Go.RowKit Go.Proofs.YtikgnpachlgakaaGreatDoorW.PrintWords Go.Proofs.YtikgnpachlgakaaGreatDoorW.PrintLast Go.Proofs.YtikgnpachlgakaaGreatDoorW.PrintMore
attribute [local go_sem] max2_int min2_int max_two min_two max_three min_three max_four min_four   -- for this text's walks alone
set_option linter.unusedVariables false
set_option linter.unusedSimpArgs false
/-! ### spec_CronLow: function 88 -/
def spec_CronLow.f (a0 : Int) : Option (Int) := if a0 = 3 then (some 1) else (if a0 = 4 then (some 1) else (some 0))
set_option maxHeartbeats 8000000 in
set_option maxRecDepth 100000 in
theorem spec_CronLow.calls (a0 : Int) (r : Int) (w : World) (h : spec_CronLow.f a0 = some r) :
    Calls Tryz.prog 88 #[.int .i64 a0] w fun e w' => e = .returned (.int .i64 r) ∧ Drawn0 w w' := by
  have H : (if a0 = 3 then (some 1) else (if a0 = 4 then (some 1) else (some 0))) = some r := h
  clear h
  by_cases c2 : a0 = 3
  · rw [if_pos c2] at H
    have c2b0 : (a0 == 3) = true := beq_iff_eq.mpr c2
    have c2b1 : (a0 != 3) = false := bne_eq_false_iff_eq.mpr c2
    clear c2
    obtain rfl := Option.some.inj H
    go_enter Tryz.func88, Tryz.ntmps88
    go_wp2
    go_ret
    exact ⟨by first | rfl | (simp; done) | (simp [*]; done), by repeat (first | exact Drawn0.refl _ | apply Drawn0.step)⟩
  · rw [if_neg c2] at H
    have c2b0 : (a0 == 3) = false := beq_eq_false_iff_ne.mpr c2
    have c2b1 : (a0 != 3) = true := bne_iff_ne.mpr c2
    by_cases c3 : a0 = 4
    · rw [if_pos c3] at H
      have c3b0 : (a0 == 4) = true := beq_iff_eq.mpr c3
      have c3b1 : (a0 != 4) = false := bne_eq_false_iff_eq.mpr c3
      clear c3
      obtain rfl := Option.some.inj H
      go_enter Tryz.func88, Tryz.ntmps88
      go_wp2
      go_ret
      exact ⟨by first | rfl | (simp; done) | (simp [*]; done), by repeat (first | exact Drawn0.refl _ | apply Drawn0.step)⟩
    · rw [if_neg c3] at H
      have c3b0 : (a0 == 4) = false := beq_eq_false_iff_ne.mpr c3
      have c3b1 : (a0 != 4) = true := bne_iff_ne.mpr c3
      obtain rfl := Option.some.inj H
      go_enter Tryz.func88, Tryz.ntmps88
      go_wp2
      go_ret
      exact ⟨by first | rfl | (simp; done) | (simp [*]; done), by repeat (first | exact Drawn0.refl _ | apply Drawn0.step)⟩
end Go.Proofs.YtikgnpachlgakaaGreatDoor.Pr

namespace Go.Proofs.YtikgnpachlgakaaGreatDoor.Pr
open Go.RowKit Go.Proofs.YtikgnpachlgakaaGreatDoorW.PrintWords Go.Proofs.YtikgnpachlgakaaGreatDoorW.PrintLast Go.Proofs.YtikgnpachlgakaaGreatDoorW.PrintMore
attribute [local go_sem] max2_int min2_int max_two min_two max_three min_three max_four min_four   -- for this text's walks alone
set_option linter.unusedVariables false
set_option linter.unusedSimpArgs false
/-! ### spec_CronHigh: function 89 -/
def spec_CronHigh.f (a0 : Int) : Option (Int) := if a0 = 2 then (some 23) else (if a0 = 3 then (some 31) else (if a0 = 4 then (some 12) else (if a0 = 5 then (some 6) else (some 59))))
set_option maxHeartbeats 8000000 in
set_option maxRecDepth 100000 in
theorem spec_CronHigh.calls (a0 : Int) (r : Int) (w : World) (h : spec_CronHigh.f a0 = some r) :
    Calls Tryz.prog 89 #[.int .i64 a0] w fun e w' => e = .returned (.int .i64 r) ∧ Drawn0 w w' := by
  have H : (if a0 = 2 then (some 23) else (if a0 = 3 then (some 31) else (if a0 = 4 then (some 12) else (if a0 = 5 then (some 6) else (some 59))))) = some r := h
  clear h
  by_cases c2 : a0 = 2
  · rw [if_pos c2] at H
    have c2b0 : (a0 == 2) = true := beq_iff_eq.mpr c2
    have c2b1 : (a0 != 2) = false := bne_eq_false_iff_eq.mpr c2
    clear c2
    obtain rfl := Option.some.inj H
    go_enter Tryz.func89, Tryz.ntmps89
    go_wp2
    go_ret
    exact ⟨by first | rfl | (simp; done) | (simp [*]; done), by repeat (first | exact Drawn0.refl _ | apply Drawn0.step)⟩
  · rw [if_neg c2] at H
    have c2b0 : (a0 == 2) = false := beq_eq_false_iff_ne.mpr c2
    have c2b1 : (a0 != 2) = true := bne_iff_ne.mpr c2
    by_cases c3 : a0 = 3
    · rw [if_pos c3] at H
      have c3b0 : (a0 == 3) = true := beq_iff_eq.mpr c3
      have c3b1 : (a0 != 3) = false := bne_eq_false_iff_eq.mpr c3
      clear c3
      obtain rfl := Option.some.inj H
      go_enter Tryz.func89, Tryz.ntmps89
      go_wp2
      go_ret
      exact ⟨by first | rfl | (simp; done) | (simp [*]; done), by repeat (first | exact Drawn0.refl _ | apply Drawn0.step)⟩
    · rw [if_neg c3] at H
      have c3b0 : (a0 == 3) = false := beq_eq_false_iff_ne.mpr c3
      have c3b1 : (a0 != 3) = true := bne_iff_ne.mpr c3
      by_cases c4 : a0 = 4
      · rw [if_pos c4] at H
        have c4b0 : (a0 == 4) = true := beq_iff_eq.mpr c4
        have c4b1 : (a0 != 4) = false := bne_eq_false_iff_eq.mpr c4
        clear c4
        obtain rfl := Option.some.inj H
        go_enter Tryz.func89, Tryz.ntmps89
        go_wp2
        go_ret
        exact ⟨by first | rfl | (simp; done) | (simp [*]; done), by repeat (first | exact Drawn0.refl _ | apply Drawn0.step)⟩
      · rw [if_neg c4] at H
        have c4b0 : (a0 == 4) = false := beq_eq_false_iff_ne.mpr c4
        have c4b1 : (a0 != 4) = true := bne_iff_ne.mpr c4
        by_cases c5 : a0 = 5
        · rw [if_pos c5] at H
          have c5b0 : (a0 == 5) = true := beq_iff_eq.mpr c5
          have c5b1 : (a0 != 5) = false := bne_eq_false_iff_eq.mpr c5
          clear c5
          obtain rfl := Option.some.inj H
          go_enter Tryz.func89, Tryz.ntmps89
          go_wp2
          go_ret
          exact ⟨by first | rfl | (simp; done) | (simp [*]; done), by repeat (first | exact Drawn0.refl _ | apply Drawn0.step)⟩
        · rw [if_neg c5] at H
          have c5b0 : (a0 == 5) = false := beq_eq_false_iff_ne.mpr c5
          have c5b1 : (a0 != 5) = true := bne_iff_ne.mpr c5
          obtain rfl := Option.some.inj H
          go_enter Tryz.func89, Tryz.ntmps89
          go_wp2
          go_ret
          exact ⟨by first | rfl | (simp; done) | (simp [*]; done), by repeat (first | exact Drawn0.refl _ | apply Drawn0.step)⟩
end Go.Proofs.YtikgnpachlgakaaGreatDoor.Pr

namespace Go.Proofs.YtikgnpachlgakaaGreatDoor.Pr
open Go.RowKit Go.Proofs.YtikgnpachlgakaaGreatDoorW.PrintWords Go.Proofs.YtikgnpachlgakaaGreatDoorW.PrintLast Go.Proofs.YtikgnpachlgakaaGreatDoorW.PrintMore
attribute [local go_sem] max2_int min2_int max_two min_two max_three min_three max_four min_four   -- for this text's walks alone
set_option linter.unusedVariables false
set_option linter.unusedSimpArgs false
/-! ### spec_cronUpper: function 112 -/
def spec_cronUpper.f (a0 : Int) : Option (Int) := if 97 ≤ a0 then (if a0 ≤ 122 then (some ((((a0 - 97) % 256) + 65) % 256)) else (some a0)) else (some a0)
set_option maxHeartbeats 8000000 in
set_option maxRecDepth 100000 in
theorem spec_cronUpper.calls (a0 : Int) (r : Int) (w : World) (h : spec_cronUpper.f a0 = some r) :
    Calls Tryz.prog 112 #[.int .u8 a0] w fun e w' => e = .returned (.int .u8 r) ∧ Drawn0 w w' := by
  have H : (if 97 ≤ a0 then (if a0 ≤ 122 then (some ((((a0 - 97) % 256) + 65) % 256)) else (some a0)) else (some a0)) = some r := h
  clear h
  by_cases c2 : 97 ≤ a0
  · rw [if_pos c2] at H
    have c2b0 : decide (97 ≤ a0) = true := decide_eq_true c2
    clear c2
    by_cases c3 : a0 ≤ 122
    · rw [if_pos c3] at H
      have c3b0 : decide (a0 ≤ 122) = true := decide_eq_true c3
      clear c3
      obtain rfl := Option.some.inj H
      go_enter Tryz.func112, Tryz.ntmps112
      go_wp2
      go_ret
      exact ⟨by first | rfl | (simp; done) | (simp [*]; done), by repeat (first | exact Drawn0.refl _ | apply Drawn0.step)⟩
    · rw [if_neg c3] at H
      have c3b0 : decide (a0 ≤ 122) = false := decide_eq_false c3
      clear c3
      obtain rfl := Option.some.inj H
      go_enter Tryz.func112, Tryz.ntmps112
      go_wp2
      go_ret
      exact ⟨by first | rfl | (simp; done) | (simp [*]; done), by repeat (first | exact Drawn0.refl _ | apply Drawn0.step)⟩
  · rw [if_neg c2] at H
    have c2b0 : decide (97 ≤ a0) = false := decide_eq_false c2
    clear c2
    obtain rfl := Option.some.inj H
    go_enter Tryz.func112, Tryz.ntmps112
    go_wp2
    go_ret
    exact ⟨by first | rfl | (simp; done) | (simp [*]; done), by repeat (first | exact Drawn0.refl _ | apply Drawn0.step)⟩
end Go.Proofs.YtikgnpachlgakaaGreatDoor.Pr

namespace Go.Proofs.YtikgnpachlgakaaGreatDoor.Pr
open Go.RowKit Go.Proofs.YtikgnpachlgakaaGreatDoorW.PrintWords Go.Proofs.YtikgnpachlgakaaGreatDoorW.PrintLast Go.Proofs.YtikgnpachlgakaaGreatDoorW.PrintMore
attribute [local go_sem] max2_int min2_int max_two min_two max_three min_three max_four min_four   -- for this text's walks alone
set_option linter.unusedVariables false
set_option linter.unusedSimpArgs false
/-! ### spec_cronSame: function 106 -/
def spec_cronSame.l0 : Nat → ByteArray → ByteArray → Int → Int → Option (Bool)
  | 0, _, _, _, _ => none
  | k + 1, x0, x1, x12, x13 => if x13 < x12 then (if 0 ≤ x13 then (if x13 < (x0.size : Int) then ((spec_cronUpper.f (bt x0 x13)).bind fun t147 => (if x13 < (x1.size : Int) then ((spec_cronUpper.f (bt x1 x13)).bind fun t148 => (if t147 = t148 then (spec_cronSame.l0 k x0 x1 x12 (wrap64 (x13 + 1))) else (some false))) else (none))) else (none)) else (none)) else (some true)
def spec_cronSame.f (k : Nat) (a0 : ByteArray) (a1 : ByteArray) : Option (Bool) := if (a0.size : Int) = (a1.size : Int) then (spec_cronSame.l0 k a0 a1 (a0.size : Int) 0) else (some false)
theorem spec_cronSame.mono_l : ∀ k, (∀ y0 y1 y2 y3, LeO (spec_cronSame.l0 k y0 y1 y2 y3) (spec_cronSame.l0 (k + 1) y0 y1 y2 y3))
  | 0 => fun _ _ _ _ r h => by simp [spec_cronSame.l0] at h
  | k + 1 => by
    have ih0 := spec_cronSame.mono_l k
    · intro y0 y1 y2 y3
      unfold spec_cronSame.l0
      repeat' first
      | (with_reducible exact ih0 _ _ _ _)
      | (with_reducible exact LeO.refl _)
      | (with_reducible exact LeO.none _)
      | (with_reducible refine LeO.ite ?_ ?_)
      | (with_reducible refine LeO.bind ?_ (fun _ => ?_))
      | exact ih0 _ _ _ _
      | exact LeO.none _
      | refine LeO.ite ?_ ?_
      | refine LeO.bind ?_ (fun _ => ?_)
theorem spec_cronSame.mono : ∀ a0 a1 k, LeO (spec_cronSame.f k a0 a1) (spec_cronSame.f (k + 1) a0 a1) := by
  intro a0 a1 k
  have ih0 := spec_cronSame.mono_l k
  unfold spec_cronSame.f
  repeat' first
      | (with_reducible exact ih0 _ _ _ _)
      | (with_reducible exact LeO.refl _)
      | (with_reducible exact LeO.none _)
      | (with_reducible refine LeO.ite ?_ ?_)
      | (with_reducible refine LeO.bind ?_ (fun _ => ?_))
      | exact ih0 _ _ _ _
      | exact LeO.none _
      | refine LeO.ite ?_ ?_
      | refine LeO.bind ?_ (fun _ => ?_)
set_option maxHeartbeats 8000000 in
set_option maxRecDepth 100000 in
theorem spec_cronSame.calls (k : Nat) (a0 : ByteArray) (a1 : ByteArray) (r : Bool) (w : World) (h : spec_cronSame.f k a0 a1 = some r) :
    Calls Tryz.prog 106 #[.string a0, .string a1] w fun e w' => e = .returned (.bool r) ∧ Drawn0 w w' := by
  have H : (if (a0.size : Int) = (a1.size : Int) then (spec_cronSame.l0 k a0 a1 (a0.size : Int) 0) else (some false)) = some r := h
  clear h
  by_cases c3 : (a0.size : Int) = (a1.size : Int)
  · rw [if_pos c3] at H
    have c3b0 : ((a0.size : Int) == (a1.size : Int)) = true := beq_iff_eq.mpr c3
    have c3b1 : ((a0.size : Int) != (a1.size : Int)) = false := bne_eq_false_iff_eq.mpr c3
    have c3b2 : (a0.size == a1.size) = true := by first | simpa using c3 | (simp at c3 ⊢; omega)
    clear c3
    have H' := Aside0.mk H
    clear H
    go_enter Tryz.func106, Tryz.ntmps106
    go_wp2
    repeat (go_quiet (fail); try go_wp2)
    go_loopg [13] k (fun kq v13 w' => ∃ (x13_1 : Int), v13 = .int .i64 x13_1 ∧ Aside0 (spec_cronSame.l0 kq a0 a1 (a0.size : Int) x13_1 = some r) ∧ Aside0 (kq ≤ k) ∧ Drawn0 w w')
    case atStart => exact ⟨(0), (by first | rfl | (simp; done) | (simp [*]; done)), H', ⟨Nat.le_refl _⟩, by repeat (first | exact Drawn0.refl _ | apply Drawn0.step)⟩
    case round =>
      clear H'
      try clear c1
      try clear p2
      try clear c3
      try clear c3b0
      try clear c3b1
      try clear c3b2
      obtain ⟨x13_1, rfl, HA, HK1, ⟨m1, rfl⟩⟩ := hrel
      cases gk with
      | zero => exact absurd HA.out (by simp [spec_cronSame.l0])
      | succ k1 =>
        have H := HA.out
        clear HA
        simp only [spec_cronSame.l0] at H
        by_cases c4 : x13_1 < (a0.size : Int)
        · rw [if_pos c4] at H
          have c4b0 : decide (x13_1 < (a0.size : Int)) = true := decide_eq_true c4
          clear c4
          by_cases c5 : 0 ≤ x13_1
          · rw [if_pos c5] at H
            have c5b0 : decide (0 ≤ x13_1) = true := decide_eq_true c5
            clear c5
            by_cases c6 : x13_1 < (a0.size : Int)
            · rw [if_pos c6] at H
              have c6b0 : decide (x13_1 < (a0.size : Int)) = true := decide_eq_true c6
              clear c6
              replace H := Option.bind_eq_some_iff.mp H
              obtain ⟨t147, A80, H⟩ := H
              replace H : (if x13_1 < (a1.size : Int) then ((spec_cronUpper.f (bt a1 x13_1)).bind fun t148 => (if t147 = t148 then (spec_cronSame.l0 k1 a0 a1 (a0.size : Int) (wrap64 (x13_1 + 1))) else (some false))) else (none)) = some r := H
              have A8 := Aside0.mk A80
              clear A80
              by_cases c9 : x13_1 < (a1.size : Int)
              · rw [if_pos c9] at H
                have c9b0 : decide (x13_1 < (a1.size : Int)) = true := decide_eq_true c9
                clear c9
                replace H := Option.bind_eq_some_iff.mp H
                obtain ⟨t148, A110, H⟩ := H
                replace H : (if t147 = t148 then (spec_cronSame.l0 k1 a0 a1 (a0.size : Int) (wrap64 (x13_1 + 1))) else (some false)) = some r := H
                have A11 := Aside0.mk A110
                clear A110
                by_cases c12 : t147 = t148
                · rw [if_pos c12] at H
                  have c12b0 : (t147 == t148) = true := beq_iff_eq.mpr c12
                  have c12b1 : (t147 != t148) = false := bne_eq_false_iff_eq.mpr c12
                  clear c12
                  have H' := Aside0.mk H
                  clear H
                  have p7 : 0 ≤ (x13_1 : Int) := of_decide_eq_true (by first | (with_reducible assumption) | assumption)
                  have q7 : x13_1 < (a0.size : Int) := of_decide_eq_true (by first | (with_reducible assumption) | assumption)
                  have hx7 := bt_at a0 x13_1
                  replace p7 := eq_true p7
                  replace q7 := eq_true q7
                  go_wp2_with (first | (go_at_call 112; (with_reducible refine (spec_cronUpper.calls (bt a0 x13_1) t147 _ A8.out).mono ?_); rintro e w' ⟨rfl, ⟨nd, rfl⟩⟩; (try first | exact ⟨rfl, _, World.drewN_drewN _ _ _⟩ | exact ⟨rfl, _, Eq.trans (World.drewN_drewN _ _ _) (congrArg (World.drewN _) (Nat.add_assoc _ _ _))⟩); have p10 : 0 ≤ (x13_1 : Int) := of_decide_eq_true (by first | (with_reducible assumption) | assumption); have q10 : x13_1 < (a1.size : Int) := of_decide_eq_true (by first | (with_reducible assumption) | assumption); have hx10 := bt_at a1 x13_1; replace p10 := eq_true p10; replace q10 := eq_true q10) | (go_at_call 112; (with_reducible refine (spec_cronUpper.calls (bt a1 x13_1) t148 _ A11.out).mono ?_); rintro e w' ⟨rfl, ⟨nd, rfl⟩⟩; (try first | exact ⟨rfl, _, World.drewN_drewN _ _ _⟩ | exact ⟨rfl, _, Eq.trans (World.drewN_drewN _ _ _) (congrArg (World.drewN _) (Nat.add_assoc _ _ _))⟩)))
                  repeat (go_quiet (first | (go_at_call 112; (with_reducible refine (spec_cronUpper.calls (bt a0 x13_1) t147 _ A8.out).mono ?_); rintro e w' ⟨rfl, ⟨nd, rfl⟩⟩; (try first | exact ⟨rfl, _, World.drewN_drewN _ _ _⟩ | exact ⟨rfl, _, Eq.trans (World.drewN_drewN _ _ _) (congrArg (World.drewN _) (Nat.add_assoc _ _ _))⟩); have p10 : 0 ≤ (x13_1 : Int) := of_decide_eq_true (by first | (with_reducible assumption) | assumption); have q10 : x13_1 < (a1.size : Int) := of_decide_eq_true (by first | (with_reducible assumption) | assumption); have hx10 := bt_at a1 x13_1; replace p10 := eq_true p10; replace q10 := eq_true q10) | (go_at_call 112; (with_reducible refine (spec_cronUpper.calls (bt a1 x13_1) t148 _ A11.out).mono ?_); rintro e w' ⟨rfl, ⟨nd, rfl⟩⟩; (try first | exact ⟨rfl, _, World.drewN_drewN _ _ _⟩ | exact ⟨rfl, _, Eq.trans (World.drewN_drewN _ _ _) (congrArg (World.drewN _) (Nat.add_assoc _ _ _))⟩))); try go_wp2_with (first | (go_at_call 112; (with_reducible refine (spec_cronUpper.calls (bt a0 x13_1) t147 _ A8.out).mono ?_); rintro e w' ⟨rfl, ⟨nd, rfl⟩⟩; (try first | exact ⟨rfl, _, World.drewN_drewN _ _ _⟩ | exact ⟨rfl, _, Eq.trans (World.drewN_drewN _ _ _) (congrArg (World.drewN _) (Nat.add_assoc _ _ _))⟩); have p10 : 0 ≤ (x13_1 : Int) := of_decide_eq_true (by first | (with_reducible assumption) | assumption); have q10 : x13_1 < (a1.size : Int) := of_decide_eq_true (by first | (with_reducible assumption) | assumption); have hx10 := bt_at a1 x13_1; replace p10 := eq_true p10; replace q10 := eq_true q10) | (go_at_call 112; (with_reducible refine (spec_cronUpper.calls (bt a1 x13_1) t148 _ A11.out).mono ?_); rintro e w' ⟨rfl, ⟨nd, rfl⟩⟩; (try first | exact ⟨rfl, _, World.drewN_drewN _ _ _⟩ | exact ⟨rfl, _, Eq.trans (World.drewN_drewN _ _ _) (congrArg (World.drewN _) (Nat.add_assoc _ _ _))⟩))))
                  go_roundg k1
                  case measure => have := HK1.out; omega
                  case rel => exact ⟨(wrap64 (x13_1 + 1)), (by first | rfl | (simp; done) | (simp [*]; done)), H', ⟨by have := HK1.out; omega⟩, by repeat (first | exact Drawn0.refl _ | apply Drawn0.step)⟩
                · rw [if_neg c12] at H
                  have c12b0 : (t147 == t148) = false := beq_eq_false_iff_ne.mpr c12
                  have c12b1 : (t147 != t148) = true := bne_iff_ne.mpr c12
                  obtain rfl := Option.some.inj H
                  have p7 : 0 ≤ (x13_1 : Int) := of_decide_eq_true (by first | (with_reducible assumption) | assumption)
                  have q7 : x13_1 < (a0.size : Int) := of_decide_eq_true (by first | (with_reducible assumption) | assumption)
                  have hx7 := bt_at a0 x13_1
                  replace p7 := eq_true p7
                  replace q7 := eq_true q7
                  go_wp2_with (first | (go_at_call 112; (with_reducible refine (spec_cronUpper.calls (bt a0 x13_1) t147 _ A8.out).mono ?_); rintro e w' ⟨rfl, ⟨nd, rfl⟩⟩; (try first | exact ⟨rfl, _, World.drewN_drewN _ _ _⟩ | exact ⟨rfl, _, Eq.trans (World.drewN_drewN _ _ _) (congrArg (World.drewN _) (Nat.add_assoc _ _ _))⟩); have p10 : 0 ≤ (x13_1 : Int) := of_decide_eq_true (by first | (with_reducible assumption) | assumption); have q10 : x13_1 < (a1.size : Int) := of_decide_eq_true (by first | (with_reducible assumption) | assumption); have hx10 := bt_at a1 x13_1; replace p10 := eq_true p10; replace q10 := eq_true q10) | (go_at_call 112; (with_reducible refine (spec_cronUpper.calls (bt a1 x13_1) t148 _ A11.out).mono ?_); rintro e w' ⟨rfl, ⟨nd, rfl⟩⟩; (try first | exact ⟨rfl, _, World.drewN_drewN _ _ _⟩ | exact ⟨rfl, _, Eq.trans (World.drewN_drewN _ _ _) (congrArg (World.drewN _) (Nat.add_assoc _ _ _))⟩)))
                  repeat (go_quiet (first | (go_at_call 112; (with_reducible refine (spec_cronUpper.calls (bt a0 x13_1) t147 _ A8.out).mono ?_); rintro e w' ⟨rfl, ⟨nd, rfl⟩⟩; (try first | exact ⟨rfl, _, World.drewN_drewN _ _ _⟩ | exact ⟨rfl, _, Eq.trans (World.drewN_drewN _ _ _) (congrArg (World.drewN _) (Nat.add_assoc _ _ _))⟩); have p10 : 0 ≤ (x13_1 : Int) := of_decide_eq_true (by first | (with_reducible assumption) | assumption); have q10 : x13_1 < (a1.size : Int) := of_decide_eq_true (by first | (with_reducible assumption) | assumption); have hx10 := bt_at a1 x13_1; replace p10 := eq_true p10; replace q10 := eq_true q10) | (go_at_call 112; (with_reducible refine (spec_cronUpper.calls (bt a1 x13_1) t148 _ A11.out).mono ?_); rintro e w' ⟨rfl, ⟨nd, rfl⟩⟩; (try first | exact ⟨rfl, _, World.drewN_drewN _ _ _⟩ | exact ⟨rfl, _, Eq.trans (World.drewN_drewN _ _ _) (congrArg (World.drewN _) (Nat.add_assoc _ _ _))⟩))); try go_wp2_with (first | (go_at_call 112; (with_reducible refine (spec_cronUpper.calls (bt a0 x13_1) t147 _ A8.out).mono ?_); rintro e w' ⟨rfl, ⟨nd, rfl⟩⟩; (try first | exact ⟨rfl, _, World.drewN_drewN _ _ _⟩ | exact ⟨rfl, _, Eq.trans (World.drewN_drewN _ _ _) (congrArg (World.drewN _) (Nat.add_assoc _ _ _))⟩); have p10 : 0 ≤ (x13_1 : Int) := of_decide_eq_true (by first | (with_reducible assumption) | assumption); have q10 : x13_1 < (a1.size : Int) := of_decide_eq_true (by first | (with_reducible assumption) | assumption); have hx10 := bt_at a1 x13_1; replace p10 := eq_true p10; replace q10 := eq_true q10) | (go_at_call 112; (with_reducible refine (spec_cronUpper.calls (bt a1 x13_1) t148 _ A11.out).mono ?_); rintro e w' ⟨rfl, ⟨nd, rfl⟩⟩; (try first | exact ⟨rfl, _, World.drewN_drewN _ _ _⟩ | exact ⟨rfl, _, Eq.trans (World.drewN_drewN _ _ _) (congrArg (World.drewN _) (Nat.add_assoc _ _ _))⟩))))
                  go_ret
                  exact ⟨by first | rfl | (simp; done) | (simp [*]; done), by repeat (first | exact Drawn0.refl _ | apply Drawn0.step)⟩
              · rw [if_neg c9] at H
                exact absurd H (by simp)
            · rw [if_neg c6] at H
              exact absurd H (by simp)
          · rw [if_neg c5] at H
            exact absurd H (by simp)
        · rw [if_neg c4] at H
          have c4b0 : decide (x13_1 < (a0.size : Int)) = false := decide_eq_false c4
          clear c4
          obtain rfl := Option.some.inj H
          go_wp2
          repeat (go_quiet (fail); try go_wp2)
          go_ret
          exact ⟨by first | rfl | (simp; done) | (simp [*]; done), by repeat (first | exact Drawn0.refl _ | apply Drawn0.step)⟩
  · rw [if_neg c3] at H
    have c3b0 : ((a0.size : Int) == (a1.size : Int)) = false := beq_eq_false_iff_ne.mpr c3
    have c3b1 : ((a0.size : Int) != (a1.size : Int)) = true := bne_iff_ne.mpr c3
    have c3b2 : (a0.size == a1.size) = false := by first | simpa using c3 | (simp at c3 ⊢; omega)
    obtain rfl := Option.some.inj H
    go_enter Tryz.func106, Tryz.ntmps106
    go_wp2
    repeat (go_quiet (fail); try go_wp2)
    go_ret
    exact ⟨by first | rfl | (simp; done) | (simp [*]; done), by repeat (first | exact Drawn0.refl _ | apply Drawn0.step)⟩
end Go.Proofs.YtikgnpachlgakaaGreatDoor.Pr

namespace Go.Proofs.YtikgnpachlgakaaGreatDoor.Pr
open Go.RowKit Go.Proofs.YtikgnpachlgakaaGreatDoorW.PrintWords Go.Proofs.YtikgnpachlgakaaGreatDoorW.PrintLast Go.Proofs.YtikgnpachlgakaaGreatDoorW.PrintMore
attribute [local go_sem] max2_int min2_int max_two min_two max_three min_three max_four min_four   -- for this text's walks alone
set_option linter.unusedVariables false
set_option linter.unusedSimpArgs false
/-! ### spec_CronName: function 107 -/
mutual
def spec_CronName.j0 : Nat → Int → Int → ByteArray → Option (ByteArray)
  | 0, _, _, _ => none
  | k + 1, x0, x1, x5 => if x0 = 5 then (spec_CronName.j1 k x0 x1 (⟨#[83, 85, 78, 77, 79, 78, 84, 85, 69, 87, 69, 68, 84, 72, 85, 70, 82, 73, 83, 65, 84]⟩ : ByteArray)) else (spec_CronName.j1 k x0 x1 x5)
def spec_CronName.j1 : Nat → Int → Int → ByteArray → Option (ByteArray)
  | 0, _, _, _ => none
  | k + 1, x0, x1, x5 => if x5.toList = ([] : List UInt8) then (some (⟨#[]⟩ : ByteArray)) else ((spec_CronLow.f x0).bind fun t149 => (if x1 < t149 then (some (⟨#[]⟩ : ByteArray)) else ((spec_CronHigh.f x0).bind fun t150 => (if x1 > t150 then (some (⟨#[]⟩ : ByteArray)) else (if 0 ≤ (wrap64 (3 * x1)) then (if (wrap64 (3 * x1)) ≤ (wrap64 ((wrap64 (3 * x1)) + 3)) then (if (wrap64 ((wrap64 (3 * x1)) + 3)) ≤ (x5.size : Int) then (some (x5.extract ((wrap64 (3 * x1)) : Int).toNat ((wrap64 ((wrap64 (3 * x1)) + 3)) : Int).toNat)) else (none)) else (none)) else (none))))))
end
def spec_CronName.f (k : Nat) (a0 : Int) (a1 : Int) : Option (ByteArray) := if a0 = 4 then (spec_CronName.j0 k a0 a1 (⟨#[46, 46, 46, 74, 65, 78, 70, 69, 66, 77, 65, 82, 65, 80, 82, 77, 65, 89, 74, 85, 78, 74, 85, 76, 65, 85, 71, 83, 69, 80, 79, 67, 84, 78, 79, 86, 68, 69, 67]⟩ : ByteArray)) else (spec_CronName.j0 k a0 a1 (⟨#[]⟩ : ByteArray))
theorem spec_CronName.mono_l : ∀ k, (∀ y0 y1 y2, LeO (spec_CronName.j0 k y0 y1 y2) (spec_CronName.j0 (k + 1) y0 y1 y2)) ∧ (∀ y0 y1 y2, LeO (spec_CronName.j1 k y0 y1 y2) (spec_CronName.j1 (k + 1) y0 y1 y2))
  | 0 => ⟨fun _ _ _ r h => by simp [spec_CronName.j0] at h, fun _ _ _ r h => by simp [spec_CronName.j1] at h⟩
  | k + 1 => by
    obtain ⟨ih0, ih1⟩ := spec_CronName.mono_l k
    refine ⟨?_, ?_⟩
    · intro y0 y1 y2
      unfold spec_CronName.j0
      repeat' first
      | (with_reducible exact ih0 _ _ _)
      | (with_reducible exact ih1 _ _ _)
      | (with_reducible exact LeO.refl _)
      | (with_reducible exact LeO.none _)
      | (with_reducible refine LeO.ite ?_ ?_)
      | (with_reducible refine LeO.bind ?_ (fun _ => ?_))
      | exact ih0 _ _ _
      | exact ih1 _ _ _
      | exact LeO.none _
      | refine LeO.ite ?_ ?_
      | refine LeO.bind ?_ (fun _ => ?_)
    · intro y0 y1 y2
      unfold spec_CronName.j1
      repeat' first
      | (with_reducible exact ih0 _ _ _)
      | (with_reducible exact ih1 _ _ _)
      | (with_reducible exact LeO.refl _)
      | (with_reducible exact LeO.none _)
      | (with_reducible refine LeO.ite ?_ ?_)
      | (with_reducible refine LeO.bind ?_ (fun _ => ?_))
      | exact ih0 _ _ _
      | exact ih1 _ _ _
      | exact LeO.none _
      | refine LeO.ite ?_ ?_
      | refine LeO.bind ?_ (fun _ => ?_)
theorem spec_CronName.mono : ∀ a0 a1 k, LeO (spec_CronName.f k a0 a1) (spec_CronName.f (k + 1) a0 a1) := by
  intro a0 a1 k
  obtain ⟨ih0, ih1⟩ := spec_CronName.mono_l k
  unfold spec_CronName.f
  repeat' first
      | (with_reducible exact ih0 _ _ _)
      | (with_reducible exact ih1 _ _ _)
      | (with_reducible exact LeO.refl _)
      | (with_reducible exact LeO.none _)
      | (with_reducible refine LeO.ite ?_ ?_)
      | (with_reducible refine LeO.bind ?_ (fun _ => ?_))
      | exact ih0 _ _ _
      | exact ih1 _ _ _
      | exact LeO.none _
      | refine LeO.ite ?_ ?_
      | refine LeO.bind ?_ (fun _ => ?_)
set_option maxHeartbeats 8000000 in
set_option maxRecDepth 100000 in
theorem spec_CronName.calls (k : Nat) (a0 : Int) (a1 : Int) (r : ByteArray) (w : World) (h : spec_CronName.f k a0 a1 = some r) :
    Calls Tryz.prog 107 #[.int .i64 a0, .int .i64 a1] w fun e w' => e = .returned (.string r) ∧ Drawn0 w w' := by
  have H : (if a0 = 4 then (spec_CronName.j0 k a0 a1 (⟨#[46, 46, 46, 74, 65, 78, 70, 69, 66, 77, 65, 82, 65, 80, 82, 77, 65, 89, 74, 85, 78, 74, 85, 76, 65, 85, 71, 83, 69, 80, 79, 67, 84, 78, 79, 86, 68, 69, 67]⟩ : ByteArray)) else (spec_CronName.j0 k a0 a1 (⟨#[]⟩ : ByteArray))) = some r := h
  clear h
  have HC3 := Aside0.mk H
  clear H
  go_enter Tryz.func107, Tryz.ntmps107
  go_upto_if 7 with (fail)
  go_cut [5] (fun v5 wc => ∃ (kq : Nat) (x5_2 : ByteArray), v5 = .string x5_2 ∧ Aside0 (spec_CronName.j0 kq a0 a1 x5_2 = some r) ∧ Aside0 (kq ≤ k) ∧ Drawn0 w wc)
  case first =>
    have H := HC3.out
    clear HC3
    by_cases c4 : a0 = 4
    · rw [if_pos c4] at H
      have c4b0 : (a0 == 4) = true := beq_iff_eq.mpr c4
      have c4b1 : (a0 != 4) = false := bne_eq_false_iff_eq.mpr c4
      clear c4
      (first | rw [c4b0] | (simp only [i64_w, i32_w]; rw [c4b0]) | skip)
      have H' := Aside0.mk H
      clear H
      go_wp2
      go_meet
      case rel => exact ⟨_, ((⟨#[46, 46, 46, 74, 65, 78, 70, 69, 66, 77, 65, 82, 65, 80, 82, 77, 65, 89, 74, 85, 78, 74, 85, 76, 65, 85, 71, 83, 69, 80, 79, 67, 84, 78, 79, 86, 68, 69, 67]⟩ : ByteArray)), (by first | rfl | (simp; done) | (simp [*]; done)), H', ⟨by first | omega | exact Nat.le_refl _⟩, by repeat (first | exact Drawn0.refl _ | apply Drawn0.step)⟩
    · rw [if_neg c4] at H
      have c4b0 : (a0 == 4) = false := beq_eq_false_iff_ne.mpr c4
      have c4b1 : (a0 != 4) = true := bne_iff_ne.mpr c4
      (first | rw [c4b0] | (simp only [i64_w, i32_w]; rw [c4b0]) | skip)
      have H' := Aside0.mk H
      clear H
      go_wp2
      go_meet
      case rel => exact ⟨_, ((⟨#[]⟩ : ByteArray)), (by first | rfl | (simp; done) | (simp [*]; done)), H', ⟨by first | omega | exact Nat.le_refl _⟩, by repeat (first | exact Drawn0.refl _ | apply Drawn0.step)⟩
  case rest =>
    clear HC3
    try clear c1
    try clear p2
    try clear c4
    try clear c4b0
    try clear c4b1
    obtain ⟨kq, x5_2, rfl, HA, HJ2, ⟨mc2, rfl⟩⟩ := hcut
    cases kq with
    | zero => exact absurd HA.out (by simp [spec_CronName.j0])
    | succ kj2 =>
      have H := HA.out
      clear HA
      simp only [spec_CronName.j0] at H
      have HC5 := Aside0.mk H
      clear H
      go_upto_if 9 with (fail)
      go_cut [5] (fun v5 wc => ∃ (kq : Nat) (x5_4 : ByteArray), v5 = .string x5_4 ∧ Aside0 (spec_CronName.j1 kq a0 a1 x5_4 = some r) ∧ Aside0 (kq ≤ kj2) ∧ Drawn0 w wc)
      case first =>
        have H := HC5.out
        clear HC5
        by_cases c6 : a0 = 5
        · rw [if_pos c6] at H
          have c6b0 : (a0 == 5) = true := beq_iff_eq.mpr c6
          have c6b1 : (a0 != 5) = false := bne_eq_false_iff_eq.mpr c6
          clear c6
          (first | rw [c6b0] | (simp only [i64_w, i32_w]; rw [c6b0]) | skip)
          have H' := Aside0.mk H
          clear H
          go_wp2
          go_meet
          case rel => exact ⟨_, ((⟨#[83, 85, 78, 77, 79, 78, 84, 85, 69, 87, 69, 68, 84, 72, 85, 70, 82, 73, 83, 65, 84]⟩ : ByteArray)), (by first | rfl | (simp; done) | (simp [*]; done)), H', ⟨by have := HJ2.out; first | omega | exact Nat.le_refl _⟩, by repeat (first | exact Drawn0.refl _ | apply Drawn0.step)⟩
        · rw [if_neg c6] at H
          have c6b0 : (a0 == 5) = false := beq_eq_false_iff_ne.mpr c6
          have c6b1 : (a0 != 5) = true := bne_iff_ne.mpr c6
          (first | rw [c6b0] | (simp only [i64_w, i32_w]; rw [c6b0]) | skip)
          have H' := Aside0.mk H
          clear H
          go_wp2
          go_meet
          case rel => exact ⟨_, (x5_2), (by first | rfl | (simp; done) | (simp [*]; done)), H', ⟨by have := HJ2.out; first | omega | exact Nat.le_refl _⟩, by repeat (first | exact Drawn0.refl _ | apply Drawn0.step)⟩
      case rest =>
        clear HC5
        try clear c1
        try clear c2
        try clear p2
        try clear c4
        try clear c4b0
        try clear c4b1
        try clear c6
        try clear c6b0
        try clear c6b1
        try clear p2
        obtain ⟨kq, x5_4, rfl, HA, HJ4, ⟨mc4, rfl⟩⟩ := hcut
        cases kq with
        | zero => exact absurd HA.out (by simp [spec_CronName.j1])
        | succ kj4 =>
          have H := HA.out
          clear HA
          simp only [spec_CronName.j1] at H
          by_cases c7 : x5_4.toList = ([] : List UInt8)
          · rw [if_pos c7] at H
            have c7b0 : (x5_4.toList == ([] : List UInt8)) = true := beq_iff_eq.mpr c7
            have c7b1 : (x5_4.toList != ([] : List UInt8)) = false := bne_eq_false_iff_eq.mpr c7
            clear c7
            obtain rfl := Option.some.inj H
            go_wp2
            go_ret
            exact ⟨by first | rfl | (simp; done) | (simp [*]; done), by repeat (first | exact Drawn0.refl _ | apply Drawn0.step)⟩
          · rw [if_neg c7] at H
            have c7b0 : (x5_4.toList == ([] : List UInt8)) = false := beq_eq_false_iff_ne.mpr c7
            have c7b1 : (x5_4.toList != ([] : List UInt8)) = true := bne_iff_ne.mpr c7
            replace H := Option.bind_eq_some_iff.mp H
            obtain ⟨t149, A80, H⟩ := H
            replace H : (if a1 < t149 then (some (⟨#[]⟩ : ByteArray)) else ((spec_CronHigh.f a0).bind fun t150 => (if a1 > t150 then (some (⟨#[]⟩ : ByteArray)) else (if 0 ≤ (wrap64 (3 * a1)) then (if (wrap64 (3 * a1)) ≤ (wrap64 ((wrap64 (3 * a1)) + 3)) then (if (wrap64 ((wrap64 (3 * a1)) + 3)) ≤ (x5_4.size : Int) then (some (x5_4.extract ((wrap64 (3 * a1)) : Int).toNat ((wrap64 ((wrap64 (3 * a1)) + 3)) : Int).toNat)) else (none)) else (none)) else (none))))) = some r := H
            have A8 := Aside0.mk A80
            clear A80
            by_cases c9 : a1 < t149
            · rw [if_pos c9] at H
              have c9b0 : decide (a1 < t149) = true := decide_eq_true c9
              clear c9
              obtain rfl := Option.some.inj H
              go_wp2_with (first | (go_at_call 88; (with_reducible refine (spec_CronLow.calls a0 t149 _ A8.out).mono ?_); rintro e w' ⟨rfl, ⟨nd, rfl⟩⟩))
              go_ret
              exact ⟨by first | rfl | (simp; done) | (simp [*]; done), by repeat (first | exact Drawn0.refl _ | apply Drawn0.step)⟩
            · rw [if_neg c9] at H
              have c9b0 : decide (a1 < t149) = false := decide_eq_false c9
              clear c9
              replace H := Option.bind_eq_some_iff.mp H
              obtain ⟨t150, A100, H⟩ := H
              replace H : (if a1 > t150 then (some (⟨#[]⟩ : ByteArray)) else (if 0 ≤ (wrap64 (3 * a1)) then (if (wrap64 (3 * a1)) ≤ (wrap64 ((wrap64 (3 * a1)) + 3)) then (if (wrap64 ((wrap64 (3 * a1)) + 3)) ≤ (x5_4.size : Int) then (some (x5_4.extract ((wrap64 (3 * a1)) : Int).toNat ((wrap64 ((wrap64 (3 * a1)) + 3)) : Int).toNat)) else (none)) else (none)) else (none))) = some r := H
              have A10 := Aside0.mk A100
              clear A100
              by_cases c11 : a1 > t150
              · rw [if_pos c11] at H
                have c11b0 : decide (t150 < a1) = true := decide_eq_true c11
                clear c11
                obtain rfl := Option.some.inj H
                go_wp2_with (first | (go_at_call 88; (with_reducible refine (spec_CronLow.calls a0 t149 _ A8.out).mono ?_); rintro e w' ⟨rfl, ⟨nd, rfl⟩⟩) | (go_at_call 89; (with_reducible refine (spec_CronHigh.calls a0 t150 _ A10.out).mono ?_); rintro e w' ⟨rfl, ⟨nd, rfl⟩⟩))
                go_ret
                exact ⟨by first | rfl | (simp; done) | (simp [*]; done), by repeat (first | exact Drawn0.refl _ | apply Drawn0.step)⟩
              · rw [if_neg c11] at H
                have c11b0 : decide (t150 < a1) = false := decide_eq_false c11
                clear c11
                obtain ⟨ji12, hji12⟩ : ∃ j_ : Int, (wrap64 (3 * a1)) = j_ := ⟨_, rfl⟩
                replace H : (if 0 ≤ (ji12) then (if (ji12) ≤ (wrap64 ((ji12) + 3)) then (if (wrap64 ((ji12) + 3)) ≤ (x5_4.size : Int) then (some (x5_4.extract ((ji12) : Int).toNat ((wrap64 ((ji12) + 3)) : Int).toNat)) else (none)) else (none)) else (none)) = some r := by first | (rw [hji12] at H; exact H) | (simp only [hji12] at H ⊢; exact H)
                (try rw [hji12] at A8)
                (try rw [hji12] at A10)
                have hji12w : (IntKind.i64.wrap (3 * a1)) = ji12 := (i64_w _).trans hji12
                by_cases c13 : 0 ≤ (ji12)
                · rw [if_pos c13] at H
                  have c13b0 := eq_true c13
                  have c13b1 : decide (0 ≤ (ji12)) = true := decide_eq_true c13
                  clear c13
                  by_cases c14 : (ji12) ≤ (wrap64 ((ji12) + 3))
                  · rw [if_pos c14] at H
                    have c14b0 := eq_true c14
                    have c14b1 : decide ((ji12) ≤ (wrap64 ((ji12) + 3))) = true := decide_eq_true c14
                    by_cases c15 : (wrap64 ((ji12) + 3)) ≤ (x5_4.size : Int)
                    · rw [if_pos c15] at H
                      have c15b0 := eq_true c15
                      have c15b1 : decide ((wrap64 ((ji12) + 3)) ≤ (x5_4.size : Int)) = true := decide_eq_true c15
                      obtain rfl := Option.some.inj H
                      go_wp2_with (first | (go_at_call 88; (with_reducible refine (spec_CronLow.calls a0 t149 _ A8.out).mono ?_); rintro e w' ⟨rfl, ⟨nd, rfl⟩⟩) | (go_at_call 89; (with_reducible refine (spec_CronHigh.calls a0 t150 _ A10.out).mono ?_); rintro e w' ⟨rfl, ⟨nd, rfl⟩⟩))
                      go_ret
                      exact ⟨by first | rfl | (simp; done) | (simp only [← hji12] <;> (first | rfl | simp)) | (simp [*]; done), by repeat (first | exact Drawn0.refl _ | apply Drawn0.step)⟩
                    · rw [if_neg c15] at H
                      exact absurd H (by simp)
                  · rw [if_neg c14] at H
                    exact absurd H (by simp)
                · rw [if_neg c13] at H
                  exact absurd H (by simp)
end Go.Proofs.YtikgnpachlgakaaGreatDoor.Pr

namespace Go.Proofs.YtikgnpachlgakaaGreatDoor.Pr
open Go.RowKit Go.Proofs.YtikgnpachlgakaaGreatDoorW.PrintWords Go.Proofs.YtikgnpachlgakaaGreatDoorW.PrintLast Go.Proofs.YtikgnpachlgakaaGreatDoorW.PrintMore
attribute [local go_sem] max2_int min2_int max_two min_two max_three min_three max_four min_four   -- for this text's walks alone
set_option linter.unusedVariables false
set_option linter.unusedSimpArgs false
/-! ### spec_CronValue: function 101 -/
mutual
def spec_CronValue.j0 : Nat → Int → ByteArray → Bool → Option (Int × Int)
  | 0, _, _, _ => none
  | k + 1, x0, x1, x6 => if x6 = true then ((spec_CronLow.f x0).bind fun t151 => (spec_CronValue.l0 k x0 x1 x6 t151)) else (spec_CronValue.j2 k x1 x6)
def spec_CronValue.j2 : Nat → ByteArray → Bool → Option (Int × Int)
  | 0, _, _ => none
  | k + 1, x1, x6 => if x6 = true then ((spec_cronForeign.f k x1).bind fun t155 => (if t155 = true then (some (0, 2)) else ((spec_CronNumber.f k x1).bind fun bt156 => (some (bt156.1, bt156.2))))) else ((spec_CronNumber.f k x1).bind fun bt158 => (some (bt158.1, bt158.2)))
def spec_CronValue.l0 : Nat → Int → ByteArray → Bool → Int → Option (Int × Int)
  | 0, _, _, _, _ => none
  | k + 1, x0, x1, x6, x7 => (spec_CronHigh.f x0).bind fun t152 => (if x7 ≤ t152 then ((spec_CronName.f k x0 x7).bind fun t153 => ((spec_cronSame.f k t153 x1).bind fun t154 => (if t154 = true then (some (x7, 1)) else (spec_CronValue.l0 k x0 x1 x6 (wrap64 (x7 + 1)))))) else (spec_CronValue.j2 k x1 x6))
end
def spec_CronValue.f (k : Nat) (a0 : Int) (a1 : ByteArray) : Option (Int × Int) := if a0 = 4 then (spec_CronValue.j0 k a0 a1 true) else (spec_CronValue.j0 k a0 a1 (a0 == 5))
theorem spec_CronValue.mono_l : ∀ k, (∀ y0 y1 y2, LeO (spec_CronValue.j0 k y0 y1 y2) (spec_CronValue.j0 (k + 1) y0 y1 y2)) ∧ (∀ y0 y1, LeO (spec_CronValue.j2 k y0 y1) (spec_CronValue.j2 (k + 1) y0 y1)) ∧ (∀ y0 y1 y2 y3, LeO (spec_CronValue.l0 k y0 y1 y2 y3) (spec_CronValue.l0 (k + 1) y0 y1 y2 y3))
  | 0 => ⟨fun _ _ _ r h => by simp [spec_CronValue.j0] at h, fun _ _ r h => by simp [spec_CronValue.j2] at h, fun _ _ _ _ r h => by simp [spec_CronValue.l0] at h⟩
  | k + 1 => by
    obtain ⟨ih0, ih1, ih2⟩ := spec_CronValue.mono_l k
    refine ⟨?_, ?_, ?_⟩
    · intro y0 y1 y2
      unfold spec_CronValue.j0
      repeat' first
      | (with_reducible exact ih0 _ _ _)
      | (with_reducible exact ih1 _ _)
      | (with_reducible exact ih2 _ _ _ _)
      | (with_reducible exact spec_CronName.mono _ _ _)
      | (with_reducible exact spec_CronNumber.mono _ _)
      | (with_reducible exact spec_cronForeign.mono _ _)
      | (with_reducible exact spec_cronSame.mono _ _ _)
      | (with_reducible exact LeO.refl _)
      | (with_reducible exact LeO.none _)
      | (with_reducible refine LeO.ite ?_ ?_)
      | (with_reducible refine LeO.bind ?_ (fun _ => ?_))
      | exact ih0 _ _ _
      | exact ih1 _ _
      | exact ih2 _ _ _ _
      | exact spec_CronName.mono _ _ _
      | exact spec_CronNumber.mono _ _
      | exact spec_cronForeign.mono _ _
      | exact spec_cronSame.mono _ _ _
      | exact LeO.none _
      | refine LeO.ite ?_ ?_
      | refine LeO.bind ?_ (fun _ => ?_)
    · intro y0 y1
      unfold spec_CronValue.j2
      repeat' first
      | (with_reducible exact ih0 _ _ _)
      | (with_reducible exact ih1 _ _)
      | (with_reducible exact ih2 _ _ _ _)
      | (with_reducible exact spec_CronName.mono _ _ _)
      | (with_reducible exact spec_CronNumber.mono _ _)
      | (with_reducible exact spec_cronForeign.mono _ _)
      | (with_reducible exact spec_cronSame.mono _ _ _)
      | (with_reducible exact LeO.refl _)
      | (with_reducible exact LeO.none _)
      | (with_reducible refine LeO.ite ?_ ?_)
      | (with_reducible refine LeO.bind ?_ (fun _ => ?_))
      | exact ih0 _ _ _
      | exact ih1 _ _
      | exact ih2 _ _ _ _
      | exact spec_CronName.mono _ _ _
      | exact spec_CronNumber.mono _ _
      | exact spec_cronForeign.mono _ _
      | exact spec_cronSame.mono _ _ _
      | exact LeO.none _
      | refine LeO.ite ?_ ?_
      | refine LeO.bind ?_ (fun _ => ?_)
    · intro y0 y1 y2 y3
      unfold spec_CronValue.l0
      repeat' first
      | (with_reducible exact ih0 _ _ _)
      | (with_reducible exact ih1 _ _)
      | (with_reducible exact ih2 _ _ _ _)
      | (with_reducible exact spec_CronName.mono _ _ _)
      | (with_reducible exact spec_CronNumber.mono _ _)
      | (with_reducible exact spec_cronForeign.mono _ _)
      | (with_reducible exact spec_cronSame.mono _ _ _)
      | (with_reducible exact LeO.refl _)
      | (with_reducible exact LeO.none _)
      | (with_reducible refine LeO.ite ?_ ?_)
      | (with_reducible refine LeO.bind ?_ (fun _ => ?_))
      | exact ih0 _ _ _
      | exact ih1 _ _
      | exact ih2 _ _ _ _
      | exact spec_CronName.mono _ _ _
      | exact spec_CronNumber.mono _ _
      | exact spec_cronForeign.mono _ _
      | exact spec_cronSame.mono _ _ _
      | exact LeO.none _
      | refine LeO.ite ?_ ?_
      | refine LeO.bind ?_ (fun _ => ?_)
theorem spec_CronValue.mono : ∀ a0 a1 k, LeO (spec_CronValue.f k a0 a1) (spec_CronValue.f (k + 1) a0 a1) := by
  intro a0 a1 k
  obtain ⟨ih0, ih1, ih2⟩ := spec_CronValue.mono_l k
  unfold spec_CronValue.f
  repeat' first
      | (with_reducible exact ih0 _ _ _)
      | (with_reducible exact ih1 _ _)
      | (with_reducible exact ih2 _ _ _ _)
      | (with_reducible exact spec_CronName.mono _ _ _)
      | (with_reducible exact spec_CronNumber.mono _ _)
      | (with_reducible exact spec_cronForeign.mono _ _)
      | (with_reducible exact spec_cronSame.mono _ _ _)
      | (with_reducible exact LeO.refl _)
      | (with_reducible exact LeO.none _)
      | (with_reducible refine LeO.ite ?_ ?_)
      | (with_reducible refine LeO.bind ?_ (fun _ => ?_))
      | exact ih0 _ _ _
      | exact ih1 _ _
      | exact ih2 _ _ _ _
      | exact spec_CronName.mono _ _ _
      | exact spec_CronNumber.mono _ _
      | exact spec_cronForeign.mono _ _
      | exact spec_cronSame.mono _ _ _
      | exact LeO.none _
      | refine LeO.ite ?_ ?_
      | refine LeO.bind ?_ (fun _ => ?_)
set_option maxHeartbeats 8000000 in
set_option maxRecDepth 100000 in
theorem spec_CronValue.calls (k : Nat) (a0 : Int) (a1 : ByteArray) (r1 : Int) (r2 : Int) (w : World) (h : spec_CronValue.f k a0 a1 = some (r1, r2)) :
    Calls Tryz.prog 101 #[.int .i64 a0, .string a1] w fun e w' => e = .returned (.tuple #[.int .i64 r1, .int .i64 r2]) ∧ Below w.heap.size w w' := by
  have HB := Aside0.mk (Below.refl w.heap.size w)
  have H : (if a0 = 4 then (spec_CronValue.j0 k a0 a1 true) else (spec_CronValue.j0 k a0 a1 (a0 == 5))) = some (r1, r2) := h
  clear h
  have HC3 := Aside0.mk H
  clear H
  go_enter Tryz.func101, Tryz.ntmps101
  go_upto_region 1 with (fail)
  go_cut [6] (fun v6 wc => ∃ (kq : Nat) (x6_2 : Bool), v6 = .bool x6_2 ∧ Aside0 (spec_CronValue.j0 kq a0 a1 x6_2 = some (r1, r2)) ∧ Aside0 (kq ≤ k) ∧ Aside0 (Below w.heap.size w wc))
  case first =>
    have H := HC3.out
    clear HC3
    by_cases c4 : a0 = 4
    · rw [if_pos c4] at H
      have c4b0 : (a0 == 4) = true := beq_iff_eq.mpr c4
      have c4b1 : (a0 != 4) = false := bne_eq_false_iff_eq.mpr c4
      clear c4
      (first | rw [c4b0] | (simp only [i64_w, i32_w]; rw [c4b0]) | skip)
      have H' := Aside0.mk H
      clear H
      go_wp2
      go_meet
      case rel => exact ⟨_, (true), (by first | rfl | (simp; done) | (simp [*]; done)), H', ⟨by first | omega | exact Nat.le_refl _⟩, ⟨by repeat (first | (with_reducible first | exact HB.out | apply below_alloc | apply pw_below_drewN | apply below_drew1) | exact HB.out)⟩⟩
    · rw [if_neg c4] at H
      have c4b0 : (a0 == 4) = false := beq_eq_false_iff_ne.mpr c4
      have c4b1 : (a0 != 4) = true := bne_iff_ne.mpr c4
      (first | rw [c4b0] | (simp only [i64_w, i32_w]; rw [c4b0]) | skip)
      have H' := Aside0.mk H
      clear H
      go_wp2
      go_meet
      case rel => exact ⟨_, ((a0 == 5)), (by first | rfl | (simp; done) | (simp [*]; done)), H', ⟨by first | omega | exact Nat.le_refl _⟩, ⟨by repeat (first | (with_reducible first | exact HB.out | apply below_alloc | apply pw_below_drewN | apply below_drew1) | exact HB.out)⟩⟩
  case rest =>
    clear HC3
    try clear c1
    try clear p2
    try clear c4
    try clear c4b0
    try clear c4b1
    obtain ⟨kq, x6_2, rfl, HA, HJ2, HB⟩ := hcut
    cases kq with
    | zero => exact absurd HA.out (by simp [spec_CronValue.j0])
    | succ kj2 =>
      have H := HA.out
      clear HA
      simp only [spec_CronValue.j0] at H
      have HC5 := Aside0.mk H
      clear H
      go_upto_if 14 with (fail)
      go_cut [] (fun wc => ∃ (kq : Nat), Aside0 (spec_CronValue.j2 kq a1 x6_2 = some (r1, r2)) ∧ Aside0 (kq ≤ kj2) ∧ Aside0 (Below w.heap.size w wc))
      case first =>
        have H := HC5.out
        clear HC5
        by_cases c6 : x6_2 = true
        · subst c6
          have H1 : ((spec_CronLow.f a0).bind fun t151 => (spec_CronValue.l0 kj2 a0 a1 true t151)) = some (r1, r2) := by rw [if_pos rfl] at H; exact H
          clear H
          have H := H1
          clear H1
          replace H := Option.bind_eq_some_iff.mp H
          obtain ⟨t151, A70, H⟩ := H
          replace H : (spec_CronValue.l0 kj2 a0 a1 true t151) = some (r1, r2) := H
          have A7 := Aside0.mk A70
          clear A70
          have H' := Aside0.mk H
          clear H
          go_wp2_with (first | ((with_reducible refine gate_callee (f := 88) rfl ?_); refine goesL_ (some 16) rfl rfl Tryz.func88 (by kernel_rfl) rfl #[.int .i64 a0] rfl (by (try simp only [List.map_toArray, List.map_cons, List.map_nil]); first | done | rfl | (simp only [List.length_drop, List.length_take]; rfl)) ?_; (with_reducible refine (spec_CronLow.calls a0 t151 _ A7.out).mono ?_); rintro e w' ⟨rfl, ⟨nd, rfl⟩⟩; refine ⟨_, rfl, ?_⟩))
          go_loopg [7] kj2 (fun kq v7 w' => ∃ (x7_2 : Int), v7 = .int .i64 x7_2 ∧ Aside0 (spec_CronValue.l0 kq a0 a1 true x7_2 = some (r1, r2)) ∧ Aside0 (kq ≤ kj2) ∧ Aside0 (Below w.heap.size w w'))
          case atStart => exact ⟨(t151), (by first | rfl | (simp; done) | (simp [*]; done)), H', ⟨Nat.le_refl _⟩, ⟨by repeat (first | (with_reducible first | exact HB.out | apply below_alloc | apply pw_below_drewN | apply below_drew1) | exact HB.out)⟩⟩
          case round =>
            clear H'
            try clear c1
            try clear p2
            try clear c4
            try clear c4b0
            try clear c4b1
            try clear c6
            try clear p2
            obtain ⟨x7_2, rfl, HA, HK2, HB⟩ := hrel
            cases gk with
            | zero => exact absurd HA.out (by simp [spec_CronValue.l0])
            | succ k2 =>
              have H := HA.out
              clear HA
              simp only [spec_CronValue.l0] at H
              replace H := Option.bind_eq_some_iff.mp H
              obtain ⟨t152, A80, H⟩ := H
              replace H : (if x7_2 ≤ t152 then ((spec_CronName.f k2 a0 x7_2).bind fun t153 => ((spec_cronSame.f k2 t153 a1).bind fun t154 => (if t154 = true then (some (x7_2, 1)) else (spec_CronValue.l0 k2 a0 a1 true (wrap64 (x7_2 + 1)))))) else (spec_CronValue.j2 k2 a1 true)) = some (r1, r2) := H
              have A8 := Aside0.mk A80
              clear A80
              by_cases c9 : x7_2 ≤ t152
              · rw [if_pos c9] at H
                have c9b0 : decide (x7_2 ≤ t152) = true := decide_eq_true c9
                clear c9
                (first | rw [c9b0] | (simp only [i64_w, i32_w]; rw [c9b0]) | skip)
                replace H := Option.bind_eq_some_iff.mp H
                obtain ⟨t153, A100, H⟩ := H
                replace H : ((spec_cronSame.f k2 t153 a1).bind fun t154 => (if t154 = true then (some (x7_2, 1)) else (spec_CronValue.l0 k2 a0 a1 true (wrap64 (x7_2 + 1))))) = some (r1, r2) := H
                have A10 := Aside0.mk A100
                clear A100
                replace H := Option.bind_eq_some_iff.mp H
                obtain ⟨t154, A110, H⟩ := H
                replace H : (if t154 = true then (some (x7_2, 1)) else (spec_CronValue.l0 k2 a0 a1 true (wrap64 (x7_2 + 1)))) = some (r1, r2) := H
                have A11 := Aside0.mk A110
                clear A110
                by_cases c12 : t154 = true
                · subst c12
                  have H1 : (some (x7_2, 1)) = some (r1, r2) := by rw [if_pos rfl] at H; exact H
                  clear H
                  have H := H1
                  clear H1
                  simp only [Option.some.injEq, Prod.mk.injEq] at H
                  obtain ⟨rfl, rfl⟩ := H
                  go_wp2_with (first | ((with_reducible refine gate_callee (f := 89) rfl ?_); refine goesL_ (some 19) rfl rfl Tryz.func89 (by kernel_rfl) rfl #[.int .i64 a0] rfl (by (try simp only [List.map_toArray, List.map_cons, List.map_nil]); first | done | rfl | (simp only [List.length_drop, List.length_take]; rfl)) ?_; (with_reducible refine (spec_CronHigh.calls a0 t152 _ A8.out).mono ?_); rintro e w' ⟨rfl, ⟨nd, rfl⟩⟩; refine ⟨_, rfl, ?_⟩) | ((with_reducible refine gate_callee (f := 107) rfl ?_); refine goesL_ (some 25) rfl rfl Tryz.func107 (by kernel_rfl) rfl #[.int .i64 a0, .int .i64 x7_2] rfl (by (try simp only [List.map_toArray, List.map_cons, List.map_nil]); first | done | rfl | (simp only [List.length_drop, List.length_take]; rfl)) ?_; (with_reducible refine (spec_CronName.calls k2 a0 x7_2 t153 _ A10.out).mono ?_); rintro e w' ⟨rfl, ⟨nd, rfl⟩⟩; refine ⟨_, rfl, ?_⟩) | ((with_reducible refine gate_callee (f := 106) rfl ?_); refine goesL_ (some 27) rfl rfl Tryz.func106 (by kernel_rfl) rfl #[.string t153, .string a1] rfl (by (try simp only [List.map_toArray, List.map_cons, List.map_nil]); first | done | rfl | (simp only [List.length_drop, List.length_take]; rfl)) ?_; (with_reducible refine (spec_cronSame.calls k2 t153 a1 true _ A11.out).mono ?_); rintro e w' ⟨rfl, ⟨nd, rfl⟩⟩; refine ⟨_, rfl, ?_⟩))
                  go_ret2
                  exact ⟨by first | rfl | (simp [errW_none, errW_some] <;> rfl) | (simp [*, errW_none, errW_some] <;> rfl), by repeat (first | (with_reducible first | exact HB.out | apply below_alloc | apply pw_below_drewN | apply below_drew1) | exact HB.out)⟩
                · replace c12 := Bool.eq_false_iff.mpr c12
                  subst c12
                  have H1 : (spec_CronValue.l0 k2 a0 a1 true (wrap64 (x7_2 + 1))) = some (r1, r2) := by rw [if_neg (show ¬ (false = true) by decide)] at H; exact H
                  clear H
                  have H := H1
                  clear H1
                  have H' := Aside0.mk H
                  clear H
                  go_wp2_with (first | ((with_reducible refine gate_callee (f := 89) rfl ?_); refine goesL_ (some 19) rfl rfl Tryz.func89 (by kernel_rfl) rfl #[.int .i64 a0] rfl (by (try simp only [List.map_toArray, List.map_cons, List.map_nil]); first | done | rfl | (simp only [List.length_drop, List.length_take]; rfl)) ?_; (with_reducible refine (spec_CronHigh.calls a0 t152 _ A8.out).mono ?_); rintro e w' ⟨rfl, ⟨nd, rfl⟩⟩; refine ⟨_, rfl, ?_⟩) | ((with_reducible refine gate_callee (f := 107) rfl ?_); refine goesL_ (some 25) rfl rfl Tryz.func107 (by kernel_rfl) rfl #[.int .i64 a0, .int .i64 x7_2] rfl (by (try simp only [List.map_toArray, List.map_cons, List.map_nil]); first | done | rfl | (simp only [List.length_drop, List.length_take]; rfl)) ?_; (with_reducible refine (spec_CronName.calls k2 a0 x7_2 t153 _ A10.out).mono ?_); rintro e w' ⟨rfl, ⟨nd, rfl⟩⟩; refine ⟨_, rfl, ?_⟩) | ((with_reducible refine gate_callee (f := 106) rfl ?_); refine goesL_ (some 27) rfl rfl Tryz.func106 (by kernel_rfl) rfl #[.string t153, .string a1] rfl (by (try simp only [List.map_toArray, List.map_cons, List.map_nil]); first | done | rfl | (simp only [List.length_drop, List.length_take]; rfl)) ?_; (with_reducible refine (spec_cronSame.calls k2 t153 a1 false _ A11.out).mono ?_); rintro e w' ⟨rfl, ⟨nd, rfl⟩⟩; refine ⟨_, rfl, ?_⟩))
                  go_roundg k2
                  case measure => have := HJ2.out; have := HK2.out; omega
                  case rel => exact ⟨(wrap64 (x7_2 + 1)), (by first | rfl | (simp; done) | (simp [*]; done)), H', ⟨by have := HJ2.out; have := HK2.out; omega⟩, ⟨by repeat (first | (with_reducible first | exact HB.out | apply below_alloc | apply pw_below_drewN | apply below_drew1) | exact HB.out)⟩⟩
              · rw [if_neg c9] at H
                have c9b0 : decide (x7_2 ≤ t152) = false := decide_eq_false c9
                clear c9
                (first | rw [c9b0] | (simp only [i64_w, i32_w]; rw [c9b0]) | skip)
                have H' := Aside0.mk H
                clear H
                go_wp2_with (first | ((with_reducible refine gate_callee (f := 89) rfl ?_); refine goesL_ (some 19) rfl rfl Tryz.func89 (by kernel_rfl) rfl #[.int .i64 a0] rfl (by (try simp only [List.map_toArray, List.map_cons, List.map_nil]); first | done | rfl | (simp only [List.length_drop, List.length_take]; rfl)) ?_; (with_reducible refine (spec_CronHigh.calls a0 t152 _ A8.out).mono ?_); rintro e w' ⟨rfl, ⟨nd, rfl⟩⟩; refine ⟨_, rfl, ?_⟩))
                go_meet
                case rel => exact ⟨_, H', ⟨by have := HJ2.out; have := HK2.out; first | omega | exact Nat.le_refl _⟩, ⟨by repeat (first | (with_reducible first | exact HB.out | apply below_alloc | apply pw_below_drewN | apply below_drew1) | exact HB.out)⟩⟩
        · replace c6 := Bool.eq_false_iff.mpr c6
          subst c6
          have H1 : (spec_CronValue.j2 kj2 a1 false) = some (r1, r2) := by rw [if_neg (show ¬ (false = true) by decide)] at H; exact H
          clear H
          have H := H1
          clear H1
          have H' := Aside0.mk H
          clear H
          go_wp2
          go_meet
          case rel => exact ⟨_, H', ⟨by have := HJ2.out; first | omega | exact Nat.le_refl _⟩, ⟨by repeat (first | (with_reducible first | exact HB.out | apply below_alloc | apply pw_below_drewN | apply below_drew1) | exact HB.out)⟩⟩
      case rest =>
        clear HC5
        try clear c1
        try clear p2
        try clear c4
        try clear c4b0
        try clear c4b1
        try clear c6
        try clear p6
        try clear c8
        try clear c9
        try clear c9b0
        try clear c10
        try clear c12
        try clear p2
        obtain ⟨kq, HA, HJ4, HB⟩ := hcut
        cases kq with
        | zero => exact absurd HA.out (by simp [spec_CronValue.j2])
        | succ kj4 =>
          have H := HA.out
          clear HA
          simp only [spec_CronValue.j2] at H
          by_cases c13 : x6_2 = true
          · subst c13
            have H1 : ((spec_cronForeign.f kj4 a1).bind fun t155 => (if t155 = true then (some (0, 2)) else ((spec_CronNumber.f kj4 a1).bind fun bt156 => (some (bt156.1, bt156.2))))) = some (r1, r2) := by rw [if_pos rfl] at H; exact H
            clear H
            have H := H1
            clear H1
            replace H := Option.bind_eq_some_iff.mp H
            obtain ⟨t155, A140, H⟩ := H
            replace H : (if t155 = true then (some (0, 2)) else ((spec_CronNumber.f kj4 a1).bind fun bt156 => (some (bt156.1, bt156.2)))) = some (r1, r2) := H
            have A14 := Aside0.mk A140
            clear A140
            by_cases c15 : t155 = true
            · subst c15
              have H1 : (some (0, 2)) = some (r1, r2) := by rw [if_pos rfl] at H; exact H
              clear H
              have H := H1
              clear H1
              simp only [Option.some.injEq, Prod.mk.injEq] at H
              obtain ⟨rfl, rfl⟩ := H
              go_wp2_with (first | (go_at_call 45; (with_reducible refine (spec_cronForeign.calls kj4 a1 true _ A14.out).mono ?_); rintro e w' ⟨rfl, ⟨nd, rfl⟩⟩))
              go_ret2
              exact ⟨by first | rfl | (simp [errW_none, errW_some] <;> rfl) | (simp [*, errW_none, errW_some] <;> rfl), by repeat (first | (with_reducible first | exact HB.out | apply below_alloc | apply pw_below_drewN | apply below_drew1) | exact HB.out)⟩
            · replace c15 := Bool.eq_false_iff.mpr c15
              subst c15
              have H1 : ((spec_CronNumber.f kj4 a1).bind fun bt156 => (some (bt156.1, bt156.2))) = some (r1, r2) := by rw [if_neg (show ¬ (false = true) by decide)] at H; exact H
              clear H
              have H := H1
              clear H1
              replace H := Option.bind_eq_some_iff.mp H
              obtain ⟨⟨t156, t157⟩, A160, H⟩ := H
              replace H : (some (t156, t157)) = some (r1, r2) := H
              have A16 := Aside0.mk A160
              clear A160
              simp only [Option.some.injEq, Prod.mk.injEq] at H
              obtain ⟨rfl, rfl⟩ := H
              go_wp2_with (first | (go_at_call 45; (with_reducible refine (spec_cronForeign.calls kj4 a1 false _ A14.out).mono ?_); rintro e w' ⟨rfl, ⟨nd, rfl⟩⟩) | ((with_reducible refine gate_callee (f := 102) rfl ?_); refine goesL_ (some 35) rfl rfl Tryz.func102 (by kernel_rfl) rfl #[.string a1] rfl (by (try simp only [List.map_toArray, List.map_cons, List.map_nil]); first | done | rfl | (simp only [List.length_drop, List.length_take]; rfl)) ?_; (with_reducible refine (spec_CronNumber.calls kj4 a1 t156 t157 _ A16.out).mono ?_); rintro e w17 ⟨rfl, hb⟩; refine ⟨_, rfl, ?_⟩; have n0_ := Aside0.mk (below_step (by repeat (first | (with_reducible first | exact HB.out | apply below_alloc | apply pw_below_drewN | apply below_drew1) | exact HB.out)) hb); clear HB; have HB := n0_; clear n0_; (try clear hb); (try clear hb2); (try clear hk); (try clear hi)))
              go_ret2
              exact ⟨by first | rfl | (simp [errW_none, errW_some] <;> rfl) | (simp [*, errW_none, errW_some] <;> rfl), by repeat (first | (with_reducible first | exact HB.out | apply below_alloc | apply pw_below_drewN | apply below_drew1) | exact HB.out)⟩
          · replace c13 := Bool.eq_false_iff.mpr c13
            subst c13
            have H1 : ((spec_CronNumber.f kj4 a1).bind fun bt158 => (some (bt158.1, bt158.2))) = some (r1, r2) := by rw [if_neg (show ¬ (false = true) by decide)] at H; exact H
            clear H
            have H := H1
            clear H1
            replace H := Option.bind_eq_some_iff.mp H
            obtain ⟨⟨t158, t159⟩, A180, H⟩ := H
            replace H : (some (t158, t159)) = some (r1, r2) := H
            have A18 := Aside0.mk A180
            clear A180
            simp only [Option.some.injEq, Prod.mk.injEq] at H
            obtain ⟨rfl, rfl⟩ := H
            go_wp2_with (first | ((with_reducible refine gate_callee (f := 102) rfl ?_); refine goesL_ (some 35) rfl rfl Tryz.func102 (by kernel_rfl) rfl #[.string a1] rfl (by (try simp only [List.map_toArray, List.map_cons, List.map_nil]); first | done | rfl | (simp only [List.length_drop, List.length_take]; rfl)) ?_; (with_reducible refine (spec_CronNumber.calls kj4 a1 t158 t159 _ A18.out).mono ?_); rintro e w19 ⟨rfl, hb⟩; refine ⟨_, rfl, ?_⟩; have n0_ := Aside0.mk (below_step (by repeat (first | (with_reducible first | exact HB.out | apply below_alloc | apply pw_below_drewN | apply below_drew1) | exact HB.out)) hb); clear HB; have HB := n0_; clear n0_; (try clear hb); (try clear hb2); (try clear hk); (try clear hi)))
            go_ret2
            exact ⟨by first | rfl | (simp [errW_none, errW_some] <;> rfl) | (simp [*, errW_none, errW_some] <;> rfl), by repeat (first | (with_reducible first | exact HB.out | apply below_alloc | apply pw_below_drewN | apply below_drew1) | exact HB.out)⟩
end Go.Proofs.YtikgnpachlgakaaGreatDoor.Pr

namespace Go.Proofs.YtikgnpachlgakaaGreatDoor.Pr
open Go.RowKit Go.Proofs.YtikgnpachlgakaaGreatDoorW.PrintWords Go.Proofs.YtikgnpachlgakaaGreatDoorW.PrintLast Go.Proofs.YtikgnpachlgakaaGreatDoorW.PrintMore
attribute [local go_sem] max2_int min2_int max_two min_two max_three min_three max_four min_four   -- for this text's walks alone
set_option linter.unusedVariables false
set_option linter.unusedSimpArgs false
/-! ### spec_cronEnds: function 94 -/
def spec_cronEnds.j0 : Nat → List ByteArray → Bool → Int → Int → Int → Option (Int × Int × Bool × Bool × Int)
  | 0, _, _, _, _, _ => none
  | k + 1, x9, x23, x161000, x161001, x161002 => if x23 = true then (if (x9.length : Int) > 1 then (some (x161000, x161001, true, ((x9.length : Int) == 1), 2)) else (if 0 < (x9.length : Int) then (if (rdOf ByteArray.empty x9 0).toList = ([63] : List UInt8) then (if x161002 = 3 then (some (x161000, x161001, true, ((x9.length : Int) == 1), 1)) else (if x161002 = 5 then (some (x161000, x161001, true, ((x9.length : Int) == 1), 1)) else (some (x161000, x161001, true, ((x9.length : Int) == 1), 2)))) else (some (x161000, x161001, true, ((x9.length : Int) == 1), 1))) else (none))) else (if 0 < (x9.length : Int) then ((spec_CronValue.f k x161002 (rdOf ByteArray.empty x9 0)).bind fun bt168 => (if (x9.length : Int) = 1 then (some (bt168.1, bt168.1, false, true, bt168.2)) else (if (x9.length : Int) = 2 then (if 1 < (x9.length : Int) then ((spec_CronValue.f k x161002 (rdOf ByteArray.empty x9 1)).bind fun bt171 => ((spec_worse.f bt168.2 bt171.2).bind fun t173 => (some (bt168.1, bt171.1, false, false, t173)))) else (none)) else (some (0, 0, false, false, 0))))) else (none))
def spec_cronEnds.f (k : Nat) (a0_0 : Int) (a0_1 : Int) (a0_2 : Int) (a1 : ByteArray) : Option (Int × Int × Bool × Bool × Int) := (spec_cronPieces.f k a1 45).bind fun t161 => (if 0 < (t161.length : Int) then (if (rdOf ByteArray.empty t161 0).toList = ([42] : List UInt8) then (spec_cronEnds.j0 k t161 true a0_0 a0_1 a0_2) else (spec_cronEnds.j0 k t161 ((rdOf ByteArray.empty t161 0).toList == ([63] : List UInt8)) a0_0 a0_1 a0_2)) else (none))
theorem spec_cronEnds.mono_l : ∀ k, (∀ y0 y1 y2 y3 y4, LeO (spec_cronEnds.j0 k y0 y1 y2 y3 y4) (spec_cronEnds.j0 (k + 1) y0 y1 y2 y3 y4))
  | 0 => fun _ _ _ _ _ r h => by simp [spec_cronEnds.j0] at h
  | k + 1 => by
    have ih0 := spec_cronEnds.mono_l k
    · intro y0 y1 y2 y3 y4
      unfold spec_cronEnds.j0
      repeat' first
      | (with_reducible exact ih0 _ _ _ _ _)
      | (with_reducible exact spec_CronValue.mono _ _ _)
      | (with_reducible exact spec_cronPieces.mono _ _ _)
      | (with_reducible exact LeO.refl _)
      | (with_reducible exact LeO.none _)
      | (with_reducible refine LeO.ite ?_ ?_)
      | (with_reducible refine LeO.bind ?_ (fun _ => ?_))
      | exact ih0 _ _ _ _ _
      | exact spec_CronValue.mono _ _ _
      | exact spec_cronPieces.mono _ _ _
      | exact LeO.none _
      | refine LeO.ite ?_ ?_
      | refine LeO.bind ?_ (fun _ => ?_)
theorem spec_cronEnds.mono : ∀ a0 a1 a2 a3 k, LeO (spec_cronEnds.f k a0 a1 a2 a3) (spec_cronEnds.f (k + 1) a0 a1 a2 a3) := by
  intro a0 a1 a2 a3 k
  have ih0 := spec_cronEnds.mono_l k
  unfold spec_cronEnds.f
  repeat' first
      | (with_reducible exact ih0 _ _ _ _ _)
      | (with_reducible exact spec_CronValue.mono _ _ _)
      | (with_reducible exact spec_cronPieces.mono _ _ _)
      | (with_reducible exact LeO.refl _)
      | (with_reducible exact LeO.none _)
      | (with_reducible refine LeO.ite ?_ ?_)
      | (with_reducible refine LeO.bind ?_ (fun _ => ?_))
      | exact ih0 _ _ _ _ _
      | exact spec_CronValue.mono _ _ _
      | exact spec_cronPieces.mono _ _ _
      | exact LeO.none _
      | refine LeO.ite ?_ ?_
      | refine LeO.bind ?_ (fun _ => ?_)
def spec_cronEnds.T6 : Bool × List (List Nat × List Nat) := (true, [([], []), ([0], [0]), ([], []), ([2], [2]), ([], []), ([4], [4]), ([5], [5]), ([], []), ([1, 0, 1], [1]), ([3, 8, 0, 1, 2, 3, 8], [3]), ([9, 0, 1, 2, 3, 8, 9], []), ([6, 10, 0, 1, 2, 3, 4, 5, 6, 8, 9, 10], [6]), ([7, 11, 0, 1, 2, 3, 4, 5, 6, 7, 8, 9, 10, 11], [7])])
def spec_cronEnds.B6 : List Nat := [0, 1, 0, 4, 0, 16, 48, 0, 3, 271, 783, 1919, 4095]
theorem spec_cronEnds.tab6 : rtab .any (opsOf Tryz.f94 6) = spec_cronEnds.T6 := by kernel_rfl
theorem spec_cronEnds.bits6 : waitsOk spec_cronEnds.T6.2 spec_cronEnds.B6 = true := by kernel_rfl
def spec_cronEnds.T7 : Bool × List (List Nat × List Nat) := (true, [([], []), ([0], [0]), ([], []), ([2], [2]), ([3], [3]), ([1, 4], [1, 4]), ([5], [5]), ([6], [6]), ([6], [6]), ([7, 5, 0, 1, 2, 3, 4, 5, 6, 7], [7]), ([8, 9, 0, 1, 2, 3, 4, 5, 6, 7, 8, 9], [8])])
def spec_cronEnds.B7 : List Nat := [0, 1, 0, 4, 12, 31, 63, 127, 127, 255, 1023]
theorem spec_cronEnds.tab7 : rtab .any (opsOf Tryz.f94 7) = spec_cronEnds.T7 := by kernel_rfl
theorem spec_cronEnds.bits7 : waitsOk spec_cronEnds.T7.2 spec_cronEnds.B7 = true := by kernel_rfl
def spec_cronEnds.T12 : Bool × List (List Nat × List Nat) := (true, [([], []), ([0], [0]), ([], []), ([2], [2]), ([3], [3]), ([1, 4], [1, 4]), ([5], [5]), ([6], [6]), ([6], [6]), ([7, 5, 0, 1, 2, 3, 4, 5, 6, 7], [7]), ([8, 9, 0, 1, 2, 3, 4, 5, 6, 7, 8, 9], [8])])
def spec_cronEnds.B12 : List Nat := [0, 1, 0, 4, 12, 31, 63, 127, 127, 255, 1023]
theorem spec_cronEnds.tab12 : rtab .any (opsOf Tryz.f94 12) = spec_cronEnds.T12 := by kernel_rfl
theorem spec_cronEnds.bits12 : waitsOk spec_cronEnds.T12.2 spec_cronEnds.B12 = true := by kernel_rfl
set_option maxHeartbeats 8000000 in
set_option maxRecDepth 100000 in
theorem spec_cronEnds.calls (k : Nat) (a0_0 : Int) (a0_1 : Int) (a0_2 : Int) (a1 : ByteArray) (r1 : Int) (r2 : Int) (r3 : Bool) (r4 : Bool) (r5 : Int) (w : World) (h : spec_cronEnds.f k a0_0 a0_1 a0_2 a1 = some (r1, r2, r3, r4, r5)) :
    Calls Tryz.prog 94 #[.agg #[.int .i64 a0_0, .int .i64 a0_1, .int .i64 a0_2], .string a1] w fun e w' => e = .returned (.tuple #[.int .i64 r1, .int .i64 r2, .bool r3, .bool r4, .int .i64 r5]) ∧ Below w.heap.size w w' := by
  have hu145 := Tryz.underlying145
  have HB := Aside0.mk (Below.refl w.heap.size w)
  have H : ((spec_cronPieces.f k a1 45).bind fun t161 => (if 0 < (t161.length : Int) then (if (rdOf ByteArray.empty t161 0).toList = ([42] : List UInt8) then (spec_cronEnds.j0 k t161 true a0_0 a0_1 a0_2) else (spec_cronEnds.j0 k t161 ((rdOf ByteArray.empty t161 0).toList == ([63] : List UInt8)) a0_0 a0_1 a0_2)) else (none))) = some (r1, r2, r3, r4, r5) := h
  clear h
  replace H := Option.bind_eq_some_iff.mp H
  obtain ⟨t161, A30, H⟩ := H
  replace H : (if 0 < (t161.length : Int) then (if (rdOf ByteArray.empty t161 0).toList = ([42] : List UInt8) then (spec_cronEnds.j0 k t161 true a0_0 a0_1 a0_2) else (spec_cronEnds.j0 k t161 ((rdOf ByteArray.empty t161 0).toList == ([63] : List UInt8)) a0_0 a0_1 a0_2)) else (none)) = some (r1, r2, r3, r4, r5) := H
  have A3 := Aside0.mk A30
  clear A30
  have HC4 := Aside0.mk H
  clear H
  go_enter Tryz.func94, Tryz.ntmps94
  go_upto_region 2 with (first | ((with_reducible refine gate_dst (N := 2) rfl ?_); refine box_event ?hg (N := 2) ?hd (cs := #[.int .i64 a0_0, .int .i64 a0_1, .int .i64 a0_2]) (t := 145) ?hr ?_; (case hd => rfl); (case hg => rfl); (case hr => first | (go_simp; done) | (go_simp; rfl)); intro gb160 hg w5 hbox hb; have n0_ := Aside0.mk (below_step (by repeat (first | (with_reducible first | exact HB.out | apply below_alloc | apply pw_below_drewN | apply below_drew1) | exact HB.out)) hb); have n1_ := Aside0.mk (hbox); have n2_ := Aside0.mk ((by rw [hg]; exact (below_size (by repeat (first | (with_reducible first | exact HB.out | apply below_alloc | apply pw_below_drewN | apply below_drew1) | exact HB.out))) : w.heap.size ≤ gb160)); have n3_ := Aside0.mk ((by rw [hg]; exact (below_size (by repeat (first | (with_reducible first | exact HB.out | apply below_alloc | apply pw_below_drewN | apply below_drew1) | exact HB.out))) : w.heap.size ≤ gb160)); clear HB; have HB := n0_; have BK160 := n1_; have GW160 := n2_; have GE160 := n3_; clear n0_ n1_ n2_ n3_; clear hb hbox hg) | ((with_reducible refine gate_callee (f := 85) rfl ?_); refine goesL_ (some 13) rfl rfl Tryz.func85 (by kernel_rfl) rfl #[.string a1, .int .u8 45] rfl (by (try simp only [List.map_toArray, List.map_cons, List.map_nil]); first | done | rfl | (simp only [List.length_drop, List.length_take]; rfl)) ?_; (with_reducible refine (spec_cronPieces.calls k a1 45 t161 _ A3.out).mono ?_); rintro e w6 ⟨v162, rfl, ho0, hb⟩; refine ⟨_, rfl, ?_⟩; have n0_ := Aside0.mk (Kd.R_lower ho0 (below_size (by repeat (first | (with_reducible first | exact HB.out | apply below_alloc | apply pw_below_drewN | apply below_drew1 | refine below_set ?_ GE160.out) | exact HB.out)))); have n1_ := Aside0.mk (blk_below (g := gb160) (o := .cells #[.int .i64 a0_0, .int .i64 a0_1, .int .i64 a0_2] 145 (0, 0)) (by (with_reducible repeat (first | refine blk_drewN ?_ _ | refine blk_drew ?_ | refine blk_alloc ?_ _)); exact BK160.out) hb); have n2_ := Aside0.mk (below_step (by repeat (first | (with_reducible first | exact HB.out | apply below_alloc | apply pw_below_drewN | apply below_drew1 | refine below_set ?_ GE160.out) | exact HB.out)) hb); clear BK160; clear HB; have HO163 := n0_; have BK160 := n1_; have HB := n2_; clear n0_ n1_ n2_; (try clear hb); (try clear hb2); (try clear hk); (try clear hi); (try clear ho0)))
  (try simp only [Act.put, List.setIfInBounds_toArray, List.set_cons_zero, List.set_cons_succ])
  go_cut [23] (fun v23 wc => ∃ (kq : Nat) (x23_3 : Bool), v23 = .bool x23_3 ∧ Aside0 (spec_cronEnds.j0 kq t161 x23_3 a0_0 a0_1 a0_2 = some (r1, r2, r3, r4, r5)) ∧ Aside0 (kq ≤ k) ∧ Aside0 (Kd.R Kd.string 9 wc w.heap.size (fun _ => True) v162 t161) ∧ Aside0 (wc.heap[gb160]? = some (.cells #[.int .i64 a0_0, .int .i64 a0_1, .int .i64 a0_2] 145 (0, 0))) ∧ Aside0 (Below w.heap.size w wc))
  case first =>
    have H := HC4.out
    clear HC4
    by_cases c7 : 0 < (t161.length : Int)
    · rw [if_pos c7] at H
      have c7b0 : decide (0 < (t161.length : Int)) = true := decide_eq_true c7
      have c7b1 : decide (0 < t161.length) = true := decide_eq_true (by omega)
      clear c7
      (first | rw [c7b0] | (simp only [i64_w, i32_w]; rw [c7b0]) | skip)
      by_cases c8 : (rdOf ByteArray.empty t161 0).toList = ([42] : List UInt8)
      · rw [if_pos c8] at H
        have c8b0 : ((rdOf ByteArray.empty t161 0).toList == ([42] : List UInt8)) = true := beq_iff_eq.mpr c8
        have c8b1 : ((rdOf ByteArray.empty t161 0).toList != ([42] : List UInt8)) = false := bne_eq_false_iff_eq.mpr c8
        clear c8
        have H' := Aside0.mk H
        clear H
        obtain ⟨Ao9, co9, eo9⟩ := Kd.R_slice HO163.out
        subst eo9
        have p164 : 0 ≤ (0 : Int) := (by omega)
        have q164 : 0 < (t161.length : Int) := of_decide_eq_true (by first | (with_reducible assumption) | assumption)
        obtain ⟨ad164, e164, hx164_0⟩ := Kd.at_string (Kd.R_reads' HO163.out).2.2 0 p164 q164
        cases e164
        have qi164 : (0 < t161.length) = True := eq_true (by omega)
        (try rw [show ((0 : Int)).toNat = 0 from rfl] at hx164_0)
        (try rw [Addr.add_zero'] at hx164_0)
        replace p164 := eq_true p164
        replace q164 := eq_true q164
        go_wp2
        go_meet
        case rel => exact ⟨_, (true), (by first | rfl | (simp; done) | (simp [*]; done)), H', ⟨by first | omega | exact Nat.le_refl _⟩, ⟨by (with_reducible repeat (first | apply Kd.R_alloc | apply Kd.R_drewN | apply Kd.R_drew)); exact HO163.out⟩, ⟨by (with_reducible repeat (first | refine blk_drewN ?_ _ | refine blk_drew ?_ | refine blk_alloc ?_ _)); exact BK160.out⟩, ⟨by repeat (first | (with_reducible first | exact HB.out | apply below_alloc | apply pw_below_drewN | apply below_drew1 | refine below_set ?_ GE160.out) | exact HB.out)⟩⟩
      · rw [if_neg c8] at H
        have c8b0 : ((rdOf ByteArray.empty t161 0).toList == ([42] : List UInt8)) = false := beq_eq_false_iff_ne.mpr c8
        have c8b1 : ((rdOf ByteArray.empty t161 0).toList != ([42] : List UInt8)) = true := bne_iff_ne.mpr c8
        have H' := Aside0.mk H
        clear H
        obtain ⟨Ao10, co10, eo10⟩ := Kd.R_slice HO163.out
        subst eo10
        have p164 : 0 ≤ (0 : Int) := (by omega)
        have q164 : 0 < (t161.length : Int) := of_decide_eq_true (by first | (with_reducible assumption) | assumption)
        obtain ⟨ad164, e164, hx164_0⟩ := Kd.at_string (Kd.R_reads' HO163.out).2.2 0 p164 q164
        cases e164
        have qi164 : (0 < t161.length) = True := eq_true (by omega)
        (try rw [show ((0 : Int)).toNat = 0 from rfl] at hx164_0)
        (try rw [Addr.add_zero'] at hx164_0)
        replace p164 := eq_true p164
        replace q164 := eq_true q164
        have p165 : 0 ≤ (0 : Int) := (by omega)
        have q165 : 0 < (t161.length : Int) := of_decide_eq_true (by first | (with_reducible assumption) | assumption)
        obtain ⟨ad165, e165, hx165_0⟩ := Kd.at_string (Kd.R_reads' HO163.out).2.2 0 p165 q165
        obtain rfl : ad164 = ad165 := (by injection e165)
        have qi165 : (0 < t161.length) = True := eq_true (by omega)
        (try rw [show ((0 : Int)).toNat = 0 from rfl] at hx165_0)
        (try rw [Addr.add_zero'] at hx165_0)
        replace p165 := eq_true p165
        replace q165 := eq_true q165
        go_wp2
        go_meet
        case rel => exact ⟨_, (((rdOf ByteArray.empty t161 0).toList == ([63] : List UInt8))), (by first | rfl | (simp; done) | (simp [*]; done)), H', ⟨by first | omega | exact Nat.le_refl _⟩, ⟨by (with_reducible repeat (first | apply Kd.R_alloc | apply Kd.R_drewN | apply Kd.R_drew)); exact HO163.out⟩, ⟨by (with_reducible repeat (first | refine blk_drewN ?_ _ | refine blk_drew ?_ | refine blk_alloc ?_ _)); exact BK160.out⟩, ⟨by repeat (first | (with_reducible first | exact HB.out | apply below_alloc | apply pw_below_drewN | apply below_drew1 | refine below_set ?_ GE160.out) | exact HB.out)⟩⟩
    · rw [if_neg c7] at H
      exact absurd H (by simp)
  case rest =>
    clear HC4
    try clear p1
    try clear q1
    try clear hx1
    try clear qi1
    try clear p2
    try clear c7
    try clear c7b0
    try clear c7b1
    try clear c8
    try clear c8b0
    try clear c8b1
    try clear c9
    try clear hx164_0
    try clear hx165_0
    try clear p164
    try clear p165
    try clear q164
    try clear q165
    obtain ⟨kq, x23_3, rfl, HA, HJ3, HO_9, BK160, HB⟩ := hcut
    cases kq with
    | zero => exact absurd HA.out (by simp [spec_cronEnds.j0])
    | succ kj3 =>
      have H := HA.out
      clear HA
      simp only [spec_cronEnds.j0] at H
      by_cases c11 : x23_3 = true
      · subst c11
        have H1 : (if (t161.length : Int) > 1 then (some (a0_0, a0_1, true, ((t161.length : Int) == 1), 2)) else (if 0 < (t161.length : Int) then (if (rdOf ByteArray.empty t161 0).toList = ([63] : List UInt8) then (if a0_2 = 3 then (some (a0_0, a0_1, true, ((t161.length : Int) == 1), 1)) else (if a0_2 = 5 then (some (a0_0, a0_1, true, ((t161.length : Int) == 1), 1)) else (some (a0_0, a0_1, true, ((t161.length : Int) == 1), 2)))) else (some (a0_0, a0_1, true, ((t161.length : Int) == 1), 1))) else (none))) = some (r1, r2, r3, r4, r5) := by rw [if_pos rfl] at H; exact H
        clear H
        have H := H1
        clear H1
        by_cases c12 : (t161.length : Int) > 1
        · rw [if_pos c12] at H
          have c12b0 : decide (1 < (t161.length : Int)) = true := decide_eq_true c12
          have c12b1 : decide (1 < t161.length) = true := decide_eq_true (by omega)
          clear c12
          simp only [Option.some.injEq, Prod.mk.injEq] at H
          obtain ⟨rfl, rfl, rfl, rfl, rfl⟩ := H
          obtain ⟨Ao13, co13, eo13⟩ := Kd.R_slice HO_9.out
          subst eo13
          try go_wp2
          have n0_ := Aside0.mk (Kd.R_drew HO_9.out)
          have n1_ := Aside0.mk (blk_drew BK160.out)
          have n2_ := Aside0.mk (below_drew1 HB.out)
          clear HO_9
          clear BK160
          clear HB
          have HO_9 := n0_
          have BK160 := n1_
          have HB := n2_
          clear n0_ n1_ n2_
          refine start_ (n := 13) (S := fun w' => w'.cell? ⟨gb160, 0, none⟩ = some (.int .i64 a0_0) ∧ w'.cell? ⟨gb160, 1, none⟩ = some (.int .i64 a0_1) ∧ w'.cell? ⟨gb160, 2, none⟩ = some (.int .i64 a0_2)) (ds := []) #[false, false, false, false, false, false, false, false, false, false, false, false, false] (by kernel_rfl) rfl rfl ⟨(blk_cell BK160.out 0).trans rfl, (blk_cell BK160.out 1).trans rfl, (blk_cell BK160.out 2).trans rfl⟩ (fun hHeld => ?_); refine with_tabW spec_cronEnds.tab6 spec_cronEnds.bits6 (fun HT_ HW_ => ?_)
          generalize wc.drew = w14 at HO_9 BK160 HB hHeld ⊢
          refine pure_ (i := 0) (N := some 43) (v := ?_) (a' := ?_) #[true, false, false, false, false, false, false, false, false, false, false, false, false] rfl rfl (any_of HT_.out (by kernel_rfl)) (fun _ _ _ h => h) (Or.inl ⟨by rfl, ?_⟩) ?_ ?_
          rotate_left
          · intro w'
            go_simp
            with_reducible rfl
          rotate_left
          · simp only [Act.put, List.setIfInBounds_toArray, List.set_cons_zero, List.set_cons_succ, i64_w, i32_w]
            rfl
          refine pure_ (i := 2) (N := some 45) (v := ?_) (a' := ?_) #[true, false, true, false, false, false, false, false, false, false, false, false, false] rfl rfl (any_of HT_.out (by kernel_rfl)) (fun _ _ _ h => h) (Or.inl ⟨by rfl, ?_⟩) ?_ ?_
          rotate_left
          · intro w'
            go_simp
            with_reducible rfl
          rotate_left
          · simp only [Act.put, List.setIfInBounds_toArray, List.set_cons_zero, List.set_cons_succ, i64_w, i32_w]
            rfl
          refine pure_ (i := 4) (N := some 47) (v := ?_) (a' := ?_) #[true, false, true, false, true, false, false, false, false, false, false, false, false] rfl rfl (any_of HT_.out (by kernel_rfl)) (fun _ _ _ h => h) (Or.inl ⟨by rfl, ?_⟩) ?_ ?_
          rotate_left
          · intro w'
            go_simp
            with_reducible rfl
          rotate_left
          · simp only [Act.put, List.setIfInBounds_toArray, List.set_cons_zero, List.set_cons_succ, i64_w, i32_w]
            rfl
          refine pure_ (i := 5) (N := some 48) (v := ?_) (a' := ?_) #[true, false, true, false, true, true, false, false, false, false, false, false, false] rfl rfl (any_of HT_.out (by kernel_rfl)) (fun _ _ _ h => h) (Or.inl ⟨by rfl, ?_⟩) ?_ ?_
          rotate_left
          · intro w'
            go_simp
            with_reducible rfl
          rotate_left
          · simp only [Act.put, List.setIfInBounds_toArray, List.set_cons_zero, List.set_cons_succ, i64_w, i32_w]
            rfl
          refine pure_ (i := 6) (N := some 49) (v := ?_) (a' := ?_) #[true, false, true, false, true, true, true, false, false, false, false, false, false] rfl rfl (any_of HT_.out (by kernel_rfl)) (fun _ _ _ h => h) (Or.inl ⟨by rfl, ?_⟩) ?_ ?_
          rotate_left
          · intro w'
            go_simp
            with_reducible rfl
          rotate_left
          · simp only [Act.put, List.setIfInBounds_toArray, List.set_cons_zero, List.set_cons_succ, i64_w, i32_w]
            rfl
          refine pure_ (i := 7) (N := some 50) (v := ?_) (a' := ?_) #[true, false, true, false, true, true, true, true, false, false, false, false, false] rfl rfl (any_of HT_.out (by kernel_rfl)) (fun _ _ _ h => h) (Or.inl ⟨by rfl, ?_⟩) ?_ ?_
          rotate_left
          · intro w'
            go_simp
            with_reducible rfl
          rotate_left
          · simp only [Act.put, List.setIfInBounds_toArray, List.set_cons_zero, List.set_cons_succ, i64_w, i32_w]
            rfl
          refine take_ (i := 1) (N := some 44) (v := ?_) (a' := ?_) #[true, true, true, false, true, true, true, true, false, false, false, false, false] rfl rfl (take_ofW HT_.out HW_.out (by kernel_rfl)) (fun _ _ _ h => h) (Or.inl ⟨by rfl, ?_⟩) hHeld ?_ ?_
          rotate_left
          · rintro w' ⟨s0, s1, s2⟩
            go_simp
            with_reducible rfl
          rotate_left
          · simp only [Act.put, List.setIfInBounds_toArray, List.set_cons_zero, List.set_cons_succ, i64_w, i32_w]
            rfl
          refine pure_ (i := 8) (N := some 4) (v := ?_) (a' := ?_) #[true, true, true, false, true, true, true, true, true, false, false, false, false] rfl rfl (any_of HT_.out (by kernel_rfl)) (fun _ _ _ h => h) (Or.inl ⟨by rfl, ?_⟩) ?_ ?_
          rotate_left
          · intro w'
            go_simp
            with_reducible rfl
          rotate_left
          · simp only [Act.put, List.setIfInBounds_toArray, List.set_cons_zero, List.set_cons_succ, i64_w, i32_w]
            rfl
          refine take_ (i := 3) (N := some 46) (v := ?_) (a' := ?_) #[true, true, true, true, true, true, true, true, true, false, false, false, false] rfl rfl (take_ofW HT_.out HW_.out (by kernel_rfl)) (fun _ _ _ h => h) (Or.inl ⟨by rfl, ?_⟩) hHeld ?_ ?_
          rotate_left
          · rintro w' ⟨s0, s1, s2⟩
            go_simp
            with_reducible rfl
          rotate_left
          · simp only [Act.put, List.setIfInBounds_toArray, List.set_cons_zero, List.set_cons_succ, i64_w, i32_w]
            rfl
          refine pure_ (i := 9) (N := some 5) (v := ?_) (a' := ?_) #[true, true, true, true, true, true, true, true, true, true, false, false, false] rfl rfl (any_of HT_.out (by kernel_rfl)) (fun _ _ _ h => h) (Or.inl ⟨by rfl, ?_⟩) ?_ ?_
          rotate_left
          · intro w'
            go_simp
            with_reducible rfl
          rotate_left
          · simp only [Act.put, List.setIfInBounds_toArray, List.set_cons_zero, List.set_cons_succ, i64_w, i32_w]
            rfl
          refine pure_ (i := 10) (N := some 6) (v := ?_) (a' := ?_) #[true, true, true, true, true, true, true, true, true, true, true, false, false] rfl rfl (any_of HT_.out (by kernel_rfl)) (fun _ _ _ h => h) (Or.inl ⟨by rfl, ?_⟩) ?_ ?_
          rotate_left
          · intro w'
            go_simp
            with_reducible rfl
          rotate_left
          · simp only [Act.put, List.setIfInBounds_toArray, List.set_cons_zero, List.set_cons_succ, i64_w, i32_w]
            rfl
          refine pure_ (i := 11) (N := some 7) (v := ?_) (a' := ?_) #[true, true, true, true, true, true, true, true, true, true, true, true, false] rfl rfl (any_of HT_.out (by kernel_rfl)) (fun _ _ _ h => h) (Or.inl ⟨by rfl, ?_⟩) ?_ ?_
          rotate_left
          · intro w'
            go_simp
            with_reducible rfl
          rotate_left
          · simp only [Act.put, List.setIfInBounds_toArray, List.set_cons_zero, List.set_cons_succ, i64_w, i32_w]
            rfl
          refine pure_ (i := 12) (N := some 8) (v := ?_) (a' := ?_) #[true, true, true, true, true, true, true, true, true, true, true, true, true] rfl rfl (any_of HT_.out (by kernel_rfl)) (fun _ _ _ h => h) (Or.inl ⟨by rfl, ?_⟩) ?_ ?_
          rotate_left
          · intro w'
            go_simp
            with_reducible rfl
          rotate_left
          · simp only [Act.put, List.setIfInBounds_toArray, List.set_cons_zero, List.set_cons_succ, i64_w, i32_w]
            rfl
          refine done_ (done_of HT_.out (by kernel_rfl)) ?_
          try go_wp2
          refine bodyPost_ret (results_list (rs := [.tmp 4, .tmp 5, .tmp 6, .tmp 7, .tmp 8]) rfl (by simp) (.tmp (.tmp (.tmp (.tmp (.tmp .nil)))))) rfl ?_
          exact ⟨by first | rfl | (simp [errW_none, errW_some] <;> rfl) | (simp [*, errW_none, errW_some] <;> rfl), by repeat (first | (with_reducible first | exact HB.out | apply below_alloc | apply pw_below_drewN | apply below_drew1 | refine below_set ?_ GE160.out) | exact HB.out)⟩
        · rw [if_neg c12] at H
          have c12b0 : decide (1 < (t161.length : Int)) = false := decide_eq_false c12
          have c12b1 : decide (1 < t161.length) = false := decide_eq_false (by omega)
          clear c12
          by_cases c15 : 0 < (t161.length : Int)
          · rw [if_pos c15] at H
            have c15b0 : decide (0 < (t161.length : Int)) = true := decide_eq_true c15
            have c15b1 : decide (0 < t161.length) = true := decide_eq_true (by omega)
            clear c15
            by_cases c16 : (rdOf ByteArray.empty t161 0).toList = ([63] : List UInt8)
            · rw [if_pos c16] at H
              have c16b0 : ((rdOf ByteArray.empty t161 0).toList == ([63] : List UInt8)) = true := beq_iff_eq.mpr c16
              have c16b1 : ((rdOf ByteArray.empty t161 0).toList != ([63] : List UInt8)) = false := bne_eq_false_iff_eq.mpr c16
              clear c16
              by_cases c17 : a0_2 = 3
              · rw [if_pos c17] at H
                have c17b0 : (a0_2 == 3) = true := beq_iff_eq.mpr c17
                have c17b1 : (a0_2 != 3) = false := bne_eq_false_iff_eq.mpr c17
                clear c17
                simp only [Option.some.injEq, Prod.mk.injEq] at H
                obtain ⟨rfl, rfl, rfl, rfl, rfl⟩ := H
                obtain ⟨Ao18, co18, eo18⟩ := Kd.R_slice HO_9.out
                subst eo18
                have p166 : 0 ≤ (0 : Int) := (by omega)
                have q166 : 0 < (t161.length : Int) := of_decide_eq_true (by first | (with_reducible assumption) | assumption)
                obtain ⟨ad166, e166, hx166_0⟩ := Kd.at_string (Kd.R_reads' HO_9.out).2.2 0 p166 q166
                cases e166
                have qi166 : (0 < t161.length) = True := eq_true (by omega)
                (try rw [show ((0 : Int)).toNat = 0 from rfl] at hx166_0)
                (try rw [Addr.add_zero'] at hx166_0)
                replace p166 := eq_true p166
                replace q166 := eq_true q166
                have hcz19_0 : wc.cell? ⟨gb160, 0, none⟩ = some (.int .i64 a0_0) := (blk_cell BK160.out 0).trans rfl
                have hcz19_1 : wc.cell? ⟨gb160, 1, none⟩ = some (.int .i64 a0_1) := (blk_cell BK160.out 1).trans rfl
                have hcz19_2 : wc.cell? ⟨gb160, 2, none⟩ = some (.int .i64 a0_2) := (blk_cell BK160.out 2).trans rfl
                have hfz19_0 := blk_frozen BK160.out 0
                have hfz19_1 := blk_frozen BK160.out 1
                have hfz19_2 := blk_frozen BK160.out 2
                try go_wp2
                have n0_ := Aside0.mk (Kd.R_drew HO_9.out)
                have n1_ := Aside0.mk (blk_drew BK160.out)
                have n2_ := Aside0.mk (below_drew1 HB.out)
                clear HO_9
                clear BK160
                clear HB
                have HO_9 := n0_
                have BK160 := n1_
                have HB := n2_
                clear n0_ n1_ n2_
                refine start_ (n := 13) (S := fun w' => w'.cell? ⟨gb160, 0, none⟩ = some (.int .i64 a0_0) ∧ w'.cell? ⟨gb160, 1, none⟩ = some (.int .i64 a0_1) ∧ w'.cell? ⟨gb160, 2, none⟩ = some (.int .i64 a0_2)) (ds := []) #[false, false, false, false, false, false, false, false, false, false, false, false, false] (by kernel_rfl) rfl rfl ⟨(blk_cell BK160.out 0).trans rfl, (blk_cell BK160.out 1).trans rfl, (blk_cell BK160.out 2).trans rfl⟩ (fun hHeld => ?_); refine with_tabW spec_cronEnds.tab6 spec_cronEnds.bits6 (fun HT_ HW_ => ?_)
                generalize wc.drew = w20 at HO_9 BK160 HB hHeld ⊢
                refine pure_ (i := 0) (N := some 43) (v := ?_) (a' := ?_) #[true, false, false, false, false, false, false, false, false, false, false, false, false] rfl rfl (any_of HT_.out (by kernel_rfl)) (fun _ _ _ h => h) (Or.inl ⟨by rfl, ?_⟩) ?_ ?_
                rotate_left
                · intro w'
                  go_simp
                  with_reducible rfl
                rotate_left
                · simp only [Act.put, List.setIfInBounds_toArray, List.set_cons_zero, List.set_cons_succ, i64_w, i32_w]
                  rfl
                refine pure_ (i := 2) (N := some 45) (v := ?_) (a' := ?_) #[true, false, true, false, false, false, false, false, false, false, false, false, false] rfl rfl (any_of HT_.out (by kernel_rfl)) (fun _ _ _ h => h) (Or.inl ⟨by rfl, ?_⟩) ?_ ?_
                rotate_left
                · intro w'
                  go_simp
                  with_reducible rfl
                rotate_left
                · simp only [Act.put, List.setIfInBounds_toArray, List.set_cons_zero, List.set_cons_succ, i64_w, i32_w]
                  rfl
                refine pure_ (i := 4) (N := some 47) (v := ?_) (a' := ?_) #[true, false, true, false, true, false, false, false, false, false, false, false, false] rfl rfl (any_of HT_.out (by kernel_rfl)) (fun _ _ _ h => h) (Or.inl ⟨by rfl, ?_⟩) ?_ ?_
                rotate_left
                · intro w'
                  go_simp
                  with_reducible rfl
                rotate_left
                · simp only [Act.put, List.setIfInBounds_toArray, List.set_cons_zero, List.set_cons_succ, i64_w, i32_w]
                  rfl
                refine pure_ (i := 5) (N := some 48) (v := ?_) (a' := ?_) #[true, false, true, false, true, true, false, false, false, false, false, false, false] rfl rfl (any_of HT_.out (by kernel_rfl)) (fun _ _ _ h => h) (Or.inl ⟨by rfl, ?_⟩) ?_ ?_
                rotate_left
                · intro w'
                  go_simp
                  with_reducible rfl
                rotate_left
                · simp only [Act.put, List.setIfInBounds_toArray, List.set_cons_zero, List.set_cons_succ, i64_w, i32_w]
                  rfl
                refine pure_ (i := 6) (N := some 49) (v := ?_) (a' := ?_) #[true, false, true, false, true, true, true, false, false, false, false, false, false] rfl rfl (any_of HT_.out (by kernel_rfl)) (fun _ _ _ h => h) (Or.inl ⟨by rfl, ?_⟩) ?_ ?_
                rotate_left
                · intro w'
                  go_simp
                  with_reducible rfl
                rotate_left
                · simp only [Act.put, List.setIfInBounds_toArray, List.set_cons_zero, List.set_cons_succ, i64_w, i32_w]
                  rfl
                refine pure_ (i := 7) (N := some 50) (v := ?_) (a' := ?_) #[true, false, true, false, true, true, true, true, false, false, false, false, false] rfl rfl (any_of HT_.out (by kernel_rfl)) (fun _ _ _ h => h) (Or.inl ⟨by rfl, ?_⟩) ?_ ?_
                rotate_left
                · intro w'
                  go_simp
                  with_reducible rfl
                rotate_left
                · simp only [Act.put, List.setIfInBounds_toArray, List.set_cons_zero, List.set_cons_succ, i64_w, i32_w]
                  rfl
                refine take_ (i := 1) (N := some 44) (v := ?_) (a' := ?_) #[true, true, true, false, true, true, true, true, false, false, false, false, false] rfl rfl (take_ofW HT_.out HW_.out (by kernel_rfl)) (fun _ _ _ h => h) (Or.inl ⟨by rfl, ?_⟩) hHeld ?_ ?_
                rotate_left
                · rintro w' ⟨s0, s1, s2⟩
                  go_simp
                  with_reducible rfl
                rotate_left
                · simp only [Act.put, List.setIfInBounds_toArray, List.set_cons_zero, List.set_cons_succ, i64_w, i32_w]
                  rfl
                refine pure_ (i := 8) (N := some 4) (v := ?_) (a' := ?_) #[true, true, true, false, true, true, true, true, true, false, false, false, false] rfl rfl (any_of HT_.out (by kernel_rfl)) (fun _ _ _ h => h) (Or.inl ⟨by rfl, ?_⟩) ?_ ?_
                rotate_left
                · intro w'
                  go_simp
                  with_reducible rfl
                rotate_left
                · simp only [Act.put, List.setIfInBounds_toArray, List.set_cons_zero, List.set_cons_succ, i64_w, i32_w]
                  rfl
                refine take_ (i := 3) (N := some 46) (v := ?_) (a' := ?_) #[true, true, true, true, true, true, true, true, true, false, false, false, false] rfl rfl (take_ofW HT_.out HW_.out (by kernel_rfl)) (fun _ _ _ h => h) (Or.inl ⟨by rfl, ?_⟩) hHeld ?_ ?_
                rotate_left
                · rintro w' ⟨s0, s1, s2⟩
                  go_simp
                  with_reducible rfl
                rotate_left
                · simp only [Act.put, List.setIfInBounds_toArray, List.set_cons_zero, List.set_cons_succ, i64_w, i32_w]
                  rfl
                refine pure_ (i := 9) (N := some 5) (v := ?_) (a' := ?_) #[true, true, true, true, true, true, true, true, true, true, false, false, false] rfl rfl (any_of HT_.out (by kernel_rfl)) (fun _ _ _ h => h) (Or.inl ⟨by rfl, ?_⟩) ?_ ?_
                rotate_left
                · intro w'
                  go_simp
                  with_reducible rfl
                rotate_left
                · simp only [Act.put, List.setIfInBounds_toArray, List.set_cons_zero, List.set_cons_succ, i64_w, i32_w]
                  rfl
                refine pure_ (i := 10) (N := some 6) (v := ?_) (a' := ?_) #[true, true, true, true, true, true, true, true, true, true, true, false, false] rfl rfl (any_of HT_.out (by kernel_rfl)) (fun _ _ _ h => h) (Or.inl ⟨by rfl, ?_⟩) ?_ ?_
                rotate_left
                · intro w'
                  go_simp
                  with_reducible rfl
                rotate_left
                · simp only [Act.put, List.setIfInBounds_toArray, List.set_cons_zero, List.set_cons_succ, i64_w, i32_w]
                  rfl
                refine pure_ (i := 11) (N := some 7) (v := ?_) (a' := ?_) #[true, true, true, true, true, true, true, true, true, true, true, true, false] rfl rfl (any_of HT_.out (by kernel_rfl)) (fun _ _ _ h => h) (Or.inl ⟨by rfl, ?_⟩) ?_ ?_
                rotate_left
                · intro w'
                  go_simp
                  with_reducible rfl
                rotate_left
                · simp only [Act.put, List.setIfInBounds_toArray, List.set_cons_zero, List.set_cons_succ, i64_w, i32_w]
                  rfl
                refine pure_ (i := 12) (N := some 8) (v := ?_) (a' := ?_) #[true, true, true, true, true, true, true, true, true, true, true, true, true] rfl rfl (any_of HT_.out (by kernel_rfl)) (fun _ _ _ h => h) (Or.inl ⟨by rfl, ?_⟩) ?_ ?_
                rotate_left
                · intro w'
                  go_simp
                  with_reducible rfl
                rotate_left
                · simp only [Act.put, List.setIfInBounds_toArray, List.set_cons_zero, List.set_cons_succ, i64_w, i32_w]
                  rfl
                refine done_ (done_of HT_.out (by kernel_rfl)) ?_
                try go_wp2
                refine bodyPost_ret (results_list (rs := [.tmp 4, .tmp 5, .tmp 6, .tmp 7, .tmp 8]) rfl (by simp) (.tmp (.tmp (.tmp (.tmp (.tmp .nil)))))) rfl ?_
                exact ⟨by first | rfl | (simp [errW_none, errW_some] <;> rfl) | (simp [*, errW_none, errW_some] <;> rfl), by repeat (first | (with_reducible first | exact HB.out | apply below_alloc | apply pw_below_drewN | apply below_drew1 | refine below_set ?_ GE160.out) | exact HB.out)⟩
              · rw [if_neg c17] at H
                have c17b0 : (a0_2 == 3) = false := beq_eq_false_iff_ne.mpr c17
                have c17b1 : (a0_2 != 3) = true := bne_iff_ne.mpr c17
                by_cases c21 : a0_2 = 5
                · rw [if_pos c21] at H
                  have c21b0 : (a0_2 == 5) = true := beq_iff_eq.mpr c21
                  have c21b1 : (a0_2 != 5) = false := bne_eq_false_iff_eq.mpr c21
                  clear c21
                  simp only [Option.some.injEq, Prod.mk.injEq] at H
                  obtain ⟨rfl, rfl, rfl, rfl, rfl⟩ := H
                  obtain ⟨Ao22, co22, eo22⟩ := Kd.R_slice HO_9.out
                  subst eo22
                  have p166 : 0 ≤ (0 : Int) := (by omega)
                  have q166 : 0 < (t161.length : Int) := of_decide_eq_true (by first | (with_reducible assumption) | assumption)
                  obtain ⟨ad166, e166, hx166_0⟩ := Kd.at_string (Kd.R_reads' HO_9.out).2.2 0 p166 q166
                  cases e166
                  have qi166 : (0 < t161.length) = True := eq_true (by omega)
                  (try rw [show ((0 : Int)).toNat = 0 from rfl] at hx166_0)
                  (try rw [Addr.add_zero'] at hx166_0)
                  replace p166 := eq_true p166
                  replace q166 := eq_true q166
                  have hcz23_0 : wc.cell? ⟨gb160, 0, none⟩ = some (.int .i64 a0_0) := (blk_cell BK160.out 0).trans rfl
                  have hcz23_1 : wc.cell? ⟨gb160, 1, none⟩ = some (.int .i64 a0_1) := (blk_cell BK160.out 1).trans rfl
                  have hcz23_2 : wc.cell? ⟨gb160, 2, none⟩ = some (.int .i64 a0_2) := (blk_cell BK160.out 2).trans rfl
                  have hfz23_0 := blk_frozen BK160.out 0
                  have hfz23_1 := blk_frozen BK160.out 1
                  have hfz23_2 := blk_frozen BK160.out 2
                  try go_wp2
                  have n0_ := Aside0.mk (Kd.R_drew HO_9.out)
                  have n1_ := Aside0.mk (blk_drew BK160.out)
                  have n2_ := Aside0.mk (below_drew1 HB.out)
                  clear HO_9
                  clear BK160
                  clear HB
                  have HO_9 := n0_
                  have BK160 := n1_
                  have HB := n2_
                  clear n0_ n1_ n2_
                  refine start_ (n := 13) (S := fun w' => w'.cell? ⟨gb160, 0, none⟩ = some (.int .i64 a0_0) ∧ w'.cell? ⟨gb160, 1, none⟩ = some (.int .i64 a0_1) ∧ w'.cell? ⟨gb160, 2, none⟩ = some (.int .i64 a0_2)) (ds := []) #[false, false, false, false, false, false, false, false, false, false, false, false, false] (by kernel_rfl) rfl rfl ⟨(blk_cell BK160.out 0).trans rfl, (blk_cell BK160.out 1).trans rfl, (blk_cell BK160.out 2).trans rfl⟩ (fun hHeld => ?_); refine with_tabW spec_cronEnds.tab6 spec_cronEnds.bits6 (fun HT_ HW_ => ?_)
                  generalize wc.drew = w24 at HO_9 BK160 HB hHeld ⊢
                  refine pure_ (i := 0) (N := some 43) (v := ?_) (a' := ?_) #[true, false, false, false, false, false, false, false, false, false, false, false, false] rfl rfl (any_of HT_.out (by kernel_rfl)) (fun _ _ _ h => h) (Or.inl ⟨by rfl, ?_⟩) ?_ ?_
                  rotate_left
                  · intro w'
                    go_simp
                    with_reducible rfl
                  rotate_left
                  · simp only [Act.put, List.setIfInBounds_toArray, List.set_cons_zero, List.set_cons_succ, i64_w, i32_w]
                    rfl
                  refine pure_ (i := 2) (N := some 45) (v := ?_) (a' := ?_) #[true, false, true, false, false, false, false, false, false, false, false, false, false] rfl rfl (any_of HT_.out (by kernel_rfl)) (fun _ _ _ h => h) (Or.inl ⟨by rfl, ?_⟩) ?_ ?_
                  rotate_left
                  · intro w'
                    go_simp
                    with_reducible rfl
                  rotate_left
                  · simp only [Act.put, List.setIfInBounds_toArray, List.set_cons_zero, List.set_cons_succ, i64_w, i32_w]
                    rfl
                  refine pure_ (i := 4) (N := some 47) (v := ?_) (a' := ?_) #[true, false, true, false, true, false, false, false, false, false, false, false, false] rfl rfl (any_of HT_.out (by kernel_rfl)) (fun _ _ _ h => h) (Or.inl ⟨by rfl, ?_⟩) ?_ ?_
                  rotate_left
                  · intro w'
                    go_simp
                    with_reducible rfl
                  rotate_left
                  · simp only [Act.put, List.setIfInBounds_toArray, List.set_cons_zero, List.set_cons_succ, i64_w, i32_w]
                    rfl
                  refine pure_ (i := 5) (N := some 48) (v := ?_) (a' := ?_) #[true, false, true, false, true, true, false, false, false, false, false, false, false] rfl rfl (any_of HT_.out (by kernel_rfl)) (fun _ _ _ h => h) (Or.inl ⟨by rfl, ?_⟩) ?_ ?_
                  rotate_left
                  · intro w'
                    go_simp
                    with_reducible rfl
                  rotate_left
                  · simp only [Act.put, List.setIfInBounds_toArray, List.set_cons_zero, List.set_cons_succ, i64_w, i32_w]
                    rfl
                  refine pure_ (i := 6) (N := some 49) (v := ?_) (a' := ?_) #[true, false, true, false, true, true, true, false, false, false, false, false, false] rfl rfl (any_of HT_.out (by kernel_rfl)) (fun _ _ _ h => h) (Or.inl ⟨by rfl, ?_⟩) ?_ ?_
                  rotate_left
                  · intro w'
                    go_simp
                    with_reducible rfl
                  rotate_left
                  · simp only [Act.put, List.setIfInBounds_toArray, List.set_cons_zero, List.set_cons_succ, i64_w, i32_w]
                    rfl
                  refine pure_ (i := 7) (N := some 50) (v := ?_) (a' := ?_) #[true, false, true, false, true, true, true, true, false, false, false, false, false] rfl rfl (any_of HT_.out (by kernel_rfl)) (fun _ _ _ h => h) (Or.inl ⟨by rfl, ?_⟩) ?_ ?_
                  rotate_left
                  · intro w'
                    go_simp
                    with_reducible rfl
                  rotate_left
                  · simp only [Act.put, List.setIfInBounds_toArray, List.set_cons_zero, List.set_cons_succ, i64_w, i32_w]
                    rfl
                  refine take_ (i := 1) (N := some 44) (v := ?_) (a' := ?_) #[true, true, true, false, true, true, true, true, false, false, false, false, false] rfl rfl (take_ofW HT_.out HW_.out (by kernel_rfl)) (fun _ _ _ h => h) (Or.inl ⟨by rfl, ?_⟩) hHeld ?_ ?_
                  rotate_left
                  · rintro w' ⟨s0, s1, s2⟩
                    go_simp
                    with_reducible rfl
                  rotate_left
                  · simp only [Act.put, List.setIfInBounds_toArray, List.set_cons_zero, List.set_cons_succ, i64_w, i32_w]
                    rfl
                  refine pure_ (i := 8) (N := some 4) (v := ?_) (a' := ?_) #[true, true, true, false, true, true, true, true, true, false, false, false, false] rfl rfl (any_of HT_.out (by kernel_rfl)) (fun _ _ _ h => h) (Or.inl ⟨by rfl, ?_⟩) ?_ ?_
                  rotate_left
                  · intro w'
                    go_simp
                    with_reducible rfl
                  rotate_left
                  · simp only [Act.put, List.setIfInBounds_toArray, List.set_cons_zero, List.set_cons_succ, i64_w, i32_w]
                    rfl
                  refine take_ (i := 3) (N := some 46) (v := ?_) (a' := ?_) #[true, true, true, true, true, true, true, true, true, false, false, false, false] rfl rfl (take_ofW HT_.out HW_.out (by kernel_rfl)) (fun _ _ _ h => h) (Or.inl ⟨by rfl, ?_⟩) hHeld ?_ ?_
                  rotate_left
                  · rintro w' ⟨s0, s1, s2⟩
                    go_simp
                    with_reducible rfl
                  rotate_left
                  · simp only [Act.put, List.setIfInBounds_toArray, List.set_cons_zero, List.set_cons_succ, i64_w, i32_w]
                    rfl
                  refine pure_ (i := 9) (N := some 5) (v := ?_) (a' := ?_) #[true, true, true, true, true, true, true, true, true, true, false, false, false] rfl rfl (any_of HT_.out (by kernel_rfl)) (fun _ _ _ h => h) (Or.inl ⟨by rfl, ?_⟩) ?_ ?_
                  rotate_left
                  · intro w'
                    go_simp
                    with_reducible rfl
                  rotate_left
                  · simp only [Act.put, List.setIfInBounds_toArray, List.set_cons_zero, List.set_cons_succ, i64_w, i32_w]
                    rfl
                  refine pure_ (i := 10) (N := some 6) (v := ?_) (a' := ?_) #[true, true, true, true, true, true, true, true, true, true, true, false, false] rfl rfl (any_of HT_.out (by kernel_rfl)) (fun _ _ _ h => h) (Or.inl ⟨by rfl, ?_⟩) ?_ ?_
                  rotate_left
                  · intro w'
                    go_simp
                    with_reducible rfl
                  rotate_left
                  · simp only [Act.put, List.setIfInBounds_toArray, List.set_cons_zero, List.set_cons_succ, i64_w, i32_w]
                    rfl
                  refine pure_ (i := 11) (N := some 7) (v := ?_) (a' := ?_) #[true, true, true, true, true, true, true, true, true, true, true, true, false] rfl rfl (any_of HT_.out (by kernel_rfl)) (fun _ _ _ h => h) (Or.inl ⟨by rfl, ?_⟩) ?_ ?_
                  rotate_left
                  · intro w'
                    go_simp
                    with_reducible rfl
                  rotate_left
                  · simp only [Act.put, List.setIfInBounds_toArray, List.set_cons_zero, List.set_cons_succ, i64_w, i32_w]
                    rfl
                  refine pure_ (i := 12) (N := some 8) (v := ?_) (a' := ?_) #[true, true, true, true, true, true, true, true, true, true, true, true, true] rfl rfl (any_of HT_.out (by kernel_rfl)) (fun _ _ _ h => h) (Or.inl ⟨by rfl, ?_⟩) ?_ ?_
                  rotate_left
                  · intro w'
                    go_simp
                    with_reducible rfl
                  rotate_left
                  · simp only [Act.put, List.setIfInBounds_toArray, List.set_cons_zero, List.set_cons_succ, i64_w, i32_w]
                    rfl
                  refine done_ (done_of HT_.out (by kernel_rfl)) ?_
                  try go_wp2
                  refine bodyPost_ret (results_list (rs := [.tmp 4, .tmp 5, .tmp 6, .tmp 7, .tmp 8]) rfl (by simp) (.tmp (.tmp (.tmp (.tmp (.tmp .nil)))))) rfl ?_
                  exact ⟨by first | rfl | (simp [errW_none, errW_some] <;> rfl) | (simp [*, errW_none, errW_some] <;> rfl), by repeat (first | (with_reducible first | exact HB.out | apply below_alloc | apply pw_below_drewN | apply below_drew1 | refine below_set ?_ GE160.out) | exact HB.out)⟩
                · rw [if_neg c21] at H
                  have c21b0 : (a0_2 == 5) = false := beq_eq_false_iff_ne.mpr c21
                  have c21b1 : (a0_2 != 5) = true := bne_iff_ne.mpr c21
                  simp only [Option.some.injEq, Prod.mk.injEq] at H
                  obtain ⟨rfl, rfl, rfl, rfl, rfl⟩ := H
                  obtain ⟨Ao25, co25, eo25⟩ := Kd.R_slice HO_9.out
                  subst eo25
                  have p166 : 0 ≤ (0 : Int) := (by omega)
                  have q166 : 0 < (t161.length : Int) := of_decide_eq_true (by first | (with_reducible assumption) | assumption)
                  obtain ⟨ad166, e166, hx166_0⟩ := Kd.at_string (Kd.R_reads' HO_9.out).2.2 0 p166 q166
                  cases e166
                  have qi166 : (0 < t161.length) = True := eq_true (by omega)
                  (try rw [show ((0 : Int)).toNat = 0 from rfl] at hx166_0)
                  (try rw [Addr.add_zero'] at hx166_0)
                  replace p166 := eq_true p166
                  replace q166 := eq_true q166
                  have hcz26_0 : wc.cell? ⟨gb160, 0, none⟩ = some (.int .i64 a0_0) := (blk_cell BK160.out 0).trans rfl
                  have hcz26_1 : wc.cell? ⟨gb160, 1, none⟩ = some (.int .i64 a0_1) := (blk_cell BK160.out 1).trans rfl
                  have hcz26_2 : wc.cell? ⟨gb160, 2, none⟩ = some (.int .i64 a0_2) := (blk_cell BK160.out 2).trans rfl
                  have hfz26_0 := blk_frozen BK160.out 0
                  have hfz26_1 := blk_frozen BK160.out 1
                  have hfz26_2 := blk_frozen BK160.out 2
                  try go_wp2
                  have n0_ := Aside0.mk (Kd.R_drew HO_9.out)
                  have n1_ := Aside0.mk (blk_drew BK160.out)
                  have n2_ := Aside0.mk (below_drew1 HB.out)
                  clear HO_9
                  clear BK160
                  clear HB
                  have HO_9 := n0_
                  have BK160 := n1_
                  have HB := n2_
                  clear n0_ n1_ n2_
                  refine start_ (n := 13) (S := fun w' => w'.cell? ⟨gb160, 0, none⟩ = some (.int .i64 a0_0) ∧ w'.cell? ⟨gb160, 1, none⟩ = some (.int .i64 a0_1) ∧ w'.cell? ⟨gb160, 2, none⟩ = some (.int .i64 a0_2)) (ds := []) #[false, false, false, false, false, false, false, false, false, false, false, false, false] (by kernel_rfl) rfl rfl ⟨(blk_cell BK160.out 0).trans rfl, (blk_cell BK160.out 1).trans rfl, (blk_cell BK160.out 2).trans rfl⟩ (fun hHeld => ?_); refine with_tabW spec_cronEnds.tab6 spec_cronEnds.bits6 (fun HT_ HW_ => ?_)
                  generalize wc.drew = w27 at HO_9 BK160 HB hHeld ⊢
                  refine pure_ (i := 0) (N := some 43) (v := ?_) (a' := ?_) #[true, false, false, false, false, false, false, false, false, false, false, false, false] rfl rfl (any_of HT_.out (by kernel_rfl)) (fun _ _ _ h => h) (Or.inl ⟨by rfl, ?_⟩) ?_ ?_
                  rotate_left
                  · intro w'
                    go_simp
                    with_reducible rfl
                  rotate_left
                  · simp only [Act.put, List.setIfInBounds_toArray, List.set_cons_zero, List.set_cons_succ, i64_w, i32_w]
                    rfl
                  refine pure_ (i := 2) (N := some 45) (v := ?_) (a' := ?_) #[true, false, true, false, false, false, false, false, false, false, false, false, false] rfl rfl (any_of HT_.out (by kernel_rfl)) (fun _ _ _ h => h) (Or.inl ⟨by rfl, ?_⟩) ?_ ?_
                  rotate_left
                  · intro w'
                    go_simp
                    with_reducible rfl
                  rotate_left
                  · simp only [Act.put, List.setIfInBounds_toArray, List.set_cons_zero, List.set_cons_succ, i64_w, i32_w]
                    rfl
                  refine pure_ (i := 4) (N := some 47) (v := ?_) (a' := ?_) #[true, false, true, false, true, false, false, false, false, false, false, false, false] rfl rfl (any_of HT_.out (by kernel_rfl)) (fun _ _ _ h => h) (Or.inl ⟨by rfl, ?_⟩) ?_ ?_
                  rotate_left
                  · intro w'
                    go_simp
                    with_reducible rfl
                  rotate_left
                  · simp only [Act.put, List.setIfInBounds_toArray, List.set_cons_zero, List.set_cons_succ, i64_w, i32_w]
                    rfl
                  refine pure_ (i := 5) (N := some 48) (v := ?_) (a' := ?_) #[true, false, true, false, true, true, false, false, false, false, false, false, false] rfl rfl (any_of HT_.out (by kernel_rfl)) (fun _ _ _ h => h) (Or.inl ⟨by rfl, ?_⟩) ?_ ?_
                  rotate_left
                  · intro w'
                    go_simp
                    with_reducible rfl
                  rotate_left
                  · simp only [Act.put, List.setIfInBounds_toArray, List.set_cons_zero, List.set_cons_succ, i64_w, i32_w]
                    rfl
                  refine pure_ (i := 6) (N := some 49) (v := ?_) (a' := ?_) #[true, false, true, false, true, true, true, false, false, false, false, false, false] rfl rfl (any_of HT_.out (by kernel_rfl)) (fun _ _ _ h => h) (Or.inl ⟨by rfl, ?_⟩) ?_ ?_
                  rotate_left
                  · intro w'
                    go_simp
                    with_reducible rfl
                  rotate_left
                  · simp only [Act.put, List.setIfInBounds_toArray, List.set_cons_zero, List.set_cons_succ, i64_w, i32_w]
                    rfl
                  refine pure_ (i := 7) (N := some 50) (v := ?_) (a' := ?_) #[true, false, true, false, true, true, true, true, false, false, false, false, false] rfl rfl (any_of HT_.out (by kernel_rfl)) (fun _ _ _ h => h) (Or.inl ⟨by rfl, ?_⟩) ?_ ?_
                  rotate_left
                  · intro w'
                    go_simp
                    with_reducible rfl
                  rotate_left
                  · simp only [Act.put, List.setIfInBounds_toArray, List.set_cons_zero, List.set_cons_succ, i64_w, i32_w]
                    rfl
                  refine take_ (i := 1) (N := some 44) (v := ?_) (a' := ?_) #[true, true, true, false, true, true, true, true, false, false, false, false, false] rfl rfl (take_ofW HT_.out HW_.out (by kernel_rfl)) (fun _ _ _ h => h) (Or.inl ⟨by rfl, ?_⟩) hHeld ?_ ?_
                  rotate_left
                  · rintro w' ⟨s0, s1, s2⟩
                    go_simp
                    with_reducible rfl
                  rotate_left
                  · simp only [Act.put, List.setIfInBounds_toArray, List.set_cons_zero, List.set_cons_succ, i64_w, i32_w]
                    rfl
                  refine pure_ (i := 8) (N := some 4) (v := ?_) (a' := ?_) #[true, true, true, false, true, true, true, true, true, false, false, false, false] rfl rfl (any_of HT_.out (by kernel_rfl)) (fun _ _ _ h => h) (Or.inl ⟨by rfl, ?_⟩) ?_ ?_
                  rotate_left
                  · intro w'
                    go_simp
                    with_reducible rfl
                  rotate_left
                  · simp only [Act.put, List.setIfInBounds_toArray, List.set_cons_zero, List.set_cons_succ, i64_w, i32_w]
                    rfl
                  refine take_ (i := 3) (N := some 46) (v := ?_) (a' := ?_) #[true, true, true, true, true, true, true, true, true, false, false, false, false] rfl rfl (take_ofW HT_.out HW_.out (by kernel_rfl)) (fun _ _ _ h => h) (Or.inl ⟨by rfl, ?_⟩) hHeld ?_ ?_
                  rotate_left
                  · rintro w' ⟨s0, s1, s2⟩
                    go_simp
                    with_reducible rfl
                  rotate_left
                  · simp only [Act.put, List.setIfInBounds_toArray, List.set_cons_zero, List.set_cons_succ, i64_w, i32_w]
                    rfl
                  refine pure_ (i := 9) (N := some 5) (v := ?_) (a' := ?_) #[true, true, true, true, true, true, true, true, true, true, false, false, false] rfl rfl (any_of HT_.out (by kernel_rfl)) (fun _ _ _ h => h) (Or.inl ⟨by rfl, ?_⟩) ?_ ?_
                  rotate_left
                  · intro w'
                    go_simp
                    with_reducible rfl
                  rotate_left
                  · simp only [Act.put, List.setIfInBounds_toArray, List.set_cons_zero, List.set_cons_succ, i64_w, i32_w]
                    rfl
                  refine pure_ (i := 10) (N := some 6) (v := ?_) (a' := ?_) #[true, true, true, true, true, true, true, true, true, true, true, false, false] rfl rfl (any_of HT_.out (by kernel_rfl)) (fun _ _ _ h => h) (Or.inl ⟨by rfl, ?_⟩) ?_ ?_
                  rotate_left
                  · intro w'
                    go_simp
                    with_reducible rfl
                  rotate_left
                  · simp only [Act.put, List.setIfInBounds_toArray, List.set_cons_zero, List.set_cons_succ, i64_w, i32_w]
                    rfl
                  refine pure_ (i := 11) (N := some 7) (v := ?_) (a' := ?_) #[true, true, true, true, true, true, true, true, true, true, true, true, false] rfl rfl (any_of HT_.out (by kernel_rfl)) (fun _ _ _ h => h) (Or.inl ⟨by rfl, ?_⟩) ?_ ?_
                  rotate_left
                  · intro w'
                    go_simp
                    with_reducible rfl
                  rotate_left
                  · simp only [Act.put, List.setIfInBounds_toArray, List.set_cons_zero, List.set_cons_succ, i64_w, i32_w]
                    rfl
                  refine pure_ (i := 12) (N := some 8) (v := ?_) (a' := ?_) #[true, true, true, true, true, true, true, true, true, true, true, true, true] rfl rfl (any_of HT_.out (by kernel_rfl)) (fun _ _ _ h => h) (Or.inl ⟨by rfl, ?_⟩) ?_ ?_
                  rotate_left
                  · intro w'
                    go_simp
                    with_reducible rfl
                  rotate_left
                  · simp only [Act.put, List.setIfInBounds_toArray, List.set_cons_zero, List.set_cons_succ, i64_w, i32_w]
                    rfl
                  refine done_ (done_of HT_.out (by kernel_rfl)) ?_
                  try go_wp2
                  refine bodyPost_ret (results_list (rs := [.tmp 4, .tmp 5, .tmp 6, .tmp 7, .tmp 8]) rfl (by simp) (.tmp (.tmp (.tmp (.tmp (.tmp .nil)))))) rfl ?_
                  exact ⟨by first | rfl | (simp [errW_none, errW_some] <;> rfl) | (simp [*, errW_none, errW_some] <;> rfl), by repeat (first | (with_reducible first | exact HB.out | apply below_alloc | apply pw_below_drewN | apply below_drew1 | refine below_set ?_ GE160.out) | exact HB.out)⟩
            · rw [if_neg c16] at H
              have c16b0 : ((rdOf ByteArray.empty t161 0).toList == ([63] : List UInt8)) = false := beq_eq_false_iff_ne.mpr c16
              have c16b1 : ((rdOf ByteArray.empty t161 0).toList != ([63] : List UInt8)) = true := bne_iff_ne.mpr c16
              simp only [Option.some.injEq, Prod.mk.injEq] at H
              obtain ⟨rfl, rfl, rfl, rfl, rfl⟩ := H
              obtain ⟨Ao28, co28, eo28⟩ := Kd.R_slice HO_9.out
              subst eo28
              have p166 : 0 ≤ (0 : Int) := (by omega)
              have q166 : 0 < (t161.length : Int) := of_decide_eq_true (by first | (with_reducible assumption) | assumption)
              obtain ⟨ad166, e166, hx166_0⟩ := Kd.at_string (Kd.R_reads' HO_9.out).2.2 0 p166 q166
              cases e166
              have qi166 : (0 < t161.length) = True := eq_true (by omega)
              (try rw [show ((0 : Int)).toNat = 0 from rfl] at hx166_0)
              (try rw [Addr.add_zero'] at hx166_0)
              replace p166 := eq_true p166
              replace q166 := eq_true q166
              try go_wp2
              have n0_ := Aside0.mk (Kd.R_drew HO_9.out)
              have n1_ := Aside0.mk (blk_drew BK160.out)
              have n2_ := Aside0.mk (below_drew1 HB.out)
              clear HO_9
              clear BK160
              clear HB
              have HO_9 := n0_
              have BK160 := n1_
              have HB := n2_
              clear n0_ n1_ n2_
              refine start_ (n := 13) (S := fun w' => w'.cell? ⟨gb160, 0, none⟩ = some (.int .i64 a0_0) ∧ w'.cell? ⟨gb160, 1, none⟩ = some (.int .i64 a0_1) ∧ w'.cell? ⟨gb160, 2, none⟩ = some (.int .i64 a0_2)) (ds := []) #[false, false, false, false, false, false, false, false, false, false, false, false, false] (by kernel_rfl) rfl rfl ⟨(blk_cell BK160.out 0).trans rfl, (blk_cell BK160.out 1).trans rfl, (blk_cell BK160.out 2).trans rfl⟩ (fun hHeld => ?_); refine with_tabW spec_cronEnds.tab6 spec_cronEnds.bits6 (fun HT_ HW_ => ?_)
              generalize wc.drew = w29 at HO_9 BK160 HB hHeld ⊢
              refine pure_ (i := 0) (N := some 43) (v := ?_) (a' := ?_) #[true, false, false, false, false, false, false, false, false, false, false, false, false] rfl rfl (any_of HT_.out (by kernel_rfl)) (fun _ _ _ h => h) (Or.inl ⟨by rfl, ?_⟩) ?_ ?_
              rotate_left
              · intro w'
                go_simp
                with_reducible rfl
              rotate_left
              · simp only [Act.put, List.setIfInBounds_toArray, List.set_cons_zero, List.set_cons_succ, i64_w, i32_w]
                rfl
              refine pure_ (i := 2) (N := some 45) (v := ?_) (a' := ?_) #[true, false, true, false, false, false, false, false, false, false, false, false, false] rfl rfl (any_of HT_.out (by kernel_rfl)) (fun _ _ _ h => h) (Or.inl ⟨by rfl, ?_⟩) ?_ ?_
              rotate_left
              · intro w'
                go_simp
                with_reducible rfl
              rotate_left
              · simp only [Act.put, List.setIfInBounds_toArray, List.set_cons_zero, List.set_cons_succ, i64_w, i32_w]
                rfl
              refine pure_ (i := 4) (N := some 47) (v := ?_) (a' := ?_) #[true, false, true, false, true, false, false, false, false, false, false, false, false] rfl rfl (any_of HT_.out (by kernel_rfl)) (fun _ _ _ h => h) (Or.inl ⟨by rfl, ?_⟩) ?_ ?_
              rotate_left
              · intro w'
                go_simp
                with_reducible rfl
              rotate_left
              · simp only [Act.put, List.setIfInBounds_toArray, List.set_cons_zero, List.set_cons_succ, i64_w, i32_w]
                rfl
              refine pure_ (i := 5) (N := some 48) (v := ?_) (a' := ?_) #[true, false, true, false, true, true, false, false, false, false, false, false, false] rfl rfl (any_of HT_.out (by kernel_rfl)) (fun _ _ _ h => h) (Or.inl ⟨by rfl, ?_⟩) ?_ ?_
              rotate_left
              · intro w'
                go_simp
                with_reducible rfl
              rotate_left
              · simp only [Act.put, List.setIfInBounds_toArray, List.set_cons_zero, List.set_cons_succ, i64_w, i32_w]
                rfl
              refine pure_ (i := 6) (N := some 49) (v := ?_) (a' := ?_) #[true, false, true, false, true, true, true, false, false, false, false, false, false] rfl rfl (any_of HT_.out (by kernel_rfl)) (fun _ _ _ h => h) (Or.inl ⟨by rfl, ?_⟩) ?_ ?_
              rotate_left
              · intro w'
                go_simp
                with_reducible rfl
              rotate_left
              · simp only [Act.put, List.setIfInBounds_toArray, List.set_cons_zero, List.set_cons_succ, i64_w, i32_w]
                rfl
              refine pure_ (i := 7) (N := some 50) (v := ?_) (a' := ?_) #[true, false, true, false, true, true, true, true, false, false, false, false, false] rfl rfl (any_of HT_.out (by kernel_rfl)) (fun _ _ _ h => h) (Or.inl ⟨by rfl, ?_⟩) ?_ ?_
              rotate_left
              · intro w'
                go_simp
                with_reducible rfl
              rotate_left
              · simp only [Act.put, List.setIfInBounds_toArray, List.set_cons_zero, List.set_cons_succ, i64_w, i32_w]
                rfl
              refine take_ (i := 1) (N := some 44) (v := ?_) (a' := ?_) #[true, true, true, false, true, true, true, true, false, false, false, false, false] rfl rfl (take_ofW HT_.out HW_.out (by kernel_rfl)) (fun _ _ _ h => h) (Or.inl ⟨by rfl, ?_⟩) hHeld ?_ ?_
              rotate_left
              · rintro w' ⟨s0, s1, s2⟩
                go_simp
                with_reducible rfl
              rotate_left
              · simp only [Act.put, List.setIfInBounds_toArray, List.set_cons_zero, List.set_cons_succ, i64_w, i32_w]
                rfl
              refine pure_ (i := 8) (N := some 4) (v := ?_) (a' := ?_) #[true, true, true, false, true, true, true, true, true, false, false, false, false] rfl rfl (any_of HT_.out (by kernel_rfl)) (fun _ _ _ h => h) (Or.inl ⟨by rfl, ?_⟩) ?_ ?_
              rotate_left
              · intro w'
                go_simp
                with_reducible rfl
              rotate_left
              · simp only [Act.put, List.setIfInBounds_toArray, List.set_cons_zero, List.set_cons_succ, i64_w, i32_w]
                rfl
              refine take_ (i := 3) (N := some 46) (v := ?_) (a' := ?_) #[true, true, true, true, true, true, true, true, true, false, false, false, false] rfl rfl (take_ofW HT_.out HW_.out (by kernel_rfl)) (fun _ _ _ h => h) (Or.inl ⟨by rfl, ?_⟩) hHeld ?_ ?_
              rotate_left
              · rintro w' ⟨s0, s1, s2⟩
                go_simp
                with_reducible rfl
              rotate_left
              · simp only [Act.put, List.setIfInBounds_toArray, List.set_cons_zero, List.set_cons_succ, i64_w, i32_w]
                rfl
              refine pure_ (i := 9) (N := some 5) (v := ?_) (a' := ?_) #[true, true, true, true, true, true, true, true, true, true, false, false, false] rfl rfl (any_of HT_.out (by kernel_rfl)) (fun _ _ _ h => h) (Or.inl ⟨by rfl, ?_⟩) ?_ ?_
              rotate_left
              · intro w'
                go_simp
                with_reducible rfl
              rotate_left
              · simp only [Act.put, List.setIfInBounds_toArray, List.set_cons_zero, List.set_cons_succ, i64_w, i32_w]
                rfl
              refine pure_ (i := 10) (N := some 6) (v := ?_) (a' := ?_) #[true, true, true, true, true, true, true, true, true, true, true, false, false] rfl rfl (any_of HT_.out (by kernel_rfl)) (fun _ _ _ h => h) (Or.inl ⟨by rfl, ?_⟩) ?_ ?_
              rotate_left
              · intro w'
                go_simp
                with_reducible rfl
              rotate_left
              · simp only [Act.put, List.setIfInBounds_toArray, List.set_cons_zero, List.set_cons_succ, i64_w, i32_w]
                rfl
              refine pure_ (i := 11) (N := some 7) (v := ?_) (a' := ?_) #[true, true, true, true, true, true, true, true, true, true, true, true, false] rfl rfl (any_of HT_.out (by kernel_rfl)) (fun _ _ _ h => h) (Or.inl ⟨by rfl, ?_⟩) ?_ ?_
              rotate_left
              · intro w'
                go_simp
                with_reducible rfl
              rotate_left
              · simp only [Act.put, List.setIfInBounds_toArray, List.set_cons_zero, List.set_cons_succ, i64_w, i32_w]
                rfl
              refine pure_ (i := 12) (N := some 8) (v := ?_) (a' := ?_) #[true, true, true, true, true, true, true, true, true, true, true, true, true] rfl rfl (any_of HT_.out (by kernel_rfl)) (fun _ _ _ h => h) (Or.inl ⟨by rfl, ?_⟩) ?_ ?_
              rotate_left
              · intro w'
                go_simp
                with_reducible rfl
              rotate_left
              · simp only [Act.put, List.setIfInBounds_toArray, List.set_cons_zero, List.set_cons_succ, i64_w, i32_w]
                rfl
              refine done_ (done_of HT_.out (by kernel_rfl)) ?_
              try go_wp2
              refine bodyPost_ret (results_list (rs := [.tmp 4, .tmp 5, .tmp 6, .tmp 7, .tmp 8]) rfl (by simp) (.tmp (.tmp (.tmp (.tmp (.tmp .nil)))))) rfl ?_
              exact ⟨by first | rfl | (simp [errW_none, errW_some] <;> rfl) | (simp [*, errW_none, errW_some] <;> rfl), by repeat (first | (with_reducible first | exact HB.out | apply below_alloc | apply pw_below_drewN | apply below_drew1 | refine below_set ?_ GE160.out) | exact HB.out)⟩
          · rw [if_neg c15] at H
            exact absurd H (by simp)
      · replace c11 := Bool.eq_false_iff.mpr c11
        subst c11
        have H1 : (if 0 < (t161.length : Int) then ((spec_CronValue.f kj3 a0_2 (rdOf ByteArray.empty t161 0)).bind fun bt168 => (if (t161.length : Int) = 1 then (some (bt168.1, bt168.1, false, true, bt168.2)) else (if (t161.length : Int) = 2 then (if 1 < (t161.length : Int) then ((spec_CronValue.f kj3 a0_2 (rdOf ByteArray.empty t161 1)).bind fun bt171 => ((spec_worse.f bt168.2 bt171.2).bind fun t173 => (some (bt168.1, bt171.1, false, false, t173)))) else (none)) else (some (0, 0, false, false, 0))))) else (none)) = some (r1, r2, r3, r4, r5) := by rw [if_neg (show ¬ (false = true) by decide)] at H; exact H
        clear H
        have H := H1
        clear H1
        by_cases c30 : 0 < (t161.length : Int)
        · rw [if_pos c30] at H
          have c30b0 : decide (0 < (t161.length : Int)) = true := decide_eq_true c30
          have c30b1 : decide (0 < t161.length) = true := decide_eq_true (by omega)
          clear c30
          replace H := Option.bind_eq_some_iff.mp H
          obtain ⟨⟨t168, t169⟩, A310, H⟩ := H
          replace H : (if (t161.length : Int) = 1 then (some (t168, t168, false, true, t169)) else (if (t161.length : Int) = 2 then (if 1 < (t161.length : Int) then ((spec_CronValue.f kj3 a0_2 (rdOf ByteArray.empty t161 1)).bind fun bt171 => ((spec_worse.f t169 bt171.2).bind fun t173 => (some (t168, bt171.1, false, false, t173)))) else (none)) else (some (0, 0, false, false, 0)))) = some (r1, r2, r3, r4, r5) := H
          have A31 := Aside0.mk A310
          clear A310
          by_cases c32 : (t161.length : Int) = 1
          · rw [if_pos c32] at H
            have c32b0 : ((t161.length : Int) == 1) = true := beq_iff_eq.mpr c32
            have c32b1 : ((t161.length : Int) != 1) = false := bne_eq_false_iff_eq.mpr c32
            clear c32
            simp only [Option.some.injEq, Prod.mk.injEq] at H
            obtain ⟨rfl, rfl, rfl, rfl, rfl⟩ := H
            try go_wp2
            have n0_ := Aside0.mk (Kd.R_drew HO_9.out)
            have n1_ := Aside0.mk (blk_drew BK160.out)
            have n2_ := Aside0.mk (below_drew1 HB.out)
            clear HO_9
            clear BK160
            clear HB
            have HO_9 := n0_
            have BK160 := n1_
            have HB := n2_
            clear n0_ n1_ n2_
            obtain ⟨Ao34, co34, eo34⟩ := Kd.R_slice HO_9.out
            (first | subst eo34 | (injection eo34 with f1_ f2_ f3_; have f4_ := f1_.symm; have f5_ := f3_.symm; clear f1_ f2_ f3_; subst f4_; subst f5_))
            have p167 : 0 ≤ (0 : Int) := (by omega)
            have q167 : 0 < (t161.length : Int) := of_decide_eq_true (by first | (with_reducible assumption) | assumption)
            obtain ⟨ad167, e167, hx167_0⟩ := Kd.at_string (Kd.R_reads' HO_9.out).2.2 0 p167 q167
            cases e167
            have qi167 : (0 < t161.length) = True := eq_true (by omega)
            (try rw [show ((0 : Int)).toNat = 0 from rfl] at hx167_0)
            (try rw [Addr.add_zero'] at hx167_0)
            replace p167 := eq_true p167
            replace q167 := eq_true q167
            refine start_ (n := 11) (S := fun w' => w'.cell? ⟨gb160, 0, none⟩ = some (.int .i64 a0_0) ∧ w'.cell? ⟨gb160, 1, none⟩ = some (.int .i64 a0_1) ∧ w'.cell? ⟨gb160, 2, none⟩ = some (.int .i64 a0_2) ∧ w'.cell? ad167 = some (.string (rdOf ByteArray.empty t161 0))) (ds := []) #[false, false, false, false, false, false, false, false, false, false, false] (by kernel_rfl) rfl rfl ⟨(blk_cell BK160.out 0).trans rfl, (blk_cell BK160.out 1).trans rfl, (blk_cell BK160.out 2).trans rfl, hx167_0⟩ (fun hHeld => ?_); refine with_tabW spec_cronEnds.tab7 spec_cronEnds.bits7 (fun HT_ HW_ => ?_)
            generalize wc.drew = w33 at HO_9 BK160 HB hx167_0 hHeld ⊢
            refine pure_ (i := 0) (N := some 52) (v := ?_) (a' := ?_) #[true, false, false, false, false, false, false, false, false, false, false] rfl rfl (any_of HT_.out (by kernel_rfl)) (fun _ _ _ h => h) (Or.inl ⟨by rfl, ?_⟩) ?_ ?_
            rotate_left
            · intro w'
              go_simp
              with_reducible rfl
            rotate_left
            · simp only [Act.put, List.setIfInBounds_toArray, List.set_cons_zero, List.set_cons_succ, i64_w, i32_w]
              rfl
            refine pure_ (i := 2) (N := some 54) (v := ?_) (a' := ?_) #[true, false, true, false, false, false, false, false, false, false, false] rfl rfl (any_of HT_.out (by kernel_rfl)) (fun _ _ _ h => h) (Or.inl ⟨by rfl, ?_⟩) ?_ ?_
            rotate_left
            · intro w'
              go_simp
              with_reducible rfl
            rotate_left
            · simp only [Act.put, List.setIfInBounds_toArray, List.set_cons_zero, List.set_cons_succ, i64_w, i32_w]
              rfl
            refine pure_ (i := 3) (N := some 55) (v := ?_) (a' := ?_) #[true, false, true, true, false, false, false, false, false, false, false] rfl rfl (any_of HT_.out (by kernel_rfl)) (fun _ _ _ h => h) (Or.inl ⟨by rfl, ?_⟩) ?_ ?_
            rotate_left
            · intro w'
              go_simp
              with_reducible rfl
            rotate_left
            · simp only [Act.put, List.setIfInBounds_toArray, List.set_cons_zero, List.set_cons_succ, i64_w, i32_w]
              rfl
            refine take_ (i := 1) (N := some 53) (v := ?_) (a' := ?_) #[true, true, true, true, false, false, false, false, false, false, false] rfl rfl (take_ofW HT_.out HW_.out (by kernel_rfl)) (fun _ _ _ h => h) (Or.inl ⟨by rfl, ?_⟩) hHeld ?_ ?_
            rotate_left
            · rintro w' ⟨s0, s1, s2, s3⟩
              go_simp
              with_reducible rfl
            rotate_left
            · simp only [Act.put, List.setIfInBounds_toArray, List.set_cons_zero, List.set_cons_succ, i64_w, i32_w]
              rfl
            refine take_ (i := 4) (N := some 56) (v := ?_) (a' := ?_) #[true, true, true, true, true, false, false, false, false, false, false] rfl rfl (take_ofW HT_.out HW_.out (by kernel_rfl)) (fun _ _ _ h => h) (Or.inl ⟨by rfl, ?_⟩) hHeld ?_ ?_
            rotate_left
            · rintro w' ⟨s0, s1, s2, s3⟩
              go_simp
              with_reducible rfl
            rotate_left
            · simp only [Act.put, List.setIfInBounds_toArray, List.set_cons_zero, List.set_cons_succ, i64_w, i32_w]
              rfl
            refine one_ (i := 5) (N := some 57) #[true, true, true, true, true, true, false, false, false, false, false] rfl rfl (one_of HT_.out (by kernel_rfl)) (by decide) (fun K hK => ?_)
            refine goes_ Tryz.func101 (by kernel_rfl) rfl #[.int .i64 a0_2, .string (rdOf ByteArray.empty t161 0)] (by rfl) rfl rfl (by (try simp only [List.map_toArray, List.map_cons, List.map_nil]); first | done | rfl | (simp only [List.length_drop, List.length_take]; rfl)) ?_
            with_reducible refine (spec_CronValue.calls kj3 a0_2 (rdOf ByteArray.empty t161 0) t168 t169 _ A31.out).mono ?_
            rintro e w35 ⟨rfl, hb⟩
            have HS3_ := (hb.cell (World.block_lt_of_cell? _ _ (hHeld.2.2.2))).trans (hHeld.2.2.2)
            refine ⟨_, rfl, ?_⟩
            have n0_ := Aside0.mk (Kd.R_below (by (with_reducible repeat (first | apply Kd.R_alloc | apply Kd.R_drewN | apply Kd.R_drew)); exact HO_9.out) hb)
            have n1_ := Aside0.mk (blk_below (g := gb160) (o := .cells #[.int .i64 a0_0, .int .i64 a0_1, .int .i64 a0_2] 145 (0, 0)) (by (with_reducible repeat (first | refine blk_drewN ?_ _ | refine blk_drew ?_ | refine blk_alloc ?_ _)); exact BK160.out) hb)
            have n2_ := Aside0.mk (below_step (by repeat (first | (with_reducible first | exact HB.out | apply below_alloc | apply pw_below_drewN | apply below_drew1 | refine below_set ?_ GE160.out) | exact HB.out)) hb)
            clear HO_9
            clear BK160
            clear HB
            have HO_9 := n0_
            have BK160 := n1_
            have HB := n2_
            clear n0_ n1_ n2_
            (try clear hb)
            (try clear hb2)
            (try clear hk)
            (try clear hi)
            refine hK.out _ _ ⟨(blk_cell BK160.out 0).trans rfl, (blk_cell BK160.out 1).trans rfl, (blk_cell BK160.out 2).trans rfl, HS3_⟩ (fun hHeld => ?_)
            clear hK K
            refine norm_ (a' := ?_) ?_ ?_
            rotate_left
            · show Act.put _ (some 57) _ = _
              simp only [Act.put, List.setIfInBounds_toArray, List.set_cons_zero, List.set_cons_succ, i64_w, i32_w]
              rfl
            refine pure_ (i := 6) (N := some 51) (v := ?_) (a' := ?_) #[true, true, true, true, true, true, true, false, false, false, false] rfl rfl (any_of HT_.out (by kernel_rfl)) (fun _ _ _ h => h) (Or.inl ⟨by rfl, ?_⟩) ?_ ?_
            rotate_left
            · intro w'
              go_simp
              with_reducible rfl
            rotate_left
            · simp only [Act.put, List.setIfInBounds_toArray, List.set_cons_zero, List.set_cons_succ, i64_w, i32_w]
              rfl
            refine pure_ (i := 7) (N := some 58) (v := ?_) (a' := ?_) #[true, true, true, true, true, true, true, true, false, false, false] rfl rfl (any_of HT_.out (by kernel_rfl)) (fun _ _ _ h => h) (Or.inl ⟨by rfl, ?_⟩) ?_ ?_
            rotate_left
            · intro w'
              go_simp
              with_reducible rfl
            rotate_left
            · simp only [Act.put, List.setIfInBounds_toArray, List.set_cons_zero, List.set_cons_succ, i64_w, i32_w]
              rfl
            refine pure_ (i := 8) (N := some 59) (v := ?_) (a' := ?_) #[true, true, true, true, true, true, true, true, true, false, false] rfl rfl (any_of HT_.out (by kernel_rfl)) (fun _ _ _ h => h) (Or.inl ⟨by rfl, ?_⟩) ?_ ?_
            rotate_left
            · intro w'
              go_simp
              with_reducible rfl
            rotate_left
            · simp only [Act.put, List.setIfInBounds_toArray, List.set_cons_zero, List.set_cons_succ, i64_w, i32_w]
              rfl
            refine pure_ (i := 9) (N := some 4) (v := ?_) (a' := ?_) #[true, true, true, true, true, true, true, true, true, true, false] rfl rfl (any_of HT_.out (by kernel_rfl)) (fun _ _ _ h => h) (Or.inl ⟨by rfl, ?_⟩) ?_ ?_
            rotate_left
            · intro w'
              go_simp
              with_reducible rfl
            rotate_left
            · simp only [Act.put, List.setIfInBounds_toArray, List.set_cons_zero, List.set_cons_succ, i64_w, i32_w]
              rfl
            refine pure_ (i := 10) (N := some 8) (v := ?_) (a' := ?_) #[true, true, true, true, true, true, true, true, true, true, true] rfl rfl (any_of HT_.out (by kernel_rfl)) (fun _ _ _ h => h) (Or.inl ⟨by rfl, ?_⟩) ?_ ?_
            rotate_left
            · intro w'
              go_simp
              with_reducible rfl
            rotate_left
            · simp only [Act.put, List.setIfInBounds_toArray, List.set_cons_zero, List.set_cons_succ, i64_w, i32_w]
              rfl
            refine done_ (done_of HT_.out (by kernel_rfl)) ?_
            try go_wp2
            refine bodyPost_ret (results_list (rs := [.tmp 4, .tmp 5, .tmp 6, .tmp 7, .tmp 8]) rfl (by simp) (.tmp (.tmp (.tmp (.tmp (.tmp .nil)))))) rfl ?_
            exact ⟨by first | rfl | (simp [errW_none, errW_some] <;> rfl) | (simp [*, errW_none, errW_some] <;> rfl), by repeat (first | (with_reducible first | exact HB.out | apply below_alloc | apply pw_below_drewN | apply below_drew1 | refine below_set ?_ GE160.out) | exact HB.out)⟩
          · rw [if_neg c32] at H
            have c32b0 : ((t161.length : Int) == 1) = false := beq_eq_false_iff_ne.mpr c32
            have c32b1 : ((t161.length : Int) != 1) = true := bne_iff_ne.mpr c32
            by_cases c36 : (t161.length : Int) = 2
            · rw [if_pos c36] at H
              have c36b0 : ((t161.length : Int) == 2) = true := beq_iff_eq.mpr c36
              have c36b1 : ((t161.length : Int) != 2) = false := bne_eq_false_iff_eq.mpr c36
              clear c36
              by_cases c37 : 1 < (t161.length : Int)
              · rw [if_pos c37] at H
                have c37b0 : decide (1 < (t161.length : Int)) = true := decide_eq_true c37
                have c37b1 : decide (1 < t161.length) = true := decide_eq_true (by omega)
                clear c37
                replace H := Option.bind_eq_some_iff.mp H
                obtain ⟨⟨t171, t172⟩, A380, H⟩ := H
                replace H : ((spec_worse.f t169 t172).bind fun t173 => (some (t168, t171, false, false, t173))) = some (r1, r2, r3, r4, r5) := H
                have A38 := Aside0.mk A380
                clear A380
                replace H := Option.bind_eq_some_iff.mp H
                obtain ⟨t173, A390, H⟩ := H
                replace H : (some (t168, t171, false, false, t173)) = some (r1, r2, r3, r4, r5) := H
                have A39 := Aside0.mk A390
                clear A390
                simp only [Option.some.injEq, Prod.mk.injEq] at H
                obtain ⟨rfl, rfl, rfl, rfl, rfl⟩ := H
                try go_wp2
                have n0_ := Aside0.mk (Kd.R_drew HO_9.out)
                have n1_ := Aside0.mk (blk_drew BK160.out)
                have n2_ := Aside0.mk (below_drew1 HB.out)
                clear HO_9
                clear BK160
                clear HB
                have HO_9 := n0_
                have BK160 := n1_
                have HB := n2_
                clear n0_ n1_ n2_
                obtain ⟨Ao41, co41, eo41⟩ := Kd.R_slice HO_9.out
                (first | subst eo41 | (injection eo41 with f1_ f2_ f3_; have f4_ := f1_.symm; have f5_ := f3_.symm; clear f1_ f2_ f3_; subst f4_; subst f5_))
                have p167 : 0 ≤ (0 : Int) := (by omega)
                have q167 : 0 < (t161.length : Int) := of_decide_eq_true (by first | (with_reducible assumption) | assumption)
                obtain ⟨ad167, e167, hx167_0⟩ := Kd.at_string (Kd.R_reads' HO_9.out).2.2 0 p167 q167
                cases e167
                have qi167 : (0 < t161.length) = True := eq_true (by omega)
                (try rw [show ((0 : Int)).toNat = 0 from rfl] at hx167_0)
                (try rw [Addr.add_zero'] at hx167_0)
                replace p167 := eq_true p167
                replace q167 := eq_true q167
                refine start_ (n := 11) (S := fun w' => w'.cell? ⟨gb160, 0, none⟩ = some (.int .i64 a0_0) ∧ w'.cell? ⟨gb160, 1, none⟩ = some (.int .i64 a0_1) ∧ w'.cell? ⟨gb160, 2, none⟩ = some (.int .i64 a0_2) ∧ w'.cell? ad167 = some (.string (rdOf ByteArray.empty t161 0))) (ds := []) #[false, false, false, false, false, false, false, false, false, false, false] (by kernel_rfl) rfl rfl ⟨(blk_cell BK160.out 0).trans rfl, (blk_cell BK160.out 1).trans rfl, (blk_cell BK160.out 2).trans rfl, hx167_0⟩ (fun hHeld => ?_); refine with_tabW spec_cronEnds.tab7 spec_cronEnds.bits7 (fun HT_ HW_ => ?_)
                generalize wc.drew = w40 at HO_9 BK160 HB hx167_0 hHeld ⊢
                refine pure_ (i := 0) (N := some 52) (v := ?_) (a' := ?_) #[true, false, false, false, false, false, false, false, false, false, false] rfl rfl (any_of HT_.out (by kernel_rfl)) (fun _ _ _ h => h) (Or.inl ⟨by rfl, ?_⟩) ?_ ?_
                rotate_left
                · intro w'
                  go_simp
                  with_reducible rfl
                rotate_left
                · simp only [Act.put, List.setIfInBounds_toArray, List.set_cons_zero, List.set_cons_succ, i64_w, i32_w]
                  rfl
                refine pure_ (i := 2) (N := some 54) (v := ?_) (a' := ?_) #[true, false, true, false, false, false, false, false, false, false, false] rfl rfl (any_of HT_.out (by kernel_rfl)) (fun _ _ _ h => h) (Or.inl ⟨by rfl, ?_⟩) ?_ ?_
                rotate_left
                · intro w'
                  go_simp
                  with_reducible rfl
                rotate_left
                · simp only [Act.put, List.setIfInBounds_toArray, List.set_cons_zero, List.set_cons_succ, i64_w, i32_w]
                  rfl
                refine pure_ (i := 3) (N := some 55) (v := ?_) (a' := ?_) #[true, false, true, true, false, false, false, false, false, false, false] rfl rfl (any_of HT_.out (by kernel_rfl)) (fun _ _ _ h => h) (Or.inl ⟨by rfl, ?_⟩) ?_ ?_
                rotate_left
                · intro w'
                  go_simp
                  with_reducible rfl
                rotate_left
                · simp only [Act.put, List.setIfInBounds_toArray, List.set_cons_zero, List.set_cons_succ, i64_w, i32_w]
                  rfl
                refine take_ (i := 1) (N := some 53) (v := ?_) (a' := ?_) #[true, true, true, true, false, false, false, false, false, false, false] rfl rfl (take_ofW HT_.out HW_.out (by kernel_rfl)) (fun _ _ _ h => h) (Or.inl ⟨by rfl, ?_⟩) hHeld ?_ ?_
                rotate_left
                · rintro w' ⟨s0, s1, s2, s3⟩
                  go_simp
                  with_reducible rfl
                rotate_left
                · simp only [Act.put, List.setIfInBounds_toArray, List.set_cons_zero, List.set_cons_succ, i64_w, i32_w]
                  rfl
                refine take_ (i := 4) (N := some 56) (v := ?_) (a' := ?_) #[true, true, true, true, true, false, false, false, false, false, false] rfl rfl (take_ofW HT_.out HW_.out (by kernel_rfl)) (fun _ _ _ h => h) (Or.inl ⟨by rfl, ?_⟩) hHeld ?_ ?_
                rotate_left
                · rintro w' ⟨s0, s1, s2, s3⟩
                  go_simp
                  with_reducible rfl
                rotate_left
                · simp only [Act.put, List.setIfInBounds_toArray, List.set_cons_zero, List.set_cons_succ, i64_w, i32_w]
                  rfl
                refine one_ (i := 5) (N := some 57) #[true, true, true, true, true, true, false, false, false, false, false] rfl rfl (one_of HT_.out (by kernel_rfl)) (by decide) (fun K hK => ?_)
                refine goes_ Tryz.func101 (by kernel_rfl) rfl #[.int .i64 a0_2, .string (rdOf ByteArray.empty t161 0)] (by rfl) rfl rfl (by (try simp only [List.map_toArray, List.map_cons, List.map_nil]); first | done | rfl | (simp only [List.length_drop, List.length_take]; rfl)) ?_
                with_reducible refine (spec_CronValue.calls kj3 a0_2 (rdOf ByteArray.empty t161 0) t168 t169 _ A31.out).mono ?_
                rintro e w42 ⟨rfl, hb⟩
                have HS3_ := (hb.cell (World.block_lt_of_cell? _ _ (hHeld.2.2.2))).trans (hHeld.2.2.2)
                refine ⟨_, rfl, ?_⟩
                have n0_ := Aside0.mk (Kd.R_below (by (with_reducible repeat (first | apply Kd.R_alloc | apply Kd.R_drewN | apply Kd.R_drew)); exact HO_9.out) hb)
                have n1_ := Aside0.mk (blk_below (g := gb160) (o := .cells #[.int .i64 a0_0, .int .i64 a0_1, .int .i64 a0_2] 145 (0, 0)) (by (with_reducible repeat (first | refine blk_drewN ?_ _ | refine blk_drew ?_ | refine blk_alloc ?_ _)); exact BK160.out) hb)
                have n2_ := Aside0.mk (below_step (by repeat (first | (with_reducible first | exact HB.out | apply below_alloc | apply pw_below_drewN | apply below_drew1 | refine below_set ?_ GE160.out) | exact HB.out)) hb)
                clear HO_9
                clear BK160
                clear HB
                have HO_9 := n0_
                have BK160 := n1_
                have HB := n2_
                clear n0_ n1_ n2_
                (try clear hb)
                (try clear hb2)
                (try clear hk)
                (try clear hi)
                refine hK.out _ _ ⟨(blk_cell BK160.out 0).trans rfl, (blk_cell BK160.out 1).trans rfl, (blk_cell BK160.out 2).trans rfl, HS3_⟩ (fun hHeld => ?_)
                clear hK K
                refine norm_ (a' := ?_) ?_ ?_
                rotate_left
                · show Act.put _ (some 57) _ = _
                  simp only [Act.put, List.setIfInBounds_toArray, List.set_cons_zero, List.set_cons_succ, i64_w, i32_w]
                  rfl
                refine pure_ (i := 6) (N := some 51) (v := ?_) (a' := ?_) #[true, true, true, true, true, true, true, false, false, false, false] rfl rfl (any_of HT_.out (by kernel_rfl)) (fun _ _ _ h => h) (Or.inl ⟨by rfl, ?_⟩) ?_ ?_
                rotate_left
                · intro w'
                  go_simp
                  with_reducible rfl
                rotate_left
                · simp only [Act.put, List.setIfInBounds_toArray, List.set_cons_zero, List.set_cons_succ, i64_w, i32_w]
                  rfl
                refine pure_ (i := 7) (N := some 58) (v := ?_) (a' := ?_) #[true, true, true, true, true, true, true, true, false, false, false] rfl rfl (any_of HT_.out (by kernel_rfl)) (fun _ _ _ h => h) (Or.inl ⟨by rfl, ?_⟩) ?_ ?_
                rotate_left
                · intro w'
                  go_simp
                  with_reducible rfl
                rotate_left
                · simp only [Act.put, List.setIfInBounds_toArray, List.set_cons_zero, List.set_cons_succ, i64_w, i32_w]
                  rfl
                refine pure_ (i := 8) (N := some 59) (v := ?_) (a' := ?_) #[true, true, true, true, true, true, true, true, true, false, false] rfl rfl (any_of HT_.out (by kernel_rfl)) (fun _ _ _ h => h) (Or.inl ⟨by rfl, ?_⟩) ?_ ?_
                rotate_left
                · intro w'
                  go_simp
                  with_reducible rfl
                rotate_left
                · simp only [Act.put, List.setIfInBounds_toArray, List.set_cons_zero, List.set_cons_succ, i64_w, i32_w]
                  rfl
                refine pure_ (i := 9) (N := some 4) (v := ?_) (a' := ?_) #[true, true, true, true, true, true, true, true, true, true, false] rfl rfl (any_of HT_.out (by kernel_rfl)) (fun _ _ _ h => h) (Or.inl ⟨by rfl, ?_⟩) ?_ ?_
                rotate_left
                · intro w'
                  go_simp
                  with_reducible rfl
                rotate_left
                · simp only [Act.put, List.setIfInBounds_toArray, List.set_cons_zero, List.set_cons_succ, i64_w, i32_w]
                  rfl
                refine pure_ (i := 10) (N := some 8) (v := ?_) (a' := ?_) #[true, true, true, true, true, true, true, true, true, true, true] rfl rfl (any_of HT_.out (by kernel_rfl)) (fun _ _ _ h => h) (Or.inl ⟨by rfl, ?_⟩) ?_ ?_
                rotate_left
                · intro w'
                  go_simp
                  with_reducible rfl
                rotate_left
                · simp only [Act.put, List.setIfInBounds_toArray, List.set_cons_zero, List.set_cons_succ, i64_w, i32_w]
                  rfl
                refine done_ (done_of HT_.out (by kernel_rfl)) ?_
                try go_wp2
                have n0_ := Aside0.mk (Kd.R_drew HO_9.out)
                have n1_ := Aside0.mk (blk_drew BK160.out)
                have n2_ := Aside0.mk (below_drew1 HB.out)
                clear HO_9
                clear BK160
                clear HB
                have HO_9 := n0_
                have BK160 := n1_
                have HB := n2_
                clear n0_ n1_ n2_
                have p170 : 0 ≤ (1 : Int) := (by omega)
                have q170 : 1 < (t161.length : Int) := of_decide_eq_true (by first | (with_reducible assumption) | assumption)
                obtain ⟨ad170, e170, hx170_0⟩ := Kd.at_string (Kd.R_reads' HO_9.out).2.2 1 p170 q170
                obtain rfl : ad167 = ad170 := (by injection e170)
                (try simp only [show (1 : Int).toNat = 1 from rfl, Nat.reduceMul, Nat.reduceEqDiff, Go.Addr.add, ↓reduceIte] at hx170_0)
                have qi170 : (1 < t161.length) = True := eq_true (by omega)
                (try rw [show ((1 : Int)).toNat = 1 from rfl] at hx170_0)
                replace p170 := eq_true p170
                replace q170 := eq_true q170
                refine start_ (n := 11) (S := fun w' => w'.cell? ⟨gb160, 0, none⟩ = some (.int .i64 a0_0) ∧ w'.cell? ⟨gb160, 1, none⟩ = some (.int .i64 a0_1) ∧ w'.cell? ⟨gb160, 2, none⟩ = some (.int .i64 a0_2) ∧ w'.cell? ⟨ad167.block, ad167.off + 1, none⟩ = some (.string (rdOf ByteArray.empty t161 1))) (ds := []) #[false, false, false, false, false, false, false, false, false, false, false] (by kernel_rfl) rfl rfl ⟨(blk_cell BK160.out 0).trans rfl, (blk_cell BK160.out 1).trans rfl, (blk_cell BK160.out 2).trans rfl, hx170_0⟩ (fun hHeld => ?_); refine with_tabW spec_cronEnds.tab12 spec_cronEnds.bits12 (fun HT_ HW_ => ?_)
                generalize w42.drew = w43 at HO_9 BK160 HB hx170_0 hHeld ⊢
                refine pure_ (i := 0) (N := some 70) (v := ?_) (a' := ?_) #[true, false, false, false, false, false, false, false, false, false, false] rfl rfl (any_of HT_.out (by kernel_rfl)) (fun _ _ _ h => h) (Or.inl ⟨by rfl, ?_⟩) ?_ ?_
                rotate_left
                · intro w'
                  go_simp
                  with_reducible rfl
                rotate_left
                · simp only [Act.put, List.setIfInBounds_toArray, List.set_cons_zero, List.set_cons_succ, i64_w, i32_w]
                  rfl
                refine pure_ (i := 2) (N := some 72) (v := ?_) (a' := ?_) #[true, false, true, false, false, false, false, false, false, false, false] rfl rfl (any_of HT_.out (by kernel_rfl)) (fun _ _ _ h => h) (Or.inl ⟨by rfl, ?_⟩) ?_ ?_
                rotate_left
                · intro w'
                  go_simp
                  with_reducible rfl
                rotate_left
                · simp only [Act.put, List.setIfInBounds_toArray, List.set_cons_zero, List.set_cons_succ, i64_w, i32_w]
                  rfl
                refine pure_ (i := 3) (N := some 73) (v := ?_) (a' := ?_) #[true, false, true, true, false, false, false, false, false, false, false] rfl rfl (any_of HT_.out (by kernel_rfl)) (fun _ _ _ h => h) (Or.inl ⟨by rfl, ?_⟩) ?_ ?_
                rotate_left
                · intro w'
                  go_simp
                  with_reducible rfl
                rotate_left
                · simp only [Act.put, List.setIfInBounds_toArray, List.set_cons_zero, List.set_cons_succ, i64_w, i32_w]
                  rfl
                refine take_ (i := 1) (N := some 71) (v := ?_) (a' := ?_) #[true, true, true, true, false, false, false, false, false, false, false] rfl rfl (take_ofW HT_.out HW_.out (by kernel_rfl)) (fun _ _ _ h => h) (Or.inl ⟨by rfl, ?_⟩) hHeld ?_ ?_
                rotate_left
                · rintro w' ⟨s0, s1, s2, s3⟩
                  go_simp
                  with_reducible rfl
                rotate_left
                · simp only [Act.put, List.setIfInBounds_toArray, List.set_cons_zero, List.set_cons_succ, i64_w, i32_w]
                  rfl
                refine take_ (i := 4) (N := some 74) (v := ?_) (a' := ?_) #[true, true, true, true, true, false, false, false, false, false, false] rfl rfl (take_ofW HT_.out HW_.out (by kernel_rfl)) (fun _ _ _ h => h) (Or.inl ⟨by rfl, ?_⟩) hHeld ?_ ?_
                rotate_left
                · rintro w' ⟨s0, s1, s2, s3⟩
                  go_simp
                  with_reducible rfl
                rotate_left
                · simp only [Act.put, List.setIfInBounds_toArray, List.set_cons_zero, List.set_cons_succ, i64_w, i32_w]
                  rfl
                refine one_ (i := 5) (N := some 75) #[true, true, true, true, true, true, false, false, false, false, false] rfl rfl (one_of HT_.out (by kernel_rfl)) (by decide) (fun K hK => ?_)
                refine goes_ Tryz.func101 (by kernel_rfl) rfl #[.int .i64 a0_2, .string (rdOf ByteArray.empty t161 1)] (by rfl) rfl rfl (by (try simp only [List.map_toArray, List.map_cons, List.map_nil]); first | done | rfl | (simp only [List.length_drop, List.length_take]; rfl)) ?_
                with_reducible refine (spec_CronValue.calls kj3 a0_2 (rdOf ByteArray.empty t161 1) t171 t172 _ A38.out).mono ?_
                rintro e w44 ⟨rfl, hb⟩
                have HS3_ := (hb.cell (World.block_lt_of_cell? _ _ (hHeld.2.2.2))).trans (hHeld.2.2.2)
                refine ⟨_, rfl, ?_⟩
                have n0_ := Aside0.mk (Kd.R_below (by (with_reducible repeat (first | apply Kd.R_alloc | apply Kd.R_drewN | apply Kd.R_drew)); exact HO_9.out) hb)
                have n1_ := Aside0.mk (blk_below (g := gb160) (o := .cells #[.int .i64 a0_0, .int .i64 a0_1, .int .i64 a0_2] 145 (0, 0)) (by (with_reducible repeat (first | refine blk_drewN ?_ _ | refine blk_drew ?_ | refine blk_alloc ?_ _)); exact BK160.out) hb)
                have n2_ := Aside0.mk (below_step (by repeat (first | (with_reducible first | exact HB.out | apply below_alloc | apply pw_below_drewN | apply below_drew1 | refine below_set ?_ GE160.out) | exact HB.out)) hb)
                clear HO_9
                clear BK160
                clear HB
                have HO_9 := n0_
                have BK160 := n1_
                have HB := n2_
                clear n0_ n1_ n2_
                (try clear hb)
                (try clear hb2)
                (try clear hk)
                (try clear hi)
                refine hK.out _ _ ⟨(blk_cell BK160.out 0).trans rfl, (blk_cell BK160.out 1).trans rfl, (blk_cell BK160.out 2).trans rfl, HS3_⟩ (fun hHeld => ?_)
                clear hK K
                refine norm_ (a' := ?_) ?_ ?_
                rotate_left
                · show Act.put _ (some 75) _ = _
                  simp only [Act.put, List.setIfInBounds_toArray, List.set_cons_zero, List.set_cons_succ, i64_w, i32_w]
                  rfl
                refine pure_ (i := 6) (N := some 69) (v := ?_) (a' := ?_) #[true, true, true, true, true, true, true, false, false, false, false] rfl rfl (any_of HT_.out (by kernel_rfl)) (fun _ _ _ h => h) (Or.inl ⟨by rfl, ?_⟩) ?_ ?_
                rotate_left
                · intro w'
                  go_simp
                  with_reducible rfl
                rotate_left
                · simp only [Act.put, List.setIfInBounds_toArray, List.set_cons_zero, List.set_cons_succ, i64_w, i32_w]
                  rfl
                refine pure_ (i := 7) (N := some 76) (v := ?_) (a' := ?_) #[true, true, true, true, true, true, true, true, false, false, false] rfl rfl (any_of HT_.out (by kernel_rfl)) (fun _ _ _ h => h) (Or.inl ⟨by rfl, ?_⟩) ?_ ?_
                rotate_left
                · intro w'
                  go_simp
                  with_reducible rfl
                rotate_left
                · simp only [Act.put, List.setIfInBounds_toArray, List.set_cons_zero, List.set_cons_succ, i64_w, i32_w]
                  rfl
                refine pure_ (i := 8) (N := some 77) (v := ?_) (a' := ?_) #[true, true, true, true, true, true, true, true, true, false, false] rfl rfl (any_of HT_.out (by kernel_rfl)) (fun _ _ _ h => h) (Or.inl ⟨by rfl, ?_⟩) ?_ ?_
                rotate_left
                · intro w'
                  go_simp
                  with_reducible rfl
                rotate_left
                · simp only [Act.put, List.setIfInBounds_toArray, List.set_cons_zero, List.set_cons_succ, i64_w, i32_w]
                  rfl
                refine pure_ (i := 9) (N := some 10) (v := ?_) (a' := ?_) #[true, true, true, true, true, true, true, true, true, true, false] rfl rfl (any_of HT_.out (by kernel_rfl)) (fun _ _ _ h => h) (Or.inl ⟨by rfl, ?_⟩) ?_ ?_
                rotate_left
                · intro w'
                  go_simp
                  with_reducible rfl
                rotate_left
                · simp only [Act.put, List.setIfInBounds_toArray, List.set_cons_zero, List.set_cons_succ, i64_w, i32_w]
                  rfl
                refine pure_ (i := 10) (N := some 11) (v := ?_) (a' := ?_) #[true, true, true, true, true, true, true, true, true, true, true] rfl rfl (any_of HT_.out (by kernel_rfl)) (fun _ _ _ h => h) (Or.inl ⟨by rfl, ?_⟩) ?_ ?_
                rotate_left
                · intro w'
                  go_simp
                  with_reducible rfl
                rotate_left
                · simp only [Act.put, List.setIfInBounds_toArray, List.set_cons_zero, List.set_cons_succ, i64_w, i32_w]
                  rfl
                refine done_ (done_of HT_.out (by kernel_rfl)) ?_
                try go_wp2_with (first | ((with_reducible refine gate_callee (f := 46) rfl ?_); refine goesL_ (some 82) rfl rfl Tryz.func46 (by kernel_rfl) rfl #[.int .i64 t169, .int .i64 t172] rfl (by (try simp only [List.map_toArray, List.map_cons, List.map_nil]); first | done | rfl | (simp only [List.length_drop, List.length_take]; rfl)) ?_; (with_reducible refine (spec_worse.calls t169 t172 t173 _ A39.out).mono ?_); rintro e w45 ⟨rfl, hb⟩; refine ⟨_, rfl, ?_⟩; have n0_ := Aside0.mk (Kd.R_below (by (with_reducible repeat (first | apply Kd.R_alloc | apply Kd.R_drewN | apply Kd.R_drew)); exact HO_9.out) hb); have n1_ := Aside0.mk (blk_below (g := gb160) (o := .cells #[.int .i64 a0_0, .int .i64 a0_1, .int .i64 a0_2] 145 (0, 0)) (by (with_reducible repeat (first | refine blk_drewN ?_ _ | refine blk_drew ?_ | refine blk_alloc ?_ _)); exact BK160.out) hb); have n2_ := Aside0.mk (below_step (by repeat (first | (with_reducible first | exact HB.out | apply below_alloc | apply pw_below_drewN | apply below_drew1 | refine below_set ?_ GE160.out) | exact HB.out)) hb); clear HO_9; clear BK160; clear HB; have HO_9 := n0_; have BK160 := n1_; have HB := n2_; clear n0_ n1_ n2_; (try clear hb); (try clear hb2); (try clear hk); (try clear hi)))
                refine bodyPost_ret (results_list (rs := [.tmp 4, .tmp 5, .tmp 6, .tmp 7, .tmp 8]) rfl (by simp) (.tmp (.tmp (.tmp (.tmp (.tmp .nil)))))) rfl ?_
                exact ⟨by first | rfl | (simp [errW_none, errW_some] <;> rfl) | (simp [*, errW_none, errW_some] <;> rfl), by repeat (first | (with_reducible first | exact HB.out | apply below_alloc | apply pw_below_drewN | apply below_drew1 | refine below_set ?_ GE160.out) | exact HB.out)⟩
              · rw [if_neg c37] at H
                exact absurd H (by simp)
            · rw [if_neg c36] at H
              have c36b0 : ((t161.length : Int) == 2) = false := beq_eq_false_iff_ne.mpr c36
              have c36b1 : ((t161.length : Int) != 2) = true := bne_iff_ne.mpr c36
              simp only [Option.some.injEq, Prod.mk.injEq] at H
              obtain ⟨rfl, rfl, rfl, rfl, rfl⟩ := H
              try go_wp2
              have n0_ := Aside0.mk (Kd.R_drew HO_9.out)
              have n1_ := Aside0.mk (blk_drew BK160.out)
              have n2_ := Aside0.mk (below_drew1 HB.out)
              clear HO_9
              clear BK160
              clear HB
              have HO_9 := n0_
              have BK160 := n1_
              have HB := n2_
              clear n0_ n1_ n2_
              obtain ⟨Ao47, co47, eo47⟩ := Kd.R_slice HO_9.out
              (first | subst eo47 | (injection eo47 with f1_ f2_ f3_; have f4_ := f1_.symm; have f5_ := f3_.symm; clear f1_ f2_ f3_; subst f4_; subst f5_))
              have p167 : 0 ≤ (0 : Int) := (by omega)
              have q167 : 0 < (t161.length : Int) := of_decide_eq_true (by first | (with_reducible assumption) | assumption)
              obtain ⟨ad167, e167, hx167_0⟩ := Kd.at_string (Kd.R_reads' HO_9.out).2.2 0 p167 q167
              cases e167
              have qi167 : (0 < t161.length) = True := eq_true (by omega)
              (try rw [show ((0 : Int)).toNat = 0 from rfl] at hx167_0)
              (try rw [Addr.add_zero'] at hx167_0)
              replace p167 := eq_true p167
              replace q167 := eq_true q167
              refine start_ (n := 11) (S := fun w' => w'.cell? ⟨gb160, 0, none⟩ = some (.int .i64 a0_0) ∧ w'.cell? ⟨gb160, 1, none⟩ = some (.int .i64 a0_1) ∧ w'.cell? ⟨gb160, 2, none⟩ = some (.int .i64 a0_2) ∧ w'.cell? ad167 = some (.string (rdOf ByteArray.empty t161 0))) (ds := []) #[false, false, false, false, false, false, false, false, false, false, false] (by kernel_rfl) rfl rfl ⟨(blk_cell BK160.out 0).trans rfl, (blk_cell BK160.out 1).trans rfl, (blk_cell BK160.out 2).trans rfl, hx167_0⟩ (fun hHeld => ?_); refine with_tabW spec_cronEnds.tab7 spec_cronEnds.bits7 (fun HT_ HW_ => ?_)
              generalize wc.drew = w46 at HO_9 BK160 HB hx167_0 hHeld ⊢
              refine pure_ (i := 0) (N := some 52) (v := ?_) (a' := ?_) #[true, false, false, false, false, false, false, false, false, false, false] rfl rfl (any_of HT_.out (by kernel_rfl)) (fun _ _ _ h => h) (Or.inl ⟨by rfl, ?_⟩) ?_ ?_
              rotate_left
              · intro w'
                go_simp
                with_reducible rfl
              rotate_left
              · simp only [Act.put, List.setIfInBounds_toArray, List.set_cons_zero, List.set_cons_succ, i64_w, i32_w]
                rfl
              refine pure_ (i := 2) (N := some 54) (v := ?_) (a' := ?_) #[true, false, true, false, false, false, false, false, false, false, false] rfl rfl (any_of HT_.out (by kernel_rfl)) (fun _ _ _ h => h) (Or.inl ⟨by rfl, ?_⟩) ?_ ?_
              rotate_left
              · intro w'
                go_simp
                with_reducible rfl
              rotate_left
              · simp only [Act.put, List.setIfInBounds_toArray, List.set_cons_zero, List.set_cons_succ, i64_w, i32_w]
                rfl
              refine pure_ (i := 3) (N := some 55) (v := ?_) (a' := ?_) #[true, false, true, true, false, false, false, false, false, false, false] rfl rfl (any_of HT_.out (by kernel_rfl)) (fun _ _ _ h => h) (Or.inl ⟨by rfl, ?_⟩) ?_ ?_
              rotate_left
              · intro w'
                go_simp
                with_reducible rfl
              rotate_left
              · simp only [Act.put, List.setIfInBounds_toArray, List.set_cons_zero, List.set_cons_succ, i64_w, i32_w]
                rfl
              refine take_ (i := 1) (N := some 53) (v := ?_) (a' := ?_) #[true, true, true, true, false, false, false, false, false, false, false] rfl rfl (take_ofW HT_.out HW_.out (by kernel_rfl)) (fun _ _ _ h => h) (Or.inl ⟨by rfl, ?_⟩) hHeld ?_ ?_
              rotate_left
              · rintro w' ⟨s0, s1, s2, s3⟩
                go_simp
                with_reducible rfl
              rotate_left
              · simp only [Act.put, List.setIfInBounds_toArray, List.set_cons_zero, List.set_cons_succ, i64_w, i32_w]
                rfl
              refine take_ (i := 4) (N := some 56) (v := ?_) (a' := ?_) #[true, true, true, true, true, false, false, false, false, false, false] rfl rfl (take_ofW HT_.out HW_.out (by kernel_rfl)) (fun _ _ _ h => h) (Or.inl ⟨by rfl, ?_⟩) hHeld ?_ ?_
              rotate_left
              · rintro w' ⟨s0, s1, s2, s3⟩
                go_simp
                with_reducible rfl
              rotate_left
              · simp only [Act.put, List.setIfInBounds_toArray, List.set_cons_zero, List.set_cons_succ, i64_w, i32_w]
                rfl
              refine one_ (i := 5) (N := some 57) #[true, true, true, true, true, true, false, false, false, false, false] rfl rfl (one_of HT_.out (by kernel_rfl)) (by decide) (fun K hK => ?_)
              refine goes_ Tryz.func101 (by kernel_rfl) rfl #[.int .i64 a0_2, .string (rdOf ByteArray.empty t161 0)] (by rfl) rfl rfl (by (try simp only [List.map_toArray, List.map_cons, List.map_nil]); first | done | rfl | (simp only [List.length_drop, List.length_take]; rfl)) ?_
              with_reducible refine (spec_CronValue.calls kj3 a0_2 (rdOf ByteArray.empty t161 0) t168 t169 _ A31.out).mono ?_
              rintro e w48 ⟨rfl, hb⟩
              have HS3_ := (hb.cell (World.block_lt_of_cell? _ _ (hHeld.2.2.2))).trans (hHeld.2.2.2)
              refine ⟨_, rfl, ?_⟩
              have n0_ := Aside0.mk (Kd.R_below (by (with_reducible repeat (first | apply Kd.R_alloc | apply Kd.R_drewN | apply Kd.R_drew)); exact HO_9.out) hb)
              have n1_ := Aside0.mk (blk_below (g := gb160) (o := .cells #[.int .i64 a0_0, .int .i64 a0_1, .int .i64 a0_2] 145 (0, 0)) (by (with_reducible repeat (first | refine blk_drewN ?_ _ | refine blk_drew ?_ | refine blk_alloc ?_ _)); exact BK160.out) hb)
              have n2_ := Aside0.mk (below_step (by repeat (first | (with_reducible first | exact HB.out | apply below_alloc | apply pw_below_drewN | apply below_drew1 | refine below_set ?_ GE160.out) | exact HB.out)) hb)
              clear HO_9
              clear BK160
              clear HB
              have HO_9 := n0_
              have BK160 := n1_
              have HB := n2_
              clear n0_ n1_ n2_
              (try clear hb)
              (try clear hb2)
              (try clear hk)
              (try clear hi)
              refine hK.out _ _ ⟨(blk_cell BK160.out 0).trans rfl, (blk_cell BK160.out 1).trans rfl, (blk_cell BK160.out 2).trans rfl, HS3_⟩ (fun hHeld => ?_)
              clear hK K
              refine norm_ (a' := ?_) ?_ ?_
              rotate_left
              · show Act.put _ (some 57) _ = _
                simp only [Act.put, List.setIfInBounds_toArray, List.set_cons_zero, List.set_cons_succ, i64_w, i32_w]
                rfl
              refine pure_ (i := 6) (N := some 51) (v := ?_) (a' := ?_) #[true, true, true, true, true, true, true, false, false, false, false] rfl rfl (any_of HT_.out (by kernel_rfl)) (fun _ _ _ h => h) (Or.inl ⟨by rfl, ?_⟩) ?_ ?_
              rotate_left
              · intro w'
                go_simp
                with_reducible rfl
              rotate_left
              · simp only [Act.put, List.setIfInBounds_toArray, List.set_cons_zero, List.set_cons_succ, i64_w, i32_w]
                rfl
              refine pure_ (i := 7) (N := some 58) (v := ?_) (a' := ?_) #[true, true, true, true, true, true, true, true, false, false, false] rfl rfl (any_of HT_.out (by kernel_rfl)) (fun _ _ _ h => h) (Or.inl ⟨by rfl, ?_⟩) ?_ ?_
              rotate_left
              · intro w'
                go_simp
                with_reducible rfl
              rotate_left
              · simp only [Act.put, List.setIfInBounds_toArray, List.set_cons_zero, List.set_cons_succ, i64_w, i32_w]
                rfl
              refine pure_ (i := 8) (N := some 59) (v := ?_) (a' := ?_) #[true, true, true, true, true, true, true, true, true, false, false] rfl rfl (any_of HT_.out (by kernel_rfl)) (fun _ _ _ h => h) (Or.inl ⟨by rfl, ?_⟩) ?_ ?_
              rotate_left
              · intro w'
                go_simp
                with_reducible rfl
              rotate_left
              · simp only [Act.put, List.setIfInBounds_toArray, List.set_cons_zero, List.set_cons_succ, i64_w, i32_w]
                rfl
              refine pure_ (i := 9) (N := some 4) (v := ?_) (a' := ?_) #[true, true, true, true, true, true, true, true, true, true, false] rfl rfl (any_of HT_.out (by kernel_rfl)) (fun _ _ _ h => h) (Or.inl ⟨by rfl, ?_⟩) ?_ ?_
              rotate_left
              · intro w'
                go_simp
                with_reducible rfl
              rotate_left
              · simp only [Act.put, List.setIfInBounds_toArray, List.set_cons_zero, List.set_cons_succ, i64_w, i32_w]
                rfl
              refine pure_ (i := 10) (N := some 8) (v := ?_) (a' := ?_) #[true, true, true, true, true, true, true, true, true, true, true] rfl rfl (any_of HT_.out (by kernel_rfl)) (fun _ _ _ h => h) (Or.inl ⟨by rfl, ?_⟩) ?_ ?_
              rotate_left
              · intro w'
                go_simp
                with_reducible rfl
              rotate_left
              · simp only [Act.put, List.setIfInBounds_toArray, List.set_cons_zero, List.set_cons_succ, i64_w, i32_w]
                rfl
              refine done_ (done_of HT_.out (by kernel_rfl)) ?_
              try go_wp2
              refine bodyPost_ret (results_list (rs := [.tmp 4, .tmp 5, .tmp 6, .tmp 7, .tmp 8]) rfl (by simp) (.tmp (.tmp (.tmp (.tmp (.tmp .nil)))))) rfl ?_
              exact ⟨by first | rfl | (simp [errW_none, errW_some] <;> rfl) | (simp [*, errW_none, errW_some] <;> rfl), by repeat (first | (with_reducible first | exact HB.out | apply below_alloc | apply pw_below_drewN | apply below_drew1 | refine below_set ?_ GE160.out) | exact HB.out)⟩
        · rw [if_neg c30] at H
          exact absurd H (by simp)
end Go.Proofs.YtikgnpachlgakaaGreatDoor.Pr

namespace Go.Proofs.YtikgnpachlgakaaGreatDoor.Pr
open Go.RowKit Go.Proofs.YtikgnpachlgakaaGreatDoorW.PrintWords Go.Proofs.YtikgnpachlgakaaGreatDoorW.PrintLast Go.Proofs.YtikgnpachlgakaaGreatDoorW.PrintMore
attribute [local go_sem] max2_int min2_int max_two min_two max_three min_three max_four min_four   -- for this text's walks alone
set_option linter.unusedVariables false
set_option linter.unusedSimpArgs false
/-! ### spec_CronBoundsOf: function 81 -/
def spec_CronBoundsOf.f (a0 : Int) : Option (Int × Int × Int) := (spec_CronLow.f a0).bind fun t177 => ((spec_CronHigh.f a0).bind fun t178 => (some (t177, t178, a0)))
set_option maxHeartbeats 8000000 in
set_option maxRecDepth 100000 in
theorem spec_CronBoundsOf.calls (a0 : Int) (r1 : Int) (r2 : Int) (r3 : Int) (w : World) (h : spec_CronBoundsOf.f a0 = some (r1, r2, r3)) :
    Calls Tryz.prog 81 #[.int .i64 a0] w fun e w' => e = .returned (.agg #[.int .i64 r1, .int .i64 r2, .int .i64 r3]) ∧ Below w.heap.size w w' := by
  have hu145 := Tryz.underlying145
  have HB := Aside0.mk (Below.refl w.heap.size w)
  have H : ((spec_CronLow.f a0).bind fun t177 => ((spec_CronHigh.f a0).bind fun t178 => (some (t177, t178, a0)))) = some (r1, r2, r3) := h
  clear h
  replace H := Option.bind_eq_some_iff.mp H
  obtain ⟨t177, A20, H⟩ := H
  replace H : ((spec_CronHigh.f a0).bind fun t178 => (some (t177, t178, a0))) = some (r1, r2, r3) := H
  have A2 := Aside0.mk A20
  clear A20
  replace H := Option.bind_eq_some_iff.mp H
  obtain ⟨t178, A30, H⟩ := H
  replace H : (some (t177, t178, a0)) = some (r1, r2, r3) := H
  have A3 := Aside0.mk A30
  clear A30
  simp only [Option.some.injEq, Prod.mk.injEq] at H
  obtain ⟨rfl, rfl, rfl⟩ := H
  go_enter Tryz.func81, Tryz.ntmps81
  go_wp2_with (first | ((with_reducible refine gate_dst (N := 2) rfl ?_); refine box_event ?hg (N := 2) ?hd (cs := #[.int .i64 0, .int .i64 0, .int .i64 0]) (t := 145) ?hr ?_; (case hd => rfl); (case hg => rfl); (case hr => first | (go_simp; done) | (go_simp; rfl)); intro gb176 hg w4 hbox hb; have n0_ := Aside0.mk (below_step (by repeat (first | (with_reducible first | exact HB.out | apply below_alloc | apply pw_below_drewN | apply below_drew1) | exact HB.out)) hb); have n1_ := Aside0.mk (hbox); have n2_ := Aside0.mk ((by rw [hg]; exact (below_size (by repeat (first | (with_reducible first | exact HB.out | apply below_alloc | apply pw_below_drewN | apply below_drew1) | exact HB.out))) : w.heap.size ≤ gb176)); have n3_ := Aside0.mk ((by rw [hg]; exact (below_size (by repeat (first | (with_reducible first | exact HB.out | apply below_alloc | apply pw_below_drewN | apply below_drew1) | exact HB.out))) : w.heap.size ≤ gb176)); clear HB; have HB := n0_; have BK176 := n1_; have GW176 := n2_; have GE176 := n3_; clear n0_ n1_ n2_ n3_; clear hb hbox hg) | ((with_reducible refine gate_callee (f := 88) rfl ?_); refine goesL_ (some 4) rfl rfl Tryz.func88 (by kernel_rfl) rfl #[.int .i64 a0] rfl (by (try simp only [List.map_toArray, List.map_cons, List.map_nil]); first | done | rfl | (simp only [List.length_drop, List.length_take]; rfl)) ?_; (with_reducible refine (spec_CronLow.calls a0 t177 _ A2.out).mono ?_); rintro e w' ⟨rfl, ⟨nd, rfl⟩⟩; refine ⟨_, rfl, ?_⟩; (try (rw [drewN_self w4]; generalize hq_ : World.drewN w4 _ = w4; have n0_ : Aside0 (w4.heap[gb176]? = some (.cells #[.int .i64 0, .int .i64 0, .int .i64 0] 145 (0, 0))) := ⟨by rw [← hq_]; exact (by (with_reducible repeat (first | refine blk_drewN ?_ _ | refine blk_drew ?_ | refine blk_alloc ?_ _)); exact BK176.out)⟩; have n1_ : Aside0 (Below w.heap.size w w4) := ⟨by rw [← hq_]; exact (by repeat (first | (with_reducible first | exact HB.out | apply below_alloc | apply pw_below_drewN | apply below_drew1 | refine below_set ?_ GE176.out) | exact HB.out))⟩; clear BK176 HB hq_; have BK176 := n0_; have HB := n1_; clear n0_ n1_))) | ((with_reducible refine gate_callee (f := 89) rfl ?_); refine goesL_ (some 6) rfl rfl Tryz.func89 (by kernel_rfl) rfl #[.int .i64 a0] rfl (by (try simp only [List.map_toArray, List.map_cons, List.map_nil]); first | done | rfl | (simp only [List.length_drop, List.length_take]; rfl)) ?_; (with_reducible refine (spec_CronHigh.calls a0 t178 _ A3.out).mono ?_); rintro e w' ⟨rfl, ⟨nd, rfl⟩⟩; refine ⟨_, rfl, ?_⟩; (try (rw [drewN_self w4]; generalize hq_ : World.drewN w4 _ = w4; have n0_ : Aside0 (w4.heap[gb176]? = some (.cells #[.int .i64 0, .int .i64 0, .int .i64 0] 145 (0, 0))) := ⟨by rw [← hq_]; exact (by (with_reducible repeat (first | refine blk_drewN ?_ _ | refine blk_drew ?_ | refine blk_alloc ?_ _)); exact BK176.out)⟩; have n1_ : Aside0 (Below w.heap.size w w4) := ⟨by rw [← hq_]; exact (by repeat (first | (with_reducible first | exact HB.out | apply below_alloc | apply pw_below_drewN | apply below_drew1 | refine below_set ?_ GE176.out) | exact HB.out))⟩; clear BK176 HB hq_; have BK176 := n0_; have HB := n1_; clear n0_ n1_)); have hcz5_0 : w4.cell? ⟨gb176, 0, none⟩ = some (.int .i64 0) := (blk_cell BK176.out 0).trans rfl; have hcz5_1 : w4.cell? ⟨gb176, 1, none⟩ = some (.int .i64 0) := (blk_cell BK176.out 1).trans rfl; have hcz5_2 : w4.cell? ⟨gb176, 2, none⟩ = some (.int .i64 0) := (blk_cell BK176.out 2).trans rfl; have hfz5_0 := blk_frozen BK176.out 0; have hfz5_1 := blk_frozen BK176.out 1; have hfz5_2 := blk_frozen BK176.out 2))
  refine bodyPost_ret (results_cell_row rfl _ _ gb176 145 #[.int .i64 t177, .int .i64 t178, .int .i64 a0] (0, 0) _ rfl (by (with_reducible repeat (first | refine blk_drewN ?_ _ | refine blk_drew ?_ | refine blk_alloc ?_ _)); refine blk_put (cs := #[.int .i64 t177, .int .i64 t178, .int .i64 0]) ?_ 2 _ rfl; (with_reducible repeat (first | refine blk_drewN ?_ _ | refine blk_drew ?_ | refine blk_alloc ?_ _)); refine blk_put (cs := #[.int .i64 t177, .int .i64 0, .int .i64 0]) ?_ 1 _ rfl; (with_reducible repeat (first | refine blk_drewN ?_ _ | refine blk_drew ?_ | refine blk_alloc ?_ _)); refine blk_put (cs := #[.int .i64 0, .int .i64 0, .int .i64 0]) ?_ 0 _ rfl; (with_reducible repeat (first | refine blk_drewN ?_ _ | refine blk_drew ?_ | refine blk_alloc ?_ _)); exact BK176.out) Tryz.underlying145 rfl (by kernel_rfl)) rfl ?_
  exact ⟨by first | rfl | (simp [errW_none, errW_some] <;> rfl) | (simp [*, errW_none, errW_some] <;> rfl), by repeat (first | (with_reducible first | exact HB.out | apply below_alloc | apply pw_below_drewN | apply below_drew1 | refine below_set ?_ GE176.out) | exact HB.out)⟩
end Go.Proofs.YtikgnpachlgakaaGreatDoor.Pr

namespace Go.Proofs.YtikgnpachlgakaaGreatDoor.Pr
open Go.RowKit Go.Proofs.YtikgnpachlgakaaGreatDoorW.PrintWords Go.Proofs.YtikgnpachlgakaaGreatDoorW.PrintLast Go.Proofs.YtikgnpachlgakaaGreatDoorW.PrintMore
attribute [local go_sem] max2_int min2_int max_two min_two max_three min_three max_four min_four   -- for this text's walks alone
set_option linter.unusedVariables false
set_option linter.unusedSimpArgs false
/-! ### cron_places: function 56 -/
def cron_places.f  : Option (List Int) := some (([1, 4, 8, 16, 32, 64] : List Int))
set_option maxHeartbeats 8000000 in
set_option maxRecDepth 100000 in
theorem cron_places.calls  (r : List Int) (w : World) (h : cron_places.f  = some r) :
    Calls Tryz.prog 56 #[] w fun e w' => ∃ v0_ : Value, e = .returned (v0_) ∧ Kd.R (Kd.int .i64) 39 w' w.heap.size (fun _ => True) v0_ r ∧ Below w.heap.size w w' := by
  have HB := Aside0.mk (Below.refl w.heap.size w)
  have H : (some (([1, 4, 8, 16, 32, 64] : List Int))) = some r := h
  clear h
  obtain ⟨y120, hy120⟩ : ∃ y_ : List Int, y_ = (([1, 4, 8, 16, 32, 64] : List Int)) := ⟨_, rfl⟩
  replace H : (some y120) = some r := by first | (rw [hy120]; with_reducible exact H) | (have H2_ := (Option.bind_some _ _).symm.trans H; rw [hy120]; with_reducible exact H2_) | (have H2_ := (Option.bind_some _ _).symm.trans H; with_reducible exact H2_) | with_reducible exact H | (rw [hy120]; exact H) | exact H
  have Ny120 := Aside0.mk hy120
  clear hy120
  obtain rfl := Option.some.inj H
  go_enter Tryz.func56, Tryz.ntmps56
  go_wp2_with (first | ((with_reducible refine gate_dst (N := 1) rfl ?_); refine Kd.R_lit (Kd.int .i64) _ 39 ?hg (N := 1) ?hd (xs := ([1, 4, 8, 16, 32, 64] : List Int)) (inner := [.int .i64 1, .int .i64 4, .int .i64 8, .int .i64 16, .int .i64 32, .int .i64 64]) (ok := fun _ => True) (okp := fun _ => True) ?hr ?hp (fun _ hk => hk) trivial (Below.refl _ _) (Nat.le_refl _) (by simp) ?_; (case hd => rfl); (case hg => rfl); (case hr => first | (go_simp; done) | (go_simp; rfl)); (case hp => exact (Reps.one (show Kd.M (Kd.int .i64) _ _ _ 1 [.int .i64 1] from rfl) (Reps.one (show Kd.M (Kd.int .i64) _ _ _ 4 [.int .i64 4] from rfl) (Reps.one (show Kd.M (Kd.int .i64) _ _ _ 8 [.int .i64 8] from rfl) (Reps.one (show Kd.M (Kd.int .i64) _ _ _ 16 [.int .i64 16] from rfl) (Reps.one (show Kd.M (Kd.int .i64) _ _ _ 32 [.int .i64 32] from rfl) (Reps.one (show Kd.M (Kd.int .i64) _ _ _ 64 [.int .i64 64] from rfl) (Reps.none _ _)))))))); intro v121 w1 ho2 hb hg_ hnew_; clear hg_ hnew_; (first | rw [← Ny120.out] at ho2 | (simp only [Int.reduceToNat] at ho2; rw [← Ny120.out] at ho2)); have n0_ := Aside0.mk (Kd.R_lower ho2 (below_size (by repeat (first | (with_reducible first | exact HB.out | apply below_alloc | apply pw_below_drewN | apply below_drew1) | exact HB.out)))); have n1_ := Aside0.mk (below_step (by repeat (first | (with_reducible first | exact HB.out | apply below_alloc | apply pw_below_drewN | apply below_drew1) | exact HB.out)) hb); clear HB; have HO122 := n0_; have HB := n1_; clear n0_ n1_; clear hb ho2))
  go_ret
  exact ⟨_, by first | rfl | (simp [errW_none, errW_some] <;> rfl) | (simp [*, errW_none, errW_some] <;> rfl), by (with_reducible repeat (first | apply Kd.R_alloc | apply Kd.R_drewN | apply Kd.R_drew)); exact HO122.out, by repeat (first | (with_reducible first | exact HB.out | apply below_alloc | apply pw_below_drewN | apply below_drew1) | exact HB.out)⟩
end Go.Proofs.YtikgnpachlgakaaGreatDoor.Pr

namespace Go.Proofs.YtikgnpachlgakaaGreatDoor.Pr
open Go.RowKit Go.Proofs.YtikgnpachlgakaaGreatDoorW.PrintWords Go.Proofs.YtikgnpachlgakaaGreatDoorW.PrintLast Go.Proofs.YtikgnpachlgakaaGreatDoorW.PrintMore
attribute [local go_sem] max2_int min2_int max_two min_two max_three min_three max_four min_four   -- for this text's walks alone
set_option linter.unusedVariables false
set_option linter.unusedSimpArgs false
/-! ### cron_defaults: function 57 -/
def cron_defaults.f  : Option (List ByteArray) := some (([(⟨#[48]⟩ : ByteArray), (⟨#[48]⟩ : ByteArray), (⟨#[48]⟩ : ByteArray), (⟨#[42]⟩ : ByteArray), (⟨#[42]⟩ : ByteArray), (⟨#[42]⟩ : ByteArray)] : List ByteArray))
set_option maxHeartbeats 8000000 in
set_option maxRecDepth 100000 in
theorem cron_defaults.calls  (r : List ByteArray) (w : World) (h : cron_defaults.f  = some r) :
    Calls Tryz.prog 57 #[] w fun e w' => ∃ v0_ : Value, e = .returned (v0_) ∧ Kd.R Kd.string 9 w' w.heap.size (fun _ => True) v0_ r ∧ Below w.heap.size w w' := by
  have HB := Aside0.mk (Below.refl w.heap.size w)
  have H : (some (([(⟨#[48]⟩ : ByteArray), (⟨#[48]⟩ : ByteArray), (⟨#[48]⟩ : ByteArray), (⟨#[42]⟩ : ByteArray), (⟨#[42]⟩ : ByteArray), (⟨#[42]⟩ : ByteArray)] : List ByteArray))) = some r := h
  clear h
  obtain ⟨y123, hy123⟩ : ∃ y_ : List ByteArray, y_ = (([(⟨#[48]⟩ : ByteArray), (⟨#[48]⟩ : ByteArray), (⟨#[48]⟩ : ByteArray), (⟨#[42]⟩ : ByteArray), (⟨#[42]⟩ : ByteArray), (⟨#[42]⟩ : ByteArray)] : List ByteArray)) := ⟨_, rfl⟩
  replace H : (some y123) = some r := by first | (rw [hy123]; with_reducible exact H) | (have H2_ := (Option.bind_some _ _).symm.trans H; rw [hy123]; with_reducible exact H2_) | (have H2_ := (Option.bind_some _ _).symm.trans H; with_reducible exact H2_) | with_reducible exact H | (rw [hy123]; exact H) | exact H
  have Ny123 := Aside0.mk hy123
  clear hy123
  obtain rfl := Option.some.inj H
  go_enter Tryz.func57, Tryz.ntmps57
  go_wp2_with (first | ((with_reducible refine gate_dst (N := 1) rfl ?_); refine Kd.R_lit Kd.string _ 9 ?hg (N := 1) ?hd (xs := ([(⟨#[48]⟩ : ByteArray), (⟨#[48]⟩ : ByteArray), (⟨#[48]⟩ : ByteArray), (⟨#[42]⟩ : ByteArray), (⟨#[42]⟩ : ByteArray), (⟨#[42]⟩ : ByteArray)] : List ByteArray)) (inner := [.string (⟨#[48]⟩ : ByteArray), .string (⟨#[48]⟩ : ByteArray), .string (⟨#[48]⟩ : ByteArray), .string (⟨#[42]⟩ : ByteArray), .string (⟨#[42]⟩ : ByteArray), .string (⟨#[42]⟩ : ByteArray)]) (ok := fun _ => True) (okp := fun _ => True) ?hr ?hp (fun _ hk => hk) trivial (Below.refl _ _) (Nat.le_refl _) (by simp) ?_; (case hd => rfl); (case hg => rfl); (case hr => first | (go_simp; done) | (go_simp; rfl)); (case hp => exact (Reps.one (show Kd.M Kd.string _ _ _ (⟨#[48]⟩ : ByteArray) [.string (⟨#[48]⟩ : ByteArray)] from rfl) (Reps.one (show Kd.M Kd.string _ _ _ (⟨#[48]⟩ : ByteArray) [.string (⟨#[48]⟩ : ByteArray)] from rfl) (Reps.one (show Kd.M Kd.string _ _ _ (⟨#[48]⟩ : ByteArray) [.string (⟨#[48]⟩ : ByteArray)] from rfl) (Reps.one (show Kd.M Kd.string _ _ _ (⟨#[42]⟩ : ByteArray) [.string (⟨#[42]⟩ : ByteArray)] from rfl) (Reps.one (show Kd.M Kd.string _ _ _ (⟨#[42]⟩ : ByteArray) [.string (⟨#[42]⟩ : ByteArray)] from rfl) (Reps.one (show Kd.M Kd.string _ _ _ (⟨#[42]⟩ : ByteArray) [.string (⟨#[42]⟩ : ByteArray)] from rfl) (Reps.none _ _)))))))); intro v124 w1 ho2 hb hg_ hnew_; clear hg_ hnew_; (first | rw [← Ny123.out] at ho2 | (simp only [Int.reduceToNat] at ho2; rw [← Ny123.out] at ho2)); have n0_ := Aside0.mk (Kd.R_lower ho2 (below_size (by repeat (first | (with_reducible first | exact HB.out | apply below_alloc | apply pw_below_drewN | apply below_drew1) | exact HB.out)))); have n1_ := Aside0.mk (below_step (by repeat (first | (with_reducible first | exact HB.out | apply below_alloc | apply pw_below_drewN | apply below_drew1) | exact HB.out)) hb); clear HB; have HO125 := n0_; have HB := n1_; clear n0_ n1_; clear hb ho2))
  go_ret
  exact ⟨_, by first | rfl | (simp [errW_none, errW_some] <;> rfl) | (simp [*, errW_none, errW_some] <;> rfl), by (with_reducible repeat (first | apply Kd.R_alloc | apply Kd.R_drewN | apply Kd.R_drew)); exact HO125.out, by repeat (first | (with_reducible first | exact HB.out | apply below_alloc | apply pw_below_drewN | apply below_drew1) | exact HB.out)⟩
end Go.Proofs.YtikgnpachlgakaaGreatDoor.Pr
