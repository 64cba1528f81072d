/- Functions of the program and of its library as plain Lean functions, printed by the kit's print.sh, merged by wip/tools/pack.py. Conditions: none. -/
import Derived.Test.YtmecbmgfacpecaaGreatDoorProg
import Derived.Test.YtmecbmgfacpecaaGreatDoorWEqStructT
import Derived.Test.YtmecbmgfacpecaaGreatDoorWRepsOneT
import Derived.Test.YtmecbmgfacpecaaGreatDoorWInvT
import Derived.Test.YtmecbmgfacpecaaGreatDoorWMoreT
set_option linter.unusedVariables false
set_option linter.unusedSimpArgs false
namespace Go.Proofs.YtmecbmgfacpecaaGreatDoor.Pr
open Go.RowKit Go.Proofs.YtmecbmgfacpecaaGreatDoorW.PrintWords Go.Proofs.YtmecbmgfacpecaaGreatDoorW.PrintLast Go.Proofs.YtmecbmgfacpecaaGreatDoorW.PrintMore
attribute [local go_sem] max2_int min2_int max_two min_two max_three min_three max_four min_four
def errW : Option Int → Value
 | none => .nilIface
 | some c => .iface 0 (.int .i64 c)
theorem errW_none : errW none = .nilIface := rfl
theorem errW_some (c : Int) : errW (some c) = .iface 0 (.int .i64 c) := rfl
theorem info9 : (Tryz.prog.info? 9).map (fun i => (i.zero, i.size, i.bytes)) = some (some (.string ⟨#[]⟩), 1, 16) := by kernel_rfl
-- the values' own types
theorem info41 : (Tryz.prog.info? 41).map (fun i => (i.zero, i.size, i.bytes)) = some (some (.agg #[(.int .i64 0), (.string ⟨#[]⟩), (.int .i64 0)]), 3, 32) := by kernel_rfl
-- the values' own types
structure S41 where
 f0 : Int
 f1 : ByteArray
 f2 : Int
def z41 : S41 := ⟨(0 : Int), (⟨#[]⟩ : ByteArray), (0 : Int)⟩
def k41 : Kd S41 := Kd.iso (Kd.pair (Kd.int .i64) (Kd.pair Kd.string (Kd.int .i64))) (fun x : S41 => (x.f0, x.f1, x.f2))
theorem k41_open {w : World} {x : S41} {cs : List Value} (h : k41.K w x cs) : cs = [.int .i64 x.f0, .string x.f1, .int .i64 x.f2] := by
 obtain ⟨_, _, rfl, rfl, ⟨_, _, rfl, rfl, rfl⟩⟩ := h;exact rfl
theorem k41_mkM (w : World) (base : Nat) (ok : Nat → Prop) (x : S41)  : k41.M w base ok x [.int .i64 x.f0, .string x.f1, .int .i64 x.f2] := ⟨[.int .i64 x.f0], [.string x.f1, .int .i64 x.f2], rfl, rfl, ⟨[.string x.f1], [.int .i64 x.f2], rfl, rfl, rfl⟩⟩
theorem eqA26 (d : Nat) (w : World) (x0 y0 : Bool) (x1 y1 : Int) (x2 y2 : Int) (x3 y3 : Int) (x4 y4 : Int) (x5 y5 : Int) (x6 y6 : Int) (x7 y7 : Int) :
  (Op.equalIn (d + 2) 26 (.agg #[.bool x0, .int .i64 x1, .int .u64 x2, .int .u64 x3, .int .u64 x4, .int .u64 x5, .int .u64 x6, .int .u64 x7]) (.agg #[.bool y0, .int .i64 y1, .int .u64 y2, .int .u64 y3, .int .u64 y4, .int .u64 y5, .int .u64 y6, .int .u64 y7])).run Tryz.prog w = .ok (x0 == y0 && (x1 == y1 && (x2 == y2 && (x3 == y3 && (x4 == y4 && (x5 == y5 && (x6 == y6 && (x7 == y7)))))))) w := by
 refine eqA_of Tryz.underlying26 (by kernel_rfl) ?_;refine eqf_cons (by rfl) (by go_simp; rfl) (by go_simp; rfl) (by go_simp) ?_;refine eqf_cons (by rfl) (by go_simp; rfl) (by go_simp; rfl) (by go_simp) ?_;refine eqf_cons (by rfl) (by go_simp; rfl) (by go_simp; rfl) (by go_simp) ?_;refine eqf_cons (by rfl) (by go_simp; rfl) (by go_simp; rfl) (by go_simp) ?_;refine eqf_cons (by rfl) (by go_simp; rfl) (by go_simp; rfl) (by go_simp) ?_;refine eqf_cons (by rfl) (by go_simp; rfl) (by go_simp; rfl) (by go_simp) ?_;refine eqf_cons (by rfl) (by go_simp; rfl) (by go_simp; rfl) (by go_simp) ?_;exact eqf_last (by rfl) (by go_simp; rfl) (by go_simp; rfl) (by go_simp)
end Go.Proofs.YtmecbmgfacpecaaGreatDoor.Pr
namespace Go.Proofs.YtmecbmgfacpecaaGreatDoor.Pr
open Go.RowKit Go.Proofs.YtmecbmgfacpecaaGreatDoorW.PrintWords Go.Proofs.YtmecbmgfacpecaaGreatDoorW.PrintLast Go.Proofs.YtmecbmgfacpecaaGreatDoorW.PrintMore
attribute [local go_sem] max2_int min2_int max_two min_two max_three min_three max_four min_four   -- for this text's walks alone
attribute [local go_sem high] eqA26
def cron_zzIndex.l0 : Nat → ByteArray → ByteArray → Int → Option (Int)
 | 0, _, _, _ => none
 | k + 1, x0, x1, x5 => if (wrap64 (x5 + (x1.size : Int))) ≤ (x0.size : Int) then (if 0 ≤ x5 then (if x5 ≤ (wrap64 (x5 + (x1.size : Int))) then (if (x0.extract (x5 : Int).toNat ((wrap64 (x5 + (x1.size : Int))) : Int).toNat).toList = x1.toList then (some x5) else (cron_zzIndex.l0 k x0 x1 (wrap64 (x5 + 1)))) else (none)) else (none)) else (some (-1))
def cron_zzIndex.f (k : Nat) (a0 : ByteArray) (a1 : ByteArray) : Option (Int) := cron_zzIndex.l0 k a0 a1 0
theorem cron_zzIndex.mono_l : ∀ k, (∀ y0 y1 y2, LeO (cron_zzIndex.l0 k y0 y1 y2) (cron_zzIndex.l0 (k + 1) y0 y1 y2))
 | 0 => fun _ _ _ r h => by simp [cron_zzIndex.l0] at h
 | k + 1 => by
  have ih0 := cron_zzIndex.mono_l k
  ·intro y0 y1 y2;unfold cron_zzIndex.l0;repeat' first
   | (with_reducible exact ih0 _ _ _)
   | (with_reducible exact LeO.refl _)
   | (with_reducible exact LeO.none _)
   | (with_reducible refine LeO.ite ?_ ?_)
   | (with_reducible refine LeO.bind ?_ (fun _ => ?_))
   | exact ih0 _ _ _
   | exact LeO.none _
   | refine LeO.ite ?_ ?_
   | refine LeO.bind ?_ (fun _ => ?_)
theorem cron_zzIndex.mono : ∀ a0 a1 k, LeO (cron_zzIndex.f k a0 a1) (cron_zzIndex.f (k + 1) a0 a1) := by
 intro a0 a1 k;have ih0 := cron_zzIndex.mono_l k;unfold cron_zzIndex.f
 repeat' first
  | (with_reducible exact ih0 _ _ _)
  | (with_reducible exact LeO.refl _)
  | (with_reducible exact LeO.none _)
  | (with_reducible refine LeO.ite ?_ ?_)
  | (with_reducible refine LeO.bind ?_ (fun _ => ?_))
  | exact ih0 _ _ _
  | exact LeO.none _
  | refine LeO.ite ?_ ?_
  | refine LeO.bind ?_ (fun _ => ?_)
set_option maxHeartbeats 8000000 in
set_option maxRecDepth 100000 in
theorem cron_zzIndex.calls (k : Nat) (a0 : ByteArray) (a1 : ByteArray) (r : Int) (w : World) (h : cron_zzIndex.f k a0 a1 = some r) :
  Calls Tryz.prog 98 #[.string a0, .string a1] w fun e w' => e = .returned (.int .i64 r) ∧ Drawn0 w w' := by
 have H : (cron_zzIndex.l0 k a0 a1 0) = some r := h;clear h;have H' := Aside0.mk H;clear H;go_enter Tryz.func98, Tryz.ntmps98;go_wp2
 go_loopg [5] k (fun kq v5 w' => ∃ (x5_1 : Int), v5 = .int .i64 x5_1 ∧ Aside0 (cron_zzIndex.l0 kq a0 a1 x5_1 = some r) ∧ Aside0 (kq ≤ k) ∧ Drawn0 w w')
 case atStart => exact ⟨(0), (by first | rfl | (simp; done) | (simp [*]; done)), H', ⟨Nat.le_refl _⟩, by repeat (first | exact Drawn0.refl _ | apply Drawn0.step)⟩
 case round =>
  clear H';try clear p2
  obtain ⟨x5_1, rfl, HA, HK1, ⟨m1, rfl⟩⟩ := hrel;cases gk with
  | zero => exact absurd HA.out (by simp [cron_zzIndex.l0])
  | succ k1 =>
   have H := HA.out;clear HA;simp only [cron_zzIndex.l0] at H;by_cases c3 : (wrap64 (x5_1 + (a1.size : Int))) ≤ (a0.size : Int)
   ·rw [if_pos c3] at H;have c3b0 : decide ((wrap64 (x5_1 + (a1.size : Int))) ≤ (a0.size : Int)) = true := decide_eq_true c3;clear c3;by_cases c4 : 0 ≤ x5_1
    ·rw [if_pos c4] at H;have c4b0 := eq_true c4;have c4b1 : decide (0 ≤ x5_1) = true := decide_eq_true c4;clear c4;by_cases c5 : x5_1 ≤ (wrap64 (x5_1 + (a1.size : Int)))
     ·rw [if_pos c5] at H;have c5b0 := eq_true c5;have c5b1 : decide (x5_1 ≤ (wrap64 (x5_1 + (a1.size : Int)))) = true := decide_eq_true c5;have c6b0 := eq_true (of_decide_eq_true (by first | (with_reducible assumption) | assumption) : (wrap64 (x5_1 + (a1.size : Int))) ≤ (a0.size : Int));by_cases c7 : (a0.extract (x5_1 : Int).toNat ((wrap64 (x5_1 + (a1.size : Int))) : Int).toNat).toList = a1.toList
      ·rw [if_pos c7] at H;have c7b0 : ((a0.extract (x5_1 : Int).toNat ((wrap64 (x5_1 + (a1.size : Int))) : Int).toNat).toList == a1.toList) = true := beq_iff_eq.mpr c7;have c7b1 : ((a0.extract (x5_1 : Int).toNat ((wrap64 (x5_1 + (a1.size : Int))) : Int).toNat).toList != a1.toList) = false := bne_eq_false_iff_eq.mpr c7;clear c7;obtain rfl := Option.some.inj H;go_wp2
       go_ret;exact ⟨by first | rfl | (simp; done) | (simp [*]; done), by repeat (first | exact Drawn0.refl _ | apply Drawn0.step)⟩
      ·rw [if_neg c7] at H;have c7b0 : ((a0.extract (x5_1 : Int).toNat ((wrap64 (x5_1 + (a1.size : Int))) : Int).toNat).toList == a1.toList) = false := beq_eq_false_iff_ne.mpr c7;have c7b1 : ((a0.extract (x5_1 : Int).toNat ((wrap64 (x5_1 + (a1.size : Int))) : Int).toNat).toList != a1.toList) = true := bne_iff_ne.mpr c7;have H' := Aside0.mk H;clear H;go_wp2
       go_roundg k1
       case measure => have := HK1.out; omega
       case rel => exact ⟨(wrap64 (x5_1 + 1)), (by first | rfl | (simp; done) | (simp [*]; done)), H', ⟨by have := HK1.out; omega⟩, by repeat (first | exact Drawn0.refl _ | apply Drawn0.step)⟩
     ·rw [if_neg c5] at H;exact absurd H (by simp)
    ·rw [if_neg c4] at H;exact absurd H (by simp)
   ·rw [if_neg c3] at H;have c3b0 : decide ((wrap64 (x5_1 + (a1.size : Int))) ≤ (a0.size : Int)) = false := decide_eq_false c3;clear c3;obtain rfl := Option.some.inj H;go_wp2
    go_ret;exact ⟨by first | rfl | (simp; done) | (simp [*]; done), by repeat (first | exact Drawn0.refl _ | apply Drawn0.step)⟩
end Go.Proofs.YtmecbmgfacpecaaGreatDoor.Pr
namespace Go.Proofs.YtmecbmgfacpecaaGreatDoor.Pr
open Go.RowKit Go.Proofs.YtmecbmgfacpecaaGreatDoorW.PrintWords Go.Proofs.YtmecbmgfacpecaaGreatDoorW.PrintLast Go.Proofs.YtmecbmgfacpecaaGreatDoorW.PrintMore
attribute [local go_sem] max2_int min2_int max_two min_two max_three min_three max_four min_four
def spec_cronPieces.l0 : Nat → ByteArray → Int → List ByteArray → Int → Int → Int → Option (List ByteArray)
 | 0, _, _, _, _, _, _ => none
 | k + 1, x0, x1, x5, x6, x9, x10 => if x10 < x9 then (if 0 ≤ x10 then (if x10 < (x0.size : Int) then (if (bt x0 x10) = x1 then (if 0 ≤ x6 then (if x6 ≤ x10 then (if x10 ≤ (x0.size : Int) then (if x5.length < 8796093022208 then (spec_cronPieces.l0 k x0 x1 (x5 ++ [x0.extract (x6 : Int).toNat (x10 : Int).toNat]) (wrap64 (x10 + 1)) x9 (wrap64 (x10 + 1))) else (none)) else (none)) else (none)) else (none)) else (spec_cronPieces.l0 k x0 x1 x5 x6 x9 (wrap64 (x10 + 1)))) else (none)) else (none)) else (if 0 ≤ x6 then (if x6 ≤ (x0.size : Int) then (if x5.length < 8796093022208 then (some (x5 ++ [x0.extract (x6 : Int).toNat x0.size])) else (none)) else (none)) else (none))
def spec_cronPieces.f (k : Nat) (a0 : ByteArray) (a1 : Int) : Option (List ByteArray) := spec_cronPieces.l0 k a0 a1 ([] : List ByteArray) 0 (a0.size : Int) 0
theorem spec_cronPieces.mono_l : ∀ k, (∀ y0 y1 y2 y3 y4 y5, LeO (spec_cronPieces.l0 k y0 y1 y2 y3 y4 y5) (spec_cronPieces.l0 (k + 1) y0 y1 y2 y3 y4 y5))
 | 0 => fun _ _ _ _ _ _ r h => by simp [spec_cronPieces.l0] at h
 | k + 1 => by
  have ih0 := spec_cronPieces.mono_l k
  ·intro y0 y1 y2 y3 y4 y5;unfold spec_cronPieces.l0;repeat' first
   | (with_reducible exact ih0 _ _ _ _ _ _)
   | (with_reducible exact LeO.refl _)
   | (with_reducible exact LeO.none _)
   | (with_reducible refine LeO.ite ?_ ?_)
   | (with_reducible refine LeO.bind ?_ (fun _ => ?_))
   | exact ih0 _ _ _ _ _ _
   | exact LeO.none _
   | refine LeO.ite ?_ ?_
   | refine LeO.bind ?_ (fun _ => ?_)
theorem spec_cronPieces.mono : ∀ a0 a1 k, LeO (spec_cronPieces.f k a0 a1) (spec_cronPieces.f (k + 1) a0 a1) := by
 intro a0 a1 k;have ih0 := spec_cronPieces.mono_l k;unfold spec_cronPieces.f
 repeat' first
  | (with_reducible exact ih0 _ _ _ _ _ _)
  | (with_reducible exact LeO.refl _)
  | (with_reducible exact LeO.none _)
  | (with_reducible refine LeO.ite ?_ ?_)
  | (with_reducible refine LeO.bind ?_ (fun _ => ?_))
  | exact ih0 _ _ _ _ _ _
  | exact LeO.none _
  | refine LeO.ite ?_ ?_
  | refine LeO.bind ?_ (fun _ => ?_)
set_option maxHeartbeats 8000000 in
set_option maxRecDepth 100000 in
theorem spec_cronPieces.calls (k : Nat) (a0 : ByteArray) (a1 : Int) (r : List ByteArray) (w : World) (h : spec_cronPieces.f k a0 a1 = some r) :
  Calls Tryz.prog 56 #[.string a0, .int .u8 a1] w fun e w' => ∃ v0_ : Value, e = .returned (v0_) ∧ Kd.R Kd.string 9 w' w.heap.size (fun _ => True) v0_ r ∧ Below w.heap.size w w' := by
 have HB := Aside0.mk (Below.refl w.heap.size w);have H : (spec_cronPieces.l0 k a0 a1 ([] : List ByteArray) 0 (a0.size : Int) 0) = some r := h;clear h;have H' := Aside0.mk H;clear H;go_enter Tryz.func56, Tryz.ntmps56;go_wp2
 go_loopg [5, 6, 10] k (fun kq v5 v6 v10 w' => ∃ (x5_1 : List ByteArray) (x6_1 : Int) (x10_1 : Int), v6 = .int .i64 x6_1 ∧ v10 = .int .i64 x10_1 ∧ Aside0 (spec_cronPieces.l0 kq a0 a1 x5_1 x6_1 (a0.size : Int) x10_1 = some r) ∧ Aside0 (kq ≤ k) ∧ Aside0 (Kd.R Kd.string 9 w' w.heap.size (fun _ => True) v5 x5_1) ∧ Aside0 (Below w.heap.size w w'))
 case atStart => exact ⟨(([] : List ByteArray)), (0), (0), (by first | rfl | (simp; done) | (simp [*]; done)), (by first | rfl | (simp; done) | (simp [*]; done)), H', ⟨Nat.le_refl _⟩, ⟨by first | exact Kd.R_nil _ _ _ _ _ | exact Kd.N_nil _ _ _ _ _ | exact Kd.V_nil _ _ _ _ _ | exact Kd.Q_nil _ _ _ _ _ | exact Kd.S_nil _ _ _ _ _⟩, ⟨by repeat (first | (with_reducible first | exact HB.out | apply below_alloc | apply pw_below_drewN | apply below_drew1) | exact HB.out)⟩⟩
 case round =>
  clear H';try clear p2
  obtain ⟨x5_1, x6_1, x10_1, rfl, rfl, HA, HK1, HO_5, HB⟩ := hrel;cases gk with
  | zero => exact absurd HA.out (by simp [spec_cronPieces.l0])
  | succ k1 =>
   have H := HA.out;clear HA;simp only [spec_cronPieces.l0] at H;by_cases c3 : x10_1 < (a0.size : Int)
   ·rw [if_pos c3] at H;have c3b0 : decide (x10_1 < (a0.size : Int)) = true := decide_eq_true c3;clear c3;by_cases c4 : 0 ≤ x10_1
    ·rw [if_pos c4] at H;have c4b0 : decide (0 ≤ x10_1) = true := decide_eq_true c4;clear c4;by_cases c5 : x10_1 < (a0.size : Int)
     ·rw [if_pos c5] at H;have c5b0 : decide (x10_1 < (a0.size : Int)) = true := decide_eq_true c5;clear c5;by_cases c7 : (bt a0 x10_1) = a1
      ·rw [if_pos c7] at H;have c7b0 : ((bt a0 x10_1) == a1) = true := beq_iff_eq.mpr c7;have c7b1 : ((bt a0 x10_1) != a1) = false := bne_eq_false_iff_eq.mpr c7;clear c7;by_cases c8 : 0 ≤ x6_1
       ·rw [if_pos c8] at H;have c8b0 := eq_true c8;have c8b1 : decide (0 ≤ x6_1) = true := decide_eq_true c8;clear c8;by_cases c9 : x6_1 ≤ x10_1
        ·rw [if_pos c9] at H;have c9b0 := eq_true c9;have c9b1 : decide (x6_1 ≤ x10_1) = true := decide_eq_true c9;clear c9;by_cases c10 : x10_1 ≤ (a0.size : Int)
         ·rw [if_pos c10] at H;have c10b0 := eq_true c10;have c10b1 : decide (x10_1 ≤ (a0.size : Int)) = true := decide_eq_true c10;clear c10;by_cases c11 : x5_1.length < 8796093022208
          ·rw [if_pos c11] at H;have LMc11 := Aside0.mk c11;clear c11;obtain ⟨y122, hy122⟩ : ∃ y_ : List ByteArray, y_ = (x5_1 ++ [a0.extract (x6_1 : Int).toNat (x10_1 : Int).toNat]) := ⟨_, rfl⟩
           replace H : (spec_cronPieces.l0 k1 a0 a1 y122 (wrap64 (x10_1 + 1)) (a0.size : Int) (wrap64 (x10_1 + 1))) = some r := by first | (rw [hy122]; with_reducible exact H) | (have H2_ := (Option.bind_some _ _).symm.trans H; rw [hy122]; with_reducible exact H2_) | (have H2_ := (Option.bind_some _ _).symm.trans H; with_reducible exact H2_) | with_reducible exact H | (rw [hy122]; exact H) | exact H
           have Ny122 := Aside0.mk hy122;clear hy122;have H' := Aside0.mk H;clear H;have p6 : 0 ≤ (x10_1 : Int) := of_decide_eq_true (by first | (with_reducible assumption) | assumption);have q6 : x10_1 < (a0.size : Int) := of_decide_eq_true (by first | (with_reducible assumption) | assumption);have hx6 := bt_at a0 x10_1;replace p6 := eq_true p6;replace q6 := eq_true q6;go_wp2_with (first | ((with_reducible refine gate_builtin (b := .append) (xs := #[.tmp 18, .tmp 23]) rfl ?_); at_builtin; refine Kd.R_append Kd.string (w0 := w) w.heap.size rfl (.tmp 18) (.tmp 23) 33 9 (.string ⟨#[]⟩) 16 rfl Tryz.underlying33 info9 rfl (by decide) (by omega) u5 x5_1 (a0.extract (x6_1 : Int).toNat (x10_1 : Int).toNat) [.string (a0.extract (x6_1 : Int).toNat (x10_1 : Int).toNat)] (fun _ => True) (fun _ => False) rfl rfl ?aP (fun _ hk => hk.elim) ?aF ?aO ?aB ?aS ?aL ?_; (case aP => exact rfl); (case aB => exact (by repeat (first | (with_reducible first | exact HB.out | apply below_alloc | apply pw_below_drewN | apply below_drew1) | exact HB.out))); (case aF => exact (fun _ _ => trivial)); (case aO => exact (by (with_reducible repeat (first | apply Kd.R_alloc | apply Kd.R_drewN | apply Kd.R_drew)); exact HO_5.out)); (case aS => exact (below_size (by repeat (first | (with_reducible first | exact HB.out | apply below_alloc | apply pw_below_drewN | apply below_drew1) | exact HB.out)))); (case aL => have := LMc11.out; omega); intro v123 w12 ho hb hg hat; rw [← Ny122.out] at ho; have n0_ := Aside0.mk (hb); have n1_ := Aside0.mk (ho); clear HB; clear HO_5; have HB := n0_; have HO124 := n1_; clear n0_ n1_; clear ho hb hg hat))
           go_roundg k1
           case measure => have := HK1.out; omega
           case rel => exact ⟨(y122), (wrap64 (x10_1 + 1)), (wrap64 (x10_1 + 1)), (by first | rfl | (simp; done) | (simp [*]; done)), (by first | rfl | (simp; done) | (simp [*]; done)), H', ⟨by have := HK1.out; omega⟩, ⟨by (with_reducible repeat (first | apply Kd.R_alloc | apply Kd.R_drewN | apply Kd.R_drew)); exact HO124.out⟩, ⟨by repeat (first | (with_reducible first | exact HB.out | apply below_alloc | apply pw_below_drewN | apply below_drew1) | exact HB.out)⟩⟩
          ·rw [if_neg c11] at H;exact absurd H (by simp)
         ·rw [if_neg c10] at H;exact absurd H (by simp)
        ·rw [if_neg c9] at H;exact absurd H (by simp)
       ·rw [if_neg c8] at H;exact absurd H (by simp)
      ·rw [if_neg c7] at H;have c7b0 : ((bt a0 x10_1) == a1) = false := beq_eq_false_iff_ne.mpr c7;have c7b1 : ((bt a0 x10_1) != a1) = true := bne_iff_ne.mpr c7;have H' := Aside0.mk H;clear H;have p6 : 0 ≤ (x10_1 : Int) := of_decide_eq_true (by first | (with_reducible assumption) | assumption);have q6 : x10_1 < (a0.size : Int) := of_decide_eq_true (by first | (with_reducible assumption) | assumption);have hx6 := bt_at a0 x10_1;replace p6 := eq_true p6;replace q6 := eq_true q6;go_wp2
       go_roundg k1
       case measure => have := HK1.out; omega
       case rel => exact ⟨(x5_1), (x6_1), (wrap64 (x10_1 + 1)), (by first | rfl | (simp; done) | (simp [*]; done)), (by first | rfl | (simp; done) | (simp [*]; done)), H', ⟨by have := HK1.out; omega⟩, ⟨by (with_reducible repeat (first | apply Kd.R_alloc | apply Kd.R_drewN | apply Kd.R_drew)); exact HO_5.out⟩, ⟨by repeat (first | (with_reducible first | exact HB.out | apply below_alloc | apply pw_below_drewN | apply below_drew1) | exact HB.out)⟩⟩
     ·rw [if_neg c5] at H;exact absurd H (by simp)
    ·rw [if_neg c4] at H;exact absurd H (by simp)
   ·rw [if_neg c3] at H;have c3b0 : decide (x10_1 < (a0.size : Int)) = false := decide_eq_false c3;clear c3;by_cases c13 : 0 ≤ x6_1
    ·rw [if_pos c13] at H;have c13b0 := eq_true c13;have c13b1 : decide (0 ≤ x6_1) = true := decide_eq_true c13;clear c13;by_cases c14 : x6_1 ≤ (a0.size : Int)
     ·rw [if_pos c14] at H;have c14b0 := eq_true c14;have c14b1 : decide (x6_1 ≤ (a0.size : Int)) = true := decide_eq_true c14;clear c14;by_cases c15 : x5_1.length < 8796093022208
      ·rw [if_pos c15] at H;have LMc15 := Aside0.mk c15;clear c15;obtain ⟨y125, hy125⟩ : ∃ y_ : List ByteArray, y_ = (x5_1 ++ [a0.extract (x6_1 : Int).toNat a0.size]) := ⟨_, rfl⟩
       replace H : (some y125) = some r := by first | (rw [hy125]; with_reducible exact H) | (have H2_ := (Option.bind_some _ _).symm.trans H; rw [hy125]; with_reducible exact H2_) | (have H2_ := (Option.bind_some _ _).symm.trans H; with_reducible exact H2_) | with_reducible exact H | (rw [hy125]; exact H) | exact H
       have Ny125 := Aside0.mk hy125;clear hy125;obtain rfl := Option.some.inj H;go_wp2_with (first | ((with_reducible refine gate_builtin (b := .append) (xs := #[.tmp 28, .tmp 32]) rfl ?_); at_builtin; refine Kd.R_append Kd.string (w0 := w) w.heap.size rfl (.tmp 28) (.tmp 32) 33 9 (.string ⟨#[]⟩) 16 rfl Tryz.underlying33 info9 rfl (by decide) (by omega) u5 x5_1 (a0.extract (x6_1 : Int).toNat a0.size) [.string (a0.extract (x6_1 : Int).toNat a0.size)] (fun _ => True) (fun _ => False) rfl rfl ?aP (fun _ hk => hk.elim) ?aF ?aO ?aB ?aS ?aL ?_; (case aP => exact rfl); (case aB => exact (by repeat (first | (with_reducible first | exact HB.out | apply below_alloc | apply pw_below_drewN | apply below_drew1) | exact HB.out))); (case aF => exact (fun _ _ => trivial)); (case aO => exact (by (with_reducible repeat (first | apply Kd.R_alloc | apply Kd.R_drewN | apply Kd.R_drew)); exact HO_5.out)); (case aS => exact (below_size (by repeat (first | (with_reducible first | exact HB.out | apply below_alloc | apply pw_below_drewN | apply below_drew1) | exact HB.out)))); (case aL => have := LMc15.out; omega); intro v126 w16 ho hb hg hat; rw [← Ny125.out] at ho; have n0_ := Aside0.mk (hb); have n1_ := Aside0.mk (ho); clear HB; clear HO_5; have HB := n0_; have HO127 := n1_; clear n0_ n1_; clear ho hb hg hat))
       go_ret;exact ⟨_, by first | rfl | (simp [errW_none, errW_some] <;> rfl) | (simp [*, errW_none, errW_some] <;> rfl), by (with_reducible repeat (first | apply Kd.R_alloc | apply Kd.R_drewN | apply Kd.R_drew)); exact HO127.out, by repeat (first | (with_reducible first | exact HB.out | apply below_alloc | apply pw_below_drewN | apply below_drew1) | exact HB.out)⟩
      ·rw [if_neg c15] at H;exact absurd H (by simp)
     ·rw [if_neg c14] at H;exact absurd H (by simp)
    ·rw [if_neg c13] at H;exact absurd H (by simp)
def spec_cronZeros.l0 : Nat → ByteArray → Int → Int → Option (Bool)
 | 0, _, _, _ => none
 | k + 1, x0, x5, x6 => if x6 < x5 then (if 0 ≤ x6 then (if x6 < (x0.size : Int) then (if (bt x0 x6) = 48 then (spec_cronZeros.l0 k x0 x5 (wrap64 (x6 + 1))) else (some false)) else (none)) else (none)) else (some true)
def spec_cronZeros.f (k : Nat) (a0 : ByteArray) : Option (Bool) := spec_cronZeros.l0 k a0 (a0.size : Int) 0
theorem spec_cronZeros.mono_l : ∀ k, (∀ y0 y1 y2, LeO (spec_cronZeros.l0 k y0 y1 y2) (spec_cronZeros.l0 (k + 1) y0 y1 y2))
 | 0 => fun _ _ _ r h => by simp [spec_cronZeros.l0] at h
 | k + 1 => by
  have ih0 := spec_cronZeros.mono_l k
  ·intro y0 y1 y2;unfold spec_cronZeros.l0;repeat' first
   | (with_reducible exact ih0 _ _ _)
   | (with_reducible exact LeO.refl _)
   | (with_reducible exact LeO.none _)
   | (with_reducible refine LeO.ite ?_ ?_)
   | (with_reducible refine LeO.bind ?_ (fun _ => ?_))
   | exact ih0 _ _ _
   | exact LeO.none _
   | refine LeO.ite ?_ ?_
   | refine LeO.bind ?_ (fun _ => ?_)
theorem spec_cronZeros.mono : ∀ a0 k, LeO (spec_cronZeros.f k a0) (spec_cronZeros.f (k + 1) a0) := by
 intro a0 k;have ih0 := spec_cronZeros.mono_l k;unfold spec_cronZeros.f
 repeat' first
  | (with_reducible exact ih0 _ _ _)
  | (with_reducible exact LeO.refl _)
  | (with_reducible exact LeO.none _)
  | (with_reducible refine LeO.ite ?_ ?_)
  | (with_reducible refine LeO.bind ?_ (fun _ => ?_))
  | exact ih0 _ _ _
  | exact LeO.none _
  | refine LeO.ite ?_ ?_
  | refine LeO.bind ?_ (fun _ => ?_)
set_option maxHeartbeats 8000000 in
set_option maxRecDepth 100000 in
theorem spec_cronZeros.calls (k : Nat) (a0 : ByteArray) (r : Bool) (w : World) (h : spec_cronZeros.f k a0 = some r) :
  Calls Tryz.prog 192 #[.string a0] w fun e w' => e = .returned (.bool r) ∧ Drawn0 w w' := by
 have H : (spec_cronZeros.l0 k a0 (a0.size : Int) 0) = some r := h;clear h;have H' := Aside0.mk H;clear H;go_enter Tryz.func192, Tryz.ntmps192;go_wp2
 go_loopg [6] k (fun kq v6 w' => ∃ (x6_1 : Int), v6 = .int .i64 x6_1 ∧ Aside0 (spec_cronZeros.l0 kq a0 (a0.size : Int) x6_1 = some r) ∧ Aside0 (kq ≤ k) ∧ Drawn0 w w')
 case atStart => exact ⟨(0), (by first | rfl | (simp; done) | (simp [*]; done)), H', ⟨Nat.le_refl _⟩, by repeat (first | exact Drawn0.refl _ | apply Drawn0.step)⟩
 case round =>
  clear H';try clear c1
  obtain ⟨x6_1, rfl, HA, HK1, ⟨m1, rfl⟩⟩ := hrel;cases gk with
  | zero => exact absurd HA.out (by simp [spec_cronZeros.l0])
  | succ k1 =>
   have H := HA.out;clear HA;simp only [spec_cronZeros.l0] at H;by_cases c2 : x6_1 < (a0.size : Int)
   ·rw [if_pos c2] at H;have c2b0 : decide (x6_1 < (a0.size : Int)) = true := decide_eq_true c2;clear c2;by_cases c3 : 0 ≤ x6_1
    ·rw [if_pos c3] at H;have c3b0 : decide (0 ≤ x6_1) = true := decide_eq_true c3;clear c3;by_cases c4 : x6_1 < (a0.size : Int)
     ·rw [if_pos c4] at H;have c4b0 : decide (x6_1 < (a0.size : Int)) = true := decide_eq_true c4;clear c4;by_cases c6 : (bt a0 x6_1) = 48
      ·rw [if_pos c6] at H;have c6b0 : ((bt a0 x6_1) == 48) = true := beq_iff_eq.mpr c6;have c6b1 : ((bt a0 x6_1) != 48) = false := bne_eq_false_iff_eq.mpr c6;clear c6;have H' := Aside0.mk H;clear H;have p5 : 0 ≤ (x6_1 : Int) := of_decide_eq_true (by first | (with_reducible assumption) | assumption);have q5 : x6_1 < (a0.size : Int) := of_decide_eq_true (by first | (with_reducible assumption) | assumption);have hx5 := bt_at a0 x6_1;replace p5 := eq_true p5;replace q5 := eq_true q5;go_wp2
       go_roundg k1
       case measure => have := HK1.out; omega
       case rel => exact ⟨(wrap64 (x6_1 + 1)), (by first | rfl | (simp; done) | (simp [*]; done)), H', ⟨by have := HK1.out; omega⟩, by repeat (first | exact Drawn0.refl _ | apply Drawn0.step)⟩
      ·rw [if_neg c6] at H;have c6b0 : ((bt a0 x6_1) == 48) = false := beq_eq_false_iff_ne.mpr c6;have c6b1 : ((bt a0 x6_1) != 48) = true := bne_iff_ne.mpr c6;obtain rfl := Option.some.inj H;have p5 : 0 ≤ (x6_1 : Int) := of_decide_eq_true (by first | (with_reducible assumption) | assumption);have q5 : x6_1 < (a0.size : Int) := of_decide_eq_true (by first | (with_reducible assumption) | assumption);have hx5 := bt_at a0 x6_1;replace p5 := eq_true p5;replace q5 := eq_true q5;go_wp2
       go_ret;exact ⟨by first | rfl | (simp; done) | (simp [*]; done), by repeat (first | exact Drawn0.refl _ | apply Drawn0.step)⟩
     ·rw [if_neg c4] at H;exact absurd H (by simp)
    ·rw [if_neg c3] at H;exact absurd H (by simp)
   ·rw [if_neg c2] at H;have c2b0 : decide (x6_1 < (a0.size : Int)) = false := decide_eq_false c2;clear c2;obtain rfl := Option.some.inj H;go_wp2
    go_ret;exact ⟨by first | rfl | (simp; done) | (simp [*]; done), by repeat (first | exact Drawn0.refl _ | apply Drawn0.step)⟩
def spec_isDigit.f (a0 : Int) : Option (Bool) := if 48 ≤ a0 then (some (decide (a0 ≤ 57))) else (some false)
set_option maxHeartbeats 8000000 in
set_option maxRecDepth 100000 in
theorem spec_isDigit.calls (a0 : Int) (r : Bool) (w : World) (h : spec_isDigit.f a0 = some r) :
  Calls Tryz.prog 193 #[.int .u8 a0] w fun e w' => e = .returned (.bool r) ∧ Drawn0 w w' := by
 have H : (if 48 ≤ a0 then (some (decide (a0 ≤ 57))) else (some false)) = some r := h;clear h;by_cases c2 : 48 ≤ a0
 ·rw [if_pos c2] at H;have c2b0 : decide (48 ≤ a0) = true := decide_eq_true c2;clear c2;obtain rfl := Option.some.inj H;go_enter Tryz.func193, Tryz.ntmps193;go_wp2
  go_ret;exact ⟨by first | rfl | (simp; done) | (simp [*]; done), by repeat (first | exact Drawn0.refl _ | apply Drawn0.step)⟩
 ·rw [if_neg c2] at H;have c2b0 : decide (48 ≤ a0) = false := decide_eq_false c2;clear c2;obtain rfl := Option.some.inj H;go_enter Tryz.func193, Tryz.ntmps193;go_wp2
  go_ret;exact ⟨by first | rfl | (simp; done) | (simp [*]; done), by repeat (first | exact Drawn0.refl _ | apply Drawn0.step)⟩
mutual
def spec_CronNumber.j0 : Nat → ByteArray → Int → Bool → Option (Int × Int)
 | 0, _, _, _ => none
 | k + 1, x0, x4, x24 => if x24 = true then (if 1 ≤ (x0.size : Int) then (spec_CronNumber.j1 k (x0.extract 1 x0.size) 2) else (none)) else (spec_CronNumber.j1 k x0 x4)
def spec_CronNumber.j1 : Nat → ByteArray → Int → Option (Int × Int)
 | 0, _, _ => none
 | k + 1, x0, x4 => if x0.toList = ([] : List UInt8) then (some (0, 0)) else (spec_CronNumber.l0 k x0 x4 0 (x0.size : Int) 0)
def spec_CronNumber.l0 : Nat → ByteArray → Int → Int → Int → Int → Option (Int × Int)
 | 0, _, _, _, _, _ => none
 | k + 1, x0, x4, x5, x30, x31 => if x31 < x30 then (if 0 ≤ x31 then (if x31 < (x0.size : Int) then ((spec_isDigit.f (bt x0 x31)).bind fun t129 => (if t129 = true then (spec_CronNumber.l0 k x0 x4 (mn (wrap64 ((wrap64 (10 * x5)) + (((bt x0 x31) - 48) % 256))) 1099511627776) x30 (wrap64 (x31 + 1))) else (some (0, 0)))) else (none)) else (none)) else (some (x5, x4))
end
def spec_CronNumber.f (k : Nat) (a0 : ByteArray) : Option (Int × Int) := if (a0.size : Int) > 0 then (if 0 < (a0.size : Int) then (if (bt a0 0) = 43 then (spec_CronNumber.j0 k a0 1 true) else (if (bt a0 0) = 45 then (if 1 ≤ (a0.size : Int) then ((spec_cronZeros.f k (a0.extract 1 a0.size)).bind fun t128 => (spec_CronNumber.j0 k a0 1 t128)) else (none)) else (spec_CronNumber.j0 k a0 1 false))) else (none)) else (spec_CronNumber.j0 k a0 1 false)
theorem spec_CronNumber.mono_l : ∀ k, (∀ y0 y1 y2, LeO (spec_CronNumber.j0 k y0 y1 y2) (spec_CronNumber.j0 (k + 1) y0 y1 y2)) ∧ (∀ y0 y1, LeO (spec_CronNumber.j1 k y0 y1) (spec_CronNumber.j1 (k + 1) y0 y1)) ∧ (∀ y0 y1 y2 y3 y4, LeO (spec_CronNumber.l0 k y0 y1 y2 y3 y4) (spec_CronNumber.l0 (k + 1) y0 y1 y2 y3 y4))
 | 0 => ⟨fun _ _ _ r h => by simp [spec_CronNumber.j0] at h, fun _ _ r h => by simp [spec_CronNumber.j1] at h, fun _ _ _ _ _ r h => by simp [spec_CronNumber.l0] at h⟩
 | k + 1 => by
  obtain ⟨ih0, ih1, ih2⟩ := spec_CronNumber.mono_l k;refine ⟨?_, ?_, ?_⟩;intro y0 y1 y2;unfold spec_CronNumber.j0;rotate_left;intro y0 y1;unfold spec_CronNumber.j1;rotate_left;intro y0 y1 y2 y3 y4;unfold spec_CronNumber.l0;rotate_left;all_goals repeat' first
  | (with_reducible exact ih0 _ _ _)
  | (with_reducible exact ih1 _ _)
  | (with_reducible exact ih2 _ _ _ _ _)
  | (with_reducible exact spec_cronZeros.mono _ _)
  | (with_reducible exact LeO.refl _)
  | (with_reducible exact LeO.none _)
  | (with_reducible refine LeO.ite ?_ ?_)
  | (with_reducible refine LeO.bind ?_ (fun _ => ?_))
  | exact ih0 _ _ _
  | exact ih1 _ _
  | exact ih2 _ _ _ _ _
  | exact spec_cronZeros.mono _ _
  | exact LeO.none _
  | refine LeO.ite ?_ ?_
  | refine LeO.bind ?_ (fun _ => ?_)
theorem spec_CronNumber.mono : ∀ a0 k, LeO (spec_CronNumber.f k a0) (spec_CronNumber.f (k + 1) a0) := by
 intro a0 k;obtain ⟨ih0, ih1, ih2⟩ := spec_CronNumber.mono_l k;unfold spec_CronNumber.f
 repeat' first
  | (with_reducible exact ih0 _ _ _)
  | (with_reducible exact ih1 _ _)
  | (with_reducible exact ih2 _ _ _ _ _)
  | (with_reducible exact spec_cronZeros.mono _ _)
  | (with_reducible exact LeO.refl _)
  | (with_reducible exact LeO.none _)
  | (with_reducible refine LeO.ite ?_ ?_)
  | (with_reducible refine LeO.bind ?_ (fun _ => ?_))
  | exact ih0 _ _ _
  | exact ih1 _ _
  | exact ih2 _ _ _ _ _
  | exact spec_cronZeros.mono _ _
  | exact LeO.none _
  | refine LeO.ite ?_ ?_
  | refine LeO.bind ?_ (fun _ => ?_)
set_option maxHeartbeats 8000000 in
set_option maxRecDepth 100000 in
theorem spec_CronNumber.calls (k : Nat) (a0 : ByteArray) (r1 : Int) (r2 : Int) (w : World) (h : spec_CronNumber.f k a0 = some (r1, r2)) :
  Calls Tryz.prog 157 #[.string a0] w fun e w' => e = .returned (.tuple #[.int .i64 r1, .int .i64 r2]) ∧ Below w.heap.size w w' := by
 have HB := Aside0.mk (Below.refl w.heap.size w);have H : (if (a0.size : Int) > 0 then (if 0 < (a0.size : Int) then (if (bt a0 0) = 43 then (spec_CronNumber.j0 k a0 1 true) else (if (bt a0 0) = 45 then (if 1 ≤ (a0.size : Int) then ((spec_cronZeros.f k (a0.extract 1 a0.size)).bind fun t128 => (spec_CronNumber.j0 k a0 1 t128)) else (none)) else (spec_CronNumber.j0 k a0 1 false))) else (none)) else (spec_CronNumber.j0 k a0 1 false)) = some (r1, r2) := h;clear h;have HC2 := Aside0.mk H;clear H;go_enter Tryz.func157, Tryz.ntmps157;go_upto_region 2 with (fail)
 go_cut [24] (fun v24 wc => ∃ (kq : Nat) (x24_1 : Bool), v24 = .bool x24_1 ∧ Aside0 (spec_CronNumber.j0 kq a0 1 x24_1 = some (r1, r2)) ∧ Aside0 (kq ≤ k) ∧ Aside0 (Below w.heap.size w wc))
 case first =>
  have H := HC2.out;clear HC2;by_cases c3 : (a0.size : Int) > 0
  ·rw [if_pos c3] at H;have c3b0 : decide (0 < (a0.size : Int)) = true := decide_eq_true c3;have c3b1 : decide (0 < a0.size) = true := decide_eq_true (by omega);clear c3
   (first | rw [c3b0] | (simp only [i64_w, i32_w]; rw [c3b0]) | skip)
   by_cases c4 : 0 < (a0.size : Int)
   ·rw [if_pos c4] at H;have c4b0 : decide (0 < (a0.size : Int)) = true := decide_eq_true c4;have c4b1 : decide (0 < a0.size) = true := decide_eq_true (by omega);clear c4;by_cases c6 : (bt a0 0) = 43
    ·rw [if_pos c6] at H;have c6b0 : ((bt a0 0) == 43) = true := beq_iff_eq.mpr c6;have c6b1 : ((bt a0 0) != 43) = false := bne_eq_false_iff_eq.mpr c6;clear c6;have H' := Aside0.mk H;clear H;have p5 : 0 ≤ (0 : Int) := (by omega)
     have q5 : 0 < a0.size := (by have : (0 : Int) < (a0.size : Int) := of_decide_eq_true (by first | (with_reducible assumption) | assumption); omega)
     have hx5 : ∀ h : 0 < a0.size, ((a0[0]'h).toNat : Int) = bt a0 0 := bt_at a0 0;clear p5;have qi5 : (0 < (a0.size : Int)) = True := eq_true (of_decide_eq_true (by first | (with_reducible assumption) | assumption));replace q5 := eq_true q5;go_wp2
     go_meet
     case rel => exact ⟨_, (true), (by first | rfl | (simp; done) | (simp [*]; done)), H', ⟨by first | omega | exact Nat.le_refl _⟩, ⟨by repeat (first | (with_reducible first | exact HB.out | apply below_alloc | apply pw_below_drewN | apply below_drew1) | exact HB.out)⟩⟩
    ·rw [if_neg c6] at H;have c6b0 : ((bt a0 0) == 43) = false := beq_eq_false_iff_ne.mpr c6;have c6b1 : ((bt a0 0) != 43) = true := bne_iff_ne.mpr c6;by_cases c8 : (bt a0 0) = 45
     ·rw [if_pos c8] at H;have c8b0 : ((bt a0 0) == 45) = true := beq_iff_eq.mpr c8;have c8b1 : ((bt a0 0) != 45) = false := bne_eq_false_iff_eq.mpr c8;clear c8;by_cases c9 : 1 ≤ (a0.size : Int)
      ·rw [if_pos c9] at H;have c9b0 := eq_true c9;have c9b1 : decide (1 ≤ (a0.size : Int)) = true := decide_eq_true c9;clear c9;replace H := Option.bind_eq_some_iff.mp H;obtain ⟨t128, A100, H⟩ := H;replace H : (spec_CronNumber.j0 k a0 1 t128) = some (r1, r2) := H;have A10 := Aside0.mk A100;clear A100;have H' := Aside0.mk H;clear H;have p5 : 0 ≤ (0 : Int) := (by omega)
       have q5 : 0 < a0.size := (by have : (0 : Int) < (a0.size : Int) := of_decide_eq_true (by first | (with_reducible assumption) | assumption); omega)
       have hx5 : ∀ h : 0 < a0.size, ((a0[0]'h).toNat : Int) = bt a0 0 := bt_at a0 0;clear p5;have qi5 : (0 < (a0.size : Int)) = True := eq_true (of_decide_eq_true (by first | (with_reducible assumption) | assumption));replace q5 := eq_true q5;have p7 : 0 ≤ (0 : Int) := (by omega)
       have q7 : 0 < a0.size := (by have : (0 : Int) < (a0.size : Int) := of_decide_eq_true (by first | (with_reducible assumption) | assumption); omega)
       have hx7 : ∀ h : 0 < a0.size, ((a0[0]'h).toNat : Int) = bt a0 0 := bt_at a0 0;clear p7;have qi7 : (0 < (a0.size : Int)) = True := eq_true (of_decide_eq_true (by first | (with_reducible assumption) | assumption));replace q7 := eq_true q7;go_wp2_with (first | (go_at_call 192; (with_reducible refine (spec_cronZeros.calls k (a0.extract 1 a0.size) t128 _ A10.out).mono ?_); rintro e w' ⟨rfl, ⟨nd, rfl⟩⟩))
       go_meet
       case rel => exact ⟨_, (t128), (by first | rfl | (simp; done) | (simp [*]; done)), H', ⟨by first | omega | exact Nat.le_refl _⟩, ⟨by repeat (first | (with_reducible first | exact HB.out | apply below_alloc | apply pw_below_drewN | apply below_drew1) | exact HB.out)⟩⟩
      ·rw [if_neg c9] at H;exact absurd H (by simp)
     ·rw [if_neg c8] at H;have c8b0 : ((bt a0 0) == 45) = false := beq_eq_false_iff_ne.mpr c8;have c8b1 : ((bt a0 0) != 45) = true := bne_iff_ne.mpr c8;have H' := Aside0.mk H;clear H;have p5 : 0 ≤ (0 : Int) := (by omega)
      have q5 : 0 < a0.size := (by have : (0 : Int) < (a0.size : Int) := of_decide_eq_true (by first | (with_reducible assumption) | assumption); omega)
      have hx5 : ∀ h : 0 < a0.size, ((a0[0]'h).toNat : Int) = bt a0 0 := bt_at a0 0;clear p5;have qi5 : (0 < (a0.size : Int)) = True := eq_true (of_decide_eq_true (by first | (with_reducible assumption) | assumption));replace q5 := eq_true q5;have p7 : 0 ≤ (0 : Int) := (by omega)
      have q7 : 0 < a0.size := (by have : (0 : Int) < (a0.size : Int) := of_decide_eq_true (by first | (with_reducible assumption) | assumption); omega)
      have hx7 : ∀ h : 0 < a0.size, ((a0[0]'h).toNat : Int) = bt a0 0 := bt_at a0 0;clear p7;have qi7 : (0 < (a0.size : Int)) = True := eq_true (of_decide_eq_true (by first | (with_reducible assumption) | assumption));replace q7 := eq_true q7;go_wp2
      go_meet
      case rel => exact ⟨_, (false), (by first | rfl | (simp; done) | (simp [*]; done)), H', ⟨by first | omega | exact Nat.le_refl _⟩, ⟨by repeat (first | (with_reducible first | exact HB.out | apply below_alloc | apply pw_below_drewN | apply below_drew1) | exact HB.out)⟩⟩
   ·rw [if_neg c4] at H;exact absurd H (by simp)
  ·rw [if_neg c3] at H;have c3b0 : decide (0 < (a0.size : Int)) = false := decide_eq_false c3;have c3b1 : decide (0 < a0.size) = false := decide_eq_false (by omega);clear c3
   (first | rw [c3b0] | (simp only [i64_w, i32_w]; rw [c3b0]) | skip)
   have H' := Aside0.mk H;clear H;go_wp2
   go_meet
   case rel => exact ⟨_, (false), (by first | rfl | (simp; done) | (simp [*]; done)), H', ⟨by first | omega | exact Nat.le_refl _⟩, ⟨by repeat (first | (with_reducible first | exact HB.out | apply below_alloc | apply pw_below_drewN | apply below_drew1) | exact HB.out)⟩⟩
 case rest =>
  clear HC2;try clear c1
  try clear p2
  try clear c3
  try clear c3b0
  try clear c3b1
  try clear c4
  try clear c4b0
  try clear c4b1
  try clear p5
  try clear q5
  try clear hx5
  try clear qi5
  try clear c6
  try clear c6b0
  try clear c6b1
  try clear p7
  try clear q7
  try clear hx7
  try clear qi7
  try clear c8
  try clear c8b0
  try clear c8b1
  try clear c9
  try clear c9b0
  try clear c9b1
  try clear p5
  try clear p7
  try clear q5
  try clear q7
  obtain ⟨kq, x24_1, rfl, HA, HJ1, HB⟩ := hcut;cases kq with
  | zero => exact absurd HA.out (by simp [spec_CronNumber.j0])
  | succ kj1 =>
   have H := HA.out;clear HA;simp only [spec_CronNumber.j0] at H;have HC11 := Aside0.mk H;clear H;go_upto_if 24 with (fail)
   go_cut [0, 4] (fun v0 v4 wc => ∃ (kq : Nat) (x0_10 : ByteArray) (x4_10 : Int), v0 = .string x0_10 ∧ v4 = .int .i64 x4_10 ∧ Aside0 (spec_CronNumber.j1 kq x0_10 x4_10 = some (r1, r2)) ∧ Aside0 (kq ≤ kj1) ∧ Aside0 (Below w.heap.size w wc))
   case first =>
    have H := HC11.out;clear HC11;by_cases c12 : x24_1 = true
    ·subst c12;have H1 : (if 1 ≤ (a0.size : Int) then (spec_CronNumber.j1 kj1 (a0.extract 1 a0.size) 2) else (none)) = some (r1, r2) := by rw [if_pos rfl] at H; exact H
     clear H;have H := H1;clear H1;by_cases c13 : 1 ≤ (a0.size : Int)
     ·rw [if_pos c13] at H;have c13b0 := eq_true c13;have c13b1 : decide (1 ≤ (a0.size : Int)) = true := decide_eq_true c13;clear c13;have H' := Aside0.mk H;clear H;go_wp2
      go_meet
      case rel => exact ⟨_, (a0.extract 1 a0.size), (2), (by first | rfl | (simp; done) | (simp [*]; done)), (by first | rfl | (simp; done) | (simp [*]; done)), H', ⟨by have := HJ1.out; first | omega | exact Nat.le_refl _⟩, ⟨by repeat (first | (with_reducible first | exact HB.out | apply below_alloc | apply pw_below_drewN | apply below_drew1) | exact HB.out)⟩⟩
     ·rw [if_neg c13] at H;exact absurd H (by simp)
    ·replace c12 := Bool.eq_false_iff.mpr c12;subst c12;have H1 : (spec_CronNumber.j1 kj1 a0 1) = some (r1, r2) := by rw [if_neg (show ¬ (false = true) by decide)] at H; exact H
     clear H;have H := H1;clear H1;have H' := Aside0.mk H;clear H;go_wp2
     go_meet
     case rel => exact ⟨_, (a0), (1), (by first | rfl | (simp; done) | (simp [*]; done)), (by first | rfl | (simp; done) | (simp [*]; done)), H', ⟨by have := HJ1.out; first | omega | exact Nat.le_refl _⟩, ⟨by repeat (first | (with_reducible first | exact HB.out | apply below_alloc | apply pw_below_drewN | apply below_drew1) | exact HB.out)⟩⟩
   case rest =>
    clear HC11;try clear c1
    try clear p2
    try clear c3
    try clear c3b0
    try clear c3b1
    try clear c4
    try clear c4b0
    try clear c4b1
    try clear p5
    try clear q5
    try clear hx5
    try clear qi5
    try clear c6
    try clear c6b0
    try clear c6b1
    try clear p7
    try clear q7
    try clear hx7
    try clear qi7
    try clear c8
    try clear c8b0
    try clear c8b1
    try clear c9
    try clear c9b0
    try clear c9b1
    try clear c12
    try clear c13
    try clear c13b0
    try clear c13b1
    try clear p2
    try clear p5
    try clear p7
    try clear q5
    try clear q7
    obtain ⟨kq, x0_10, x4_10, rfl, rfl, HA, HJ10, HB⟩ := hcut;cases kq with
    | zero => exact absurd HA.out (by simp [spec_CronNumber.j1])
    | succ kj10 =>
     have H := HA.out;clear HA;simp only [spec_CronNumber.j1] at H;by_cases c14 : x0_10.toList = ([] : List UInt8)
     ·rw [if_pos c14] at H;have c14b0 : (x0_10.toList == ([] : List UInt8)) = true := beq_iff_eq.mpr c14;have c14b1 : (x0_10.toList != ([] : List UInt8)) = false := bne_eq_false_iff_eq.mpr c14;clear c14;simp only [Option.some.injEq, Prod.mk.injEq] at H;obtain ⟨rfl, rfl⟩ := H;go_wp2
      go_ret2;exact ⟨by first | rfl | (simp [errW_none, errW_some] <;> rfl) | (simp [*, errW_none, errW_some] <;> rfl), by repeat (first | (with_reducible first | exact HB.out | apply below_alloc | apply pw_below_drewN | apply below_drew1) | exact HB.out)⟩
     ·rw [if_neg c14] at H;have c14b0 : (x0_10.toList == ([] : List UInt8)) = false := beq_eq_false_iff_ne.mpr c14;have c14b1 : (x0_10.toList != ([] : List UInt8)) = true := bne_iff_ne.mpr c14;have H' := Aside0.mk H;clear H;go_wp2
      go_loopg [5, 31] kj10 (fun kq v5 v31 w' => ∃ (x5_3 : Int) (x31_3 : Int), v5 = .int .i64 x5_3 ∧ v31 = .int .i64 x31_3 ∧ Aside0 (spec_CronNumber.l0 kq x0_10 x4_10 x5_3 (x0_10.size : Int) x31_3 = some (r1, r2)) ∧ Aside0 (kq ≤ kj10) ∧ Aside0 (Below w.heap.size w w'))
      case atStart => exact ⟨(0), (0), (by first | rfl | (simp; done) | (simp [*]; done)), (by first | rfl | (simp; done) | (simp [*]; done)), H', ⟨Nat.le_refl _⟩, ⟨by repeat (first | (with_reducible first | exact HB.out | apply below_alloc | apply pw_below_drewN | apply below_drew1) | exact HB.out)⟩⟩
      case round =>
       clear H';try clear c1
       try clear p2
       try clear c3
       try clear c3b0
       try clear c3b1
       try clear c4
       try clear c4b0
       try clear c4b1
       try clear p5
       try clear q5
       try clear hx5
       try clear qi5
       try clear c6
       try clear c6b0
       try clear c6b1
       try clear p7
       try clear q7
       try clear hx7
       try clear qi7
       try clear c8
       try clear c8b0
       try clear c8b1
       try clear c9
       try clear c9b0
       try clear c9b1
       try clear c12
       try clear c13
       try clear c13b0
       try clear c13b1
       try clear c14
       try clear c14b0
       try clear c14b1
       try clear p2
       try clear p5
       try clear p7
       try clear q5
       try clear q7
       obtain ⟨x5_3, x31_3, rfl, rfl, HA, HK3, HB⟩ := hrel;cases gk with
       | zero => exact absurd HA.out (by simp [spec_CronNumber.l0])
       | succ k3 =>
        have H := HA.out;clear HA;simp only [spec_CronNumber.l0] at H;by_cases c15 : x31_3 < (x0_10.size : Int)
        ·rw [if_pos c15] at H;have c15b0 : decide (x31_3 < (x0_10.size : Int)) = true := decide_eq_true c15;clear c15;by_cases c16 : 0 ≤ x31_3
         ·rw [if_pos c16] at H;have c16b0 : decide (0 ≤ x31_3) = true := decide_eq_true c16;clear c16;by_cases c17 : x31_3 < (x0_10.size : Int)
          ·rw [if_pos c17] at H;have c17b0 : decide (x31_3 < (x0_10.size : Int)) = true := decide_eq_true c17;clear c17;replace H := Option.bind_eq_some_iff.mp H;obtain ⟨t129, A190, H⟩ := H;replace H : (if t129 = true then (spec_CronNumber.l0 k3 x0_10 x4_10 (mn (wrap64 ((wrap64 (10 * x5_3)) + (((bt x0_10 x31_3) - 48) % 256))) 1099511627776) (x0_10.size : Int) (wrap64 (x31_3 + 1))) else (some (0, 0))) = some (r1, r2) := H;have A19 := Aside0.mk A190;clear A190;by_cases c20 : t129 = true
           ·subst c20;have H1 : (spec_CronNumber.l0 k3 x0_10 x4_10 (mn (wrap64 ((wrap64 (10 * x5_3)) + (((bt x0_10 x31_3) - 48) % 256))) 1099511627776) (x0_10.size : Int) (wrap64 (x31_3 + 1))) = some (r1, r2) := by rw [if_pos rfl] at H; exact H
            clear H;have H := H1;clear H1;obtain ⟨ji22, hji22⟩ : ∃ j_ : Int, (mn (wrap64 ((wrap64 (10 * x5_3)) + (((bt x0_10 x31_3) - 48) % 256))) 1099511627776) = j_ := ⟨_, rfl⟩
            replace H : (spec_CronNumber.l0 k3 x0_10 x4_10 ji22 (x0_10.size : Int) (wrap64 (x31_3 + 1))) = some (r1, r2) := by first | (rw [hji22] at H; exact H) | (simp only [hji22] at H ⊢; exact H)
            (try rw [hji22] at A19)
            have hji22_ : (if 1099511627776 < (wrap64 ((wrap64 (10 * x5_3)) + (((bt x0_10 x31_3) - 48) % 256))) then 1099511627776 else (wrap64 ((wrap64 (10 * x5_3)) + (((bt x0_10 x31_3) - 48) % 256)))) = ji22 := hji22;have H' := Aside0.mk H;clear H;have p18 : 0 ≤ (x31_3 : Int) := of_decide_eq_true (by first | (with_reducible assumption) | assumption);have q18 : x31_3 < (x0_10.size : Int) := of_decide_eq_true (by first | (with_reducible assumption) | assumption);have hx18 := bt_at x0_10 x31_3;replace p18 := eq_true p18;replace q18 := eq_true q18;go_wp2_with (first | ((with_reducible refine gate_callee (f := 193) rfl ?_); refine goesL_ (some 37) rfl rfl Tryz.func193 (by kernel_rfl) rfl #[.int .u8 (bt x0_10 x31_3)] rfl (by (try simp only [List.map_toArray, List.map_cons, List.map_nil]); first | done | rfl | (simp only [List.length_drop, List.length_take]; rfl)) ?_; (with_reducible refine (spec_isDigit.calls (bt x0_10 x31_3) true _ A19.out).mono ?_); rintro e w' ⟨rfl, ⟨nd, rfl⟩⟩; refine ⟨_, rfl, ?_⟩; have p21 : 0 ≤ (x31_3 : Int) := of_decide_eq_true (by first | (with_reducible assumption) | assumption); have q21 : x31_3 < (x0_10.size : Int) := of_decide_eq_true (by first | (with_reducible assumption) | assumption); have hx21 := bt_at x0_10 x31_3; replace p21 := eq_true p21; replace q21 := eq_true q21))
            go_roundg k3
            case measure => have := HJ1.out; have := HJ10.out; have := HK3.out; omega
            case rel => exact ⟨(ji22), (wrap64 (x31_3 + 1)), (by first | rfl | (simp; done) | (simp only [← hji22] <;> (first | rfl | simp)) | (simp [*]; done)), (by first | rfl | (simp; done) | (simp [*]; done)), H', ⟨by have := HJ1.out; have := HJ10.out; have := HK3.out; omega⟩, ⟨by repeat (first | (with_reducible first | exact HB.out | apply below_alloc | apply pw_below_drewN | apply below_drew1) | exact HB.out)⟩⟩
           ·replace c20 := Bool.eq_false_iff.mpr c20;subst c20;have H1 : (some (0, 0)) = some (r1, r2) := by rw [if_neg (show ¬ (false = true) by decide)] at H; exact H
            clear H;have H := H1;clear H1;simp only [Option.some.injEq, Prod.mk.injEq] at H;obtain ⟨rfl, rfl⟩ := H;have p18 : 0 ≤ (x31_3 : Int) := of_decide_eq_true (by first | (with_reducible assumption) | assumption);have q18 : x31_3 < (x0_10.size : Int) := of_decide_eq_true (by first | (with_reducible assumption) | assumption);have hx18 := bt_at x0_10 x31_3;replace p18 := eq_true p18;replace q18 := eq_true q18;go_wp2_with (first | ((with_reducible refine gate_callee (f := 193) rfl ?_); refine goesL_ (some 37) rfl rfl Tryz.func193 (by kernel_rfl) rfl #[.int .u8 (bt x0_10 x31_3)] rfl (by (try simp only [List.map_toArray, List.map_cons, List.map_nil]); first | done | rfl | (simp only [List.length_drop, List.length_take]; rfl)) ?_; (with_reducible refine (spec_isDigit.calls (bt x0_10 x31_3) false _ A19.out).mono ?_); rintro e w' ⟨rfl, ⟨nd, rfl⟩⟩; refine ⟨_, rfl, ?_⟩))
            go_ret2;exact ⟨by first | rfl | (simp [errW_none, errW_some] <;> rfl) | (simp [*, errW_none, errW_some] <;> rfl), by repeat (first | (with_reducible first | exact HB.out | apply below_alloc | apply pw_below_drewN | apply below_drew1) | exact HB.out)⟩
          ·rw [if_neg c17] at H;exact absurd H (by simp)
         ·rw [if_neg c16] at H;exact absurd H (by simp)
        ·rw [if_neg c15] at H;have c15b0 : decide (x31_3 < (x0_10.size : Int)) = false := decide_eq_false c15;clear c15;simp only [Option.some.injEq, Prod.mk.injEq] at H;obtain ⟨rfl, rfl⟩ := H;go_wp2
         go_ret2;exact ⟨by first | rfl | (simp [errW_none, errW_some] <;> rfl) | (simp [*, errW_none, errW_some] <;> rfl), by repeat (first | (with_reducible first | exact HB.out | apply below_alloc | apply pw_below_drewN | apply below_drew1) | exact HB.out)⟩
def spec_CronStep.j0 : Nat → Int → Int → Bool → Option (Int × Int)
 | 0, _, _, _ => none
 | k + 1, x4, x5, x16 => if x16 = true then (some (0, 0)) else (if x4 = 1099511627776 then (some (0, 2)) else (some (x4, x5)))
def spec_CronStep.f (k : Nat) (a0 : ByteArray) : Option (Int × Int) := (spec_CronNumber.f k a0).bind fun bt157 => (if bt157.2 = 0 then (spec_CronStep.j0 k bt157.1 bt157.2 true) else (spec_CronStep.j0 k bt157.1 bt157.2 (bt157.1 == 0)))
theorem spec_CronStep.mono_l : ∀ k, (∀ y0 y1 y2, LeO (spec_CronStep.j0 k y0 y1 y2) (spec_CronStep.j0 (k + 1) y0 y1 y2))
 | 0 => fun _ _ _ r h => by simp [spec_CronStep.j0] at h
 | k + 1 => by
  have ih0 := spec_CronStep.mono_l k
  ·intro y0 y1 y2;unfold spec_CronStep.j0;repeat' first
   | (with_reducible exact ih0 _ _ _)
   | (with_reducible exact spec_CronNumber.mono _ _)
   | (with_reducible exact LeO.refl _)
   | (with_reducible exact LeO.none _)
   | (with_reducible refine LeO.ite ?_ ?_)
   | (with_reducible refine LeO.bind ?_ (fun _ => ?_))
   | exact ih0 _ _ _
   | exact spec_CronNumber.mono _ _
   | exact LeO.none _
   | refine LeO.ite ?_ ?_
   | refine LeO.bind ?_ (fun _ => ?_)
theorem spec_CronStep.mono : ∀ a0 k, LeO (spec_CronStep.f k a0) (spec_CronStep.f (k + 1) a0) := by
 intro a0 k;have ih0 := spec_CronStep.mono_l k;unfold spec_CronStep.f
 repeat' first
  | (with_reducible exact ih0 _ _ _)
  | (with_reducible exact spec_CronNumber.mono _ _)
  | (with_reducible exact LeO.refl _)
  | (with_reducible exact LeO.none _)
  | (with_reducible refine LeO.ite ?_ ?_)
  | (with_reducible refine LeO.bind ?_ (fun _ => ?_))
  | exact ih0 _ _ _
  | exact spec_CronNumber.mono _ _
  | exact LeO.none _
  | refine LeO.ite ?_ ?_
  | refine LeO.bind ?_ (fun _ => ?_)
set_option maxHeartbeats 8000000 in
set_option maxRecDepth 100000 in
theorem spec_CronStep.calls (k : Nat) (a0 : ByteArray) (r1 : Int) (r2 : Int) (w : World) (h : spec_CronStep.f k a0 = some (r1, r2)) :
  Calls Tryz.prog 121 #[.string a0] w fun e w' => e = .returned (.tuple #[.int .i64 r1, .int .i64 r2]) ∧ Below w.heap.size w w' := by
 have HB := Aside0.mk (Below.refl w.heap.size w);have H : ((spec_CronNumber.f k a0).bind fun bt157 => (if bt157.2 = 0 then (spec_CronStep.j0 k bt157.1 bt157.2 true) else (spec_CronStep.j0 k bt157.1 bt157.2 (bt157.1 == 0)))) = some (r1, r2) := h;clear h;replace H := Option.bind_eq_some_iff.mp H;obtain ⟨⟨t157, t158⟩, A20, H⟩ := H;replace H : (if t158 = 0 then (spec_CronStep.j0 k t157 t158 true) else (spec_CronStep.j0 k t157 t158 (t157 == 0))) = some (r1, r2) := H;have A2 := Aside0.mk A20;clear A20;have HC3 := Aside0.mk H;clear H;go_enter Tryz.func121, Tryz.ntmps121;go_upto_region 2 with (first | ((with_reducible refine gate_callee (f := 157) rfl ?_); refine goesL_ (some 8) rfl rfl Tryz.func157 (by kernel_rfl) rfl #[.string a0] rfl (by (try simp only [List.map_toArray, List.map_cons, List.map_nil]); first | done | rfl | (simp only [List.length_drop, List.length_take]; rfl)) ?_; (with_reducible refine (spec_CronNumber.calls k a0 t157 t158 _ A2.out).mono ?_); rintro e w4 ⟨rfl, hb⟩; refine ⟨_, rfl, ?_⟩; have n0_ := Aside0.mk (below_step (by repeat (first | (with_reducible first | exact HB.out | apply below_alloc | apply pw_below_drewN | apply below_drew1) | exact HB.out)) hb); clear HB; have HB := n0_; clear n0_; (try clear hb); (try clear hb2); (try clear hk); (try clear hi)))
 (try simp only [Act.put, List.setIfInBounds_toArray, List.set_cons_zero, List.set_cons_succ])
 go_cut [16] (fun v16 wc => ∃ (kq : Nat) (x16_2 : Bool), v16 = .bool x16_2 ∧ Aside0 (spec_CronStep.j0 kq t157 t158 x16_2 = some (r1, r2)) ∧ Aside0 (kq ≤ k) ∧ Aside0 (Below w.heap.size w wc))
 case first =>
  have H := HC3.out;clear HC3;by_cases c5 : t158 = 0
  ·rw [if_pos c5] at H;have c5b0 : (t158 == 0) = true := beq_iff_eq.mpr c5;have c5b1 : (t158 != 0) = false := bne_eq_false_iff_eq.mpr c5;clear c5
   (first | rw [c5b0] | (simp only [i64_w, i32_w]; rw [c5b0]) | skip)
   have H' := Aside0.mk H;clear H;go_wp2
   go_meet
   case rel => exact ⟨_, (true), (by first | rfl | (simp; done) | (simp [*]; done)), H', ⟨by first | omega | exact Nat.le_refl _⟩, ⟨by repeat (first | (with_reducible first | exact HB.out | apply below_alloc | apply pw_below_drewN | apply below_drew1) | exact HB.out)⟩⟩
  ·rw [if_neg c5] at H;have c5b0 : (t158 == 0) = false := beq_eq_false_iff_ne.mpr c5;have c5b1 : (t158 != 0) = true := bne_iff_ne.mpr c5
   (first | rw [c5b0] | (simp only [i64_w, i32_w]; rw [c5b0]) | skip)
   have H' := Aside0.mk H;clear H;go_wp2
   go_meet
   case rel => exact ⟨_, ((t157 == 0)), (by first | rfl | (simp; done) | (simp [*]; done)), H', ⟨by first | omega | exact Nat.le_refl _⟩, ⟨by repeat (first | (with_reducible first | exact HB.out | apply below_alloc | apply pw_below_drewN | apply below_drew1) | exact HB.out)⟩⟩
 case rest =>
  clear HC3;try clear c1
  try clear p2
  try clear c5
  try clear c5b0
  try clear c5b1
  obtain ⟨kq, x16_2, rfl, HA, HJ2, HB⟩ := hcut;cases kq with
  | zero => exact absurd HA.out (by simp [spec_CronStep.j0])
  | succ kj2 =>
   have H := HA.out;clear HA;simp only [spec_CronStep.j0] at H;by_cases c6 : x16_2 = true
   ·subst c6;have H1 : (some (0, 0)) = some (r1, r2) := by rw [if_pos rfl] at H; exact H
    clear H;have H := H1;clear H1;simp only [Option.some.injEq, Prod.mk.injEq] at H;obtain ⟨rfl, rfl⟩ := H;go_wp2
    go_ret2;exact ⟨by first | rfl | (simp [errW_none, errW_some] <;> rfl) | (simp [*, errW_none, errW_some] <;> rfl), by repeat (first | (with_reducible first | exact HB.out | apply below_alloc | apply pw_below_drewN | apply below_drew1) | exact HB.out)⟩
   ·replace c6 := Bool.eq_false_iff.mpr c6;subst c6;have H1 : (if t157 = 1099511627776 then (some (0, 2)) else (some (t157, t158))) = some (r1, r2) := by rw [if_neg (show ¬ (false = true) by decide)] at H; exact H
    clear H;have H := H1;clear H1;by_cases c7 : t157 = 1099511627776
    ·rw [if_pos c7] at H;have c7b0 : (t157 == 1099511627776) = true := beq_iff_eq.mpr c7;have c7b1 : (t157 != 1099511627776) = false := bne_eq_false_iff_eq.mpr c7;clear c7;simp only [Option.some.injEq, Prod.mk.injEq] at H;obtain ⟨rfl, rfl⟩ := H;go_wp2
     go_ret2;exact ⟨by first | rfl | (simp [errW_none, errW_some] <;> rfl) | (simp [*, errW_none, errW_some] <;> rfl), by repeat (first | (with_reducible first | exact HB.out | apply below_alloc | apply pw_below_drewN | apply below_drew1) | exact HB.out)⟩
    ·rw [if_neg c7] at H;have c7b0 : (t157 == 1099511627776) = false := beq_eq_false_iff_ne.mpr c7;have c7b1 : (t157 != 1099511627776) = true := bne_iff_ne.mpr c7;simp only [Option.some.injEq, Prod.mk.injEq] at H;obtain ⟨rfl, rfl⟩ := H;go_wp2
     go_ret2;exact ⟨by first | rfl | (simp [errW_none, errW_some] <;> rfl) | (simp [*, errW_none, errW_some] <;> rfl), by repeat (first | (with_reducible first | exact HB.out | apply below_alloc | apply pw_below_drewN | apply below_drew1) | exact HB.out)⟩
def spec_worse.f (a0 : Int) (a1 : Int) : Option (Int) := if a0 = 0 then (some 0) else (if a1 = 0 then (some 0) else (some (mx a0 a1)))
set_option maxHeartbeats 8000000 in
set_option maxRecDepth 100000 in
theorem spec_worse.calls (a0 : Int) (a1 : Int) (r : Int) (w : World) (h : spec_worse.f a0 a1 = some r) :
  Calls Tryz.prog 57 #[.int .i64 a0, .int .i64 a1] w fun e w' => e = .returned (.int .i64 r) ∧ Below w.heap.size w w' := by
 have HB := Aside0.mk (Below.refl w.heap.size w);have H : (if a0 = 0 then (some 0) else (if a1 = 0 then (some 0) else (some (mx a0 a1)))) = some r := h;clear h;by_cases c3 : a0 = 0
 ·rw [if_pos c3] at H;have c3b0 : (a0 == 0) = true := beq_iff_eq.mpr c3;have c3b1 : (a0 != 0) = false := bne_eq_false_iff_eq.mpr c3;clear c3;obtain rfl := Option.some.inj H;go_enter Tryz.func57, Tryz.ntmps57;go_wp2
  go_ret;exact ⟨by first | rfl | (simp [errW_none, errW_some] <;> rfl) | (simp [*, errW_none, errW_some] <;> rfl), by repeat (first | (with_reducible first | exact HB.out | apply below_alloc | apply pw_below_drewN | apply below_drew1) | exact HB.out)⟩
 ·rw [if_neg c3] at H;have c3b0 : (a0 == 0) = false := beq_eq_false_iff_ne.mpr c3;have c3b1 : (a0 != 0) = true := bne_iff_ne.mpr c3;by_cases c4 : a1 = 0
  ·rw [if_pos c4] at H;have c4b0 : (a1 == 0) = true := beq_iff_eq.mpr c4;have c4b1 : (a1 != 0) = false := bne_eq_false_iff_eq.mpr c4;clear c4;obtain rfl := Option.some.inj H;go_enter Tryz.func57, Tryz.ntmps57;go_wp2
   go_ret;exact ⟨by first | rfl | (simp [errW_none, errW_some] <;> rfl) | (simp [*, errW_none, errW_some] <;> rfl), by repeat (first | (with_reducible first | exact HB.out | apply below_alloc | apply pw_below_drewN | apply below_drew1) | exact HB.out)⟩
  ·rw [if_neg c4] at H;have c4b0 : (a1 == 0) = false := beq_eq_false_iff_ne.mpr c4;have c4b1 : (a1 != 0) = true := bne_iff_ne.mpr c4;obtain ⟨ji5, hji5⟩ : ∃ j_ : Int, (mx a0 a1) = j_ := ⟨_, rfl⟩
   replace H : (some ji5) = some r := by first | (rw [hji5] at H; exact H) | (simp only [hji5] at H ⊢; exact H)
   have hji5_ : (if a0 < a1 then a1 else a0) = ji5 := hji5;obtain rfl := Option.some.inj H;go_enter Tryz.func57, Tryz.ntmps57;go_wp2
   go_ret;exact ⟨by first | rfl | (simp [errW_none, errW_some] <;> rfl) | (simp only [← hji5]; first | rfl | (simp [errW_none, errW_some] <;> rfl)) | (simp [*, errW_none, errW_some] <;> rfl), by repeat (first | (with_reducible first | exact HB.out | apply below_alloc | apply pw_below_drewN | apply below_drew1) | exact HB.out)⟩
def spec_CronLow.f (a0 : Int) : Option (Int) := if a0 = 3 then (some 1) else (if a0 = 4 then (some 1) else (some 0))
set_option maxHeartbeats 8000000 in
set_option maxRecDepth 100000 in
theorem spec_CronLow.calls (a0 : Int) (r : Int) (w : World) (h : spec_CronLow.f a0 = some r) :
  Calls Tryz.prog 60 #[.int .i64 a0] w fun e w' => e = .returned (.int .i64 r) ∧ Drawn0 w w' := by
 have H : (if a0 = 3 then (some 1) else (if a0 = 4 then (some 1) else (some 0))) = some r := h;clear h;by_cases c2 : a0 = 3
 ·rw [if_pos c2] at H;have c2b0 : (a0 == 3) = true := beq_iff_eq.mpr c2;have c2b1 : (a0 != 3) = false := bne_eq_false_iff_eq.mpr c2;clear c2;obtain rfl := Option.some.inj H;go_enter Tryz.func60, Tryz.ntmps60;go_wp2
  go_ret;exact ⟨by first | rfl | (simp; done) | (simp [*]; done), by repeat (first | exact Drawn0.refl _ | apply Drawn0.step)⟩
 ·rw [if_neg c2] at H;have c2b0 : (a0 == 3) = false := beq_eq_false_iff_ne.mpr c2;have c2b1 : (a0 != 3) = true := bne_iff_ne.mpr c2;by_cases c3 : a0 = 4
  ·rw [if_pos c3] at H;have c3b0 : (a0 == 4) = true := beq_iff_eq.mpr c3;have c3b1 : (a0 != 4) = false := bne_eq_false_iff_eq.mpr c3;clear c3;obtain rfl := Option.some.inj H;go_enter Tryz.func60, Tryz.ntmps60;go_wp2
   go_ret;exact ⟨by first | rfl | (simp; done) | (simp [*]; done), by repeat (first | exact Drawn0.refl _ | apply Drawn0.step)⟩
  ·rw [if_neg c3] at H;have c3b0 : (a0 == 4) = false := beq_eq_false_iff_ne.mpr c3;have c3b1 : (a0 != 4) = true := bne_iff_ne.mpr c3;obtain rfl := Option.some.inj H;go_enter Tryz.func60, Tryz.ntmps60;go_wp2
   go_ret;exact ⟨by first | rfl | (simp; done) | (simp [*]; done), by repeat (first | exact Drawn0.refl _ | apply Drawn0.step)⟩
def spec_CronHigh.f (a0 : Int) : Option (Int) := if a0 = 2 then (some 23) else (if a0 = 3 then (some 31) else (if a0 = 4 then (some 12) else (if a0 = 5 then (some 6) else (some 59))))
set_option maxHeartbeats 8000000 in
set_option maxRecDepth 100000 in
theorem spec_CronHigh.calls (a0 : Int) (r : Int) (w : World) (h : spec_CronHigh.f a0 = some r) :
  Calls Tryz.prog 61 #[.int .i64 a0] w fun e w' => e = .returned (.int .i64 r) ∧ Drawn0 w w' := by
 have H : (if a0 = 2 then (some 23) else (if a0 = 3 then (some 31) else (if a0 = 4 then (some 12) else (if a0 = 5 then (some 6) else (some 59))))) = some r := h;clear h;by_cases c2 : a0 = 2
 ·rw [if_pos c2] at H;have c2b0 : (a0 == 2) = true := beq_iff_eq.mpr c2;have c2b1 : (a0 != 2) = false := bne_eq_false_iff_eq.mpr c2;clear c2;obtain rfl := Option.some.inj H;go_enter Tryz.func61, Tryz.ntmps61;go_wp2
  go_ret;exact ⟨by first | rfl | (simp; done) | (simp [*]; done), by repeat (first | exact Drawn0.refl _ | apply Drawn0.step)⟩
 ·rw [if_neg c2] at H;have c2b0 : (a0 == 2) = false := beq_eq_false_iff_ne.mpr c2;have c2b1 : (a0 != 2) = true := bne_iff_ne.mpr c2;by_cases c3 : a0 = 3
  ·rw [if_pos c3] at H;have c3b0 : (a0 == 3) = true := beq_iff_eq.mpr c3;have c3b1 : (a0 != 3) = false := bne_eq_false_iff_eq.mpr c3;clear c3;obtain rfl := Option.some.inj H;go_enter Tryz.func61, Tryz.ntmps61;go_wp2
   go_ret;exact ⟨by first | rfl | (simp; done) | (simp [*]; done), by repeat (first | exact Drawn0.refl _ | apply Drawn0.step)⟩
  ·rw [if_neg c3] at H;have c3b0 : (a0 == 3) = false := beq_eq_false_iff_ne.mpr c3;have c3b1 : (a0 != 3) = true := bne_iff_ne.mpr c3;by_cases c4 : a0 = 4
   ·rw [if_pos c4] at H;have c4b0 : (a0 == 4) = true := beq_iff_eq.mpr c4;have c4b1 : (a0 != 4) = false := bne_eq_false_iff_eq.mpr c4;clear c4;obtain rfl := Option.some.inj H;go_enter Tryz.func61, Tryz.ntmps61;go_wp2
    go_ret;exact ⟨by first | rfl | (simp; done) | (simp [*]; done), by repeat (first | exact Drawn0.refl _ | apply Drawn0.step)⟩
   ·rw [if_neg c4] at H;have c4b0 : (a0 == 4) = false := beq_eq_false_iff_ne.mpr c4;have c4b1 : (a0 != 4) = true := bne_iff_ne.mpr c4;by_cases c5 : a0 = 5
    ·rw [if_pos c5] at H;have c5b0 : (a0 == 5) = true := beq_iff_eq.mpr c5;have c5b1 : (a0 != 5) = false := bne_eq_false_iff_eq.mpr c5;clear c5;obtain rfl := Option.some.inj H;go_enter Tryz.func61, Tryz.ntmps61;go_wp2
     go_ret;exact ⟨by first | rfl | (simp; done) | (simp [*]; done), by repeat (first | exact Drawn0.refl _ | apply Drawn0.step)⟩
    ·rw [if_neg c5] at H;have c5b0 : (a0 == 5) = false := beq_eq_false_iff_ne.mpr c5;have c5b1 : (a0 != 5) = true := bne_iff_ne.mpr c5;obtain rfl := Option.some.inj H;go_enter Tryz.func61, Tryz.ntmps61;go_wp2
     go_ret;exact ⟨by first | rfl | (simp; done) | (simp [*]; done), by repeat (first | exact Drawn0.refl _ | apply Drawn0.step)⟩
def spec_cronForeign.l0 : Nat → ByteArray → Int → Int → Option (Bool)
 | 0, _, _, _ => none
 | k + 1, x0, x5, x6 => if x6 < x5 then (if 0 ≤ x6 then (if x6 < (x0.size : Int) then (if (bt x0 x6) ≥ 128 then (some true) else (spec_cronForeign.l0 k x0 x5 (wrap64 (x6 + 1)))) else (none)) else (none)) else (some false)
def spec_cronForeign.f (k : Nat) (a0 : ByteArray) : Option (Bool) := spec_cronForeign.l0 k a0 (a0.size : Int) 0
theorem spec_cronForeign.mono_l : ∀ k, (∀ y0 y1 y2, LeO (spec_cronForeign.l0 k y0 y1 y2) (spec_cronForeign.l0 (k + 1) y0 y1 y2))
 | 0 => fun _ _ _ r h => by simp [spec_cronForeign.l0] at h
 | k + 1 => by
  have ih0 := spec_cronForeign.mono_l k
  ·intro y0 y1 y2;unfold spec_cronForeign.l0;repeat' first
   | (with_reducible exact ih0 _ _ _)
   | (with_reducible exact LeO.refl _)
   | (with_reducible exact LeO.none _)
   | (with_reducible refine LeO.ite ?_ ?_)
   | (with_reducible refine LeO.bind ?_ (fun _ => ?_))
   | exact ih0 _ _ _
   | exact LeO.none _
   | refine LeO.ite ?_ ?_
   | refine LeO.bind ?_ (fun _ => ?_)
theorem spec_cronForeign.mono : ∀ a0 k, LeO (spec_cronForeign.f k a0) (spec_cronForeign.f (k + 1) a0) := by
 intro a0 k;have ih0 := spec_cronForeign.mono_l k;unfold spec_cronForeign.f
 repeat' first
  | (with_reducible exact ih0 _ _ _)
  | (with_reducible exact LeO.refl _)
  | (with_reducible exact LeO.none _)
  | (with_reducible refine LeO.ite ?_ ?_)
  | (with_reducible refine LeO.bind ?_ (fun _ => ?_))
  | exact ih0 _ _ _
  | exact LeO.none _
  | refine LeO.ite ?_ ?_
  | refine LeO.bind ?_ (fun _ => ?_)
set_option maxHeartbeats 8000000 in
set_option maxRecDepth 100000 in
theorem spec_cronForeign.calls (k : Nat) (a0 : ByteArray) (r : Bool) (w : World) (h : spec_cronForeign.f k a0 = some r) :
  Calls Tryz.prog 92 #[.string a0] w fun e w' => e = .returned (.bool r) ∧ Drawn0 w w' := by
 have H : (spec_cronForeign.l0 k a0 (a0.size : Int) 0) = some r := h;clear h;have H' := Aside0.mk H;clear H;go_enter Tryz.func92, Tryz.ntmps92;go_wp2
 go_loopg [6] k (fun kq v6 w' => ∃ (x6_1 : Int), v6 = .int .i64 x6_1 ∧ Aside0 (spec_cronForeign.l0 kq a0 (a0.size : Int) x6_1 = some r) ∧ Aside0 (kq ≤ k) ∧ Drawn0 w w')
 case atStart => exact ⟨(0), (by first | rfl | (simp; done) | (simp [*]; done)), H', ⟨Nat.le_refl _⟩, by repeat (first | exact Drawn0.refl _ | apply Drawn0.step)⟩
 case round =>
  clear H';obtain ⟨x6_1, rfl, HA, HK1, ⟨m1, rfl⟩⟩ := hrel;cases gk with
  | zero => exact absurd HA.out (by simp [spec_cronForeign.l0])
  | succ k1 =>
   have H := HA.out;clear HA;simp only [spec_cronForeign.l0] at H;by_cases c2 : x6_1 < (a0.size : Int)
   ·rw [if_pos c2] at H;have c2b0 : decide (x6_1 < (a0.size : Int)) = true := decide_eq_true c2;clear c2;by_cases c3 : 0 ≤ x6_1
    ·rw [if_pos c3] at H;have c3b0 : decide (0 ≤ x6_1) = true := decide_eq_true c3;clear c3;by_cases c4 : x6_1 < (a0.size : Int)
     ·rw [if_pos c4] at H;have c4b0 : decide (x6_1 < (a0.size : Int)) = true := decide_eq_true c4;clear c4;by_cases c6 : (bt a0 x6_1) ≥ 128
      ·rw [if_pos c6] at H;have c6b0 : decide (128 ≤ (bt a0 x6_1)) = true := decide_eq_true c6;clear c6;obtain rfl := Option.some.inj H;have p5 : 0 ≤ (x6_1 : Int) := of_decide_eq_true (by first | (with_reducible assumption) | assumption);have q5 : x6_1 < (a0.size : Int) := of_decide_eq_true (by first | (with_reducible assumption) | assumption);have hx5 := bt_at a0 x6_1;replace p5 := eq_true p5;replace q5 := eq_true q5;go_wp2
       go_ret;exact ⟨by first | rfl | (simp; done) | (simp [*]; done), by repeat (first | exact Drawn0.refl _ | apply Drawn0.step)⟩
      ·rw [if_neg c6] at H;have c6b0 : decide (128 ≤ (bt a0 x6_1)) = false := decide_eq_false c6;clear c6;have H' := Aside0.mk H;clear H;have p5 : 0 ≤ (x6_1 : Int) := of_decide_eq_true (by first | (with_reducible assumption) | assumption);have q5 : x6_1 < (a0.size : Int) := of_decide_eq_true (by first | (with_reducible assumption) | assumption);have hx5 := bt_at a0 x6_1;replace p5 := eq_true p5;replace q5 := eq_true q5;go_wp2
       go_roundg k1
       case measure => have := HK1.out; omega
       case rel => exact ⟨(wrap64 (x6_1 + 1)), (by first | rfl | (simp; done) | (simp [*]; done)), H', ⟨by have := HK1.out; omega⟩, by repeat (first | exact Drawn0.refl _ | apply Drawn0.step)⟩
     ·rw [if_neg c4] at H;exact absurd H (by simp)
    ·rw [if_neg c3] at H;exact absurd H (by simp)
   ·rw [if_neg c2] at H;have c2b0 : decide (x6_1 < (a0.size : Int)) = false := decide_eq_false c2;clear c2;obtain rfl := Option.some.inj H;go_wp2
    go_ret;exact ⟨by first | rfl | (simp; done) | (simp [*]; done), by repeat (first | exact Drawn0.refl _ | apply Drawn0.step)⟩
def spec_cronUpper.f (a0 : Int) : Option (Int) := if 97 ≤ a0 then (if a0 ≤ 122 then (some ((((a0 - 97) % 256) + 65) % 256)) else (some a0)) else (some a0)
set_option maxHeartbeats 8000000 in
set_option maxRecDepth 100000 in
theorem spec_cronUpper.calls (a0 : Int) (r : Int) (w : World) (h : spec_cronUpper.f a0 = some r) :
  Calls Tryz.prog 215 #[.int .u8 a0] w fun e w' => e = .returned (.int .u8 r) ∧ Drawn0 w w' := by
 have H : (if 97 ≤ a0 then (if a0 ≤ 122 then (some ((((a0 - 97) % 256) + 65) % 256)) else (some a0)) else (some a0)) = some r := h;clear h;by_cases c2 : 97 ≤ a0
 ·rw [if_pos c2] at H;have c2b0 : decide (97 ≤ a0) = true := decide_eq_true c2;clear c2;by_cases c3 : a0 ≤ 122
  ·rw [if_pos c3] at H;have c3b0 : decide (a0 ≤ 122) = true := decide_eq_true c3;clear c3;obtain rfl := Option.some.inj H;go_enter Tryz.func215, Tryz.ntmps215;go_wp2
   go_ret;exact ⟨by first | rfl | (simp; done) | (simp [*]; done), by repeat (first | exact Drawn0.refl _ | apply Drawn0.step)⟩
  ·rw [if_neg c3] at H;have c3b0 : decide (a0 ≤ 122) = false := decide_eq_false c3;clear c3;obtain rfl := Option.some.inj H;go_enter Tryz.func215, Tryz.ntmps215;go_wp2
   go_ret;exact ⟨by first | rfl | (simp; done) | (simp [*]; done), by repeat (first | exact Drawn0.refl _ | apply Drawn0.step)⟩
 ·rw [if_neg c2] at H;have c2b0 : decide (97 ≤ a0) = false := decide_eq_false c2;clear c2;obtain rfl := Option.some.inj H;go_enter Tryz.func215, Tryz.ntmps215;go_wp2
  go_ret;exact ⟨by first | rfl | (simp; done) | (simp [*]; done), by repeat (first | exact Drawn0.refl _ | apply Drawn0.step)⟩
def spec_cronSame.l0 : Nat → ByteArray → ByteArray → Int → Int → Option (Bool)
 | 0, _, _, _, _ => none
 | k + 1, x0, x1, x12, x13 => if x13 < x12 then (if 0 ≤ x13 then (if x13 < (x0.size : Int) then ((spec_cronUpper.f (bt x0 x13)).bind fun t130 => (if x13 < (x1.size : Int) then ((spec_cronUpper.f (bt x1 x13)).bind fun t131 => (if t130 = t131 then (spec_cronSame.l0 k x0 x1 x12 (wrap64 (x13 + 1))) else (some false))) else (none))) else (none)) else (none)) else (some true)
def spec_cronSame.f (k : Nat) (a0 : ByteArray) (a1 : ByteArray) : Option (Bool) := if (a0.size : Int) = (a1.size : Int) then (spec_cronSame.l0 k a0 a1 (a0.size : Int) 0) else (some false)
theorem spec_cronSame.mono_l : ∀ k, (∀ y0 y1 y2 y3, LeO (spec_cronSame.l0 k y0 y1 y2 y3) (spec_cronSame.l0 (k + 1) y0 y1 y2 y3))
 | 0 => fun _ _ _ _ r h => by simp [spec_cronSame.l0] at h
 | k + 1 => by
  have ih0 := spec_cronSame.mono_l k
  ·intro y0 y1 y2 y3;unfold spec_cronSame.l0;repeat' first
   | (with_reducible exact ih0 _ _ _ _)
   | (with_reducible exact LeO.refl _)
   | (with_reducible exact LeO.none _)
   | (with_reducible refine LeO.ite ?_ ?_)
   | (with_reducible refine LeO.bind ?_ (fun _ => ?_))
   | exact ih0 _ _ _ _
   | exact LeO.none _
   | refine LeO.ite ?_ ?_
   | refine LeO.bind ?_ (fun _ => ?_)
theorem spec_cronSame.mono : ∀ a0 a1 k, LeO (spec_cronSame.f k a0 a1) (spec_cronSame.f (k + 1) a0 a1) := by
 intro a0 a1 k;have ih0 := spec_cronSame.mono_l k;unfold spec_cronSame.f
 repeat' first
  | (with_reducible exact ih0 _ _ _ _)
  | (with_reducible exact LeO.refl _)
  | (with_reducible exact LeO.none _)
  | (with_reducible refine LeO.ite ?_ ?_)
  | (with_reducible refine LeO.bind ?_ (fun _ => ?_))
  | exact ih0 _ _ _ _
  | exact LeO.none _
  | refine LeO.ite ?_ ?_
  | refine LeO.bind ?_ (fun _ => ?_)
set_option maxHeartbeats 8000000 in
set_option maxRecDepth 100000 in
theorem spec_cronSame.calls (k : Nat) (a0 : ByteArray) (a1 : ByteArray) (r : Bool) (w : World) (h : spec_cronSame.f k a0 a1 = some r) :
  Calls Tryz.prog 190 #[.string a0, .string a1] w fun e w' => e = .returned (.bool r) ∧ Drawn0 w w' := by
 have H : (if (a0.size : Int) = (a1.size : Int) then (spec_cronSame.l0 k a0 a1 (a0.size : Int) 0) else (some false)) = some r := h;clear h;by_cases c3 : (a0.size : Int) = (a1.size : Int)
 ·rw [if_pos c3] at H;have c3b0 : ((a0.size : Int) == (a1.size : Int)) = true := beq_iff_eq.mpr c3;have c3b1 : ((a0.size : Int) != (a1.size : Int)) = false := bne_eq_false_iff_eq.mpr c3;have c3b2 : (a0.size == a1.size) = true := by first | simpa using c3 | (simp at c3 ⊢; omega)
  clear c3;have H' := Aside0.mk H;clear H;go_enter Tryz.func190, Tryz.ntmps190;go_wp2
  repeat (go_quiet (fail); try go_wp2)
  go_loopg [13] k (fun kq v13 w' => ∃ (x13_1 : Int), v13 = .int .i64 x13_1 ∧ Aside0 (spec_cronSame.l0 kq a0 a1 (a0.size : Int) x13_1 = some r) ∧ Aside0 (kq ≤ k) ∧ Drawn0 w w')
  case atStart => exact ⟨(0), (by first | rfl | (simp; done) | (simp [*]; done)), H', ⟨Nat.le_refl _⟩, by repeat (first | exact Drawn0.refl _ | apply Drawn0.step)⟩
  case round =>
   clear H';try clear c1
   try clear p2
   try clear c3
   try clear c3b0
   try clear c3b1
   try clear c3b2
   obtain ⟨x13_1, rfl, HA, HK1, ⟨m1, rfl⟩⟩ := hrel;cases gk with
   | zero => exact absurd HA.out (by simp [spec_cronSame.l0])
   | succ k1 =>
    have H := HA.out;clear HA;simp only [spec_cronSame.l0] at H;by_cases c4 : x13_1 < (a0.size : Int)
    ·rw [if_pos c4] at H;have c4b0 : decide (x13_1 < (a0.size : Int)) = true := decide_eq_true c4;clear c4;by_cases c5 : 0 ≤ x13_1
     ·rw [if_pos c5] at H;have c5b0 : decide (0 ≤ x13_1) = true := decide_eq_true c5;clear c5;by_cases c6 : x13_1 < (a0.size : Int)
      ·rw [if_pos c6] at H;have c6b0 : decide (x13_1 < (a0.size : Int)) = true := decide_eq_true c6;clear c6;replace H := Option.bind_eq_some_iff.mp H;obtain ⟨t130, A80, H⟩ := H;replace H : (if x13_1 < (a1.size : Int) then ((spec_cronUpper.f (bt a1 x13_1)).bind fun t131 => (if t130 = t131 then (spec_cronSame.l0 k1 a0 a1 (a0.size : Int) (wrap64 (x13_1 + 1))) else (some false))) else (none)) = some r := H;have A8 := Aside0.mk A80;clear A80;by_cases c9 : x13_1 < (a1.size : Int)
       ·rw [if_pos c9] at H;have c9b0 : decide (x13_1 < (a1.size : Int)) = true := decide_eq_true c9;clear c9;replace H := Option.bind_eq_some_iff.mp H;obtain ⟨t131, A110, H⟩ := H;replace H : (if t130 = t131 then (spec_cronSame.l0 k1 a0 a1 (a0.size : Int) (wrap64 (x13_1 + 1))) else (some false)) = some r := H;have A11 := Aside0.mk A110;clear A110;by_cases c12 : t130 = t131
        ·rw [if_pos c12] at H;have c12b0 : (t130 == t131) = true := beq_iff_eq.mpr c12;have c12b1 : (t130 != t131) = false := bne_eq_false_iff_eq.mpr c12;clear c12;have H' := Aside0.mk H;clear H;have p7 : 0 ≤ (x13_1 : Int) := of_decide_eq_true (by first | (with_reducible assumption) | assumption);have q7 : x13_1 < (a0.size : Int) := of_decide_eq_true (by first | (with_reducible assumption) | assumption);have hx7 := bt_at a0 x13_1;replace p7 := eq_true p7;replace q7 := eq_true q7;go_wp2_with (first | (go_at_call 215; (with_reducible refine (spec_cronUpper.calls (bt a0 x13_1) t130 _ A8.out).mono ?_); rintro e w' ⟨rfl, ⟨nd, rfl⟩⟩; (try first | exact ⟨rfl, _, World.drewN_drewN _ _ _⟩ | exact ⟨rfl, _, Eq.trans (World.drewN_drewN _ _ _) (congrArg (World.drewN _) (Nat.add_assoc _ _ _))⟩); have p10 : 0 ≤ (x13_1 : Int) := of_decide_eq_true (by first | (with_reducible assumption) | assumption); have q10 : x13_1 < (a1.size : Int) := of_decide_eq_true (by first | (with_reducible assumption) | assumption); have hx10 := bt_at a1 x13_1; replace p10 := eq_true p10; replace q10 := eq_true q10) | (go_at_call 215; (with_reducible refine (spec_cronUpper.calls (bt a1 x13_1) t131 _ A11.out).mono ?_); rintro e w' ⟨rfl, ⟨nd, rfl⟩⟩; (try first | exact ⟨rfl, _, World.drewN_drewN _ _ _⟩ | exact ⟨rfl, _, Eq.trans (World.drewN_drewN _ _ _) (congrArg (World.drewN _) (Nat.add_assoc _ _ _))⟩)))
         repeat (go_quiet (first | (go_at_call 215; (with_reducible refine (spec_cronUpper.calls (bt a0 x13_1) t130 _ A8.out).mono ?_); rintro e w' ⟨rfl, ⟨nd, rfl⟩⟩; (try first | exact ⟨rfl, _, World.drewN_drewN _ _ _⟩ | exact ⟨rfl, _, Eq.trans (World.drewN_drewN _ _ _) (congrArg (World.drewN _) (Nat.add_assoc _ _ _))⟩); have p10 : 0 ≤ (x13_1 : Int) := of_decide_eq_true (by first | (with_reducible assumption) | assumption); have q10 : x13_1 < (a1.size : Int) := of_decide_eq_true (by first | (with_reducible assumption) | assumption); have hx10 := bt_at a1 x13_1; replace p10 := eq_true p10; replace q10 := eq_true q10) | (go_at_call 215; (with_reducible refine (spec_cronUpper.calls (bt a1 x13_1) t131 _ A11.out).mono ?_); rintro e w' ⟨rfl, ⟨nd, rfl⟩⟩; (try first | exact ⟨rfl, _, World.drewN_drewN _ _ _⟩ | exact ⟨rfl, _, Eq.trans (World.drewN_drewN _ _ _) (congrArg (World.drewN _) (Nat.add_assoc _ _ _))⟩))); try go_wp2_with (first | (go_at_call 215; (with_reducible refine (spec_cronUpper.calls (bt a0 x13_1) t130 _ A8.out).mono ?_); rintro e w' ⟨rfl, ⟨nd, rfl⟩⟩; (try first | exact ⟨rfl, _, World.drewN_drewN _ _ _⟩ | exact ⟨rfl, _, Eq.trans (World.drewN_drewN _ _ _) (congrArg (World.drewN _) (Nat.add_assoc _ _ _))⟩); have p10 : 0 ≤ (x13_1 : Int) := of_decide_eq_true (by first | (with_reducible assumption) | assumption); have q10 : x13_1 < (a1.size : Int) := of_decide_eq_true (by first | (with_reducible assumption) | assumption); have hx10 := bt_at a1 x13_1; replace p10 := eq_true p10; replace q10 := eq_true q10) | (go_at_call 215; (with_reducible refine (spec_cronUpper.calls (bt a1 x13_1) t131 _ A11.out).mono ?_); rintro e w' ⟨rfl, ⟨nd, rfl⟩⟩; (try first | exact ⟨rfl, _, World.drewN_drewN _ _ _⟩ | exact ⟨rfl, _, Eq.trans (World.drewN_drewN _ _ _) (congrArg (World.drewN _) (Nat.add_assoc _ _ _))⟩))))
         go_roundg k1
         case measure => have := HK1.out; omega
         case rel => exact ⟨(wrap64 (x13_1 + 1)), (by first | rfl | (simp; done) | (simp [*]; done)), H', ⟨by have := HK1.out; omega⟩, by repeat (first | exact Drawn0.refl _ | apply Drawn0.step)⟩
        ·rw [if_neg c12] at H;have c12b0 : (t130 == t131) = false := beq_eq_false_iff_ne.mpr c12;have c12b1 : (t130 != t131) = true := bne_iff_ne.mpr c12;obtain rfl := Option.some.inj H;have p7 : 0 ≤ (x13_1 : Int) := of_decide_eq_true (by first | (with_reducible assumption) | assumption);have q7 : x13_1 < (a0.size : Int) := of_decide_eq_true (by first | (with_reducible assumption) | assumption);have hx7 := bt_at a0 x13_1;replace p7 := eq_true p7;replace q7 := eq_true q7;go_wp2_with (first | (go_at_call 215; (with_reducible refine (spec_cronUpper.calls (bt a0 x13_1) t130 _ A8.out).mono ?_); rintro e w' ⟨rfl, ⟨nd, rfl⟩⟩; (try first | exact ⟨rfl, _, World.drewN_drewN _ _ _⟩ | exact ⟨rfl, _, Eq.trans (World.drewN_drewN _ _ _) (congrArg (World.drewN _) (Nat.add_assoc _ _ _))⟩); have p10 : 0 ≤ (x13_1 : Int) := of_decide_eq_true (by first | (with_reducible assumption) | assumption); have q10 : x13_1 < (a1.size : Int) := of_decide_eq_true (by first | (with_reducible assumption) | assumption); have hx10 := bt_at a1 x13_1; replace p10 := eq_true p10; replace q10 := eq_true q10) | (go_at_call 215; (with_reducible refine (spec_cronUpper.calls (bt a1 x13_1) t131 _ A11.out).mono ?_); rintro e w' ⟨rfl, ⟨nd, rfl⟩⟩; (try first | exact ⟨rfl, _, World.drewN_drewN _ _ _⟩ | exact ⟨rfl, _, Eq.trans (World.drewN_drewN _ _ _) (congrArg (World.drewN _) (Nat.add_assoc _ _ _))⟩)))
         repeat (go_quiet (first | (go_at_call 215; (with_reducible refine (spec_cronUpper.calls (bt a0 x13_1) t130 _ A8.out).mono ?_); rintro e w' ⟨rfl, ⟨nd, rfl⟩⟩; (try first | exact ⟨rfl, _, World.drewN_drewN _ _ _⟩ | exact ⟨rfl, _, Eq.trans (World.drewN_drewN _ _ _) (congrArg (World.drewN _) (Nat.add_assoc _ _ _))⟩); have p10 : 0 ≤ (x13_1 : Int) := of_decide_eq_true (by first | (with_reducible assumption) | assumption); have q10 : x13_1 < (a1.size : Int) := of_decide_eq_true (by first | (with_reducible assumption) | assumption); have hx10 := bt_at a1 x13_1; replace p10 := eq_true p10; replace q10 := eq_true q10) | (go_at_call 215; (with_reducible refine (spec_cronUpper.calls (bt a1 x13_1) t131 _ A11.out).mono ?_); rintro e w' ⟨rfl, ⟨nd, rfl⟩⟩; (try first | exact ⟨rfl, _, World.drewN_drewN _ _ _⟩ | exact ⟨rfl, _, Eq.trans (World.drewN_drewN _ _ _) (congrArg (World.drewN _) (Nat.add_assoc _ _ _))⟩))); try go_wp2_with (first | (go_at_call 215; (with_reducible refine (spec_cronUpper.calls (bt a0 x13_1) t130 _ A8.out).mono ?_); rintro e w' ⟨rfl, ⟨nd, rfl⟩⟩; (try first | exact ⟨rfl, _, World.drewN_drewN _ _ _⟩ | exact ⟨rfl, _, Eq.trans (World.drewN_drewN _ _ _) (congrArg (World.drewN _) (Nat.add_assoc _ _ _))⟩); have p10 : 0 ≤ (x13_1 : Int) := of_decide_eq_true (by first | (with_reducible assumption) | assumption); have q10 : x13_1 < (a1.size : Int) := of_decide_eq_true (by first | (with_reducible assumption) | assumption); have hx10 := bt_at a1 x13_1; replace p10 := eq_true p10; replace q10 := eq_true q10) | (go_at_call 215; (with_reducible refine (spec_cronUpper.calls (bt a1 x13_1) t131 _ A11.out).mono ?_); rintro e w' ⟨rfl, ⟨nd, rfl⟩⟩; (try first | exact ⟨rfl, _, World.drewN_drewN _ _ _⟩ | exact ⟨rfl, _, Eq.trans (World.drewN_drewN _ _ _) (congrArg (World.drewN _) (Nat.add_assoc _ _ _))⟩))))
         go_ret;exact ⟨by first | rfl | (simp; done) | (simp [*]; done), by repeat (first | exact Drawn0.refl _ | apply Drawn0.step)⟩
       ·rw [if_neg c9] at H;exact absurd H (by simp)
      ·rw [if_neg c6] at H;exact absurd H (by simp)
     ·rw [if_neg c5] at H;exact absurd H (by simp)
    ·rw [if_neg c4] at H;have c4b0 : decide (x13_1 < (a0.size : Int)) = false := decide_eq_false c4;clear c4;obtain rfl := Option.some.inj H;go_wp2
     repeat (go_quiet (fail); try go_wp2)
     go_ret;exact ⟨by first | rfl | (simp; done) | (simp [*]; done), by repeat (first | exact Drawn0.refl _ | apply Drawn0.step)⟩
 ·rw [if_neg c3] at H;have c3b0 : ((a0.size : Int) == (a1.size : Int)) = false := beq_eq_false_iff_ne.mpr c3;have c3b1 : ((a0.size : Int) != (a1.size : Int)) = true := bne_iff_ne.mpr c3;have c3b2 : (a0.size == a1.size) = false := by first | simpa using c3 | (simp at c3 ⊢; omega)
  obtain rfl := Option.some.inj H;go_enter Tryz.func190, Tryz.ntmps190;go_wp2
  repeat (go_quiet (fail); try go_wp2)
  go_ret;exact ⟨by first | rfl | (simp; done) | (simp [*]; done), by repeat (first | exact Drawn0.refl _ | apply Drawn0.step)⟩
mutual
def spec_CronName.j0 : Nat → Int → Int → ByteArray → Option (ByteArray)
 | 0, _, _, _ => none
 | k + 1, x0, x1, x5 => if x0 = 5 then (spec_CronName.j1 k x0 x1 (⟨#[83, 85, 78, 77, 79, 78, 84, 85, 69, 87, 69, 68, 84, 72, 85, 70, 82, 73, 83, 65, 84]⟩ : ByteArray)) else (spec_CronName.j1 k x0 x1 x5)
def spec_CronName.j1 : Nat → Int → Int → ByteArray → Option (ByteArray)
 | 0, _, _, _ => none
 | k + 1, x0, x1, x5 => if x5.toList = ([] : List UInt8) then (some (⟨#[]⟩ : ByteArray)) else ((spec_CronLow.f x0).bind fun t132 => (if x1 < t132 then (some (⟨#[]⟩ : ByteArray)) else ((spec_CronHigh.f x0).bind fun t133 => (if x1 > t133 then (some (⟨#[]⟩ : ByteArray)) else (if 0 ≤ (wrap64 (3 * x1)) then (if (wrap64 (3 * x1)) ≤ (wrap64 ((wrap64 (3 * x1)) + 3)) then (if (wrap64 ((wrap64 (3 * x1)) + 3)) ≤ (x5.size : Int) then (some (x5.extract ((wrap64 (3 * x1)) : Int).toNat ((wrap64 ((wrap64 (3 * x1)) + 3)) : Int).toNat)) else (none)) else (none)) else (none))))))
end
def spec_CronName.f (k : Nat) (a0 : Int) (a1 : Int) : Option (ByteArray) := if a0 = 4 then (spec_CronName.j0 k a0 a1 (⟨#[46, 46, 46, 74, 65, 78, 70, 69, 66, 77, 65, 82, 65, 80, 82, 77, 65, 89, 74, 85, 78, 74, 85, 76, 65, 85, 71, 83, 69, 80, 79, 67, 84, 78, 79, 86, 68, 69, 67]⟩ : ByteArray)) else (spec_CronName.j0 k a0 a1 (⟨#[]⟩ : ByteArray))
theorem spec_CronName.mono_l : ∀ k, (∀ y0 y1 y2, LeO (spec_CronName.j0 k y0 y1 y2) (spec_CronName.j0 (k + 1) y0 y1 y2)) ∧ (∀ y0 y1 y2, LeO (spec_CronName.j1 k y0 y1 y2) (spec_CronName.j1 (k + 1) y0 y1 y2))
 | 0 => ⟨fun _ _ _ r h => by simp [spec_CronName.j0] at h, fun _ _ _ r h => by simp [spec_CronName.j1] at h⟩
 | k + 1 => by
  obtain ⟨ih0, ih1⟩ := spec_CronName.mono_l k;refine ⟨?_, ?_⟩;intro y0 y1 y2;unfold spec_CronName.j0;rotate_left;intro y0 y1 y2;unfold spec_CronName.j1;rotate_left;all_goals repeat' first
  | (with_reducible exact ih0 _ _ _)
  | (with_reducible exact ih1 _ _ _)
  | (with_reducible exact LeO.refl _)
  | (with_reducible exact LeO.none _)
  | (with_reducible refine LeO.ite ?_ ?_)
  | (with_reducible refine LeO.bind ?_ (fun _ => ?_))
  | exact ih0 _ _ _
  | exact ih1 _ _ _
  | exact LeO.none _
  | refine LeO.ite ?_ ?_
  | refine LeO.bind ?_ (fun _ => ?_)
theorem spec_CronName.mono : ∀ a0 a1 k, LeO (spec_CronName.f k a0 a1) (spec_CronName.f (k + 1) a0 a1) := by
 intro a0 a1 k;obtain ⟨ih0, ih1⟩ := spec_CronName.mono_l k;unfold spec_CronName.f
 repeat' first
  | (with_reducible exact ih0 _ _ _)
  | (with_reducible exact ih1 _ _ _)
  | (with_reducible exact LeO.refl _)
  | (with_reducible exact LeO.none _)
  | (with_reducible refine LeO.ite ?_ ?_)
  | (with_reducible refine LeO.bind ?_ (fun _ => ?_))
  | exact ih0 _ _ _
  | exact ih1 _ _ _
  | exact LeO.none _
  | refine LeO.ite ?_ ?_
  | refine LeO.bind ?_ (fun _ => ?_)
set_option maxHeartbeats 8000000 in
set_option maxRecDepth 100000 in
theorem spec_CronName.calls (k : Nat) (a0 : Int) (a1 : Int) (r : ByteArray) (w : World) (h : spec_CronName.f k a0 a1 = some r) :
  Calls Tryz.prog 191 #[.int .i64 a0, .int .i64 a1] w fun e w' => e = .returned (.string r) ∧ Drawn0 w w' := by
 have H : (if a0 = 4 then (spec_CronName.j0 k a0 a1 (⟨#[46, 46, 46, 74, 65, 78, 70, 69, 66, 77, 65, 82, 65, 80, 82, 77, 65, 89, 74, 85, 78, 74, 85, 76, 65, 85, 71, 83, 69, 80, 79, 67, 84, 78, 79, 86, 68, 69, 67]⟩ : ByteArray)) else (spec_CronName.j0 k a0 a1 (⟨#[]⟩ : ByteArray))) = some r := h;clear h;have HC3 := Aside0.mk H;clear H;go_enter Tryz.func191, Tryz.ntmps191;go_upto_if 7 with (fail)
 go_cut [5] (fun v5 wc => ∃ (kq : Nat) (x5_2 : ByteArray), v5 = .string x5_2 ∧ Aside0 (spec_CronName.j0 kq a0 a1 x5_2 = some r) ∧ Aside0 (kq ≤ k) ∧ Drawn0 w wc)
 case first =>
  have H := HC3.out;clear HC3;by_cases c4 : a0 = 4
  ·rw [if_pos c4] at H;have c4b0 : (a0 == 4) = true := beq_iff_eq.mpr c4;have c4b1 : (a0 != 4) = false := bne_eq_false_iff_eq.mpr c4;clear c4
   (first | rw [c4b0] | (simp only [i64_w, i32_w]; rw [c4b0]) | skip)
   have H' := Aside0.mk H;clear H;go_wp2
   go_meet
   case rel => exact ⟨_, ((⟨#[46, 46, 46, 74, 65, 78, 70, 69, 66, 77, 65, 82, 65, 80, 82, 77, 65, 89, 74, 85, 78, 74, 85, 76, 65, 85, 71, 83, 69, 80, 79, 67, 84, 78, 79, 86, 68, 69, 67]⟩ : ByteArray)), (by first | rfl | (simp; done) | (simp [*]; done)), H', ⟨by first | omega | exact Nat.le_refl _⟩, by repeat (first | exact Drawn0.refl _ | apply Drawn0.step)⟩
  ·rw [if_neg c4] at H;have c4b0 : (a0 == 4) = false := beq_eq_false_iff_ne.mpr c4;have c4b1 : (a0 != 4) = true := bne_iff_ne.mpr c4
   (first | rw [c4b0] | (simp only [i64_w, i32_w]; rw [c4b0]) | skip)
   have H' := Aside0.mk H;clear H;go_wp2
   go_meet
   case rel => exact ⟨_, ((⟨#[]⟩ : ByteArray)), (by first | rfl | (simp; done) | (simp [*]; done)), H', ⟨by first | omega | exact Nat.le_refl _⟩, by repeat (first | exact Drawn0.refl _ | apply Drawn0.step)⟩
 case rest =>
  clear HC3;try clear c1
  try clear p2
  try clear c4
  try clear c4b0
  try clear c4b1
  obtain ⟨kq, x5_2, rfl, HA, HJ2, ⟨mc2, rfl⟩⟩ := hcut;cases kq with
  | zero => exact absurd HA.out (by simp [spec_CronName.j0])
  | succ kj2 =>
   have H := HA.out;clear HA;simp only [spec_CronName.j0] at H;have HC5 := Aside0.mk H;clear H;go_upto_if 9 with (fail)
   go_cut [5] (fun v5 wc => ∃ (kq : Nat) (x5_4 : ByteArray), v5 = .string x5_4 ∧ Aside0 (spec_CronName.j1 kq a0 a1 x5_4 = some r) ∧ Aside0 (kq ≤ kj2) ∧ Drawn0 w wc)
   case first =>
    have H := HC5.out;clear HC5;by_cases c6 : a0 = 5
    ·rw [if_pos c6] at H;have c6b0 : (a0 == 5) = true := beq_iff_eq.mpr c6;have c6b1 : (a0 != 5) = false := bne_eq_false_iff_eq.mpr c6;clear c6
     (first | rw [c6b0] | (simp only [i64_w, i32_w]; rw [c6b0]) | skip)
     have H' := Aside0.mk H;clear H;go_wp2
     go_meet
     case rel => exact ⟨_, ((⟨#[83, 85, 78, 77, 79, 78, 84, 85, 69, 87, 69, 68, 84, 72, 85, 70, 82, 73, 83, 65, 84]⟩ : ByteArray)), (by first | rfl | (simp; done) | (simp [*]; done)), H', ⟨by have := HJ2.out; first | omega | exact Nat.le_refl _⟩, by repeat (first | exact Drawn0.refl _ | apply Drawn0.step)⟩
    ·rw [if_neg c6] at H;have c6b0 : (a0 == 5) = false := beq_eq_false_iff_ne.mpr c6;have c6b1 : (a0 != 5) = true := bne_iff_ne.mpr c6
     (first | rw [c6b0] | (simp only [i64_w, i32_w]; rw [c6b0]) | skip)
     have H' := Aside0.mk H;clear H;go_wp2
     go_meet
     case rel => exact ⟨_, (x5_2), (by first | rfl | (simp; done) | (simp [*]; done)), H', ⟨by have := HJ2.out; first | omega | exact Nat.le_refl _⟩, by repeat (first | exact Drawn0.refl _ | apply Drawn0.step)⟩
   case rest =>
    clear HC5;try clear c1
    try clear c2
    try clear p2
    try clear c4
    try clear c4b0
    try clear c4b1
    try clear c6
    try clear c6b0
    try clear c6b1
    try clear p2
    obtain ⟨kq, x5_4, rfl, HA, HJ4, ⟨mc4, rfl⟩⟩ := hcut;cases kq with
    | zero => exact absurd HA.out (by simp [spec_CronName.j1])
    | succ kj4 =>
     have H := HA.out;clear HA;simp only [spec_CronName.j1] at H;by_cases c7 : x5_4.toList = ([] : List UInt8)
     ·rw [if_pos c7] at H;have c7b0 : (x5_4.toList == ([] : List UInt8)) = true := beq_iff_eq.mpr c7;have c7b1 : (x5_4.toList != ([] : List UInt8)) = false := bne_eq_false_iff_eq.mpr c7;clear c7;obtain rfl := Option.some.inj H;go_wp2
      go_ret;exact ⟨by first | rfl | (simp; done) | (simp [*]; done), by repeat (first | exact Drawn0.refl _ | apply Drawn0.step)⟩
     ·rw [if_neg c7] at H;have c7b0 : (x5_4.toList == ([] : List UInt8)) = false := beq_eq_false_iff_ne.mpr c7;have c7b1 : (x5_4.toList != ([] : List UInt8)) = true := bne_iff_ne.mpr c7;replace H := Option.bind_eq_some_iff.mp H;obtain ⟨t132, A80, H⟩ := H;replace H : (if a1 < t132 then (some (⟨#[]⟩ : ByteArray)) else ((spec_CronHigh.f a0).bind fun t133 => (if a1 > t133 then (some (⟨#[]⟩ : ByteArray)) else (if 0 ≤ (wrap64 (3 * a1)) then (if (wrap64 (3 * a1)) ≤ (wrap64 ((wrap64 (3 * a1)) + 3)) then (if (wrap64 ((wrap64 (3 * a1)) + 3)) ≤ (x5_4.size : Int) then (some (x5_4.extract ((wrap64 (3 * a1)) : Int).toNat ((wrap64 ((wrap64 (3 * a1)) + 3)) : Int).toNat)) else (none)) else (none)) else (none))))) = some r := H;have A8 := Aside0.mk A80;clear A80;by_cases c9 : a1 < t132
      ·rw [if_pos c9] at H;have c9b0 : decide (a1 < t132) = true := decide_eq_true c9;clear c9;obtain rfl := Option.some.inj H;go_wp2_with (first | (go_at_call 60; (with_reducible refine (spec_CronLow.calls a0 t132 _ A8.out).mono ?_); rintro e w' ⟨rfl, ⟨nd, rfl⟩⟩))
       go_ret;exact ⟨by first | rfl | (simp; done) | (simp [*]; done), by repeat (first | exact Drawn0.refl _ | apply Drawn0.step)⟩
      ·rw [if_neg c9] at H;have c9b0 : decide (a1 < t132) = false := decide_eq_false c9;clear c9;replace H := Option.bind_eq_some_iff.mp H;obtain ⟨t133, A100, H⟩ := H;replace H : (if a1 > t133 then (some (⟨#[]⟩ : ByteArray)) else (if 0 ≤ (wrap64 (3 * a1)) then (if (wrap64 (3 * a1)) ≤ (wrap64 ((wrap64 (3 * a1)) + 3)) then (if (wrap64 ((wrap64 (3 * a1)) + 3)) ≤ (x5_4.size : Int) then (some (x5_4.extract ((wrap64 (3 * a1)) : Int).toNat ((wrap64 ((wrap64 (3 * a1)) + 3)) : Int).toNat)) else (none)) else (none)) else (none))) = some r := H;have A10 := Aside0.mk A100;clear A100;by_cases c11 : a1 > t133
       ·rw [if_pos c11] at H;have c11b0 : decide (t133 < a1) = true := decide_eq_true c11;clear c11;obtain rfl := Option.some.inj H;go_wp2_with (first | (go_at_call 60; (with_reducible refine (spec_CronLow.calls a0 t132 _ A8.out).mono ?_); rintro e w' ⟨rfl, ⟨nd, rfl⟩⟩) | (go_at_call 61; (with_reducible refine (spec_CronHigh.calls a0 t133 _ A10.out).mono ?_); rintro e w' ⟨rfl, ⟨nd, rfl⟩⟩))
        go_ret;exact ⟨by first | rfl | (simp; done) | (simp [*]; done), by repeat (first | exact Drawn0.refl _ | apply Drawn0.step)⟩
       ·rw [if_neg c11] at H;have c11b0 : decide (t133 < a1) = false := decide_eq_false c11;clear c11;obtain ⟨ji12, hji12⟩ : ∃ j_ : Int, (wrap64 (3 * a1)) = j_ := ⟨_, rfl⟩
        replace H : (if 0 ≤ (ji12) then (if (ji12) ≤ (wrap64 ((ji12) + 3)) then (if (wrap64 ((ji12) + 3)) ≤ (x5_4.size : Int) then (some (x5_4.extract ((ji12) : Int).toNat ((wrap64 ((ji12) + 3)) : Int).toNat)) else (none)) else (none)) else (none)) = some r := by first | (rw [hji12] at H; exact H) | (simp only [hji12] at H ⊢; exact H)
        (try rw [hji12] at A8)
        (try rw [hji12] at A10)
        have hji12w : (IntKind.i64.wrap (3 * a1)) = ji12 := (i64_w _).trans hji12;by_cases c13 : 0 ≤ (ji12)
        ·rw [if_pos c13] at H;have c13b0 := eq_true c13;have c13b1 : decide (0 ≤ (ji12)) = true := decide_eq_true c13;clear c13;by_cases c14 : (ji12) ≤ (wrap64 ((ji12) + 3))
         ·rw [if_pos c14] at H;have c14b0 := eq_true c14;have c14b1 : decide ((ji12) ≤ (wrap64 ((ji12) + 3))) = true := decide_eq_true c14;by_cases c15 : (wrap64 ((ji12) + 3)) ≤ (x5_4.size : Int)
          ·rw [if_pos c15] at H;have c15b0 := eq_true c15;have c15b1 : decide ((wrap64 ((ji12) + 3)) ≤ (x5_4.size : Int)) = true := decide_eq_true c15;obtain rfl := Option.some.inj H;go_wp2_with (first | (go_at_call 60; (with_reducible refine (spec_CronLow.calls a0 t132 _ A8.out).mono ?_); rintro e w' ⟨rfl, ⟨nd, rfl⟩⟩) | (go_at_call 61; (with_reducible refine (spec_CronHigh.calls a0 t133 _ A10.out).mono ?_); rintro e w' ⟨rfl, ⟨nd, rfl⟩⟩))
           go_ret;exact ⟨by first | rfl | (simp; done) | (simp only [← hji12] <;> (first | rfl | simp)) | (simp [*]; done), by repeat (first | exact Drawn0.refl _ | apply Drawn0.step)⟩
          ·rw [if_neg c15] at H;exact absurd H (by simp)
         ·rw [if_neg c14] at H;exact absurd H (by simp)
        ·rw [if_neg c13] at H;exact absurd H (by simp)
mutual
def spec_CronValue.j0 : Nat → Int → ByteArray → Bool → Option (Int × Int)
 | 0, _, _, _ => none
 | k + 1, x0, x1, x6 => if x6 = true then ((spec_CronLow.f x0).bind fun t134 => (spec_CronValue.l0 k x0 x1 x6 t134)) else (spec_CronValue.j2 k x1 x6)
def spec_CronValue.j2 : Nat → ByteArray → Bool → Option (Int × Int)
 | 0, _, _ => none
 | k + 1, x1, x6 => if x6 = true then ((spec_cronForeign.f k x1).bind fun t138 => (if t138 = true then (some (0, 2)) else ((spec_CronNumber.f k x1).bind fun bt139 => (some (bt139.1, bt139.2))))) else ((spec_CronNumber.f k x1).bind fun bt141 => (some (bt141.1, bt141.2)))
def spec_CronValue.l0 : Nat → Int → ByteArray → Bool → Int → Option (Int × Int)
 | 0, _, _, _, _ => none
 | k + 1, x0, x1, x6, x7 => (spec_CronHigh.f x0).bind fun t135 => (if x7 ≤ t135 then ((spec_CronName.f k x0 x7).bind fun t136 => ((spec_cronSame.f k t136 x1).bind fun t137 => (if t137 = true then (some (x7, 1)) else (spec_CronValue.l0 k x0 x1 x6 (wrap64 (x7 + 1)))))) else (spec_CronValue.j2 k x1 x6))
end
def spec_CronValue.f (k : Nat) (a0 : Int) (a1 : ByteArray) : Option (Int × Int) := if a0 = 4 then (spec_CronValue.j0 k a0 a1 true) else (spec_CronValue.j0 k a0 a1 (a0 == 5))
theorem spec_CronValue.mono_l : ∀ k, (∀ y0 y1 y2, LeO (spec_CronValue.j0 k y0 y1 y2) (spec_CronValue.j0 (k + 1) y0 y1 y2)) ∧ (∀ y0 y1, LeO (spec_CronValue.j2 k y0 y1) (spec_CronValue.j2 (k + 1) y0 y1)) ∧ (∀ y0 y1 y2 y3, LeO (spec_CronValue.l0 k y0 y1 y2 y3) (spec_CronValue.l0 (k + 1) y0 y1 y2 y3))
 | 0 => ⟨fun _ _ _ r h => by simp [spec_CronValue.j0] at h, fun _ _ r h => by simp [spec_CronValue.j2] at h, fun _ _ _ _ r h => by simp [spec_CronValue.l0] at h⟩
 | k + 1 => by
  obtain ⟨ih0, ih1, ih2⟩ := spec_CronValue.mono_l k;refine ⟨?_, ?_, ?_⟩;intro y0 y1 y2;unfold spec_CronValue.j0;rotate_left;intro y0 y1;unfold spec_CronValue.j2;rotate_left;intro y0 y1 y2 y3;unfold spec_CronValue.l0;rotate_left;all_goals repeat' first
  | (with_reducible exact ih0 _ _ _)
  | (with_reducible exact ih1 _ _)
  | (with_reducible exact ih2 _ _ _ _)
  | (with_reducible exact spec_CronName.mono _ _ _)
  | (with_reducible exact spec_CronNumber.mono _ _)
  | (with_reducible exact spec_cronForeign.mono _ _)
  | (with_reducible exact spec_cronSame.mono _ _ _)
  | (with_reducible exact LeO.refl _)
  | (with_reducible exact LeO.none _)
  | (with_reducible refine LeO.ite ?_ ?_)
  | (with_reducible refine LeO.bind ?_ (fun _ => ?_))
  | exact ih0 _ _ _
  | exact ih1 _ _
  | exact ih2 _ _ _ _
  | exact spec_CronName.mono _ _ _
  | exact spec_CronNumber.mono _ _
  | exact spec_cronForeign.mono _ _
  | exact spec_cronSame.mono _ _ _
  | exact LeO.none _
  | refine LeO.ite ?_ ?_
  | refine LeO.bind ?_ (fun _ => ?_)
theorem spec_CronValue.mono : ∀ a0 a1 k, LeO (spec_CronValue.f k a0 a1) (spec_CronValue.f (k + 1) a0 a1) := by
 intro a0 a1 k;obtain ⟨ih0, ih1, ih2⟩ := spec_CronValue.mono_l k;unfold spec_CronValue.f
 repeat' first
  | (with_reducible exact ih0 _ _ _)
  | (with_reducible exact ih1 _ _)
  | (with_reducible exact ih2 _ _ _ _)
  | (with_reducible exact spec_CronName.mono _ _ _)
  | (with_reducible exact spec_CronNumber.mono _ _)
  | (with_reducible exact spec_cronForeign.mono _ _)
  | (with_reducible exact spec_cronSame.mono _ _ _)
  | (with_reducible exact LeO.refl _)
  | (with_reducible exact LeO.none _)
  | (with_reducible refine LeO.ite ?_ ?_)
  | (with_reducible refine LeO.bind ?_ (fun _ => ?_))
  | exact ih0 _ _ _
  | exact ih1 _ _
  | exact ih2 _ _ _ _
  | exact spec_CronName.mono _ _ _
  | exact spec_CronNumber.mono _ _
  | exact spec_cronForeign.mono _ _
  | exact spec_cronSame.mono _ _ _
  | exact LeO.none _
  | refine LeO.ite ?_ ?_
  | refine LeO.bind ?_ (fun _ => ?_)
set_option maxHeartbeats 8000000 in
set_option maxRecDepth 100000 in
theorem spec_CronValue.calls (k : Nat) (a0 : Int) (a1 : ByteArray) (r1 : Int) (r2 : Int) (w : World) (h : spec_CronValue.f k a0 a1 = some (r1, r2)) :
  Calls Tryz.prog 156 #[.int .i64 a0, .string a1] w fun e w' => e = .returned (.tuple #[.int .i64 r1, .int .i64 r2]) ∧ Below w.heap.size w w' := by
 have HB := Aside0.mk (Below.refl w.heap.size w);have H : (if a0 = 4 then (spec_CronValue.j0 k a0 a1 true) else (spec_CronValue.j0 k a0 a1 (a0 == 5))) = some (r1, r2) := h;clear h;have HC3 := Aside0.mk H;clear H;go_enter Tryz.func156, Tryz.ntmps156;go_upto_region 1 with (fail)
 go_cut [6] (fun v6 wc => ∃ (kq : Nat) (x6_2 : Bool), v6 = .bool x6_2 ∧ Aside0 (spec_CronValue.j0 kq a0 a1 x6_2 = some (r1, r2)) ∧ Aside0 (kq ≤ k) ∧ Aside0 (Below w.heap.size w wc))
 case first =>
  have H := HC3.out;clear HC3;by_cases c4 : a0 = 4
  ·rw [if_pos c4] at H;have c4b0 : (a0 == 4) = true := beq_iff_eq.mpr c4;have c4b1 : (a0 != 4) = false := bne_eq_false_iff_eq.mpr c4;clear c4
   (first | rw [c4b0] | (simp only [i64_w, i32_w]; rw [c4b0]) | skip)
   have H' := Aside0.mk H;clear H;go_wp2
   go_meet
   case rel => exact ⟨_, (true), (by first | rfl | (simp; done) | (simp [*]; done)), H', ⟨by first | omega | exact Nat.le_refl _⟩, ⟨by repeat (first | (with_reducible first | exact HB.out | apply below_alloc | apply pw_below_drewN | apply below_drew1) | exact HB.out)⟩⟩
  ·rw [if_neg c4] at H;have c4b0 : (a0 == 4) = false := beq_eq_false_iff_ne.mpr c4;have c4b1 : (a0 != 4) = true := bne_iff_ne.mpr c4
   (first | rw [c4b0] | (simp only [i64_w, i32_w]; rw [c4b0]) | skip)
   have H' := Aside0.mk H;clear H;go_wp2
   go_meet
   case rel => exact ⟨_, ((a0 == 5)), (by first | rfl | (simp; done) | (simp [*]; done)), H', ⟨by first | omega | exact Nat.le_refl _⟩, ⟨by repeat (first | (with_reducible first | exact HB.out | apply below_alloc | apply pw_below_drewN | apply below_drew1) | exact HB.out)⟩⟩
 case rest =>
  clear HC3;try clear c1
  try clear p2
  try clear c4
  try clear c4b0
  try clear c4b1
  obtain ⟨kq, x6_2, rfl, HA, HJ2, HB⟩ := hcut;cases kq with
  | zero => exact absurd HA.out (by simp [spec_CronValue.j0])
  | succ kj2 =>
   have H := HA.out;clear HA;simp only [spec_CronValue.j0] at H;have HC5 := Aside0.mk H;clear H;go_upto_if 14 with (fail)
   go_cut [] (fun wc => ∃ (kq : Nat), Aside0 (spec_CronValue.j2 kq a1 x6_2 = some (r1, r2)) ∧ Aside0 (kq ≤ kj2) ∧ Aside0 (Below w.heap.size w wc))
   case first =>
    have H := HC5.out;clear HC5;by_cases c6 : x6_2 = true
    ·subst c6;have H1 : ((spec_CronLow.f a0).bind fun t134 => (spec_CronValue.l0 kj2 a0 a1 true t134)) = some (r1, r2) := by rw [if_pos rfl] at H; exact H
     clear H;have H := H1;clear H1;replace H := Option.bind_eq_some_iff.mp H;obtain ⟨t134, A70, H⟩ := H;replace H : (spec_CronValue.l0 kj2 a0 a1 true t134) = some (r1, r2) := H;have A7 := Aside0.mk A70;clear A70;have H' := Aside0.mk H;clear H;go_wp2_with (first | ((with_reducible refine gate_callee (f := 60) rfl ?_); refine goesL_ (some 16) rfl rfl Tryz.func60 (by kernel_rfl) rfl #[.int .i64 a0] rfl (by (try simp only [List.map_toArray, List.map_cons, List.map_nil]); first | done | rfl | (simp only [List.length_drop, List.length_take]; rfl)) ?_; (with_reducible refine (spec_CronLow.calls a0 t134 _ A7.out).mono ?_); rintro e w' ⟨rfl, ⟨nd, rfl⟩⟩; refine ⟨_, rfl, ?_⟩))
     go_loopg [7] kj2 (fun kq v7 w' => ∃ (x7_2 : Int), v7 = .int .i64 x7_2 ∧ Aside0 (spec_CronValue.l0 kq a0 a1 true x7_2 = some (r1, r2)) ∧ Aside0 (kq ≤ kj2) ∧ Aside0 (Below w.heap.size w w'))
     case atStart => exact ⟨(t134), (by first | rfl | (simp; done) | (simp [*]; done)), H', ⟨Nat.le_refl _⟩, ⟨by repeat (first | (with_reducible first | exact HB.out | apply below_alloc | apply pw_below_drewN | apply below_drew1) | exact HB.out)⟩⟩
     case round =>
      clear H';try clear c1
      try clear p2
      try clear c4
      try clear c4b0
      try clear c4b1
      try clear c6
      try clear p2
      obtain ⟨x7_2, rfl, HA, HK2, HB⟩ := hrel;cases gk with
      | zero => exact absurd HA.out (by simp [spec_CronValue.l0])
      | succ k2 =>
       have H := HA.out;clear HA;simp only [spec_CronValue.l0] at H;replace H := Option.bind_eq_some_iff.mp H;obtain ⟨t135, A80, H⟩ := H;replace H : (if x7_2 ≤ t135 then ((spec_CronName.f k2 a0 x7_2).bind fun t136 => ((spec_cronSame.f k2 t136 a1).bind fun t137 => (if t137 = true then (some (x7_2, 1)) else (spec_CronValue.l0 k2 a0 a1 true (wrap64 (x7_2 + 1)))))) else (spec_CronValue.j2 k2 a1 true)) = some (r1, r2) := H;have A8 := Aside0.mk A80;clear A80;by_cases c9 : x7_2 ≤ t135
       ·rw [if_pos c9] at H;have c9b0 : decide (x7_2 ≤ t135) = true := decide_eq_true c9;clear c9
        (first | rw [c9b0] | (simp only [i64_w, i32_w]; rw [c9b0]) | skip)
        replace H := Option.bind_eq_some_iff.mp H;obtain ⟨t136, A100, H⟩ := H;replace H : ((spec_cronSame.f k2 t136 a1).bind fun t137 => (if t137 = true then (some (x7_2, 1)) else (spec_CronValue.l0 k2 a0 a1 true (wrap64 (x7_2 + 1))))) = some (r1, r2) := H;have A10 := Aside0.mk A100;clear A100;replace H := Option.bind_eq_some_iff.mp H;obtain ⟨t137, A110, H⟩ := H;replace H : (if t137 = true then (some (x7_2, 1)) else (spec_CronValue.l0 k2 a0 a1 true (wrap64 (x7_2 + 1)))) = some (r1, r2) := H;have A11 := Aside0.mk A110;clear A110;by_cases c12 : t137 = true
        ·subst c12;have H1 : (some (x7_2, 1)) = some (r1, r2) := by rw [if_pos rfl] at H; exact H
         clear H;have H := H1;clear H1;simp only [Option.some.injEq, Prod.mk.injEq] at H;obtain ⟨rfl, rfl⟩ := H;go_wp2_with (first | ((with_reducible refine gate_callee (f := 61) rfl ?_); refine goesL_ (some 19) rfl rfl Tryz.func61 (by kernel_rfl) rfl #[.int .i64 a0] rfl (by (try simp only [List.map_toArray, List.map_cons, List.map_nil]); first | done | rfl | (simp only [List.length_drop, List.length_take]; rfl)) ?_; (with_reducible refine (spec_CronHigh.calls a0 t135 _ A8.out).mono ?_); rintro e w' ⟨rfl, ⟨nd, rfl⟩⟩; refine ⟨_, rfl, ?_⟩) | ((with_reducible refine gate_callee (f := 191) rfl ?_); refine goesL_ (some 25) rfl rfl Tryz.func191 (by kernel_rfl) rfl #[.int .i64 a0, .int .i64 x7_2] rfl (by (try simp only [List.map_toArray, List.map_cons, List.map_nil]); first | done | rfl | (simp only [List.length_drop, List.length_take]; rfl)) ?_; (with_reducible refine (spec_CronName.calls k2 a0 x7_2 t136 _ A10.out).mono ?_); rintro e w' ⟨rfl, ⟨nd, rfl⟩⟩; refine ⟨_, rfl, ?_⟩) | ((with_reducible refine gate_callee (f := 190) rfl ?_); refine goesL_ (some 27) rfl rfl Tryz.func190 (by kernel_rfl) rfl #[.string t136, .string a1] rfl (by (try simp only [List.map_toArray, List.map_cons, List.map_nil]); first | done | rfl | (simp only [List.length_drop, List.length_take]; rfl)) ?_; (with_reducible refine (spec_cronSame.calls k2 t136 a1 true _ A11.out).mono ?_); rintro e w' ⟨rfl, ⟨nd, rfl⟩⟩; refine ⟨_, rfl, ?_⟩))
         go_ret2;exact ⟨by first | rfl | (simp [errW_none, errW_some] <;> rfl) | (simp [*, errW_none, errW_some] <;> rfl), by repeat (first | (with_reducible first | exact HB.out | apply below_alloc | apply pw_below_drewN | apply below_drew1) | exact HB.out)⟩
        ·replace c12 := Bool.eq_false_iff.mpr c12;subst c12;have H1 : (spec_CronValue.l0 k2 a0 a1 true (wrap64 (x7_2 + 1))) = some (r1, r2) := by rw [if_neg (show ¬ (false = true) by decide)] at H; exact H
         clear H;have H := H1;clear H1;have H' := Aside0.mk H;clear H;go_wp2_with (first | ((with_reducible refine gate_callee (f := 61) rfl ?_); refine goesL_ (some 19) rfl rfl Tryz.func61 (by kernel_rfl) rfl #[.int .i64 a0] rfl (by (try simp only [List.map_toArray, List.map_cons, List.map_nil]); first | done | rfl | (simp only [List.length_drop, List.length_take]; rfl)) ?_; (with_reducible refine (spec_CronHigh.calls a0 t135 _ A8.out).mono ?_); rintro e w' ⟨rfl, ⟨nd, rfl⟩⟩; refine ⟨_, rfl, ?_⟩) | ((with_reducible refine gate_callee (f := 191) rfl ?_); refine goesL_ (some 25) rfl rfl Tryz.func191 (by kernel_rfl) rfl #[.int .i64 a0, .int .i64 x7_2] rfl (by (try simp only [List.map_toArray, List.map_cons, List.map_nil]); first | done | rfl | (simp only [List.length_drop, List.length_take]; rfl)) ?_; (with_reducible refine (spec_CronName.calls k2 a0 x7_2 t136 _ A10.out).mono ?_); rintro e w' ⟨rfl, ⟨nd, rfl⟩⟩; refine ⟨_, rfl, ?_⟩) | ((with_reducible refine gate_callee (f := 190) rfl ?_); refine goesL_ (some 27) rfl rfl Tryz.func190 (by kernel_rfl) rfl #[.string t136, .string a1] rfl (by (try simp only [List.map_toArray, List.map_cons, List.map_nil]); first | done | rfl | (simp only [List.length_drop, List.length_take]; rfl)) ?_; (with_reducible refine (spec_cronSame.calls k2 t136 a1 false _ A11.out).mono ?_); rintro e w' ⟨rfl, ⟨nd, rfl⟩⟩; refine ⟨_, rfl, ?_⟩))
         go_roundg k2
         case measure => have := HJ2.out; have := HK2.out; omega
         case rel => exact ⟨(wrap64 (x7_2 + 1)), (by first | rfl | (simp; done) | (simp [*]; done)), H', ⟨by have := HJ2.out; have := HK2.out; omega⟩, ⟨by repeat (first | (with_reducible first | exact HB.out | apply below_alloc | apply pw_below_drewN | apply below_drew1) | exact HB.out)⟩⟩
       ·rw [if_neg c9] at H;have c9b0 : decide (x7_2 ≤ t135) = false := decide_eq_false c9;clear c9
        (first | rw [c9b0] | (simp only [i64_w, i32_w]; rw [c9b0]) | skip)
        have H' := Aside0.mk H;clear H;go_wp2_with (first | ((with_reducible refine gate_callee (f := 61) rfl ?_); refine goesL_ (some 19) rfl rfl Tryz.func61 (by kernel_rfl) rfl #[.int .i64 a0] rfl (by (try simp only [List.map_toArray, List.map_cons, List.map_nil]); first | done | rfl | (simp only [List.length_drop, List.length_take]; rfl)) ?_; (with_reducible refine (spec_CronHigh.calls a0 t135 _ A8.out).mono ?_); rintro e w' ⟨rfl, ⟨nd, rfl⟩⟩; refine ⟨_, rfl, ?_⟩))
        go_meet
        case rel => exact ⟨_, H', ⟨by have := HJ2.out; have := HK2.out; first | omega | exact Nat.le_refl _⟩, ⟨by repeat (first | (with_reducible first | exact HB.out | apply below_alloc | apply pw_below_drewN | apply below_drew1) | exact HB.out)⟩⟩
    ·replace c6 := Bool.eq_false_iff.mpr c6;subst c6;have H1 : (spec_CronValue.j2 kj2 a1 false) = some (r1, r2) := by rw [if_neg (show ¬ (false = true) by decide)] at H; exact H
     clear H;have H := H1;clear H1;have H' := Aside0.mk H;clear H;go_wp2
     go_meet
     case rel => exact ⟨_, H', ⟨by have := HJ2.out; first | omega | exact Nat.le_refl _⟩, ⟨by repeat (first | (with_reducible first | exact HB.out | apply below_alloc | apply pw_below_drewN | apply below_drew1) | exact HB.out)⟩⟩
   case rest =>
    clear HC5;try clear c1
    try clear p2
    try clear c4
    try clear c4b0
    try clear c4b1
    try clear c6
    try clear p6
    try clear c9
    try clear c9b0
    try clear c12
    try clear p2
    obtain ⟨kq, HA, HJ4, HB⟩ := hcut;cases kq with
    | zero => exact absurd HA.out (by simp [spec_CronValue.j2])
    | succ kj4 =>
     have H := HA.out;clear HA;simp only [spec_CronValue.j2] at H;by_cases c13 : x6_2 = true
     ·subst c13;have H1 : ((spec_cronForeign.f kj4 a1).bind fun t138 => (if t138 = true then (some (0, 2)) else ((spec_CronNumber.f kj4 a1).bind fun bt139 => (some (bt139.1, bt139.2))))) = some (r1, r2) := by rw [if_pos rfl] at H; exact H
      clear H;have H := H1;clear H1;replace H := Option.bind_eq_some_iff.mp H;obtain ⟨t138, A140, H⟩ := H;replace H : (if t138 = true then (some (0, 2)) else ((spec_CronNumber.f kj4 a1).bind fun bt139 => (some (bt139.1, bt139.2)))) = some (r1, r2) := H;have A14 := Aside0.mk A140;clear A140;by_cases c15 : t138 = true
      ·subst c15;have H1 : (some (0, 2)) = some (r1, r2) := by rw [if_pos rfl] at H; exact H
       clear H;have H := H1;clear H1;simp only [Option.some.injEq, Prod.mk.injEq] at H;obtain ⟨rfl, rfl⟩ := H;go_wp2_with (first | (go_at_call 92; (with_reducible refine (spec_cronForeign.calls kj4 a1 true _ A14.out).mono ?_); rintro e w' ⟨rfl, ⟨nd, rfl⟩⟩))
       go_ret2;exact ⟨by first | rfl | (simp [errW_none, errW_some] <;> rfl) | (simp [*, errW_none, errW_some] <;> rfl), by repeat (first | (with_reducible first | exact HB.out | apply below_alloc | apply pw_below_drewN | apply below_drew1) | exact HB.out)⟩
      ·replace c15 := Bool.eq_false_iff.mpr c15;subst c15;have H1 : ((spec_CronNumber.f kj4 a1).bind fun bt139 => (some (bt139.1, bt139.2))) = some (r1, r2) := by rw [if_neg (show ¬ (false = true) by decide)] at H; exact H
       clear H;have H := H1;clear H1;replace H := Option.bind_eq_some_iff.mp H;obtain ⟨⟨t139, t140⟩, A160, H⟩ := H;replace H : (some (t139, t140)) = some (r1, r2) := H;have A16 := Aside0.mk A160;clear A160;simp only [Option.some.injEq, Prod.mk.injEq] at H;obtain ⟨rfl, rfl⟩ := H;go_wp2_with (first | (go_at_call 92; (with_reducible refine (spec_cronForeign.calls kj4 a1 false _ A14.out).mono ?_); rintro e w' ⟨rfl, ⟨nd, rfl⟩⟩) | ((with_reducible refine gate_callee (f := 157) rfl ?_); refine goesL_ (some 35) rfl rfl Tryz.func157 (by kernel_rfl) rfl #[.string a1] rfl (by (try simp only [List.map_toArray, List.map_cons, List.map_nil]); first | done | rfl | (simp only [List.length_drop, List.length_take]; rfl)) ?_; (with_reducible refine (spec_CronNumber.calls kj4 a1 t139 t140 _ A16.out).mono ?_); rintro e w17 ⟨rfl, hb⟩; refine ⟨_, rfl, ?_⟩; have n0_ := Aside0.mk (below_step (by repeat (first | (with_reducible first | exact HB.out | apply below_alloc | apply pw_below_drewN | apply below_drew1) | exact HB.out)) hb); clear HB; have HB := n0_; clear n0_; (try clear hb); (try clear hb2); (try clear hk); (try clear hi)))
       go_ret2;exact ⟨by first | rfl | (simp [errW_none, errW_some] <;> rfl) | (simp [*, errW_none, errW_some] <;> rfl), by repeat (first | (with_reducible first | exact HB.out | apply below_alloc | apply pw_below_drewN | apply below_drew1) | exact HB.out)⟩
     ·replace c13 := Bool.eq_false_iff.mpr c13;subst c13;have H1 : ((spec_CronNumber.f kj4 a1).bind fun bt141 => (some (bt141.1, bt141.2))) = some (r1, r2) := by rw [if_neg (show ¬ (false = true) by decide)] at H; exact H
      clear H;have H := H1;clear H1;replace H := Option.bind_eq_some_iff.mp H;obtain ⟨⟨t141, t142⟩, A180, H⟩ := H;replace H : (some (t141, t142)) = some (r1, r2) := H;have A18 := Aside0.mk A180;clear A180;simp only [Option.some.injEq, Prod.mk.injEq] at H;obtain ⟨rfl, rfl⟩ := H;go_wp2_with (first | ((with_reducible refine gate_callee (f := 157) rfl ?_); refine goesL_ (some 35) rfl rfl Tryz.func157 (by kernel_rfl) rfl #[.string a1] rfl (by (try simp only [List.map_toArray, List.map_cons, List.map_nil]); first | done | rfl | (simp only [List.length_drop, List.length_take]; rfl)) ?_; (with_reducible refine (spec_CronNumber.calls kj4 a1 t141 t142 _ A18.out).mono ?_); rintro e w19 ⟨rfl, hb⟩; refine ⟨_, rfl, ?_⟩; have n0_ := Aside0.mk (below_step (by repeat (first | (with_reducible first | exact HB.out | apply below_alloc | apply pw_below_drewN | apply below_drew1) | exact HB.out)) hb); clear HB; have HB := n0_; clear n0_; (try clear hb); (try clear hb2); (try clear hk); (try clear hi)))
      go_ret2;exact ⟨by first | rfl | (simp [errW_none, errW_some] <;> rfl) | (simp [*, errW_none, errW_some] <;> rfl), by repeat (first | (with_reducible first | exact HB.out | apply below_alloc | apply pw_below_drewN | apply below_drew1) | exact HB.out)⟩
def spec_cronEnds.j0 : Nat → List ByteArray → Bool → Int → Int → Int → Option (Int × Int × Bool × Bool × Int)
 | 0, _, _, _, _, _ => none
 | k + 1, x9, x23, x144000, x144001, x144002 => if x23 = true then (if (x9.length : Int) > 1 then (some (x144000, x144001, true, ((x9.length : Int) == 1), 2)) else (if 0 < (x9.length : Int) then (if (rdOf ByteArray.empty x9 0).toList = ([63] : List UInt8) then (if x144002 = 3 then (some (x144000, x144001, true, ((x9.length : Int) == 1), 1)) else (if x144002 = 5 then (some (x144000, x144001, true, ((x9.length : Int) == 1), 1)) else (some (x144000, x144001, true, ((x9.length : Int) == 1), 2)))) else (some (x144000, x144001, true, ((x9.length : Int) == 1), 1))) else (none))) else (if 0 < (x9.length : Int) then ((spec_CronValue.f k x144002 (rdOf ByteArray.empty x9 0)).bind fun bt151 => (if (x9.length : Int) = 1 then (some (bt151.1, bt151.1, false, true, bt151.2)) else (if (x9.length : Int) = 2 then (if 1 < (x9.length : Int) then ((spec_CronValue.f k x144002 (rdOf ByteArray.empty x9 1)).bind fun bt154 => ((spec_worse.f bt151.2 bt154.2).bind fun t156 => (some (bt151.1, bt154.1, false, false, t156)))) else (none)) else (some (0, 0, false, false, 0))))) else (none))
def spec_cronEnds.f (k : Nat) (a0_0 : Int) (a0_1 : Int) (a0_2 : Int) (a1 : ByteArray) : Option (Int × Int × Bool × Bool × Int) := (spec_cronPieces.f k a1 45).bind fun t144 => (if 0 < (t144.length : Int) then (if (rdOf ByteArray.empty t144 0).toList = ([42] : List UInt8) then (spec_cronEnds.j0 k t144 true a0_0 a0_1 a0_2) else (spec_cronEnds.j0 k t144 ((rdOf ByteArray.empty t144 0).toList == ([63] : List UInt8)) a0_0 a0_1 a0_2)) else (none))
theorem spec_cronEnds.mono_l : ∀ k, (∀ y0 y1 y2 y3 y4, LeO (spec_cronEnds.j0 k y0 y1 y2 y3 y4) (spec_cronEnds.j0 (k + 1) y0 y1 y2 y3 y4))
 | 0 => fun _ _ _ _ _ r h => by simp [spec_cronEnds.j0] at h
 | k + 1 => by
  have ih0 := spec_cronEnds.mono_l k
  ·intro y0 y1 y2 y3 y4;unfold spec_cronEnds.j0;repeat' first
   | (with_reducible exact ih0 _ _ _ _ _)
   | (with_reducible exact spec_CronValue.mono _ _ _)
   | (with_reducible exact spec_cronPieces.mono _ _ _)
   | (with_reducible exact LeO.refl _)
   | (with_reducible exact LeO.none _)
   | (with_reducible refine LeO.ite ?_ ?_)
   | (with_reducible refine LeO.bind ?_ (fun _ => ?_))
   | exact ih0 _ _ _ _ _
   | exact spec_CronValue.mono _ _ _
   | exact spec_cronPieces.mono _ _ _
   | exact LeO.none _
   | refine LeO.ite ?_ ?_
   | refine LeO.bind ?_ (fun _ => ?_)
theorem spec_cronEnds.mono : ∀ a0 a1 a2 a3 k, LeO (spec_cronEnds.f k a0 a1 a2 a3) (spec_cronEnds.f (k + 1) a0 a1 a2 a3) := by
 intro a0 a1 a2 a3 k;have ih0 := spec_cronEnds.mono_l k;unfold spec_cronEnds.f
 repeat' first
  | (with_reducible exact ih0 _ _ _ _ _)
  | (with_reducible exact spec_CronValue.mono _ _ _)
  | (with_reducible exact spec_cronPieces.mono _ _ _)
  | (with_reducible exact LeO.refl _)
  | (with_reducible exact LeO.none _)
  | (with_reducible refine LeO.ite ?_ ?_)
  | (with_reducible refine LeO.bind ?_ (fun _ => ?_))
  | exact ih0 _ _ _ _ _
  | exact spec_CronValue.mono _ _ _
  | exact spec_cronPieces.mono _ _ _
  | exact LeO.none _
  | refine LeO.ite ?_ ?_
  | refine LeO.bind ?_ (fun _ => ?_)
def spec_cronEnds.T6 : Bool × List (List Nat × List Nat) := (true, [([], []), ([0], [0]), ([], []), ([2], [2]), ([], []), ([4], [4]), ([5], [5]), ([], []), ([1, 0, 1], [1]), ([3, 8, 0, 1, 2, 3, 8], [3]), ([9, 0, 1, 2, 3, 8, 9], []), ([6, 10, 0, 1, 2, 3, 4, 5, 6, 8, 9, 10], [6]), ([7, 11, 0, 1, 2, 3, 4, 5, 6, 7, 8, 9, 10, 11], [7])])
def spec_cronEnds.B6 : List Nat := [0, 1, 0, 4, 0, 16, 48, 0, 3, 271, 783, 1919, 4095]
theorem spec_cronEnds.tab6 : rtab .any (opsOf Tryz.f120 6) = spec_cronEnds.T6 := by kernel_rfl
theorem spec_cronEnds.bits6 : waitsOk spec_cronEnds.T6.2 spec_cronEnds.B6 = true := by kernel_rfl
def spec_cronEnds.T7 : Bool × List (List Nat × List Nat) := (true, [([], []), ([0], [0]), ([], []), ([2], [2]), ([3], [3]), ([1, 4], [1, 4]), ([5], [5]), ([6], [6]), ([6], [6]), ([7, 5, 0, 1, 2, 3, 4, 5, 6, 7], [7]), ([8, 9, 0, 1, 2, 3, 4, 5, 6, 7, 8, 9], [8])])
def spec_cronEnds.B7 : List Nat := [0, 1, 0, 4, 12, 31, 63, 127, 127, 255, 1023]
theorem spec_cronEnds.tab7 : rtab .any (opsOf Tryz.f120 7) = spec_cronEnds.T7 := by kernel_rfl
theorem spec_cronEnds.bits7 : waitsOk spec_cronEnds.T7.2 spec_cronEnds.B7 = true := by kernel_rfl
def spec_cronEnds.T12 : Bool × List (List Nat × List Nat) := (true, [([], []), ([0], [0]), ([], []), ([2], [2]), ([3], [3]), ([1, 4], [1, 4]), ([5], [5]), ([6], [6]), ([6], [6]), ([7, 5, 0, 1, 2, 3, 4, 5, 6, 7], [7]), ([8, 9, 0, 1, 2, 3, 4, 5, 6, 7, 8, 9], [8])])
def spec_cronEnds.B12 : List Nat := [0, 1, 0, 4, 12, 31, 63, 127, 127, 255, 1023]
theorem spec_cronEnds.tab12 : rtab .any (opsOf Tryz.f120 12) = spec_cronEnds.T12 := by kernel_rfl
theorem spec_cronEnds.bits12 : waitsOk spec_cronEnds.T12.2 spec_cronEnds.B12 = true := by kernel_rfl
set_option maxHeartbeats 8000000 in
set_option maxRecDepth 100000 in
theorem spec_cronEnds.calls (k : Nat) (a0_0 : Int) (a0_1 : Int) (a0_2 : Int) (a1 : ByteArray) (r1 : Int) (r2 : Int) (r3 : Bool) (r4 : Bool) (r5 : Int) (w : World) (h : spec_cronEnds.f k a0_0 a0_1 a0_2 a1 = some (r1, r2, r3, r4, r5)) :
  Calls Tryz.prog 120 #[.agg #[.int .i64 a0_0, .int .i64 a0_1, .int .i64 a0_2], .string a1] w fun e w' => e = .returned (.tuple #[.int .i64 r1, .int .i64 r2, .bool r3, .bool r4, .int .i64 r5]) ∧ Below w.heap.size w w' := by
 have hu60 := Tryz.underlying60;have HB := Aside0.mk (Below.refl w.heap.size w);have H : ((spec_cronPieces.f k a1 45).bind fun t144 => (if 0 < (t144.length : Int) then (if (rdOf ByteArray.empty t144 0).toList = ([42] : List UInt8) then (spec_cronEnds.j0 k t144 true a0_0 a0_1 a0_2) else (spec_cronEnds.j0 k t144 ((rdOf ByteArray.empty t144 0).toList == ([63] : List UInt8)) a0_0 a0_1 a0_2)) else (none))) = some (r1, r2, r3, r4, r5) := h;clear h;replace H := Option.bind_eq_some_iff.mp H;obtain ⟨t144, A30, H⟩ := H;replace H : (if 0 < (t144.length : Int) then (if (rdOf ByteArray.empty t144 0).toList = ([42] : List UInt8) then (spec_cronEnds.j0 k t144 true a0_0 a0_1 a0_2) else (spec_cronEnds.j0 k t144 ((rdOf ByteArray.empty t144 0).toList == ([63] : List UInt8)) a0_0 a0_1 a0_2)) else (none)) = some (r1, r2, r3, r4, r5) := H;have A3 := Aside0.mk A30;clear A30;have HC4 := Aside0.mk H;clear H;go_enter Tryz.func120, Tryz.ntmps120;go_upto_region 2 with (first | ((with_reducible refine gate_dst (N := 2) rfl ?_); refine box_event ?hg (N := 2) ?hd (cs := #[.int .i64 a0_0, .int .i64 a0_1, .int .i64 a0_2]) (t := 60) ?hr ?_; (case hd => rfl); (case hg => rfl); (case hr => first | (go_simp; done) | (go_simp; rfl)); intro gb143 hg w5 hbox hb; have n0_ := Aside0.mk (below_step (by repeat (first | (with_reducible first | exact HB.out | apply below_alloc | apply pw_below_drewN | apply below_drew1) | exact HB.out)) hb); have n1_ := Aside0.mk (hbox); have n2_ := Aside0.mk ((by rw [hg]; exact (below_size (by repeat (first | (with_reducible first | exact HB.out | apply below_alloc | apply pw_below_drewN | apply below_drew1) | exact HB.out))) : w.heap.size ≤ gb143)); have n3_ := Aside0.mk ((by rw [hg]; exact (below_size (by repeat (first | (with_reducible first | exact HB.out | apply below_alloc | apply pw_below_drewN | apply below_drew1) | exact HB.out))) : w.heap.size ≤ gb143)); clear HB; have HB := n0_; have BK143 := n1_; have GW143 := n2_; have GE143 := n3_; clear n0_ n1_ n2_ n3_; clear hb hbox hg) | ((with_reducible refine gate_callee (f := 56) rfl ?_); refine goesL_ (some 13) rfl rfl Tryz.func56 (by kernel_rfl) rfl #[.string a1, .int .u8 45] rfl (by (try simp only [List.map_toArray, List.map_cons, List.map_nil]); first | done | rfl | (simp only [List.length_drop, List.length_take]; rfl)) ?_; (with_reducible refine (spec_cronPieces.calls k a1 45 t144 _ A3.out).mono ?_); rintro e w6 ⟨v145, rfl, ho0, hb⟩; refine ⟨_, rfl, ?_⟩; have n0_ := Aside0.mk (Kd.R_lower ho0 (below_size (by repeat (first | (with_reducible first | exact HB.out | apply below_alloc | apply pw_below_drewN | apply below_drew1 | refine below_set ?_ GE143.out) | exact HB.out)))); have n1_ := Aside0.mk (blk_below (g := gb143) (o := .cells #[.int .i64 a0_0, .int .i64 a0_1, .int .i64 a0_2] 60 (0, 0)) (by (with_reducible repeat (first | refine blk_drewN ?_ _ | refine blk_drew ?_ | refine blk_alloc ?_ _)); exact BK143.out) hb); have n2_ := Aside0.mk (below_step (by repeat (first | (with_reducible first | exact HB.out | apply below_alloc | apply pw_below_drewN | apply below_drew1 | refine below_set ?_ GE143.out) | exact HB.out)) hb); clear BK143; clear HB; have HO146 := n0_; have BK143 := n1_; have HB := n2_; clear n0_ n1_ n2_; (try clear hb); (try clear hb2); (try clear hk); (try clear hi); (try clear ho0)))
 (try simp only [Act.put, List.setIfInBounds_toArray, List.set_cons_zero, List.set_cons_succ])
 go_cut [23] (fun v23 wc => ∃ (kq : Nat) (x23_3 : Bool), v23 = .bool x23_3 ∧ Aside0 (spec_cronEnds.j0 kq t144 x23_3 a0_0 a0_1 a0_2 = some (r1, r2, r3, r4, r5)) ∧ Aside0 (kq ≤ k) ∧ Aside0 (Kd.R Kd.string 9 wc w.heap.size (fun _ => True) v145 t144) ∧ Aside0 (wc.heap[gb143]? = some (.cells #[.int .i64 a0_0, .int .i64 a0_1, .int .i64 a0_2] 60 (0, 0))) ∧ Aside0 (Below w.heap.size w wc))
 case first =>
  have H := HC4.out;clear HC4;by_cases c7 : 0 < (t144.length : Int)
  ·rw [if_pos c7] at H;have c7b0 : decide (0 < (t144.length : Int)) = true := decide_eq_true c7;have c7b1 : decide (0 < t144.length) = true := decide_eq_true (by omega);clear c7
   (first | rw [c7b0] | (simp only [i64_w, i32_w]; rw [c7b0]) | skip)
   by_cases c8 : (rdOf ByteArray.empty t144 0).toList = ([42] : List UInt8)
   ·rw [if_pos c8] at H;have c8b0 : ((rdOf ByteArray.empty t144 0).toList == ([42] : List UInt8)) = true := beq_iff_eq.mpr c8;have c8b1 : ((rdOf ByteArray.empty t144 0).toList != ([42] : List UInt8)) = false := bne_eq_false_iff_eq.mpr c8;clear c8;have H' := Aside0.mk H;clear H;obtain ⟨Ao9, co9, eo9⟩ := Kd.R_slice HO146.out;subst eo9;have p147 : 0 ≤ (0 : Int) := (by omega)
    have q147 : 0 < (t144.length : Int) := of_decide_eq_true (by first | (with_reducible assumption) | assumption);obtain ⟨ad147, e147, hx147_0⟩ := Kd.at_string (Kd.R_reads' HO146.out).2.2 0 p147 q147;cases e147
    have qi147 : (0 < t144.length) = True := eq_true (by omega)
    (try rw [show ((0 : Int)).toNat = 0 from rfl] at hx147_0)
    (try rw [Addr.add_zero'] at hx147_0)
    replace p147 := eq_true p147;replace q147 := eq_true q147;go_wp2
    go_meet
    case rel => exact ⟨_, (true), (by first | rfl | (simp; done) | (simp [*]; done)), H', ⟨by first | omega | exact Nat.le_refl _⟩, ⟨by (with_reducible repeat (first | apply Kd.R_alloc | apply Kd.R_drewN | apply Kd.R_drew)); exact HO146.out⟩, ⟨by (with_reducible repeat (first | refine blk_drewN ?_ _ | refine blk_drew ?_ | refine blk_alloc ?_ _)); exact BK143.out⟩, ⟨by repeat (first | (with_reducible first | exact HB.out | apply below_alloc | apply pw_below_drewN | apply below_drew1 | refine below_set ?_ GE143.out) | exact HB.out)⟩⟩
   ·rw [if_neg c8] at H;have c8b0 : ((rdOf ByteArray.empty t144 0).toList == ([42] : List UInt8)) = false := beq_eq_false_iff_ne.mpr c8;have c8b1 : ((rdOf ByteArray.empty t144 0).toList != ([42] : List UInt8)) = true := bne_iff_ne.mpr c8;have H' := Aside0.mk H;clear H;obtain ⟨Ao10, co10, eo10⟩ := Kd.R_slice HO146.out;subst eo10;have p147 : 0 ≤ (0 : Int) := (by omega)
    have q147 : 0 < (t144.length : Int) := of_decide_eq_true (by first | (with_reducible assumption) | assumption);obtain ⟨ad147, e147, hx147_0⟩ := Kd.at_string (Kd.R_reads' HO146.out).2.2 0 p147 q147;cases e147
    have qi147 : (0 < t144.length) = True := eq_true (by omega)
    (try rw [show ((0 : Int)).toNat = 0 from rfl] at hx147_0)
    (try rw [Addr.add_zero'] at hx147_0)
    replace p147 := eq_true p147;replace q147 := eq_true q147;have p148 : 0 ≤ (0 : Int) := (by omega)
    have q148 : 0 < (t144.length : Int) := of_decide_eq_true (by first | (with_reducible assumption) | assumption);obtain ⟨ad148, e148, hx148_0⟩ := Kd.at_string (Kd.R_reads' HO146.out).2.2 0 p148 q148;obtain rfl : ad147 = ad148 := (by injection e148)
    have qi148 : (0 < t144.length) = True := eq_true (by omega)
    (try rw [show ((0 : Int)).toNat = 0 from rfl] at hx148_0)
    (try rw [Addr.add_zero'] at hx148_0)
    replace p148 := eq_true p148;replace q148 := eq_true q148;go_wp2
    go_meet
    case rel => exact ⟨_, (((rdOf ByteArray.empty t144 0).toList == ([63] : List UInt8))), (by first | rfl | (simp; done) | (simp [*]; done)), H', ⟨by first | omega | exact Nat.le_refl _⟩, ⟨by (with_reducible repeat (first | apply Kd.R_alloc | apply Kd.R_drewN | apply Kd.R_drew)); exact HO146.out⟩, ⟨by (with_reducible repeat (first | refine blk_drewN ?_ _ | refine blk_drew ?_ | refine blk_alloc ?_ _)); exact BK143.out⟩, ⟨by repeat (first | (with_reducible first | exact HB.out | apply below_alloc | apply pw_below_drewN | apply below_drew1 | refine below_set ?_ GE143.out) | exact HB.out)⟩⟩
  ·rw [if_neg c7] at H;exact absurd H (by simp)
 case rest =>
  clear HC4;try clear c1
  try clear p1
  try clear q1
  try clear hx1
  try clear qi1
  try clear p2
  try clear c5
  try clear c7
  try clear c7b0
  try clear c7b1
  try clear c8
  try clear c8b0
  try clear c8b1
  try clear hx147_0
  try clear hx148_0
  try clear p147
  try clear p148
  try clear q147
  try clear q148
  obtain ⟨kq, x23_3, rfl, HA, HJ3, HO_9, BK143, HB⟩ := hcut;cases kq with
  | zero => exact absurd HA.out (by simp [spec_cronEnds.j0])
  | succ kj3 =>
   have H := HA.out;clear HA;simp only [spec_cronEnds.j0] at H;by_cases c11 : x23_3 = true
   ·subst c11;have H1 : (if (t144.length : Int) > 1 then (some (a0_0, a0_1, true, ((t144.length : Int) == 1), 2)) else (if 0 < (t144.length : Int) then (if (rdOf ByteArray.empty t144 0).toList = ([63] : List UInt8) then (if a0_2 = 3 then (some (a0_0, a0_1, true, ((t144.length : Int) == 1), 1)) else (if a0_2 = 5 then (some (a0_0, a0_1, true, ((t144.length : Int) == 1), 1)) else (some (a0_0, a0_1, true, ((t144.length : Int) == 1), 2)))) else (some (a0_0, a0_1, true, ((t144.length : Int) == 1), 1))) else (none))) = some (r1, r2, r3, r4, r5) := by rw [if_pos rfl] at H; exact H
    clear H;have H := H1;clear H1;by_cases c12 : (t144.length : Int) > 1
    ·rw [if_pos c12] at H;have c12b0 : decide (1 < (t144.length : Int)) = true := decide_eq_true c12;have c12b1 : decide (1 < t144.length) = true := decide_eq_true (by omega);clear c12;simp only [Option.some.injEq, Prod.mk.injEq] at H;obtain ⟨rfl, rfl, rfl, rfl, rfl⟩ := H;obtain ⟨Ao13, co13, eo13⟩ := Kd.R_slice HO_9.out;subst eo13;try go_wp2
     have n0_ := Aside0.mk (Kd.R_drew HO_9.out);have n1_ := Aside0.mk (blk_drew BK143.out);have n2_ := Aside0.mk (below_drew1 HB.out);clear HO_9;clear BK143;clear HB;have HO_9 := n0_;have BK143 := n1_;have HB := n2_;clear n0_ n1_ n2_;refine start_ (n := 13) (S := fun w' => w'.cell? ⟨gb143, 0, none⟩ = some (.int .i64 a0_0) ∧ w'.cell? ⟨gb143, 1, none⟩ = some (.int .i64 a0_1) ∧ w'.cell? ⟨gb143, 2, none⟩ = some (.int .i64 a0_2)) (ds := []) #[nn, nn, nn, nn, nn, nn, nn, nn, nn, nn, nn, nn, nn] (by kernel_rfl) rfl rfl ⟨(blk_cell BK143.out 0).trans rfl, (blk_cell BK143.out 1).trans rfl, (blk_cell BK143.out 2).trans rfl⟩ (fun hHeld => ?_); refine with_tabW spec_cronEnds.tab6 spec_cronEnds.bits6 (fun HT_ HW_ => ?_);generalize wc.drew = w14 at HO_9 BK143 HB hHeld ⊢
     refine pure_ (i := 0) (N := some 43) (v := ?_) (a' := ?_) #[yy, nn, nn, nn, nn, nn, nn, nn, nn, nn, nn, nn, nn] rfl rfl (any_of HT_.out (by kernel_rfl)) (fun _ _ _ h => h) (Or.inl ⟨by rfl, ?_⟩) ?_ ?_;rotate_left
     ·intro w';go_simp;with_reducible rfl
     rotate_left
     ·simp only [nrm];rfl
     refine pure_ (i := 2) (N := some 45) (v := ?_) (a' := ?_) #[yy, nn, yy, nn, nn, nn, nn, nn, nn, nn, nn, nn, nn] rfl rfl (any_of HT_.out (by kernel_rfl)) (fun _ _ _ h => h) (Or.inl ⟨by rfl, ?_⟩) ?_ ?_;rotate_left
     ·intro w';go_simp;with_reducible rfl
     rotate_left
     ·simp only [nrm];rfl
     refine pure_ (i := 4) (N := some 47) (v := ?_) (a' := ?_) #[yy, nn, yy, nn, yy, nn, nn, nn, nn, nn, nn, nn, nn] rfl rfl (any_of HT_.out (by kernel_rfl)) (fun _ _ _ h => h) (Or.inl ⟨by rfl, ?_⟩) ?_ ?_;rotate_left
     ·intro w';go_simp;with_reducible rfl
     rotate_left
     ·simp only [nrm];rfl
     refine pure_ (i := 5) (N := some 48) (v := ?_) (a' := ?_) #[yy, nn, yy, nn, yy, yy, nn, nn, nn, nn, nn, nn, nn] rfl rfl (any_of HT_.out (by kernel_rfl)) (fun _ _ _ h => h) (Or.inl ⟨by rfl, ?_⟩) ?_ ?_;rotate_left
     ·intro w';go_simp;with_reducible rfl
     rotate_left
     ·simp only [nrm];rfl
     refine pure_ (i := 6) (N := some 49) (v := ?_) (a' := ?_) #[yy, nn, yy, nn, yy, yy, yy, nn, nn, nn, nn, nn, nn] rfl rfl (any_of HT_.out (by kernel_rfl)) (fun _ _ _ h => h) (Or.inl ⟨by rfl, ?_⟩) ?_ ?_;rotate_left
     ·intro w';go_simp;with_reducible rfl
     rotate_left
     ·simp only [nrm];rfl
     refine pure_ (i := 7) (N := some 50) (v := ?_) (a' := ?_) #[yy, nn, yy, nn, yy, yy, yy, yy, nn, nn, nn, nn, nn] rfl rfl (any_of HT_.out (by kernel_rfl)) (fun _ _ _ h => h) (Or.inl ⟨by rfl, ?_⟩) ?_ ?_;rotate_left
     ·intro w';go_simp;with_reducible rfl
     rotate_left
     ·simp only [nrm];rfl
     refine take_ (i := 1) (N := some 44) (v := ?_) (a' := ?_) #[yy, yy, yy, nn, yy, yy, yy, yy, nn, nn, nn, nn, nn] rfl rfl (take_ofW HT_.out HW_.out (by kernel_rfl)) (fun _ _ _ h => h) (Or.inl ⟨by rfl, ?_⟩) hHeld ?_ ?_;rotate_left
     ·rintro w' ⟨s0, s1, s2⟩;go_simp;with_reducible rfl
     rotate_left
     ·simp only [nrm];rfl
     refine pure_ (i := 8) (N := some 4) (v := ?_) (a' := ?_) #[yy, yy, yy, nn, yy, yy, yy, yy, yy, nn, nn, nn, nn] rfl rfl (any_of HT_.out (by kernel_rfl)) (fun _ _ _ h => h) (Or.inl ⟨by rfl, ?_⟩) ?_ ?_;rotate_left
     ·intro w';go_simp;with_reducible rfl
     rotate_left
     ·simp only [nrm];rfl
     refine take_ (i := 3) (N := some 46) (v := ?_) (a' := ?_) #[yy, yy, yy, yy, yy, yy, yy, yy, yy, nn, nn, nn, nn] rfl rfl (take_ofW HT_.out HW_.out (by kernel_rfl)) (fun _ _ _ h => h) (Or.inl ⟨by rfl, ?_⟩) hHeld ?_ ?_;rotate_left
     ·rintro w' ⟨s0, s1, s2⟩;go_simp;with_reducible rfl
     rotate_left
     ·simp only [nrm];rfl
     refine pure_ (i := 9) (N := some 5) (v := ?_) (a' := ?_) #[yy, yy, yy, yy, yy, yy, yy, yy, yy, yy, nn, nn, nn] rfl rfl (any_of HT_.out (by kernel_rfl)) (fun _ _ _ h => h) (Or.inl ⟨by rfl, ?_⟩) ?_ ?_;rotate_left
     ·intro w';go_simp;with_reducible rfl
     rotate_left
     ·simp only [nrm];rfl
     refine pure_ (i := 10) (N := some 6) (v := ?_) (a' := ?_) #[yy, yy, yy, yy, yy, yy, yy, yy, yy, yy, yy, nn, nn] rfl rfl (any_of HT_.out (by kernel_rfl)) (fun _ _ _ h => h) (Or.inl ⟨by rfl, ?_⟩) ?_ ?_;rotate_left
     ·intro w';go_simp;with_reducible rfl
     rotate_left
     ·simp only [nrm];rfl
     refine pure_ (i := 11) (N := some 7) (v := ?_) (a' := ?_) #[yy, yy, yy, yy, yy, yy, yy, yy, yy, yy, yy, yy, nn] rfl rfl (any_of HT_.out (by kernel_rfl)) (fun _ _ _ h => h) (Or.inl ⟨by rfl, ?_⟩) ?_ ?_;rotate_left
     ·intro w';go_simp;with_reducible rfl
     rotate_left
     ·simp only [nrm];rfl
     refine pure_ (i := 12) (N := some 8) (v := ?_) (a' := ?_) #[yy, yy, yy, yy, yy, yy, yy, yy, yy, yy, yy, yy, yy] rfl rfl (any_of HT_.out (by kernel_rfl)) (fun _ _ _ h => h) (Or.inl ⟨by rfl, ?_⟩) ?_ ?_;rotate_left
     ·intro w';go_simp;with_reducible rfl
     rotate_left
     ·simp only [nrm];rfl
     refine done_ (done_of HT_.out (by kernel_rfl)) ?_;try go_wp2
     refine bodyPost_ret (results_list (rs := [.tmp 4, .tmp 5, .tmp 6, .tmp 7, .tmp 8]) rfl (by simp) (.tmp (.tmp (.tmp (.tmp (.tmp .nil)))))) rfl ?_;exact ⟨by first | rfl | (simp [errW_none, errW_some] <;> rfl) | (simp [*, errW_none, errW_some] <;> rfl), by repeat (first | (with_reducible first | exact HB.out | apply below_alloc | apply pw_below_drewN | apply below_drew1 | refine below_set ?_ GE143.out) | exact HB.out)⟩
    ·rw [if_neg c12] at H;have c12b0 : decide (1 < (t144.length : Int)) = false := decide_eq_false c12;have c12b1 : decide (1 < t144.length) = false := decide_eq_false (by omega);clear c12;by_cases c15 : 0 < (t144.length : Int)
     ·rw [if_pos c15] at H;have c15b0 : decide (0 < (t144.length : Int)) = true := decide_eq_true c15;have c15b1 : decide (0 < t144.length) = true := decide_eq_true (by omega);clear c15;by_cases c16 : (rdOf ByteArray.empty t144 0).toList = ([63] : List UInt8)
      ·rw [if_pos c16] at H;have c16b0 : ((rdOf ByteArray.empty t144 0).toList == ([63] : List UInt8)) = true := beq_iff_eq.mpr c16;have c16b1 : ((rdOf ByteArray.empty t144 0).toList != ([63] : List UInt8)) = false := bne_eq_false_iff_eq.mpr c16;clear c16;by_cases c17 : a0_2 = 3
       ·rw [if_pos c17] at H;have c17b0 : (a0_2 == 3) = true := beq_iff_eq.mpr c17;have c17b1 : (a0_2 != 3) = false := bne_eq_false_iff_eq.mpr c17;clear c17;simp only [Option.some.injEq, Prod.mk.injEq] at H;obtain ⟨rfl, rfl, rfl, rfl, rfl⟩ := H;obtain ⟨Ao18, co18, eo18⟩ := Kd.R_slice HO_9.out;subst eo18;have p149 : 0 ≤ (0 : Int) := (by omega)
        have q149 : 0 < (t144.length : Int) := of_decide_eq_true (by first | (with_reducible assumption) | assumption);obtain ⟨ad149, e149, hx149_0⟩ := Kd.at_string (Kd.R_reads' HO_9.out).2.2 0 p149 q149;cases e149
        have qi149 : (0 < t144.length) = True := eq_true (by omega)
        (try rw [show ((0 : Int)).toNat = 0 from rfl] at hx149_0)
        (try rw [Addr.add_zero'] at hx149_0)
        replace p149 := eq_true p149;replace q149 := eq_true q149;have hcz19_0 : wc.cell? ⟨gb143, 0, none⟩ = some (.int .i64 a0_0) := (blk_cell BK143.out 0).trans rfl;have hcz19_1 : wc.cell? ⟨gb143, 1, none⟩ = some (.int .i64 a0_1) := (blk_cell BK143.out 1).trans rfl;have hcz19_2 : wc.cell? ⟨gb143, 2, none⟩ = some (.int .i64 a0_2) := (blk_cell BK143.out 2).trans rfl;have hfz19_0 := blk_frozen BK143.out 0;have hfz19_1 := blk_frozen BK143.out 1;have hfz19_2 := blk_frozen BK143.out 2;try go_wp2
        have n0_ := Aside0.mk (Kd.R_drew HO_9.out);have n1_ := Aside0.mk (blk_drew BK143.out);have n2_ := Aside0.mk (below_drew1 HB.out);clear HO_9;clear BK143;clear HB;have HO_9 := n0_;have BK143 := n1_;have HB := n2_;clear n0_ n1_ n2_;refine start_ (n := 13) (S := fun w' => w'.cell? ⟨gb143, 0, none⟩ = some (.int .i64 a0_0) ∧ w'.cell? ⟨gb143, 1, none⟩ = some (.int .i64 a0_1) ∧ w'.cell? ⟨gb143, 2, none⟩ = some (.int .i64 a0_2)) (ds := []) #[nn, nn, nn, nn, nn, nn, nn, nn, nn, nn, nn, nn, nn] (by kernel_rfl) rfl rfl ⟨(blk_cell BK143.out 0).trans rfl, (blk_cell BK143.out 1).trans rfl, (blk_cell BK143.out 2).trans rfl⟩ (fun hHeld => ?_); refine with_tabW spec_cronEnds.tab6 spec_cronEnds.bits6 (fun HT_ HW_ => ?_);generalize wc.drew = w20 at HO_9 BK143 HB hHeld ⊢
        refine pure_ (i := 0) (N := some 43) (v := ?_) (a' := ?_) #[yy, nn, nn, nn, nn, nn, nn, nn, nn, nn, nn, nn, nn] rfl rfl (any_of HT_.out (by kernel_rfl)) (fun _ _ _ h => h) (Or.inl ⟨by rfl, ?_⟩) ?_ ?_;rotate_left
        ·intro w';go_simp;with_reducible rfl
        rotate_left
        ·simp only [nrm];rfl
        refine pure_ (i := 2) (N := some 45) (v := ?_) (a' := ?_) #[yy, nn, yy, nn, nn, nn, nn, nn, nn, nn, nn, nn, nn] rfl rfl (any_of HT_.out (by kernel_rfl)) (fun _ _ _ h => h) (Or.inl ⟨by rfl, ?_⟩) ?_ ?_;rotate_left
        ·intro w';go_simp;with_reducible rfl
        rotate_left
        ·simp only [nrm];rfl
        refine pure_ (i := 4) (N := some 47) (v := ?_) (a' := ?_) #[yy, nn, yy, nn, yy, nn, nn, nn, nn, nn, nn, nn, nn] rfl rfl (any_of HT_.out (by kernel_rfl)) (fun _ _ _ h => h) (Or.inl ⟨by rfl, ?_⟩) ?_ ?_;rotate_left
        ·intro w';go_simp;with_reducible rfl
        rotate_left
        ·simp only [nrm];rfl
        refine pure_ (i := 5) (N := some 48) (v := ?_) (a' := ?_) #[yy, nn, yy, nn, yy, yy, nn, nn, nn, nn, nn, nn, nn] rfl rfl (any_of HT_.out (by kernel_rfl)) (fun _ _ _ h => h) (Or.inl ⟨by rfl, ?_⟩) ?_ ?_;rotate_left
        ·intro w';go_simp;with_reducible rfl
        rotate_left
        ·simp only [nrm];rfl
        refine pure_ (i := 6) (N := some 49) (v := ?_) (a' := ?_) #[yy, nn, yy, nn, yy, yy, yy, nn, nn, nn, nn, nn, nn] rfl rfl (any_of HT_.out (by kernel_rfl)) (fun _ _ _ h => h) (Or.inl ⟨by rfl, ?_⟩) ?_ ?_;rotate_left
        ·intro w';go_simp;with_reducible rfl
        rotate_left
        ·simp only [nrm];rfl
        refine pure_ (i := 7) (N := some 50) (v := ?_) (a' := ?_) #[yy, nn, yy, nn, yy, yy, yy, yy, nn, nn, nn, nn, nn] rfl rfl (any_of HT_.out (by kernel_rfl)) (fun _ _ _ h => h) (Or.inl ⟨by rfl, ?_⟩) ?_ ?_;rotate_left
        ·intro w';go_simp;with_reducible rfl
        rotate_left
        ·simp only [nrm];rfl
        refine take_ (i := 1) (N := some 44) (v := ?_) (a' := ?_) #[yy, yy, yy, nn, yy, yy, yy, yy, nn, nn, nn, nn, nn] rfl rfl (take_ofW HT_.out HW_.out (by kernel_rfl)) (fun _ _ _ h => h) (Or.inl ⟨by rfl, ?_⟩) hHeld ?_ ?_;rotate_left
        ·rintro w' ⟨s0, s1, s2⟩;go_simp;with_reducible rfl
        rotate_left
        ·simp only [nrm];rfl
        refine pure_ (i := 8) (N := some 4) (v := ?_) (a' := ?_) #[yy, yy, yy, nn, yy, yy, yy, yy, yy, nn, nn, nn, nn] rfl rfl (any_of HT_.out (by kernel_rfl)) (fun _ _ _ h => h) (Or.inl ⟨by rfl, ?_⟩) ?_ ?_;rotate_left
        ·intro w';go_simp;with_reducible rfl
        rotate_left
        ·simp only [nrm];rfl
        refine take_ (i := 3) (N := some 46) (v := ?_) (a' := ?_) #[yy, yy, yy, yy, yy, yy, yy, yy, yy, nn, nn, nn, nn] rfl rfl (take_ofW HT_.out HW_.out (by kernel_rfl)) (fun _ _ _ h => h) (Or.inl ⟨by rfl, ?_⟩) hHeld ?_ ?_;rotate_left
        ·rintro w' ⟨s0, s1, s2⟩;go_simp;with_reducible rfl
        rotate_left
        ·simp only [nrm];rfl
        refine pure_ (i := 9) (N := some 5) (v := ?_) (a' := ?_) #[yy, yy, yy, yy, yy, yy, yy, yy, yy, yy, nn, nn, nn] rfl rfl (any_of HT_.out (by kernel_rfl)) (fun _ _ _ h => h) (Or.inl ⟨by rfl, ?_⟩) ?_ ?_;rotate_left
        ·intro w';go_simp;with_reducible rfl
        rotate_left
        ·simp only [nrm];rfl
        refine pure_ (i := 10) (N := some 6) (v := ?_) (a' := ?_) #[yy, yy, yy, yy, yy, yy, yy, yy, yy, yy, yy, nn, nn] rfl rfl (any_of HT_.out (by kernel_rfl)) (fun _ _ _ h => h) (Or.inl ⟨by rfl, ?_⟩) ?_ ?_;rotate_left
        ·intro w';go_simp;with_reducible rfl
        rotate_left
        ·simp only [nrm];rfl
        refine pure_ (i := 11) (N := some 7) (v := ?_) (a' := ?_) #[yy, yy, yy, yy, yy, yy, yy, yy, yy, yy, yy, yy, nn] rfl rfl (any_of HT_.out (by kernel_rfl)) (fun _ _ _ h => h) (Or.inl ⟨by rfl, ?_⟩) ?_ ?_;rotate_left
        ·intro w';go_simp;with_reducible rfl
        rotate_left
        ·simp only [nrm];rfl
        refine pure_ (i := 12) (N := some 8) (v := ?_) (a' := ?_) #[yy, yy, yy, yy, yy, yy, yy, yy, yy, yy, yy, yy, yy] rfl rfl (any_of HT_.out (by kernel_rfl)) (fun _ _ _ h => h) (Or.inl ⟨by rfl, ?_⟩) ?_ ?_;rotate_left
        ·intro w';go_simp;with_reducible rfl
        rotate_left
        ·simp only [nrm];rfl
        refine done_ (done_of HT_.out (by kernel_rfl)) ?_;try go_wp2
        refine bodyPost_ret (results_list (rs := [.tmp 4, .tmp 5, .tmp 6, .tmp 7, .tmp 8]) rfl (by simp) (.tmp (.tmp (.tmp (.tmp (.tmp .nil)))))) rfl ?_;exact ⟨by first | rfl | (simp [errW_none, errW_some] <;> rfl) | (simp [*, errW_none, errW_some] <;> rfl), by repeat (first | (with_reducible first | exact HB.out | apply below_alloc | apply pw_below_drewN | apply below_drew1 | refine below_set ?_ GE143.out) | exact HB.out)⟩
       ·rw [if_neg c17] at H;have c17b0 : (a0_2 == 3) = false := beq_eq_false_iff_ne.mpr c17;have c17b1 : (a0_2 != 3) = true := bne_iff_ne.mpr c17;by_cases c21 : a0_2 = 5
        ·rw [if_pos c21] at H;have c21b0 : (a0_2 == 5) = true := beq_iff_eq.mpr c21;have c21b1 : (a0_2 != 5) = false := bne_eq_false_iff_eq.mpr c21;clear c21;simp only [Option.some.injEq, Prod.mk.injEq] at H;obtain ⟨rfl, rfl, rfl, rfl, rfl⟩ := H;obtain ⟨Ao22, co22, eo22⟩ := Kd.R_slice HO_9.out;subst eo22;have p149 : 0 ≤ (0 : Int) := (by omega)
         have q149 : 0 < (t144.length : Int) := of_decide_eq_true (by first | (with_reducible assumption) | assumption);obtain ⟨ad149, e149, hx149_0⟩ := Kd.at_string (Kd.R_reads' HO_9.out).2.2 0 p149 q149;cases e149
         have qi149 : (0 < t144.length) = True := eq_true (by omega)
         (try rw [show ((0 : Int)).toNat = 0 from rfl] at hx149_0)
         (try rw [Addr.add_zero'] at hx149_0)
         replace p149 := eq_true p149;replace q149 := eq_true q149;have hcz23_0 : wc.cell? ⟨gb143, 0, none⟩ = some (.int .i64 a0_0) := (blk_cell BK143.out 0).trans rfl;have hcz23_1 : wc.cell? ⟨gb143, 1, none⟩ = some (.int .i64 a0_1) := (blk_cell BK143.out 1).trans rfl;have hcz23_2 : wc.cell? ⟨gb143, 2, none⟩ = some (.int .i64 a0_2) := (blk_cell BK143.out 2).trans rfl;have hfz23_0 := blk_frozen BK143.out 0;have hfz23_1 := blk_frozen BK143.out 1;have hfz23_2 := blk_frozen BK143.out 2;try go_wp2
         have n0_ := Aside0.mk (Kd.R_drew HO_9.out);have n1_ := Aside0.mk (blk_drew BK143.out);have n2_ := Aside0.mk (below_drew1 HB.out);clear HO_9;clear BK143;clear HB;have HO_9 := n0_;have BK143 := n1_;have HB := n2_;clear n0_ n1_ n2_;refine start_ (n := 13) (S := fun w' => w'.cell? ⟨gb143, 0, none⟩ = some (.int .i64 a0_0) ∧ w'.cell? ⟨gb143, 1, none⟩ = some (.int .i64 a0_1) ∧ w'.cell? ⟨gb143, 2, none⟩ = some (.int .i64 a0_2)) (ds := []) #[nn, nn, nn, nn, nn, nn, nn, nn, nn, nn, nn, nn, nn] (by kernel_rfl) rfl rfl ⟨(blk_cell BK143.out 0).trans rfl, (blk_cell BK143.out 1).trans rfl, (blk_cell BK143.out 2).trans rfl⟩ (fun hHeld => ?_); refine with_tabW spec_cronEnds.tab6 spec_cronEnds.bits6 (fun HT_ HW_ => ?_);generalize wc.drew = w24 at HO_9 BK143 HB hHeld ⊢
         refine pure_ (i := 0) (N := some 43) (v := ?_) (a' := ?_) #[yy, nn, nn, nn, nn, nn, nn, nn, nn, nn, nn, nn, nn] rfl rfl (any_of HT_.out (by kernel_rfl)) (fun _ _ _ h => h) (Or.inl ⟨by rfl, ?_⟩) ?_ ?_;rotate_left
         ·intro w';go_simp;with_reducible rfl
         rotate_left
         ·simp only [nrm];rfl
         refine pure_ (i := 2) (N := some 45) (v := ?_) (a' := ?_) #[yy, nn, yy, nn, nn, nn, nn, nn, nn, nn, nn, nn, nn] rfl rfl (any_of HT_.out (by kernel_rfl)) (fun _ _ _ h => h) (Or.inl ⟨by rfl, ?_⟩) ?_ ?_;rotate_left
         ·intro w';go_simp;with_reducible rfl
         rotate_left
         ·simp only [nrm];rfl
         refine pure_ (i := 4) (N := some 47) (v := ?_) (a' := ?_) #[yy, nn, yy, nn, yy, nn, nn, nn, nn, nn, nn, nn, nn] rfl rfl (any_of HT_.out (by kernel_rfl)) (fun _ _ _ h => h) (Or.inl ⟨by rfl, ?_⟩) ?_ ?_;rotate_left
         ·intro w';go_simp;with_reducible rfl
         rotate_left
         ·simp only [nrm];rfl
         refine pure_ (i := 5) (N := some 48) (v := ?_) (a' := ?_) #[yy, nn, yy, nn, yy, yy, nn, nn, nn, nn, nn, nn, nn] rfl rfl (any_of HT_.out (by kernel_rfl)) (fun _ _ _ h => h) (Or.inl ⟨by rfl, ?_⟩) ?_ ?_;rotate_left
         ·intro w';go_simp;with_reducible rfl
         rotate_left
         ·simp only [nrm];rfl
         refine pure_ (i := 6) (N := some 49) (v := ?_) (a' := ?_) #[yy, nn, yy, nn, yy, yy, yy, nn, nn, nn, nn, nn, nn] rfl rfl (any_of HT_.out (by kernel_rfl)) (fun _ _ _ h => h) (Or.inl ⟨by rfl, ?_⟩) ?_ ?_;rotate_left
         ·intro w';go_simp;with_reducible rfl
         rotate_left
         ·simp only [nrm];rfl
         refine pure_ (i := 7) (N := some 50) (v := ?_) (a' := ?_) #[yy, nn, yy, nn, yy, yy, yy, yy, nn, nn, nn, nn, nn] rfl rfl (any_of HT_.out (by kernel_rfl)) (fun _ _ _ h => h) (Or.inl ⟨by rfl, ?_⟩) ?_ ?_;rotate_left
         ·intro w';go_simp;with_reducible rfl
         rotate_left
         ·simp only [nrm];rfl
         refine take_ (i := 1) (N := some 44) (v := ?_) (a' := ?_) #[yy, yy, yy, nn, yy, yy, yy, yy, nn, nn, nn, nn, nn] rfl rfl (take_ofW HT_.out HW_.out (by kernel_rfl)) (fun _ _ _ h => h) (Or.inl ⟨by rfl, ?_⟩) hHeld ?_ ?_;rotate_left
         ·rintro w' ⟨s0, s1, s2⟩;go_simp;with_reducible rfl
         rotate_left
         ·simp only [nrm];rfl
         refine pure_ (i := 8) (N := some 4) (v := ?_) (a' := ?_) #[yy, yy, yy, nn, yy, yy, yy, yy, yy, nn, nn, nn, nn] rfl rfl (any_of HT_.out (by kernel_rfl)) (fun _ _ _ h => h) (Or.inl ⟨by rfl, ?_⟩) ?_ ?_;rotate_left
         ·intro w';go_simp;with_reducible rfl
         rotate_left
         ·simp only [nrm];rfl
         refine take_ (i := 3) (N := some 46) (v := ?_) (a' := ?_) #[yy, yy, yy, yy, yy, yy, yy, yy, yy, nn, nn, nn, nn] rfl rfl (take_ofW HT_.out HW_.out (by kernel_rfl)) (fun _ _ _ h => h) (Or.inl ⟨by rfl, ?_⟩) hHeld ?_ ?_;rotate_left
         ·rintro w' ⟨s0, s1, s2⟩;go_simp;with_reducible rfl
         rotate_left
         ·simp only [nrm];rfl
         refine pure_ (i := 9) (N := some 5) (v := ?_) (a' := ?_) #[yy, yy, yy, yy, yy, yy, yy, yy, yy, yy, nn, nn, nn] rfl rfl (any_of HT_.out (by kernel_rfl)) (fun _ _ _ h => h) (Or.inl ⟨by rfl, ?_⟩) ?_ ?_;rotate_left
         ·intro w';go_simp;with_reducible rfl
         rotate_left
         ·simp only [nrm];rfl
         refine pure_ (i := 10) (N := some 6) (v := ?_) (a' := ?_) #[yy, yy, yy, yy, yy, yy, yy, yy, yy, yy, yy, nn, nn] rfl rfl (any_of HT_.out (by kernel_rfl)) (fun _ _ _ h => h) (Or.inl ⟨by rfl, ?_⟩) ?_ ?_;rotate_left
         ·intro w';go_simp;with_reducible rfl
         rotate_left
         ·simp only [nrm];rfl
         refine pure_ (i := 11) (N := some 7) (v := ?_) (a' := ?_) #[yy, yy, yy, yy, yy, yy, yy, yy, yy, yy, yy, yy, nn] rfl rfl (any_of HT_.out (by kernel_rfl)) (fun _ _ _ h => h) (Or.inl ⟨by rfl, ?_⟩) ?_ ?_;rotate_left
         ·intro w';go_simp;with_reducible rfl
         rotate_left
         ·simp only [nrm];rfl
         refine pure_ (i := 12) (N := some 8) (v := ?_) (a' := ?_) #[yy, yy, yy, yy, yy, yy, yy, yy, yy, yy, yy, yy, yy] rfl rfl (any_of HT_.out (by kernel_rfl)) (fun _ _ _ h => h) (Or.inl ⟨by rfl, ?_⟩) ?_ ?_;rotate_left
         ·intro w';go_simp;with_reducible rfl
         rotate_left
         ·simp only [nrm];rfl
         refine done_ (done_of HT_.out (by kernel_rfl)) ?_;try go_wp2
         refine bodyPost_ret (results_list (rs := [.tmp 4, .tmp 5, .tmp 6, .tmp 7, .tmp 8]) rfl (by simp) (.tmp (.tmp (.tmp (.tmp (.tmp .nil)))))) rfl ?_;exact ⟨by first | rfl | (simp [errW_none, errW_some] <;> rfl) | (simp [*, errW_none, errW_some] <;> rfl), by repeat (first | (with_reducible first | exact HB.out | apply below_alloc | apply pw_below_drewN | apply below_drew1 | refine below_set ?_ GE143.out) | exact HB.out)⟩
        ·rw [if_neg c21] at H;have c21b0 : (a0_2 == 5) = false := beq_eq_false_iff_ne.mpr c21;have c21b1 : (a0_2 != 5) = true := bne_iff_ne.mpr c21;simp only [Option.some.injEq, Prod.mk.injEq] at H;obtain ⟨rfl, rfl, rfl, rfl, rfl⟩ := H;obtain ⟨Ao25, co25, eo25⟩ := Kd.R_slice HO_9.out;subst eo25;have p149 : 0 ≤ (0 : Int) := (by omega)
         have q149 : 0 < (t144.length : Int) := of_decide_eq_true (by first | (with_reducible assumption) | assumption);obtain ⟨ad149, e149, hx149_0⟩ := Kd.at_string (Kd.R_reads' HO_9.out).2.2 0 p149 q149;cases e149
         have qi149 : (0 < t144.length) = True := eq_true (by omega)
         (try rw [show ((0 : Int)).toNat = 0 from rfl] at hx149_0)
         (try rw [Addr.add_zero'] at hx149_0)
         replace p149 := eq_true p149;replace q149 := eq_true q149;have hcz26_0 : wc.cell? ⟨gb143, 0, none⟩ = some (.int .i64 a0_0) := (blk_cell BK143.out 0).trans rfl;have hcz26_1 : wc.cell? ⟨gb143, 1, none⟩ = some (.int .i64 a0_1) := (blk_cell BK143.out 1).trans rfl;have hcz26_2 : wc.cell? ⟨gb143, 2, none⟩ = some (.int .i64 a0_2) := (blk_cell BK143.out 2).trans rfl;have hfz26_0 := blk_frozen BK143.out 0;have hfz26_1 := blk_frozen BK143.out 1;have hfz26_2 := blk_frozen BK143.out 2;try go_wp2
         have n0_ := Aside0.mk (Kd.R_drew HO_9.out);have n1_ := Aside0.mk (blk_drew BK143.out);have n2_ := Aside0.mk (below_drew1 HB.out);clear HO_9;clear BK143;clear HB;have HO_9 := n0_;have BK143 := n1_;have HB := n2_;clear n0_ n1_ n2_;refine start_ (n := 13) (S := fun w' => w'.cell? ⟨gb143, 0, none⟩ = some (.int .i64 a0_0) ∧ w'.cell? ⟨gb143, 1, none⟩ = some (.int .i64 a0_1) ∧ w'.cell? ⟨gb143, 2, none⟩ = some (.int .i64 a0_2)) (ds := []) #[nn, nn, nn, nn, nn, nn, nn, nn, nn, nn, nn, nn, nn] (by kernel_rfl) rfl rfl ⟨(blk_cell BK143.out 0).trans rfl, (blk_cell BK143.out 1).trans rfl, (blk_cell BK143.out 2).trans rfl⟩ (fun hHeld => ?_); refine with_tabW spec_cronEnds.tab6 spec_cronEnds.bits6 (fun HT_ HW_ => ?_);generalize wc.drew = w27 at HO_9 BK143 HB hHeld ⊢
         refine pure_ (i := 0) (N := some 43) (v := ?_) (a' := ?_) #[yy, nn, nn, nn, nn, nn, nn, nn, nn, nn, nn, nn, nn] rfl rfl (any_of HT_.out (by kernel_rfl)) (fun _ _ _ h => h) (Or.inl ⟨by rfl, ?_⟩) ?_ ?_;rotate_left
         ·intro w';go_simp;with_reducible rfl
         rotate_left
         ·simp only [nrm];rfl
         refine pure_ (i := 2) (N := some 45) (v := ?_) (a' := ?_) #[yy, nn, yy, nn, nn, nn, nn, nn, nn, nn, nn, nn, nn] rfl rfl (any_of HT_.out (by kernel_rfl)) (fun _ _ _ h => h) (Or.inl ⟨by rfl, ?_⟩) ?_ ?_;rotate_left
         ·intro w';go_simp;with_reducible rfl
         rotate_left
         ·simp only [nrm];rfl
         refine pure_ (i := 4) (N := some 47) (v := ?_) (a' := ?_) #[yy, nn, yy, nn, yy, nn, nn, nn, nn, nn, nn, nn, nn] rfl rfl (any_of HT_.out (by kernel_rfl)) (fun _ _ _ h => h) (Or.inl ⟨by rfl, ?_⟩) ?_ ?_;rotate_left
         ·intro w';go_simp;with_reducible rfl
         rotate_left
         ·simp only [nrm];rfl
         refine pure_ (i := 5) (N := some 48) (v := ?_) (a' := ?_) #[yy, nn, yy, nn, yy, yy, nn, nn, nn, nn, nn, nn, nn] rfl rfl (any_of HT_.out (by kernel_rfl)) (fun _ _ _ h => h) (Or.inl ⟨by rfl, ?_⟩) ?_ ?_;rotate_left
         ·intro w';go_simp;with_reducible rfl
         rotate_left
         ·simp only [nrm];rfl
         refine pure_ (i := 6) (N := some 49) (v := ?_) (a' := ?_) #[yy, nn, yy, nn, yy, yy, yy, nn, nn, nn, nn, nn, nn] rfl rfl (any_of HT_.out (by kernel_rfl)) (fun _ _ _ h => h) (Or.inl ⟨by rfl, ?_⟩) ?_ ?_;rotate_left
         ·intro w';go_simp;with_reducible rfl
         rotate_left
         ·simp only [nrm];rfl
         refine pure_ (i := 7) (N := some 50) (v := ?_) (a' := ?_) #[yy, nn, yy, nn, yy, yy, yy, yy, nn, nn, nn, nn, nn] rfl rfl (any_of HT_.out (by kernel_rfl)) (fun _ _ _ h => h) (Or.inl ⟨by rfl, ?_⟩) ?_ ?_;rotate_left
         ·intro w';go_simp;with_reducible rfl
         rotate_left
         ·simp only [nrm];rfl
         refine take_ (i := 1) (N := some 44) (v := ?_) (a' := ?_) #[yy, yy, yy, nn, yy, yy, yy, yy, nn, nn, nn, nn, nn] rfl rfl (take_ofW HT_.out HW_.out (by kernel_rfl)) (fun _ _ _ h => h) (Or.inl ⟨by rfl, ?_⟩) hHeld ?_ ?_;rotate_left
         ·rintro w' ⟨s0, s1, s2⟩;go_simp;with_reducible rfl
         rotate_left
         ·simp only [nrm];rfl
         refine pure_ (i := 8) (N := some 4) (v := ?_) (a' := ?_) #[yy, yy, yy, nn, yy, yy, yy, yy, yy, nn, nn, nn, nn] rfl rfl (any_of HT_.out (by kernel_rfl)) (fun _ _ _ h => h) (Or.inl ⟨by rfl, ?_⟩) ?_ ?_;rotate_left
         ·intro w';go_simp;with_reducible rfl
         rotate_left
         ·simp only [nrm];rfl
         refine take_ (i := 3) (N := some 46) (v := ?_) (a' := ?_) #[yy, yy, yy, yy, yy, yy, yy, yy, yy, nn, nn, nn, nn] rfl rfl (take_ofW HT_.out HW_.out (by kernel_rfl)) (fun _ _ _ h => h) (Or.inl ⟨by rfl, ?_⟩) hHeld ?_ ?_;rotate_left
         ·rintro w' ⟨s0, s1, s2⟩;go_simp;with_reducible rfl
         rotate_left
         ·simp only [nrm];rfl
         refine pure_ (i := 9) (N := some 5) (v := ?_) (a' := ?_) #[yy, yy, yy, yy, yy, yy, yy, yy, yy, yy, nn, nn, nn] rfl rfl (any_of HT_.out (by kernel_rfl)) (fun _ _ _ h => h) (Or.inl ⟨by rfl, ?_⟩) ?_ ?_;rotate_left
         ·intro w';go_simp;with_reducible rfl
         rotate_left
         ·simp only [nrm];rfl
         refine pure_ (i := 10) (N := some 6) (v := ?_) (a' := ?_) #[yy, yy, yy, yy, yy, yy, yy, yy, yy, yy, yy, nn, nn] rfl rfl (any_of HT_.out (by kernel_rfl)) (fun _ _ _ h => h) (Or.inl ⟨by rfl, ?_⟩) ?_ ?_;rotate_left
         ·intro w';go_simp;with_reducible rfl
         rotate_left
         ·simp only [nrm];rfl
         refine pure_ (i := 11) (N := some 7) (v := ?_) (a' := ?_) #[yy, yy, yy, yy, yy, yy, yy, yy, yy, yy, yy, yy, nn] rfl rfl (any_of HT_.out (by kernel_rfl)) (fun _ _ _ h => h) (Or.inl ⟨by rfl, ?_⟩) ?_ ?_;rotate_left
         ·intro w';go_simp;with_reducible rfl
         rotate_left
         ·simp only [nrm];rfl
         refine pure_ (i := 12) (N := some 8) (v := ?_) (a' := ?_) #[yy, yy, yy, yy, yy, yy, yy, yy, yy, yy, yy, yy, yy] rfl rfl (any_of HT_.out (by kernel_rfl)) (fun _ _ _ h => h) (Or.inl ⟨by rfl, ?_⟩) ?_ ?_;rotate_left
         ·intro w';go_simp;with_reducible rfl
         rotate_left
         ·simp only [nrm];rfl
         refine done_ (done_of HT_.out (by kernel_rfl)) ?_;try go_wp2
         refine bodyPost_ret (results_list (rs := [.tmp 4, .tmp 5, .tmp 6, .tmp 7, .tmp 8]) rfl (by simp) (.tmp (.tmp (.tmp (.tmp (.tmp .nil)))))) rfl ?_;exact ⟨by first | rfl | (simp [errW_none, errW_some] <;> rfl) | (simp [*, errW_none, errW_some] <;> rfl), by repeat (first | (with_reducible first | exact HB.out | apply below_alloc | apply pw_below_drewN | apply below_drew1 | refine below_set ?_ GE143.out) | exact HB.out)⟩
      ·rw [if_neg c16] at H;have c16b0 : ((rdOf ByteArray.empty t144 0).toList == ([63] : List UInt8)) = false := beq_eq_false_iff_ne.mpr c16;have c16b1 : ((rdOf ByteArray.empty t144 0).toList != ([63] : List UInt8)) = true := bne_iff_ne.mpr c16;simp only [Option.some.injEq, Prod.mk.injEq] at H;obtain ⟨rfl, rfl, rfl, rfl, rfl⟩ := H;obtain ⟨Ao28, co28, eo28⟩ := Kd.R_slice HO_9.out;subst eo28;have p149 : 0 ≤ (0 : Int) := (by omega)
       have q149 : 0 < (t144.length : Int) := of_decide_eq_true (by first | (with_reducible assumption) | assumption);obtain ⟨ad149, e149, hx149_0⟩ := Kd.at_string (Kd.R_reads' HO_9.out).2.2 0 p149 q149;cases e149
       have qi149 : (0 < t144.length) = True := eq_true (by omega)
       (try rw [show ((0 : Int)).toNat = 0 from rfl] at hx149_0)
       (try rw [Addr.add_zero'] at hx149_0)
       replace p149 := eq_true p149;replace q149 := eq_true q149;try go_wp2
       have n0_ := Aside0.mk (Kd.R_drew HO_9.out);have n1_ := Aside0.mk (blk_drew BK143.out);have n2_ := Aside0.mk (below_drew1 HB.out);clear HO_9;clear BK143;clear HB;have HO_9 := n0_;have BK143 := n1_;have HB := n2_;clear n0_ n1_ n2_;refine start_ (n := 13) (S := fun w' => w'.cell? ⟨gb143, 0, none⟩ = some (.int .i64 a0_0) ∧ w'.cell? ⟨gb143, 1, none⟩ = some (.int .i64 a0_1) ∧ w'.cell? ⟨gb143, 2, none⟩ = some (.int .i64 a0_2)) (ds := []) #[nn, nn, nn, nn, nn, nn, nn, nn, nn, nn, nn, nn, nn] (by kernel_rfl) rfl rfl ⟨(blk_cell BK143.out 0).trans rfl, (blk_cell BK143.out 1).trans rfl, (blk_cell BK143.out 2).trans rfl⟩ (fun hHeld => ?_); refine with_tabW spec_cronEnds.tab6 spec_cronEnds.bits6 (fun HT_ HW_ => ?_);generalize wc.drew = w29 at HO_9 BK143 HB hHeld ⊢
       refine pure_ (i := 0) (N := some 43) (v := ?_) (a' := ?_) #[yy, nn, nn, nn, nn, nn, nn, nn, nn, nn, nn, nn, nn] rfl rfl (any_of HT_.out (by kernel_rfl)) (fun _ _ _ h => h) (Or.inl ⟨by rfl, ?_⟩) ?_ ?_;rotate_left
       ·intro w';go_simp;with_reducible rfl
       rotate_left
       ·simp only [nrm];rfl
       refine pure_ (i := 2) (N := some 45) (v := ?_) (a' := ?_) #[yy, nn, yy, nn, nn, nn, nn, nn, nn, nn, nn, nn, nn] rfl rfl (any_of HT_.out (by kernel_rfl)) (fun _ _ _ h => h) (Or.inl ⟨by rfl, ?_⟩) ?_ ?_;rotate_left
       ·intro w';go_simp;with_reducible rfl
       rotate_left
       ·simp only [nrm];rfl
       refine pure_ (i := 4) (N := some 47) (v := ?_) (a' := ?_) #[yy, nn, yy, nn, yy, nn, nn, nn, nn, nn, nn, nn, nn] rfl rfl (any_of HT_.out (by kernel_rfl)) (fun _ _ _ h => h) (Or.inl ⟨by rfl, ?_⟩) ?_ ?_;rotate_left
       ·intro w';go_simp;with_reducible rfl
       rotate_left
       ·simp only [nrm];rfl
       refine pure_ (i := 5) (N := some 48) (v := ?_) (a' := ?_) #[yy, nn, yy, nn, yy, yy, nn, nn, nn, nn, nn, nn, nn] rfl rfl (any_of HT_.out (by kernel_rfl)) (fun _ _ _ h => h) (Or.inl ⟨by rfl, ?_⟩) ?_ ?_;rotate_left
       ·intro w';go_simp;with_reducible rfl
       rotate_left
       ·simp only [nrm];rfl
       refine pure_ (i := 6) (N := some 49) (v := ?_) (a' := ?_) #[yy, nn, yy, nn, yy, yy, yy, nn, nn, nn, nn, nn, nn] rfl rfl (any_of HT_.out (by kernel_rfl)) (fun _ _ _ h => h) (Or.inl ⟨by rfl, ?_⟩) ?_ ?_;rotate_left
       ·intro w';go_simp;with_reducible rfl
       rotate_left
       ·simp only [nrm];rfl
       refine pure_ (i := 7) (N := some 50) (v := ?_) (a' := ?_) #[yy, nn, yy, nn, yy, yy, yy, yy, nn, nn, nn, nn, nn] rfl rfl (any_of HT_.out (by kernel_rfl)) (fun _ _ _ h => h) (Or.inl ⟨by rfl, ?_⟩) ?_ ?_;rotate_left
       ·intro w';go_simp;with_reducible rfl
       rotate_left
       ·simp only [nrm];rfl
       refine take_ (i := 1) (N := some 44) (v := ?_) (a' := ?_) #[yy, yy, yy, nn, yy, yy, yy, yy, nn, nn, nn, nn, nn] rfl rfl (take_ofW HT_.out HW_.out (by kernel_rfl)) (fun _ _ _ h => h) (Or.inl ⟨by rfl, ?_⟩) hHeld ?_ ?_;rotate_left
       ·rintro w' ⟨s0, s1, s2⟩;go_simp;with_reducible rfl
       rotate_left
       ·simp only [nrm];rfl
       refine pure_ (i := 8) (N := some 4) (v := ?_) (a' := ?_) #[yy, yy, yy, nn, yy, yy, yy, yy, yy, nn, nn, nn, nn] rfl rfl (any_of HT_.out (by kernel_rfl)) (fun _ _ _ h => h) (Or.inl ⟨by rfl, ?_⟩) ?_ ?_;rotate_left
       ·intro w';go_simp;with_reducible rfl
       rotate_left
       ·simp only [nrm];rfl
       refine take_ (i := 3) (N := some 46) (v := ?_) (a' := ?_) #[yy, yy, yy, yy, yy, yy, yy, yy, yy, nn, nn, nn, nn] rfl rfl (take_ofW HT_.out HW_.out (by kernel_rfl)) (fun _ _ _ h => h) (Or.inl ⟨by rfl, ?_⟩) hHeld ?_ ?_;rotate_left
       ·rintro w' ⟨s0, s1, s2⟩;go_simp;with_reducible rfl
       rotate_left
       ·simp only [nrm];rfl
       refine pure_ (i := 9) (N := some 5) (v := ?_) (a' := ?_) #[yy, yy, yy, yy, yy, yy, yy, yy, yy, yy, nn, nn, nn] rfl rfl (any_of HT_.out (by kernel_rfl)) (fun _ _ _ h => h) (Or.inl ⟨by rfl, ?_⟩) ?_ ?_;rotate_left
       ·intro w';go_simp;with_reducible rfl
       rotate_left
       ·simp only [nrm];rfl
       refine pure_ (i := 10) (N := some 6) (v := ?_) (a' := ?_) #[yy, yy, yy, yy, yy, yy, yy, yy, yy, yy, yy, nn, nn] rfl rfl (any_of HT_.out (by kernel_rfl)) (fun _ _ _ h => h) (Or.inl ⟨by rfl, ?_⟩) ?_ ?_;rotate_left
       ·intro w';go_simp;with_reducible rfl
       rotate_left
       ·simp only [nrm];rfl
       refine pure_ (i := 11) (N := some 7) (v := ?_) (a' := ?_) #[yy, yy, yy, yy, yy, yy, yy, yy, yy, yy, yy, yy, nn] rfl rfl (any_of HT_.out (by kernel_rfl)) (fun _ _ _ h => h) (Or.inl ⟨by rfl, ?_⟩) ?_ ?_;rotate_left
       ·intro w';go_simp;with_reducible rfl
       rotate_left
       ·simp only [nrm];rfl
       refine pure_ (i := 12) (N := some 8) (v := ?_) (a' := ?_) #[yy, yy, yy, yy, yy, yy, yy, yy, yy, yy, yy, yy, yy] rfl rfl (any_of HT_.out (by kernel_rfl)) (fun _ _ _ h => h) (Or.inl ⟨by rfl, ?_⟩) ?_ ?_;rotate_left
       ·intro w';go_simp;with_reducible rfl
       rotate_left
       ·simp only [nrm];rfl
       refine done_ (done_of HT_.out (by kernel_rfl)) ?_;try go_wp2
       refine bodyPost_ret (results_list (rs := [.tmp 4, .tmp 5, .tmp 6, .tmp 7, .tmp 8]) rfl (by simp) (.tmp (.tmp (.tmp (.tmp (.tmp .nil)))))) rfl ?_;exact ⟨by first | rfl | (simp [errW_none, errW_some] <;> rfl) | (simp [*, errW_none, errW_some] <;> rfl), by repeat (first | (with_reducible first | exact HB.out | apply below_alloc | apply pw_below_drewN | apply below_drew1 | refine below_set ?_ GE143.out) | exact HB.out)⟩
     ·rw [if_neg c15] at H;exact absurd H (by simp)
   ·replace c11 := Bool.eq_false_iff.mpr c11;subst c11;have H1 : (if 0 < (t144.length : Int) then ((spec_CronValue.f kj3 a0_2 (rdOf ByteArray.empty t144 0)).bind fun bt151 => (if (t144.length : Int) = 1 then (some (bt151.1, bt151.1, false, true, bt151.2)) else (if (t144.length : Int) = 2 then (if 1 < (t144.length : Int) then ((spec_CronValue.f kj3 a0_2 (rdOf ByteArray.empty t144 1)).bind fun bt154 => ((spec_worse.f bt151.2 bt154.2).bind fun t156 => (some (bt151.1, bt154.1, false, false, t156)))) else (none)) else (some (0, 0, false, false, 0))))) else (none)) = some (r1, r2, r3, r4, r5) := by rw [if_neg (show ¬ (false = true) by decide)] at H; exact H
    clear H;have H := H1;clear H1;by_cases c30 : 0 < (t144.length : Int)
    ·rw [if_pos c30] at H;have c30b0 : decide (0 < (t144.length : Int)) = true := decide_eq_true c30;have c30b1 : decide (0 < t144.length) = true := decide_eq_true (by omega);clear c30;replace H := Option.bind_eq_some_iff.mp H;obtain ⟨⟨t151, t152⟩, A310, H⟩ := H;replace H : (if (t144.length : Int) = 1 then (some (t151, t151, false, true, t152)) else (if (t144.length : Int) = 2 then (if 1 < (t144.length : Int) then ((spec_CronValue.f kj3 a0_2 (rdOf ByteArray.empty t144 1)).bind fun bt154 => ((spec_worse.f t152 bt154.2).bind fun t156 => (some (t151, bt154.1, false, false, t156)))) else (none)) else (some (0, 0, false, false, 0)))) = some (r1, r2, r3, r4, r5) := H;have A31 := Aside0.mk A310;clear A310;by_cases c32 : (t144.length : Int) = 1
     ·rw [if_pos c32] at H;have c32b0 : ((t144.length : Int) == 1) = true := beq_iff_eq.mpr c32;have c32b1 : ((t144.length : Int) != 1) = false := bne_eq_false_iff_eq.mpr c32;clear c32;simp only [Option.some.injEq, Prod.mk.injEq] at H;obtain ⟨rfl, rfl, rfl, rfl, rfl⟩ := H;try go_wp2
      have n0_ := Aside0.mk (Kd.R_drew HO_9.out);have n1_ := Aside0.mk (blk_drew BK143.out);have n2_ := Aside0.mk (below_drew1 HB.out);clear HO_9;clear BK143;clear HB;have HO_9 := n0_;have BK143 := n1_;have HB := n2_;clear n0_ n1_ n2_;obtain ⟨Ao34, co34, eo34⟩ := Kd.R_slice HO_9.out
      (first | subst eo34 | (injection eo34 with f1_ f2_ f3_; have f4_ := f1_.symm; have f5_ := f3_.symm; clear f1_ f2_ f3_; subst f4_; subst f5_))
      have p150 : 0 ≤ (0 : Int) := (by omega)
      have q150 : 0 < (t144.length : Int) := of_decide_eq_true (by first | (with_reducible assumption) | assumption);obtain ⟨ad150, e150, hx150_0⟩ := Kd.at_string (Kd.R_reads' HO_9.out).2.2 0 p150 q150;cases e150
      have qi150 : (0 < t144.length) = True := eq_true (by omega)
      (try rw [show ((0 : Int)).toNat = 0 from rfl] at hx150_0)
      (try rw [Addr.add_zero'] at hx150_0)
      replace p150 := eq_true p150;replace q150 := eq_true q150;refine start_ (n := 11) (S := fun w' => w'.cell? ⟨gb143, 0, none⟩ = some (.int .i64 a0_0) ∧ w'.cell? ⟨gb143, 1, none⟩ = some (.int .i64 a0_1) ∧ w'.cell? ⟨gb143, 2, none⟩ = some (.int .i64 a0_2) ∧ w'.cell? ad150 = some (.string (rdOf ByteArray.empty t144 0))) (ds := []) #[nn, nn, nn, nn, nn, nn, nn, nn, nn, nn, nn] (by kernel_rfl) rfl rfl ⟨(blk_cell BK143.out 0).trans rfl, (blk_cell BK143.out 1).trans rfl, (blk_cell BK143.out 2).trans rfl, hx150_0⟩ (fun hHeld => ?_); refine with_tabW spec_cronEnds.tab7 spec_cronEnds.bits7 (fun HT_ HW_ => ?_);generalize wc.drew = w33 at HO_9 BK143 HB hx150_0 hHeld ⊢
      refine pure_ (i := 0) (N := some 52) (v := ?_) (a' := ?_) #[yy, nn, nn, nn, nn, nn, nn, nn, nn, nn, nn] rfl rfl (any_of HT_.out (by kernel_rfl)) (fun _ _ _ h => h) (Or.inl ⟨by rfl, ?_⟩) ?_ ?_;rotate_left
      ·intro w';go_simp;with_reducible rfl
      rotate_left
      ·simp only [nrm];rfl
      refine pure_ (i := 2) (N := some 54) (v := ?_) (a' := ?_) #[yy, nn, yy, nn, nn, nn, nn, nn, nn, nn, nn] rfl rfl (any_of HT_.out (by kernel_rfl)) (fun _ _ _ h => h) (Or.inl ⟨by rfl, ?_⟩) ?_ ?_;rotate_left
      ·intro w';go_simp;with_reducible rfl
      rotate_left
      ·simp only [nrm];rfl
      refine pure_ (i := 3) (N := some 55) (v := ?_) (a' := ?_) #[yy, nn, yy, yy, nn, nn, nn, nn, nn, nn, nn] rfl rfl (any_of HT_.out (by kernel_rfl)) (fun _ _ _ h => h) (Or.inl ⟨by rfl, ?_⟩) ?_ ?_;rotate_left
      ·intro w';go_simp;with_reducible rfl
      rotate_left
      ·simp only [nrm];rfl
      refine take_ (i := 1) (N := some 53) (v := ?_) (a' := ?_) #[yy, yy, yy, yy, nn, nn, nn, nn, nn, nn, nn] rfl rfl (take_ofW HT_.out HW_.out (by kernel_rfl)) (fun _ _ _ h => h) (Or.inl ⟨by rfl, ?_⟩) hHeld ?_ ?_;rotate_left
      ·rintro w' ⟨s0, s1, s2, s3⟩;go_simp;with_reducible rfl
      rotate_left
      ·simp only [nrm];rfl
      refine take_ (i := 4) (N := some 56) (v := ?_) (a' := ?_) #[yy, yy, yy, yy, yy, nn, nn, nn, nn, nn, nn] rfl rfl (take_ofW HT_.out HW_.out (by kernel_rfl)) (fun _ _ _ h => h) (Or.inl ⟨by rfl, ?_⟩) hHeld ?_ ?_;rotate_left
      ·rintro w' ⟨s0, s1, s2, s3⟩;go_simp;with_reducible rfl
      rotate_left
      ·simp only [nrm];rfl
      refine one_ (i := 5) (N := some 57) #[yy, yy, yy, yy, yy, yy, nn, nn, nn, nn, nn] rfl rfl (one_of HT_.out (by kernel_rfl)) (by decide) (fun K hK => ?_);refine goes_ Tryz.func156 (by kernel_rfl) rfl #[.int .i64 a0_2, .string (rdOf ByteArray.empty t144 0)] (by rfl) rfl rfl (by (try simp only [List.map_toArray, List.map_cons, List.map_nil]); first | done | rfl | (simp only [List.length_drop, List.length_take]; rfl)) ?_;with_reducible refine (spec_CronValue.calls kj3 a0_2 (rdOf ByteArray.empty t144 0) t151 t152 _ A31.out).mono ?_
      rintro e w35 ⟨rfl, hb⟩;have HS3_ := (hb.cell (World.block_lt_of_cell? _ _ (hHeld.2.2.2))).trans (hHeld.2.2.2);refine ⟨_, rfl, ?_⟩;have n0_ := Aside0.mk (Kd.R_below (by (with_reducible repeat (first | apply Kd.R_alloc | apply Kd.R_drewN | apply Kd.R_drew)); exact HO_9.out) hb);have n1_ := Aside0.mk (blk_below (g := gb143) (o := .cells #[.int .i64 a0_0, .int .i64 a0_1, .int .i64 a0_2] 60 (0, 0)) (by (with_reducible repeat (first | refine blk_drewN ?_ _ | refine blk_drew ?_ | refine blk_alloc ?_ _)); exact BK143.out) hb);have n2_ := Aside0.mk (below_step (by repeat (first | (with_reducible first | exact HB.out | apply below_alloc | apply pw_below_drewN | apply below_drew1 | refine below_set ?_ GE143.out) | exact HB.out)) hb);clear HO_9;clear BK143;clear HB;have HO_9 := n0_;have BK143 := n1_;have HB := n2_;clear n0_ n1_ n2_
      (try clear hb)
      (try clear hb2)
      (try clear hk)
      (try clear hi)
      refine hK.out _ _ ⟨(blk_cell BK143.out 0).trans rfl, (blk_cell BK143.out 1).trans rfl, (blk_cell BK143.out 2).trans rfl, HS3_⟩ (fun hHeld => ?_);clear hK K;refine norm_ (a' := ?_) ?_ ?_;rotate_left
      ·show Act.put _ (some 57) _ = _
       simp only [nrm];rfl
      refine pure_ (i := 6) (N := some 51) (v := ?_) (a' := ?_) #[yy, yy, yy, yy, yy, yy, yy, nn, nn, nn, nn] rfl rfl (any_of HT_.out (by kernel_rfl)) (fun _ _ _ h => h) (Or.inl ⟨by rfl, ?_⟩) ?_ ?_;rotate_left
      ·intro w';go_simp;with_reducible rfl
      rotate_left
      ·simp only [nrm];rfl
      refine pure_ (i := 7) (N := some 58) (v := ?_) (a' := ?_) #[yy, yy, yy, yy, yy, yy, yy, yy, nn, nn, nn] rfl rfl (any_of HT_.out (by kernel_rfl)) (fun _ _ _ h => h) (Or.inl ⟨by rfl, ?_⟩) ?_ ?_;rotate_left
      ·intro w';go_simp;with_reducible rfl
      rotate_left
      ·simp only [nrm];rfl
      refine pure_ (i := 8) (N := some 59) (v := ?_) (a' := ?_) #[yy, yy, yy, yy, yy, yy, yy, yy, yy, nn, nn] rfl rfl (any_of HT_.out (by kernel_rfl)) (fun _ _ _ h => h) (Or.inl ⟨by rfl, ?_⟩) ?_ ?_;rotate_left
      ·intro w';go_simp;with_reducible rfl
      rotate_left
      ·simp only [nrm];rfl
      refine pure_ (i := 9) (N := some 4) (v := ?_) (a' := ?_) #[yy, yy, yy, yy, yy, yy, yy, yy, yy, yy, nn] rfl rfl (any_of HT_.out (by kernel_rfl)) (fun _ _ _ h => h) (Or.inl ⟨by rfl, ?_⟩) ?_ ?_;rotate_left
      ·intro w';go_simp;with_reducible rfl
      rotate_left
      ·simp only [nrm];rfl
      refine pure_ (i := 10) (N := some 8) (v := ?_) (a' := ?_) #[yy, yy, yy, yy, yy, yy, yy, yy, yy, yy, yy] rfl rfl (any_of HT_.out (by kernel_rfl)) (fun _ _ _ h => h) (Or.inl ⟨by rfl, ?_⟩) ?_ ?_;rotate_left
      ·intro w';go_simp;with_reducible rfl
      rotate_left
      ·simp only [nrm];rfl
      refine done_ (done_of HT_.out (by kernel_rfl)) ?_;try go_wp2
      refine bodyPost_ret (results_list (rs := [.tmp 4, .tmp 5, .tmp 6, .tmp 7, .tmp 8]) rfl (by simp) (.tmp (.tmp (.tmp (.tmp (.tmp .nil)))))) rfl ?_;exact ⟨by first | rfl | (simp [errW_none, errW_some] <;> rfl) | (simp [*, errW_none, errW_some] <;> rfl), by repeat (first | (with_reducible first | exact HB.out | apply below_alloc | apply pw_below_drewN | apply below_drew1 | refine below_set ?_ GE143.out) | exact HB.out)⟩
     ·rw [if_neg c32] at H;have c32b0 : ((t144.length : Int) == 1) = false := beq_eq_false_iff_ne.mpr c32;have c32b1 : ((t144.length : Int) != 1) = true := bne_iff_ne.mpr c32;by_cases c36 : (t144.length : Int) = 2
      ·rw [if_pos c36] at H;have c36b0 : ((t144.length : Int) == 2) = true := beq_iff_eq.mpr c36;have c36b1 : ((t144.length : Int) != 2) = false := bne_eq_false_iff_eq.mpr c36;clear c36;by_cases c37 : 1 < (t144.length : Int)
       ·rw [if_pos c37] at H;have c37b0 : decide (1 < (t144.length : Int)) = true := decide_eq_true c37;have c37b1 : decide (1 < t144.length) = true := decide_eq_true (by omega);clear c37;replace H := Option.bind_eq_some_iff.mp H;obtain ⟨⟨t154, t155⟩, A380, H⟩ := H;replace H : ((spec_worse.f t152 t155).bind fun t156 => (some (t151, t154, false, false, t156))) = some (r1, r2, r3, r4, r5) := H;have A38 := Aside0.mk A380;clear A380;replace H := Option.bind_eq_some_iff.mp H;obtain ⟨t156, A390, H⟩ := H;replace H : (some (t151, t154, false, false, t156)) = some (r1, r2, r3, r4, r5) := H;have A39 := Aside0.mk A390;clear A390;simp only [Option.some.injEq, Prod.mk.injEq] at H;obtain ⟨rfl, rfl, rfl, rfl, rfl⟩ := H;try go_wp2
        have n0_ := Aside0.mk (Kd.R_drew HO_9.out);have n1_ := Aside0.mk (blk_drew BK143.out);have n2_ := Aside0.mk (below_drew1 HB.out);clear HO_9;clear BK143;clear HB;have HO_9 := n0_;have BK143 := n1_;have HB := n2_;clear n0_ n1_ n2_;obtain ⟨Ao41, co41, eo41⟩ := Kd.R_slice HO_9.out
        (first | subst eo41 | (injection eo41 with f1_ f2_ f3_; have f4_ := f1_.symm; have f5_ := f3_.symm; clear f1_ f2_ f3_; subst f4_; subst f5_))
        have p150 : 0 ≤ (0 : Int) := (by omega)
        have q150 : 0 < (t144.length : Int) := of_decide_eq_true (by first | (with_reducible assumption) | assumption);obtain ⟨ad150, e150, hx150_0⟩ := Kd.at_string (Kd.R_reads' HO_9.out).2.2 0 p150 q150;cases e150
        have qi150 : (0 < t144.length) = True := eq_true (by omega)
        (try rw [show ((0 : Int)).toNat = 0 from rfl] at hx150_0)
        (try rw [Addr.add_zero'] at hx150_0)
        replace p150 := eq_true p150;replace q150 := eq_true q150;refine start_ (n := 11) (S := fun w' => w'.cell? ⟨gb143, 0, none⟩ = some (.int .i64 a0_0) ∧ w'.cell? ⟨gb143, 1, none⟩ = some (.int .i64 a0_1) ∧ w'.cell? ⟨gb143, 2, none⟩ = some (.int .i64 a0_2) ∧ w'.cell? ad150 = some (.string (rdOf ByteArray.empty t144 0))) (ds := []) #[nn, nn, nn, nn, nn, nn, nn, nn, nn, nn, nn] (by kernel_rfl) rfl rfl ⟨(blk_cell BK143.out 0).trans rfl, (blk_cell BK143.out 1).trans rfl, (blk_cell BK143.out 2).trans rfl, hx150_0⟩ (fun hHeld => ?_); refine with_tabW spec_cronEnds.tab7 spec_cronEnds.bits7 (fun HT_ HW_ => ?_);generalize wc.drew = w40 at HO_9 BK143 HB hx150_0 hHeld ⊢
        refine pure_ (i := 0) (N := some 52) (v := ?_) (a' := ?_) #[yy, nn, nn, nn, nn, nn, nn, nn, nn, nn, nn] rfl rfl (any_of HT_.out (by kernel_rfl)) (fun _ _ _ h => h) (Or.inl ⟨by rfl, ?_⟩) ?_ ?_;rotate_left
        ·intro w';go_simp;with_reducible rfl
        rotate_left
        ·simp only [nrm];rfl
        refine pure_ (i := 2) (N := some 54) (v := ?_) (a' := ?_) #[yy, nn, yy, nn, nn, nn, nn, nn, nn, nn, nn] rfl rfl (any_of HT_.out (by kernel_rfl)) (fun _ _ _ h => h) (Or.inl ⟨by rfl, ?_⟩) ?_ ?_;rotate_left
        ·intro w';go_simp;with_reducible rfl
        rotate_left
        ·simp only [nrm];rfl
        refine pure_ (i := 3) (N := some 55) (v := ?_) (a' := ?_) #[yy, nn, yy, yy, nn, nn, nn, nn, nn, nn, nn] rfl rfl (any_of HT_.out (by kernel_rfl)) (fun _ _ _ h => h) (Or.inl ⟨by rfl, ?_⟩) ?_ ?_;rotate_left
        ·intro w';go_simp;with_reducible rfl
        rotate_left
        ·simp only [nrm];rfl
        refine take_ (i := 1) (N := some 53) (v := ?_) (a' := ?_) #[yy, yy, yy, yy, nn, nn, nn, nn, nn, nn, nn] rfl rfl (take_ofW HT_.out HW_.out (by kernel_rfl)) (fun _ _ _ h => h) (Or.inl ⟨by rfl, ?_⟩) hHeld ?_ ?_;rotate_left
        ·rintro w' ⟨s0, s1, s2, s3⟩;go_simp;with_reducible rfl
        rotate_left
        ·simp only [nrm];rfl
        refine take_ (i := 4) (N := some 56) (v := ?_) (a' := ?_) #[yy, yy, yy, yy, yy, nn, nn, nn, nn, nn, nn] rfl rfl (take_ofW HT_.out HW_.out (by kernel_rfl)) (fun _ _ _ h => h) (Or.inl ⟨by rfl, ?_⟩) hHeld ?_ ?_;rotate_left
        ·rintro w' ⟨s0, s1, s2, s3⟩;go_simp;with_reducible rfl
        rotate_left
        ·simp only [nrm];rfl
        refine one_ (i := 5) (N := some 57) #[yy, yy, yy, yy, yy, yy, nn, nn, nn, nn, nn] rfl rfl (one_of HT_.out (by kernel_rfl)) (by decide) (fun K hK => ?_);refine goes_ Tryz.func156 (by kernel_rfl) rfl #[.int .i64 a0_2, .string (rdOf ByteArray.empty t144 0)] (by rfl) rfl rfl (by (try simp only [List.map_toArray, List.map_cons, List.map_nil]); first | done | rfl | (simp only [List.length_drop, List.length_take]; rfl)) ?_;with_reducible refine (spec_CronValue.calls kj3 a0_2 (rdOf ByteArray.empty t144 0) t151 t152 _ A31.out).mono ?_
        rintro e w42 ⟨rfl, hb⟩;have HS3_ := (hb.cell (World.block_lt_of_cell? _ _ (hHeld.2.2.2))).trans (hHeld.2.2.2);refine ⟨_, rfl, ?_⟩;have n0_ := Aside0.mk (Kd.R_below (by (with_reducible repeat (first | apply Kd.R_alloc | apply Kd.R_drewN | apply Kd.R_drew)); exact HO_9.out) hb);have n1_ := Aside0.mk (blk_below (g := gb143) (o := .cells #[.int .i64 a0_0, .int .i64 a0_1, .int .i64 a0_2] 60 (0, 0)) (by (with_reducible repeat (first | refine blk_drewN ?_ _ | refine blk_drew ?_ | refine blk_alloc ?_ _)); exact BK143.out) hb);have n2_ := Aside0.mk (below_step (by repeat (first | (with_reducible first | exact HB.out | apply below_alloc | apply pw_below_drewN | apply below_drew1 | refine below_set ?_ GE143.out) | exact HB.out)) hb);clear HO_9;clear BK143;clear HB;have HO_9 := n0_;have BK143 := n1_;have HB := n2_;clear n0_ n1_ n2_
        (try clear hb)
        (try clear hb2)
        (try clear hk)
        (try clear hi)
        refine hK.out _ _ ⟨(blk_cell BK143.out 0).trans rfl, (blk_cell BK143.out 1).trans rfl, (blk_cell BK143.out 2).trans rfl, HS3_⟩ (fun hHeld => ?_);clear hK K;refine norm_ (a' := ?_) ?_ ?_;rotate_left
        ·show Act.put _ (some 57) _ = _
         simp only [nrm];rfl
        refine pure_ (i := 6) (N := some 51) (v := ?_) (a' := ?_) #[yy, yy, yy, yy, yy, yy, yy, nn, nn, nn, nn] rfl rfl (any_of HT_.out (by kernel_rfl)) (fun _ _ _ h => h) (Or.inl ⟨by rfl, ?_⟩) ?_ ?_;rotate_left
        ·intro w';go_simp;with_reducible rfl
        rotate_left
        ·simp only [nrm];rfl
        refine pure_ (i := 7) (N := some 58) (v := ?_) (a' := ?_) #[yy, yy, yy, yy, yy, yy, yy, yy, nn, nn, nn] rfl rfl (any_of HT_.out (by kernel_rfl)) (fun _ _ _ h => h) (Or.inl ⟨by rfl, ?_⟩) ?_ ?_;rotate_left
        ·intro w';go_simp;with_reducible rfl
        rotate_left
        ·simp only [nrm];rfl
        refine pure_ (i := 8) (N := some 59) (v := ?_) (a' := ?_) #[yy, yy, yy, yy, yy, yy, yy, yy, yy, nn, nn] rfl rfl (any_of HT_.out (by kernel_rfl)) (fun _ _ _ h => h) (Or.inl ⟨by rfl, ?_⟩) ?_ ?_;rotate_left
        ·intro w';go_simp;with_reducible rfl
        rotate_left
        ·simp only [nrm];rfl
        refine pure_ (i := 9) (N := some 4) (v := ?_) (a' := ?_) #[yy, yy, yy, yy, yy, yy, yy, yy, yy, yy, nn] rfl rfl (any_of HT_.out (by kernel_rfl)) (fun _ _ _ h => h) (Or.inl ⟨by rfl, ?_⟩) ?_ ?_;rotate_left
        ·intro w';go_simp;with_reducible rfl
        rotate_left
        ·simp only [nrm];rfl
        refine pure_ (i := 10) (N := some 8) (v := ?_) (a' := ?_) #[yy, yy, yy, yy, yy, yy, yy, yy, yy, yy, yy] rfl rfl (any_of HT_.out (by kernel_rfl)) (fun _ _ _ h => h) (Or.inl ⟨by rfl, ?_⟩) ?_ ?_;rotate_left
        ·intro w';go_simp;with_reducible rfl
        rotate_left
        ·simp only [nrm];rfl
        refine done_ (done_of HT_.out (by kernel_rfl)) ?_;try go_wp2
        have n0_ := Aside0.mk (Kd.R_drew HO_9.out);have n1_ := Aside0.mk (blk_drew BK143.out);have n2_ := Aside0.mk (below_drew1 HB.out);clear HO_9;clear BK143;clear HB;have HO_9 := n0_;have BK143 := n1_;have HB := n2_;clear n0_ n1_ n2_;have p153 : 0 ≤ (1 : Int) := (by omega)
        have q153 : 1 < (t144.length : Int) := of_decide_eq_true (by first | (with_reducible assumption) | assumption);obtain ⟨ad153, e153, hx153_0⟩ := Kd.at_string (Kd.R_reads' HO_9.out).2.2 1 p153 q153;obtain rfl : ad150 = ad153 := (by injection e153)
        (try simp only [show (1 : Int).toNat = 1 from rfl, Nat.reduceMul, Nat.reduceEqDiff, Go.Addr.add, ↓reduceIte] at hx153_0)
        have qi153 : (1 < t144.length) = True := eq_true (by omega)
        (try rw [show ((1 : Int)).toNat = 1 from rfl] at hx153_0)
        replace p153 := eq_true p153;replace q153 := eq_true q153;refine start_ (n := 11) (S := fun w' => w'.cell? ⟨gb143, 0, none⟩ = some (.int .i64 a0_0) ∧ w'.cell? ⟨gb143, 1, none⟩ = some (.int .i64 a0_1) ∧ w'.cell? ⟨gb143, 2, none⟩ = some (.int .i64 a0_2) ∧ w'.cell? ⟨ad150.block, ad150.off + 1, none⟩ = some (.string (rdOf ByteArray.empty t144 1))) (ds := []) #[nn, nn, nn, nn, nn, nn, nn, nn, nn, nn, nn] (by kernel_rfl) rfl rfl ⟨(blk_cell BK143.out 0).trans rfl, (blk_cell BK143.out 1).trans rfl, (blk_cell BK143.out 2).trans rfl, hx153_0⟩ (fun hHeld => ?_); refine with_tabW spec_cronEnds.tab12 spec_cronEnds.bits12 (fun HT_ HW_ => ?_);generalize w42.drew = w43 at HO_9 BK143 HB hx153_0 hHeld ⊢
        refine pure_ (i := 0) (N := some 70) (v := ?_) (a' := ?_) #[yy, nn, nn, nn, nn, nn, nn, nn, nn, nn, nn] rfl rfl (any_of HT_.out (by kernel_rfl)) (fun _ _ _ h => h) (Or.inl ⟨by rfl, ?_⟩) ?_ ?_;rotate_left
        ·intro w';go_simp;with_reducible rfl
        rotate_left
        ·simp only [nrm];rfl
        refine pure_ (i := 2) (N := some 72) (v := ?_) (a' := ?_) #[yy, nn, yy, nn, nn, nn, nn, nn, nn, nn, nn] rfl rfl (any_of HT_.out (by kernel_rfl)) (fun _ _ _ h => h) (Or.inl ⟨by rfl, ?_⟩) ?_ ?_;rotate_left
        ·intro w';go_simp;with_reducible rfl
        rotate_left
        ·simp only [nrm];rfl
        refine pure_ (i := 3) (N := some 73) (v := ?_) (a' := ?_) #[yy, nn, yy, yy, nn, nn, nn, nn, nn, nn, nn] rfl rfl (any_of HT_.out (by kernel_rfl)) (fun _ _ _ h => h) (Or.inl ⟨by rfl, ?_⟩) ?_ ?_;rotate_left
        ·intro w';go_simp;with_reducible rfl
        rotate_left
        ·simp only [nrm];rfl
        refine take_ (i := 1) (N := some 71) (v := ?_) (a' := ?_) #[yy, yy, yy, yy, nn, nn, nn, nn, nn, nn, nn] rfl rfl (take_ofW HT_.out HW_.out (by kernel_rfl)) (fun _ _ _ h => h) (Or.inl ⟨by rfl, ?_⟩) hHeld ?_ ?_;rotate_left
        ·rintro w' ⟨s0, s1, s2, s3⟩;go_simp;with_reducible rfl
        rotate_left
        ·simp only [nrm];rfl
        refine take_ (i := 4) (N := some 74) (v := ?_) (a' := ?_) #[yy, yy, yy, yy, yy, nn, nn, nn, nn, nn, nn] rfl rfl (take_ofW HT_.out HW_.out (by kernel_rfl)) (fun _ _ _ h => h) (Or.inl ⟨by rfl, ?_⟩) hHeld ?_ ?_;rotate_left
        ·rintro w' ⟨s0, s1, s2, s3⟩;go_simp;with_reducible rfl
        rotate_left
        ·simp only [nrm];rfl
        refine one_ (i := 5) (N := some 75) #[yy, yy, yy, yy, yy, yy, nn, nn, nn, nn, nn] rfl rfl (one_of HT_.out (by kernel_rfl)) (by decide) (fun K hK => ?_);refine goes_ Tryz.func156 (by kernel_rfl) rfl #[.int .i64 a0_2, .string (rdOf ByteArray.empty t144 1)] (by rfl) rfl rfl (by (try simp only [List.map_toArray, List.map_cons, List.map_nil]); first | done | rfl | (simp only [List.length_drop, List.length_take]; rfl)) ?_;with_reducible refine (spec_CronValue.calls kj3 a0_2 (rdOf ByteArray.empty t144 1) t154 t155 _ A38.out).mono ?_
        rintro e w44 ⟨rfl, hb⟩;have HS3_ := (hb.cell (World.block_lt_of_cell? _ _ (hHeld.2.2.2))).trans (hHeld.2.2.2);refine ⟨_, rfl, ?_⟩;have n0_ := Aside0.mk (Kd.R_below (by (with_reducible repeat (first | apply Kd.R_alloc | apply Kd.R_drewN | apply Kd.R_drew)); exact HO_9.out) hb);have n1_ := Aside0.mk (blk_below (g := gb143) (o := .cells #[.int .i64 a0_0, .int .i64 a0_1, .int .i64 a0_2] 60 (0, 0)) (by (with_reducible repeat (first | refine blk_drewN ?_ _ | refine blk_drew ?_ | refine blk_alloc ?_ _)); exact BK143.out) hb);have n2_ := Aside0.mk (below_step (by repeat (first | (with_reducible first | exact HB.out | apply below_alloc | apply pw_below_drewN | apply below_drew1 | refine below_set ?_ GE143.out) | exact HB.out)) hb);clear HO_9;clear BK143;clear HB;have HO_9 := n0_;have BK143 := n1_;have HB := n2_;clear n0_ n1_ n2_
        (try clear hb)
        (try clear hb2)
        (try clear hk)
        (try clear hi)
        refine hK.out _ _ ⟨(blk_cell BK143.out 0).trans rfl, (blk_cell BK143.out 1).trans rfl, (blk_cell BK143.out 2).trans rfl, HS3_⟩ (fun hHeld => ?_);clear hK K;refine norm_ (a' := ?_) ?_ ?_;rotate_left
        ·show Act.put _ (some 75) _ = _
         simp only [nrm];rfl
        refine pure_ (i := 6) (N := some 69) (v := ?_) (a' := ?_) #[yy, yy, yy, yy, yy, yy, yy, nn, nn, nn, nn] rfl rfl (any_of HT_.out (by kernel_rfl)) (fun _ _ _ h => h) (Or.inl ⟨by rfl, ?_⟩) ?_ ?_;rotate_left
        ·intro w';go_simp;with_reducible rfl
        rotate_left
        ·simp only [nrm];rfl
        refine pure_ (i := 7) (N := some 76) (v := ?_) (a' := ?_) #[yy, yy, yy, yy, yy, yy, yy, yy, nn, nn, nn] rfl rfl (any_of HT_.out (by kernel_rfl)) (fun _ _ _ h => h) (Or.inl ⟨by rfl, ?_⟩) ?_ ?_;rotate_left
        ·intro w';go_simp;with_reducible rfl
        rotate_left
        ·simp only [nrm];rfl
        refine pure_ (i := 8) (N := some 77) (v := ?_) (a' := ?_) #[yy, yy, yy, yy, yy, yy, yy, yy, yy, nn, nn] rfl rfl (any_of HT_.out (by kernel_rfl)) (fun _ _ _ h => h) (Or.inl ⟨by rfl, ?_⟩) ?_ ?_;rotate_left
        ·intro w';go_simp;with_reducible rfl
        rotate_left
        ·simp only [nrm];rfl
        refine pure_ (i := 9) (N := some 10) (v := ?_) (a' := ?_) #[yy, yy, yy, yy, yy, yy, yy, yy, yy, yy, nn] rfl rfl (any_of HT_.out (by kernel_rfl)) (fun _ _ _ h => h) (Or.inl ⟨by rfl, ?_⟩) ?_ ?_;rotate_left
        ·intro w';go_simp;with_reducible rfl
        rotate_left
        ·simp only [nrm];rfl
        refine pure_ (i := 10) (N := some 11) (v := ?_) (a' := ?_) #[yy, yy, yy, yy, yy, yy, yy, yy, yy, yy, yy] rfl rfl (any_of HT_.out (by kernel_rfl)) (fun _ _ _ h => h) (Or.inl ⟨by rfl, ?_⟩) ?_ ?_;rotate_left
        ·intro w';go_simp;with_reducible rfl
        rotate_left
        ·simp only [nrm];rfl
        refine done_ (done_of HT_.out (by kernel_rfl)) ?_;try go_wp2_with (first | ((with_reducible refine gate_callee (f := 57) rfl ?_); refine goesL_ (some 82) rfl rfl Tryz.func57 (by kernel_rfl) rfl #[.int .i64 t152, .int .i64 t155] rfl (by (try simp only [List.map_toArray, List.map_cons, List.map_nil]); first | done | rfl | (simp only [List.length_drop, List.length_take]; rfl)) ?_; (with_reducible refine (spec_worse.calls t152 t155 t156 _ A39.out).mono ?_); rintro e w45 ⟨rfl, hb⟩; refine ⟨_, rfl, ?_⟩; have n0_ := Aside0.mk (Kd.R_below (by (with_reducible repeat (first | apply Kd.R_alloc | apply Kd.R_drewN | apply Kd.R_drew)); exact HO_9.out) hb); have n1_ := Aside0.mk (blk_below (g := gb143) (o := .cells #[.int .i64 a0_0, .int .i64 a0_1, .int .i64 a0_2] 60 (0, 0)) (by (with_reducible repeat (first | refine blk_drewN ?_ _ | refine blk_drew ?_ | refine blk_alloc ?_ _)); exact BK143.out) hb); have n2_ := Aside0.mk (below_step (by repeat (first | (with_reducible first | exact HB.out | apply below_alloc | apply pw_below_drewN | apply below_drew1 | refine below_set ?_ GE143.out) | exact HB.out)) hb); clear HO_9; clear BK143; clear HB; have HO_9 := n0_; have BK143 := n1_; have HB := n2_; clear n0_ n1_ n2_; (try clear hb); (try clear hb2); (try clear hk); (try clear hi)))
        refine bodyPost_ret (results_list (rs := [.tmp 4, .tmp 5, .tmp 6, .tmp 7, .tmp 8]) rfl (by simp) (.tmp (.tmp (.tmp (.tmp (.tmp .nil)))))) rfl ?_;exact ⟨by first | rfl | (simp [errW_none, errW_some] <;> rfl) | (simp [*, errW_none, errW_some] <;> rfl), by repeat (first | (with_reducible first | exact HB.out | apply below_alloc | apply pw_below_drewN | apply below_drew1 | refine below_set ?_ GE143.out) | exact HB.out)⟩
       ·rw [if_neg c37] at H;exact absurd H (by simp)
      ·rw [if_neg c36] at H;have c36b0 : ((t144.length : Int) == 2) = false := beq_eq_false_iff_ne.mpr c36;have c36b1 : ((t144.length : Int) != 2) = true := bne_iff_ne.mpr c36;simp only [Option.some.injEq, Prod.mk.injEq] at H;obtain ⟨rfl, rfl, rfl, rfl, rfl⟩ := H;try go_wp2
       have n0_ := Aside0.mk (Kd.R_drew HO_9.out);have n1_ := Aside0.mk (blk_drew BK143.out);have n2_ := Aside0.mk (below_drew1 HB.out);clear HO_9;clear BK143;clear HB;have HO_9 := n0_;have BK143 := n1_;have HB := n2_;clear n0_ n1_ n2_;obtain ⟨Ao47, co47, eo47⟩ := Kd.R_slice HO_9.out
       (first | subst eo47 | (injection eo47 with f1_ f2_ f3_; have f4_ := f1_.symm; have f5_ := f3_.symm; clear f1_ f2_ f3_; subst f4_; subst f5_))
       have p150 : 0 ≤ (0 : Int) := (by omega)
       have q150 : 0 < (t144.length : Int) := of_decide_eq_true (by first | (with_reducible assumption) | assumption);obtain ⟨ad150, e150, hx150_0⟩ := Kd.at_string (Kd.R_reads' HO_9.out).2.2 0 p150 q150;cases e150
       have qi150 : (0 < t144.length) = True := eq_true (by omega)
       (try rw [show ((0 : Int)).toNat = 0 from rfl] at hx150_0)
       (try rw [Addr.add_zero'] at hx150_0)
       replace p150 := eq_true p150;replace q150 := eq_true q150;refine start_ (n := 11) (S := fun w' => w'.cell? ⟨gb143, 0, none⟩ = some (.int .i64 a0_0) ∧ w'.cell? ⟨gb143, 1, none⟩ = some (.int .i64 a0_1) ∧ w'.cell? ⟨gb143, 2, none⟩ = some (.int .i64 a0_2) ∧ w'.cell? ad150 = some (.string (rdOf ByteArray.empty t144 0))) (ds := []) #[nn, nn, nn, nn, nn, nn, nn, nn, nn, nn, nn] (by kernel_rfl) rfl rfl ⟨(blk_cell BK143.out 0).trans rfl, (blk_cell BK143.out 1).trans rfl, (blk_cell BK143.out 2).trans rfl, hx150_0⟩ (fun hHeld => ?_); refine with_tabW spec_cronEnds.tab7 spec_cronEnds.bits7 (fun HT_ HW_ => ?_);generalize wc.drew = w46 at HO_9 BK143 HB hx150_0 hHeld ⊢
       refine pure_ (i := 0) (N := some 52) (v := ?_) (a' := ?_) #[yy, nn, nn, nn, nn, nn, nn, nn, nn, nn, nn] rfl rfl (any_of HT_.out (by kernel_rfl)) (fun _ _ _ h => h) (Or.inl ⟨by rfl, ?_⟩) ?_ ?_;rotate_left
       ·intro w';go_simp;with_reducible rfl
       rotate_left
       ·simp only [nrm];rfl
       refine pure_ (i := 2) (N := some 54) (v := ?_) (a' := ?_) #[yy, nn, yy, nn, nn, nn, nn, nn, nn, nn, nn] rfl rfl (any_of HT_.out (by kernel_rfl)) (fun _ _ _ h => h) (Or.inl ⟨by rfl, ?_⟩) ?_ ?_;rotate_left
       ·intro w';go_simp;with_reducible rfl
       rotate_left
       ·simp only [nrm];rfl
       refine pure_ (i := 3) (N := some 55) (v := ?_) (a' := ?_) #[yy, nn, yy, yy, nn, nn, nn, nn, nn, nn, nn] rfl rfl (any_of HT_.out (by kernel_rfl)) (fun _ _ _ h => h) (Or.inl ⟨by rfl, ?_⟩) ?_ ?_;rotate_left
       ·intro w';go_simp;with_reducible rfl
       rotate_left
       ·simp only [nrm];rfl
       refine take_ (i := 1) (N := some 53) (v := ?_) (a' := ?_) #[yy, yy, yy, yy, nn, nn, nn, nn, nn, nn, nn] rfl rfl (take_ofW HT_.out HW_.out (by kernel_rfl)) (fun _ _ _ h => h) (Or.inl ⟨by rfl, ?_⟩) hHeld ?_ ?_;rotate_left
       ·rintro w' ⟨s0, s1, s2, s3⟩;go_simp;with_reducible rfl
       rotate_left
       ·simp only [nrm];rfl
       refine take_ (i := 4) (N := some 56) (v := ?_) (a' := ?_) #[yy, yy, yy, yy, yy, nn, nn, nn, nn, nn, nn] rfl rfl (take_ofW HT_.out HW_.out (by kernel_rfl)) (fun _ _ _ h => h) (Or.inl ⟨by rfl, ?_⟩) hHeld ?_ ?_;rotate_left
       ·rintro w' ⟨s0, s1, s2, s3⟩;go_simp;with_reducible rfl
       rotate_left
       ·simp only [nrm];rfl
       refine one_ (i := 5) (N := some 57) #[yy, yy, yy, yy, yy, yy, nn, nn, nn, nn, nn] rfl rfl (one_of HT_.out (by kernel_rfl)) (by decide) (fun K hK => ?_);refine goes_ Tryz.func156 (by kernel_rfl) rfl #[.int .i64 a0_2, .string (rdOf ByteArray.empty t144 0)] (by rfl) rfl rfl (by (try simp only [List.map_toArray, List.map_cons, List.map_nil]); first | done | rfl | (simp only [List.length_drop, List.length_take]; rfl)) ?_;with_reducible refine (spec_CronValue.calls kj3 a0_2 (rdOf ByteArray.empty t144 0) t151 t152 _ A31.out).mono ?_
       rintro e w48 ⟨rfl, hb⟩;have HS3_ := (hb.cell (World.block_lt_of_cell? _ _ (hHeld.2.2.2))).trans (hHeld.2.2.2);refine ⟨_, rfl, ?_⟩;have n0_ := Aside0.mk (Kd.R_below (by (with_reducible repeat (first | apply Kd.R_alloc | apply Kd.R_drewN | apply Kd.R_drew)); exact HO_9.out) hb);have n1_ := Aside0.mk (blk_below (g := gb143) (o := .cells #[.int .i64 a0_0, .int .i64 a0_1, .int .i64 a0_2] 60 (0, 0)) (by (with_reducible repeat (first | refine blk_drewN ?_ _ | refine blk_drew ?_ | refine blk_alloc ?_ _)); exact BK143.out) hb);have n2_ := Aside0.mk (below_step (by repeat (first | (with_reducible first | exact HB.out | apply below_alloc | apply pw_below_drewN | apply below_drew1 | refine below_set ?_ GE143.out) | exact HB.out)) hb);clear HO_9;clear BK143;clear HB;have HO_9 := n0_;have BK143 := n1_;have HB := n2_;clear n0_ n1_ n2_
       (try clear hb)
       (try clear hb2)
       (try clear hk)
       (try clear hi)
       refine hK.out _ _ ⟨(blk_cell BK143.out 0).trans rfl, (blk_cell BK143.out 1).trans rfl, (blk_cell BK143.out 2).trans rfl, HS3_⟩ (fun hHeld => ?_);clear hK K;refine norm_ (a' := ?_) ?_ ?_;rotate_left
       ·show Act.put _ (some 57) _ = _
        simp only [nrm];rfl
       refine pure_ (i := 6) (N := some 51) (v := ?_) (a' := ?_) #[yy, yy, yy, yy, yy, yy, yy, nn, nn, nn, nn] rfl rfl (any_of HT_.out (by kernel_rfl)) (fun _ _ _ h => h) (Or.inl ⟨by rfl, ?_⟩) ?_ ?_;rotate_left
       ·intro w';go_simp;with_reducible rfl
       rotate_left
       ·simp only [nrm];rfl
       refine pure_ (i := 7) (N := some 58) (v := ?_) (a' := ?_) #[yy, yy, yy, yy, yy, yy, yy, yy, nn, nn, nn] rfl rfl (any_of HT_.out (by kernel_rfl)) (fun _ _ _ h => h) (Or.inl ⟨by rfl, ?_⟩) ?_ ?_;rotate_left
       ·intro w';go_simp;with_reducible rfl
       rotate_left
       ·simp only [nrm];rfl
       refine pure_ (i := 8) (N := some 59) (v := ?_) (a' := ?_) #[yy, yy, yy, yy, yy, yy, yy, yy, yy, nn, nn] rfl rfl (any_of HT_.out (by kernel_rfl)) (fun _ _ _ h => h) (Or.inl ⟨by rfl, ?_⟩) ?_ ?_;rotate_left
       ·intro w';go_simp;with_reducible rfl
       rotate_left
       ·simp only [nrm];rfl
       refine pure_ (i := 9) (N := some 4) (v := ?_) (a' := ?_) #[yy, yy, yy, yy, yy, yy, yy, yy, yy, yy, nn] rfl rfl (any_of HT_.out (by kernel_rfl)) (fun _ _ _ h => h) (Or.inl ⟨by rfl, ?_⟩) ?_ ?_;rotate_left
       ·intro w';go_simp;with_reducible rfl
       rotate_left
       ·simp only [nrm];rfl
       refine pure_ (i := 10) (N := some 8) (v := ?_) (a' := ?_) #[yy, yy, yy, yy, yy, yy, yy, yy, yy, yy, yy] rfl rfl (any_of HT_.out (by kernel_rfl)) (fun _ _ _ h => h) (Or.inl ⟨by rfl, ?_⟩) ?_ ?_;rotate_left
       ·intro w';go_simp;with_reducible rfl
       rotate_left
       ·simp only [nrm];rfl
       refine done_ (done_of HT_.out (by kernel_rfl)) ?_;try go_wp2
       refine bodyPost_ret (results_list (rs := [.tmp 4, .tmp 5, .tmp 6, .tmp 7, .tmp 8]) rfl (by simp) (.tmp (.tmp (.tmp (.tmp (.tmp .nil)))))) rfl ?_;exact ⟨by first | rfl | (simp [errW_none, errW_some] <;> rfl) | (simp [*, errW_none, errW_some] <;> rfl), by repeat (first | (with_reducible first | exact HB.out | apply below_alloc | apply pw_below_drewN | apply below_drew1 | refine below_set ?_ GE143.out) | exact HB.out)⟩
    ·rw [if_neg c30] at H;exact absurd H (by simp)
def spec_CronBoundsOf.f (a0 : Int) : Option (Int × Int × Int) := (spec_CronLow.f a0).bind fun t160 => ((spec_CronHigh.f a0).bind fun t161 => (some (t160, t161, a0)))
set_option maxHeartbeats 8000000 in
set_option maxRecDepth 100000 in
theorem spec_CronBoundsOf.calls (a0 : Int) (r1 : Int) (r2 : Int) (r3 : Int) (w : World) (h : spec_CronBoundsOf.f a0 = some (r1, r2, r3)) :
  Calls Tryz.prog 22 #[.int .i64 a0] w fun e w' => e = .returned (.agg #[.int .i64 r1, .int .i64 r2, .int .i64 r3]) ∧ Below w.heap.size w w' := by
 have hu60 := Tryz.underlying60;have HB := Aside0.mk (Below.refl w.heap.size w);have H : ((spec_CronLow.f a0).bind fun t160 => ((spec_CronHigh.f a0).bind fun t161 => (some (t160, t161, a0)))) = some (r1, r2, r3) := h;clear h;replace H := Option.bind_eq_some_iff.mp H;obtain ⟨t160, A20, H⟩ := H;replace H : ((spec_CronHigh.f a0).bind fun t161 => (some (t160, t161, a0))) = some (r1, r2, r3) := H;have A2 := Aside0.mk A20;clear A20;replace H := Option.bind_eq_some_iff.mp H;obtain ⟨t161, A30, H⟩ := H;replace H : (some (t160, t161, a0)) = some (r1, r2, r3) := H;have A3 := Aside0.mk A30;clear A30;simp only [Option.some.injEq, Prod.mk.injEq] at H;obtain ⟨rfl, rfl, rfl⟩ := H;go_enter Tryz.func22, Tryz.ntmps22;go_wp2_with (first | ((with_reducible refine gate_dst (N := 2) rfl ?_); refine box_event ?hg (N := 2) ?hd (cs := #[.int .i64 0, .int .i64 0, .int .i64 0]) (t := 60) ?hr ?_; (case hd => rfl); (case hg => rfl); (case hr => first | (go_simp; done) | (go_simp; rfl)); intro gb159 hg w4 hbox hb; have n0_ := Aside0.mk (below_step (by repeat (first | (with_reducible first | exact HB.out | apply below_alloc | apply pw_below_drewN | apply below_drew1) | exact HB.out)) hb); have n1_ := Aside0.mk (hbox); have n2_ := Aside0.mk ((by rw [hg]; exact (below_size (by repeat (first | (with_reducible first | exact HB.out | apply below_alloc | apply pw_below_drewN | apply below_drew1) | exact HB.out))) : w.heap.size ≤ gb159)); have n3_ := Aside0.mk ((by rw [hg]; exact (below_size (by repeat (first | (with_reducible first | exact HB.out | apply below_alloc | apply pw_below_drewN | apply below_drew1) | exact HB.out))) : w.heap.size ≤ gb159)); clear HB; have HB := n0_; have BK159 := n1_; have GW159 := n2_; have GE159 := n3_; clear n0_ n1_ n2_ n3_; clear hb hbox hg) | ((with_reducible refine gate_callee (f := 60) rfl ?_); refine goesL_ (some 4) rfl rfl Tryz.func60 (by kernel_rfl) rfl #[.int .i64 a0] rfl (by (try simp only [List.map_toArray, List.map_cons, List.map_nil]); first | done | rfl | (simp only [List.length_drop, List.length_take]; rfl)) ?_; (with_reducible refine (spec_CronLow.calls a0 t160 _ A2.out).mono ?_); rintro e w' ⟨rfl, ⟨nd, rfl⟩⟩; refine ⟨_, rfl, ?_⟩; (try (rw [drewN_self w4]; generalize hq_ : World.drewN w4 _ = w4; have n0_ : Aside0 (w4.heap[gb159]? = some (.cells #[.int .i64 0, .int .i64 0, .int .i64 0] 60 (0, 0))) := ⟨by rw [← hq_]; exact (by (with_reducible repeat (first | refine blk_drewN ?_ _ | refine blk_drew ?_ | refine blk_alloc ?_ _)); exact BK159.out)⟩; have n1_ : Aside0 (Below w.heap.size w w4) := ⟨by rw [← hq_]; exact (by repeat (first | (with_reducible first | exact HB.out | apply below_alloc | apply pw_below_drewN | apply below_drew1 | refine below_set ?_ GE159.out) | exact HB.out))⟩; clear BK159 HB hq_; have BK159 := n0_; have HB := n1_; clear n0_ n1_))) | ((with_reducible refine gate_callee (f := 61) rfl ?_); refine goesL_ (some 6) rfl rfl Tryz.func61 (by kernel_rfl) rfl #[.int .i64 a0] rfl (by (try simp only [List.map_toArray, List.map_cons, List.map_nil]); first | done | rfl | (simp only [List.length_drop, List.length_take]; rfl)) ?_; (with_reducible refine (spec_CronHigh.calls a0 t161 _ A3.out).mono ?_); rintro e w' ⟨rfl, ⟨nd, rfl⟩⟩; refine ⟨_, rfl, ?_⟩; (try (rw [drewN_self w4]; generalize hq_ : World.drewN w4 _ = w4; have n0_ : Aside0 (w4.heap[gb159]? = some (.cells #[.int .i64 0, .int .i64 0, .int .i64 0] 60 (0, 0))) := ⟨by rw [← hq_]; exact (by (with_reducible repeat (first | refine blk_drewN ?_ _ | refine blk_drew ?_ | refine blk_alloc ?_ _)); exact BK159.out)⟩; have n1_ : Aside0 (Below w.heap.size w w4) := ⟨by rw [← hq_]; exact (by repeat (first | (with_reducible first | exact HB.out | apply below_alloc | apply pw_below_drewN | apply below_drew1 | refine below_set ?_ GE159.out) | exact HB.out))⟩; clear BK159 HB hq_; have BK159 := n0_; have HB := n1_; clear n0_ n1_)); have hcz5_0 : w4.cell? ⟨gb159, 0, none⟩ = some (.int .i64 0) := (blk_cell BK159.out 0).trans rfl; have hcz5_1 : w4.cell? ⟨gb159, 1, none⟩ = some (.int .i64 0) := (blk_cell BK159.out 1).trans rfl; have hcz5_2 : w4.cell? ⟨gb159, 2, none⟩ = some (.int .i64 0) := (blk_cell BK159.out 2).trans rfl; have hfz5_0 := blk_frozen BK159.out 0; have hfz5_1 := blk_frozen BK159.out 1; have hfz5_2 := blk_frozen BK159.out 2))
 refine bodyPost_ret (results_cell_row rfl _ _ gb159 60 #[.int .i64 t160, .int .i64 t161, .int .i64 a0] (0, 0) _ rfl (by (with_reducible repeat (first | refine blk_drewN ?_ _ | refine blk_drew ?_ | refine blk_alloc ?_ _)); refine blk_put (cs := #[.int .i64 t160, .int .i64 t161, .int .i64 0]) ?_ 2 _ rfl; (with_reducible repeat (first | refine blk_drewN ?_ _ | refine blk_drew ?_ | refine blk_alloc ?_ _)); refine blk_put (cs := #[.int .i64 t160, .int .i64 0, .int .i64 0]) ?_ 1 _ rfl; (with_reducible repeat (first | refine blk_drewN ?_ _ | refine blk_drew ?_ | refine blk_alloc ?_ _)); refine blk_put (cs := #[.int .i64 0, .int .i64 0, .int .i64 0]) ?_ 0 _ rfl; (with_reducible repeat (first | refine blk_drewN ?_ _ | refine blk_drew ?_ | refine blk_alloc ?_ _)); exact BK159.out) Tryz.underlying60 rfl (by kernel_rfl)) rfl ?_;exact ⟨by first | rfl | (simp [errW_none, errW_some] <;> rfl) | (simp [*, errW_none, errW_some] <;> rfl), by repeat (first | (with_reducible first | exact HB.out | apply below_alloc | apply pw_below_drewN | apply below_drew1 | refine below_set ?_ GE159.out) | exact HB.out)⟩
end Go.Proofs.YtmecbmgfacpecaaGreatDoor.Pr
namespace Go.Proofs.YtmecbmgfacpecaaGreatDoor.Pr
open Go.RowKit Go.Proofs.YtmecbmgfacpecaaGreatDoorW.PrintWords Go.Proofs.YtmecbmgfacpecaaGreatDoorW.PrintLast Go.Proofs.YtmecbmgfacpecaaGreatDoorW.PrintMore
attribute [local go_sem] max2_int min2_int max_two min_two max_three min_three max_four min_four   -- for this text's walks alone
attribute [local go_sem high] eqA26
def cron_places.f  : Option (List Int) := some (([1, 4, 8, 16, 32, 64] : List Int))
set_option maxHeartbeats 8000000 in
set_option maxRecDepth 100000 in
theorem cron_places.calls  (r : List Int) (w : World) (h : cron_places.f  = some r) :
  Calls Tryz.prog 148 #[] w fun e w' => ∃ v0_ : Value, e = .returned (v0_) ∧ Kd.R (Kd.int .i64) 103 w' w.heap.size (fun _ => True) v0_ r ∧ Below w.heap.size w w' := by
 have HB := Aside0.mk (Below.refl w.heap.size w);have H : (some (([1, 4, 8, 16, 32, 64] : List Int))) = some r := h;clear h;obtain ⟨y173, hy173⟩ : ∃ y_ : List Int, y_ = (([1, 4, 8, 16, 32, 64] : List Int)) := ⟨_, rfl⟩
 replace H : (some y173) = some r := by first | (rw [hy173]; with_reducible exact H) | (have H2_ := (Option.bind_some _ _).symm.trans H; rw [hy173]; with_reducible exact H2_) | (have H2_ := (Option.bind_some _ _).symm.trans H; with_reducible exact H2_) | with_reducible exact H | (rw [hy173]; exact H) | exact H
 have Ny173 := Aside0.mk hy173;clear hy173;obtain rfl := Option.some.inj H;go_enter Tryz.func148, Tryz.ntmps148;go_wp2_with (first | ((with_reducible refine gate_dst (N := 1) rfl ?_); refine Kd.R_lit (Kd.int .i64) _ 103 ?hg (N := 1) ?hd (xs := ([1, 4, 8, 16, 32, 64] : List Int)) (inner := [.int .i64 1, .int .i64 4, .int .i64 8, .int .i64 16, .int .i64 32, .int .i64 64]) (ok := fun _ => True) (okp := fun _ => True) ?hr ?hp (fun _ hk => hk) trivial (Below.refl _ _) (Nat.le_refl _) (by simp) ?_; (case hd => rfl); (case hg => rfl); (case hr => first | (go_simp; done) | (go_simp; rfl)); (case hp => exact (Reps.one (show Kd.M (Kd.int .i64) _ _ _ 1 [.int .i64 1] from rfl) (Reps.one (show Kd.M (Kd.int .i64) _ _ _ 4 [.int .i64 4] from rfl) (Reps.one (show Kd.M (Kd.int .i64) _ _ _ 8 [.int .i64 8] from rfl) (Reps.one (show Kd.M (Kd.int .i64) _ _ _ 16 [.int .i64 16] from rfl) (Reps.one (show Kd.M (Kd.int .i64) _ _ _ 32 [.int .i64 32] from rfl) (Reps.one (show Kd.M (Kd.int .i64) _ _ _ 64 [.int .i64 64] from rfl) (Reps.none _ _)))))))); intro v174 w1 ho2 hb hg_ hnew_; clear hg_ hnew_; (first | rw [← Ny173.out] at ho2 | (simp only [Int.reduceToNat] at ho2; rw [← Ny173.out] at ho2)); have n0_ := Aside0.mk (Kd.R_lower ho2 (below_size (by repeat (first | (with_reducible first | exact HB.out | apply below_alloc | apply pw_below_drewN | apply below_drew1) | exact HB.out)))); have n1_ := Aside0.mk (below_step (by repeat (first | (with_reducible first | exact HB.out | apply below_alloc | apply pw_below_drewN | apply below_drew1) | exact HB.out)) hb); clear HB; have HO175 := n0_; have HB := n1_; clear n0_ n1_; clear hb ho2))
 go_ret;exact ⟨_, by first | rfl | (simp [errW_none, errW_some] <;> rfl) | (simp [*, errW_none, errW_some] <;> rfl), by (with_reducible repeat (first | apply Kd.R_alloc | apply Kd.R_drewN | apply Kd.R_drew)); exact HO175.out, by repeat (first | (with_reducible first | exact HB.out | apply below_alloc | apply pw_below_drewN | apply below_drew1) | exact HB.out)⟩
end Go.Proofs.YtmecbmgfacpecaaGreatDoor.Pr
namespace Go.Proofs.YtmecbmgfacpecaaGreatDoor.Pr
open Go.RowKit Go.Proofs.YtmecbmgfacpecaaGreatDoorW.PrintWords Go.Proofs.YtmecbmgfacpecaaGreatDoorW.PrintLast Go.Proofs.YtmecbmgfacpecaaGreatDoorW.PrintMore
attribute [local go_sem] max2_int min2_int max_two min_two max_three min_three max_four min_four   -- for this text's walks alone
attribute [local go_sem high] eqA26
def cron_defaults.f  : Option (List ByteArray) := some (([(⟨#[48]⟩ : ByteArray), (⟨#[48]⟩ : ByteArray), (⟨#[48]⟩ : ByteArray), (⟨#[42]⟩ : ByteArray), (⟨#[42]⟩ : ByteArray), (⟨#[42]⟩ : ByteArray)] : List ByteArray))
set_option maxHeartbeats 8000000 in
set_option maxRecDepth 100000 in
theorem cron_defaults.calls  (r : List ByteArray) (w : World) (h : cron_defaults.f  = some r) :
  Calls Tryz.prog 149 #[] w fun e w' => ∃ v0_ : Value, e = .returned (v0_) ∧ Kd.R Kd.string 9 w' w.heap.size (fun _ => True) v0_ r ∧ Below w.heap.size w w' := by
 have HB := Aside0.mk (Below.refl w.heap.size w);have H : (some (([(⟨#[48]⟩ : ByteArray), (⟨#[48]⟩ : ByteArray), (⟨#[48]⟩ : ByteArray), (⟨#[42]⟩ : ByteArray), (⟨#[42]⟩ : ByteArray), (⟨#[42]⟩ : ByteArray)] : List ByteArray))) = some r := h;clear h;obtain ⟨y176, hy176⟩ : ∃ y_ : List ByteArray, y_ = (([(⟨#[48]⟩ : ByteArray), (⟨#[48]⟩ : ByteArray), (⟨#[48]⟩ : ByteArray), (⟨#[42]⟩ : ByteArray), (⟨#[42]⟩ : ByteArray), (⟨#[42]⟩ : ByteArray)] : List ByteArray)) := ⟨_, rfl⟩
 replace H : (some y176) = some r := by first | (rw [hy176]; with_reducible exact H) | (have H2_ := (Option.bind_some _ _).symm.trans H; rw [hy176]; with_reducible exact H2_) | (have H2_ := (Option.bind_some _ _).symm.trans H; with_reducible exact H2_) | with_reducible exact H | (rw [hy176]; exact H) | exact H
 have Ny176 := Aside0.mk hy176;clear hy176;obtain rfl := Option.some.inj H;go_enter Tryz.func149, Tryz.ntmps149;go_wp2_with (first | ((with_reducible refine gate_dst (N := 1) rfl ?_); refine Kd.R_lit Kd.string _ 9 ?hg (N := 1) ?hd (xs := ([(⟨#[48]⟩ : ByteArray), (⟨#[48]⟩ : ByteArray), (⟨#[48]⟩ : ByteArray), (⟨#[42]⟩ : ByteArray), (⟨#[42]⟩ : ByteArray), (⟨#[42]⟩ : ByteArray)] : List ByteArray)) (inner := [.string (⟨#[48]⟩ : ByteArray), .string (⟨#[48]⟩ : ByteArray), .string (⟨#[48]⟩ : ByteArray), .string (⟨#[42]⟩ : ByteArray), .string (⟨#[42]⟩ : ByteArray), .string (⟨#[42]⟩ : ByteArray)]) (ok := fun _ => True) (okp := fun _ => True) ?hr ?hp (fun _ hk => hk) trivial (Below.refl _ _) (Nat.le_refl _) (by simp) ?_; (case hd => rfl); (case hg => rfl); (case hr => first | (go_simp; done) | (go_simp; rfl)); (case hp => exact (Reps.one (show Kd.M Kd.string _ _ _ (⟨#[48]⟩ : ByteArray) [.string (⟨#[48]⟩ : ByteArray)] from rfl) (Reps.one (show Kd.M Kd.string _ _ _ (⟨#[48]⟩ : ByteArray) [.string (⟨#[48]⟩ : ByteArray)] from rfl) (Reps.one (show Kd.M Kd.string _ _ _ (⟨#[48]⟩ : ByteArray) [.string (⟨#[48]⟩ : ByteArray)] from rfl) (Reps.one (show Kd.M Kd.string _ _ _ (⟨#[42]⟩ : ByteArray) [.string (⟨#[42]⟩ : ByteArray)] from rfl) (Reps.one (show Kd.M Kd.string _ _ _ (⟨#[42]⟩ : ByteArray) [.string (⟨#[42]⟩ : ByteArray)] from rfl) (Reps.one (show Kd.M Kd.string _ _ _ (⟨#[42]⟩ : ByteArray) [.string (⟨#[42]⟩ : ByteArray)] from rfl) (Reps.none _ _)))))))); intro v177 w1 ho2 hb hg_ hnew_; clear hg_ hnew_; (first | rw [← Ny176.out] at ho2 | (simp only [Int.reduceToNat] at ho2; rw [← Ny176.out] at ho2)); have n0_ := Aside0.mk (Kd.R_lower ho2 (below_size (by repeat (first | (with_reducible first | exact HB.out | apply below_alloc | apply pw_below_drewN | apply below_drew1) | exact HB.out)))); have n1_ := Aside0.mk (below_step (by repeat (first | (with_reducible first | exact HB.out | apply below_alloc | apply pw_below_drewN | apply below_drew1) | exact HB.out)) hb); clear HB; have HO178 := n0_; have HB := n1_; clear n0_ n1_; clear hb ho2))
 go_ret;exact ⟨_, by first | rfl | (simp [errW_none, errW_some] <;> rfl) | (simp [*, errW_none, errW_some] <;> rfl), by (with_reducible repeat (first | apply Kd.R_alloc | apply Kd.R_drewN | apply Kd.R_drew)); exact HO178.out, by repeat (first | (with_reducible first | exact HB.out | apply below_alloc | apply pw_below_drewN | apply below_drew1) | exact HB.out)⟩
end Go.Proofs.YtmecbmgfacpecaaGreatDoor.Pr
namespace Go.Proofs.YtmecbmgfacpecaaGreatDoor.Pr
open Go.RowKit Go.Proofs.YtmecbmgfacpecaaGreatDoorW.PrintWords Go.Proofs.YtmecbmgfacpecaaGreatDoorW.PrintLast Go.Proofs.YtmecbmgfacpecaaGreatDoorW.PrintMore
attribute [local go_sem] max2_int min2_int max_two min_two max_three min_three max_four min_four   -- for this text's walks alone
attribute [local go_sem high] eqA26
def cron_zzSpace.f (a0 : Int) : Option (Bool) := if a0 = 9 then (some true) else (if a0 = 10 then (some true) else (if a0 = 11 then (some true) else (if a0 = 12 then (some true) else (if a0 = 13 then (some true) else (if a0 = 32 then (some true) else (if a0 = 133 then (some true) else (if a0 = 160 then (some true) else (if a0 = 5760 then (some true) else (if a0 = 8232 then (some true) else (if a0 = 8233 then (some true) else (if a0 = 8239 then (some true) else (if a0 = 8287 then (some true) else (if a0 = 12288 then (some true) else (if 8192 ≤ a0 then (some (decide (a0 ≤ 8202))) else (some false)))))))))))))))
set_option maxHeartbeats 8000000 in
set_option maxRecDepth 100000 in
theorem cron_zzSpace.calls (a0 : Int) (r : Bool) (w : World) (h : cron_zzSpace.f a0 = some r) :
  Calls Tryz.prog 144 #[.int .i32 a0] w fun e w' => e = .returned (.bool r) ∧ Drawn0 w w' := by
 have H : (if a0 = 9 then (some true) else (if a0 = 10 then (some true) else (if a0 = 11 then (some true) else (if a0 = 12 then (some true) else (if a0 = 13 then (some true) else (if a0 = 32 then (some true) else (if a0 = 133 then (some true) else (if a0 = 160 then (some true) else (if a0 = 5760 then (some true) else (if a0 = 8232 then (some true) else (if a0 = 8233 then (some true) else (if a0 = 8239 then (some true) else (if a0 = 8287 then (some true) else (if a0 = 12288 then (some true) else (if 8192 ≤ a0 then (some (decide (a0 ≤ 8202))) else (some false)))))))))))))))) = some r := h;clear h;by_cases c2 : a0 = 9
 ·rw [if_pos c2] at H;have c2b0 : (a0 == 9) = true := beq_iff_eq.mpr c2;have c2b1 : (a0 != 9) = false := bne_eq_false_iff_eq.mpr c2;clear c2;obtain rfl := Option.some.inj H;go_enter Tryz.func144, Tryz.ntmps144;go_wp2
  go_ret;exact ⟨by first | rfl | (simp; done) | (simp [*]; done), by repeat (first | exact Drawn0.refl _ | apply Drawn0.step)⟩
 ·rw [if_neg c2] at H;have c2b0 : (a0 == 9) = false := beq_eq_false_iff_ne.mpr c2;have c2b1 : (a0 != 9) = true := bne_iff_ne.mpr c2;by_cases c3 : a0 = 10
  ·rw [if_pos c3] at H;have c3b0 : (a0 == 10) = true := beq_iff_eq.mpr c3;have c3b1 : (a0 != 10) = false := bne_eq_false_iff_eq.mpr c3;clear c3;obtain rfl := Option.some.inj H;go_enter Tryz.func144, Tryz.ntmps144;go_wp2
   go_ret;exact ⟨by first | rfl | (simp; done) | (simp [*]; done), by repeat (first | exact Drawn0.refl _ | apply Drawn0.step)⟩
  ·rw [if_neg c3] at H;have c3b0 : (a0 == 10) = false := beq_eq_false_iff_ne.mpr c3;have c3b1 : (a0 != 10) = true := bne_iff_ne.mpr c3;by_cases c4 : a0 = 11
   ·rw [if_pos c4] at H;have c4b0 : (a0 == 11) = true := beq_iff_eq.mpr c4;have c4b1 : (a0 != 11) = false := bne_eq_false_iff_eq.mpr c4;clear c4;obtain rfl := Option.some.inj H;go_enter Tryz.func144, Tryz.ntmps144;go_wp2
    go_ret;exact ⟨by first | rfl | (simp; done) | (simp [*]; done), by repeat (first | exact Drawn0.refl _ | apply Drawn0.step)⟩
   ·rw [if_neg c4] at H;have c4b0 : (a0 == 11) = false := beq_eq_false_iff_ne.mpr c4;have c4b1 : (a0 != 11) = true := bne_iff_ne.mpr c4;by_cases c5 : a0 = 12
    ·rw [if_pos c5] at H;have c5b0 : (a0 == 12) = true := beq_iff_eq.mpr c5;have c5b1 : (a0 != 12) = false := bne_eq_false_iff_eq.mpr c5;clear c5;obtain rfl := Option.some.inj H;go_enter Tryz.func144, Tryz.ntmps144;go_wp2
     go_ret;exact ⟨by first | rfl | (simp; done) | (simp [*]; done), by repeat (first | exact Drawn0.refl _ | apply Drawn0.step)⟩
    ·rw [if_neg c5] at H;have c5b0 : (a0 == 12) = false := beq_eq_false_iff_ne.mpr c5;have c5b1 : (a0 != 12) = true := bne_iff_ne.mpr c5;by_cases c6 : a0 = 13
     ·rw [if_pos c6] at H;have c6b0 : (a0 == 13) = true := beq_iff_eq.mpr c6;have c6b1 : (a0 != 13) = false := bne_eq_false_iff_eq.mpr c6;clear c6;obtain rfl := Option.some.inj H;go_enter Tryz.func144, Tryz.ntmps144;go_wp2
      go_ret;exact ⟨by first | rfl | (simp; done) | (simp [*]; done), by repeat (first | exact Drawn0.refl _ | apply Drawn0.step)⟩
     ·rw [if_neg c6] at H;have c6b0 : (a0 == 13) = false := beq_eq_false_iff_ne.mpr c6;have c6b1 : (a0 != 13) = true := bne_iff_ne.mpr c6;by_cases c7 : a0 = 32
      ·rw [if_pos c7] at H;have c7b0 : (a0 == 32) = true := beq_iff_eq.mpr c7;have c7b1 : (a0 != 32) = false := bne_eq_false_iff_eq.mpr c7;clear c7;obtain rfl := Option.some.inj H;go_enter Tryz.func144, Tryz.ntmps144;go_wp2
       go_ret;exact ⟨by first | rfl | (simp; done) | (simp [*]; done), by repeat (first | exact Drawn0.refl _ | apply Drawn0.step)⟩
      ·rw [if_neg c7] at H;have c7b0 : (a0 == 32) = false := beq_eq_false_iff_ne.mpr c7;have c7b1 : (a0 != 32) = true := bne_iff_ne.mpr c7;by_cases c8 : a0 = 133
       ·rw [if_pos c8] at H;have c8b0 : (a0 == 133) = true := beq_iff_eq.mpr c8;have c8b1 : (a0 != 133) = false := bne_eq_false_iff_eq.mpr c8;clear c8;obtain rfl := Option.some.inj H;go_enter Tryz.func144, Tryz.ntmps144;go_wp2
        go_ret;exact ⟨by first | rfl | (simp; done) | (simp [*]; done), by repeat (first | exact Drawn0.refl _ | apply Drawn0.step)⟩
       ·rw [if_neg c8] at H;have c8b0 : (a0 == 133) = false := beq_eq_false_iff_ne.mpr c8;have c8b1 : (a0 != 133) = true := bne_iff_ne.mpr c8;by_cases c9 : a0 = 160
        ·rw [if_pos c9] at H;have c9b0 : (a0 == 160) = true := beq_iff_eq.mpr c9;have c9b1 : (a0 != 160) = false := bne_eq_false_iff_eq.mpr c9;clear c9;obtain rfl := Option.some.inj H;go_enter Tryz.func144, Tryz.ntmps144;go_wp2
         go_ret;exact ⟨by first | rfl | (simp; done) | (simp [*]; done), by repeat (first | exact Drawn0.refl _ | apply Drawn0.step)⟩
        ·rw [if_neg c9] at H;have c9b0 : (a0 == 160) = false := beq_eq_false_iff_ne.mpr c9;have c9b1 : (a0 != 160) = true := bne_iff_ne.mpr c9;by_cases c10 : a0 = 5760
         ·rw [if_pos c10] at H;have c10b0 : (a0 == 5760) = true := beq_iff_eq.mpr c10;have c10b1 : (a0 != 5760) = false := bne_eq_false_iff_eq.mpr c10;clear c10;obtain rfl := Option.some.inj H;go_enter Tryz.func144, Tryz.ntmps144;go_wp2
          go_ret;exact ⟨by first | rfl | (simp; done) | (simp [*]; done), by repeat (first | exact Drawn0.refl _ | apply Drawn0.step)⟩
         ·rw [if_neg c10] at H;have c10b0 : (a0 == 5760) = false := beq_eq_false_iff_ne.mpr c10;have c10b1 : (a0 != 5760) = true := bne_iff_ne.mpr c10;by_cases c11 : a0 = 8232
          ·rw [if_pos c11] at H;have c11b0 : (a0 == 8232) = true := beq_iff_eq.mpr c11;have c11b1 : (a0 != 8232) = false := bne_eq_false_iff_eq.mpr c11;clear c11;obtain rfl := Option.some.inj H;go_enter Tryz.func144, Tryz.ntmps144;go_wp2
           go_ret;exact ⟨by first | rfl | (simp; done) | (simp [*]; done), by repeat (first | exact Drawn0.refl _ | apply Drawn0.step)⟩
          ·rw [if_neg c11] at H;have c11b0 : (a0 == 8232) = false := beq_eq_false_iff_ne.mpr c11;have c11b1 : (a0 != 8232) = true := bne_iff_ne.mpr c11;by_cases c12 : a0 = 8233
           ·rw [if_pos c12] at H;have c12b0 : (a0 == 8233) = true := beq_iff_eq.mpr c12;have c12b1 : (a0 != 8233) = false := bne_eq_false_iff_eq.mpr c12;clear c12;obtain rfl := Option.some.inj H;go_enter Tryz.func144, Tryz.ntmps144;go_wp2
            go_ret;exact ⟨by first | rfl | (simp; done) | (simp [*]; done), by repeat (first | exact Drawn0.refl _ | apply Drawn0.step)⟩
           ·rw [if_neg c12] at H;have c12b0 : (a0 == 8233) = false := beq_eq_false_iff_ne.mpr c12;have c12b1 : (a0 != 8233) = true := bne_iff_ne.mpr c12;by_cases c13 : a0 = 8239
            ·rw [if_pos c13] at H;have c13b0 : (a0 == 8239) = true := beq_iff_eq.mpr c13;have c13b1 : (a0 != 8239) = false := bne_eq_false_iff_eq.mpr c13;clear c13;obtain rfl := Option.some.inj H;go_enter Tryz.func144, Tryz.ntmps144;go_wp2
             go_ret;exact ⟨by first | rfl | (simp; done) | (simp [*]; done), by repeat (first | exact Drawn0.refl _ | apply Drawn0.step)⟩
            ·rw [if_neg c13] at H;have c13b0 : (a0 == 8239) = false := beq_eq_false_iff_ne.mpr c13;have c13b1 : (a0 != 8239) = true := bne_iff_ne.mpr c13;by_cases c14 : a0 = 8287
             ·rw [if_pos c14] at H;have c14b0 : (a0 == 8287) = true := beq_iff_eq.mpr c14;have c14b1 : (a0 != 8287) = false := bne_eq_false_iff_eq.mpr c14;clear c14;obtain rfl := Option.some.inj H;go_enter Tryz.func144, Tryz.ntmps144;go_wp2
              go_ret;exact ⟨by first | rfl | (simp; done) | (simp [*]; done), by repeat (first | exact Drawn0.refl _ | apply Drawn0.step)⟩
             ·rw [if_neg c14] at H;have c14b0 : (a0 == 8287) = false := beq_eq_false_iff_ne.mpr c14;have c14b1 : (a0 != 8287) = true := bne_iff_ne.mpr c14;by_cases c15 : a0 = 12288
              ·rw [if_pos c15] at H;have c15b0 : (a0 == 12288) = true := beq_iff_eq.mpr c15;have c15b1 : (a0 != 12288) = false := bne_eq_false_iff_eq.mpr c15;clear c15;obtain rfl := Option.some.inj H;go_enter Tryz.func144, Tryz.ntmps144;go_wp2
               go_ret;exact ⟨by first | rfl | (simp; done) | (simp [*]; done), by repeat (first | exact Drawn0.refl _ | apply Drawn0.step)⟩
              ·rw [if_neg c15] at H;have c15b0 : (a0 == 12288) = false := beq_eq_false_iff_ne.mpr c15;have c15b1 : (a0 != 12288) = true := bne_iff_ne.mpr c15;by_cases c16 : 8192 ≤ a0
               ·rw [if_pos c16] at H;have c16b0 : decide (8192 ≤ a0) = true := decide_eq_true c16;clear c16;obtain rfl := Option.some.inj H;go_enter Tryz.func144, Tryz.ntmps144;go_wp2
                go_ret;exact ⟨by first | rfl | (simp; done) | (simp [*]; done), by repeat (first | exact Drawn0.refl _ | apply Drawn0.step)⟩
               ·rw [if_neg c16] at H;have c16b0 : decide (8192 ≤ a0) = false := decide_eq_false c16;clear c16;obtain rfl := Option.some.inj H;go_enter Tryz.func144, Tryz.ntmps144;go_wp2
                go_ret;exact ⟨by first | rfl | (simp; done) | (simp [*]; done), by repeat (first | exact Drawn0.refl _ | apply Drawn0.step)⟩
end Go.Proofs.YtmecbmgfacpecaaGreatDoor.Pr
namespace Go.Proofs.YtmecbmgfacpecaaGreatDoor.Pr
open Go.RowKit Go.Proofs.YtmecbmgfacpecaaGreatDoorW.PrintWords Go.Proofs.YtmecbmgfacpecaaGreatDoorW.PrintLast Go.Proofs.YtmecbmgfacpecaaGreatDoorW.PrintMore
attribute [local go_sem] max2_int min2_int max_two min_two max_three min_three max_four min_four   -- for this text's walks alone
attribute [local go_sem high] eqA26
def gotime_Duration_Nanoseconds.f (a0 : Int) : Option (Int) := some a0
set_option maxHeartbeats 8000000 in
set_option maxRecDepth 100000 in
theorem gotime_Duration_Nanoseconds.calls (a0 : Int) (r : Int) (w : World) (h : gotime_Duration_Nanoseconds.f a0 = some r) :
  Calls Tryz.prog 178 #[.int .i64 a0] w fun e w' => e = .returned (.int .i64 r) ∧ Drawn0 w w' := by
 have H : (some a0) = some r := h;clear h;obtain rfl := Option.some.inj H;go_enter Tryz.func178, Tryz.ntmps178;go_wp2
 go_ret;exact ⟨by first | rfl | (simp; done) | (simp [*]; done), by repeat (first | exact Drawn0.refl _ | apply Drawn0.step)⟩
end Go.Proofs.YtmecbmgfacpecaaGreatDoor.Pr
namespace Go.Proofs.YtmecbmgfacpecaaGreatDoor.Pr
open Go.RowKit Go.Proofs.YtmecbmgfacpecaaGreatDoorW.PrintWords Go.Proofs.YtmecbmgfacpecaaGreatDoorW.PrintLast Go.Proofs.YtmecbmgfacpecaaGreatDoorW.PrintMore
attribute [local go_sem] max2_int min2_int max_two min_two max_three min_three max_four min_four   -- for this text's walks alone
attribute [local go_sem high] eqA26
def cron_Every.f (a0 : Int) : Option (Int) := if a0 < 1000000000 then ((gotime_Duration_Nanoseconds.f 1000000000).bind fun t171 => (some (wrap64 (1000000000 - (Int.tmod t171 1000000000))))) else ((gotime_Duration_Nanoseconds.f a0).bind fun t172 => (some (wrap64 (a0 - (Int.tmod t172 1000000000)))))
set_option maxHeartbeats 8000000 in
set_option maxRecDepth 100000 in
theorem cron_Every.calls (a0 : Int) (r : Int) (w : World) (h : cron_Every.f a0 = some r) :
  Calls Tryz.prog 147 #[.int .i64 a0] w fun e w' => e = .returned (.agg #[.int .i64 r]) ∧ Below w.heap.size w w' := by
 have hu174 := Tryz.underlying174;have HB := Aside0.mk (Below.refl w.heap.size w);have H : (if a0 < 1000000000 then ((gotime_Duration_Nanoseconds.f 1000000000).bind fun t171 => (some (wrap64 (1000000000 - (Int.tmod t171 1000000000))))) else ((gotime_Duration_Nanoseconds.f a0).bind fun t172 => (some (wrap64 (a0 - (Int.tmod t172 1000000000)))))) = some r := h;clear h;by_cases c2 : a0 < 1000000000
 ·rw [if_pos c2] at H;have c2b0 : decide (a0 < 1000000000) = true := decide_eq_true c2;clear c2;replace H := Option.bind_eq_some_iff.mp H;obtain ⟨t171, A30, H⟩ := H;replace H : (some (wrap64 (1000000000 - (Int.tmod t171 1000000000)))) = some r := H;have A3 := Aside0.mk A30;clear A30;obtain rfl := Option.some.inj H;go_enter Tryz.func147, Tryz.ntmps147;go_wp2_with (first | ((with_reducible refine gate_dst (N := 2) rfl ?_); refine box_event ?hg (N := 2) ?hd (cs := #[.int .i64 0]) (t := 174) ?hr ?_; (case hd => rfl); (case hg => rfl); (case hr => first | (go_simp; done) | (go_simp; rfl)); intro gb170 hg w4 hbox hb; have n0_ := Aside0.mk (below_step (by repeat (first | (with_reducible first | exact HB.out | apply below_alloc | apply pw_below_drewN | apply below_drew1) | exact HB.out)) hb); have n1_ := Aside0.mk (hbox); have n2_ := Aside0.mk ((by rw [hg]; exact (below_size (by repeat (first | (with_reducible first | exact HB.out | apply below_alloc | apply pw_below_drewN | apply below_drew1) | exact HB.out))) : w.heap.size ≤ gb170)); have n3_ := Aside0.mk ((by rw [hg]; exact (below_size (by repeat (first | (with_reducible first | exact HB.out | apply below_alloc | apply pw_below_drewN | apply below_drew1) | exact HB.out))) : w.heap.size ≤ gb170)); clear HB; have HB := n0_; have BK170 := n1_; have GW170 := n2_; have GE170 := n3_; clear n0_ n1_ n2_ n3_; clear hb hbox hg) | ((with_reducible refine gate_callee (f := 178) rfl ?_); refine goesL_ (some 7) rfl rfl Tryz.func178 (by kernel_rfl) rfl #[.int .i64 1000000000] rfl (by (try simp only [List.map_toArray, List.map_cons, List.map_nil]); first | done | rfl | (simp only [List.length_drop, List.length_take]; rfl)) ?_; (with_reducible refine (gotime_Duration_Nanoseconds.calls 1000000000 t171 _ A3.out).mono ?_); rintro e w' ⟨rfl, ⟨nd, rfl⟩⟩; refine ⟨_, rfl, ?_⟩; (try (rw [drewN_self w4]; generalize hq_ : World.drewN w4 _ = w4; have n0_ : Aside0 (w4.heap[gb170]? = some (.cells #[.int .i64 0] 174 (0, 0))) := ⟨by rw [← hq_]; exact (by (with_reducible repeat (first | refine blk_drewN ?_ _ | refine blk_drew ?_ | refine blk_alloc ?_ _)); exact BK170.out)⟩; have n1_ : Aside0 (Below w.heap.size w w4) := ⟨by rw [← hq_]; exact (by repeat (first | (with_reducible first | exact HB.out | apply below_alloc | apply pw_below_drewN | apply below_drew1 | refine below_set ?_ GE170.out) | exact HB.out))⟩; clear BK170 HB hq_; have BK170 := n0_; have HB := n1_; clear n0_ n1_)); have hcz5_0 : w4.cell? ⟨gb170, 0, none⟩ = some (.int .i64 0) := (blk_cell BK170.out 0).trans rfl; have hfz5_0 := blk_frozen BK170.out 0))
  refine bodyPost_ret (results_cell_row rfl _ _ gb170 174 #[.int .i64 (wrap64 (1000000000 - (Int.tmod t171 1000000000)))] (0, 0) _ rfl (by (with_reducible repeat (first | refine blk_drewN ?_ _ | refine blk_drew ?_ | refine blk_alloc ?_ _)); refine blk_put (cs := #[.int .i64 0]) ?_ 0 _ rfl; (with_reducible repeat (first | refine blk_drewN ?_ _ | refine blk_drew ?_ | refine blk_alloc ?_ _)); exact BK170.out) Tryz.underlying174 rfl (by kernel_rfl)) rfl ?_;exact ⟨by first | rfl | (simp [errW_none, errW_some] <;> rfl) | (simp [*, errW_none, errW_some] <;> rfl), by repeat (first | (with_reducible first | exact HB.out | apply below_alloc | apply pw_below_drewN | apply below_drew1 | refine below_set ?_ GE170.out) | exact HB.out)⟩
 ·rw [if_neg c2] at H;have c2b0 : decide (a0 < 1000000000) = false := decide_eq_false c2;clear c2;replace H := Option.bind_eq_some_iff.mp H;obtain ⟨t172, A60, H⟩ := H;replace H : (some (wrap64 (a0 - (Int.tmod t172 1000000000)))) = some r := H;have A6 := Aside0.mk A60;clear A60;obtain rfl := Option.some.inj H;go_enter Tryz.func147, Tryz.ntmps147;go_wp2_with (first | ((with_reducible refine gate_dst (N := 2) rfl ?_); refine box_event ?hg (N := 2) ?hd (cs := #[.int .i64 0]) (t := 174) ?hr ?_; (case hd => rfl); (case hg => rfl); (case hr => first | (go_simp; done) | (go_simp; rfl)); intro gb170 hg w7 hbox hb; have n0_ := Aside0.mk (below_step (by repeat (first | (with_reducible first | exact HB.out | apply below_alloc | apply pw_below_drewN | apply below_drew1) | exact HB.out)) hb); have n1_ := Aside0.mk (hbox); have n2_ := Aside0.mk ((by rw [hg]; exact (below_size (by repeat (first | (with_reducible first | exact HB.out | apply below_alloc | apply pw_below_drewN | apply below_drew1) | exact HB.out))) : w.heap.size ≤ gb170)); have n3_ := Aside0.mk ((by rw [hg]; exact (below_size (by repeat (first | (with_reducible first | exact HB.out | apply below_alloc | apply pw_below_drewN | apply below_drew1) | exact HB.out))) : w.heap.size ≤ gb170)); clear HB; have HB := n0_; have BK170 := n1_; have GW170 := n2_; have GE170 := n3_; clear n0_ n1_ n2_ n3_; clear hb hbox hg) | ((with_reducible refine gate_callee (f := 178) rfl ?_); refine goesL_ (some 7) rfl rfl Tryz.func178 (by kernel_rfl) rfl #[.int .i64 a0] rfl (by (try simp only [List.map_toArray, List.map_cons, List.map_nil]); first | done | rfl | (simp only [List.length_drop, List.length_take]; rfl)) ?_; (with_reducible refine (gotime_Duration_Nanoseconds.calls a0 t172 _ A6.out).mono ?_); rintro e w' ⟨rfl, ⟨nd, rfl⟩⟩; refine ⟨_, rfl, ?_⟩; (try (rw [drewN_self w7]; generalize hq_ : World.drewN w7 _ = w7; have n0_ : Aside0 (w7.heap[gb170]? = some (.cells #[.int .i64 0] 174 (0, 0))) := ⟨by rw [← hq_]; exact (by (with_reducible repeat (first | refine blk_drewN ?_ _ | refine blk_drew ?_ | refine blk_alloc ?_ _)); exact BK170.out)⟩; have n1_ : Aside0 (Below w.heap.size w w7) := ⟨by rw [← hq_]; exact (by repeat (first | (with_reducible first | exact HB.out | apply below_alloc | apply pw_below_drewN | apply below_drew1 | refine below_set ?_ GE170.out) | exact HB.out))⟩; clear BK170 HB hq_; have BK170 := n0_; have HB := n1_; clear n0_ n1_)); have hcz8_0 : w7.cell? ⟨gb170, 0, none⟩ = some (.int .i64 0) := (blk_cell BK170.out 0).trans rfl; have hfz8_0 := blk_frozen BK170.out 0))
  refine bodyPost_ret (results_cell_row rfl _ _ gb170 174 #[.int .i64 (wrap64 (a0 - (Int.tmod t172 1000000000)))] (0, 0) _ rfl (by (with_reducible repeat (first | refine blk_drewN ?_ _ | refine blk_drew ?_ | refine blk_alloc ?_ _)); refine blk_put (cs := #[.int .i64 0]) ?_ 0 _ rfl; (with_reducible repeat (first | refine blk_drewN ?_ _ | refine blk_drew ?_ | refine blk_alloc ?_ _)); exact BK170.out) Tryz.underlying174 rfl (by kernel_rfl)) rfl ?_;exact ⟨by first | rfl | (simp [errW_none, errW_some] <;> rfl) | (simp [*, errW_none, errW_some] <;> rfl), by repeat (first | (with_reducible first | exact HB.out | apply below_alloc | apply pw_below_drewN | apply below_drew1 | refine below_set ?_ GE170.out) | exact HB.out)⟩
end Go.Proofs.YtmecbmgfacpecaaGreatDoor.Pr
