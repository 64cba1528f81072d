/- Functions of the program and of its library as plain Lean functions, printed by the kit's print.sh, merged by wip/tools/pack.py. Conditions: none. -/
import Derived.Test.YtlopkdhblfibkaaPrA
namespace Go.Proofs.Ytlopkdhblfibkaa.Pr
open Go.RowKit Go.Proofs.YtlopkdhblfibkaaW.PrintWords Go.Proofs.YtlopkdhblfibkaaW.PrintLast
set_option linter.unusedVariables false
set_option linter.unusedSimpArgs false
def laws_zzFits1.f (l0_0 : List Int) (l0_1 : List Bool) (l0_2 : List Int) (l0_3 : List Int) : Option (Bool) := if (l0_0.length : Int) > 2147483647 then (some false) else (if (l0_1.length : Int) > 2147483647 then (some false) else (if (l0_2.length : Int) > 2147483647 then (some false) else (if (l0_3.length : Int) > 2147483647 then (some false) else (some true))))
set_option maxHeartbeats 8000000 in
set_option maxRecDepth 100000 in
theorem laws_zzFits1.calls (A0_0 : Option Addr) (c0_0 : Nat) (l0_0 : List Int) (A0_1 : Option Addr) (c0_1 : Nat) (l0_1 : List Bool) (A0_2 : Option Addr) (c0_2 : Nat) (l0_2 : List Int) (A0_3 : Option Addr) (c0_3 : Nat) (l0_3 : List Int) (r : Bool) (w : World) (hr0_0 : Kd.C (Kd.int .i64) w A0_0 l0_0.length l0_0) (hc0_0 : l0_0.length ≤ c0_0) (hr0_1 : Kd.C Kd.bool w A0_1 l0_1.length l0_1) (hc0_1 : l0_1.length ≤ c0_1) (hr0_2 : Kd.C (Kd.int .i64) w A0_2 l0_2.length l0_2) (hc0_2 : l0_2.length ≤ c0_2) (hr0_3 : Kd.C (Kd.int .i64) w A0_3 l0_3.length l0_3) (hc0_3 : l0_3.length ≤ c0_3) (h : laws_zzFits1.f l0_0 l0_1 l0_2 l0_3 = some r) :
  Calls Try.prog 4 #[.agg #[.slice A0_0 l0_0.length c0_0, .slice A0_1 l0_1.length c0_1, .slice A0_2 l0_2.length c0_2, .slice A0_3 l0_3.length c0_3]] w fun e w' => e = .returned (.bool r) ∧ Below w.heap.size w w' := by
 have hu29 := Try.underlying29
 have HR0_0 := Aside0.mk hr0_0
 have HC0_0 := Aside0.mk hc0_0
 clear hr0_0 hc0_0
 have HR0_1 := Aside0.mk hr0_1
 have HC0_1 := Aside0.mk hc0_1
 clear hr0_1 hc0_1
 have HR0_2 := Aside0.mk hr0_2
 have HC0_2 := Aside0.mk hc0_2
 clear hr0_2 hc0_2
 have HR0_3 := Aside0.mk hr0_3
 have HC0_3 := Aside0.mk hc0_3
 clear hr0_3 hc0_3
 have HB := Aside0.mk (Below.refl w.heap.size w)
 have H : (if (l0_0.length : Int) > 2147483647 then (some false) else (if (l0_1.length : Int) > 2147483647 then (some false) else (if (l0_2.length : Int) > 2147483647 then (some false) else (if (l0_3.length : Int) > 2147483647 then (some false) else (some true))))) = some r := h
 clear h
 by_cases c2 : (l0_0.length : Int) > 2147483647
 ·rw [if_pos c2] at H
  have c2b0 : decide (2147483647 < (l0_0.length : Int)) = true := decide_eq_true c2
  have c2b1 : decide (2147483647 < l0_0.length) = true := decide_eq_true (by omega)
  clear c2
  obtain rfl := Option.some.inj H
  go_enter Try.func4, Try.ntmps4
  go_wp2_with (first | ((with_reducible refine gate_dst (N := 1) rfl ?_); refine box_event ?hg (N := 1) ?hd (cs := #[.slice A0_0 l0_0.length c0_0, .slice A0_1 l0_1.length c0_1, .slice A0_2 l0_2.length c0_2, .slice A0_3 l0_3.length c0_3]) (t := 29) ?hr ?_; (case hd => rfl); (case hg => rfl); (case hr => first | (go_simp; done) | (go_simp; rfl)); intro gb101 hg w3 hbox hb; have n0_ := Aside0.mk (below_step (by repeat (first | (with_reducible first | exact HB.out | apply below_alloc | apply pw_below_drewN | apply below_drew1) | exact HB.out)) hb); have n1_ := Aside0.mk (hbox); have n2_ := Aside0.mk ((by rw [hg]; exact (below_size (by repeat (first | (with_reducible first | exact HB.out | apply below_alloc | apply pw_below_drewN | apply below_drew1) | exact HB.out))) : w.heap.size ≤ gb101)); have n3_ := Aside0.mk ((by rw [hg]; exact (below_size (by repeat (first | (with_reducible first | exact HB.out | apply below_alloc | apply pw_below_drewN | apply below_drew1) | exact HB.out))) : w.heap.size ≤ gb101)); clear HB; have HB := n0_; have BK101 := n1_; have GW101 := n2_; have GE101 := n3_; clear n0_ n1_ n2_ n3_; clear hb hbox hg; have hcz4_0 : w3.cell? ⟨gb101, 0, none⟩ = some (.slice A0_0 l0_0.length c0_0) := (blk_cell BK101.out 0).trans rfl; have hcz4_1 : w3.cell? ⟨gb101, 1, none⟩ = some (.slice A0_1 l0_1.length c0_1) := (blk_cell BK101.out 1).trans rfl; have hcz4_2 : w3.cell? ⟨gb101, 2, none⟩ = some (.slice A0_2 l0_2.length c0_2) := (blk_cell BK101.out 2).trans rfl; have hcz4_3 : w3.cell? ⟨gb101, 3, none⟩ = some (.slice A0_3 l0_3.length c0_3) := (blk_cell BK101.out 3).trans rfl; have hfz4_0 := blk_frozen BK101.out 0; have hfz4_1 := blk_frozen BK101.out 1; have hfz4_2 := blk_frozen BK101.out 2; have hfz4_3 := blk_frozen BK101.out 3))
  go_ret
  exact ⟨by first | rfl | (simp [errW_none, errW_some] <;> rfl) | (simp [*, errW_none, errW_some] <;> rfl), by repeat (first | (with_reducible first | exact HB.out | apply below_alloc | apply pw_below_drewN | apply below_drew1 | refine below_set ?_ GE101.out) | exact HB.out)⟩
 ·rw [if_neg c2] at H
  have c2b0 : decide (2147483647 < (l0_0.length : Int)) = false := decide_eq_false c2
  have c2b1 : decide (2147483647 < l0_0.length) = false := decide_eq_false (by omega)
  clear c2
  by_cases c5 : (l0_1.length : Int) > 2147483647
  ·rw [if_pos c5] at H
   have c5b0 : decide (2147483647 < (l0_1.length : Int)) = true := decide_eq_true c5
   have c5b1 : decide (2147483647 < l0_1.length) = true := decide_eq_true (by omega)
   clear c5
   obtain rfl := Option.some.inj H
   go_enter Try.func4, Try.ntmps4
   go_wp2_with (first | ((with_reducible refine gate_dst (N := 1) rfl ?_); refine box_event ?hg (N := 1) ?hd (cs := #[.slice A0_0 l0_0.length c0_0, .slice A0_1 l0_1.length c0_1, .slice A0_2 l0_2.length c0_2, .slice A0_3 l0_3.length c0_3]) (t := 29) ?hr ?_; (case hd => rfl); (case hg => rfl); (case hr => first | (go_simp; done) | (go_simp; rfl)); intro gb101 hg w6 hbox hb; have n0_ := Aside0.mk (below_step (by repeat (first | (with_reducible first | exact HB.out | apply below_alloc | apply pw_below_drewN | apply below_drew1) | exact HB.out)) hb); have n1_ := Aside0.mk (hbox); have n2_ := Aside0.mk ((by rw [hg]; exact (below_size (by repeat (first | (with_reducible first | exact HB.out | apply below_alloc | apply pw_below_drewN | apply below_drew1) | exact HB.out))) : w.heap.size ≤ gb101)); have n3_ := Aside0.mk ((by rw [hg]; exact (below_size (by repeat (first | (with_reducible first | exact HB.out | apply below_alloc | apply pw_below_drewN | apply below_drew1) | exact HB.out))) : w.heap.size ≤ gb101)); clear HB; have HB := n0_; have BK101 := n1_; have GW101 := n2_; have GE101 := n3_; clear n0_ n1_ n2_ n3_; clear hb hbox hg; have hcz7_0 : w6.cell? ⟨gb101, 0, none⟩ = some (.slice A0_0 l0_0.length c0_0) := (blk_cell BK101.out 0).trans rfl; have hcz7_1 : w6.cell? ⟨gb101, 1, none⟩ = some (.slice A0_1 l0_1.length c0_1) := (blk_cell BK101.out 1).trans rfl; have hcz7_2 : w6.cell? ⟨gb101, 2, none⟩ = some (.slice A0_2 l0_2.length c0_2) := (blk_cell BK101.out 2).trans rfl; have hcz7_3 : w6.cell? ⟨gb101, 3, none⟩ = some (.slice A0_3 l0_3.length c0_3) := (blk_cell BK101.out 3).trans rfl; have hfz7_0 := blk_frozen BK101.out 0; have hfz7_1 := blk_frozen BK101.out 1; have hfz7_2 := blk_frozen BK101.out 2; have hfz7_3 := blk_frozen BK101.out 3))
   go_ret
   exact ⟨by first | rfl | (simp [errW_none, errW_some] <;> rfl) | (simp [*, errW_none, errW_some] <;> rfl), by repeat (first | (with_reducible first | exact HB.out | apply below_alloc | apply pw_below_drewN | apply below_drew1 | refine below_set ?_ GE101.out) | exact HB.out)⟩
  ·rw [if_neg c5] at H
   have c5b0 : decide (2147483647 < (l0_1.length : Int)) = false := decide_eq_false c5
   have c5b1 : decide (2147483647 < l0_1.length) = false := decide_eq_false (by omega)
   clear c5
   by_cases c8 : (l0_2.length : Int) > 2147483647
   ·rw [if_pos c8] at H
    have c8b0 : decide (2147483647 < (l0_2.length : Int)) = true := decide_eq_true c8
    have c8b1 : decide (2147483647 < l0_2.length) = true := decide_eq_true (by omega)
    clear c8
    obtain rfl := Option.some.inj H
    go_enter Try.func4, Try.ntmps4
    go_wp2_with (first | ((with_reducible refine gate_dst (N := 1) rfl ?_); refine box_event ?hg (N := 1) ?hd (cs := #[.slice A0_0 l0_0.length c0_0, .slice A0_1 l0_1.length c0_1, .slice A0_2 l0_2.length c0_2, .slice A0_3 l0_3.length c0_3]) (t := 29) ?hr ?_; (case hd => rfl); (case hg => rfl); (case hr => first | (go_simp; done) | (go_simp; rfl)); intro gb101 hg w9 hbox hb; have n0_ := Aside0.mk (below_step (by repeat (first | (with_reducible first | exact HB.out | apply below_alloc | apply pw_below_drewN | apply below_drew1) | exact HB.out)) hb); have n1_ := Aside0.mk (hbox); have n2_ := Aside0.mk ((by rw [hg]; exact (below_size (by repeat (first | (with_reducible first | exact HB.out | apply below_alloc | apply pw_below_drewN | apply below_drew1) | exact HB.out))) : w.heap.size ≤ gb101)); have n3_ := Aside0.mk ((by rw [hg]; exact (below_size (by repeat (first | (with_reducible first | exact HB.out | apply below_alloc | apply pw_below_drewN | apply below_drew1) | exact HB.out))) : w.heap.size ≤ gb101)); clear HB; have HB := n0_; have BK101 := n1_; have GW101 := n2_; have GE101 := n3_; clear n0_ n1_ n2_ n3_; clear hb hbox hg; have hcz10_0 : w9.cell? ⟨gb101, 0, none⟩ = some (.slice A0_0 l0_0.length c0_0) := (blk_cell BK101.out 0).trans rfl; have hcz10_1 : w9.cell? ⟨gb101, 1, none⟩ = some (.slice A0_1 l0_1.length c0_1) := (blk_cell BK101.out 1).trans rfl; have hcz10_2 : w9.cell? ⟨gb101, 2, none⟩ = some (.slice A0_2 l0_2.length c0_2) := (blk_cell BK101.out 2).trans rfl; have hcz10_3 : w9.cell? ⟨gb101, 3, none⟩ = some (.slice A0_3 l0_3.length c0_3) := (blk_cell BK101.out 3).trans rfl; have hfz10_0 := blk_frozen BK101.out 0; have hfz10_1 := blk_frozen BK101.out 1; have hfz10_2 := blk_frozen BK101.out 2; have hfz10_3 := blk_frozen BK101.out 3))
    go_ret
    exact ⟨by first | rfl | (simp [errW_none, errW_some] <;> rfl) | (simp [*, errW_none, errW_some] <;> rfl), by repeat (first | (with_reducible first | exact HB.out | apply below_alloc | apply pw_below_drewN | apply below_drew1 | refine below_set ?_ GE101.out) | exact HB.out)⟩
   ·rw [if_neg c8] at H
    have c8b0 : decide (2147483647 < (l0_2.length : Int)) = false := decide_eq_false c8
    have c8b1 : decide (2147483647 < l0_2.length) = false := decide_eq_false (by omega)
    clear c8
    by_cases c11 : (l0_3.length : Int) > 2147483647
    ·rw [if_pos c11] at H
     have c11b0 : decide (2147483647 < (l0_3.length : Int)) = true := decide_eq_true c11
     have c11b1 : decide (2147483647 < l0_3.length) = true := decide_eq_true (by omega)
     clear c11
     obtain rfl := Option.some.inj H
     go_enter Try.func4, Try.ntmps4
     go_wp2_with (first | ((with_reducible refine gate_dst (N := 1) rfl ?_); refine box_event ?hg (N := 1) ?hd (cs := #[.slice A0_0 l0_0.length c0_0, .slice A0_1 l0_1.length c0_1, .slice A0_2 l0_2.length c0_2, .slice A0_3 l0_3.length c0_3]) (t := 29) ?hr ?_; (case hd => rfl); (case hg => rfl); (case hr => first | (go_simp; done) | (go_simp; rfl)); intro gb101 hg w12 hbox hb; have n0_ := Aside0.mk (below_step (by repeat (first | (with_reducible first | exact HB.out | apply below_alloc | apply pw_below_drewN | apply below_drew1) | exact HB.out)) hb); have n1_ := Aside0.mk (hbox); have n2_ := Aside0.mk ((by rw [hg]; exact (below_size (by repeat (first | (with_reducible first | exact HB.out | apply below_alloc | apply pw_below_drewN | apply below_drew1) | exact HB.out))) : w.heap.size ≤ gb101)); have n3_ := Aside0.mk ((by rw [hg]; exact (below_size (by repeat (first | (with_reducible first | exact HB.out | apply below_alloc | apply pw_below_drewN | apply below_drew1) | exact HB.out))) : w.heap.size ≤ gb101)); clear HB; have HB := n0_; have BK101 := n1_; have GW101 := n2_; have GE101 := n3_; clear n0_ n1_ n2_ n3_; clear hb hbox hg; have hcz13_0 : w12.cell? ⟨gb101, 0, none⟩ = some (.slice A0_0 l0_0.length c0_0) := (blk_cell BK101.out 0).trans rfl; have hcz13_1 : w12.cell? ⟨gb101, 1, none⟩ = some (.slice A0_1 l0_1.length c0_1) := (blk_cell BK101.out 1).trans rfl; have hcz13_2 : w12.cell? ⟨gb101, 2, none⟩ = some (.slice A0_2 l0_2.length c0_2) := (blk_cell BK101.out 2).trans rfl; have hcz13_3 : w12.cell? ⟨gb101, 3, none⟩ = some (.slice A0_3 l0_3.length c0_3) := (blk_cell BK101.out 3).trans rfl; have hfz13_0 := blk_frozen BK101.out 0; have hfz13_1 := blk_frozen BK101.out 1; have hfz13_2 := blk_frozen BK101.out 2; have hfz13_3 := blk_frozen BK101.out 3))
     go_ret
     exact ⟨by first | rfl | (simp [errW_none, errW_some] <;> rfl) | (simp [*, errW_none, errW_some] <;> rfl), by repeat (first | (with_reducible first | exact HB.out | apply below_alloc | apply pw_below_drewN | apply below_drew1 | refine below_set ?_ GE101.out) | exact HB.out)⟩
    ·rw [if_neg c11] at H
     have c11b0 : decide (2147483647 < (l0_3.length : Int)) = false := decide_eq_false c11
     have c11b1 : decide (2147483647 < l0_3.length) = false := decide_eq_false (by omega)
     clear c11
     obtain rfl := Option.some.inj H
     go_enter Try.func4, Try.ntmps4
     go_wp2_with (first | ((with_reducible refine gate_dst (N := 1) rfl ?_); refine box_event ?hg (N := 1) ?hd (cs := #[.slice A0_0 l0_0.length c0_0, .slice A0_1 l0_1.length c0_1, .slice A0_2 l0_2.length c0_2, .slice A0_3 l0_3.length c0_3]) (t := 29) ?hr ?_; (case hd => rfl); (case hg => rfl); (case hr => first | (go_simp; done) | (go_simp; rfl)); intro gb101 hg w14 hbox hb; have n0_ := Aside0.mk (below_step (by repeat (first | (with_reducible first | exact HB.out | apply below_alloc | apply pw_below_drewN | apply below_drew1) | exact HB.out)) hb); have n1_ := Aside0.mk (hbox); have n2_ := Aside0.mk ((by rw [hg]; exact (below_size (by repeat (first | (with_reducible first | exact HB.out | apply below_alloc | apply pw_below_drewN | apply below_drew1) | exact HB.out))) : w.heap.size ≤ gb101)); have n3_ := Aside0.mk ((by rw [hg]; exact (below_size (by repeat (first | (with_reducible first | exact HB.out | apply below_alloc | apply pw_below_drewN | apply below_drew1) | exact HB.out))) : w.heap.size ≤ gb101)); clear HB; have HB := n0_; have BK101 := n1_; have GW101 := n2_; have GE101 := n3_; clear n0_ n1_ n2_ n3_; clear hb hbox hg; have hcz15_0 : w14.cell? ⟨gb101, 0, none⟩ = some (.slice A0_0 l0_0.length c0_0) := (blk_cell BK101.out 0).trans rfl; have hcz15_1 : w14.cell? ⟨gb101, 1, none⟩ = some (.slice A0_1 l0_1.length c0_1) := (blk_cell BK101.out 1).trans rfl; have hcz15_2 : w14.cell? ⟨gb101, 2, none⟩ = some (.slice A0_2 l0_2.length c0_2) := (blk_cell BK101.out 2).trans rfl; have hcz15_3 : w14.cell? ⟨gb101, 3, none⟩ = some (.slice A0_3 l0_3.length c0_3) := (blk_cell BK101.out 3).trans rfl; have hfz15_0 := blk_frozen BK101.out 0; have hfz15_1 := blk_frozen BK101.out 1; have hfz15_2 := blk_frozen BK101.out 2; have hfz15_3 := blk_frozen BK101.out 3))
     go_ret
     exact ⟨by first | rfl | (simp [errW_none, errW_some] <;> rfl) | (simp [*, errW_none, errW_some] <;> rfl), by repeat (first | (with_reducible first | exact HB.out | apply below_alloc | apply pw_below_drewN | apply below_drew1 | refine below_set ?_ GE101.out) | exact HB.out)⟩
end Go.Proofs.Ytlopkdhblfibkaa.Pr
namespace Go.Proofs.Ytlopkdhblfibkaa.Pr
open Go.RowKit Go.Proofs.YtlopkdhblfibkaaW.PrintWords Go.Proofs.YtlopkdhblfibkaaW.PrintLast
set_option linter.unusedVariables false
set_option linter.unusedSimpArgs false
def spec_CronGood.f (a0_0 : Int) (a0_1 : Int) : Option (Bool) := if (-62135596800) ≤ a0_0 then (if a0_0 ≤ 253402300799 then (if 0 ≤ a0_1 then (some (decide (a0_1 < 1000000000))) else (some false)) else (some false)) else (some false)
set_option maxHeartbeats 8000000 in
set_option maxRecDepth 100000 in
theorem spec_CronGood.calls (a0_0 : Int) (a0_1 : Int) (r : Bool) (w : World) (h : spec_CronGood.f a0_0 a0_1 = some r) :
  Calls Try.prog 11 #[.agg #[.int .i64 a0_0, .int .i64 a0_1]] w fun e w' => e = .returned (.bool r) ∧ Below w.heap.size w w' := by
 have hu31 := Try.underlying31
 have HB := Aside0.mk (Below.refl w.heap.size w)
 have H : (if (-62135596800) ≤ a0_0 then (if a0_0 ≤ 253402300799 then (if 0 ≤ a0_1 then (some (decide (a0_1 < 1000000000))) else (some false)) else (some false)) else (some false)) = some r := h
 clear h
 by_cases c2 : (-62135596800) ≤ a0_0
 ·rw [if_pos c2] at H
  have c2b0 : decide ((-62135596800) ≤ a0_0) = true := decide_eq_true c2
  clear c2
  by_cases c3 : a0_0 ≤ 253402300799
  ·rw [if_pos c3] at H
   have c3b0 : decide (a0_0 ≤ 253402300799) = true := decide_eq_true c3
   clear c3
   by_cases c4 : 0 ≤ a0_1
   ·rw [if_pos c4] at H
    have c4b0 : decide (0 ≤ a0_1) = true := decide_eq_true c4
    clear c4
    obtain rfl := Option.some.inj H
    go_enter Try.func11, Try.ntmps11
    go_wp2_with (first | ((with_reducible refine gate_dst (N := 1) rfl ?_); refine box_event ?hg (N := 1) ?hd (cs := #[.int .i64 a0_0, .int .i64 a0_1]) (t := 31) ?hr ?_; (case hd => rfl); (case hg => rfl); (case hr => first | (go_simp; done) | (go_simp; rfl)); intro gb102 hg w5 hbox hb; have n0_ := Aside0.mk (below_step (by repeat (first | (with_reducible first | exact HB.out | apply below_alloc | apply pw_below_drewN | apply below_drew1) | exact HB.out)) hb); have n1_ := Aside0.mk (hbox); have n2_ := Aside0.mk ((by rw [hg]; exact (below_size (by repeat (first | (with_reducible first | exact HB.out | apply below_alloc | apply pw_below_drewN | apply below_drew1) | exact HB.out))) : w.heap.size ≤ gb102)); have n3_ := Aside0.mk ((by rw [hg]; exact (below_size (by repeat (first | (with_reducible first | exact HB.out | apply below_alloc | apply pw_below_drewN | apply below_drew1) | exact HB.out))) : w.heap.size ≤ gb102)); clear HB; have HB := n0_; have BK102 := n1_; have GW102 := n2_; have GE102 := n3_; clear n0_ n1_ n2_ n3_; clear hb hbox hg; have hcz6_0 : w5.cell? ⟨gb102, 0, none⟩ = some (.int .i64 a0_0) := (blk_cell BK102.out 0).trans rfl; have hcz6_1 : w5.cell? ⟨gb102, 1, none⟩ = some (.int .i64 a0_1) := (blk_cell BK102.out 1).trans rfl; have hfz6_0 := blk_frozen BK102.out 0; have hfz6_1 := blk_frozen BK102.out 1))
    go_ret
    exact ⟨by first | rfl | (simp [errW_none, errW_some] <;> rfl) | (simp [*, errW_none, errW_some] <;> rfl), by repeat (first | (with_reducible first | exact HB.out | apply below_alloc | apply pw_below_drewN | apply below_drew1 | refine below_set ?_ GE102.out) | exact HB.out)⟩
   ·rw [if_neg c4] at H
    have c4b0 : decide (0 ≤ a0_1) = false := decide_eq_false c4
    clear c4
    obtain rfl := Option.some.inj H
    go_enter Try.func11, Try.ntmps11
    go_wp2_with (first | ((with_reducible refine gate_dst (N := 1) rfl ?_); refine box_event ?hg (N := 1) ?hd (cs := #[.int .i64 a0_0, .int .i64 a0_1]) (t := 31) ?hr ?_; (case hd => rfl); (case hg => rfl); (case hr => first | (go_simp; done) | (go_simp; rfl)); intro gb102 hg w7 hbox hb; have n0_ := Aside0.mk (below_step (by repeat (first | (with_reducible first | exact HB.out | apply below_alloc | apply pw_below_drewN | apply below_drew1) | exact HB.out)) hb); have n1_ := Aside0.mk (hbox); have n2_ := Aside0.mk ((by rw [hg]; exact (below_size (by repeat (first | (with_reducible first | exact HB.out | apply below_alloc | apply pw_below_drewN | apply below_drew1) | exact HB.out))) : w.heap.size ≤ gb102)); have n3_ := Aside0.mk ((by rw [hg]; exact (below_size (by repeat (first | (with_reducible first | exact HB.out | apply below_alloc | apply pw_below_drewN | apply below_drew1) | exact HB.out))) : w.heap.size ≤ gb102)); clear HB; have HB := n0_; have BK102 := n1_; have GW102 := n2_; have GE102 := n3_; clear n0_ n1_ n2_ n3_; clear hb hbox hg; have hcz8_0 : w7.cell? ⟨gb102, 0, none⟩ = some (.int .i64 a0_0) := (blk_cell BK102.out 0).trans rfl; have hcz8_1 : w7.cell? ⟨gb102, 1, none⟩ = some (.int .i64 a0_1) := (blk_cell BK102.out 1).trans rfl; have hfz8_0 := blk_frozen BK102.out 0; have hfz8_1 := blk_frozen BK102.out 1))
    go_ret
    exact ⟨by first | rfl | (simp [errW_none, errW_some] <;> rfl) | (simp [*, errW_none, errW_some] <;> rfl), by repeat (first | (with_reducible first | exact HB.out | apply below_alloc | apply pw_below_drewN | apply below_drew1 | refine below_set ?_ GE102.out) | exact HB.out)⟩
  ·rw [if_neg c3] at H
   have c3b0 : decide (a0_0 ≤ 253402300799) = false := decide_eq_false c3
   clear c3
   obtain rfl := Option.some.inj H
   go_enter Try.func11, Try.ntmps11
   go_wp2_with (first | ((with_reducible refine gate_dst (N := 1) rfl ?_); refine box_event ?hg (N := 1) ?hd (cs := #[.int .i64 a0_0, .int .i64 a0_1]) (t := 31) ?hr ?_; (case hd => rfl); (case hg => rfl); (case hr => first | (go_simp; done) | (go_simp; rfl)); intro gb102 hg w9 hbox hb; have n0_ := Aside0.mk (below_step (by repeat (first | (with_reducible first | exact HB.out | apply below_alloc | apply pw_below_drewN | apply below_drew1) | exact HB.out)) hb); have n1_ := Aside0.mk (hbox); have n2_ := Aside0.mk ((by rw [hg]; exact (below_size (by repeat (first | (with_reducible first | exact HB.out | apply below_alloc | apply pw_below_drewN | apply below_drew1) | exact HB.out))) : w.heap.size ≤ gb102)); have n3_ := Aside0.mk ((by rw [hg]; exact (below_size (by repeat (first | (with_reducible first | exact HB.out | apply below_alloc | apply pw_below_drewN | apply below_drew1) | exact HB.out))) : w.heap.size ≤ gb102)); clear HB; have HB := n0_; have BK102 := n1_; have GW102 := n2_; have GE102 := n3_; clear n0_ n1_ n2_ n3_; clear hb hbox hg; have hcz10_0 : w9.cell? ⟨gb102, 0, none⟩ = some (.int .i64 a0_0) := (blk_cell BK102.out 0).trans rfl; have hcz10_1 : w9.cell? ⟨gb102, 1, none⟩ = some (.int .i64 a0_1) := (blk_cell BK102.out 1).trans rfl; have hfz10_0 := blk_frozen BK102.out 0; have hfz10_1 := blk_frozen BK102.out 1))
   go_ret
   exact ⟨by first | rfl | (simp [errW_none, errW_some] <;> rfl) | (simp [*, errW_none, errW_some] <;> rfl), by repeat (first | (with_reducible first | exact HB.out | apply below_alloc | apply pw_below_drewN | apply below_drew1 | refine below_set ?_ GE102.out) | exact HB.out)⟩
 ·rw [if_neg c2] at H
  have c2b0 : decide ((-62135596800) ≤ a0_0) = false := decide_eq_false c2
  clear c2
  obtain rfl := Option.some.inj H
  go_enter Try.func11, Try.ntmps11
  go_wp2_with (first | ((with_reducible refine gate_dst (N := 1) rfl ?_); refine box_event ?hg (N := 1) ?hd (cs := #[.int .i64 a0_0, .int .i64 a0_1]) (t := 31) ?hr ?_; (case hd => rfl); (case hg => rfl); (case hr => first | (go_simp; done) | (go_simp; rfl)); intro gb102 hg w11 hbox hb; have n0_ := Aside0.mk (below_step (by repeat (first | (with_reducible first | exact HB.out | apply below_alloc | apply pw_below_drewN | apply below_drew1) | exact HB.out)) hb); have n1_ := Aside0.mk (hbox); have n2_ := Aside0.mk ((by rw [hg]; exact (below_size (by repeat (first | (with_reducible first | exact HB.out | apply below_alloc | apply pw_below_drewN | apply below_drew1) | exact HB.out))) : w.heap.size ≤ gb102)); have n3_ := Aside0.mk ((by rw [hg]; exact (below_size (by repeat (first | (with_reducible first | exact HB.out | apply below_alloc | apply pw_below_drewN | apply below_drew1) | exact HB.out))) : w.heap.size ≤ gb102)); clear HB; have HB := n0_; have BK102 := n1_; have GW102 := n2_; have GE102 := n3_; clear n0_ n1_ n2_ n3_; clear hb hbox hg; have hcz12_0 : w11.cell? ⟨gb102, 0, none⟩ = some (.int .i64 a0_0) := (blk_cell BK102.out 0).trans rfl; have hcz12_1 : w11.cell? ⟨gb102, 1, none⟩ = some (.int .i64 a0_1) := (blk_cell BK102.out 1).trans rfl; have hfz12_0 := blk_frozen BK102.out 0; have hfz12_1 := blk_frozen BK102.out 1))
  go_ret
  exact ⟨by first | rfl | (simp [errW_none, errW_some] <;> rfl) | (simp [*, errW_none, errW_some] <;> rfl), by repeat (first | (with_reducible first | exact HB.out | apply below_alloc | apply pw_below_drewN | apply below_drew1 | refine below_set ?_ GE102.out) | exact HB.out)⟩
end Go.Proofs.Ytlopkdhblfibkaa.Pr
namespace Go.Proofs.Ytlopkdhblfibkaa.Pr
open Go.RowKit Go.Proofs.YtlopkdhblfibkaaW.PrintWords Go.Proofs.YtlopkdhblfibkaaW.PrintLast
set_option linter.unusedVariables false
set_option linter.unusedSimpArgs false
def laws_cronCase.f (a0_0 : Bool) (a0_1 : Int) (a0_2 : Int) (a0_3 : Int) (a0_4 : Int) (a0_5 : Int) (a0_6 : Int) (a0_7 : Int) (a1_0 : Int) (a1_1 : Int) : Option (Bool) := if a0_0 = true then (some false) else ((spec_CronGood.f a1_0 a1_1).bind fun t105 => (some t105))
set_option maxHeartbeats 8000000 in
set_option maxRecDepth 100000 in
theorem laws_cronCase.calls (a0_0 : Bool) (a0_1 : Int) (a0_2 : Int) (a0_3 : Int) (a0_4 : Int) (a0_5 : Int) (a0_6 : Int) (a0_7 : Int) (a1_0 : Int) (a1_1 : Int) (r : Bool) (w : World) (h : laws_cronCase.f a0_0 a0_1 a0_2 a0_3 a0_4 a0_5 a0_6 a0_7 a1_0 a1_1 = some r) :
  Calls Try.prog 5 #[.agg #[.bool a0_0, .int .i64 a0_1, .int .u64 a0_2, .int .u64 a0_3, .int .u64 a0_4, .int .u64 a0_5, .int .u64 a0_6, .int .u64 a0_7], .agg #[.int .i64 a1_0, .int .i64 a1_1]] w fun e w' => e = .returned (.bool r) ∧ Below w.heap.size w w' := by
 have hu24 := Try.underlying24
 have hu31 := Try.underlying31
 have HB := Aside0.mk (Below.refl w.heap.size w)
 have H : (if a0_0 = true then (some false) else ((spec_CronGood.f a1_0 a1_1).bind fun t105 => (some t105))) = some r := h
 clear h
 by_cases c3 : a0_0 = true
 ·subst c3
  have H1 : (some false) = some r := by rw [if_pos rfl] at H; exact H
  clear H
  have H := H1
  clear H1
  obtain rfl := Option.some.inj H
  go_enter Try.func5, Try.ntmps5
  go_wp2_with (first | ((with_reducible refine gate_dst (N := 2) rfl ?_); refine box_event ?hg (N := 2) ?hd (cs := #[.bool true, .int .i64 a0_1, .int .u64 a0_2, .int .u64 a0_3, .int .u64 a0_4, .int .u64 a0_5, .int .u64 a0_6, .int .u64 a0_7]) (t := 24) ?hr ?_; (case hd => rfl); (case hg => rfl); (case hr => first | (go_simp; done) | (go_simp; rfl)); intro gb103 hg w4 hbox hb; have n0_ := Aside0.mk (below_step (by repeat (first | (with_reducible first | exact HB.out | apply below_alloc | apply pw_below_drewN | apply below_drew1) | exact HB.out)) hb); have n1_ := Aside0.mk (hbox); have n2_ := Aside0.mk ((by rw [hg]; exact (below_size (by repeat (first | (with_reducible first | exact HB.out | apply below_alloc | apply pw_below_drewN | apply below_drew1) | exact HB.out))) : w.heap.size ≤ gb103)); have n3_ := Aside0.mk ((by rw [hg]; exact (below_size (by repeat (first | (with_reducible first | exact HB.out | apply below_alloc | apply pw_below_drewN | apply below_drew1) | exact HB.out))) : w.heap.size ≤ gb103)); clear HB; have HB := n0_; have BK103 := n1_; have GW103 := n2_; have GE103 := n3_; clear n0_ n1_ n2_ n3_; clear hb hbox hg) | ((with_reducible refine gate_dst (N := 3) rfl ?_); refine box_event ?hg (N := 3) ?hd (cs := #[.int .i64 a1_0, .int .i64 a1_1]) (t := 31) ?hr ?_; (case hd => rfl); (case hg => rfl); (case hr => first | (go_simp; done) | (go_simp; rfl)); intro gb104 hg w5 hbox hb; have n0_ := Aside0.mk (blk_below (g := gb103) (o := .cells #[.bool true, .int .i64 a0_1, .int .u64 a0_2, .int .u64 a0_3, .int .u64 a0_4, .int .u64 a0_5, .int .u64 a0_6, .int .u64 a0_7] 24 (0, 0)) (by (with_reducible repeat (first | refine blk_drewN ?_ _ | refine blk_drew ?_ | refine blk_alloc ?_ _)); exact BK103.out) hb); have n1_ := Aside0.mk (below_step (by repeat (first | (with_reducible first | exact HB.out | apply below_alloc | apply pw_below_drewN | apply below_drew1 | refine below_set ?_ GE103.out) | exact HB.out)) hb); have n2_ := Aside0.mk (hbox); have n3_ := Aside0.mk ((by rw [hg]; exact (below_size (by repeat (first | (with_reducible first | exact HB.out | apply below_alloc | apply pw_below_drewN | apply below_drew1 | refine below_set ?_ GE103.out) | exact HB.out))) : w.heap.size ≤ gb104)); have n4_ := Aside0.mk ((by rw [hg]; exact (below_size (by repeat (first | (with_reducible first | exact HB.out | apply below_alloc | apply pw_below_drewN | apply below_drew1 | refine below_set ?_ GE103.out) | exact HB.out))) : w.heap.size ≤ gb104)); have n5_ := Aside0.mk ((by rw [hg]; exact Nat.ne_of_lt (blk_lt (g := gb103) (o := .cells #[.bool true, .int .i64 a0_1, .int .u64 a0_2, .int .u64 a0_3, .int .u64 a0_4, .int .u64 a0_5, .int .u64 a0_6, .int .u64 a0_7] 24 (0, 0)) (by (with_reducible repeat (first | refine blk_drewN ?_ _ | refine blk_drew ?_ | refine blk_alloc ?_ _)); exact BK103.out)) : gb103 ≠ gb104)); have n6_ := Aside0.mk ((by rw [hg]; exact Nat.ne_of_gt (blk_lt (g := gb103) (o := .cells #[.bool true, .int .i64 a0_1, .int .u64 a0_2, .int .u64 a0_3, .int .u64 a0_4, .int .u64 a0_5, .int .u64 a0_6, .int .u64 a0_7] 24 (0, 0)) (by (with_reducible repeat (first | refine blk_drewN ?_ _ | refine blk_drew ?_ | refine blk_alloc ?_ _)); exact BK103.out)) : gb104 ≠ gb103)); clear BK103; clear HB; have BK103 := n0_; have HB := n1_; have BK104 := n2_; have GW104 := n3_; have GE104 := n4_; have NB103_104 := n5_; have NB104_103 := n6_; clear n0_ n1_ n2_ n3_ n4_ n5_ n6_; clear hb hbox hg; have hnb6 := NB103_104.out; have hnc6 := NB104_103.out; have hcz7_0 : w5.cell? ⟨gb103, 0, none⟩ = some (.bool true) := (blk_cell BK103.out 0).trans rfl; have hcz7_1 : w5.cell? ⟨gb103, 1, none⟩ = some (.int .i64 a0_1) := (blk_cell BK103.out 1).trans rfl; have hcz7_2 : w5.cell? ⟨gb103, 2, none⟩ = some (.int .u64 a0_2) := (blk_cell BK103.out 2).trans rfl; have hcz7_3 : w5.cell? ⟨gb103, 3, none⟩ = some (.int .u64 a0_3) := (blk_cell BK103.out 3).trans rfl; have hcz7_4 : w5.cell? ⟨gb103, 4, none⟩ = some (.int .u64 a0_4) := (blk_cell BK103.out 4).trans rfl; have hcz7_5 : w5.cell? ⟨gb103, 5, none⟩ = some (.int .u64 a0_5) := (blk_cell BK103.out 5).trans rfl; have hcz7_6 : w5.cell? ⟨gb103, 6, none⟩ = some (.int .u64 a0_6) := (blk_cell BK103.out 6).trans rfl; have hcz7_7 : w5.cell? ⟨gb103, 7, none⟩ = some (.int .u64 a0_7) := (blk_cell BK103.out 7).trans rfl; have hfz7_0 := blk_frozen BK103.out 0; have hfz7_1 := blk_frozen BK103.out 1; have hfz7_2 := blk_frozen BK103.out 2; have hfz7_3 := blk_frozen BK103.out 3; have hfz7_4 := blk_frozen BK103.out 4; have hfz7_5 := blk_frozen BK103.out 5; have hfz7_6 := blk_frozen BK103.out 6; have hfz7_7 := blk_frozen BK103.out 7))
  go_ret
  exact ⟨by first | rfl | (simp [errW_none, errW_some] <;> rfl) | (simp [*, errW_none, errW_some] <;> rfl), by repeat (first | (with_reducible first | exact HB.out | apply below_alloc | apply pw_below_drewN | apply below_drew1 | refine below_set ?_ GE103.out | refine below_set ?_ GE104.out) | exact HB.out)⟩
 ·replace c3 := Bool.eq_false_iff.mpr c3
  subst c3
  have H1 : ((spec_CronGood.f a1_0 a1_1).bind fun t105 => (some t105)) = some r := by rw [if_neg (show ¬ (false = true) by decide)] at H; exact H
  clear H
  have H := H1
  clear H1
  replace H := Option.bind_eq_some_iff.mp H
  obtain ⟨t105, A80, H⟩ := H
  replace H : (some t105) = some r := H
  have A8 := Aside0.mk A80
  clear A80
  obtain rfl := Option.some.inj H
  go_enter Try.func5, Try.ntmps5
  go_wp2_with (first | ((with_reducible refine gate_dst (N := 2) rfl ?_); refine box_event ?hg (N := 2) ?hd (cs := #[.bool false, .int .i64 a0_1, .int .u64 a0_2, .int .u64 a0_3, .int .u64 a0_4, .int .u64 a0_5, .int .u64 a0_6, .int .u64 a0_7]) (t := 24) ?hr ?_; (case hd => rfl); (case hg => rfl); (case hr => first | (go_simp; done) | (go_simp; rfl)); intro gb103 hg w9 hbox hb; have n0_ := Aside0.mk (below_step (by repeat (first | (with_reducible first | exact HB.out | apply below_alloc | apply pw_below_drewN | apply below_drew1) | exact HB.out)) hb); have n1_ := Aside0.mk (hbox); have n2_ := Aside0.mk ((by rw [hg]; exact (below_size (by repeat (first | (with_reducible first | exact HB.out | apply below_alloc | apply pw_below_drewN | apply below_drew1) | exact HB.out))) : w.heap.size ≤ gb103)); have n3_ := Aside0.mk ((by rw [hg]; exact (below_size (by repeat (first | (with_reducible first | exact HB.out | apply below_alloc | apply pw_below_drewN | apply below_drew1) | exact HB.out))) : w.heap.size ≤ gb103)); clear HB; have HB := n0_; have BK103 := n1_; have GW103 := n2_; have GE103 := n3_; clear n0_ n1_ n2_ n3_; clear hb hbox hg) | ((with_reducible refine gate_dst (N := 3) rfl ?_); refine box_event ?hg (N := 3) ?hd (cs := #[.int .i64 a1_0, .int .i64 a1_1]) (t := 31) ?hr ?_; (case hd => rfl); (case hg => rfl); (case hr => first | (go_simp; done) | (go_simp; rfl)); intro gb104 hg w10 hbox hb; have n0_ := Aside0.mk (blk_below (g := gb103) (o := .cells #[.bool false, .int .i64 a0_1, .int .u64 a0_2, .int .u64 a0_3, .int .u64 a0_4, .int .u64 a0_5, .int .u64 a0_6, .int .u64 a0_7] 24 (0, 0)) (by (with_reducible repeat (first | refine blk_drewN ?_ _ | refine blk_drew ?_ | refine blk_alloc ?_ _)); exact BK103.out) hb); have n1_ := Aside0.mk (below_step (by repeat (first | (with_reducible first | exact HB.out | apply below_alloc | apply pw_below_drewN | apply below_drew1 | refine below_set ?_ GE103.out) | exact HB.out)) hb); have n2_ := Aside0.mk (hbox); have n3_ := Aside0.mk ((by rw [hg]; exact (below_size (by repeat (first | (with_reducible first | exact HB.out | apply below_alloc | apply pw_below_drewN | apply below_drew1 | refine below_set ?_ GE103.out) | exact HB.out))) : w.heap.size ≤ gb104)); have n4_ := Aside0.mk ((by rw [hg]; exact (below_size (by repeat (first | (with_reducible first | exact HB.out | apply below_alloc | apply pw_below_drewN | apply below_drew1 | refine below_set ?_ GE103.out) | exact HB.out))) : w.heap.size ≤ gb104)); have n5_ := Aside0.mk ((by rw [hg]; exact Nat.ne_of_lt (blk_lt (g := gb103) (o := .cells #[.bool false, .int .i64 a0_1, .int .u64 a0_2, .int .u64 a0_3, .int .u64 a0_4, .int .u64 a0_5, .int .u64 a0_6, .int .u64 a0_7] 24 (0, 0)) (by (with_reducible repeat (first | refine blk_drewN ?_ _ | refine blk_drew ?_ | refine blk_alloc ?_ _)); exact BK103.out)) : gb103 ≠ gb104)); have n6_ := Aside0.mk ((by rw [hg]; exact Nat.ne_of_gt (blk_lt (g := gb103) (o := .cells #[.bool false, .int .i64 a0_1, .int .u64 a0_2, .int .u64 a0_3, .int .u64 a0_4, .int .u64 a0_5, .int .u64 a0_6, .int .u64 a0_7] 24 (0, 0)) (by (with_reducible repeat (first | refine blk_drewN ?_ _ | refine blk_drew ?_ | refine blk_alloc ?_ _)); exact BK103.out)) : gb104 ≠ gb103)); clear BK103; clear HB; have BK103 := n0_; have HB := n1_; have BK104 := n2_; have GW104 := n3_; have GE104 := n4_; have NB103_104 := n5_; have NB104_103 := n6_; clear n0_ n1_ n2_ n3_ n4_ n5_ n6_; clear hb hbox hg; have hnb11 := NB103_104.out; have hnc11 := NB104_103.out; have hcz12_0 : w10.cell? ⟨gb103, 0, none⟩ = some (.bool false) := (blk_cell BK103.out 0).trans rfl; have hcz12_1 : w10.cell? ⟨gb103, 1, none⟩ = some (.int .i64 a0_1) := (blk_cell BK103.out 1).trans rfl; have hcz12_2 : w10.cell? ⟨gb103, 2, none⟩ = some (.int .u64 a0_2) := (blk_cell BK103.out 2).trans rfl; have hcz12_3 : w10.cell? ⟨gb103, 3, none⟩ = some (.int .u64 a0_3) := (blk_cell BK103.out 3).trans rfl; have hcz12_4 : w10.cell? ⟨gb103, 4, none⟩ = some (.int .u64 a0_4) := (blk_cell BK103.out 4).trans rfl; have hcz12_5 : w10.cell? ⟨gb103, 5, none⟩ = some (.int .u64 a0_5) := (blk_cell BK103.out 5).trans rfl; have hcz12_6 : w10.cell? ⟨gb103, 6, none⟩ = some (.int .u64 a0_6) := (blk_cell BK103.out 6).trans rfl; have hcz12_7 : w10.cell? ⟨gb103, 7, none⟩ = some (.int .u64 a0_7) := (blk_cell BK103.out 7).trans rfl; have hfz12_0 := blk_frozen BK103.out 0; have hfz12_1 := blk_frozen BK103.out 1; have hfz12_2 := blk_frozen BK103.out 2; have hfz12_3 := blk_frozen BK103.out 3; have hfz12_4 := blk_frozen BK103.out 4; have hfz12_5 := blk_frozen BK103.out 5; have hfz12_6 := blk_frozen BK103.out 6; have hfz12_7 := blk_frozen BK103.out 7; have hcz13_0 : w10.cell? ⟨gb104, 0, none⟩ = some (.int .i64 a1_0) := (blk_cell BK104.out 0).trans rfl; have hcz13_1 : w10.cell? ⟨gb104, 1, none⟩ = some (.int .i64 a1_1) := (blk_cell BK104.out 1).trans rfl; have hfz13_0 := blk_frozen BK104.out 0; have hfz13_1 := blk_frozen BK104.out 1) | (go_at_call 11; (with_reducible refine (spec_CronGood.calls a1_0 a1_1 t105 _ A8.out).mono ?_); rintro e w14 ⟨rfl, hb⟩; have n0_ := Aside0.mk (blk_below (g := gb103) (o := .cells #[.bool false, .int .i64 a0_1, .int .u64 a0_2, .int .u64 a0_3, .int .u64 a0_4, .int .u64 a0_5, .int .u64 a0_6, .int .u64 a0_7] 24 (0, 0)) (by (with_reducible repeat (first | refine blk_drewN ?_ _ | refine blk_drew ?_ | refine blk_alloc ?_ _)); exact BK103.out) hb); have n1_ := Aside0.mk (blk_below (g := gb104) (o := .cells #[.int .i64 a1_0, .int .i64 a1_1] 31 (0, 0)) (by (with_reducible repeat (first | refine blk_drewN ?_ _ | refine blk_drew ?_ | refine blk_alloc ?_ _)); exact BK104.out) hb); have n2_ := Aside0.mk (below_step (by repeat (first | (with_reducible first | exact HB.out | apply below_alloc | apply pw_below_drewN | apply below_drew1 | refine below_set ?_ GE103.out | refine below_set ?_ GE104.out) | exact HB.out)) hb); clear BK103; clear BK104; clear HB; have BK103 := n0_; have BK104 := n1_; have HB := n2_; clear n0_ n1_ n2_; (try clear hb); (try clear hb2); (try clear hk); (try clear hi)))
  go_ret
  exact ⟨by first | rfl | (simp [errW_none, errW_some] <;> rfl) | (simp [*, errW_none, errW_some] <;> rfl), by repeat (first | (with_reducible first | exact HB.out | apply below_alloc | apply pw_below_drewN | apply below_drew1 | refine below_set ?_ GE103.out | refine below_set ?_ GE104.out) | exact HB.out)⟩
end Go.Proofs.Ytlopkdhblfibkaa.Pr
