/- Lemmas and walks on the way to the law, merged by wip/tools/pack.py: ZSpecN, Zone1, ZMem, ZLook, ZDate, ZZone. Conditions: none. -/
import Derived.Test.YtlopkdhblfibkaaGrF
import Derived.Test.YtlopkdhblfibkaaGrC
import Derived.Test.YtlopkdhblfibkaaGrB
import Derived.Test.YtlopkdhblfibkaaGrE
import Derived.Deep.AppendLies
import Derived.Laws.OwnMore
namespace Go.Proofs.Ytlopkdhblfibkaa.CronN
open Go Go.RowKit Go.Proofs.YtlopkdhblfibkaaW.PrintWords Go.Proofs.YtlopkdhblfibkaaW.PrintLast Go.Proofs.Ytlopkdhblfibkaa.Cal Go.Proofs.Ytlopkdhblfibkaa.Pr
set_option linter.unusedVariables false
set_option linter.unusedSimpArgs false
section
variable {P : Program} {ops : Array Oper} {rest : List Oper} {o : Oper} {a : Act} {w : World} {Q : Exit → Act → World → Prop}
theorem load_rowG (hw : Region.wanted o (yielded ops a.tmps) = true) (ty : TypeId) (x : Operand) (ho : o.op = .load ty x) (g : Nat) (hx : a.eval x = .pointer (some ⟨g, 0, none⟩)) (t : TypeId) (cs : Array Value) (fr : Nat × Nat) (d : TypeDesc) (hg : w.heap[g]? = some (.cells cs t fr))
  (hu : P.underlying ty = some d) (hd : (match d with | .struct _ | .array _ _ => true | _ => false) = true) (hi : (P.info? ty).map (·.size) = some cs.size)
  (h : wpList P ops Q rest (a.put o.dst (.agg cs)) w) : wpList P ops Q (o :: rest) a w := by
 refine wpList_step fun K hK => ?_
 rw [if_pos hw]
 exact wp_load_row ty x ho g hx t cs fr d hg hu hd hi (hK _ _ h)
end
theorem run_field_date (y m d : Value) (w : World) : (Instr.field 47 (.agg #[y, m, d]) 0).run Try.prog w = .ok y w := by kernel_rfl
structure SpecZ (zv : Value) (off : Int → Int) (nx : Int → Option Int) (Zi : World → Prop) : Prop where
 keep : ∀ {w w' : World}, Zi w → Below w.heap.size w w' → Zi w'
 zn : Zn off
 offset : ∀ (u : Int) (w : World), -9223372036854775808 ≤ u → Zi w → Calls Try.prog 15 #[zv, .int .i64 u] w fun e w' => e = .returned (.int .i64 (off u)) ∧ Below w.heap.size w w'
 change : ∀ (u : Int) (w : World), -9223372036854775808 ≤ u → Zi w → Calls Try.prog 16 #[zv, .int .i64 u] w fun e w' => e = .returned (.tuple #[.int .i64 (nxV (nx u)).1, .bool (nxV (nx u)).2]) ∧ Below w.heap.size w w'
 stay : ∀ {u v : Int}, -9223372036854775808 ≤ u → u ≤ v → (∀ c, nx u = some c → v < c) → off v = off u
 gt : ∀ {u c : Int}, nx u = some c → u < c
 top : ∀ {u c : Int}, nx u = some c → c ≤ 253722300799
def NextAnsZ (off : Int → Int) (S : Sets) (f lim : Int) (e : Ending) : Prop := ∃ r : Option Int, LeastZ off S f lim r ∧ e = .returned (.tuple #[.agg (ansI 0 r), .bool r.isSome])
section
variable {off : Int → Int} {S : Sets} {f u lim : Int}
theorem seg_some (un x : Int) (hf : f ≤ u) (hn : NoFitZ off S f u) (hs : ∀ v, u ≤ v → v + off u < un → off v = off u) (h : Least S (u + off u) lim (some x)) (hx : x < un) : LeastZ off S f lim (some (x - off u)) := by
 obtain ⟨h1, h2, h3, h4⟩ := h
 have e : zt off (x - off u) = x := by unfold zt; rw [hs (x - off u) (by omega) (by omega)]; omega
 refine ⟨by omega, by rw [e]; exact h2, fun v v1 v2 => ?_, by rw [e]; exact h4⟩
 by_cases hc : v < u
 ·exact hn v v1 hc
 ·have e : zt off v = v + off u := by unfold zt; rw [hs v (by omega) (by omega)]
  rw [e]
  exact h3 _ (by omega) (by omega)
theorem seg_none (Z : Zn off) (hl : lim ≤ 10010) (hf : f ≤ u) (hn : NoFitZ off S f u) (hs : ∀ v, u ≤ v → off v = off u) (h : ∀ y, u + off u ≤ y → y < 4611686018427387904 → yearL y ≤ lim → ¬ Fits S y) : LeastZ off S f lim none := fun v v1 v2 => by
 by_cases hc : v < u
 ·exact hn v v1 hc
 ·have e : zt off v = v + off u := by unfold zt; rw [hs v (by omega)]
  rw [e] at v2 ⊢
  have hlt := lim_lt (L := v + off u) (y := 10011) (by omega)
  rw [show ystart (10011 + 1) = 2937280 from by decide] at hlt
  exact h _ (by omega) (by omega) v2
theorem seg_end (Z : Zn off) {c : Int} (hf : f ≤ u) (huc : u < c) (hn : NoFitZ off S f u) (hs : ∀ v, u ≤ v → v < c → off v = off u) (h : ∀ y, u + off u ≤ y → y < c + off u → yearL y ≤ lim → ¬ Fits S y) (hy : lim < yearL (zt off c)) : LeastZ off S f lim none := fun v v1 v2 => by
 by_cases hc : v < u
 ·exact hn v v1 hc
 ·by_cases hc2 : v < c
  ·have e : zt off v = v + off u := by unfold zt; rw [hs v (by omega) hc2]
   rw [e] at v2 ⊢
   exact h _ (by omega) (by omega) v2
  ·have := yearZ_mono Z (u := c) (v := v) (by omega)
   omega
theorem seg_next (Z : Zn off) {c : Int} (huc : u < c) (hn : NoFitZ off S f u) (hs : ∀ v, u ≤ v → v < c → off v = off u) (h : ∀ y, u + off u ≤ y → y < c + off u → yearL y ≤ lim → ¬ Fits S y) (hy : yearL (zt off c) ≤ lim) : NoFitZ off S f c := noFitZ_to hn fun v v1 v2 => by
 have e : zt off v = v + off u := by unfold zt; rw [hs v (by omega) v2]
 have := yearZ_mono Z (u := v) (v := c) (by omega)
 rw [e] at this ⊢
 exact h _ (by omega) (by omega) (by omega)
end
set_option maxRecDepth 100000 in
set_option maxHeartbeats 8000000 in
theorem cronNext_z (z0 z1 z2 z3 : Value) (off : Int → Int) (nx : Int → Option Int) (Zi : World → Prop) (hz : SpecZ (.agg #[z0, z1, z2, z3]) off nx Zi) (S : Sets) (sec nano : Int) (h0 : -62135596800 ≤ sec) (h1 : sec ≤ 253402300799) (w : World) (hZi : Zi w) :
  Calls Try.prog 8 #[.agg (fieldsC S), .agg #[.int .i64 sec, .int .i64 nano], .agg #[z0, z1, z2, z3]] w fun e w' =>
   NextAnsZ off S (sec + 1) (yearL (zt off (sec + 1)) + 5) e ∧ Below w.heap.size w w' := by
 have HW1 : Hid (wrap64 (sec + 1) = sec + 1) := Lib.hid (by unfold wrap64; omega)
 obtain ⟨f, hf⟩ : ∃ f, f = sec + 1 := ⟨_, rfl⟩
 rw [← hf] at HW1 ⊢
 have hZo0 := hz.zn.o0
 have hZo1 := hz.zn.o1
 have hzf : zt off f ≤ 253402300800 + 86400 := by have := hZo1 f; unfold zt; omega
 have hzg : -62135596800 - 86400 ≤ zt off f := by have := hZo0 f; unfold zt; omega
 have hlim : yearL (zt off f) + 5 ≤ 10005 := by have := year_top hzf; omega
 have HZ := Lib.hid hz
 have HOF : Hid (∀ (u : Int) (w' : World), -100000000000 ≤ u → Zi w' → Calls Try.prog 15 #[.agg #[z0, z1, z2, z3], .int .i64 u] w' fun e w2 => e = .returned (.int .i64 (off u)) ∧ Below w'.heap.size w' w2) := Lib.hid (fun u w' hu hi => hz.offset u w' (by omega) hi)
 have HFD : Hid (∀ (L : Int) (w' : World), -100000000000 ≤ L → L ≤ 1000000000000 → Calls Try.prog 13 #[.int .i64 L, .int .i64 86400] w' fun e w2 => e = .returned (.int .i64 (L / 86400)) ∧ Below w'.heap.size w' w2) := Lib.hid (fun L w' l0 l1 => (spec_floorDiv.calls L 86400 (L / 86400) w' (floorDiv_f L 86400 (by omega) (by omega))).mono fun _ _ h => ⟨h.1, drawn_below h.2⟩)
 have HDO : Hid (∀ (L : Int) (w' : World), -62135596800 - 86400 ≤ L → L ≤ 320000000000 → Calls Try.prog 14 #[.int .i64 (L / 86400)] w' fun e w2 => e = .returned (.agg #[.int .i64 (yearL L), .int .i64 (monthL L), .int .i64 (mdayL L)]) ∧ Below w'.heap.size w' w2) := Lib.hid (fun L w' l0 l1 => spec_CronDateOf.calls 200 (L / 86400) _ _ _ w' (dateOf_f L l0 l1))
 obtain ⟨lim, hl⟩ : ∃ lim, lim = yearL (zt off f) + 5 := ⟨_, rfl⟩
 have HLO : Hid (∀ (u un : Int) (w' : World), f ≤ u → u ≤ 253722300799 → yearL (zt off u) ≤ lim → Calls Try.prog 17 #[.agg (fieldsC S), .int .i64 (u + off u), .int .i64 un, .int .i64 lim] w' fun e w2 => LocalUn S (u + off u) un lim e ∧ Below w'.heap.size w' w2) := Lib.hid (fun u un w' a b c => by
  have := hZo0 u
  have := hZo1 u
  exact cronLocal_un S (u + off u) un lim (by omega) (by omega) (by omega) c w')
 have hyl : -1000 ≤ yearL (zt off f) := by
  have := year_mono (a := -62135596800 - 86400) (b := zt off f) hzg
  have e : yearL (-62135596800 - 86400) = 0 := (date_eq (L := -62135596800 - 86400) (y := 0) (m := 12) (d := 31) ⟨by omega, by omega, by omega, by decide⟩ (by decide)).1
  omega
 have HLIM : Hid (wrap64 (yearL (zt off f) + 5) = lim) := Lib.hid (by rw [hl]; unfold wrap64; omega)
 have HLI := Lib.hid (show lim ≤ 10005 by omega)
 have HLE := Lib.hid hl
 have HFE := Lib.hid hf
 rw [← hl]
 have HK : Hid (∀ {w1 w2 : World}, Zi w1 → Below w1.heap.size w1 w2 → Zi w2) := Lib.hid (fun h hb => hz.keep h hb)
 have HF0 := Lib.hid (And.intro (show -62135596799 ≤ f by omega) (show f ≤ 253402300800 by omega))
 clear hlim hl hf hz hyl
 go_enter Try.func8, Try.ntmps8
 go_upto_region 1 with fail
 generalize hW : World.alloc (World.alloc (World.alloc (World.alloc w _) _) _) _ = wo
 have hr0 : wo.heap[w.heap.size]? = some (.cells (fieldsC S) 40 (0, 0)) := by
  rw [← hW, Below.heap_alloc _ _ _ (by simp; try omega), Below.heap_alloc _ _ _ (by simp; try omega), Below.heap_alloc _ _ _ (by simp)]
  exact heap_alloc_new w _
 have hr1 : wo.heap[w.heap.size + 1]? = some (.cells #[.int .i64 sec, .int .i64 nano] 31 (0, 0)) := by
  rw [← hW, Below.heap_alloc _ _ _ (by simp; try omega), Below.heap_alloc _ _ _ (by simp)]
  exact heap_two w _ _
 have hr2 : wo.heap[w.heap.size + 1 + 1]? = some (.cells #[z0, z1, z2, z3] 29 (0, 0)) := by
  rw [← hW, Below.heap_alloc _ _ _ (by simp)]
  have := heap_two (w.alloc (.cells (fieldsC S) 40)) (.cells #[.int .i64 sec, .int .i64 nano] 31) (.cells #[z0, z1, z2, z3] 29)
  rw [show (w.alloc (.cells (fieldsC S) 40)).heap.size = w.heap.size + 1 by simp] at this
  exact this
 have hres : wo.heap[w.heap.size + 1 + 1 + 1]? = some (.cells #[.int .i64 0, .int .i64 0] 31 (0, 0)) := by
  rw [← hW]
  have := heap_two ((w.alloc (.cells (fieldsC S) 40)).alloc (.cells #[.int .i64 sec, .int .i64 nano] 31)) (.cells #[z0, z1, z2, z3] 29) (.cells #[.int .i64 0, .int .i64 0] 31)
  rw [show ((w.alloc (.cells (fieldsC S) 40)).alloc (.cells #[.int .i64 sec, .int .i64 nano] 31)).heap.size = w.heap.size + 1 + 1 by simp] at this
  exact this
 have hB : Below w.heap.size w wo := by
  rw [← hW]
  exact ((((Below.refl _ _).alloc (Nat.le_refl _) _).alloc (by simp) _).alloc (by simp only [World.alloc]; simp; try omega) _).alloc (by simp; try omega) _
 clear hW
 have HZo := Lib.hid (HK.out hZi hB)
 clear hZi
 have hcs : wo.cell? ⟨w.heap.size + 1, 0, none⟩ = some (.int .i64 sec) := cell_of_row _ _ _ _ _ _ hr1
 have HR0 := Lib.hid hr0
 have HR2 := Lib.hid hr2
 have HRS := Lib.hid hres
 clear hr0 hr1 hr2 hres
 have HK0 : Hid (∀ w' : World, Below wo.heap.size wo w' → w'.heap[w.heap.size]? = some (.cells (fieldsC S) 40 (0, 0))) := Lib.hid (fun w' hb => (hb.block _ (Array.getElem?_eq_some_iff.1 HR0.out).1).trans HR0.out)
 have HK2 : Hid (∀ w' : World, Below wo.heap.size wo w' → w'.heap[w.heap.size + 1 + 1]? = some (.cells #[z0, z1, z2, z3] 29 (0, 0))) := Lib.hid (fun w' hb => (hb.block _ (Array.getElem?_eq_some_iff.1 HR2.out).1).trans HR2.out)
 have HKS : Hid (∀ w' : World, Below wo.heap.size wo w' → w'.heap[w.heap.size + 1 + 1 + 1]? = some (.cells #[.int .i64 0, .int .i64 0] 31 (0, 0))) := Lib.hid (fun w' hb => (hb.block _ (Array.getElem?_eq_some_iff.1 HRS.out).1).trans HRS.out)
 have HKZ : Hid (∀ w' : World, Below wo.heap.size wo w' → Zi w') := Lib.hid (fun w' hb => HK.out HZo.out hb)
 have HSZ := Lib.hid (show w.heap.size + 3 < wo.heap.size from (Array.getElem?_eq_some_iff.1 HRS.out).1)
 clear HR0 HRS HZo HK
 go_wp2_with (refine wpList_load_row rfl 29 _ rfl (w.heap.size + 1 + 1) rfl _ _ _ _ HR2.out Try.underlying29 rfl zoneSize ?_)
 rw [show sec + 1 = f from HFE.out.symm]
 refine (HOF.out f _ (by have := HF0.out; omega) (HKZ.out _ (Below.refl _ _))).mono ?_
 rintro e w1 ⟨rfl, hb1⟩
 have HB1 := Lib.hid hb1
 clear hb1 HR2
 have hwz : wrap64 (f + off f) = zt off f := by unfold zt at hzf hzg ⊢; unfold wrap64; omega
 dsimp only
 go_wp2_with fail
 refine (HFD.out (zt off f) _ (by omega) (by omega)).mono ?_
 rintro e w2 ⟨rfl, hb2⟩
 have HB2 := Lib.hid (below_le HB1.out hb2)
 clear hb2 HB1
 dsimp only
 go_wp2_with fail
 refine (HDO.out (zt off f) _ hzg (by omega)).mono ?_
 rintro e w3 ⟨rfl, hb3⟩
 have HB3 := Lib.hid (below_le HB2.out hb3)
 clear hb3 HB2 hwz
 have hfd := fun w' => run_field_date (.int .i64 (yearL (zt off f))) (.int .i64 (monthL (zt off f))) (.int .i64 (mdayL (zt off f))) w'
 have hwl := HLIM.out
 have HZF := Lib.hid (And.intro hzf hzg)
 clear hzf hzg
 dsimp only
 go_wp2_with fail
 clear hfd
 go_loopw [8] (fun v8 wr => ∃ u : Int, v8 = .int .i64 u ∧ f ≤ u ∧ u ≤ 253722300799 ∧ Hid (NoFitZ off S f u) ∧ Hid (yearL (zt off u) ≤ lim) ∧ Hid (Below wo.heap.size wo wr)) (fun v8 _ => (253722300800 - intOf v8).toNat)
 case atStart => exact ⟨f, rfl, Int.le_refl _, by have := HF0.out; omega, Lib.hid (fun x h1 h2 => by omega), Lib.hid (by rw [HLE.out]; omega), HB3⟩
 case round =>
  obtain ⟨u, rfl, hfu, hut, HNF, HYU, HBr⟩ := hrel
  clear HB3
  have hf0 := HF0.out.1
  have hu0 := hZo0 u
  have hu1 := hZo1 u
  have HZ2 := Lib.hid (HK2.out _ HBr.out)
  have hwu : wrap64 (u + off u) = u + off u := by unfold wrap64; omega
  go_upto_region 4 with (go_big_may; refine wpList_load_row rfl 29 _ rfl (w.heap.size + 1 + 1) rfl _ _ _ _ HZ2.out Try.underlying29 rfl zoneSize ?_)
  refine (HOF.out u _ (by omega) (HKZ.out _ HBr.out)).mono ?_
  rintro e w4 ⟨rfl, hb4⟩
  have HB4 := Lib.hid (below_le HBr.out hb4)
  clear hb4 HBr HZ2
  have HZ3 := Lib.hid (HK2.out _ HB4.out)
  have HCH := Lib.hid (fun w' hi => HZ.out.change u w' (by omega) hi)
  have HST := Lib.hid (fun v a b => HZ.out.stay (u := u) (v := v) (by omega) a b)
  dsimp only
  cases hnx : nx u with
  | none =>
   rw [hnx] at HCH HST
   unfold nxV at HCH
   go_upto_region 6 with (go_big_may; refine wpList_load_row rfl 29 _ rfl (w.heap.size + 1 + 1) rfl _ _ _ _ HZ3.out Try.underlying29 rfl zoneSize ?_)
   refine (HCH.out _ (HKZ.out _ HB4.out)).mono ?_
   rintro e w5 ⟨rfl, hb5⟩
   have HB5 := Lib.hid (below_le HB4.out hb5)
   clear hb5 HB4 HZ3 HCH
   have HZ4 := Lib.hid (HK0.out _ HB5.out)
   dsimp only
   go_upto_region 9 with (go_big_may; refine wpList_load_row rfl 40 _ rfl w.heap.size rfl _ _ _ _ HZ4.out Try.underlying40 rfl (by rw [fieldsSize, fieldsC_size]) ?_)
   refine (HLO.out u _ _ hfu hut HYU.out).mono ?_
   rintro e w6 ⟨⟨x, b, rfl, hb, hbn⟩, hb6⟩
   have HB6 := Lib.hid (below_le HB5.out hb6)
   have HX := Lib.hid hb
   have HXN := Lib.hid hbn
   clear hb6 HB5 HZ4 hb hbn
   dsimp only
   have HRW := Lib.hid (HKS.out _ HB6.out)
   have hsz : w.heap.size ≤ w.heap.size + 1 + 1 + 1 := by omega
   have HW := Lib.hid (below_le hB HB6.out)
   cases b with
   | true =>
    have hx := (HX.out rfl).1.1
    have hx2 := (HX.out rfl).2
    have hwx : wrap64 (x - off u) = x - off u := by unfold wrap64; omega
    have HAN := Lib.hid (seg_some 4611686018427387904 x hfu HNF.out (fun v a _ => HST.out v a (fun c h => by cases h)) (HX.out rfl).1 hx2)
    clear hx hx2
    go_wp2_with (refine wpList_store_row rfl 31 _ _ rfl (w.heap.size + 1 + 1 + 1) (#[.int .i64 (x - off u), .int .i64 0]) rfl rfl 31 _ HRW.out instSize rfl (by simp [Value.oneCell']) ?_)
    refine bodyPost_ret (v := .tuple #[.agg #[.int .i64 (x - off u), .int .i64 0], .bool true]) ?_ rfl ⟨⟨some (x - off u), HAN.out, by simp [ansI]⟩, ?_⟩
    ·exact results_inst (fn := Try.f8) (p := 6) (u := 7) rfl _ _ (w.heap.size + 1 + 1 + 1) _ rfl rfl (setRow_heap _ _ _ _ _ _ HRW.out)
    ·exact below_setRow HW.out hsz _
   | false =>
    have HAN := Lib.hid (seg_none HZ.out.zn (by have := HLI.out; omega) hfu HNF.out (fun v a => HST.out v a (fun c h => by cases h)) (HXN.out (by first | rfl | trivial)))
    go_wp2_with (refine wpList_store_row rfl 31 _ _ rfl (w.heap.size + 1 + 1 + 1) (#[.int .i64 0, .int .i64 0]) rfl rfl 31 _ HRW.out instSize rfl (by simp [Value.oneCell']) ?_)
    refine bodyPost_ret (v := .tuple #[.agg #[.int .i64 0, .int .i64 0], .bool false]) ?_ rfl ⟨⟨none, HAN.out, rfl⟩, ?_⟩
    ·exact results_inst (fn := Try.f8) (p := 6) (u := 7) rfl _ _ (w.heap.size + 1 + 1 + 1) _ rfl rfl (setRow_heap _ _ _ _ _ _ HRW.out)
    ·exact below_setRow HW.out hsz _
  | some c =>
   have huc := HZ.out.gt hnx
   have hct := HZ.out.top hnx
   rw [hnx] at HCH HST
   unfold nxV at HCH
   have hwc : wrap64 (c + off u) = c + off u := by unfold wrap64; omega
   go_upto_region 6 with (go_big_may; refine wpList_load_row rfl 29 _ rfl (w.heap.size + 1 + 1) rfl _ _ _ _ HZ3.out Try.underlying29 rfl zoneSize ?_)
   refine (HCH.out _ (HKZ.out _ HB4.out)).mono ?_
   rintro e w5 ⟨rfl, hb5⟩
   have HB5 := Lib.hid (below_le HB4.out hb5)
   clear hb5 HB4 HZ3 HCH
   have HZ4 := Lib.hid (HK0.out _ HB5.out)
   dsimp only
   go_upto_region 9 with (go_big_may; refine wpList_load_row rfl 40 _ rfl w.heap.size rfl _ _ _ _ HZ4.out Try.underlying40 rfl (by rw [fieldsSize, fieldsC_size]) ?_)
   refine (HLO.out u _ _ hfu hut HYU.out).mono ?_
   rintro e w6 ⟨⟨x, b, rfl, hb, hbn⟩, hb6⟩
   have HB6 := Lib.hid (below_le HB5.out hb6)
   have HX := Lib.hid hb
   have HXN := Lib.hid hbn
   clear hb6 HB5 HZ4 hb hbn
   dsimp only
   have HRW := Lib.hid (HKS.out _ HB6.out)
   have hsz : w.heap.size ≤ w.heap.size + 1 + 1 + 1 := by omega
   have HW := Lib.hid (below_le hB HB6.out)
   have HS2 : Hid (∀ v, u ≤ v → v < c → off v = off u) := Lib.hid (fun v a b => HST.out v a (fun c' h => by cases h; exact b))
   clear HST
   cases b with
   | true =>
    have hx := (HX.out rfl).1.1
    have hx2 := (HX.out rfl).2
    have hwx : wrap64 (x - off u) = x - off u := by unfold wrap64; omega
    have HAN := Lib.hid (seg_some (c + off u) x hfu HNF.out (fun v a b => HS2.out v a (by omega)) (HX.out rfl).1 hx2)
    clear hx hx2 hwc
    go_wp2_with (refine wpList_store_row rfl 31 _ _ rfl (w.heap.size + 1 + 1 + 1) (#[.int .i64 (x - off u), .int .i64 0]) rfl rfl 31 _ HRW.out instSize rfl (by simp [Value.oneCell']) ?_)
    refine bodyPost_ret (v := .tuple #[.agg #[.int .i64 (x - off u), .int .i64 0], .bool true]) ?_ rfl ⟨⟨some (x - off u), HAN.out, by simp [ansI]⟩, ?_⟩
    ·exact results_inst (fn := Try.f8) (p := 6) (u := 7) rfl _ _ (w.heap.size + 1 + 1 + 1) _ rfl rfl (setRow_heap _ _ _ _ _ _ HRW.out)
    ·exact below_setRow HW.out hsz _
   | false =>
    have HZ5 := Lib.hid (HK2.out _ HB6.out)
    have hc0 := hZo0 c
    have hc1 := hZo1 c
    go_wp2_with (refine load_rowG (by rfl) 29 _ rfl (w.heap.size + 1 + 1) rfl _ _ _ _ HZ5.out Try.underlying29 rfl zoneSize ?_)
    refine (HOF.out c _ (by omega) (HKZ.out _ HB6.out)).mono ?_
    rintro e w7 ⟨rfl, hb7⟩
    have HB7 := Lib.hid (below_le HB6.out hb7)
    clear hb7 HB6 HZ5 HRW HW
    have hwz : wrap64 (c + off c) = zt off c := by unfold zt; unfold wrap64; omega
    have hz0 : -62135596800 - 86400 ≤ zt off c := by unfold zt; omega
    have hz1 : zt off c ≤ 320000000000 := by unfold zt; omega
    dsimp only
    go_wp2_with fail
    refine (HFD.out (zt off c) _ (by omega) (by omega)).mono ?_
    rintro e w8 ⟨rfl, hb8⟩
    have HB8 := Lib.hid (below_le HB7.out hb8)
    clear hb8 HB7
    dsimp only
    go_wp2_with fail
    refine (HDO.out (zt off c) _ hz0 hz1).mono ?_
    rintro e w9 ⟨rfl, hb9⟩
    have HB9 := Lib.hid (below_le HB8.out hb9)
    clear hb9 HB8 hwz hwc hwu
    have hfd := fun w' => run_field_date (.int .i64 (yearL (zt off c))) (.int .i64 (monthL (zt off c))) (.int .i64 (mdayL (zt off c))) w'
    have HRW := Lib.hid (HKS.out _ HB9.out)
    have HW := Lib.hid (below_le hB HB9.out)
    dsimp only
    obtain ⟨yc, hyc⟩ : ∃ yc, yc = yearL (zt off c) := ⟨_, rfl⟩
    rw [← hyc] at hfd ⊢
    have HYC := Lib.hid hyc
    clear hyc
    by_cases hgt : yc > lim
    ·have hd1 : decide (yc > lim) = true := decide_eq_true hgt
     have hd2 : decide (lim < yc) = true := decide_eq_true hgt
     have HAN := Lib.hid (seg_end HZ.out.zn hfu huc HNF.out HS2.out (HXN.out (by first | rfl | trivial)) (by rw [← HYC.out]; exact hgt))
     go_wp2_with (refine wpList_store_row rfl 31 _ _ rfl (w.heap.size + 1 + 1 + 1) (#[.int .i64 0, .int .i64 0]) rfl rfl 31 _ HRW.out instSize rfl (by simp [Value.oneCell']) ?_)
     refine bodyPost_ret (v := .tuple #[.agg #[.int .i64 0, .int .i64 0], .bool false]) ?_ rfl ⟨⟨none, HAN.out, rfl⟩, ?_⟩
     ·exact results_inst (fn := Try.f8) (p := 6) (u := 7) rfl _ _ (w.heap.size + 1 + 1 + 1) _ rfl rfl (setRow_heap _ _ _ _ _ _ HRW.out)
     ·exact below_setRow HW.out hsz _
    ·have hd1 : decide (yc > lim) = false := decide_eq_false hgt
     have hd2 : decide (lim < yc) = false := decide_eq_false hgt
     have HYL : Hid (yearL (zt off c) ≤ lim) := Lib.hid (by rw [← HYC.out]; omega)
     have HAN := Lib.hid (seg_next HZ.out.zn huc HNF.out HS2.out (HXN.out (by first | rfl | trivial)) HYL.out)
     go_wp2_with fail
     refine ⟨by omega, ?_⟩
     simp only [intOf]
     omega
end Go.Proofs.Ytlopkdhblfibkaa.CronN
namespace Go.Proofs.Ytlopkdhblfibkaa.Cal
open Go Go.RowKit Go.Proofs.YtlopkdhblfibkaaW.PrintWords Go.Proofs.YtlopkdhblfibkaaW.PrintLast
set_option linter.unusedVariables false
set_option linter.unusedSimpArgs false
theorem locFixed_any (n e : Int) (k : Nat) (w : World) :
  Calls Try.prog 70 #[tv n e (some ⟨k, 0, none⟩)] w fun e' w' => e' = .returned (.pointer (some ⟨k, 0, none⟩)) ∧ Below w.heap.size w w' := by
 unfold tv
 go_enter Try.func70, Try.ntmps70
 go_wp2_with fail
 go_ret
 exact ⟨rfl, by go_grown⟩
end Go.Proofs.Ytlopkdhblfibkaa.Cal
namespace Go.Proofs.Ytlopkdhblfibkaa.Cal
open Go Go.RowKit Go.Proofs.YtlopkdhblfibkaaW.PrintWords Go.Proofs.YtlopkdhblfibkaaW.PrintLast
set_option linter.unusedVariables false
set_option linter.unusedSectionVars false
set_option linter.unusedSimpArgs false
structure ZRow (offs : List Int) (dst : List Bool) (whn idx : List Int) (nm : ByteArray) (w : World) (k Z T c c' : Nat) : Prop where
 utc : w.cell? ⟨k, 0, none⟩ = some (.bool false)
 zone : w.cell? ⟨k, 2, none⟩ = some (.slice (some ⟨Z, 0, none⟩) offs.length c)
 tx : w.cell? ⟨k, 3, none⟩ = some (.slice (some ⟨T, 0, none⟩) whn.length c')
 cz : w.cell? ⟨k, 7, none⟩ = some (.pointer none)
 z0 : ∀ i, i < offs.length → w.cell? ⟨Z, i * 3, none⟩ = some (.string nm)
 z1 : ∀ i, i < offs.length → w.cell? ⟨Z, i * 3 + 1, none⟩ = some (.int .i64 (offs.getD i 0))
 z2 : ∀ i, i < offs.length → w.cell? ⟨Z, i * 3 + 2, none⟩ = some (.bool (dst.getD i false))
 t0 : ∀ j, j < whn.length → w.cell? ⟨T, j * 4, none⟩ = some (.int .i64 (whn.getD j 0))
 t1 : ∀ j, j < whn.length → w.cell? ⟨T, j * 4 + 1, none⟩ = some (.int .u8 (idx.getD j 0))
 hk : k < w.heap.size
 hZ : Z < w.heap.size
 hT : T < w.heap.size
def ZAt (offs : List Int) (dst : List Bool) (whn idx : List Int) (w : World) (k : Nat) : Prop := ∃ nm Z T c c', ZRow offs dst whn idx nm w k Z T c c'
section
variable {offs : List Int} {dst : List Bool} {whn idx : List Int}
theorem ZRow.below {nm : ByteArray} {w w' : World} {k Z T c c' : Nat} (h : ZRow offs dst whn idx nm w k Z T c c') (hb : Below w.heap.size w w') : ZRow offs dst whn idx nm w' k Z T c c' where
 utc := (hb.cell (p := ⟨k, 0, none⟩) h.hk).trans h.utc
 zone := (hb.cell (p := ⟨k, 2, none⟩) h.hk).trans h.zone
 tx := (hb.cell (p := ⟨k, 3, none⟩) h.hk).trans h.tx
 cz := (hb.cell (p := ⟨k, 7, none⟩) h.hk).trans h.cz
 z0 := fun i hi => (hb.cell (p := ⟨Z, i * 3, none⟩) h.hZ).trans (h.z0 i hi)
 z1 := fun i hi => (hb.cell (p := ⟨Z, i * 3 + 1, none⟩) h.hZ).trans (h.z1 i hi)
 z2 := fun i hi => (hb.cell (p := ⟨Z, i * 3 + 2, none⟩) h.hZ).trans (h.z2 i hi)
 t0 := fun j hj => (hb.cell (p := ⟨T, j * 4, none⟩) h.hT).trans (h.t0 j hj)
 t1 := fun j hj => (hb.cell (p := ⟨T, j * 4 + 1, none⟩) h.hT).trans (h.t1 j hj)
 hk := Nat.lt_of_lt_of_le h.hk hb.size
 hZ := Nat.lt_of_lt_of_le h.hZ hb.size
 hT := Nat.lt_of_lt_of_le h.hT hb.size
theorem ZAt.below {w w' : World} {k : Nat} (h : ZAt offs dst whn idx w k) (hb : Below w.heap.size w w') : ZAt offs dst whn idx w' k := by
 obtain ⟨nm, Z, T, c, c', h⟩ := h
 exact ⟨nm, Z, T, c, c', h.below hb⟩
theorem locS_z (n1 : 1 ≤ offs.length) (m1 : 1 ≤ whn.length) (k : Nat) : LocS (fun w j => j = k ∧ ZAt offs dst whn idx w k) := by
 rintro w w' j U n x y ⟨rfl, nm, Z, T, c, c', h⟩ hT hb hs
 have c0 : w.cell? ⟨U, 0, none⟩ = some (.int .u64 n) := cell_of_row _ _ _ _ _ _ hT
 have n1' : j ≠ U := by
  intro e; subst e
  rw [h.utc] at c0
  simp at c0
 have n2 : Z ≠ U := by
  intro e; subst e
  have := h.z0 0 (by omega)
  rw [Nat.zero_mul, c0] at this
  simp at this
 have n3 : T ≠ U := by
  intro e; subst e
  have := h.t0 0 (by omega)
  rw [Nat.zero_mul, c0] at this
  simp at this
 exact ⟨rfl, nm, Z, T, c, c', (World.cell?_of_block (hb j n1')).trans h.utc, (World.cell?_of_block (hb j n1')).trans h.zone, (World.cell?_of_block (hb j n1')).trans h.tx, (World.cell?_of_block (hb j n1')).trans h.cz,
  (fun i hi => (World.cell?_of_block (hb Z n2)).trans (h.z0 i hi)), (fun i hi => (World.cell?_of_block (hb Z n2)).trans (h.z1 i hi)), (fun i hi => (World.cell?_of_block (hb Z n2)).trans (h.z2 i hi)),
  (fun i hi => (World.cell?_of_block (hb T n3)).trans (h.t0 i hi)), (fun i hi => (World.cell?_of_block (hb T n3)).trans (h.t1 i hi)),
  Nat.lt_of_lt_of_le h.hk hs, Nat.lt_of_lt_of_le h.hZ hs, Nat.lt_of_lt_of_le h.hT hs⟩
end
end Go.Proofs.Ytlopkdhblfibkaa.Cal
namespace Go.Proofs.Ytlopkdhblfibkaa.Cal
open Go Go.RowKit Go.Proofs.YtlopkdhblfibkaaW.PrintWords Go.Proofs.YtlopkdhblfibkaaW.PrintLast
set_option linter.unusedVariables false
set_option linter.unusedSimpArgs false
def LookAns (offs whn idx : List Int) (u : Int) (e : Ending) : Prop := ∃ (nm : ByteArray) (st en : Int) (b : Bool), e = .returned (.tuple #[.string nm, .int .i64 (offL offs whn idx u), .int .i64 st, .int .i64 en, .bool b]) ∧ ∀ v, st ≤ v → v < en → offL offs whn idx v = offL offs whn idx u
set_option maxRecDepth 100000 in
set_option maxHeartbeats 4000000 in
theorem look_any {offs : List Int} {dst : List Bool} {whn idx : List Int} (G : GoodL offs dst whn idx) (k : Nat) (u : Int) (w : World) (hf : ZAt offs dst whn idx w k) (u0 : -9223372036854775808 ≤ u) (u1 : u < 9223372036854775807) :
  Calls Try.prog 89 #[.pointer (some ⟨k, 0, none⟩), .int .i64 u] w fun e w' => LookAns offs whn idx u e ∧ Below w.heap.size w w' := by
 obtain ⟨nm, Z, T, c, c', hrow0⟩ := hf
 have HR := Lib.hid hrow0
 have utc := hrow0.utc
 have zone := hrow0.zone
 have tx := hrow0.tx
 have cz := hrow0.cz
 have hm1 := G.m1
 have hm4 := G.m4
 have hn1 := G.n1
 have hn64 := G.n64
 have t00 : w.cell? ⟨T, 0, none⟩ = some (.int .i64 (-9223372036854775808)) := by
  have := hrow0.t0 0 (by omega)
  rw [Nat.zero_mul, G.w0] at this
  exact this
 have HG := Lib.hid (fun w' => getUtc_any k w')
 have hd : decide (u < -9223372036854775808) = false := decide_eq_false (by omega)
 have hl1 : ((offs.length : Int) == 0) = false := beq_eq_false_iff_ne.2 (by omega)
 have hl2 : ((whn.length : Int) == 0) = false := beq_eq_false_iff_ne.2 (by omega)
 clear hrow0
 go_enter Try.func89, Try.ntmps89
 go_wp2_with fail
 refine (HG.out _).mono ?_
 rintro e w1 ⟨rfl, rfl⟩
 go_wp2_with fail
 go_loopw [7, 12, 13] (fun v7 v12 v13 wr => ∃ (en : Int) (lo hi : Nat), v7 = .int .i64 en ∧ v12 = .int .i64 (lo : Int) ∧ v13 = .int .i64 (hi : Int) ∧ lo < hi ∧ hi ≤ whn.length ∧ whn.getD lo 0 ≤ u ∧ (hi < whn.length → en = whn.getD hi 0 ∧ u < en) ∧ (hi = whn.length → en = 9223372036854775807) ∧ wr = w) (fun _ v12 v13 _ => (intOf v13 - intOf v12).toNat)
 case atStart => exact ⟨9223372036854775807, 0, whn.length, rfl, rfl, rfl, by omega, by omega, by rw [G.w0]; exact u0, fun h => absurd h (by omega), fun _ => rfl, rfl⟩
 case round =>
  obtain ⟨en, lo, hi, rfl, rfl, rfl, h1, h3, h4, h5, h6, hwr⟩ := hrel
  have hwr' := hwr.symm
  clear hwr
  subst hwr'
  have hw1 : wrap64 ((hi : Int) - lo) = hi - lo := by unfold wrap64; omega
  by_cases hc : (1 : Int) < (hi : Int) - lo
  ·have hcd : decide ((1 : Int) < (hi : Int) - lo) = true := decide_eq_true hc
   have cm : w.cell? ⟨T, (lo + hi) / 2 * 4, none⟩ = some (.int .i64 (whn.getD ((lo + hi) / 2) 0)) := HR.out.t0 _ (by omega)
   have hmi : ((lo : Int) + hi) / 2 = (((lo + hi) / 2 : Nat) : Int) := by omega
   have HMI := Lib.hid hmi
   clear hmi
   obtain ⟨x, hx⟩ : ∃ x, x = whn.getD ((lo + hi) / 2) 0 := ⟨_, rfl⟩
   rw [← hx] at cm
   have HX := Lib.hid hx
   clear hx
   by_cases hu : u < x
   ·have hud : decide (u < x) = true := decide_eq_true hu
    go_wp2_with fail
    rw [HMI.out]
    refine ⟨⟨_, lo, (lo + hi) / 2, rfl, rfl, rfl, by omega, by omega, h4, fun _ => ⟨HX.out, hu⟩, fun h => absurd h (by omega), trivial⟩, ?_⟩
    simp only [intOf]
    omega
   ·have hud : decide (u < x) = false := decide_eq_false hu
    go_wp2_with fail
    rw [HMI.out]
    refine ⟨⟨_, (lo + hi) / 2, hi, rfl, rfl, rfl, by omega, h3, by have := HX.out; omega, h5, h6, trivial⟩, ?_⟩
    simp only [intOf]
    omega
  ·have hcd : decide ((1 : Int) < (hi : Int) - lo) = false := decide_eq_false hc
   have hl : hi = lo + 1 := by omega
   have hI := G.ib lo (by omega)
   obtain ⟨i, hie⟩ : ∃ i : Nat, idx.getD lo 0 = (i : Int) := ⟨(idx.getD lo 0).toNat, by omega⟩
   have hin : i < offs.length := by omega
   have hlo : lo < whn.length := by omega
   have hp : posL whn u = lo := pos_eq G hlo (.inr h4) (fun h => by have := h5 (by omega); rw [← hl]; omega)
   have hA : offs.getD i 0 = offL offs whn idx u := by unfold offL offAt; rw [hp, hie, Int.toNat_natCast]
   have HANS : Hid (∀ v, whn.getD lo 0 ≤ v → v < en → offL offs whn idx v = offL offs whn idx u) := Lib.hid (fun v v1 v2 => by
    rw [offL_at G hlo v1 (fun h => by have := h5 (by omega); rw [← hl]; omega)]
    unfold offL
    rw [hp])
   have HA := Lib.hid hA
   clear hA hp hI
   go_wp2_with fail
   obtain ⟨wo, rfl⟩ : ∃ wo : World, wo = w := ⟨_, rfl⟩
   have hrow := HR.out
   refine start_ (n := 11) (S := fun w' => ZRow offs dst whn idx nm w' k Z T c c' ∧ Below wo.heap.size wo w') (ds := []) #[false, false, false, false, false, false, false, false, false, false, false] (by kernel_rfl) rfl rfl ⟨hrow.below (Below.refl _ _).drew, (Below.refl _ _).drew⟩ (fun hHeld => ?_)
   refine pure_ (i := 0) (N := some 143) (v := ?_) (a' := ?_) #[true, false, false, false, false, false, false, false, false, false, false] rfl rfl (by kernel_rfl) (fun _ _ _ h => h) (Or.inl ⟨by rfl, ?_⟩) ?_ ?_
   rotate_left
   ·intro w'
    go_simp
    with_reducible rfl
   rotate_left
   ·simp only [Act.put, List.setIfInBounds_toArray, List.set_cons_zero, List.set_cons_succ, i64_w, i32_w]
    rfl
   refine pure_ (i := 1) (N := some 144) (v := ?_) (a' := ?_) #[true, true, false, false, false, false, false, false, false, false, false] rfl rfl (by kernel_rfl) (fun _ _ _ h => h) (Or.inl ⟨by rfl, ?_⟩) ?_ ?_
   rotate_left
   ·intro w'
    go_simp
    with_reducible rfl
   rotate_left
   ·simp only [Act.put, List.setIfInBounds_toArray, List.set_cons_zero, List.set_cons_succ, i64_w, i32_w]
    rfl
   refine pure_ (i := 2) (N := some 145) (v := ?_) (a' := ?_) #[true, true, true, false, false, false, false, false, false, false, false] rfl rfl (by kernel_rfl) (fun _ _ _ h => h) (Or.inl ⟨by rfl, ?_⟩) ?_ ?_
   rotate_left
   ·intro w'
    go_simp
    with_reducible rfl
   rotate_left
   ·simp only [Act.put, List.setIfInBounds_toArray, List.set_cons_zero, List.set_cons_succ, i64_w, i32_w]
    rfl
   refine pure_ (i := 4) (N := some 147) (v := ?_) (a' := ?_) #[true, true, true, false, true, false, false, false, false, false, false] rfl rfl (by kernel_rfl) (fun _ _ _ h => h) (Or.inl ⟨by rfl, ?_⟩) ?_ ?_
   rotate_left
   ·intro w'
    go_simp
    with_reducible rfl
   rotate_left
   ·simp only [Act.put, List.setIfInBounds_toArray, List.set_cons_zero, List.set_cons_succ, i64_w, i32_w]
    rfl
   refine pure_ (i := 5) (N := some 148) (v := ?_) (a' := ?_) #[true, true, true, false, true, true, false, false, false, false, false] rfl rfl (by kernel_rfl) (fun _ _ _ h => h) (Or.inl ⟨by rfl, ?_⟩) ?_ ?_
   rotate_left
   ·intro w'
    go_simp
    with_reducible rfl
   rotate_left
   ·simp only [Act.put, List.setIfInBounds_toArray, List.set_cons_zero, List.set_cons_succ, i64_w, i32_w]
    rfl
   refine pure_ (i := 6) (N := some 149) (v := ?_) (a' := ?_) #[true, true, true, false, true, true, true, false, false, false, false] rfl rfl (by kernel_rfl) (fun _ _ _ h => h) (Or.inl ⟨by rfl, ?_⟩) ?_ ?_
   rotate_left
   ·intro w'
    go_simp
    with_reducible rfl
   rotate_left
   ·simp only [Act.put, List.setIfInBounds_toArray, List.set_cons_zero, List.set_cons_succ, i64_w, i32_w]
    rfl
   refine pure_ (i := 7) (N := some 150) (v := ?_) (a' := ?_) #[true, true, true, false, true, true, true, true, false, false, false] rfl rfl (by kernel_rfl) (fun _ _ _ h => h) (Or.inl ⟨by rfl, ?_⟩) ?_ ?_
   rotate_left
   ·intro w'
    go_simp
    with_reducible rfl
   rotate_left
   ·simp only [Act.put, List.setIfInBounds_toArray, List.set_cons_zero, List.set_cons_succ, i64_w, i32_w]
    rfl
   refine take_ (i := 3) (N := some 146) (v := ?_) (a' := ?_) #[true, true, true, true, true, true, true, true, false, false, false] rfl rfl (by kernel_rfl) (fun _ _ _ h => h) (Or.inl ⟨by rfl, ?_⟩) hHeld ?_ ?_
   rotate_left
   ·rintro w' ⟨s0, s1⟩
    have c1 := s0.zone
    go_simp
    with_reducible rfl
   rotate_left
   ·simp only [Act.put, List.setIfInBounds_toArray, List.set_cons_zero, List.set_cons_succ, i64_w, i32_w]
    rfl
   refine take_ (i := 8) (N := some 151) (v := ?_) (a' := ?_) #[true, true, true, true, true, true, true, true, true, false, false] rfl rfl (by kernel_rfl) (fun _ _ _ h => h) (Or.inl ⟨by rfl, ?_⟩) hHeld ?_ ?_
   rotate_left
   ·rintro w' ⟨s0, s1⟩
    have c1 : w'.cell? ⟨T, lo * 4 + 1, none⟩ = some (.int .u8 (i : Int)) := by { rw [← hie]; exact s0.t1 lo hlo }
    go_simp
    with_reducible rfl
   rotate_left
   ·simp only [Act.put, List.setIfInBounds_toArray, List.set_cons_zero, List.set_cons_succ, i64_w, i32_w]
    rfl
   refine pure_ (i := 9) (N := some 152) (v := ?_) (a' := ?_) #[true, true, true, true, true, true, true, true, true, true, false] rfl rfl (by kernel_rfl) (fun _ _ _ h => h) (Or.inl ⟨by rfl, ?_⟩) ?_ ?_
   rotate_left
   ·intro w'
    go_simp
    with_reducible rfl
   rotate_left
   ·simp only [Act.put, List.setIfInBounds_toArray, List.set_cons_zero, List.set_cons_succ, i64_w, i32_w]
    rfl
   refine pure_ (i := 10) (N := some 16) (v := ?_) (a' := ?_) #[true, true, true, true, true, true, true, true, true, true, true] rfl rfl (by kernel_rfl) (fun _ _ _ h => h) (Or.inl ⟨by rfl, ?_⟩) ?_ ?_
   rotate_left
   ·intro w'
    go_simp
    with_reducible rfl
   rotate_left
   ·simp only [Act.put, List.setIfInBounds_toArray, List.set_cons_zero, List.set_cons_succ, i64_w, i32_w]
    rfl
   refine done_ (by kernel_rfl) ?_
   have d0 := hHeld.1.z0 i hin
   have d1 := hHeld.1.z1 i hin
   have d2 := hHeld.1.z2 i hin
   have d3 := hHeld.1.t0 lo hlo
   have hbz := hHeld.2
   obtain ⟨x1, hx1⟩ : ∃ x, x = offs.getD i 0 := ⟨_, rfl⟩
   obtain ⟨x2, hx2⟩ : ∃ x, x = dst.getD i false := ⟨_, rfl⟩
   obtain ⟨x3, hx3⟩ : ∃ x, x = whn.getD lo 0 := ⟨_, rfl⟩
   rw [← hx1] at d1
   rw [← hx2] at d2
   rw [← hx3] at d3
   have HX := Lib.hid (And.intro (hx1.trans HA.out) hx3)
   clear hrow hx1 hx2 hx3 h4 h5
   go_wp2_with fail
   go_returns
   rw [HX.out.1]
   exact ⟨⟨nm, x3, en, x2, rfl, by rw [HX.out.2]; exact HANS.out⟩, hbz⟩
end Go.Proofs.Ytlopkdhblfibkaa.Cal
namespace Go.Proofs.Ytlopkdhblfibkaa.Cal
open Go Go.RowKit Go.Proofs.YtlopkdhblfibkaaW.PrintWords Go.Proofs.YtlopkdhblfibkaaW.PrintLast
set_option linter.unusedVariables false
set_option linter.unusedSimpArgs false
theorem setLocZ_any {offs : List Int} {dst : List Bool} {whn idx : List Int} (g k : Nat) (n : Int) (l : Option Addr) (w : World) (h0 : 0 ≤ n) (h1 : n < 1073741824) (hc0 : w.cell? ⟨g, 0, none⟩ = some (.int .u64 n)) (hc2 : w.cell? ⟨g, 2, none⟩ = some (.pointer l)) (hf2 : w.frozen? ⟨g, 2, none⟩ = false) (hu : ZAt offs dst whn idx w k) :
  Calls Try.prog 43 #[.pointer (some ⟨g, 0, none⟩), .pointer (some ⟨k, 0, none⟩)] w fun e' w' => e' = .returned (.tuple #[]) ∧ w' = w.setCell ⟨g, 2, none⟩ (.pointer (some ⟨k, 0, none⟩)) := by
 have H := Lib.hid (strip_any g n w h0 h1 hc0)
 have utc : w.cell? ⟨k, 0, none⟩ = some (.bool false) := by
  obtain ⟨nm, Z, T, c, c', h⟩ := hu
  exact h.utc
 clear hu
 go_enter Try.func43, Try.ntmps43
 go_wp2_with fail
 refine H.out.mono ?_
 rintro e' w' ⟨rfl, rfl⟩
 go_wp2_with fail
 refine bodyPost_end (results_none rfl _ _ _) rfl ?_
 exact ⟨rfl, rfl⟩
theorem inZ_any {offs : List Int} {dst : List Bool} {whn idx : List Int} (n e : Int) (l : Option Addr) (k : Nat) (w : World) (h0 : 0 ≤ n) (h1 : n < 1073741824) (hu : ZAt offs dst whn idx w k) :
  Calls Try.prog 37 #[tv n e l, .pointer (some ⟨k, 0, none⟩)] w fun e' w' => e' = .returned (tv n e (some ⟨k, 0, none⟩)) ∧ Below w.heap.size w w' := by
 unfold tv
 have HS := Lib.hid (fun (g : Nat) w' hc0 hc2 hf2 hu' => setLocZ_any (offs := offs) (dst := dst) (whn := whn) (idx := idx) g k n l w' h0 h1 hc0 hc2 hf2 hu')
 have HU := Lib.hid hu
 go_enter Try.func37, Try.ntmps37
 go_wp2_with fail
 refine (HS.out w.heap.size _ (by simp [go_sem]) (by simp [go_sem]) (by simp [go_sem]) (HU.out.below (((Below.refl _ _).alloc (Nat.le_refl _) _).alloc (by simp) _))).mono ?_
 rintro e' w' ⟨rfl, rfl⟩
 go_wp2_with fail
 exact bodyPost_ret (v := .agg #[.int .u64 n, .int .i64 e, .pointer (some ⟨k, 0, none⟩)]) (by simp [results, Try.results37, go_sem]) rfl ⟨rfl, by go_grown⟩
set_option maxHeartbeats 1000000 in
theorem absSecZ_any {offs : List Int} {dst : List Bool} {whn idx : List Int} (G : GoodL offs dst whn idx) (n e : Int) (k : Nat) (h0 : 0 ≤ n) (h1 : n < 1073741824) (he : EOk e) (w : World) (hu : ZAt offs dst whn idx w k) :
  Calls Try.prog 80 #[tv n e (some ⟨k, 0, none⟩)] w fun e' w' => e' = .returned (.int .u64 (e - 62135596800 + offL offs whn idx (e - 62135596800) + 9223372028741760000)) ∧ Below w.heap.size w w' := by
 unfold tv
 obtain ⟨he0, he1⟩ := he
 obtain ⟨o0, o1⟩ := offL_in G (e - 62135596800)
 have HU := Lib.hid (fun (g : Nat) w' hc0 hc1 => unixSec_any g n e w' h0 h1 (by omega) (by omega) hc0 hc1)
 have HL := Lib.hid (fun w' hu' => look_any G k (e - 62135596800) w' hu' (by omega) (by omega))
 obtain ⟨off, hoff⟩ : ∃ x, x = offL offs whn idx (e - 62135596800) := ⟨_, rfl⟩
 rw [← hoff] at o0 o1 ⊢
 have HOFF := Lib.hid hoff
 clear hoff
 have HF := Lib.hid (hu.below ((Below.refl w.heap.size w).alloc (Nat.le_refl _) (.cells #[.int .u64 n, .int .i64 e, .pointer (some ⟨k, 0, none⟩)] 59)))
 have hutc : (w.alloc (.cells #[.int .u64 n, .int .i64 e, .pointer (some ⟨k, 0, none⟩)] 59)).cell? ⟨k, 0, none⟩ = some (.bool false) := by
  obtain ⟨nm, Z, T, c, c', h⟩ := HF.out
  exact h.utc
 have hcz : (w.alloc (.cells #[.int .u64 n, .int .i64 e, .pointer (some ⟨k, 0, none⟩)] 59)).cell? ⟨k, 7, none⟩ = some (.pointer none) := by
  obtain ⟨nm, Z, T, c, c', h⟩ := HF.out
  exact h.cz
 clear hu
 go_enter Try.func80, Try.ntmps80
 go_wp2_with fail
 refine (HU.out _ _ (by simp [go_sem]) (by simp [go_sem])).mono ?_
 rintro e' w2 ⟨rfl, rfl⟩
 go_wp2_with fail
 refine (HL.out _ HF.out).mono ?_
 rintro e' w3 ⟨⟨nm, st, en, b, rfl, -⟩, hb3⟩
 rw [← HOFF.out]
 have HB := Lib.hid (((Below.refl w.heap.size w).alloc (Nat.le_refl _) _).trans (hb3.mono (by simp)))
 clear hb3
 go_wp2_with fail
 go_ret
 refine ⟨congrArg (fun x => Ending.returned (.int .u64 x)) (?_ : IntKind.u64.wrap (wrap64 (e - 62135596800 + off + 9223372028741760000)) = e - 62135596800 + off + 9223372028741760000), HB.out⟩
 simp only [IntKind.wrap_u64]
 unfold wrap64
 omega
set_option maxRecDepth 100000 in
set_option maxHeartbeats 8000000 in
theorem dateZ_any {offs : List Int} {dst : List Bool} {whn idx : List Int} (G : GoodL offs dst whn idx) (k : Nat) (y m d h mi s ns : Int) (w : World) (y0 : 0 ≤ y) (y1 : y ≤ 10100) (m0 : 1 ≤ m) (m1 : m ≤ 13) (d0 : 1 ≤ d) (d1 : d ≤ 40) (hy : m < 3 → 1 ≤ y)
  (h0 : 0 ≤ h) (h1 : h < 24) (mi0 : 0 ≤ mi) (mi1 : mi < 60) (s0 : 0 ≤ s) (s1 : s < 60) (n0 : 0 ≤ ns) (n1 : ns < 1000000000) (hu : ZAt offs dst whn idx w k) :
  Calls Try.prog 73 #[.int .i64 y, .int .i64 m, .int .i64 d, .int .i64 h, .int .i64 mi, .int .i64 s, .int .i64 ns, .pointer (some ⟨k, 0, none⟩)] w
   fun e w' => e = .returned (tv ns (dt (offL offs whn idx) (dayGo y m d * 86400 + (h * 3600 + mi * 60 + s)) + 62135596800) (some ⟨k, 0, none⟩)) ∧ Below w.heap.size w w' := by
 have hdd : Hid (∀ y m : Int, 0 ≤ y → y ≤ 10101 → 1 ≤ m → m ≤ 12 → -719600 ≤ dayOf y m d ∧ dayOf y m d ≤ 4000000) := Lib.hid (by
  intro y m a1 a2 a3 a4
  have c1 := cum_nonneg (y := y) a3 (by omega)
  have c2 := cum_lt (y := y) (m := m) (m' := 13) a3 (by omega) (by omega)
  have c3 := cum_last y
  have c4 := lp_01 y
  have c5 := mdays_bd y m
  unfold dayOf ystart
  omega)
 have HN := Lib.hid (fun hi lo base a b w => norm_in hi lo base a b w)
 have HS := Lib.hid (fun (g : Nat) w' hc0 hc2 hf2 hu' => setLocZ_any (offs := offs) (dst := dst) (whn := whn) (idx := idx) g k ns none w' n0 (by omega) hc0 hc2 hf2 hu')
 by_cases h13 : m = 13
 ·subst h13
  have H12 := Lib.hid (fun w => norm_12 y (by omega) (by omega) w)
  have HD := Lib.hid (fun w => dateToAbs_any (y + 1) 1 d (by omega) (by omega) (by omega) (by omega) d0 d1 (by omega) w)
  have hb := hdd.out (y + 1) 1 (by omega) (by omega) (by omega) (by omega)
  have HG : Hid (dayGo y 13 d = dayOf (y + 1) 1 d) := Lib.hid (by unfold dayGo; rw [if_pos rfl])
  rw [HG.out]
  generalize dayOf (y + 1) 1 d = D at *
  clear hdd hy HG
  go_enter Try.func73, Try.ntmps73
  go_wp2_with fail
  refine (H12.out _).mono ?_
  rintro e1 w1 ⟨rfl, rfl⟩
  go_wp2_with fail
  refine (HN.out s ns 1000000000 n0 n1 _).mono ?_
  rintro e1 w1 ⟨rfl, rfl⟩
  go_wp2_with fail
  refine (HN.out mi s 60 s0 s1 _).mono ?_
  rintro e1 w1 ⟨rfl, rfl⟩
  go_wp2_with fail
  refine (HN.out h mi 60 mi0 mi1 _).mono ?_
  rintro e1 w1 ⟨rfl, rfl⟩
  go_wp2_with fail
  refine (HN.out d h 24 h0 h1 _).mono ?_
  rintro e1 w1 ⟨rfl, rfl⟩
  go_wp2_with fail
  refine (HD.out _).mono ?_
  rintro e1 w1 ⟨rfl, rfl⟩
  have HW : Hid (wrap64 (wrap64 (wrap64 (wrap64 (D + absK) * 86400) + (h * 3600 + mi * 60 + s)) + -9223372028741760000) = D * 86400 + (h * 3600 + mi * 60 + s)) := Lib.hid (wrap_days D _ hb.1 hb.2 (by omega) (by omega))
  have u0 : -900000000000 ≤ D * 86400 + (h * 3600 + mi * 60 + s) := by omega
  have u1 : D * 86400 + (h * 3600 + mi * 60 + s) ≤ 900000000000 := by omega
  go_wp2_with fail
  rw [HW.out]
  clear HW
  generalize hue : D * 86400 + (h * 3600 + mi * 60 + s) = u at *
  have HUE := Lib.hid hue
  clear hue
  obtain ⟨uo0, uo1⟩ := offL_in G u
  have HL := Lib.hid (fun (x : Int) (w' : World) (hu' : ZAt offs dst whn idx w' k) (x0 : -910000000000 ≤ x) (x1 : x ≤ 910000000000) => look_any G k x w' hu' (by omega) (by omega))
  refine (HL.out u _ (hu.below ((Below.refl _ _).alloc (Nat.le_refl _) _)) (by omega) (by omega)).mono ?_
  rintro e1 wl ⟨⟨nm, st, en, dd, rfl, hin⟩, hbl⟩
  have hul := Lib.hid ((hu.below ((Below.refl _ _).alloc (Nat.le_refl _) (.cells #[.int .u64 0, .int .i64 0, .pointer none] 59))).below hbl)
  obtain ⟨o, ho⟩ : ∃ o, o = offL offs whn idx u := ⟨_, rfl⟩
  have hq := offL_in G (u - o)
  have HQ : Hid (dt (offL offs whn idx) u = u - offL offs whn idx (u - o)) := Lib.hid (by rw [ho]; rfl)
  rw [← ho] at hin uo0 uo1 ⊢
  have HO := Lib.hid ho
  have HIN := Lib.hid hin
  clear ho hin
  by_cases hoff : o = 0
  ·have HU := Lib.hid (unixTime_any u ns n0 n1 (by omega) (by omega))
   have HE : Hid (u - offL offs whn idx (u - o) = u) := Lib.hid (by rw [hoff, Int.sub_zero, ← HO.out]; omega)
   clear hq
   subst hoff
   go_wp2_with fail
   refine (HU.out _).mono ?_
   rintro e1 w1 ⟨rfl, hb1x⟩
   have hb1 := below_le hbl hb1x
   clear hb1x hbl
   have HB1 := Lib.hid (((Below.refl w.heap.size w).alloc (Nat.le_refl _) _).trans (hb1.mono (by simp)))
   have hc16 : w1.cell? ⟨w.heap.size, 0, none⟩ = some (.int .u64 0) := (hb1.cell (p := ⟨w.heap.size, 0, none⟩) (by simp)).trans (by simp [go_sem])
   have hc17 : w1.cell? ⟨w.heap.size, 1, none⟩ = some (.int .i64 0) := (hb1.cell (p := ⟨w.heap.size, 1, none⟩) (by simp)).trans (by simp [go_sem])
   have hc18 : w1.cell? ⟨w.heap.size, 2, none⟩ = some (.pointer none) := (hb1.cell (p := ⟨w.heap.size, 2, none⟩) (by simp)).trans (by simp [go_sem])
   have hf16 : w1.frozen? ⟨w.heap.size, 0, none⟩ = false := (hb1.frozen (p := ⟨w.heap.size, 0, none⟩) (by simp)).trans (by simp [go_sem])
   have hf17 : w1.frozen? ⟨w.heap.size, 1, none⟩ = false := (hb1.frozen (p := ⟨w.heap.size, 1, none⟩) (by simp)).trans (by simp [go_sem])
   have hf18 : w1.frozen? ⟨w.heap.size, 2, none⟩ = false := (hb1.frozen (p := ⟨w.heap.size, 2, none⟩) (by simp)).trans (by simp [go_sem])
   have hrow := (hb1.block w.heap.size (by simp)).trans (heap_alloc_new w (.cells #[.int .u64 0, .int .i64 0, .pointer none] 59))
   have HROW := Lib.hid (((Below.refl _ _).alloc (Nat.le_refl _) (.cells #[.int .u64 ns, .int .i64 (u + 62135596800), .pointer (some ⟨k, 0, none⟩)] 59) |>.block w.heap.size (by simpa using (Array.getElem?_eq_some_iff.1 hrow).1)).trans (row3_set (x := .int .u64 ns) (y := .int .i64 (u + 62135596800)) (z := .pointer (some ⟨k, 0, none⟩)) hrow))
   clear hrow
   have hsz1 : w.heap.size < w1.heap.size := by have := hb1.size; simp at this; omega
   have hu1 := Lib.hid (hu.below HB1.out)
   clear hb1
   unfold tv at *
   go_wp2_with fail
   refine (HS.out w1.heap.size _ (by simp [go_sem]) (by simp [go_sem]) (by simp [go_sem]) (hu1.out.below (by go_grown))).mono ?_
   rintro e1 w2 ⟨rfl, rfl⟩
   go_wp2_with fail
   refine bodyPost_ret (v := .agg #[.int .u64 ns, .int .i64 (u + 62135596800), .pointer (some ⟨k, 0, none⟩)]) (results_time rfl _ _ w.heap.size _ rfl rfl HROW.out) rfl ⟨by rw [HUE.out, HQ.out, HE.out]; rfl, ?_⟩
   have hz := HB1.out.size
   exact (((HB1.out.setCell (p := ⟨w.heap.size, 0, none⟩) (Nat.le_refl _) _).setCell (p := ⟨w.heap.size, 1, none⟩) (Nat.le_refl _) _).setCell (p := ⟨w.heap.size, 2, none⟩) (Nat.le_refl _) _).alloc (by simpa using hz) _
  by_cases c1 : u - o < st
  ·have hwo : wrap64 (u - o) = u - o := by unfold wrap64; omega
   have hl1 : decide (u - o < st) = true := decide_eq_true c1
   go_wp2_with fail
   refine (HL.out (u - o) _ hul.out (by omega) (by omega)).mono ?_
   rintro e1 wl2 ⟨⟨nm2, st2, en2, dd2, rfl, -⟩, hbl2⟩
   have hbl := below_le hbl hbl2
   clear hbl2
   obtain ⟨q, hqe⟩ : ∃ q, q = offL offs whn idx (u - o) := ⟨_, rfl⟩
   rw [← hqe] at hq HQ ⊢
   have hwq : wrap64 (u - q) = u - q := by unfold wrap64; omega
   have HU := Lib.hid (unixTime_any (u - q) ns n0 n1 (by omega) (by omega))
   have HQE := Lib.hid hqe
   clear hqe
   go_wp2_with fail
   refine (HU.out _).mono ?_
   rintro e1 w1 ⟨rfl, hb1x⟩
   have hb1 := below_le hbl hb1x
   clear hb1x hbl
   have HB1 := Lib.hid (((Below.refl w.heap.size w).alloc (Nat.le_refl _) _).trans (hb1.mono (by simp)))
   have hc16 : w1.cell? ⟨w.heap.size, 0, none⟩ = some (.int .u64 0) := (hb1.cell (p := ⟨w.heap.size, 0, none⟩) (by simp)).trans (by simp [go_sem])
   have hc17 : w1.cell? ⟨w.heap.size, 1, none⟩ = some (.int .i64 0) := (hb1.cell (p := ⟨w.heap.size, 1, none⟩) (by simp)).trans (by simp [go_sem])
   have hc18 : w1.cell? ⟨w.heap.size, 2, none⟩ = some (.pointer none) := (hb1.cell (p := ⟨w.heap.size, 2, none⟩) (by simp)).trans (by simp [go_sem])
   have hf16 : w1.frozen? ⟨w.heap.size, 0, none⟩ = false := (hb1.frozen (p := ⟨w.heap.size, 0, none⟩) (by simp)).trans (by simp [go_sem])
   have hf17 : w1.frozen? ⟨w.heap.size, 1, none⟩ = false := (hb1.frozen (p := ⟨w.heap.size, 1, none⟩) (by simp)).trans (by simp [go_sem])
   have hf18 : w1.frozen? ⟨w.heap.size, 2, none⟩ = false := (hb1.frozen (p := ⟨w.heap.size, 2, none⟩) (by simp)).trans (by simp [go_sem])
   have hrow := (hb1.block w.heap.size (by simp)).trans (heap_alloc_new w (.cells #[.int .u64 0, .int .i64 0, .pointer none] 59))
   have HROW := Lib.hid (((Below.refl _ _).alloc (Nat.le_refl _) (.cells #[.int .u64 ns, .int .i64 ((u - q) + 62135596800), .pointer (some ⟨k, 0, none⟩)] 59) |>.block w.heap.size (by simpa using (Array.getElem?_eq_some_iff.1 hrow).1)).trans (row3_set (x := .int .u64 ns) (y := .int .i64 ((u - q) + 62135596800)) (z := .pointer (some ⟨k, 0, none⟩)) hrow))
   clear hrow
   have hsz1 : w.heap.size < w1.heap.size := by have := hb1.size; simp at this; omega
   have hu1 := Lib.hid (hu.below HB1.out)
   clear hb1
   unfold tv at *
   go_wp2_with fail
   refine (HS.out w1.heap.size _ (by simp [go_sem]) (by simp [go_sem]) (by simp [go_sem]) (hu1.out.below (by go_grown))).mono ?_
   rintro e1 w2 ⟨rfl, rfl⟩
   go_wp2_with fail
   refine bodyPost_ret (v := .agg #[.int .u64 ns, .int .i64 ((u - q) + 62135596800), .pointer (some ⟨k, 0, none⟩)]) (results_time rfl _ _ w.heap.size _ rfl rfl HROW.out) rfl ⟨by rw [HUE.out, HQ.out]; rfl, ?_⟩
   have hz := HB1.out.size
   exact (((HB1.out.setCell (p := ⟨w.heap.size, 0, none⟩) (Nat.le_refl _) _).setCell (p := ⟨w.heap.size, 1, none⟩) (Nat.le_refl _) _).setCell (p := ⟨w.heap.size, 2, none⟩) (Nat.le_refl _) _).alloc (by simpa using hz) _
  by_cases c2 : en ≤ u - o
  ·have hwo : wrap64 (u - o) = u - o := by unfold wrap64; omega
   have hl1 : decide (u - o < st) = false := decide_eq_false c1
   have hl2 : decide (u - o ≥ en) = true := decide_eq_true c2
   have hl3 : decide (en ≤ u - o) = true := decide_eq_true c2
   go_wp2_with fail
   refine (HL.out (u - o) _ hul.out (by omega) (by omega)).mono ?_
   rintro e1 wl2 ⟨⟨nm2, st2, en2, dd2, rfl, -⟩, hbl2⟩
   have hbl := below_le hbl hbl2
   clear hbl2
   obtain ⟨q, hqe⟩ : ∃ q, q = offL offs whn idx (u - o) := ⟨_, rfl⟩
   rw [← hqe] at hq HQ ⊢
   have hwq : wrap64 (u - q) = u - q := by unfold wrap64; omega
   have HU := Lib.hid (unixTime_any (u - q) ns n0 n1 (by omega) (by omega))
   have HQE := Lib.hid hqe
   clear hqe
   go_wp2_with fail
   refine (HU.out _).mono ?_
   rintro e1 w1 ⟨rfl, hb1x⟩
   have hb1 := below_le hbl hb1x
   clear hb1x hbl
   have HB1 := Lib.hid (((Below.refl w.heap.size w).alloc (Nat.le_refl _) _).trans (hb1.mono (by simp)))
   have hc16 : w1.cell? ⟨w.heap.size, 0, none⟩ = some (.int .u64 0) := (hb1.cell (p := ⟨w.heap.size, 0, none⟩) (by simp)).trans (by simp [go_sem])
   have hc17 : w1.cell? ⟨w.heap.size, 1, none⟩ = some (.int .i64 0) := (hb1.cell (p := ⟨w.heap.size, 1, none⟩) (by simp)).trans (by simp [go_sem])
   have hc18 : w1.cell? ⟨w.heap.size, 2, none⟩ = some (.pointer none) := (hb1.cell (p := ⟨w.heap.size, 2, none⟩) (by simp)).trans (by simp [go_sem])
   have hf16 : w1.frozen? ⟨w.heap.size, 0, none⟩ = false := (hb1.frozen (p := ⟨w.heap.size, 0, none⟩) (by simp)).trans (by simp [go_sem])
   have hf17 : w1.frozen? ⟨w.heap.size, 1, none⟩ = false := (hb1.frozen (p := ⟨w.heap.size, 1, none⟩) (by simp)).trans (by simp [go_sem])
   have hf18 : w1.frozen? ⟨w.heap.size, 2, none⟩ = false := (hb1.frozen (p := ⟨w.heap.size, 2, none⟩) (by simp)).trans (by simp [go_sem])
   have hrow := (hb1.block w.heap.size (by simp)).trans (heap_alloc_new w (.cells #[.int .u64 0, .int .i64 0, .pointer none] 59))
   have HROW := Lib.hid (((Below.refl _ _).alloc (Nat.le_refl _) (.cells #[.int .u64 ns, .int .i64 ((u - q) + 62135596800), .pointer (some ⟨k, 0, none⟩)] 59) |>.block w.heap.size (by simpa using (Array.getElem?_eq_some_iff.1 hrow).1)).trans (row3_set (x := .int .u64 ns) (y := .int .i64 ((u - q) + 62135596800)) (z := .pointer (some ⟨k, 0, none⟩)) hrow))
   clear hrow
   have hsz1 : w.heap.size < w1.heap.size := by have := hb1.size; simp at this; omega
   have hu1 := Lib.hid (hu.below HB1.out)
   clear hb1
   unfold tv at *
   go_wp2_with fail
   refine (HS.out w1.heap.size _ (by simp [go_sem]) (by simp [go_sem]) (by simp [go_sem]) (hu1.out.below (by go_grown))).mono ?_
   rintro e1 w2 ⟨rfl, rfl⟩
   go_wp2_with fail
   refine bodyPost_ret (v := .agg #[.int .u64 ns, .int .i64 ((u - q) + 62135596800), .pointer (some ⟨k, 0, none⟩)]) (results_time rfl _ _ w.heap.size _ rfl rfl HROW.out) rfl ⟨by rw [HUE.out, HQ.out]; rfl, ?_⟩
   have hz := HB1.out.size
   exact (((HB1.out.setCell (p := ⟨w.heap.size, 0, none⟩) (Nat.le_refl _) _).setCell (p := ⟨w.heap.size, 1, none⟩) (Nat.le_refl _) _).setCell (p := ⟨w.heap.size, 2, none⟩) (Nat.le_refl _) _).alloc (by simpa using hz) _
  ·have HE : Hid (offL offs whn idx (u - o) = o) := Lib.hid (HIN.out (u - o) (by omega) (by omega))
   have HU := Lib.hid (unixTime_any (u - o) ns n0 n1 (by omega) (by omega))
   have hwo : wrap64 (u - o) = u - o := by unfold wrap64; omega
   have hl1 : decide (u - o < st) = false := decide_eq_false c1
   have hl2 : decide (u - o ≥ en) = false := decide_eq_false c2
   have hl3 : decide (en ≤ u - o) = false := decide_eq_false c2
   clear hq
   go_wp2_with fail
   refine (HU.out _).mono ?_
   rintro e1 w1 ⟨rfl, hb1x⟩
   have hb1 := below_le hbl hb1x
   clear hb1x hbl
   have HB1 := Lib.hid (((Below.refl w.heap.size w).alloc (Nat.le_refl _) _).trans (hb1.mono (by simp)))
   have hc16 : w1.cell? ⟨w.heap.size, 0, none⟩ = some (.int .u64 0) := (hb1.cell (p := ⟨w.heap.size, 0, none⟩) (by simp)).trans (by simp [go_sem])
   have hc17 : w1.cell? ⟨w.heap.size, 1, none⟩ = some (.int .i64 0) := (hb1.cell (p := ⟨w.heap.size, 1, none⟩) (by simp)).trans (by simp [go_sem])
   have hc18 : w1.cell? ⟨w.heap.size, 2, none⟩ = some (.pointer none) := (hb1.cell (p := ⟨w.heap.size, 2, none⟩) (by simp)).trans (by simp [go_sem])
   have hf16 : w1.frozen? ⟨w.heap.size, 0, none⟩ = false := (hb1.frozen (p := ⟨w.heap.size, 0, none⟩) (by simp)).trans (by simp [go_sem])
   have hf17 : w1.frozen? ⟨w.heap.size, 1, none⟩ = false := (hb1.frozen (p := ⟨w.heap.size, 1, none⟩) (by simp)).trans (by simp [go_sem])
   have hf18 : w1.frozen? ⟨w.heap.size, 2, none⟩ = false := (hb1.frozen (p := ⟨w.heap.size, 2, none⟩) (by simp)).trans (by simp [go_sem])
   have hrow := (hb1.block w.heap.size (by simp)).trans (heap_alloc_new w (.cells #[.int .u64 0, .int .i64 0, .pointer none] 59))
   have HROW := Lib.hid (((Below.refl _ _).alloc (Nat.le_refl _) (.cells #[.int .u64 ns, .int .i64 ((u - o) + 62135596800), .pointer (some ⟨k, 0, none⟩)] 59) |>.block w.heap.size (by simpa using (Array.getElem?_eq_some_iff.1 hrow).1)).trans (row3_set (x := .int .u64 ns) (y := .int .i64 ((u - o) + 62135596800)) (z := .pointer (some ⟨k, 0, none⟩)) hrow))
   clear hrow
   have hsz1 : w.heap.size < w1.heap.size := by have := hb1.size; simp at this; omega
   have hu1 := Lib.hid (hu.below HB1.out)
   clear hb1
   unfold tv at *
   go_wp2_with fail
   refine (HS.out w1.heap.size _ (by simp [go_sem]) (by simp [go_sem]) (by simp [go_sem]) (hu1.out.below (by go_grown))).mono ?_
   rintro e1 w2 ⟨rfl, rfl⟩
   go_wp2_with fail
   refine bodyPost_ret (v := .agg #[.int .u64 ns, .int .i64 ((u - o) + 62135596800), .pointer (some ⟨k, 0, none⟩)]) (results_time rfl _ _ w.heap.size _ rfl rfl HROW.out) rfl ⟨by rw [HUE.out, HQ.out, HE.out]; rfl, ?_⟩
   have hz := HB1.out.size
   exact (((HB1.out.setCell (p := ⟨w.heap.size, 0, none⟩) (Nat.le_refl _) _).setCell (p := ⟨w.heap.size, 1, none⟩) (Nat.le_refl _) _).setCell (p := ⟨w.heap.size, 2, none⟩) (Nat.le_refl _) _).alloc (by simpa using hz) _
 ·have m12 : m ≤ 12 := by omega
  have HD := Lib.hid (fun w => dateToAbs_any y m d (by omega) (by omega) (by omega) (by omega) d0 d1 hy w)
  have hb := hdd.out y m (by omega) (by omega) (by omega) (by omega)
  have HG : Hid (dayGo y m d = dayOf y m d) := Lib.hid (by unfold dayGo; rw [if_neg h13])
  have HM : Hid (m - 1 + 1 = m) := Lib.hid (by omega)
  rw [HG.out]
  generalize dayOf y m d = D at *
  clear hdd hy HG h13
  go_enter Try.func73, Try.ntmps73
  go_wp2_with fail
  refine (HN.out y (m - 1) 12 (by omega) (by omega) _).mono ?_
  rintro e1 w1 ⟨rfl, rfl⟩
  go_wp2_with fail
  refine (HN.out s ns 1000000000 n0 n1 _).mono ?_
  rintro e1 w1 ⟨rfl, rfl⟩
  go_wp2_with fail
  refine (HN.out mi s 60 s0 s1 _).mono ?_
  rintro e1 w1 ⟨rfl, rfl⟩
  go_wp2_with fail
  refine (HN.out h mi 60 mi0 mi1 _).mono ?_
  rintro e1 w1 ⟨rfl, rfl⟩
  go_wp2_with fail
  refine (HN.out d h 24 h0 h1 _).mono ?_
  rintro e1 w1 ⟨rfl, rfl⟩
  go_wp2_with fail
  refine (HD.out _).mono ?_
  rintro e1 w1 ⟨rfl, rfl⟩
  have HW : Hid (wrap64 (wrap64 (wrap64 (wrap64 (D + absK) * 86400) + (h * 3600 + mi * 60 + s)) + -9223372028741760000) = D * 86400 + (h * 3600 + mi * 60 + s)) := Lib.hid (wrap_days D _ hb.1 hb.2 (by omega) (by omega))
  have u0 : -900000000000 ≤ D * 86400 + (h * 3600 + mi * 60 + s) := by omega
  have u1 : D * 86400 + (h * 3600 + mi * 60 + s) ≤ 900000000000 := by omega
  go_wp2_with fail
  rw [HW.out]
  clear HW
  generalize hue : D * 86400 + (h * 3600 + mi * 60 + s) = u at *
  have HUE := Lib.hid hue
  clear hue
  obtain ⟨uo0, uo1⟩ := offL_in G u
  have HL := Lib.hid (fun (x : Int) (w' : World) (hu' : ZAt offs dst whn idx w' k) (x0 : -910000000000 ≤ x) (x1 : x ≤ 910000000000) => look_any G k x w' hu' (by omega) (by omega))
  refine (HL.out u _ (hu.below ((Below.refl _ _).alloc (Nat.le_refl _) _)) (by omega) (by omega)).mono ?_
  rintro e1 wl ⟨⟨nm, st, en, dd, rfl, hin⟩, hbl⟩
  have hul := Lib.hid ((hu.below ((Below.refl _ _).alloc (Nat.le_refl _) (.cells #[.int .u64 0, .int .i64 0, .pointer none] 59))).below hbl)
  obtain ⟨o, ho⟩ : ∃ o, o = offL offs whn idx u := ⟨_, rfl⟩
  have hq := offL_in G (u - o)
  have HQ : Hid (dt (offL offs whn idx) u = u - offL offs whn idx (u - o)) := Lib.hid (by rw [ho]; rfl)
  rw [← ho] at hin uo0 uo1 ⊢
  have HO := Lib.hid ho
  have HIN := Lib.hid hin
  clear ho hin
  by_cases hoff : o = 0
  ·have HU := Lib.hid (unixTime_any u ns n0 n1 (by omega) (by omega))
   have HE : Hid (u - offL offs whn idx (u - o) = u) := Lib.hid (by rw [hoff, Int.sub_zero, ← HO.out]; omega)
   clear hq
   subst hoff
   go_wp2_with fail
   refine (HU.out _).mono ?_
   rintro e1 w1 ⟨rfl, hb1x⟩
   have hb1 := below_le hbl hb1x
   clear hb1x hbl
   have HB1 := Lib.hid (((Below.refl w.heap.size w).alloc (Nat.le_refl _) _).trans (hb1.mono (by simp)))
   have hc16 : w1.cell? ⟨w.heap.size, 0, none⟩ = some (.int .u64 0) := (hb1.cell (p := ⟨w.heap.size, 0, none⟩) (by simp)).trans (by simp [go_sem])
   have hc17 : w1.cell? ⟨w.heap.size, 1, none⟩ = some (.int .i64 0) := (hb1.cell (p := ⟨w.heap.size, 1, none⟩) (by simp)).trans (by simp [go_sem])
   have hc18 : w1.cell? ⟨w.heap.size, 2, none⟩ = some (.pointer none) := (hb1.cell (p := ⟨w.heap.size, 2, none⟩) (by simp)).trans (by simp [go_sem])
   have hf16 : w1.frozen? ⟨w.heap.size, 0, none⟩ = false := (hb1.frozen (p := ⟨w.heap.size, 0, none⟩) (by simp)).trans (by simp [go_sem])
   have hf17 : w1.frozen? ⟨w.heap.size, 1, none⟩ = false := (hb1.frozen (p := ⟨w.heap.size, 1, none⟩) (by simp)).trans (by simp [go_sem])
   have hf18 : w1.frozen? ⟨w.heap.size, 2, none⟩ = false := (hb1.frozen (p := ⟨w.heap.size, 2, none⟩) (by simp)).trans (by simp [go_sem])
   have hrow := (hb1.block w.heap.size (by simp)).trans (heap_alloc_new w (.cells #[.int .u64 0, .int .i64 0, .pointer none] 59))
   have HROW := Lib.hid (((Below.refl _ _).alloc (Nat.le_refl _) (.cells #[.int .u64 ns, .int .i64 (u + 62135596800), .pointer (some ⟨k, 0, none⟩)] 59) |>.block w.heap.size (by simpa using (Array.getElem?_eq_some_iff.1 hrow).1)).trans (row3_set (x := .int .u64 ns) (y := .int .i64 (u + 62135596800)) (z := .pointer (some ⟨k, 0, none⟩)) hrow))
   clear hrow
   have hsz1 : w.heap.size < w1.heap.size := by have := hb1.size; simp at this; omega
   have hu1 := Lib.hid (hu.below HB1.out)
   clear hb1
   unfold tv at *
   go_wp2_with fail
   refine (HS.out w1.heap.size _ (by simp [go_sem]) (by simp [go_sem]) (by simp [go_sem]) (hu1.out.below (by go_grown))).mono ?_
   rintro e1 w2 ⟨rfl, rfl⟩
   go_wp2_with fail
   refine bodyPost_ret (v := .agg #[.int .u64 ns, .int .i64 (u + 62135596800), .pointer (some ⟨k, 0, none⟩)]) (results_time rfl _ _ w.heap.size _ rfl rfl HROW.out) rfl ⟨by rw [HUE.out, HQ.out, HE.out]; rfl, ?_⟩
   have hz := HB1.out.size
   exact (((HB1.out.setCell (p := ⟨w.heap.size, 0, none⟩) (Nat.le_refl _) _).setCell (p := ⟨w.heap.size, 1, none⟩) (Nat.le_refl _) _).setCell (p := ⟨w.heap.size, 2, none⟩) (Nat.le_refl _) _).alloc (by simpa using hz) _
  by_cases c1 : u - o < st
  ·have hwo : wrap64 (u - o) = u - o := by unfold wrap64; omega
   have hl1 : decide (u - o < st) = true := decide_eq_true c1
   go_wp2_with fail
   refine (HL.out (u - o) _ hul.out (by omega) (by omega)).mono ?_
   rintro e1 wl2 ⟨⟨nm2, st2, en2, dd2, rfl, -⟩, hbl2⟩
   have hbl := below_le hbl hbl2
   clear hbl2
   obtain ⟨q, hqe⟩ : ∃ q, q = offL offs whn idx (u - o) := ⟨_, rfl⟩
   rw [← hqe] at hq HQ ⊢
   have hwq : wrap64 (u - q) = u - q := by unfold wrap64; omega
   have HU := Lib.hid (unixTime_any (u - q) ns n0 n1 (by omega) (by omega))
   have HQE := Lib.hid hqe
   clear hqe
   go_wp2_with fail
   refine (HU.out _).mono ?_
   rintro e1 w1 ⟨rfl, hb1x⟩
   have hb1 := below_le hbl hb1x
   clear hb1x hbl
   have HB1 := Lib.hid (((Below.refl w.heap.size w).alloc (Nat.le_refl _) _).trans (hb1.mono (by simp)))
   have hc16 : w1.cell? ⟨w.heap.size, 0, none⟩ = some (.int .u64 0) := (hb1.cell (p := ⟨w.heap.size, 0, none⟩) (by simp)).trans (by simp [go_sem])
   have hc17 : w1.cell? ⟨w.heap.size, 1, none⟩ = some (.int .i64 0) := (hb1.cell (p := ⟨w.heap.size, 1, none⟩) (by simp)).trans (by simp [go_sem])
   have hc18 : w1.cell? ⟨w.heap.size, 2, none⟩ = some (.pointer none) := (hb1.cell (p := ⟨w.heap.size, 2, none⟩) (by simp)).trans (by simp [go_sem])
   have hf16 : w1.frozen? ⟨w.heap.size, 0, none⟩ = false := (hb1.frozen (p := ⟨w.heap.size, 0, none⟩) (by simp)).trans (by simp [go_sem])
   have hf17 : w1.frozen? ⟨w.heap.size, 1, none⟩ = false := (hb1.frozen (p := ⟨w.heap.size, 1, none⟩) (by simp)).trans (by simp [go_sem])
   have hf18 : w1.frozen? ⟨w.heap.size, 2, none⟩ = false := (hb1.frozen (p := ⟨w.heap.size, 2, none⟩) (by simp)).trans (by simp [go_sem])
   have hrow := (hb1.block w.heap.size (by simp)).trans (heap_alloc_new w (.cells #[.int .u64 0, .int .i64 0, .pointer none] 59))
   have HROW := Lib.hid (((Below.refl _ _).alloc (Nat.le_refl _) (.cells #[.int .u64 ns, .int .i64 ((u - q) + 62135596800), .pointer (some ⟨k, 0, none⟩)] 59) |>.block w.heap.size (by simpa using (Array.getElem?_eq_some_iff.1 hrow).1)).trans (row3_set (x := .int .u64 ns) (y := .int .i64 ((u - q) + 62135596800)) (z := .pointer (some ⟨k, 0, none⟩)) hrow))
   clear hrow
   have hsz1 : w.heap.size < w1.heap.size := by have := hb1.size; simp at this; omega
   have hu1 := Lib.hid (hu.below HB1.out)
   clear hb1
   unfold tv at *
   go_wp2_with fail
   refine (HS.out w1.heap.size _ (by simp [go_sem]) (by simp [go_sem]) (by simp [go_sem]) (hu1.out.below (by go_grown))).mono ?_
   rintro e1 w2 ⟨rfl, rfl⟩
   go_wp2_with fail
   refine bodyPost_ret (v := .agg #[.int .u64 ns, .int .i64 ((u - q) + 62135596800), .pointer (some ⟨k, 0, none⟩)]) (results_time rfl _ _ w.heap.size _ rfl rfl HROW.out) rfl ⟨by rw [HUE.out, HQ.out]; rfl, ?_⟩
   have hz := HB1.out.size
   exact (((HB1.out.setCell (p := ⟨w.heap.size, 0, none⟩) (Nat.le_refl _) _).setCell (p := ⟨w.heap.size, 1, none⟩) (Nat.le_refl _) _).setCell (p := ⟨w.heap.size, 2, none⟩) (Nat.le_refl _) _).alloc (by simpa using hz) _
  by_cases c2 : en ≤ u - o
  ·have hwo : wrap64 (u - o) = u - o := by unfold wrap64; omega
   have hl1 : decide (u - o < st) = false := decide_eq_false c1
   have hl2 : decide (u - o ≥ en) = true := decide_eq_true c2
   have hl3 : decide (en ≤ u - o) = true := decide_eq_true c2
   go_wp2_with fail
   refine (HL.out (u - o) _ hul.out (by omega) (by omega)).mono ?_
   rintro e1 wl2 ⟨⟨nm2, st2, en2, dd2, rfl, -⟩, hbl2⟩
   have hbl := below_le hbl hbl2
   clear hbl2
   obtain ⟨q, hqe⟩ : ∃ q, q = offL offs whn idx (u - o) := ⟨_, rfl⟩
   rw [← hqe] at hq HQ ⊢
   have hwq : wrap64 (u - q) = u - q := by unfold wrap64; omega
   have HU := Lib.hid (unixTime_any (u - q) ns n0 n1 (by omega) (by omega))
   have HQE := Lib.hid hqe
   clear hqe
   go_wp2_with fail
   refine (HU.out _).mono ?_
   rintro e1 w1 ⟨rfl, hb1x⟩
   have hb1 := below_le hbl hb1x
   clear hb1x hbl
   have HB1 := Lib.hid (((Below.refl w.heap.size w).alloc (Nat.le_refl _) _).trans (hb1.mono (by simp)))
   have hc16 : w1.cell? ⟨w.heap.size, 0, none⟩ = some (.int .u64 0) := (hb1.cell (p := ⟨w.heap.size, 0, none⟩) (by simp)).trans (by simp [go_sem])
   have hc17 : w1.cell? ⟨w.heap.size, 1, none⟩ = some (.int .i64 0) := (hb1.cell (p := ⟨w.heap.size, 1, none⟩) (by simp)).trans (by simp [go_sem])
   have hc18 : w1.cell? ⟨w.heap.size, 2, none⟩ = some (.pointer none) := (hb1.cell (p := ⟨w.heap.size, 2, none⟩) (by simp)).trans (by simp [go_sem])
   have hf16 : w1.frozen? ⟨w.heap.size, 0, none⟩ = false := (hb1.frozen (p := ⟨w.heap.size, 0, none⟩) (by simp)).trans (by simp [go_sem])
   have hf17 : w1.frozen? ⟨w.heap.size, 1, none⟩ = false := (hb1.frozen (p := ⟨w.heap.size, 1, none⟩) (by simp)).trans (by simp [go_sem])
   have hf18 : w1.frozen? ⟨w.heap.size, 2, none⟩ = false := (hb1.frozen (p := ⟨w.heap.size, 2, none⟩) (by simp)).trans (by simp [go_sem])
   have hrow := (hb1.block w.heap.size (by simp)).trans (heap_alloc_new w (.cells #[.int .u64 0, .int .i64 0, .pointer none] 59))
   have HROW := Lib.hid (((Below.refl _ _).alloc (Nat.le_refl _) (.cells #[.int .u64 ns, .int .i64 ((u - q) + 62135596800), .pointer (some ⟨k, 0, none⟩)] 59) |>.block w.heap.size (by simpa using (Array.getElem?_eq_some_iff.1 hrow).1)).trans (row3_set (x := .int .u64 ns) (y := .int .i64 ((u - q) + 62135596800)) (z := .pointer (some ⟨k, 0, none⟩)) hrow))
   clear hrow
   have hsz1 : w.heap.size < w1.heap.size := by have := hb1.size; simp at this; omega
   have hu1 := Lib.hid (hu.below HB1.out)
   clear hb1
   unfold tv at *
   go_wp2_with fail
   refine (HS.out w1.heap.size _ (by simp [go_sem]) (by simp [go_sem]) (by simp [go_sem]) (hu1.out.below (by go_grown))).mono ?_
   rintro e1 w2 ⟨rfl, rfl⟩
   go_wp2_with fail
   refine bodyPost_ret (v := .agg #[.int .u64 ns, .int .i64 ((u - q) + 62135596800), .pointer (some ⟨k, 0, none⟩)]) (results_time rfl _ _ w.heap.size _ rfl rfl HROW.out) rfl ⟨by rw [HUE.out, HQ.out]; rfl, ?_⟩
   have hz := HB1.out.size
   exact (((HB1.out.setCell (p := ⟨w.heap.size, 0, none⟩) (Nat.le_refl _) _).setCell (p := ⟨w.heap.size, 1, none⟩) (Nat.le_refl _) _).setCell (p := ⟨w.heap.size, 2, none⟩) (Nat.le_refl _) _).alloc (by simpa using hz) _
  ·have HE : Hid (offL offs whn idx (u - o) = o) := Lib.hid (HIN.out (u - o) (by omega) (by omega))
   have HU := Lib.hid (unixTime_any (u - o) ns n0 n1 (by omega) (by omega))
   have hwo : wrap64 (u - o) = u - o := by unfold wrap64; omega
   have hl1 : decide (u - o < st) = false := decide_eq_false c1
   have hl2 : decide (u - o ≥ en) = false := decide_eq_false c2
   have hl3 : decide (en ≤ u - o) = false := decide_eq_false c2
   clear hq
   go_wp2_with fail
   refine (HU.out _).mono ?_
   rintro e1 w1 ⟨rfl, hb1x⟩
   have hb1 := below_le hbl hb1x
   clear hb1x hbl
   have HB1 := Lib.hid (((Below.refl w.heap.size w).alloc (Nat.le_refl _) _).trans (hb1.mono (by simp)))
   have hc16 : w1.cell? ⟨w.heap.size, 0, none⟩ = some (.int .u64 0) := (hb1.cell (p := ⟨w.heap.size, 0, none⟩) (by simp)).trans (by simp [go_sem])
   have hc17 : w1.cell? ⟨w.heap.size, 1, none⟩ = some (.int .i64 0) := (hb1.cell (p := ⟨w.heap.size, 1, none⟩) (by simp)).trans (by simp [go_sem])
   have hc18 : w1.cell? ⟨w.heap.size, 2, none⟩ = some (.pointer none) := (hb1.cell (p := ⟨w.heap.size, 2, none⟩) (by simp)).trans (by simp [go_sem])
   have hf16 : w1.frozen? ⟨w.heap.size, 0, none⟩ = false := (hb1.frozen (p := ⟨w.heap.size, 0, none⟩) (by simp)).trans (by simp [go_sem])
   have hf17 : w1.frozen? ⟨w.heap.size, 1, none⟩ = false := (hb1.frozen (p := ⟨w.heap.size, 1, none⟩) (by simp)).trans (by simp [go_sem])
   have hf18 : w1.frozen? ⟨w.heap.size, 2, none⟩ = false := (hb1.frozen (p := ⟨w.heap.size, 2, none⟩) (by simp)).trans (by simp [go_sem])
   have hrow := (hb1.block w.heap.size (by simp)).trans (heap_alloc_new w (.cells #[.int .u64 0, .int .i64 0, .pointer none] 59))
   have HROW := Lib.hid (((Below.refl _ _).alloc (Nat.le_refl _) (.cells #[.int .u64 ns, .int .i64 ((u - o) + 62135596800), .pointer (some ⟨k, 0, none⟩)] 59) |>.block w.heap.size (by simpa using (Array.getElem?_eq_some_iff.1 hrow).1)).trans (row3_set (x := .int .u64 ns) (y := .int .i64 ((u - o) + 62135596800)) (z := .pointer (some ⟨k, 0, none⟩)) hrow))
   clear hrow
   have hsz1 : w.heap.size < w1.heap.size := by have := hb1.size; simp at this; omega
   have hu1 := Lib.hid (hu.below HB1.out)
   clear hb1
   unfold tv at *
   go_wp2_with fail
   refine (HS.out w1.heap.size _ (by simp [go_sem]) (by simp [go_sem]) (by simp [go_sem]) (hu1.out.below (by go_grown))).mono ?_
   rintro e1 w2 ⟨rfl, rfl⟩
   go_wp2_with fail
   refine bodyPost_ret (v := .agg #[.int .u64 ns, .int .i64 ((u - o) + 62135596800), .pointer (some ⟨k, 0, none⟩)]) (results_time rfl _ _ w.heap.size _ rfl rfl HROW.out) rfl ⟨by rw [HUE.out, HQ.out, HE.out]; rfl, ?_⟩
   have hz := HB1.out.size
   exact (((HB1.out.setCell (p := ⟨w.heap.size, 0, none⟩) (Nat.le_refl _) _).setCell (p := ⟨w.heap.size, 1, none⟩) (Nat.le_refl _) _).setCell (p := ⟨w.heap.size, 2, none⟩) (Nat.le_refl _) _).alloc (by simpa using hz) _
theorem clock_zone {offs : List Int} {dst : List Bool} {whn idx : List Int} (G : GoodL offs dst whn idx) (k : Nat) : ClockZ (some ⟨k, 0, none⟩) (offL offs whn idx) (fun w => ZAt offs dst whn idx w k) (fun w j => j = k ∧ ZAt offs dst whn idx w k) where
 abs := ⟨fun u => by have := (offL_in G u).1; omega, fun u => by have := (offL_in G u).2; omega, fun h hb => h.below hb, fun n e w h0 h1 he hI => absSecZ_any G n e k h0 h1 he w hI⟩
 locK := fun h hb => ⟨h.1, h.2.below hb⟩
 loc := fun n e w hI => (locFixed_any n e k w).mono fun _ _ ⟨h1, h2⟩ => ⟨k, h1, ⟨rfl, hI.below h2⟩, h2⟩
 date := fun j y m d h mi s w a1 a2 a3 a4 a5 a6 a7 a8 a9 b1 b2 b3 b4 hu => by
  obtain ⟨rfl, hu⟩ := hu
  exact dateZ_any G j y m d h mi s 0 w a1 a2 a3 a4 a5 a6 a7 a8 a9 b1 b2 b3 b4 (by omega) (by omega) hu
 inn := fun n e l' j w h0 h1 hu => by
  obtain ⟨rfl, hu⟩ := hu
  exact inZ_any n e l' j w h0 h1 hu
end Go.Proofs.Ytlopkdhblfibkaa.Cal
namespace Go.Proofs.Ytlopkdhblfibkaa.Cal
open Go Go.RowKit Go.Proofs.YtlopkdhblfibkaaW.PrintWords Go.Proofs.YtlopkdhblfibkaaW.PrintLast
set_option linter.unusedVariables false
set_option linter.unusedSimpArgs false
structure ZArg (offs : List Int) (dst : List Bool) (whn idx : List Int) (a b c d : Addr) (w : World) : Prop where
 a : ∀ i : Nat, i < offs.length → w.cell? (a.add i) = some (.int .i64 (offs.getD i 0))
 b : ∀ i : Nat, i < offs.length → w.cell? (b.add i) = some (.bool (dst.getD i false))
 c : ∀ i : Nat, i < whn.length → w.cell? (c.add i) = some (.int .i64 (whn.getD i 0))
 d : ∀ i : Nat, i < whn.length → w.cell? (d.add i) = some (.int .i64 (idx.getD i 0))
theorem ZArg.below {offs : List Int} {dst : List Bool} {whn idx : List Int} {a b c d : Addr} {w w' : World} (h : ZArg offs dst whn idx a b c d w) (hb : Below w.heap.size w w') : ZArg offs dst whn idx a b c d w' where
 a := fun i hi => (hb.cell (World.block_lt_of_cell? w _ (h.a i hi))).trans (h.a i hi)
 b := fun i hi => (hb.cell (World.block_lt_of_cell? w _ (h.b i hi))).trans (h.b i hi)
 c := fun i hi => (hb.cell (World.block_lt_of_cell? w _ (h.c i hi))).trans (h.c i hi)
 d := fun i hi => (hb.cell (World.block_lt_of_cell? w _ (h.d i hi))).trans (h.d i hi)
theorem info_zone : ∃ i, Try.prog.info? 93 = some i ∧ i.zero = some (.agg #[.string ⟨#[]⟩, .int .i64 0, .bool false]) ∧ i.size = 3 ∧ i.bytes = 32 := by
 obtain ⟨i, h⟩ : ∃ i, Try.prog.info? 93 = some i := Option.isSome_iff_exists.1 (by kernel_rfl)
 refine ⟨i, h, ?_⟩
 have h2 : (Try.prog.info? 93).map (fun i => (i.zero, i.size, i.bytes)) = some (some (.agg #[.string ⟨#[]⟩, .int .i64 0, .bool false]), 3, 32) := by kernel_rfl
 rw [h] at h2
 simp only [Option.map_some, Option.some.injEq, Prod.mk.injEq] at h2
 exact h2
theorem info_trans : ∃ i, Try.prog.info? 95 = some i ∧ i.zero = some (.agg #[.int .i64 0, .int .u8 0, .bool false, .bool false]) ∧ i.size = 4 ∧ i.bytes = 16 := by
 obtain ⟨i, h⟩ : ∃ i, Try.prog.info? 95 = some i := Option.isSome_iff_exists.1 (by kernel_rfl)
 refine ⟨i, h, ?_⟩
 have h2 : (Try.prog.info? 95).map (fun i => (i.zero, i.size, i.bytes)) = some (some (.agg #[.int .i64 0, .int .u8 0, .bool false, .bool false]), 4, 16) := by kernel_rfl
 rw [h] at h2
 simp only [Option.map_some, Option.some.injEq, Prod.mk.injEq] at h2
 exact h2
def nmZ : ByteArray := ⟨#[122, 111, 110, 101]⟩
def locC (z t : Value) : Array Value := #[.bool false, .string nmZ, z, t, .string ⟨#[]⟩, .int .i64 0, .int .i64 0, .pointer none]
def LocRow (w : World) (k : Nat) (z t : Value) : Prop := w.heap[k]? = some (.cells (locC z t) 91 (0, 0))
def zonesL (offs : List Int) (dst : List Bool) : Nat → List Value
 | 0 => []
 | i + 1 => zonesL offs dst i ++ [.string nmZ, .int .i64 (offs.getD i 0), .bool (dst.getD i false)]
def transL (whn idx : List Int) : Nat → List Value
 | 0 => []
 | i + 1 => transL whn idx i ++ [.int .i64 (whn.getD i 0), .int .u8 (idx.getD i 0), .bool false, .bool false]
theorem zonesL_len (offs : List Int) (dst : List Bool) : ∀ n, (zonesL offs dst n).length = n * 3
 | 0 => rfl
 | n + 1 => by simp only [zonesL, List.length_append, zonesL_len offs dst n, List.length_cons, List.length_nil]; omega
theorem transL_len (whn idx : List Int) : ∀ n, (transL whn idx n).length = n * 4
 | 0 => rfl
 | n + 1 => by simp only [transL, List.length_append, transL_len whn idx n, List.length_cons, List.length_nil]; omega
theorem zonesL_at (offs : List Int) (dst : List Bool) : ∀ n i, i < n → (zonesL offs dst n)[i * 3]? = some (.string nmZ) ∧ (zonesL offs dst n)[i * 3 + 1]? = some (.int .i64 (offs.getD i 0)) ∧ (zonesL offs dst n)[i * 3 + 2]? = some (.bool (dst.getD i false))
 | 0, i, h => absurd h (by omega)
 | n + 1, i, h => by
  have hl := zonesL_len offs dst n
  unfold zonesL
  by_cases e : i = n
  ·subst e
   refine ⟨?_, ?_, ?_⟩ <;> rw [List.getElem?_append_right (by omega), hl]
   ·simp
   ·rw [show i * 3 + 1 - i * 3 = 1 by omega]; rfl
   ·rw [show i * 3 + 2 - i * 3 = 2 by omega]; rfl
  ·obtain ⟨a, b, c⟩ := zonesL_at offs dst n i (by omega)
   refine ⟨?_, ?_, ?_⟩ <;> rw [List.getElem?_append_left (by omega)] <;> assumption
theorem transL_at (whn idx : List Int) : ∀ n i, i < n → (transL whn idx n)[i * 4]? = some (.int .i64 (whn.getD i 0)) ∧ (transL whn idx n)[i * 4 + 1]? = some (.int .u8 (idx.getD i 0))
 | 0, i, h => absurd h (by omega)
 | n + 1, i, h => by
  have hl := transL_len whn idx n
  unfold transL
  by_cases e : i = n
  ·subst e
   refine ⟨?_, ?_⟩ <;> rw [List.getElem?_append_right (by omega), hl]
   ·simp
   ·rw [show i * 4 + 1 - i * 4 = 1 by omega]; rfl
  ·obtain ⟨a, b⟩ := transL_at whn idx n i (by omega)
   refine ⟨?_, ?_⟩ <;> rw [List.getElem?_append_left (by omega)] <;> assumption
theorem row_lt' {w : World} {g : Nat} {o : Obj} (h : w.heap[g]? = some o) : g < w.heap.size := (Array.getElem?_eq_some_iff.1 h).1
theorem own_ne {w : World} {b1 b2 e1 e2 s1 s2 n1 n2 : Nat} {v1 v2 : Value} {x1 x2 : List Value} (h1 : w.ownsRow b1 e1 s1 v1 n1 x1) (h2 : w.ownsRow b2 e2 s2 v2 n2 x2) (hn : e1 ≠ e2) : v1.ownBlock = none ∨ v1.ownBlock ≠ v2.ownBlock := by
 cases hv : v1.ownBlock with
 | none => exact .inl rfl
 | some k =>
  right
  intro e
  obtain ⟨c1, h3⟩ := own_typed h1 k hv
  obtain ⟨c2, h4⟩ := own_typed h2 k e.symm
  rw [h3] at h4
  injection h4 with h4
  injection h4 with _ h4
  exact hn h4
theorem own_far {w : World} {k e s n : Nat} {v : Value} {x : List Value} (h : w.ownsRow (k + 1) e s v n x) : some k ≠ v.ownBlock := fun h2 => by
 have := (h.lt k h2.symm).1
 omega
set_option maxRecDepth 100000 in
set_option maxHeartbeats 8000000 in
theorem zzZoneL_any {offs : List Int} {dst : List Bool} {whn idx : List Int} (G : GoodL offs dst whn idx) (a b c d : Addr) (c0 c1 c2 c3 : Nat) (w : World) (hz : ZArg offs dst whn idx a b c d w) :
  Calls Try.prog 35 #[.slice (some a) offs.length c0, .slice (some b) offs.length c1, .slice (some c) whn.length c2, .slice (some d) whn.length c3] w fun e w' =>
   ∃ k, e = .returned (.pointer (some ⟨k, 0, none⟩)) ∧ ZAt offs dst whn idx w' k ∧ Below w.heap.size w w' := by
 obtain ⟨iz, hiz, hzz, hsz, hyz⟩ := info_zone
 have HI := Lib.hid hiz
 have HZ := Lib.hid hzz
 have HSI := Lib.hid hsz
 have HY := Lib.hid hyz
 obtain ⟨it, hit, hzt, hst, hyt⟩ := info_trans
 have TI := Lib.hid hit
 have TZ := Lib.hid hzt
 have TS := Lib.hid hst
 have TY := Lib.hid hyt
 clear hiz hzz hsz hyz hit hzt hst hyt
 have HM := Lib.hid hz
 have HIB := Lib.hid G.ib
 have hn1 := G.n1
 have hn64 := G.n64
 have hm1 := G.m1
 have hm4 := G.m4
 clear hz G
 obtain ⟨n, hn⟩ : ∃ n, n = offs.length := ⟨_, rfl⟩
 obtain ⟨m, hm⟩ : ∃ m, m = whn.length := ⟨_, rfl⟩
 rw [← hn] at hn1 hn64 ⊢
 rw [← hm] at hm1 hm4 ⊢
 have HN := Lib.hid hn
 have HMM := Lib.hid hm
 clear hn hm
 go_enter Try.func35, Try.ntmps35
 go_wp2_with fail
 have h0 : Hid (LocRow (w.alloc (.cells (locC (.slice none 0 0) (.slice none 0 0)) 91)) w.heap.size (.slice none 0 0) (.slice none 0 0)) := Lib.hid (heap_alloc_new w _)
 have hb0 : Hid (Below w.heap.size w (w.alloc (.cells (locC (.slice none 0 0) (.slice none 0 0)) 91))) := Lib.hid ((Below.refl w.heap.size w).alloc (Nat.le_refl _) _)
 go_loopw [18] (fun v18 wr => ∃ (i : Nat) (zv : Value), v18 = .int .i64 (i : Int) ∧ i ≤ n ∧ Hid (Below w.heap.size w wr) ∧ Hid (LocRow wr w.heap.size zv (.slice none 0 0)) ∧ Hid (wr.ownsRow (w.heap.size + 1) 93 3 zv i (zonesL offs dst i))) (fun v18 _ => n - (intOf v18).toNat)
 case atStart => exact ⟨0, _, rfl, Nat.zero_le _, hb0, h0, Lib.hid (World.ownsRow_nil _ _ _ _)⟩
 case round =>
  obtain ⟨i, zv, rfl, hin, HBr, HL, HO⟩ := hrel
  clear h0 hb0
  by_cases hlt : i < n
  ·have hca : wr.cell? (a.add i) = some (.int .i64 (offs.getD i 0)) := (HM.out.below HBr.out).a i (by rw [← HN.out]; exact hlt)
   have hcb : wr.cell? (b.add i) = some (.bool (dst.getD i false)) := (HM.out.below HBr.out).b i (by rw [← HN.out]; exact hlt)
   have hdi : decide ((i : Int) < (n : Int)) = true := decide_eq_true (by omega)
   have hii : (i : Int) < (n : Int) := by omega
   have hwi : wrap64 ((i : Int) + 1) = ((i + 1 : Nat) : Int) := by unfold wrap64; omega
   obtain ⟨x, hx⟩ : ∃ x, x = offs.getD i 0 := ⟨_, rfl⟩
   obtain ⟨y, hy⟩ : ∃ y, y = dst.getD i false := ⟨_, rfl⟩
   rw [← hx] at hca
   rw [← hy] at hcb
   have HX := Lib.hid (And.intro hx hy)
   clear hx hy
   go_upto_region 5 with fail
   clear hca
   obtain ⟨wo, rfl⟩ : ∃ wo : World, wo = wr := ⟨_, rfl⟩
   have hl0 := HL.out
   have ho0 := HO.out
   have hblt : (b.add i).block < wo.heap.size := World.block_lt_of_cell? wo _ hcb
   refine start_ (n := 16) (S := fun w' => LocRow w' w.heap.size zv (.slice none 0 0) ∧ w'.ownsRow (w.heap.size + 1) 93 3 zv i (zonesL offs dst i) ∧ w'.cell? (b.add i) = some (.bool y) ∧ Below wo.heap.size wo w') (ds := [12, 15]) #[false, false, false, false, false, false, false, false, false, false, false, false, false, false, false, false] (by kernel_rfl) rfl rfl ⟨hl0, ho0, hcb, (Below.refl _ _).drew⟩ (fun hHeld => ?_)
   refine pure_ (i := 0) (N := some 23) (v := ?_) (a' := ?_) #[true, false, false, false, false, false, false, false, false, false, false, false, false, false, false, false] rfl rfl (by kernel_rfl) (fun _ _ _ h => h) (Or.inl ⟨by rfl, ?_⟩) ?_ ?_
   rotate_left
   ·intro w'
    go_simp
    with_reducible rfl
   rotate_left
   ·simp only [Act.put, List.setIfInBounds_toArray, List.set_cons_zero, List.set_cons_succ, i64_w, i32_w]
    rfl
   refine pure_ (i := 1) (N := some 24) (v := ?_) (a' := ?_) #[true, true, false, false, false, false, false, false, false, false, false, false, false, false, false, false] rfl rfl (by kernel_rfl) (fun _ _ _ h => h) (Or.inl ⟨by rfl, ?_⟩) ?_ ?_
   rotate_left
   ·intro w'
    go_simp
    with_reducible rfl
   rotate_left
   ·simp only [Act.put, List.setIfInBounds_toArray, List.set_cons_zero, List.set_cons_succ, i64_w, i32_w]
    rfl
   refine pure_ (i := 2) (N := some 25) (v := ?_) (a' := ?_) #[true, true, true, false, false, false, false, false, false, false, false, false, false, false, false, false] rfl rfl (by kernel_rfl) (fun _ _ _ h => h) (Or.inl ⟨by rfl, ?_⟩) ?_ ?_
   rotate_left
   ·intro w'
    go_simp
    with_reducible rfl
   rotate_left
   ·simp only [Act.put, List.setIfInBounds_toArray, List.set_cons_zero, List.set_cons_succ, i64_w, i32_w]
    rfl
   refine pure_ (i := 3) (N := some 26) (v := ?_) (a' := ?_) #[true, true, true, true, false, false, false, false, false, false, false, false, false, false, false, false] rfl rfl (by kernel_rfl) (fun _ _ _ h => h) (Or.inl ⟨by rfl, ?_⟩) ?_ ?_
   rotate_left
   ·intro w'
    go_simp
    with_reducible rfl
   rotate_left
   ·simp only [Act.put, List.setIfInBounds_toArray, List.set_cons_zero, List.set_cons_succ, i64_w, i32_w]
    rfl
   refine pure_ (i := 5) (N := some 28) (v := ?_) (a' := ?_) #[true, true, true, true, false, true, false, false, false, false, false, false, false, false, false, false] rfl rfl (by kernel_rfl) (fun _ _ _ h => h) (Or.inl ⟨by rfl, ?_⟩) ?_ ?_
   rotate_left
   ·intro w'
    go_simp
    with_reducible rfl
   rotate_left
   ·simp only [Act.put, List.setIfInBounds_toArray, List.set_cons_zero, List.set_cons_succ, i64_w, i32_w]
    rfl
   refine pure_ (i := 6) (N := some 29) (v := ?_) (a' := ?_) #[true, true, true, true, false, true, true, false, false, false, false, false, false, false, false, false] rfl rfl (by kernel_rfl) (fun _ _ _ h => h) (Or.inl ⟨by rfl, ?_⟩) ?_ ?_
   rotate_left
   ·intro w'
    go_simp
    with_reducible rfl
   rotate_left
   ·simp only [Act.put, List.setIfInBounds_toArray, List.set_cons_zero, List.set_cons_succ, i64_w, i32_w]
    rfl
   refine pure_ (i := 7) (N := some 30) (v := ?_) (a' := ?_) #[true, true, true, true, false, true, true, true, false, false, false, false, false, false, false, false] rfl rfl (by kernel_rfl) (fun _ _ _ h => h) (Or.inl ⟨by rfl, ?_⟩) ?_ ?_
   rotate_left
   ·intro w'
    go_simp
    with_reducible rfl
   rotate_left
   ·simp only [Act.put, List.setIfInBounds_toArray, List.set_cons_zero, List.set_cons_succ, i64_w, i32_w]
    rfl
   refine pure_ (i := 8) (N := some 31) (v := ?_) (a' := ?_) #[true, true, true, true, false, true, true, true, true, false, false, false, false, false, false, false] rfl rfl (by kernel_rfl) (fun _ _ _ h => h) (Or.inl ⟨by rfl, ?_⟩) ?_ ?_
   rotate_left
   ·intro w'
    go_simp
    with_reducible rfl
   rotate_left
   ·simp only [Act.put, List.setIfInBounds_toArray, List.set_cons_zero, List.set_cons_succ, i64_w, i32_w]
    rfl
   refine take_ (i := 4) (N := some 27) (v := ?_) (a' := ?_) #[true, true, true, true, true, true, true, true, true, false, false, false, false, false, false, false] rfl rfl (by kernel_rfl) (fun _ _ _ h => h) (Or.inl ⟨by rfl, ?_⟩) hHeld ?_ ?_
   rotate_left
   ·rintro w' ⟨s0, s1, s2, s3⟩
    have c2 : w'.cell? ⟨w.heap.size, 2, none⟩ = some zv := cell_of_row _ _ _ _ _ _ s0
    go_simp
    with_reducible rfl
   rotate_left
   ·simp only [Act.put, List.setIfInBounds_toArray, List.set_cons_zero, List.set_cons_succ, i64_w, i32_w]
    rfl
   refine take_ (i := 9) (N := some 32) (v := ?_) (a' := ?_) #[true, true, true, true, true, true, true, true, true, true, false, false, false, false, false, false] rfl rfl (by kernel_rfl) (fun _ _ _ h => h) (Or.inl ⟨by rfl, ?_⟩) hHeld ?_ ?_
   rotate_left
   ·rintro w' ⟨s0, s1, s2, s3⟩
    have c2 := s2
    go_simp
    with_reducible rfl
   rotate_left
   ·simp only [Act.put, List.setIfInBounds_toArray, List.set_cons_zero, List.set_cons_succ, i64_w, i32_w]
    rfl
   refine pure_ (i := 10) (N := some 33) (v := ?_) (a' := ?_) #[true, true, true, true, true, true, true, true, true, true, true, false, false, false, false, false] rfl rfl (by kernel_rfl) (fun _ _ _ h => h) (Or.inl ⟨by rfl, ?_⟩) ?_ ?_
   rotate_left
   ·intro w'
    go_simp
    with_reducible rfl
   rotate_left
   ·simp only [Act.put, List.setIfInBounds_toArray, List.set_cons_zero, List.set_cons_succ, i64_w, i32_w]
    rfl
   refine one_ (i := 11) (N := some 34) #[true, true, true, true, true, true, true, true, true, true, true, true, false, false, false, false] rfl rfl (by kernel_rfl) (by decide) (fun K hK => ?_)
   refine value_ (w1 := ?_) (v := ?_) (by rfl) rfl ?_ ?_
   rotate_left 2
   ·go_simp
    constructor
    ·rfl
    ·rfl
   refine hK.out _ _ ⟨(((Below.refl _ _).alloc (Nat.le_refl _) _).block _ (row_lt' hHeld.1)).trans hHeld.1, hHeld.2.1.alloc _, (((Below.refl _ _).alloc (Nat.le_refl _) _).cell (World.block_lt_of_cell? _ _ hHeld.2.2.1)).trans hHeld.2.2.1, hHeld.2.2.2.alloc hHeld.2.2.2.size _⟩ (fun hHeld => ?_)
   clear hK K
   refine norm_ (a' := ?_) ?_ ?_
   rotate_left
   ·show Act.put _ (some 34) _ = _
    simp only [Act.put, List.setIfInBounds_toArray, List.set_cons_zero, List.set_cons_succ, i64_w, i32_w]
    rfl
   refine last_ (i := 12) (N := some 35) #[true, true, true, true, true, true, true, true, true, true, true, true, true, false, false, false] rfl rfl (by kernel_rfl) (by decide) (fun K hK => ?_)
   rw [if_pos (by rfl)]
   refine wp_append_lies _ _ _ _ rfl (w.heap.size + 1) 93 iz (.agg #[.string ⟨#[]⟩, .int .i64 0, .bool false]) 3 32 Try.underlying87 HI.out HZ.out HSI.out HY.out rfl (by omega) zv i (zonesL offs dst i) rfl hHeld.2.1 ⟨wo.heap.size, 0, none⟩ 1 1 [.string nmZ, .int .i64 x, .bool y] rfl rfl (World.news_of_block (heap_alloc_new _ _)) (by simp [Value.oneCell']) (by omega) (by simp only [maxLen]; omega) (by omega) (by have := row_lt' hHeld.1; omega) (wo.heap.size + 1) (by simp) ?_
   intro g7 cap w7 hown hgrow hat hlt7
   have hl7 := (hgrow.block _ (row_lt' hHeld.1) (own_far hHeld.2.1)).trans hHeld.1
   have c27 : w7.cell? ⟨w.heap.size, 2, none⟩ = some zv := cell_of_row _ _ _ _ _ _ hl7
   have f27 : w7.frozen? ⟨w.heap.size, 2, none⟩ = false := frozen_of_row _ _ _ _ _ hl7
   refine hK.out _ _ ?_
   clear hK K
   refine norm_ (a' := ?_) ?_ ?_
   rotate_left
   ·show Act.put _ (some 35) _ = _
    simp only [Act.put, List.setIfInBounds_toArray, List.set_cons_zero, List.set_cons_succ, i64_w, i32_w]
    rfl
   refine pure_ (i := 13) (N := some 36) (v := ?_) (a' := ?_) #[true, true, true, true, true, true, true, true, true, true, true, true, true, true, false, false] rfl rfl (by kernel_rfl) (fun _ _ _ h => h) (Or.inl ⟨by rfl, ?_⟩) ?_ ?_
   rotate_left
   ·intro w'
    go_simp
    with_reducible rfl
   rotate_left
   ·simp only [Act.put, List.setIfInBounds_toArray, List.set_cons_zero, List.set_cons_succ, i64_w, i32_w]
    rfl
   refine pure_ (i := 14) (N := some 37) (v := ?_) (a' := ?_) #[true, true, true, true, true, true, true, true, true, true, true, true, true, true, true, false] rfl rfl (by kernel_rfl) (fun _ _ _ h => h) (Or.inl ⟨by rfl, ?_⟩) ?_ ?_
   rotate_left
   ·intro w'
    go_simp
    with_reducible rfl
   rotate_left
   ·simp only [Act.put, List.setIfInBounds_toArray, List.set_cons_zero, List.set_cons_succ, i64_w, i32_w]
    rfl
   refine last_ (i := 15) (N := none) #[true, true, true, true, true, true, true, true, true, true, true, true, true, true, true, true] rfl rfl (by kernel_rfl) (by decide) (fun K hK => ?_)
   refine skip_ (w1 := ?_) (by rfl) rfl ?_ ?_
   rotate_left
   ·go_simp
    rfl
   refine hK.out _ _ ?_
   clear hK K
   refine done_ (by kernel_rfl) ?_
   have hB8 : Below w.heap.size w (w7.setCell ⟨w.heap.size, 2, none⟩ (.slice (some ⟨g7, 0, none⟩) (i + 1) cap)) := (Below.grown (below_le HBr.out hHeld.2.2.2) hgrow (by have := row_lt' hHeld.1; omega) (fun k e => by have := (hHeld.2.1.lt k e).1; omega)).setCell (p := ⟨w.heap.size, 2, none⟩) (Nat.le_refl _) _
   have hL8 := heap_setCell_same w7 w.heap.size 2 _ _ (.slice (some ⟨g7, 0, none⟩) (i + 1) cap) hl7
   have hO8 : (w7.setCell ⟨w.heap.size, 2, none⟩ (.slice (some ⟨g7, 0, none⟩) (i + 1) cap)).ownsRow (w.heap.size + 1) 93 3 (.slice (some ⟨g7, 0, none⟩) (i + 1) cap) (i + 1) (zonesL offs dst (i + 1)) := by
    have h := ownsRow_setCell_below hown (a := ⟨w.heap.size, 2, none⟩) (by show w.heap.size < w.heap.size + 1; omega) (.slice (some ⟨g7, 0, none⟩) (i + 1) cap)
    rw [HX.out.1, HX.out.2] at h
    exact h
   have HL8 : Hid (LocRow (w7.setCell ⟨w.heap.size, 2, none⟩ (.slice (some ⟨g7, 0, none⟩) (i + 1) cap)) w.heap.size (.slice (some ⟨g7, 0, none⟩) (i + 1) cap) (.slice none 0 0)) := Lib.hid hL8
   have HO8 := Lib.hid hO8
   have HB8 := Lib.hid hB8
   clear hHeld hgrow hown hat hlt7 hl7 c27 f27 hL8 hO8 hB8 hl0 ho0 HL HO HBr hcb hblt HX
   generalize w7.setCell ⟨w.heap.size, 2, none⟩ (.slice (some ⟨g7, 0, none⟩) (i + 1) cap) = w8 at *
   go_wp2_with fail
   exact ⟨⟨i + 1, _, rfl, by omega, HB8, HL8, HO8⟩, by simp [intOf]; omega⟩
  ·obtain rfl : i = n := by omega
   have hdi : decide ((i : Int) < (i : Int)) = false := decide_eq_false (by omega)
   go_wp2_with fail
   go_loopw [41] (fun v41 wr => ∃ (j : Nat) (tv : Value), v41 = .int .i64 (j : Int) ∧ j ≤ m ∧ Hid (Below w.heap.size w wr) ∧ Hid (LocRow wr w.heap.size zv tv) ∧ Hid (wr.ownsRow (w.heap.size + 1) 93 3 zv i (zonesL offs dst i)) ∧ Hid (wr.ownsRow (w.heap.size + 1) 95 4 tv j (transL whn idx j))) (fun v41 _ => m - (intOf v41).toNat)
   case atStart => exact ⟨0, _, rfl, Nat.zero_le _, HBr, HL, HO, Lib.hid (World.ownsRow_nil _ _ _ _)⟩
   case round =>
    obtain ⟨j, tv, rfl, hjm, HBs, HLs, HOs, HT⟩ := hrel
    clear HL HBr HO hdi
    by_cases hlt : j < m
    ·have hca : wr.cell? (c.add j) = some (.int .i64 (whn.getD j 0)) := (HM.out.below HBs.out).c j (by rw [← HMM.out]; exact hlt)
     have hcb : wr.cell? (d.add j) = some (.int .i64 (idx.getD j 0)) := (HM.out.below HBs.out).d j (by rw [← HMM.out]; exact hlt)
     have hdi : decide ((j : Int) < (m : Int)) = true := decide_eq_true (by omega)
     have hii : (j : Int) < (m : Int) := by omega
     have hwi : wrap64 ((j : Int) + 1) = ((j + 1 : Nat) : Int) := by unfold wrap64; omega
     have hib := HIB.out j (by rw [← HMM.out]; exact hlt)
     rw [← HN.out] at hib
     obtain ⟨x, hx⟩ : ∃ x, x = whn.getD j 0 := ⟨_, rfl⟩
     obtain ⟨y, hy⟩ : ∃ y, y = idx.getD j 0 := ⟨_, rfl⟩
     rw [← hx] at hca
     rw [← hy] at hcb hib
     have hw8 : IntKind.u8.wrap y = y := by rw [IntKind.wrap_u8]; omega
     have hw8' : y % 256 = y := by omega
     have HX := Lib.hid (And.intro hx hy)
     clear hx hy hib
     go_upto_region 10 with fail
     clear hca
     obtain ⟨wo, hwo⟩ : ∃ wo : World, wo = wr := ⟨_, rfl⟩
     subst hwo
     have hl0 := HLs.out
     have ho0 := HT.out
     have hz0 := HOs.out
     have hblt : (d.add j).block < wo.heap.size := World.block_lt_of_cell? wo _ hcb
     refine start_ (n := 17) (S := fun w' => LocRow w' w.heap.size zv tv ∧ w'.ownsRow (w.heap.size + 1) 95 4 tv j (transL whn idx j) ∧ w'.cell? (d.add j) = some (.int .i64 y) ∧ w'.ownsRow (w.heap.size + 1) 93 3 zv i (zonesL offs dst i) ∧ Below wo.heap.size wo w') (ds := [13, 16]) #[false, false, false, false, false, false, false, false, false, false, false, false, false, false, false, false, false] (by kernel_rfl) rfl rfl ⟨hl0, ho0, hcb, hz0, (Below.refl _ _).drew⟩ (fun hHeld => ?_)
     refine pure_ (i := 0) (N := some 46) (v := ?_) (a' := ?_) #[true, false, false, false, false, false, false, false, false, false, false, false, false, false, false, false, false] rfl rfl (by kernel_rfl) (fun _ _ _ h => h) (Or.inl ⟨by rfl, ?_⟩) ?_ ?_
     rotate_left
     ·intro w'
      go_simp
      with_reducible rfl
     rotate_left
     ·simp only [Act.put, List.setIfInBounds_toArray, List.set_cons_zero, List.set_cons_succ, i64_w, i32_w]
      rfl
     refine pure_ (i := 1) (N := some 47) (v := ?_) (a' := ?_) #[true, true, false, false, false, false, false, false, false, false, false, false, false, false, false, false, false] rfl rfl (by kernel_rfl) (fun _ _ _ h => h) (Or.inl ⟨by rfl, ?_⟩) ?_ ?_
     rotate_left
     ·intro w'
      go_simp
      with_reducible rfl
     rotate_left
     ·simp only [Act.put, List.setIfInBounds_toArray, List.set_cons_zero, List.set_cons_succ, i64_w, i32_w]
      rfl
     refine pure_ (i := 2) (N := some 48) (v := ?_) (a' := ?_) #[true, true, true, false, false, false, false, false, false, false, false, false, false, false, false, false, false] rfl rfl (by kernel_rfl) (fun _ _ _ h => h) (Or.inl ⟨by rfl, ?_⟩) ?_ ?_
     rotate_left
     ·intro w'
      go_simp
      with_reducible rfl
     rotate_left
     ·simp only [Act.put, List.setIfInBounds_toArray, List.set_cons_zero, List.set_cons_succ, i64_w, i32_w]
      rfl
     refine pure_ (i := 3) (N := some 49) (v := ?_) (a' := ?_) #[true, true, true, true, false, false, false, false, false, false, false, false, false, false, false, false, false] rfl rfl (by kernel_rfl) (fun _ _ _ h => h) (Or.inl ⟨by rfl, ?_⟩) ?_ ?_
     rotate_left
     ·intro w'
      go_simp
      with_reducible rfl
     rotate_left
     ·simp only [Act.put, List.setIfInBounds_toArray, List.set_cons_zero, List.set_cons_succ, i64_w, i32_w]
      rfl
     refine pure_ (i := 5) (N := some 51) (v := ?_) (a' := ?_) #[true, true, true, true, false, true, false, false, false, false, false, false, false, false, false, false, false] rfl rfl (by kernel_rfl) (fun _ _ _ h => h) (Or.inl ⟨by rfl, ?_⟩) ?_ ?_
     rotate_left
     ·intro w'
      go_simp
      with_reducible rfl
     rotate_left
     ·simp only [Act.put, List.setIfInBounds_toArray, List.set_cons_zero, List.set_cons_succ, i64_w, i32_w]
      rfl
     refine pure_ (i := 6) (N := some 52) (v := ?_) (a' := ?_) #[true, true, true, true, false, true, true, false, false, false, false, false, false, false, false, false, false] rfl rfl (by kernel_rfl) (fun _ _ _ h => h) (Or.inl ⟨by rfl, ?_⟩) ?_ ?_
     rotate_left
     ·intro w'
      go_simp
      with_reducible rfl
     rotate_left
     ·simp only [Act.put, List.setIfInBounds_toArray, List.set_cons_zero, List.set_cons_succ, i64_w, i32_w]
      rfl
     refine pure_ (i := 7) (N := some 53) (v := ?_) (a' := ?_) #[true, true, true, true, false, true, true, true, false, false, false, false, false, false, false, false, false] rfl rfl (by kernel_rfl) (fun _ _ _ h => h) (Or.inl ⟨by rfl, ?_⟩) ?_ ?_
     rotate_left
     ·intro w'
      go_simp
      with_reducible rfl
     rotate_left
     ·simp only [Act.put, List.setIfInBounds_toArray, List.set_cons_zero, List.set_cons_succ, i64_w, i32_w]
      rfl
     refine pure_ (i := 8) (N := some 54) (v := ?_) (a' := ?_) #[true, true, true, true, false, true, true, true, true, false, false, false, false, false, false, false, false] rfl rfl (by kernel_rfl) (fun _ _ _ h => h) (Or.inl ⟨by rfl, ?_⟩) ?_ ?_
     rotate_left
     ·intro w'
      go_simp
      with_reducible rfl
     rotate_left
     ·simp only [Act.put, List.setIfInBounds_toArray, List.set_cons_zero, List.set_cons_succ, i64_w, i32_w]
      rfl
     refine take_ (i := 4) (N := some 50) (v := ?_) (a' := ?_) #[true, true, true, true, true, true, true, true, true, false, false, false, false, false, false, false, false] rfl rfl (by kernel_rfl) (fun _ _ _ h => h) (Or.inl ⟨by rfl, ?_⟩) hHeld ?_ ?_
     rotate_left
     ·rintro w' ⟨s0, s1, s2, s3, s4⟩
      have c2 : w'.cell? ⟨w.heap.size, 3, none⟩ = some tv := cell_of_row _ _ _ _ _ _ s0
      go_simp
      with_reducible rfl
     rotate_left
     ·simp only [Act.put, List.setIfInBounds_toArray, List.set_cons_zero, List.set_cons_succ, i64_w, i32_w]
      rfl
     refine take_ (i := 9) (N := some 55) (v := ?_) (a' := ?_) #[true, true, true, true, true, true, true, true, true, true, false, false, false, false, false, false, false] rfl rfl (by kernel_rfl) (fun _ _ _ h => h) (Or.inl ⟨by rfl, ?_⟩) hHeld ?_ ?_
     rotate_left
     ·rintro w' ⟨s0, s1, s2, s3, s4⟩
      have c2 := s2
      go_simp
      with_reducible rfl
     rotate_left
     ·simp only [Act.put, List.setIfInBounds_toArray, List.set_cons_zero, List.set_cons_succ, i64_w, i32_w]
      rfl
     refine pure_ (i := 10) (N := some 56) (v := ?_) (a' := ?_) #[true, true, true, true, true, true, true, true, true, true, true, false, false, false, false, false, false] rfl rfl (by kernel_rfl) (fun _ _ _ h => h) (Or.inl ⟨by rfl, ?_⟩) ?_ ?_
     rotate_left
     ·intro w'
      go_simp
      with_reducible rfl
     rotate_left
     ·simp only [Act.put, List.setIfInBounds_toArray, List.set_cons_zero, List.set_cons_succ, i64_w, i32_w]
      rfl
     refine pure_ (i := 11) (N := some 57) (v := ?_) (a' := ?_) #[true, true, true, true, true, true, true, true, true, true, true, true, false, false, false, false, false] rfl rfl (by kernel_rfl) (fun _ _ _ h => h) (Or.inl ⟨by rfl, ?_⟩) ?_ ?_
     rotate_left
     ·intro w'
      go_simp
      with_reducible rfl
     rotate_left
     ·simp only [Act.put, List.setIfInBounds_toArray, List.set_cons_zero, List.set_cons_succ, i64_w, i32_w]
      rfl
     refine one_ (i := 12) (N := some 58) #[true, true, true, true, true, true, true, true, true, true, true, true, true, false, false, false, false] rfl rfl (by kernel_rfl) (by decide) (fun K hK => ?_)
     refine value_ (w1 := ?_) (v := ?_) (by rfl) rfl ?_ ?_
     rotate_left 2
     ·go_simp
      constructor
      ·rfl
      ·rfl
     refine hK.out _ _ ⟨(((Below.refl _ _).alloc (Nat.le_refl _) _).block _ (row_lt' hHeld.1)).trans hHeld.1, hHeld.2.1.alloc _, (((Below.refl _ _).alloc (Nat.le_refl _) _).cell (World.block_lt_of_cell? _ _ hHeld.2.2.1)).trans hHeld.2.2.1, hHeld.2.2.2.1.alloc _, hHeld.2.2.2.2.alloc hHeld.2.2.2.2.size _⟩ (fun hHeld => ?_)
     clear hK K
     refine norm_ (a' := ?_) ?_ ?_
     rotate_left
     ·show Act.put _ (some 58) _ = _
      simp only [Act.put, List.setIfInBounds_toArray, List.set_cons_zero, List.set_cons_succ, i64_w, i32_w]
      rfl
     refine last_ (i := 13) (N := some 59) #[true, true, true, true, true, true, true, true, true, true, true, true, true, true, false, false, false] rfl rfl (by kernel_rfl) (by decide) (fun K hK => ?_)
     rw [if_pos (by rfl)]
     refine wp_append_lies _ _ _ _ rfl (w.heap.size + 1) 95 it (.agg #[.int .i64 0, .int .u8 0, .bool false, .bool false]) 4 16 Try.underlying88 TI.out TZ.out TS.out TY.out rfl (by omega) tv j (transL whn idx j) rfl hHeld.2.1 ⟨wo.heap.size, 0, none⟩ 1 1 [.int .i64 x, .int .u8 y, .bool false, .bool false] rfl rfl (World.news_of_block (heap_alloc_new _ _)) (by simp [Value.oneCell']) (by omega) (by simp only [maxLen]; omega) (by omega) (by have := row_lt' hHeld.1; omega) (wo.heap.size + 1) (by simp) ?_
     intro g7 cap w7 hown hgrow hat hlt7
     have hl7 := (hgrow.block _ (row_lt' hHeld.1) (own_far hHeld.2.1)).trans hHeld.1
     have c27 : w7.cell? ⟨w.heap.size, 3, none⟩ = some tv := cell_of_row _ _ _ _ _ _ hl7
     have f27 : w7.frozen? ⟨w.heap.size, 3, none⟩ = false := frozen_of_row _ _ _ _ _ hl7
     refine hK.out _ _ ?_
     clear hK K
     refine norm_ (a' := ?_) ?_ ?_
     rotate_left
     ·show Act.put _ (some 59) _ = _
      simp only [Act.put, List.setIfInBounds_toArray, List.set_cons_zero, List.set_cons_succ, i64_w, i32_w]
      rfl
     refine pure_ (i := 14) (N := some 60) (v := ?_) (a' := ?_) #[true, true, true, true, true, true, true, true, true, true, true, true, true, true, true, false, false] rfl rfl (by kernel_rfl) (fun _ _ _ h => h) (Or.inl ⟨by rfl, ?_⟩) ?_ ?_
     rotate_left
     ·intro w'
      go_simp
      with_reducible rfl
     rotate_left
     ·simp only [Act.put, List.setIfInBounds_toArray, List.set_cons_zero, List.set_cons_succ, i64_w, i32_w]
      rfl
     refine pure_ (i := 15) (N := some 61) (v := ?_) (a' := ?_) #[true, true, true, true, true, true, true, true, true, true, true, true, true, true, true, true, false] rfl rfl (by kernel_rfl) (fun _ _ _ h => h) (Or.inl ⟨by rfl, ?_⟩) ?_ ?_
     rotate_left
     ·intro w'
      go_simp
      with_reducible rfl
     rotate_left
     ·simp only [Act.put, List.setIfInBounds_toArray, List.set_cons_zero, List.set_cons_succ, i64_w, i32_w]
      rfl
     refine last_ (i := 16) (N := none) #[true, true, true, true, true, true, true, true, true, true, true, true, true, true, true, true, true] rfl rfl (by kernel_rfl) (by decide) (fun K hK => ?_)
     refine skip_ (w1 := ?_) (by rfl) rfl ?_ ?_
     rotate_left
     ·go_simp
      rfl
     refine hK.out _ _ ?_
     clear hK K
     refine done_ (by kernel_rfl) ?_
     have hB8 : Below w.heap.size w (w7.setCell ⟨w.heap.size, 3, none⟩ (.slice (some ⟨g7, 0, none⟩) (j + 1) cap)) := (Below.grown (below_le HBs.out hHeld.2.2.2.2) hgrow (by have := row_lt' hHeld.1; omega) (fun k e => by have := (hHeld.2.1.lt k e).1; omega)).setCell (p := ⟨w.heap.size, 3, none⟩) (Nat.le_refl _) _
     have hL8 := heap_setCell_same w7 w.heap.size 3 _ _ (.slice (some ⟨g7, 0, none⟩) (j + 1) cap) hl7
     have hO8 : (w7.setCell ⟨w.heap.size, 3, none⟩ (.slice (some ⟨g7, 0, none⟩) (j + 1) cap)).ownsRow (w.heap.size + 1) 95 4 (.slice (some ⟨g7, 0, none⟩) (j + 1) cap) (j + 1) (transL whn idx (j + 1)) := by
      have h := ownsRow_setCell_below hown (a := ⟨w.heap.size, 3, none⟩) (by show w.heap.size < w.heap.size + 1; omega) (.slice (some ⟨g7, 0, none⟩) (j + 1) cap)
      rw [HX.out.1, HX.out.2] at h
      exact h
     have hZ8 := ownsRow_setCell_below (hHeld.2.2.2.1.kept hgrow (own_ne hHeld.2.2.2.1 hHeld.2.1 (by decide))) (a := ⟨w.heap.size, 3, none⟩) (by show w.heap.size < w.heap.size + 1; omega) (.slice (some ⟨g7, 0, none⟩) (j + 1) cap)
     have HL8 : Hid (LocRow (w7.setCell ⟨w.heap.size, 3, none⟩ (.slice (some ⟨g7, 0, none⟩) (j + 1) cap)) w.heap.size zv (.slice (some ⟨g7, 0, none⟩) (j + 1) cap)) := Lib.hid hL8
     have HO8 := Lib.hid hO8
     have HZ8 := Lib.hid hZ8
     have HB8 := Lib.hid hB8
     clear hHeld hgrow hown hat hlt7 hl7 c27 f27 hL8 hO8 hB8 hZ8 hl0 ho0 hz0 HLs HOs HT HBs hcb hblt HX hw8 hw8'
     generalize w7.setCell ⟨w.heap.size, 3, none⟩ (.slice (some ⟨g7, 0, none⟩) (j + 1) cap) = w8 at *
     go_wp2_with fail
     exact ⟨⟨j + 1, _, rfl, by omega, HB8, HL8, HZ8, HO8⟩, by simp [intOf]; omega⟩
    ·obtain rfl : j = m := by omega
     have hdj : decide ((j : Int) < (j : Int)) = false := decide_eq_false (by omega)
     go_wp2_with fail
     go_ret
     refine ⟨_, rfl, ?_, HBs.out⟩
     have hz := HOs.out
     have ht := HT.out
     have hl := HLs.out
     obtain ⟨Z, cz, rfl, -, hZl⟩ := hz.form (by omega)
     obtain ⟨T, ct, rfl, -, hTl⟩ := ht.form (by omega)
     have Hn := HN.out
     have Hm := HMM.out
     exact ⟨nmZ, Z, T, cz, ct, cell_of_row _ _ _ _ _ _ hl, by rw [← Hn]; exact cell_of_row _ _ _ _ _ _ hl, by rw [← Hm]; exact cell_of_row _ _ _ _ _ _ hl, cell_of_row _ _ _ _ _ _ hl,
      fun q hq => (hz.cellAt _ (by omega)).trans (zonesL_at offs dst i q (by omega)).1, fun q hq => (hz.cellAt _ (by omega)).trans (zonesL_at offs dst i q (by omega)).2.1, fun q hq => (hz.cellAt _ (by omega)).trans (zonesL_at offs dst i q (by omega)).2.2,
      fun q hq => (ht.cellAt _ (by omega)).trans (transL_at whn idx j q (by omega)).1, fun q hq => (ht.cellAt _ (by omega)).trans (transL_at whn idx j q (by omega)).2, row_lt' hl, hZl, hTl⟩
end Go.Proofs.Ytlopkdhblfibkaa.Cal
