/- Lemmas and walks on the way to the law, merged by wip/tools/pack.py: ZIn, ZAny, RowArgs, RowZone, LawNextIn, NextInWalk. Conditions: none. -/
import Derived.Test.YtlopkdhblfibkaaGrG
import Derived.Test.YtlopkdhblfibkaaPrB
import Derived.Test.YtlopkdhblfibkaaRows
import Derived.WalkKit
import Derived.ProofKit
import Derived.OpenShut
import Derived.Below
import Derived.Carry
import Derived.Deep.Slices
import Derived.Deep.Fields
import Derived.ChangeSame
import Derived.Test.YtlopkdhblfibkaaWWordsT
import Derived.ChangeSlices
import Derived.Deep.Grids
import Derived.Test.YtlopkdhblfibkaaWEqStructT
namespace Go.Proofs.Ytlopkdhblfibkaa.Cal
open Go Go.RowKit Go.Proofs.YtlopkdhblfibkaaW.PrintWords Go.Proofs.YtlopkdhblfibkaaW.PrintLast
set_option linter.unusedVariables false
set_option linter.unusedSimpArgs false
structure ZoneZ (zv : Value) (off : Int → Int) (Zi : World → Prop) : Prop where
 keep : ∀ {w w' : World}, Zi w → Below w.heap.size w w' → Zi w'
 gives : ∀ w : World, Zi w → Calls Try.prog 21 #[zv] w fun e w2 =>
  ∃ (l : Option Addr) (Inv : World → Prop) (Loc : World → Nat → Prop) (k : Nat), ClockZ l off Inv Loc ∧ LocS Loc ∧ e = .returned (.pointer (some ⟨k, 0, none⟩)) ∧ Loc w2 k ∧ Inv w2 ∧ Below w.heap.size w w2
set_option maxHeartbeats 1000000 in
theorem locationU_any (A0 A1 A2 A3 : Option Addr) (c0 c1 c2 c3 n1 n2 n3 : Nat) (w : World) :
  Calls Try.prog 21 #[.agg #[.slice A0 0 c0, .slice A1 n1 c1, .slice A2 n2 c2, .slice A3 n3 c3]] w fun e' w' => ∃ k, e' = .returned (.pointer (some ⟨k, 0, none⟩)) ∧ UtcAt w' k ∧ Below w.heap.size w w' := by
 have HU := Lib.hid (fun w' => utc_any w')
 go_enter Try.func21, Try.ntmps21
 go_wp2_with fail
 refine (HU.out _).mono ?_
 rintro e' w1 ⟨rfl, u0, u2, hb, hlt⟩
 have hB := below_le ((Below.refl w.heap.size w).alloc (Nat.le_refl _) _) hb
 go_wp2_with fail
 go_ret
 exact ⟨_, rfl, ⟨by simpa using u0, by simpa using u2, by simpa using hlt⟩, hB⟩
theorem zoneZ_utc (A0 A1 A2 A3 : Option Addr) (c0 c1 c2 c3 n1 n2 n3 : Nat) : ZoneZ (.agg #[.slice A0 0 c0, .slice A1 n1 c1, .slice A2 n2 c2, .slice A3 n3 c3]) (fun _ => 0) (fun _ => True) where
 keep := fun _ _ => trivial
 gives := fun w _ => (locationU_any A0 A1 A2 A3 c0 c1 c2 c3 n1 n2 n3 w).mono fun _ _ ⟨k, h1, h2, h3⟩ => ⟨none, _, _, k, clockZ_utc, locS_utc, h1, h2, trivial, h3⟩
set_option maxHeartbeats 1000000 in
theorem zoneZ_list {offs : List Int} {dst : List Bool} {whn idx : List Int} (G : GoodL offs dst whn idx) (a b c d : Addr) (c0 c1 c2 c3 : Nat) : ZoneZ (.agg #[.slice (some a) offs.length c0, .slice (some b) offs.length c1, .slice (some c) whn.length c2, .slice (some d) whn.length c3]) (offL offs whn idx) (ZArg offs dst whn idx a b c d) where
 keep := fun h hb => h.below hb
 gives := fun w hz => by
  have HZZ := Lib.hid (fun w' hz' => zzZoneL_any G a b c d c0 c1 c2 c3 w' hz')
  have hz1 := Lib.hid (fun o => hz.below ((Below.refl w.heap.size w).alloc (Nat.le_refl _) o))
  have hn : ((offs.length : Int) == 0) = false := by have := G.n1; exact beq_eq_false_iff_ne.2 (by omega)
  have HL := Lib.hid (locS_z (offs := offs) (dst := dst) (whn := whn) (idx := idx) G.n1 G.m1)
  have HC := Lib.hid (fun k => clock_zone G k)
  go_enter Try.func21, Try.ntmps21
  go_wp2_with fail
  refine (HZZ.out _ (hz1.out _)).mono ?_
  rintro e w1 ⟨k, rfl, hf, hb1⟩
  have HB1 := Lib.hid (((Below.refl w.heap.size w).alloc (Nat.le_refl _) _).trans (hb1.mono (by simp)))
  have HF1 := Lib.hid hf
  clear hb1 hf
  go_wp2_with fail
  go_ret
  exact ⟨_, _, _, k, HC.out k, HL.out k, rfl, ⟨rfl, HF1.out⟩, HF1.out, HB1.out⟩
theorem at_new (w : World) (o : Obj) (n : Nat) (h : w.heap.size = n) : (w.alloc o).heap[n]? = some o := by subst h; exact heap_alloc_new w o
theorem five_rows (w : World) (o0 o1 o2 o3 o4 : Obj) : ((((((w.alloc o0).alloc o1).alloc o2).alloc o3).alloc o4).heap[w.heap.size]? = some o0 ∧ (((((w.alloc o0).alloc o1).alloc o2).alloc o3).alloc o4).heap[w.heap.size + 1]? = some o1 ∧
  (((((w.alloc o0).alloc o1).alloc o2).alloc o3).alloc o4).heap[w.heap.size + 1 + 1]? = some o2 ∧ (((((w.alloc o0).alloc o1).alloc o2).alloc o3).alloc o4).heap[w.heap.size + 1 + 1 + 1]? = some o3 ∧ (((((w.alloc o0).alloc o1).alloc o2).alloc o3).alloc o4).heap[w.heap.size + 1 + 1 + 1 + 1]? = some o4) ∧
  Below w.heap.size w (((((w.alloc o0).alloc o1).alloc o2).alloc o3).alloc o4) := by
 refine ⟨⟨?_, ?_, ?_, ?_, ?_⟩, ?_⟩
 ·rw [Below.heap_alloc _ _ _ (by simp; try omega)]
  rw [Below.heap_alloc _ _ _ (by simp; try omega)]
  rw [Below.heap_alloc _ _ _ (by simp; try omega)]
  rw [Below.heap_alloc _ _ _ (by simp; try omega)]
  exact heap_alloc_new w _
 ·rw [Below.heap_alloc _ _ _ (by simp; try omega)]
  rw [Below.heap_alloc _ _ _ (by simp; try omega)]
  rw [Below.heap_alloc _ _ _ (by simp; try omega)]
  exact at_new _ _ _ (by simp)
 ·rw [Below.heap_alloc _ _ _ (by simp; try omega)]
  rw [Below.heap_alloc _ _ _ (by simp; try omega)]
  exact at_new _ _ _ (by simp; try omega)
 ·rw [Below.heap_alloc _ _ _ (by simp; try omega)]
  exact at_new _ _ _ (by simp; try omega)
 ·exact at_new _ _ _ (by simp; try omega)
 ·exact (((((Below.refl _ _).alloc (Nat.le_refl _) _).alloc (by simp) _).alloc (by simp only [World.alloc]; simp; try omega) _).alloc (by simp; try omega) _).alloc (by simp; try omega) _
set_option maxRecDepth 100000 in
set_option maxHeartbeats 8000000 in
theorem nextIn_any (y0 y1 y2 y3 z0 z1 z2 z3 : Value) (off off0 : Int → Int) (Zo Zi : World → Prop) (hZn : Zn off) (hy : ZoneZ (.agg #[y0, y1, y2, y3]) off Zo) (hz : ZoneZ (.agg #[z0, z1, z2, z3]) off0 Zi) (d : Int) (S : Sets) (hS : S.ok) (sec nano : Int) (s0 : -62135596800 ≤ sec) (s1 : sec ≤ 253402300799) (n0 : 0 ≤ nano) (n1 : nano < 1000000000)
  (w : World) (hZo : Zo w) (hZi : Zi w) :
  Calls Try.prog 10 #[.agg (setsCells d S), .agg #[y0, y1, y2, y3], .agg #[.int .i64 sec, .int .i64 nano], .agg #[z0, z1, z2, z3]] w fun e w' => ∃ r : Option Int, LeastZ off S (sec + 1) (yearL (zt off (sec + 1)) + 5) r ∧ e = .returned (.tuple #[.agg (ansI 0 r), .bool r.isSome]) ∧ Below w.heap.size w w' := by
 have HSC := Lib.hid (fun (k : Nat) w' => schedIn_any d S k w')
 have HY := Lib.hid (fun w' (hi : Zo w') => hy.gives w' hi)
 have HZ := Lib.hid (fun w' (hi : Zi w') => hz.gives w' hi)
 have HKo : Hid (∀ {w1 w2 : World}, Zo w1 → Below w1.heap.size w1 w2 → Zo w2) := Lib.hid (fun h hb => hy.keep h hb)
 have HKi : Hid (∀ {w1 w2 : World}, Zi w1 → Below w1.heap.size w1 w2 → Zi w2) := Lib.hid (fun h hb => hz.keep h hb)
 have hmf : ∀ (fn : Fn) (first cap : Array Value) (w : World), (Instr.makeFunc fn first cap).run Try.prog w = .ok (.func fn first cap) w := fun _ _ _ _ => rfl
 obtain ⟨f, hf⟩ : ∃ f, f = sec + 1 := ⟨_, rfl⟩
 rw [← hf]
 have hzf : zt off f ≤ 253402300800 + 86400 := by have := hZn.o1 f; unfold zt; omega
 have hlim : yearL (zt off f) + 5 ≤ 10005 := by have := year_top hzf; omega
 have HPAR : Hid (∀ (Inv : World → Prop) (w' : World) (g k : Nat), Inv w' → SpecRow w' g S (some ⟨k, 0, none⟩) → ParZ off Inv w' g (some ⟨k, 0, none⟩) S f (yearL (zt off f) + 5)) := Lib.hid (fun Inv w' g k hI hg => ⟨hZn, hI, hg, hS, by omega, by omega, by omega⟩)
 have HL : Hid (∀ r, LeastZ off S f (yearL (zt off f) + 5) r → ∀ L, r = some L → 0 < L + 62135596800 - 0 ∧ L + 62135596800 - 0 ≤ 900000000000) := Lib.hid (by
  rintro r hr L rfl
  obtain ⟨h1, h2, h3, h4⟩ := hr
  have h5 := lim_lt (L := zt off L) (y := 10011) (by omega)
  rw [show ystart (10011 + 1) = 2937280 from by decide] at h5
  have := hZn.o0 L
  unfold zt at h5
  exact ⟨by omega, by omega⟩)
 have HF := Lib.hid hf
 clear hlim hzf hy hz hf
 go_enter Try.func10, Try.ntmps10
 go_upto_region 1 with fail
 obtain ⟨⟨hr0, hr1, hr2, hr3, hres⟩, hB⟩ := five_rows w (.cells (setsCells d S) 24) (.cells #[y0, y1, y2, y3] 29) (.cells #[.int .i64 sec, .int .i64 nano] 31) (.cells #[z0, z1, z2, z3] 29) (.cells #[.int .i64 0, .int .i64 0] 31)
 have hZo' := HKo.out hZo hB
 have hZi' := HKi.out hZi hB
 generalize World.alloc (World.alloc (World.alloc (World.alloc (World.alloc w _) _) _) _) _ = wo at *
 clear hZo hZi
 refine start_ (n := 17) (S := fun w' => w'.heap[w.heap.size]? = some (.cells (setsCells d S) 24 (0, 0)) ∧ w'.heap[w.heap.size + 1]? = some (.cells #[y0, y1, y2, y3] 29 (0, 0)) ∧ w'.heap[w.heap.size + 1 + 1]? = some (.cells #[.int .i64 sec, .int .i64 nano] 31 (0, 0)) ∧ w'.heap[w.heap.size + 1 + 1 + 1]? = some (.cells #[z0, z1, z2, z3] 29 (0, 0)) ∧ Below wo.heap.size wo w' ∧ Zo w' ∧ Zi w') (ds := [15]) #[false, false, false, false, false, false, false, false, false, false, false, false, false, false, false, false, false] (by kernel_rfl) rfl rfl ⟨hr0, hr1, hr2, hr3, (Below.refl _ _).drew, HKo.out hZo' (Below.refl _ _).drew, HKi.out hZi' (Below.refl _ _).drew⟩ (fun hHeld => ?_)
 refine take_ (i := 0) (N := some 10) (v := ?_) (a' := ?_) #[true, false, false, false, false, false, false, false, false, false, false, false, false, false, false, false, false] rfl rfl (by kernel_rfl) (fun _ _ _ h => h) (Or.inl ⟨by rfl, ?_⟩) hHeld ?_ ?_
 rotate_left
 ·rintro w' ⟨s0, s1, s2, s3, s4, s5, s6⟩
  refine exec_load_row _ _ w' 24 (.tmp 4) ?_ (w.heap.size) ?_ _ _ _ _ s0 Try.underlying24 rfl schedSize
  ·rfl
  ·rfl
 rotate_left
 ·simp only [Act.put, List.setIfInBounds_toArray, List.set_cons_zero, List.set_cons_succ, i64_w, i32_w]
  rfl
 refine take_ (i := 1) (N := some 11) (v := ?_) (a' := ?_) #[true, true, false, false, false, false, false, false, false, false, false, false, false, false, false, false, false] rfl rfl (by kernel_rfl) (fun _ _ _ h => h) (Or.inl ⟨by rfl, ?_⟩) hHeld ?_ ?_
 rotate_left
 ·rintro w' ⟨s0, s1, s2, s3, s4, s5, s6⟩
  refine exec_load_row _ _ w' 29 (.tmp 5) ?_ (w.heap.size + 1) ?_ _ _ _ _ s1 Try.underlying29 rfl zoneSize
  ·rfl
  ·rfl
 rotate_left
 ·simp only [Act.put, List.setIfInBounds_toArray, List.set_cons_zero, List.set_cons_succ, i64_w, i32_w]
  rfl
 refine take_ (i := 4) (N := some 14) (v := ?_) (a' := ?_) #[true, true, false, false, true, false, false, false, false, false, false, false, false, false, false, false, false] rfl rfl (by kernel_rfl) (fun _ _ _ h => h) (Or.inl ⟨by rfl, ?_⟩) hHeld ?_ ?_
 rotate_left
 ·rintro w' ⟨s0, s1, s2, s3, s4, s5, s6⟩
  refine exec_load_row _ _ w' 31 (.tmp 6) ?_ (w.heap.size + 1 + 1) ?_ _ _ _ _ s2 Try.underlying31 rfl instSize
  ·rfl
  ·rfl
 rotate_left
 ·simp only [Act.put, List.setIfInBounds_toArray, List.set_cons_zero, List.set_cons_succ, i64_w, i32_w]
  rfl
 refine take_ (i := 5) (N := some 15) (v := ?_) (a' := ?_) #[true, true, false, false, true, true, false, false, false, false, false, false, false, false, false, false, false] rfl rfl (by kernel_rfl) (fun _ _ _ h => h) (Or.inl ⟨by rfl, ?_⟩) hHeld ?_ ?_
 rotate_left
 ·rintro w' ⟨s0, s1, s2, s3, s4, s5, s6⟩
  refine exec_load_row _ _ w' 29 (.tmp 7) ?_ (w.heap.size + 1 + 1 + 1) ?_ _ _ _ _ s3 Try.underlying29 rfl zoneSize
  ·rfl
  ·rfl
 rotate_left
 ·simp only [Act.put, List.setIfInBounds_toArray, List.set_cons_zero, List.set_cons_succ, i64_w, i32_w]
  rfl
 refine one_ (i := 2) (N := some 12) #[true, true, true, false, true, true, false, false, false, false, false, false, false, false, false, false, false] rfl rfl (by kernel_rfl) (by decide) (fun K hK => ?_)
 refine goes_ Try.func21 (by kernel_rfl) rfl #[.agg #[y0, y1, y2, y3]] (by rfl) rfl rfl (by simp only [List.map_toArray, List.map_cons, List.map_nil]; rfl) ?_
 with_reducible refine (HY.out _ hHeld.2.2.2.2.2.1).mono ?_
 rintro e2 w2 ⟨l, Inv, Loc, k1, H, hls, rfl, hk2, hI2, hb2⟩
 refine ⟨_, rfl, ?_⟩
 refine hK.out _ _ ⟨(hb2.block _ (Array.getElem?_eq_some_iff.1 hHeld.1).1).trans hHeld.1, (hb2.block _ (Array.getElem?_eq_some_iff.1 hHeld.2.1).1).trans hHeld.2.1, (hb2.block _ (Array.getElem?_eq_some_iff.1 hHeld.2.2.1).1).trans hHeld.2.2.1, (hb2.block _ (Array.getElem?_eq_some_iff.1 hHeld.2.2.2.1).1).trans hHeld.2.2.2.1, below_le hHeld.2.2.2.2.1 hb2, HKo.out hHeld.2.2.2.2.2.1 hb2, HKi.out hHeld.2.2.2.2.2.2 hb2⟩ (fun hHeld => ?_)
 clear hK K
 refine norm_ (a' := ?_) ?_ ?_
 rotate_left
 ·show Act.put _ (some 12) _ = _
  simp only [Act.put, List.setIfInBounds_toArray, List.set_cons_zero, List.set_cons_succ, i64_w, i32_w]
  rfl
 refine one_ (i := 3) (N := some 13) #[true, true, true, true, true, true, false, false, false, false, false, false, false, false, false, false, false] rfl rfl (by kernel_rfl) (by decide) (fun K hK => ?_)
 refine goes_ Try.func20 (by kernel_rfl) rfl #[.agg (setsCells d S), .pointer (some ⟨k1, 0, none⟩)] (by rfl) rfl rfl (by simp only [List.map_toArray, List.map_cons, List.map_nil]; rfl) ?_
 with_reducible refine (HSC.out k1 _).mono ?_
 rintro e3 w3 ⟨g, rfl, hg3, hb3⟩
 refine ⟨_, rfl, ?_⟩
 have hna : ∀ w' : World, (nilAhead 255 76 (.pointer (some ⟨g, 0, none⟩)) "Next").run Try.prog w' = .ok (some false) w' := fun w' => by { rfl }
 have hk3 := H.locK hk2 hb3
 have hI3 := H.abs.keeps hI2 hb3
 refine hK.out _ _ ⟨(hb3.block _ (Array.getElem?_eq_some_iff.1 hHeld.1).1).trans hHeld.1, (hb3.block _ (Array.getElem?_eq_some_iff.1 hHeld.2.1).1).trans hHeld.2.1, (hb3.block _ (Array.getElem?_eq_some_iff.1 hHeld.2.2.1).1).trans hHeld.2.2.1, (hb3.block _ (Array.getElem?_eq_some_iff.1 hHeld.2.2.2.1).1).trans hHeld.2.2.2.1, below_le hHeld.2.2.2.2.1 hb3, HKo.out hHeld.2.2.2.2.2.1 hb3, HKi.out hHeld.2.2.2.2.2.2 hb3⟩ (fun hHeld => ?_)
 clear hK K
 refine norm_ (a' := ?_) ?_ ?_
 rotate_left
 ·show Act.put _ (some 13) _ = _
  simp only [Act.put, List.setIfInBounds_toArray, List.set_cons_zero, List.set_cons_succ, i64_w, i32_w]
  rfl
 refine pure_ (i := 8) (N := some 18) (v := ?_) (a' := ?_) #[true, true, true, true, true, true, false, false, true, false, false, false, false, false, false, false, false] rfl rfl (by kernel_rfl) (fun _ _ _ h => h) (Or.inl ⟨by rfl, ?_⟩) ?_ ?_
 rotate_left
 ·intro w'
  go_simp
  with_reducible rfl
 rotate_left
 ·simp only [Act.put, List.setIfInBounds_toArray, List.set_cons_zero, List.set_cons_succ, i64_w, i32_w]
  rfl
 refine pure_ (i := 9) (N := some 19) (v := ?_) (a' := ?_) #[true, true, true, true, true, true, false, false, true, true, false, false, false, false, false, false, false] rfl rfl (by kernel_rfl) (fun _ _ _ h => h) (Or.inl ⟨by rfl, ?_⟩) ?_ ?_
 rotate_left
 ·intro w'
  go_simp
  with_reducible rfl
 rotate_left
 ·simp only [Act.put, List.setIfInBounds_toArray, List.set_cons_zero, List.set_cons_succ, i64_w, i32_w]
  rfl
 refine pure_ (i := 10) (N := some 20) (v := ?_) (a' := ?_) #[true, true, true, true, true, true, false, false, true, true, true, false, false, false, false, false, false] rfl rfl (by kernel_rfl) (fun _ _ _ h => h) (Or.inl ⟨by rfl, ?_⟩) ?_ ?_
 rotate_left
 ·intro w'
  go_simp
  with_reducible rfl
 rotate_left
 ·simp only [Act.put, List.setIfInBounds_toArray, List.set_cons_zero, List.set_cons_succ, i64_w, i32_w]
  rfl
 refine one_ (i := 6) (N := some 16) #[true, true, true, true, true, true, true, false, true, true, true, false, false, false, false, false, false] rfl rfl (by kernel_rfl) (by decide) (fun K hK => ?_)
 refine goes_ Try.func21 (by kernel_rfl) rfl #[.agg #[z0, z1, z2, z3]] (by rfl) rfl rfl (by simp only [List.map_toArray, List.map_cons, List.map_nil]; rfl) ?_
 with_reducible refine (HZ.out _ hHeld.2.2.2.2.2.2).mono ?_
 rintro e6 w6 ⟨l0, Inv0, Loc0, k0, H0, hls0, rfl, hk6, hI06, hb6⟩
 refine ⟨_, rfl, ?_⟩
 have hg6 := hg3.below hb6
 have hk16 := H.locK hk3 hb6
 have hI6 := H.abs.keeps hI3 hb6
 refine hK.out _ _ ⟨(hb6.block _ (Array.getElem?_eq_some_iff.1 hHeld.1).1).trans hHeld.1, (hb6.block _ (Array.getElem?_eq_some_iff.1 hHeld.2.1).1).trans hHeld.2.1, (hb6.block _ (Array.getElem?_eq_some_iff.1 hHeld.2.2.1).1).trans hHeld.2.2.1, (hb6.block _ (Array.getElem?_eq_some_iff.1 hHeld.2.2.2.1).1).trans hHeld.2.2.2.1, below_le hHeld.2.2.2.2.1 hb6, HKo.out hHeld.2.2.2.2.2.1 hb6, HKi.out hHeld.2.2.2.2.2.2 hb6⟩ (fun hHeld => ?_)
 clear hK K
 refine norm_ (a' := ?_) ?_ ?_
 rotate_left
 ·show Act.put _ (some 16) _ = _
  simp only [Act.put, List.setIfInBounds_toArray, List.set_cons_zero, List.set_cons_succ, i64_w, i32_w]
  rfl
 refine one_ (i := 7) (N := some 17) #[true, true, true, true, true, true, true, true, true, true, true, false, false, false, false, false, false] rfl rfl (by kernel_rfl) (by decide) (fun K hK => ?_)
 refine goes_ Try.func22 (by kernel_rfl) rfl #[.agg #[.int .i64 sec, .int .i64 nano], .pointer (some ⟨k0, 0, none⟩)] (by rfl) rfl rfl (by simp only [List.map_toArray, List.map_cons, List.map_nil]; rfl) ?_
 with_reducible refine (moment_z H0 k0 sec nano n0 n1 (by omega) (by omega) _ hk6).mono ?_
 rintro e7 w7 ⟨rfl, hb7⟩
 refine ⟨_, rfl, ?_⟩
 have hg7 := hg6.below hb7
 have hI07 := H0.abs.keeps hI06 hb7
 have hk17 := H.locK hk16 hb7
 have hI7 := H.abs.keeps hI6 hb7
 refine hK.out _ _ ⟨(hb7.block _ (Array.getElem?_eq_some_iff.1 hHeld.1).1).trans hHeld.1, (hb7.block _ (Array.getElem?_eq_some_iff.1 hHeld.2.1).1).trans hHeld.2.1, (hb7.block _ (Array.getElem?_eq_some_iff.1 hHeld.2.2.1).1).trans hHeld.2.2.1, (hb7.block _ (Array.getElem?_eq_some_iff.1 hHeld.2.2.2.1).1).trans hHeld.2.2.2.1, below_le hHeld.2.2.2.2.1 hb7, HKo.out hHeld.2.2.2.2.2.1 hb7, HKi.out hHeld.2.2.2.2.2.2 hb7⟩ (fun hHeld => ?_)
 clear hK K
 refine norm_ (a' := ?_) ?_ ?_
 rotate_left
 ·show Act.put _ (some 17) _ = _
  simp only [Act.put, List.setIfInBounds_toArray, List.set_cons_zero, List.set_cons_succ, i64_w, i32_w]
  rfl
 refine one_ (i := 11) (N := some 21) #[true, true, true, true, true, true, true, true, true, true, true, true, false, false, false, false, false] rfl rfl (by kernel_rfl) (by decide) (fun K hK => ?_)
 refine call_ (f := 69) #[.pointer (some ⟨g, 0, none⟩), .agg #[.int .u64 nano, .int .i64 (sec + 62135596800), .pointer l0]] (by rfl) rfl (by go_simp; rfl) ?_
 refine (next_z H hls H0 hls0 hI07 hk17 (HPAR.out Inv _ g k1 hI7 hg7) nano (sec + 62135596800) n0 n1 (by omega) (by omega) (by have := HF.out; omega) rfl).mono ?_
 rintro e11 w11 ⟨r, hr, rfl, hb11⟩
 rw [ansZ_T]
 refine ⟨_, rfl, ?_⟩
 refine hK.out _ _ ⟨(hb11.block _ (Array.getElem?_eq_some_iff.1 hHeld.1).1).trans hHeld.1, (hb11.block _ (Array.getElem?_eq_some_iff.1 hHeld.2.1).1).trans hHeld.2.1, (hb11.block _ (Array.getElem?_eq_some_iff.1 hHeld.2.2.1).1).trans hHeld.2.2.1, (hb11.block _ (Array.getElem?_eq_some_iff.1 hHeld.2.2.2.1).1).trans hHeld.2.2.2.1, below_le hHeld.2.2.2.2.1 hb11, HKo.out hHeld.2.2.2.2.2.1 hb11, HKi.out hHeld.2.2.2.2.2.2 hb11⟩ (fun hHeld => ?_)
 clear hK K
 refine norm_ (a' := ?_) ?_ ?_
 rotate_left
 ·show Act.put _ (some 21) _ = _
  simp only [Act.put, List.setIfInBounds_toArray, List.set_cons_zero, List.set_cons_succ, i64_w, i32_w]
  rfl
 refine one_ (i := 12) (N := some 22) #[true, true, true, true, true, true, true, true, true, true, true, true, true, false, false, false, false] rfl rfl (by kernel_rfl) (by decide) (fun K hK => ?_)
 refine goes_ Try.func19 (by kernel_rfl) rfl #[ansT l0 0 r] (by rfl) rfl rfl (by simp only [List.map_toArray, List.map_cons, List.map_nil]; rfl) ?_
 with_reducible refine (answer_any l0 0 r (HL.out r hr) _).mono ?_
 rintro e12 w12 ⟨rfl, hb12⟩
 refine ⟨_, rfl, ?_⟩
 refine hK.out _ _ ⟨(hb12.block _ (Array.getElem?_eq_some_iff.1 hHeld.1).1).trans hHeld.1, (hb12.block _ (Array.getElem?_eq_some_iff.1 hHeld.2.1).1).trans hHeld.2.1, (hb12.block _ (Array.getElem?_eq_some_iff.1 hHeld.2.2.1).1).trans hHeld.2.2.1, (hb12.block _ (Array.getElem?_eq_some_iff.1 hHeld.2.2.2.1).1).trans hHeld.2.2.2.1, below_le hHeld.2.2.2.2.1 hb12, HKo.out hHeld.2.2.2.2.2.1 hb12, HKi.out hHeld.2.2.2.2.2.2 hb12⟩ (fun hHeld => ?_)
 clear hK K
 refine norm_ (a' := ?_) ?_ ?_
 rotate_left
 ·show Act.put _ (some 22) _ = _
  simp only [Act.put, List.setIfInBounds_toArray, List.set_cons_zero, List.set_cons_succ, i64_w, i32_w]
  rfl
 refine pure_ (i := 13) (N := some 23) (v := ?_) (a' := ?_) #[true, true, true, true, true, true, true, true, true, true, true, true, true, true, false, false, false] rfl rfl (by kernel_rfl) (fun _ _ _ h => h) (Or.inl ⟨by rfl, ?_⟩) ?_ ?_
 rotate_left
 ·intro w'
  go_simp
  with_reducible rfl
 rotate_left
 ·simp only [Act.put, List.setIfInBounds_toArray, List.set_cons_zero, List.set_cons_succ, i64_w, i32_w]
  rfl
 refine pure_ (i := 14) (N := some 24) (v := ?_) (a' := ?_) #[true, true, true, true, true, true, true, true, true, true, true, true, true, true, true, false, false] rfl rfl (by kernel_rfl) (fun _ _ _ h => h) (Or.inl ⟨by rfl, ?_⟩) ?_ ?_
 rotate_left
 ·intro w'
  go_simp
  with_reducible rfl
 rotate_left
 ·simp only [Act.put, List.setIfInBounds_toArray, List.set_cons_zero, List.set_cons_succ, i64_w, i32_w]
  rfl
 refine last_ (i := 15) (N := none) #[true, true, true, true, true, true, true, true, true, true, true, true, true, true, true, true, false] rfl rfl (by kernel_rfl) (by decide) (fun K hK => ?_)
 rw [if_pos (by rfl)]
 refine wp_store_row 31 _ _ rfl (w.heap.size + 1 + 1 + 1 + 1) (ansI 0 r) rfl rfl 31 #[.int .i64 0, .int .i64 0] ((hHeld.2.2.2.2.1.block _ (Array.getElem?_eq_some_iff.1 hres).1).trans hres) (by rw [ansI_size]; exact instSize) (by rw [ansI_size]; rfl) (ansI_one 0 r) ?_
 refine hK.out _ _ ?_
 clear hK K
 refine pure_ (i := 16) (N := some 9) (v := ?_) (a' := ?_) #[true, true, true, true, true, true, true, true, true, true, true, true, true, true, true, true, true] rfl rfl (by kernel_rfl) (fun _ _ _ h => h) (Or.inl ⟨by rfl, ?_⟩) ?_ ?_
 rotate_left
 ·intro w'
  go_simp
  with_reducible rfl
 rotate_left
 ·simp only [Act.put, List.setIfInBounds_toArray, List.set_cons_zero, List.set_cons_succ, i64_w, i32_w]
  rfl
 refine done_ (by kernel_rfl) ?_
 go_wp2_with fail
 have hres6 := (hHeld.2.2.2.2.1.block _ (Array.getElem?_eq_some_iff.1 hres).1).trans hres
 refine bodyPost_ret (v := .tuple #[.agg (ansI 0 r), .bool r.isSome]) ?_ rfl ⟨r, hr, rfl, ?_⟩
 ·exact results_inst (fn := Try.f10) (p := 8) (u := 9) rfl _ _ (w.heap.size + 1 + 1 + 1 + 1) _ (ansI_size 0 r) rfl (setRow_heap _ _ _ _ _ _ hres6)
 ·exact below_setRow (below_le hB hHeld.2.2.2.2.1) (by omega) _
end Go.Proofs.Ytlopkdhblfibkaa.Cal
namespace Go.Proofs.Ytlopkdhblfibkaa.CronN
open Go Go.RowKit Go.Proofs.YtlopkdhblfibkaaW.PrintWords Go.Proofs.YtlopkdhblfibkaaW.PrintLast Go.Proofs.Ytlopkdhblfibkaa.Cal Go.Proofs.Ytlopkdhblfibkaa.Pr
set_option linter.unusedVariables false
set_option linter.unusedSimpArgs false
structure ZA where
 A0 : Option Addr
 A1 : Option Addr
 A2 : Option Addr
 A3 : Option Addr
 c0 : Nat
 c1 : Nat
 c2 : Nat
 c3 : Nat
 l0 : List Int
 l1 : List Bool
 l2 : List Int
 l3 : List Int
def ZA.cells (z : ZA) : Array Value := #[.slice z.A0 z.l0.length z.c0, .slice z.A1 z.l1.length z.c1, .slice z.A2 z.l2.length z.c2, .slice z.A3 z.l3.length z.c3]
structure ZA.Mem (z : ZA) (w : World) : Prop where
 h0 : Kd.C (Kd.int .i64) w z.A0 z.l0.length z.l0
 k0 : z.l0.length ≤ z.c0
 h1 : Kd.C Kd.bool w z.A1 z.l1.length z.l1
 k1 : z.l1.length ≤ z.c1
 h2 : Kd.C (Kd.int .i64) w z.A2 z.l2.length z.l2
 k2 : z.l2.length ≤ z.c2
 h3 : Kd.C (Kd.int .i64) w z.A3 z.l3.length z.l3
 k3 : z.l3.length ≤ z.c3
theorem ZA.Mem.below {z : ZA} {w w' : World} (h : z.Mem w) (hb : Below w.heap.size w w') : z.Mem w' :=
 ⟨Kd.C_below h.h0 hb, h.k0, Kd.C_below h.h1 hb, h.k1, Kd.C_below h.h2 hb, h.k2, Kd.C_below h.h3 hb, h.k3⟩
def ZA.Good (z : ZA) : Prop := (z.l0.length = 0 ∧ z.l1.length = 0 ∧ z.l2.length = 0 ∧ z.l3.length = 0) ∨ GoodL z.l0 z.l1 z.l2 z.l3
theorem fits_any (z : ZA) (w : World) (hm : z.Mem w) : Calls Try.prog 4 #[.agg z.cells] w fun e w' => (∃ b : Bool, e = .returned (.bool b)) ∧ Below w.heap.size w w' := by
 obtain ⟨b, hb⟩ : ∃ b, laws_zzFits1.f z.l0 z.l1 z.l2 z.l3 = some b := by
  unfold laws_zzFits1.f
  split
  ·exact ⟨_, rfl⟩
  ·split
   ·exact ⟨_, rfl⟩
   ·split
    ·exact ⟨_, rfl⟩
    ·split <;> exact ⟨_, rfl⟩
 exact (laws_zzFits1.calls z.A0 z.c0 z.l0 z.A1 z.c1 z.l1 z.A2 z.c2 z.l2 z.A3 z.c3 z.l3 b w hm.h0 hm.k0 hm.h1 hm.k1 hm.h2 hm.k2 hm.h3 hm.k3 hb).mono fun _ _ h => ⟨⟨b, h.1⟩, h.2⟩
theorem goodZ_any (z : ZA) (w : World) (hm : z.Mem w) : Calls Try.prog 6 #[.agg z.cells] w fun e w' => (∃ b : Bool, e = .returned (.bool b) ∧ (b = true → z.Good)) ∧ Below w.heap.size w w' := by
 obtain ⟨k, b, hk, hb⟩ := good_f z.l0 z.l1 z.l2 z.l3
 exact (spec_GoodZone.calls k z.A0 z.c0 z.l0 z.A1 z.c1 z.l1 z.A2 z.c2 z.l2 z.A3 z.c3 z.l3 b w hm.h0 hm.k0 hm.h1 hm.k1 hm.h2 hm.k2 hm.h3 hm.k3 hk).mono fun _ _ h => ⟨⟨b, h.1, hb⟩, h.2⟩
def ZA.Plain (z : ZA) : Prop := (z.l0.length = 0 ∧ z.l1.length = 0 ∧ z.l2.length = 0 ∧ z.l3.length = 0) ∨ (GoodL z.l0 z.l1 z.l2 z.l3 ∧ PlainL z.l0 z.l2 z.l3 ∧ ∀ u c, nxL z.l2 u = some c → c ≤ 253722300799)
theorem plainZ_any (z : ZA) (hg : z.Good) (w : World) (hm : z.Mem w) : Calls Try.prog 7 #[.agg z.cells] w fun e w' => (∃ b : Bool, e = .returned (.bool b) ∧ (b = true → z.Plain)) ∧ Below w.heap.size w w' := by
 obtain ⟨k, b, hk, hb⟩ : ∃ k b, spec_CronPlainZone.f k z.l0 z.l1 z.l2 z.l3 = some b ∧ (b = true → z.Plain) := by
  rcases hg with h | h
  ·refine ⟨2, true, ?_, fun _ => .inl h⟩
   obtain ⟨e0, e1, e2, e3⟩ := h
   rw [List.length_eq_zero_iff.1 e0, List.length_eq_zero_iff.1 e1, List.length_eq_zero_iff.1 e2, List.length_eq_zero_iff.1 e3]
   simp [spec_CronPlainZone.f, spec_CronPlainZone.l0, spec_CronPlainZone.l1]
  ·obtain ⟨k, b, h1, h2⟩ := plain_f h
   exact ⟨k, b, h1, fun hb => .inr ⟨h, h2 hb⟩⟩
 exact (spec_CronPlainZone.calls k z.A0 z.c0 z.l0 z.A1 z.c1 z.l1 z.A2 z.c2 z.l2 z.A3 z.c3 z.l3 b w hm.h0 hm.k0 hm.h1 hm.k1 hm.h2 hm.k2 hm.h3 hm.k3 hk).mono fun _ _ h => ⟨⟨b, h.1, hb⟩, h.2⟩
theorem arg_int {w : World} {A : Option Addr} {l : List Int} (h : Kd.C (Kd.int .i64) w A l.length l) (hn : 1 ≤ l.length) : ∃ a, A = some a := by
 obtain ⟨a, e, -⟩ := Kd.at_int h 0 (by omega) (by omega)
 exact ⟨a, e⟩
theorem arg_bool {w : World} {A : Option Addr} {l : List Bool} (h : Kd.C Kd.bool w A l.length l) (hn : 1 ≤ l.length) : ∃ a, A = some a := by
 obtain ⟨a, e, -⟩ := Kd.at_bool h 0 (by omega) (by omega)
 exact ⟨a, e⟩
theorem at_int' {w : World} {a : Addr} {l : List Int} (h : Kd.C (Kd.int .i64) w (some a) l.length l) (i : Nat) (hi : i < l.length) : w.cell? (a.add i) = some (.int .i64 (l.getD i 0)) := by
 obtain ⟨b, e, hc⟩ := Kd.at_int h (i : Int) (by omega) (by omega)
 injection e with e
 subst e
 rw [rd_nat] at hc
 exact hc
theorem at_bool' {w : World} {a : Addr} {l : List Bool} (h : Kd.C Kd.bool w (some a) l.length l) (i : Nat) (hi : i < l.length) : w.cell? (a.add i) = some (.bool (l.getD i false)) := by
 obtain ⟨b, e, hc⟩ := Kd.at_bool h (i : Int) (by omega) (by omega)
 injection e with e
 subst e
 exact hc
theorem zone_list (z : ZA) (w : World) (hm : z.Mem w) (G : GoodL z.l0 z.l1 z.l2 z.l3) : ∃ Zi : World → Prop, ZoneZ (.agg z.cells) (offL z.l0 z.l2 z.l3) Zi ∧ ∀ w', z.Mem w' → Zi w' := by
 obtain ⟨A0, A1, A2, A3, c0, c1, c2, c3, l0, l1, l2, l3⟩ := z
 obtain ⟨h0, -, h1, -, h2, -, h3, -⟩ := hm
 dsimp only at *
 have n1 := G.n1
 have m1 := G.m1
 have dl := G.dl
 have il := G.il
 obtain ⟨a, rfl⟩ := arg_int h0 n1
 obtain ⟨b, rfl⟩ := arg_bool h1 (by omega)
 obtain ⟨c, rfl⟩ := arg_int h2 m1
 obtain ⟨d, rfl⟩ := arg_int h3 (by omega)
 refine ⟨ZArg l0 l1 l2 l3 a b c d, ?_, fun w' hm' => ?_⟩
 ·show ZoneZ (.agg #[.slice (some a) l0.length c0, .slice (some b) l1.length c1, .slice (some c) l2.length c2, .slice (some d) l3.length c3]) (offL l0 l2 l3) _
  rw [dl, il]
  exact zoneZ_list G a b c d c0 c1 c2 c3
 ·exact ⟨fun i hi => at_int' hm'.h0 i hi, fun i hi => at_bool' hm'.h1 i (by show i < l1.length; omega), fun i hi => at_int' hm'.h2 i hi, fun i hi => at_int' hm'.h3 i (by show i < l3.length; omega)⟩
theorem zone_none (z : ZA) (hg : z.l0.length = 0 ∧ z.l1.length = 0 ∧ z.l2.length = 0 ∧ z.l3.length = 0) : ZoneZ (.agg z.cells) (fun _ => 0) (fun _ => True) := by
 unfold ZA.cells
 rw [hg.1]
 exact zoneZ_utc _ _ _ _ _ _ _ _ _ _ _
theorem zone_of (z : ZA) (w : World) (hm : z.Mem w) (hg : z.Good) : ∃ (off : Int → Int) (Zi : World → Prop), ZoneZ (.agg z.cells) off Zi ∧ ∀ w', z.Mem w' → Zi w' := by
 rcases hg with h | h
 ·exact ⟨_, _, zone_none z h, fun _ _ => trivial⟩
 ·obtain ⟨Zi, h1, h2⟩ := zone_list z w hm h
  exact ⟨_, Zi, h1, h2⟩
theorem own_of (z : ZA) (w : World) (hm : z.Mem w) (hg : z.Plain) : ∃ (off : Int → Int) (nx : Int → Option Int) (Zi : World → Prop), ZoneZ (.agg z.cells) off Zi ∧ (∀ w', z.Mem w' → Zi w') ∧ SpecZ (.agg z.cells) off nx z.Mem := by
 rcases hg with h | ⟨G, P, ht⟩
 ·refine ⟨_, fun _ => none, _, zone_none z h, fun _ _ => trivial, fun h hb => h.below hb, zn_const 0 (by omega) (by omega) (by omega), fun u w hu hm => ?_, fun u w hu hm => ?_, fun _ _ _ => rfl, (fun h => by cases h), (fun h => by cases h)⟩
  ·refine spec_CronOffset.calls 1 z.A0 z.c0 z.l0 z.A1 z.c1 z.l1 z.A2 z.c2 z.l2 z.A3 z.c3 z.l3 u 0 w hm.h0 hm.k0 hm.h1 hm.k1 hm.h2 hm.k2 hm.h3 hm.k3 ?_
   simp [spec_CronOffset.f, spec_CronOffset.l0, h.2.2.1]
  ·refine spec_CronChange.calls 1 z.A0 z.c0 z.l0 z.A1 z.c1 z.l1 z.A2 z.c2 z.l2 z.A3 z.c3 z.l3 u 0 false w hm.h0 hm.k0 hm.h1 hm.k1 hm.h2 hm.k2 hm.h3 hm.k3 ?_
   simp [spec_CronChange.f, spec_CronChange.l0, h.2.2.1]
 ·obtain ⟨Zi, h1, h2⟩ := zone_list z w hm G
  refine ⟨_, nxL z.l2, Zi, h1, h2, fun h hb => h.below hb, zn_of G P, fun u w hu hm => ?_, fun u w hu hm => ?_, fun hu h hc => nx_stay G hu h hc, fun h => nx_gt G h, fun h => ht _ _ h⟩
  ·obtain ⟨k, hk⟩ := offset_f G u hu
   exact spec_CronOffset.calls k z.A0 z.c0 z.l0 z.A1 z.c1 z.l1 z.A2 z.c2 z.l2 z.A3 z.c3 z.l3 u _ w hm.h0 hm.k0 hm.h1 hm.k1 hm.h2 hm.k2 hm.h3 hm.k3 hk
  ·obtain ⟨k, hk⟩ := change_f G u hu
   exact spec_CronChange.calls k z.A0 z.c0 z.l0 z.A1 z.c1 z.l1 z.A2 z.c2 z.l2 z.A3 z.c3 z.l3 u _ _ w hm.h0 hm.k0 hm.h1 hm.k1 hm.h2 hm.k2 hm.h3 hm.k3 hk
theorem exists_first (P : Nat → Prop) : ∀ n, P n → ∃ n, P n ∧ ∀ m, m < n → ¬ P m := by
 intro n
 induction n using Nat.strongRecOn with
 | _ n ih =>
  intro hn
  by_cases h : ∃ m, m < n ∧ P m
  ·obtain ⟨m, hm, hp⟩ := h
   exact ih m hm hp
  ·exact ⟨n, hn, fun m hm hp => h ⟨m, hm, hp⟩⟩
theorem leastZ_exists {off : Int → Int} (Z : Zn off) (S : Sets) (f lim : Int) : ∃ r, LeastZ off S f lim r := by
 by_cases h : ∃ x, f ≤ x ∧ yearL (zt off x) ≤ lim ∧ Fits S (zt off x)
 ·obtain ⟨x, h1, h2, h3⟩ := h
  obtain ⟨n, ⟨hn, hy⟩, hm⟩ := exists_first (fun n : Nat => Fits S (zt off (f + n)) ∧ yearL (zt off (f + n)) ≤ lim) (x - f).toNat (by rw [show f + ((x - f).toNat : Int) = x by omega]; exact ⟨h3, h2⟩)
  refine ⟨some (f + n), by omega, hn, fun z z1 z2 hz => hm (z - f).toNat (by omega) ?_, hy⟩
  rw [show f + ((z - f).toNat : Int) = z by omega]
  exact ⟨hz, by have := yearZ_mono Z (u := z) (v := f + n) (by omega); omega⟩
 ·exact ⟨none, fun x h1 h2 h3 => h ⟨x, h1, h2, h3⟩⟩
def goodB (sec nano : Int) : Bool := decide (-62135596800 ≤ sec ∧ sec ≤ 253402300799 ∧ 0 ≤ nano ∧ nano < 1000000000)
theorem goodB_iff {sec nano : Int} : goodB sec nano = true ↔ (-62135596800 ≤ sec ∧ sec ≤ 253402300799 ∧ 0 ≤ nano ∧ nano < 1000000000) := by unfold goodB; exact decide_eq_true_iff
theorem goodI_f (sec nano : Int) : spec_CronGood.f sec nano = some (goodB sec nano) := by
 unfold spec_CronGood.f goodB
 by_cases h1 : -62135596800 ≤ sec <;> by_cases h2 : sec ≤ 253402300799 <;> by_cases h3 : 0 ≤ nano <;> simp [h1, h2, h3]
def schedC (ev : Bool) (d : Int) (S : Sets) : Array Value := #[.bool ev, .int .i64 d, .int .u64 (S.sec : Int), .int .u64 (S.min : Int), .int .u64 (S.hour : Int), .int .u64 (S.dom : Int), .int .u64 (S.month : Int), .int .u64 (S.dow : Int)]
theorem case_any (ev : Bool) (d : Int) (S : Sets) (sec nano : Int) (w : World) : Calls Try.prog 5 #[.agg (schedC ev d S), .agg #[.int .i64 sec, .int .i64 nano]] w fun e w' => e = .returned (.bool (!ev && goodB sec nano)) ∧ Below w.heap.size w w' := by
 refine laws_cronCase.calls ev d S.sec S.min S.hour S.dom S.month S.dow sec nano _ w ?_
 unfold laws_cronCase.f
 cases ev
 ·simp [goodI_f]
 ·simp
theorem row_keep {w w' : World} {g : Nat} {o : Obj} (h : w.heap[g]? = some o) (hb : Below w.heap.size w w') : w'.heap[g]? = some o := (hb.block g (Array.getElem?_eq_some_iff.1 h).1).trans h
theorem row_new {w : World} {g : Nat} {o x : Obj} (h : w.heap[g]? = some o) : (w.alloc x).heap[g]? = some o := row_keep h ((Below.refl _ _).alloc (Nat.le_refl _) _)
theorem row_lt {w : World} {g : Nat} {o : Obj} (h : w.heap[g]? = some o) : g < w.heap.size := (Array.getElem?_eq_some_iff.1 h).1
def instZ : Array Value := #[.int .i64 0, .int .i64 0]
def InstRow (w : World) (g : Nat) : Prop := w.heap[g]? = some (.cells instZ 31 (0, 0))
theorem InstRow.below {w w' : World} {g : Nat} (h : InstRow w g) (hb : Below w.heap.size w w') : InstRow w' g := (hb.block g (Array.getElem?_eq_some_iff.1 h).1).trans h
theorem instRow_of {B : Nat} {wo W : World} (h : Below B wo W) : InstRow (W.alloc (.cells instZ 31 (0, 0))) W.heap.size := heap_alloc_new W _
theorem run_alloc_inst (w : World) : (Instr.alloc 31 true (.tuple #[])).run Try.prog w = .ok (.pointer (some ⟨w.heap.size, 0, none⟩)) (w.alloc (.cells instZ 31 (0, 0))) := by kernel_rfl
theorem exec_alloc_inst (ev : Operand → Value) (oi : Oper) (w : World) (ho : oi.op = .alloc 31) :
  (execOp ev oi).run Try.prog w = .ok (.value (.pointer (some ⟨w.heap.size, 0, none⟩))) (w.alloc (.cells instZ 31 (0, 0))) := by
 have := run_alloc_inst w
 unfold execOp
 rw [ho]
 simp only [Sem.run_bind, Sem.run_pure, Result.andThen_ok, this]
end Go.Proofs.Ytlopkdhblfibkaa.CronN
namespace Go.Proofs.Ytlopkdhblfibkaa.RowArgs
open Go Go.Proofs.Ytlopkdhblfibkaa Go.ChangeShapes Go.WideShapes Go.ChangeAt Go.RowKit Go.Deep Go.Proofs.Ytlopkdhblfibkaa.Cal Go.Proofs.Ytlopkdhblfibkaa.CronN
set_option linter.unusedVariables false
theorem own : ownKnob Try.prog.godebug = none := by kernel_rfl
theorem laidOut : laidOutB Try.prog = true := by kernel_rfl
theorem cells_sched : Try.prog.cellsOf 24 = 8 := by kernel_rfl
theorem cells_inst : Try.prog.cellsOf 31 = 2 := by kernel_rfl
theorem okWide_size {P : Program} {w : World} {r : Reach} {base : Nat} {t : TypeId} {v : Value} {fs : Array Field} {n : Nat} (ht : P.underlying t = some (.struct fs)) (hC : P.cellsOf t = n) (h : Value.okWide P w r base t v) : ∃ cs : Array Value, v = .agg cs ∧ cs.size = n := by
 obtain ⟨cs, h1, h2⟩ := okWide_struct ht h
 exact ⟨cs, h1, h2.trans hC⟩
theorem u64_of {n : Int} (h : (Lit.int .u64 n).wf = true) : 0 ≤ n ∧ n < 18446744073709551616 := by
 simp [Lit.wf] at h
 have h1 : IntKind.u64.min = 0 := by decide
 have h2 : IntKind.u64.max = 18446744073709551615 := by decide
 omega
theorem one_field {P : Program} {fs : Array Field} (hone : oneCellFields P fs = true) (cs : List Value) (j : Nat) (f : Field) (hj : fs[j]? = some f) (v : Value) (hv : cs[j]? = some v) : (cs.drop f.offset).take (P.cellsOf f.type) = [v] := by
 obtain ⟨ho, hk⟩ := hone_of hone j f hj
 rw [ho, hk]
 have hl : j < cs.length := (List.getElem?_eq_some_iff.1 hv).1
 rw [List.drop_eq_getElem_cons hl]
 simp [(List.getElem?_eq_some_iff.1 hv).2]
theorem at_field {H : Type} {enc : TypeId × Value → H} {P : Program} {w : World} {base n : Nat} {spare : Nat → Bool} {held : Bool} {t : TypeId} {fs : Array Field} {cs : List Value} {xs : List (DataW H × List MemPlace)} (hs : P.underlying t = some (.struct fs)) (hone : oneCellFields P fs = true)
  (hg : ∀ (j : Nat) (f : Field), fs[j]? = some f → DataW.trod enc P w base spare held n f.type ((cs.drop f.offset).take (P.cellsOf f.type)) = xs[j]?) (j : Nat) (f : Field) (v : Value) (hj : fs[j]? = some f) (hv : cs[j]? = some v) :
  DataW.trod enc P w base spare held n f.type [v] = xs[j]? := by
 have := hg j f hj
 rw [one_field hone cs j f hj v hv] at this
 exact this
set_option maxRecDepth 100000 in
theorem open_inst {H : Type} {enc : TypeId × Value → H} {w W : World} {spare : Nat → Bool} {held : Bool} {base b2 : Nat} {r : Reach} {v : Value} {d : DataW H} {p : List MemPlace} (hv : Value.okWide Try.prog W r b2 31 v)
  (h : DataW.Trod enc Try.prog w base spare held 31 v d p) : ∃ sec nano : Int, v = .agg #[.int .i64 sec, .int .i64 nano] := by
 obtain ⟨cs, rfl, hsz⟩ := okWide_size Try.underlying31 cells_inst hv
 obtain ⟨l⟩ := cs
 match l, hsz with
 | [c0, c1], _ =>
  obtain ⟨fuel, hf⟩ := h
  obtain ⟨xs, n, _, hx, _, hlen, hg⟩ := DataW.trod_struct Try.underlying31 hf
  have g0 := at_field Try.underlying31 (by kernel_rfl) hg 0 _ c0 rfl rfl
  have g1 := at_field Try.underlying31 (by kernel_rfl) hg 1 _ c1 rfl rfl
  match xs, hlen with
  | [y0, y1], _ =>
   obtain ⟨a0, e0, -⟩ := DataW.trod_int Try.underlying2 (g0.trans rfl)
   obtain ⟨a1, e1, -⟩ := DataW.trod_int Try.underlying3 (g1.trans rfl)
   simp only [List.cons.injEq, and_true] at e0 e1
   subst e0 e1
   exact ⟨a0, a1, rfl⟩
set_option maxRecDepth 100000 in
theorem open_sched {H : Type} {enc : TypeId × Value → H} {w W : World} {spare : Nat → Bool} {held : Bool} {base b2 : Nat} {r : Reach} {v : Value} {d : DataW H} {p : List MemPlace} (hv : Value.okWide Try.prog W r b2 24 v)
  (h : DataW.Trod enc Try.prog w base spare held 24 v d p) : ∃ (ev : Bool) (dl : Int) (S : Sets), S.ok ∧ v = .agg (schedC ev dl S) := by
 obtain ⟨cs, rfl, hsz⟩ := okWide_size Try.underlying24 cells_sched hv
 obtain ⟨l⟩ := cs
 match l, hsz with
 | [c0, c1, c2, c3, c4, c5, c6, c7], _ =>
  obtain ⟨fuel, hf⟩ := h
  obtain ⟨xs, n, _, hx, _, hlen, hg⟩ := DataW.trod_struct Try.underlying24 hf
  have g0 := at_field Try.underlying24 (by kernel_rfl) hg 0 _ c0 rfl rfl
  have g1 := at_field Try.underlying24 (by kernel_rfl) hg 1 _ c1 rfl rfl
  have g2 := at_field Try.underlying24 (by kernel_rfl) hg 2 _ c2 rfl rfl
  have g3 := at_field Try.underlying24 (by kernel_rfl) hg 3 _ c3 rfl rfl
  have g4 := at_field Try.underlying24 (by kernel_rfl) hg 4 _ c4 rfl rfl
  have g5 := at_field Try.underlying24 (by kernel_rfl) hg 5 _ c5 rfl rfl
  have g6 := at_field Try.underlying24 (by kernel_rfl) hg 6 _ c6 rfl rfl
  have g7 := at_field Try.underlying24 (by kernel_rfl) hg 7 _ c7 rfl rfl
  match xs, hlen with
  | [y0, y1, y2, y3, y4, y5, y6, y7], _ =>
   obtain ⟨a0, e0, -⟩ := DataW.trod_bool Try.underlying4 (g0.trans rfl)
   obtain ⟨a1, e1, -⟩ := DataW.trod_int Try.underlying2 (g1.trans rfl)
   obtain ⟨a2, e2, -, k2⟩ := DataW.trod_int Try.underlying22 (g2.trans rfl)
   obtain ⟨a3, e3, -, k3⟩ := DataW.trod_int Try.underlying22 (g3.trans rfl)
   obtain ⟨a4, e4, -, k4⟩ := DataW.trod_int Try.underlying22 (g4.trans rfl)
   obtain ⟨a5, e5, -, k5⟩ := DataW.trod_int Try.underlying22 (g5.trans rfl)
   obtain ⟨a6, e6, -, k6⟩ := DataW.trod_int Try.underlying22 (g6.trans rfl)
   obtain ⟨a7, e7, -, k7⟩ := DataW.trod_int Try.underlying22 (g7.trans rfl)
   simp only [List.cons.injEq, and_true] at e0 e1 e2 e3 e4 e5 e6 e7
   subst e0 e1 e2 e3 e4 e5 e6 e7
   have k2 := u64_of k2
   have k3 := u64_of k3
   have k4 := u64_of k4
   have k5 := u64_of k5
   have k6 := u64_of k6
   have k7 := u64_of k7
   refine ⟨a0, a1, ⟨a2.toNat, a3.toNat, a4.toNat, a5.toNat, a6.toNat, a7.toNat⟩, ⟨by show a2.toNat < _; omega, by show a3.toNat < _; omega, by show a4.toNat < _; omega, by show a5.toNat < _; omega, by show a6.toNat < _; omega, by show a7.toNat < _; omega⟩, ?_⟩
   unfold schedC
   rw [Int.toNat_of_nonneg k2.1, Int.toNat_of_nonneg k3.1, Int.toNat_of_nonneg k4.1, Int.toNat_of_nonneg k5.1, Int.toNat_of_nonneg k6.1, Int.toNat_of_nonneg k7.1]
end Go.Proofs.Ytlopkdhblfibkaa.RowArgs
namespace Go.Proofs.Ytlopkdhblfibkaa.RowArgs
open Go Go.Proofs.Ytlopkdhblfibkaa Go.ChangeShapes Go.WideShapes Go.ChangeAt Go.RowKit Go.Deep Go.Proofs.Ytlopkdhblfibkaa.Cal Go.Proofs.Ytlopkdhblfibkaa.CronN Go.Proofs.YtlopkdhblfibkaaW.PrintWords
set_option linter.unusedVariables false
theorem cells_zone : Try.prog.cellsOf 29 = 4 := by kernel_rfl
theorem cells_int : Try.prog.cellsOf 3 = 1 := by kernel_rfl
theorem cells_i64 : Try.prog.cellsOf 2 = 1 := by kernel_rfl
theorem cells_bool : Try.prog.cellsOf 4 = 1 := by kernel_rfl
theorem c_ints {w : World} {a : Addr} {len : Nat} {zs : List Int} (hl : len ≤ zs.length) (hm : len ≤ 9223372036854775807) (hc : ∀ i, i < zs.length → w.cell? (a.add i) = some (.int .i64 (zs.getD i 0))) : Kd.C (Kd.int .i64) w (some a) (zs.take len).length (zs.take len) :=
 ⟨rfl, by rw [List.length_take]; omega, fun _ => ⟨a, rfl, fun j p hp => ⟨[.int .i64 p], rfl, rfl, fun i u hu => by
  cases i with
  | succ i => cases hu
  | zero =>
   obtain rfl : u = .int .i64 p := by simpa using hu.symm
   have hj := (List.getElem?_eq_some_iff.1 hp).1
   rw [List.length_take] at hj
   rw [show j * (Kd.int .i64).sz + 0 = j from by show j * 1 + 0 = j; omega, hc j (by omega)]
   rw [List.getElem?_take_of_lt (by omega)] at hp
   rw [List.getD_eq_getElem?_getD, hp]
   rfl⟩⟩⟩
theorem c_bools {w : World} {a : Addr} {len : Nat} {zs : List Bool} (hl : len ≤ zs.length) (hm : len ≤ 9223372036854775807) (hc : ∀ i, i < zs.length → w.cell? (a.add i) = some (.bool (zs.getD i false))) : Kd.C Kd.bool w (some a) (zs.take len).length (zs.take len) :=
 ⟨rfl, by rw [List.length_take]; omega, fun _ => ⟨a, rfl, fun j p hp => ⟨[.bool p], rfl, rfl, fun i u hu => by
  cases i with
  | succ i => cases hu
  | zero =>
   obtain rfl : u = .bool p := by simpa using hu.symm
   have hj := (List.getElem?_eq_some_iff.1 hp).1
   rw [List.length_take] at hj
   rw [show j * Kd.bool.sz + 0 = j from by show j * 1 + 0 = j; omega, hc j (by omega)]
   rw [List.getElem?_take_of_lt (by omega)] at hp
   rw [List.getD_eq_getElem?_getD, hp]
   rfl⟩⟩⟩
theorem row_ints {H : Type} {enc : TypeId × Value → H} {w : World} {spare : Nat → Bool} {held : Bool} {base fuel : Nat} {t e : TypeId} {v : Value} {x : DataW H × List MemPlace} (ht : Try.prog.underlying t = some (.slice e)) (he : Try.prog.underlying e = some (.int .i64)) (hc : Try.prog.cellsOf e = 1)
  (h : DataW.trod enc Try.prog w base spare held fuel t [v] = some x) : ∃ (A : Option Addr) (l : List Int) (cap : Nat), v = .slice A l.length cap ∧ Kd.C (Kd.int .i64) w A l.length l ∧ l.length ≤ cap := by
 rcases open_ints ht he hc h with ⟨hcs, -⟩ | ⟨a, len, cap, zs, hcs, hb, hl, hm, hz, -, hcell, hwf⟩
 ·exact ⟨none, [], 0, (List.cons.inj hcs).1, ⟨rfl, by simp, fun h => by simp at h⟩, by simp⟩
 ·have hlz : len ≤ zs.length := by rw [hz]; split <;> omega
  have hlt : (zs.take len).length = len := by rw [List.length_take]; omega
  exact ⟨some a, zs.take len, cap, by rw [hlt]; exact (List.cons.inj hcs).1, c_ints hlz (by simp only [maxLen] at hm; omega) hcell, by omega⟩
theorem row_bools {H : Type} {enc : TypeId × Value → H} {w : World} {held : Bool} {base fuel : Nat} {t e : TypeId} {v : Value} {x : DataW H × List MemPlace} (ht : Try.prog.underlying t = some (.slice e)) (he : Try.prog.underlying e = some .bool) (hc : Try.prog.cellsOf e = 1)
  (h : DataW.trod enc Try.prog w base (fun _ => true) held fuel t [v] = some x) : ∃ (A : Option Addr) (l : List Bool) (cap : Nat), v = .slice A l.length cap ∧ Kd.C Kd.bool w A l.length l ∧ l.length ≤ cap := by
 rcases open_bools ht he hc h with ⟨hcs, -⟩ | ⟨a, len, cap, B, hcs, hb, hl, hm, -, hcell⟩
 ·exact ⟨none, [], 0, (List.cons.inj hcs).1, ⟨rfl, by simp, fun h => by simp at h⟩, by simp⟩
 ·have hlz : len ≤ ((List.range cap).map B).length := by simpa using hl
  have hlt : (((List.range cap).map B).take len).length = len := by rw [List.length_take]; omega
  refine ⟨some a, ((List.range cap).map B).take len, cap, by rw [hlt]; exact (List.cons.inj hcs).1, c_bools hlz (by simp only [maxLen] at hm; omega) (fun i hi => ?_), by omega⟩
  have hi' : i < cap := by simpa using hi
  rw [hcell i hi']
  simp [hi']
set_option maxRecDepth 100000 in
theorem open_zone {H : Type} {enc : TypeId × Value → H} {w W : World} {held : Bool} {base b2 : Nat} {r : Reach} {v : Value} {d : DataW H} {p : List MemPlace} (hv : Value.okWide Try.prog W r b2 29 v)
  (h : DataW.Trod enc Try.prog w base (fun _ => true) held 29 v d p) : ∃ q : ZA, q.Mem w ∧ v = .agg q.cells := by
 obtain ⟨cs, rfl, hsz⟩ := okWide_size Try.underlying29 cells_zone hv
 obtain ⟨l⟩ := cs
 match l, hsz with
 | [v0, v1, v2, v3], _ =>
  obtain ⟨fuel, hf⟩ := h
  obtain ⟨xs, n, _, hx, _, hlen, hg⟩ := DataW.trod_struct Try.underlying29 hf
  have g0 := at_field Try.underlying29 (by kernel_rfl) hg 0 _ v0 rfl rfl
  have g1 := at_field Try.underlying29 (by kernel_rfl) hg 1 _ v1 rfl rfl
  have g2 := at_field Try.underlying29 (by kernel_rfl) hg 2 _ v2 rfl rfl
  have g3 := at_field Try.underlying29 (by kernel_rfl) hg 3 _ v3 rfl rfl
  match xs, hlen with
  | [y0, y1, y2, y3], _ =>
   obtain ⟨A0, l0, c0, rfl, h0, k0⟩ := row_ints Try.underlying25 Try.underlying3 cells_int (g0.trans rfl)
   obtain ⟨A1, l1, c1, rfl, h1, k1⟩ := row_bools Try.underlying26 Try.underlying4 cells_bool (g1.trans rfl)
   obtain ⟨A2, l2, c2, rfl, h2, k2⟩ := row_ints Try.underlying27 Try.underlying2 cells_i64 (g2.trans rfl)
   obtain ⟨A3, l3, c3, rfl, h3, k3⟩ := row_ints Try.underlying25 Try.underlying3 cells_int (g3.trans rfl)
   exact ⟨⟨A0, A1, A2, A3, c0, c1, c2, c3, l0, l1, l2, l3⟩, ⟨h0, k0, h1, k1, h2, k2, h3, k3⟩, rfl⟩
end Go.Proofs.Ytlopkdhblfibkaa.RowArgs
namespace Go.Proofs.Ytlopkdhblfibkaa.CronN
open Go Go.RowKit Go.Proofs.YtlopkdhblfibkaaW.PrintWords Go.Proofs.YtlopkdhblfibkaaW.PrintLast Go.Proofs.Ytlopkdhblfibkaa.Cal Go.Proofs.Ytlopkdhblfibkaa.Pr
set_option linter.unusedVariables false
set_option linter.unusedSimpArgs false
theorem ZA.size (z : ZA) : (Try.prog.info? 29).map (·.size) = some z.cells.size := zoneSize
theorem eqInstE (d : Nat) (w : World) (x0 y0 x1 y1 : Int) :
  (Op.equalIn (d + 2) 31 (.agg #[.int .i64 x0, .int .i64 x1]) (.agg #[.int .i64 y0, .int .i64 y1])).run Try.prog w = .ok (x0 == y0 && (x1 == y1)) w := by
 refine eqA_of Try.underlying31 (by kernel_rfl) ?_
 refine eqf_cons (by rfl) (by go_simp; rfl) (by go_simp; rfl) (by go_simp) ?_
 exact eqf_last (by rfl) (by go_simp; rfl) (by go_simp; rfl) (by go_simp)
theorem eqAns (d : Nat) (w : World) (r : Option Int) : (Op.equalIn (d + 2) 31 (.agg (ansI 0 r)) (.agg (ansI 0 r))).run Try.prog w = .ok true w := by
 cases r with
 | none => show (Op.equalIn (d + 2) 31 (.agg #[.int .i64 0, .int .i64 0]) (.agg #[.int .i64 0, .int .i64 0])).run Try.prog w = _; rw [eqInstE]; simp
 | some L => show (Op.equalIn (d + 2) 31 (.agg #[.int .i64 (L - 0), .int .i64 0]) (.agg #[.int .i64 (L - 0), .int .i64 0])).run Try.prog w = _; rw [eqInstE]; simp
attribute [local go_sem high] eqAns
set_option maxRecDepth 100000 in
set_option maxHeartbeats 8000000 in
theorem lawNextIn_any (ev : Bool) (d : Int) (S : Sets) (hS : S.ok) (own : ZA) (sec nano : Int) (z : ZA) (w : World) (hmo : own.Mem w) (hmz : z.Mem w) :
  Calls Try.prog 3 #[.agg (schedC ev d S), .agg own.cells, .agg #[.int .i64 sec, .int .i64 nano], .agg z.cells] w fun e w' => e = .returned (.bool true) ∧ Below w.heap.size w w' := by
 have HFT := Lib.hid (fun (q : ZA) w' hm => fits_any q w' hm)
 have HGZ := Lib.hid (fun (q : ZA) w' hm => goodZ_any q w' hm)
 have HC := Lib.hid (fun w' => case_any ev d S sec nano w')
 have hal := run_alloc_inst
 have HS := Lib.hid hS
 clear hS
 go_enter Try.func3, Try.ntmps3
 go_upto_region 1 with fail
 generalize hW : World.alloc (World.alloc (World.alloc (World.alloc w _) _) _) _ = wo
 have hr0 : wo.heap[w.heap.size]? = some (.cells (schedC ev d S) 24 (0, 0)) := by
  rw [← hW, Below.heap_alloc _ _ _ (by simp; try omega), Below.heap_alloc _ _ _ (by simp; try omega), Below.heap_alloc _ _ _ (by simp; try omega)]
  exact heap_alloc_new w _
 have hr1 : wo.heap[w.heap.size + 1]? = some (.cells own.cells 29 (0, 0)) := by
  rw [← hW, Below.heap_alloc _ _ _ (by simp; try omega), Below.heap_alloc _ _ _ (by simp; try omega)]
  exact at_new _ _ _ (by simp)
 have hr2 : wo.heap[w.heap.size + 1 + 1]? = some (.cells #[.int .i64 sec, .int .i64 nano] 31 (0, 0)) := by
  rw [← hW, Below.heap_alloc _ _ _ (by simp; try omega)]
  exact at_new _ _ _ (by simp)
 have hr3 : wo.heap[w.heap.size + 1 + 1 + 1]? = some (.cells z.cells 29 (0, 0)) := by
  rw [← hW]
  exact at_new _ _ _ (by simp)
 have hB : Below w.heap.size w wo := by
  rw [← hW]
  exact ((((Below.refl _ _).alloc (Nat.le_refl _) _).alloc (by simp) _).alloc (by simp only [World.alloc]; simp; try omega) _).alloc (by simp; try omega) _
 clear hW
 have HMO0 := Lib.hid (hmo.below hB)
 have HMZ0 := Lib.hid (hmz.below hB)
 clear hmo hmz
 have HMO : Hid (∀ w', Below wo.heap.size wo w' → own.Mem w') := Lib.hid (fun w' hb => HMO0.out.below hb)
 have HMZ : Hid (∀ w', Below wo.heap.size wo w' → z.Mem w') := Lib.hid (fun w' hb => HMZ0.out.below hb)
 have HK0 : Hid (∀ w', Below wo.heap.size wo w' → w'.heap[w.heap.size]? = some (.cells (schedC ev d S) 24 (0, 0))) := Lib.hid (fun w' hb => row_keep hr0 hb)
 have HK1 : Hid (∀ w', Below wo.heap.size wo w' → w'.heap[w.heap.size + 1]? = some (.cells own.cells 29 (0, 0))) := Lib.hid (fun w' hb => row_keep hr1 hb)
 have HK2 : Hid (∀ w', Below wo.heap.size wo w' → w'.heap[w.heap.size + 1 + 1]? = some (.cells #[.int .i64 sec, .int .i64 nano] 31 (0, 0))) := Lib.hid (fun w' hb => row_keep hr2 hb)
 have HK3 : Hid (∀ w', Below wo.heap.size wo w' → w'.heap[w.heap.size + 1 + 1 + 1]? = some (.cells z.cells 29 (0, 0))) := Lib.hid (fun w' hb => row_keep hr3 hb)
 have HB0 := Lib.hid hB
 have HLT := Lib.hid (row_lt hr3)
 clear hr0 hr1 hr2 hr3 hB
 have HR1 := Lib.hid (HK1.out _ (Below.refl _ _))
 go_wp2_with (refine wpList_load_row rfl 29 _ rfl (w.heap.size + 1) rfl _ _ _ _ HR1.out Try.underlying29 rfl own.size ?_)
 refine (HFT.out own _ (HMO.out _ (Below.refl _ _))).mono ?_
 rintro e w1 ⟨⟨b1, rfl⟩, hb1⟩
 have HB1 := Lib.hid hb1
 clear hb1 HR1
 dsimp only
 cases b1 with
 | false =>
  have hB := below_le HB0.out HB1.out
  go_wp2_with fail
  go_ret
  exact ⟨rfl, hB⟩
 | true =>
  have HR3 := Lib.hid (HK3.out _ HB1.out)
  go_wp2_with (refine load_rowG (by rfl) 29 _ rfl (w.heap.size + 1 + 1 + 1) rfl _ _ _ _ HR3.out Try.underlying29 rfl z.size ?_)
  refine (HFT.out z _ (HMZ.out _ HB1.out)).mono ?_
  rintro e w2 ⟨⟨b2, rfl⟩, hb2⟩
  have HB2 := Lib.hid (below_le HB1.out hb2)
  clear hb2 HR3 HB1
  dsimp only
  cases b2 with
  | false =>
   have hB := below_le HB0.out HB2.out
   go_wp2_with fail
   go_ret
   exact ⟨rfl, hB⟩
  | true =>
   have HR0 := Lib.hid (HK0.out _ HB2.out)
   have HR2 := Lib.hid (HK2.out _ HB2.out)
   go_wp2_with (first | (refine wpList_load_row rfl 24 _ rfl w.heap.size rfl _ _ _ _ HR0.out Try.underlying24 rfl schedSize ?_) | (refine wpList_load_row rfl 31 _ rfl (w.heap.size + 1 + 1) rfl _ _ _ _ HR2.out Try.underlying31 rfl instSize ?_))
   refine (HC.out _).mono ?_
   rintro e w3 ⟨rfl, hb3⟩
   have HB3 := Lib.hid (below_le HB2.out hb3)
   clear hb3 HR0 HR2 HB2
   dsimp only
   cases hcc : (!ev && goodB sec nano) with
   | false =>
    have hB := below_le HB0.out HB3.out
    go_wp2_with fail
    go_ret
    exact ⟨rfl, hB⟩
   | true =>
    have hev : ev = false := by cases ev <;> simp_all
    subst hev
    have hg : goodB sec nano = true := by simpa using hcc
    obtain ⟨g1, g2, g3, g4⟩ := goodB_iff.1 hg
    clear hcc hg
    have HR1 := Lib.hid (HK1.out _ HB3.out)
    go_wp2_with (refine load_rowG (by rfl) 29 _ rfl (w.heap.size + 1) rfl _ _ _ _ HR1.out Try.underlying29 rfl own.size ?_)
    refine (HGZ.out own _ (HMO.out _ HB3.out)).mono ?_
    rintro e w4 ⟨⟨b4, rfl, hgo⟩, hb4⟩
    have HB4 := Lib.hid (below_le HB3.out hb4)
    have HGO := Lib.hid hgo
    clear hb4 HR1 HB3 hgo
    dsimp only
    cases b4 with
    | false =>
     have hB := below_le HB0.out HB4.out
     go_wp2_with fail
     go_ret
     exact ⟨rfl, hB⟩
    | true =>
     have HR1 := Lib.hid (HK1.out _ HB4.out)
     have HPL := Lib.hid (fun w' hm => plainZ_any own (HGO.out rfl) w' hm)
     go_wp2_with (refine load_rowG (by rfl) 29 _ rfl (w.heap.size + 1) rfl _ _ _ _ HR1.out Try.underlying29 rfl own.size ?_)
     refine (HPL.out _ (HMO.out _ HB4.out)).mono ?_
     rintro e w5 ⟨⟨b5, rfl, hpo⟩, hb5⟩
     have HB5 := Lib.hid (below_le HB4.out hb5)
     have HPO := Lib.hid hpo
     clear hb5 HR1 HB4 hpo HPL HGO
     dsimp only
     cases b5 with
     | false =>
      have hB := below_le HB0.out HB5.out
      go_wp2_with fail
      go_ret
      exact ⟨rfl, hB⟩
     | true =>
      have HR3 := Lib.hid (HK3.out _ HB5.out)
      have HPP := Lib.hid (HPO.out rfl)
      clear HPO
      go_wp2_with (refine load_rowG (by rfl) 29 _ rfl (w.heap.size + 1 + 1 + 1) rfl _ _ _ _ HR3.out Try.underlying29 rfl z.size ?_)
      refine (HGZ.out z _ (HMZ.out _ HB5.out)).mono ?_
      rintro e w6 ⟨⟨b6, rfl, hgz⟩, hb6⟩
      have HB6 := Lib.hid (below_le HB5.out hb6)
      have HGZ' := Lib.hid hgz
      clear hb6 HR3 HB5 hgz
      dsimp only
      cases b6 with
      | false =>
       have hB := below_le HB0.out HB6.out
       go_wp2_with fail
       go_ret
       exact ⟨rfl, hB⟩
      | true =>
       obtain ⟨off, nx, Zo, hzo, hmo, hsp⟩ := own_of own _ (HMO.out _ (Below.refl _ _)) HPP.out
       obtain ⟨off0, Zi, hzi, hmz⟩ := zone_of z _ (HMZ.out _ (Below.refl _ _)) (HGZ'.out rfl)
       obtain ⟨r, hr⟩ := leastZ_exists hsp.zn S (sec + 1) (yearL (zt off (sec + 1)) + 5)
       have HFO := Lib.hid (fun w' => fieldsOf_any d S HS.out w')
       have HCN : Hid (∀ w', own.Mem w' → Calls Try.prog 8 #[.agg (fieldsC S), .agg #[.int .i64 sec, .int .i64 nano], .agg own.cells] w' fun e w2 => e = .returned (.tuple #[.agg (ansI 0 r), .bool r.isSome]) ∧ Below w'.heap.size w' w2) := Lib.hid (fun w' hm => by
        refine (cronNext_z _ _ _ _ off nx own.Mem hsp S sec nano g1 g2 w' hm).mono ?_
        rintro e w2 ⟨⟨r', hr', rfl⟩, hb⟩
        rw [leastZ_unique hr' hr]
        exact ⟨rfl, hb⟩)
       have HNI : Hid (∀ w', own.Mem w' → z.Mem w' → Calls Try.prog 10 #[.agg (setsCells d S), .agg own.cells, .agg #[.int .i64 sec, .int .i64 nano], .agg z.cells] w' fun e w2 => e = .returned (.tuple #[.agg (ansI 0 r), .bool r.isSome]) ∧ Below w'.heap.size w' w2) := Lib.hid (fun w' hm1 hm2 => by
        refine (nextIn_any _ _ _ _ _ _ _ _ off off0 Zo Zi hsp.zn hzo hzi d S HS.out sec nano g1 g2 g3 g4 w' (hmo w' hm1) (hmz w' hm2)).mono ?_
        rintro e w2 ⟨r', hr', rfl, hb⟩
        rw [leastZ_unique hr' hr]
        exact ⟨rfl, hb⟩)
       clear hzo hmo hsp hzi hmz hr HPP HGZ' HGZ HFT HC g1 g2 g3 g4 HMO0 HMZ0
       go_upto_region 5 with fail
       have HBW := Lib.hid (below_le HB0.out HB6.out)
       have hr0 := HK0.out _ HB6.out
       have hr1 := HK1.out _ HB6.out
       have hr2 := HK2.out _ HB6.out
       have hr3 := HK3.out _ HB6.out
       have HMO' : Hid (∀ w', Below w6.heap.size w6 w' → own.Mem w') := Lib.hid (fun w' hb => HMO.out _ (below_le HB6.out hb))
       have HMZ' : Hid (∀ w', Below w6.heap.size w6 w' → z.Mem w') := Lib.hid (fun w' hb => HMZ.out _ (below_le HB6.out hb))
       have HLT6 := Lib.hid (row_lt hr3)
       clear HMO HMZ HK0 HK1 HK2 HK3 HB0 HB6 HLT
       have HMO := HMO'
       have HMZ := HMZ'
       clear HMO' HMZ'
       clear wo
       obtain ⟨wo, hwo⟩ : ∃ wo : World, wo = w6 := ⟨_, rfl⟩
       subst hwo
       have e0 : schedC false d S = setsCells d S := rfl
       rw [e0] at hr0
       refine start_ (n := 11) (S := fun w' => w'.heap[w.heap.size]? = some (.cells (setsCells d S) 24 (0, 0)) ∧ w'.heap[w.heap.size + 1]? = some (.cells own.cells 29 (0, 0)) ∧ w'.heap[w.heap.size + 1 + 1]? = some (.cells #[.int .i64 sec, .int .i64 nano] 31 (0, 0)) ∧ w'.heap[w.heap.size + 1 + 1 + 1]? = some (.cells z.cells 29 (0, 0)) ∧ Below wo.heap.size wo w') (ds := [9]) #[false, false, false, false, false, false, false, false, false, false, false] (by kernel_rfl) rfl rfl ⟨hr0, hr1, hr2, hr3, (Below.refl _ _).drew⟩ (fun hHeld => ?_)
       refine take_ (i := 0) (N := some 41) (v := ?_) (a' := ?_) #[true, false, false, false, false, false, false, false, false, false, false] rfl rfl (by kernel_rfl) (fun _ _ _ h => h) (Or.inl ⟨by rfl, ?_⟩) hHeld ?_ ?_
       rotate_left
       ·rintro w' ⟨s0, s1, s2, s3, s4⟩
        refine exec_load_row _ _ w' 24 (.tmp 4) ?_ (w.heap.size) ?_ _ _ _ _ s0 Try.underlying24 rfl schedSize
        ·rfl
        ·rfl
       rotate_left
       ·simp only [Act.put, List.setIfInBounds_toArray, List.set_cons_zero, List.set_cons_succ, i64_w, i32_w]
        rfl
       refine take_ (i := 2) (N := some 43) (v := ?_) (a' := ?_) #[true, false, true, false, false, false, false, false, false, false, false] rfl rfl (by kernel_rfl) (fun _ _ _ h => h) (Or.inl ⟨by rfl, ?_⟩) hHeld ?_ ?_
       rotate_left
       ·rintro w' ⟨s0, s1, s2, s3, s4⟩
        refine exec_load_row _ _ w' 31 (.tmp 6) ?_ (w.heap.size + 1 + 1) ?_ _ _ _ _ s2 Try.underlying31 rfl instSize
        ·rfl
        ·rfl
       rotate_left
       ·simp only [Act.put, List.setIfInBounds_toArray, List.set_cons_zero, List.set_cons_succ, i64_w, i32_w]
        rfl
       refine take_ (i := 3) (N := some 44) (v := ?_) (a' := ?_) #[true, false, true, true, false, false, false, false, false, false, false] rfl rfl (by kernel_rfl) (fun _ _ _ h => h) (Or.inl ⟨by rfl, ?_⟩) hHeld ?_ ?_
       rotate_left
       ·rintro w' ⟨s0, s1, s2, s3, s4⟩
        refine exec_load_row _ _ w' 29 (.tmp 5) ?_ (w.heap.size + 1) ?_ _ _ _ _ s1 Try.underlying29 rfl own.size
        ·rfl
        ·rfl
       rotate_left
       ·simp only [Act.put, List.setIfInBounds_toArray, List.set_cons_zero, List.set_cons_succ, i64_w, i32_w]
        rfl
       refine join_ (σ := Nat) 2 #[true, true, true, true, true, true, true, true, true, false, false] (fun s => [(42, .agg (fieldsC S)), (45, .tuple #[.agg (ansI 0 r), .bool r.isSome]), (40, .tuple #[.agg (ansI 0 r), .bool r.isSome]), (46, .agg (ansI 0 r)), (47, .bool r.isSome), (9, .pointer (some ⟨s, 0, none⟩))]) (fun s w' => InstRow w' s ∧ wo.heap.size ≤ s ∧ (w'.heap[w.heap.size]? = some (.cells (setsCells d S) 24 (0, 0)) ∧ w'.heap[w.heap.size + 1]? = some (.cells own.cells 29 (0, 0)) ∧ w'.heap[w.heap.size + 1 + 1]? = some (.cells #[.int .i64 sec, .int .i64 nano] 31 (0, 0)) ∧ w'.heap[w.heap.size + 1 + 1 + 1]? = some (.cells z.cells 29 (0, 0)) ∧ Below wo.heap.size wo w')) ?_ ?_
       rotate_left
       ·intro hCont
        refine two_ (i := 1) (j := 8) (Ni := some 42) (Nj := some 9) #[true, true, true, true, false, false, false, false, false, false, false] #[true, false, true, true, false, false, false, false, true, false, false] rfl rfl rfl rfl (by kernel_rfl) (by decide) (by decide) (fun K hK => ?_) (fun K hK => ?_)
        ·skip
         refine goes_ Try.func9 (by kernel_rfl) rfl #[.agg (setsCells d S)] (by rfl) rfl rfl (by simp only [List.map_toArray, List.map_cons, List.map_nil]; rfl) ?_
         with_reducible refine (HFO.out _).mono ?_
         rintro e w4 ⟨rfl, hb4⟩
         refine ⟨_, rfl, ?_⟩
         refine hK.out _ _ ⟨row_keep hHeld.1 hb4, row_keep hHeld.2.1 hb4, row_keep hHeld.2.2.1 hb4, row_keep hHeld.2.2.2.1 hb4, below_le hHeld.2.2.2.2 hb4⟩ (fun hHeld => ?_)
         clear hK K
         refine norm_ (a' := ?_) ?_ ?_
         rotate_left
         ·show Act.put _ (some 42) _ = _
          simp only [Act.put, List.setIfInBounds_toArray, List.set_cons_zero, List.set_cons_succ, i64_w, i32_w]
          rfl
         refine two_ (i := 4) (j := 8) (Ni := some 45) (Nj := some 9) #[true, true, true, true, true, false, false, false, false, false, false] #[true, true, true, true, false, false, false, false, true, false, false] rfl rfl rfl rfl (by kernel_rfl) (by decide) (by decide) (fun K hK => ?_) (fun K hK => ?_)
         ·skip
          refine goes_ Try.func8 (by kernel_rfl) rfl #[.agg (fieldsC S), .agg #[.int .i64 sec, .int .i64 nano], .agg own.cells] (by rfl) rfl rfl (by simp only [List.map_toArray, List.map_cons, List.map_nil]; rfl) ?_
          with_reducible refine (HCN.out _ (HMO.out _ hHeld.2.2.2.2)).mono ?_
          rintro e w5 ⟨rfl, hb5⟩
          refine ⟨_, rfl, ?_⟩
          refine hK.out _ _ ⟨row_keep hHeld.1 hb5, row_keep hHeld.2.1 hb5, row_keep hHeld.2.2.1 hb5, row_keep hHeld.2.2.2.1 hb5, below_le hHeld.2.2.2.2 hb5⟩ (fun hHeld => ?_)
          clear hK K
          refine norm_ (a' := ?_) ?_ ?_
          rotate_left
          ·show Act.put _ (some 45) _ = _
           simp only [Act.put, List.setIfInBounds_toArray, List.set_cons_zero, List.set_cons_succ, i64_w, i32_w]
           rfl
          refine pure_ (i := 5) (N := some 40) (v := ?_) (a' := ?_) #[true, true, true, true, true, true, false, false, false, false, false] rfl rfl (by kernel_rfl) (fun _ _ _ h => h) (Or.inl ⟨by rfl, ?_⟩) ?_ ?_
          rotate_left
          ·intro w'
           go_simp
           with_reducible rfl
          rotate_left
          ·simp only [Act.put, List.setIfInBounds_toArray, List.set_cons_zero, List.set_cons_succ, i64_w, i32_w]
           rfl
          refine pure_ (i := 6) (N := some 46) (v := ?_) (a' := ?_) #[true, true, true, true, true, true, true, false, false, false, false] rfl rfl (by kernel_rfl) (fun _ _ _ h => h) (Or.inl ⟨by rfl, ?_⟩) ?_ ?_
          rotate_left
          ·intro w'
           go_simp
           with_reducible rfl
          rotate_left
          ·simp only [Act.put, List.setIfInBounds_toArray, List.set_cons_zero, List.set_cons_succ, i64_w, i32_w]
           rfl
          refine pure_ (i := 7) (N := some 47) (v := ?_) (a' := ?_) #[true, true, true, true, true, true, true, true, false, false, false] rfl rfl (by kernel_rfl) (fun _ _ _ h => h) (Or.inl ⟨by rfl, ?_⟩) ?_ ?_
          rotate_left
          ·intro w'
           go_simp
           with_reducible rfl
          rotate_left
          ·simp only [Act.put, List.setIfInBounds_toArray, List.set_cons_zero, List.set_cons_succ, i64_w, i32_w]
           rfl
          refine one_ (i := 8) (N := some 9) #[true, true, true, true, true, true, true, true, true, false, false] rfl rfl (by kernel_rfl) (by decide) (fun K hK => ?_)
          have hge7 := hHeld.2.2.2.2.size
          have hs7 := instRow_of hHeld.2.2.2.2
          refine value_ (by rfl) rfl (exec_alloc_inst _ _ _ rfl) ?_
          refine hK.out _ _ ⟨row_new hHeld.1, row_new hHeld.2.1, row_new hHeld.2.2.1, row_new hHeld.2.2.2.1, hHeld.2.2.2.2.alloc hHeld.2.2.2.2.size _⟩ (fun hHeld => ?_)
          clear hK K
          refine norm_ (a' := ?_) ?_ ?_
          rotate_left
          ·show Act.put _ (some 9) _ = _
           simp only [Act.put, List.setIfInBounds_toArray, List.set_cons_zero, List.set_cons_succ, i64_w, i32_w]
           rfl
          exact norm_ (by simp only [putAll, Act.put, List.setIfInBounds_toArray, List.set_cons_zero, List.set_cons_succ]) (hCont w5.heap.size _ ⟨hs7, hge7, hHeld⟩)
         ·skip
          have hge7 := hHeld.2.2.2.2.size
          have hs7 := instRow_of hHeld.2.2.2.2
          refine value_ (by rfl) rfl (exec_alloc_inst _ _ _ rfl) ?_
          refine hK.out _ _ ⟨row_new hHeld.1, row_new hHeld.2.1, row_new hHeld.2.2.1, row_new hHeld.2.2.2.1, hHeld.2.2.2.2.alloc hHeld.2.2.2.2.size _⟩ (fun hHeld => ?_)
          clear hK K
          refine norm_ (a' := ?_) ?_ ?_
          rotate_left
          ·show Act.put _ (some 9) _ = _
           simp only [Act.put, List.setIfInBounds_toArray, List.set_cons_zero, List.set_cons_succ, i64_w, i32_w]
           rfl
          refine one_ (i := 4) (N := some 45) #[true, true, true, true, true, false, false, false, true, false, false] rfl rfl (by kernel_rfl) (by decide) (fun K hK => ?_)
          refine goes_ Try.func8 (by kernel_rfl) rfl #[.agg (fieldsC S), .agg #[.int .i64 sec, .int .i64 nano], .agg own.cells] (by rfl) rfl rfl (by simp only [List.map_toArray, List.map_cons, List.map_nil]; rfl) ?_
          with_reducible refine (HCN.out _ (HMO.out _ hHeld.2.2.2.2)).mono ?_
          rintro e w5 ⟨rfl, hb5⟩
          refine ⟨_, rfl, ?_⟩
          refine hK.out _ _ ⟨row_keep hHeld.1 hb5, row_keep hHeld.2.1 hb5, row_keep hHeld.2.2.1 hb5, row_keep hHeld.2.2.2.1 hb5, below_le hHeld.2.2.2.2 hb5⟩ (fun hHeld => ?_)
          clear hK K
          refine norm_ (a' := ?_) ?_ ?_
          rotate_left
          ·show Act.put _ (some 45) _ = _
           simp only [Act.put, List.setIfInBounds_toArray, List.set_cons_zero, List.set_cons_succ, i64_w, i32_w]
           rfl
          refine pure_ (i := 5) (N := some 40) (v := ?_) (a' := ?_) #[true, true, true, true, true, true, false, false, true, false, false] rfl rfl (by kernel_rfl) (fun _ _ _ h => h) (Or.inl ⟨by rfl, ?_⟩) ?_ ?_
          rotate_left
          ·intro w'
           go_simp
           with_reducible rfl
          rotate_left
          ·simp only [Act.put, List.setIfInBounds_toArray, List.set_cons_zero, List.set_cons_succ, i64_w, i32_w]
           rfl
          refine pure_ (i := 6) (N := some 46) (v := ?_) (a' := ?_) #[true, true, true, true, true, true, true, false, true, false, false] rfl rfl (by kernel_rfl) (fun _ _ _ h => h) (Or.inl ⟨by rfl, ?_⟩) ?_ ?_
          rotate_left
          ·intro w'
           go_simp
           with_reducible rfl
          rotate_left
          ·simp only [Act.put, List.setIfInBounds_toArray, List.set_cons_zero, List.set_cons_succ, i64_w, i32_w]
           rfl
          refine pure_ (i := 7) (N := some 47) (v := ?_) (a' := ?_) #[true, true, true, true, true, true, true, true, true, false, false] rfl rfl (by kernel_rfl) (fun _ _ _ h => h) (Or.inl ⟨by rfl, ?_⟩) ?_ ?_
          rotate_left
          ·intro w'
           go_simp
           with_reducible rfl
          rotate_left
          ·simp only [Act.put, List.setIfInBounds_toArray, List.set_cons_zero, List.set_cons_succ, i64_w, i32_w]
           rfl
          exact norm_ (by simp only [putAll, Act.put, List.setIfInBounds_toArray, List.set_cons_zero, List.set_cons_succ]) (hCont w4.heap.size _ ⟨hs7.below hb5, hge7, hHeld⟩)
        ·skip
         have hge7 := hHeld.2.2.2.2.size
         have hs7 := instRow_of hHeld.2.2.2.2
         refine value_ (by rfl) rfl (exec_alloc_inst _ _ _ rfl) ?_
         refine hK.out _ _ ⟨row_new hHeld.1, row_new hHeld.2.1, row_new hHeld.2.2.1, row_new hHeld.2.2.2.1, hHeld.2.2.2.2.alloc hHeld.2.2.2.2.size _⟩ (fun hHeld => ?_)
         clear hK K
         refine norm_ (a' := ?_) ?_ ?_
         rotate_left
         ·show Act.put _ (some 9) _ = _
          simp only [Act.put, List.setIfInBounds_toArray, List.set_cons_zero, List.set_cons_succ, i64_w, i32_w]
          rfl
         refine one_ (i := 1) (N := some 42) #[true, true, true, true, false, false, false, false, true, false, false] rfl rfl (by kernel_rfl) (by decide) (fun K hK => ?_)
         refine goes_ Try.func9 (by kernel_rfl) rfl #[.agg (setsCells d S)] (by rfl) rfl rfl (by simp only [List.map_toArray, List.map_cons, List.map_nil]; rfl) ?_
         with_reducible refine (HFO.out _).mono ?_
         rintro e w4 ⟨rfl, hb4⟩
         refine ⟨_, rfl, ?_⟩
         refine hK.out _ _ ⟨row_keep hHeld.1 hb4, row_keep hHeld.2.1 hb4, row_keep hHeld.2.2.1 hb4, row_keep hHeld.2.2.2.1 hb4, below_le hHeld.2.2.2.2 hb4⟩ (fun hHeld => ?_)
         clear hK K
         refine norm_ (a' := ?_) ?_ ?_
         rotate_left
         ·show Act.put _ (some 42) _ = _
          simp only [Act.put, List.setIfInBounds_toArray, List.set_cons_zero, List.set_cons_succ, i64_w, i32_w]
          rfl
         refine one_ (i := 4) (N := some 45) #[true, true, true, true, true, false, false, false, true, false, false] rfl rfl (by kernel_rfl) (by decide) (fun K hK => ?_)
         refine goes_ Try.func8 (by kernel_rfl) rfl #[.agg (fieldsC S), .agg #[.int .i64 sec, .int .i64 nano], .agg own.cells] (by rfl) rfl rfl (by simp only [List.map_toArray, List.map_cons, List.map_nil]; rfl) ?_
         with_reducible refine (HCN.out _ (HMO.out _ hHeld.2.2.2.2)).mono ?_
         rintro e w5 ⟨rfl, hb5⟩
         refine ⟨_, rfl, ?_⟩
         refine hK.out _ _ ⟨row_keep hHeld.1 hb5, row_keep hHeld.2.1 hb5, row_keep hHeld.2.2.1 hb5, row_keep hHeld.2.2.2.1 hb5, below_le hHeld.2.2.2.2 hb5⟩ (fun hHeld => ?_)
         clear hK K
         refine norm_ (a' := ?_) ?_ ?_
         rotate_left
         ·show Act.put _ (some 45) _ = _
          simp only [Act.put, List.setIfInBounds_toArray, List.set_cons_zero, List.set_cons_succ, i64_w, i32_w]
          rfl
         refine pure_ (i := 5) (N := some 40) (v := ?_) (a' := ?_) #[true, true, true, true, true, true, false, false, true, false, false] rfl rfl (by kernel_rfl) (fun _ _ _ h => h) (Or.inl ⟨by rfl, ?_⟩) ?_ ?_
         rotate_left
         ·intro w'
          go_simp
          with_reducible rfl
         rotate_left
         ·simp only [Act.put, List.setIfInBounds_toArray, List.set_cons_zero, List.set_cons_succ, i64_w, i32_w]
          rfl
         refine pure_ (i := 6) (N := some 46) (v := ?_) (a' := ?_) #[true, true, true, true, true, true, true, false, true, false, false] rfl rfl (by kernel_rfl) (fun _ _ _ h => h) (Or.inl ⟨by rfl, ?_⟩) ?_ ?_
         rotate_left
         ·intro w'
          go_simp
          with_reducible rfl
         rotate_left
         ·simp only [Act.put, List.setIfInBounds_toArray, List.set_cons_zero, List.set_cons_succ, i64_w, i32_w]
          rfl
         refine pure_ (i := 7) (N := some 47) (v := ?_) (a' := ?_) #[true, true, true, true, true, true, true, true, true, false, false] rfl rfl (by kernel_rfl) (fun _ _ _ h => h) (Or.inl ⟨by rfl, ?_⟩) ?_ ?_
         rotate_left
         ·intro w'
          go_simp
          with_reducible rfl
         rotate_left
         ·simp only [Act.put, List.setIfInBounds_toArray, List.set_cons_zero, List.set_cons_succ, i64_w, i32_w]
          rfl
         exact norm_ (by simp only [putAll, Act.put, List.setIfInBounds_toArray, List.set_cons_zero, List.set_cons_succ]) (hCont wo.drew.heap.size _ ⟨(hs7.below hb4).below hb5, hge7, hHeld⟩)
       rintro g7 w5 ⟨hs7, hge7, hHeld⟩
       refine norm_ (a' := ?_) ?_ ?_
       rotate_left
       ·simp only [putAll, Act.put, List.setIfInBounds_toArray, List.set_cons_zero, List.set_cons_succ]
        rfl
       refine last_ (i := 9) (N := none) #[true, true, true, true, true, true, true, true, true, true, false] rfl rfl (by kernel_rfl) (by decide) (fun K hK => ?_)
       rw [if_pos (by rfl)]
       refine wp_store_row 31 _ _ rfl g7 (ansI 0 r) rfl rfl 31 instZ hs7 (by rw [ansI_size]; exact instSize) (by rw [ansI_size]; rfl) (ansI_one _ r) ?_
       go_simp
       refine hK.out _ _ ?_
       clear hK K
       refine pure_ (i := 10) (N := some 10) (v := ?_) (a' := ?_) #[true, true, true, true, true, true, true, true, true, true, true] rfl rfl (by kernel_rfl) (fun _ _ _ h => h) (Or.inl ⟨by rfl, ?_⟩) ?_ ?_
       rotate_left
       ·intro w'
        go_simp
        with_reducible rfl
       rotate_left
       ·simp only [Act.put, List.setIfInBounds_toArray, List.set_cons_zero, List.set_cons_succ, i64_w, i32_w]
        rfl
       refine done_ (by kernel_rfl) ?_
       have hlo := row_lt hHeld.1
       generalize hY : World.setRow _ _ _ = w7
       have HA7 := Lib.hid (show w7.heap[g7]? = some (.cells (ansI 0 r) 31 (0, 0)) by rw [← hY]; exact setRow_heap _ _ _ _ _ _ hs7)
       have hB7 : Below wo.heap.size wo w7 := by rw [← hY]; exact below_setRow hHeld.2.2.2.2 hge7 _
       have HS7 := Lib.hid (row_keep hr0 hB7)
       have HO7 := Lib.hid (row_keep hr1 hB7)
       have HT7 := Lib.hid (row_keep hr2 hB7)
       have HZ7 := Lib.hid (row_keep hr3 hB7)
       have HB7 := Lib.hid hB7
       clear hY hHeld hs7 hge7 hr0 hr1 hr2 hr3 hlo hB7
       go_wp2_with (first | (refine wpList_load_row rfl 24 _ rfl w.heap.size rfl _ _ _ _ HS7.out Try.underlying24 rfl schedSize ?_) | (refine wpList_load_row rfl 31 _ rfl (w.heap.size + 1 + 1) rfl _ _ _ _ HT7.out Try.underlying31 rfl instSize ?_) | (refine wpList_load_row rfl 29 _ rfl (w.heap.size + 1) rfl _ _ _ _ HO7.out Try.underlying29 rfl own.size ?_) | (refine wpList_load_row rfl 29 _ rfl (w.heap.size + 1 + 1 + 1) rfl _ _ _ _ HZ7.out Try.underlying29 rfl z.size ?_))
       refine (HNI.out _ (HMO.out _ HB7.out) (HMZ.out _ HB7.out)).mono ?_
       rintro e w8 ⟨rfl, hb8⟩
       have HA8 := Lib.hid (row_keep HA7.out hb8)
       have HB8 := Lib.hid (below_le HB7.out hb8)
       have HG8 := Lib.hid (row_lt HA8.out)
       clear hb8 HA7 HS7 HO7 HT7 HZ7 HB7 HCN HNI HFO HMO HMZ
       dsimp only
       generalize hrs : r.isSome = is1 at *
       have hinew := heap_alloc_new w8 (.cells instZ 31 (0, 0))
       have hai : ((w8.alloc (.cells instZ 31)).setRow w8.heap.size (ansI 0 r)).heap[w8.heap.size]? = some (.cells (ansI 0 r) 31 (0, 0)) := setRow_heap _ _ _ _ _ _ hinew
       have hag : ((w8.alloc (.cells instZ 31)).setRow w8.heap.size (ansI 0 r)).heap[g7]? = some (.cells (ansI 0 r) 31 (0, 0)) := (setRow_other _ _ _ _ (by have := HG8.out; omega)).trans (row_new HA8.out)
       have hBe : Below w.heap.size w ((w8.alloc (.cells instZ 31)).setRow w8.heap.size (ansI 0 r)) := below_setRow ((below_le HBW.out HB8.out).alloc (by have := (below_le HBW.out HB8.out).size; omega) _) (by have := (below_le HBW.out HB8.out).size; omega) _
       go_wp2_with (first
        | (refine wpList_store_row rfl 31 _ _ rfl w8.heap.size (ansI 0 r) rfl rfl 31 instZ hinew (by rw [ansI_size]; exact instSize) (by rw [ansI_size]; rfl) (ansI_one _ r) ?_)
        | (refine load_rowG (by rfl) 31 _ rfl w8.heap.size rfl _ _ _ _ hai Try.underlying31 rfl (by rw [ansI_size]; exact instSize) ?_)
        | (refine load_rowG (by rfl) 31 _ rfl g7 rfl _ _ _ _ hag Try.underlying31 rfl (by rw [ansI_size]; exact instSize) ?_))
       go_ret
       exact ⟨rfl, hBe⟩
end Go.Proofs.Ytlopkdhblfibkaa.CronN
namespace Go.Proofs.Ytlopkdhblfibkaa.CronN
open Go Go.RowKit Go.Proofs.Ytlopkdhblfibkaa.Cal
set_option linter.unusedVariables false
theorem rowNextIn (ev : Bool) (d : Int) (S : Sets) (hS : S.ok) (own : ZA) (sec nano : Int) (z : ZA) (w : World) (hmo : own.Mem w) (hmz : z.Mem w) :
 Calls Try.prog 3 #[.agg (schedC ev d S), .agg own.cells, .agg #[.int .i64 sec, .int .i64 nano], .agg z.cells] w fun e w' => e = .returned (.bool true) ∧ Below w.heap.size w w' := lawNextIn_any ev d S hS own sec nano z w hmo hmz
end Go.Proofs.Ytlopkdhblfibkaa.CronN
