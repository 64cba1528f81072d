/- Lemmas and walks on the way to the law, merged by wip/tools/pack.py: Match, ZMatch, ZSearch, NextC, ZNextC, NextS. Conditions: none. -/
import Derived.Test.YtlopkdhblfibkaaGrB
import Derived.Test.YtlopkdhblfibkaaGrA
import Derived.ScopeJumps
import Derived.LoopTactic
namespace Go.Proofs.Ytlopkdhblfibkaa.Cal
open Go Go.RowKit Go.Proofs.YtlopkdhblfibkaaW.PrintWords Go.Proofs.YtlopkdhblfibkaaW.PrintLast
set_option linter.unusedVariables false
set_option linter.unusedSimpArgs false
theorem and_u64 {a b : Nat} (ha : a < 2 ^ 64) (hb : b < 2 ^ 64) : bits .and .u64 (a : Int) (b : Int) = ((a &&& b : Nat) : Int) := by
 have e : IntKind.u64.bits = 64 := rfl
 unfold bits
 rw [e]
 show IntKind.u64.wrap ((BitVec.ofInt 64 (a : Int) &&& BitVec.ofInt 64 (b : Int)).toNat : Int) = _
 rw [BitVec.ofInt_natCast, BitVec.ofInt_natCast, BitVec.toNat_and, BitVec.toNat_ofNat, BitVec.toNat_ofNat, Nat.mod_eq_of_lt ha, Nat.mod_eq_of_lt hb, IntKind.wrap_u64]
 have : a &&& b < 2 ^ 64 := Nat.lt_of_le_of_lt Nat.and_le_left ha
 omega
theorem shl_one {d : Int} (h0 : 0 ≤ d) (h1 : d < 64) : IntKind.u64.wrap (2 ^ min (IntKind.u64.wrap d).toNat 64) = ((2 ^ d.toNat : Nat) : Int) := by
 have e : IntKind.u64.wrap d = d := by rw [IntKind.wrap_u64]; omega
 have hlt : 2 ^ d.toNat < 2 ^ 64 := Nat.pow_lt_pow_right (by omega) (by omega)
 have hm : min d.toNat 64 = d.toNat := Nat.min_eq_left (by omega)
 rw [e, hm, IntKind.wrap_u64]
 have hc : ((2 : Int) ^ d.toNat) = ((2 ^ d.toNat : Nat) : Int) := by push_cast; rfl
 rw [hc]
 generalize 2 ^ d.toNat = n at *
 omega
theorem pow_and (b d : Nat) : 2 ^ d &&& b = if b.testBit d = true then 2 ^ d else 0 := by
 apply Nat.eq_of_testBit_eq
 intro i
 rw [Nat.testBit_and, Nat.testBit_two_pow]
 by_cases hi : d = i
 ·subst hi
  cases h : b.testBit d <;> simp [h]
 ·cases h : b.testBit d <;> simp [hi, h, Nat.testBit_two_pow]
theorem bit_and {b : Nat} {d : Int} (hb : b < 2 ^ 64) (h0 : 0 ≤ d) (h1 : d < 64) : bits .and .u64 (IntKind.u64.wrap (2 ^ min (IntKind.u64.wrap d).toNat 64)) (b : Int) = if inB b d = true then ((2 ^ d.toNat : Nat) : Int) else 0 := by
 have hlt : 2 ^ d.toNat < 2 ^ 64 := Nat.pow_lt_pow_right (by omega) (by omega)
 rw [shl_one h0 h1, and_u64 hlt hb, pow_and]
 unfold inB
 split <;> rfl
theorem bit_gt {b : Nat} {d : Int} (hb : b < 2 ^ 64) (h0 : 0 ≤ d) (h1 : d < 64) : decide (0 < bits .and .u64 (IntKind.u64.wrap (2 ^ min (IntKind.u64.wrap d).toNat 64)) (b : Int)) = inB b d := by
 rw [bit_and hb h0 h1]
 have : 0 < 2 ^ d.toNat := Nat.two_pow_pos _
 cases h : inB b d
 ·simp
 ·simp only [if_true, decide_eq_true_eq]
  omega
theorem bit_eq {b : Nat} {d : Int} (hb : b < 2 ^ 64) (h0 : 0 ≤ d) (h1 : d < 64) : (bits .and .u64 (IntKind.u64.wrap (2 ^ min (IntKind.u64.wrap d).toNat 64)) (b : Int) == 0) = !inB b d := by
 rw [bit_and hb h0 h1]
 have : 0 < 2 ^ d.toNat := Nat.two_pow_pos _
 cases h : inB b d
 ·simp
 ·simp only [if_true, Bool.not_true, beq_eq_false_iff_ne]
  generalize 2 ^ d.toNat = n at *
  omega
theorem star_gt {b : Nat} (hb : b < 2 ^ 64) : decide (0 < bits .and .u64 (b : Int) 9223372036854775808) = inB b 63 := by
 have := and_u64 hb (show 2 ^ 63 < 2 ^ 64 by omega)
 rw [show ((2 ^ 63 : Nat) : Int) = 9223372036854775808 from rfl, Nat.and_comm, pow_and] at this
 rw [this]
 unfold inB
 rw [show (63 : Int).toNat = 63 from rfl]
 cases h : b.testBit 63 <;> simp
def SpecRow (w : World) (g : Nat) (S : Sets) (loc : Option Addr) : Prop :=
 w.heap[g]? = some (.cells #[.int .u64 (S.sec : Int), .int .u64 (S.min : Int), .int .u64 (S.hour : Int), .int .u64 (S.dom : Int), .int .u64 (S.month : Int), .int .u64 (S.dow : Int), .pointer loc] 78 (0, 0))
theorem SpecRow.below {w w' : World} {g : Nat} {S : Sets} {loc : Option Addr} (h : SpecRow w g S loc) (hb : Below w.heap.size w w') : SpecRow w' g S loc := (hb.block g (Array.getElem?_eq_some_iff.1 h).1).trans h
def Sets.ok (S : Sets) : Prop := S.sec < 2 ^ 64 ∧ S.min < 2 ^ 64 ∧ S.hour < 2 ^ 64 ∧ S.dom < 2 ^ 64 ∧ S.month < 2 ^ 64 ∧ S.dow < 2 ^ 64
end Go.Proofs.Ytlopkdhblfibkaa.Cal
namespace Go.Proofs.Ytlopkdhblfibkaa.Cal
open Go Go.RowKit Go.Proofs.YtlopkdhblfibkaaW.PrintWords Go.Proofs.YtlopkdhblfibkaaW.PrintLast
set_option linter.unusedVariables false
set_option linter.unusedSimpArgs false
set_option maxRecDepth 100000 in
set_option maxHeartbeats 4000000 in
theorem dayMatches_z {l : Option Addr} {off : Int → Int} {Inv : World → Prop} {Loc : World → Nat → Prop} (H : ClockZ l off Inv Loc) (S : Sets) (hS : S.ok) (g : Nat) (loc : Option Addr) (e : Int) (w : World) (he : EOk e) (hI : Inv w) (hg : SpecRow w g S loc) :
  Calls Try.prog 75 #[.pointer (some ⟨g, 0, none⟩), tv 0 e l] w fun e' w' => e' = .returned (.bool (dayB S (e - 62135596800 + off (e - 62135596800)))) ∧ Below w.heap.size w w' := by
 obtain ⟨hv, -⟩ := date_L (e - 62135596800 + off (e - 62135596800))
 have hmd := mdays_bd (yearL (e - 62135596800 + off (e - 62135596800))) (monthL (e - 62135596800 + off (e - 62135596800)))
 have hw : 0 ≤ wdL (e - 62135596800 + off (e - 62135596800)) ∧ wdL (e - 62135596800 + off (e - 62135596800)) < 7 := by unfold wdL; omega
 have HD := Lib.hid (fun w' hI' => tDay_z H.abs 0 e w' (by omega) (by omega) he hI')
 have HW := Lib.hid (fun w' hI' => tWeekday_z H.abs 0 e w' (by omega) (by omega) he hI')
 unfold dayB
 obtain ⟨v1, v2, v3, v4⟩ := hv
 generalize mdayL (e - 62135596800 + off (e - 62135596800)) = d at *
 generalize wdL (e - 62135596800 + off (e - 62135596800)) = wd at *
 have d1 : 1 ≤ d := v3
 have d2 : d ≤ 31 := by omega
 clear v1 v2 v3 v4 hmd
 have HI := Lib.hid hI
 have HG := Lib.hid hg
 have hgl : g < w.heap.size := (Array.getElem?_eq_some_iff.1 hg).1
 clear hI hg
 unfold tv at HD HW ⊢
 go_enter Try.func75, Try.ntmps75
 go_upto_region 1 with fail
 generalize hW0 : World.alloc w _ = wo
 have hbo : Below w.heap.size w wo := by rw [← hW0]; exact (Below.refl _ _).alloc (Nat.le_refl _) _
 have hrow : wo.heap[w.heap.size]? = some (.cells #[.int .u64 0, .int .i64 e, .pointer l] 59 (0, 0)) := by rw [← hW0]; exact heap_alloc_new w _
 have hspec : SpecRow wo g S loc := HG.out.below hbo
 clear hW0
 refine start_ (n := 11) (S := fun w' => w'.heap[w.heap.size]? = some (.cells #[.int .u64 0, .int .i64 e, .pointer l] 59 (0, 0)) ∧ SpecRow w' g S loc ∧ Below wo.heap.size wo w') (ds := []) #[false, false, false, false, false, false, false, false, false, false, false] (by kernel_rfl) rfl rfl ⟨hrow, hspec, (Below.refl _ _).drew⟩ (fun hHeld => ?_)
 refine pure_ (i := 4) (N := some 11) (v := ?_) (a' := ?_) #[false, false, false, false, true, false, false, false, false, false, false] rfl rfl (by kernel_rfl) (fun _ _ _ h => h) (Or.inl ⟨by rfl, ?_⟩) ?_ ?_
 rotate_left
 ·intro w'
  go_simp
  with_reducible rfl
 rotate_left
 ·simp only [Act.put, List.setIfInBounds_toArray, List.set_cons_zero, List.set_cons_succ, i64_w, i32_w]
  rfl
 refine pure_ (i := 5) (N := some 12) (v := ?_) (a' := ?_) #[false, false, false, false, true, true, false, false, false, false, false] rfl rfl (by kernel_rfl) (fun _ _ _ h => h) (Or.inl ⟨by rfl, ?_⟩) ?_ ?_
 rotate_left
 ·intro w'
  go_simp
  with_reducible rfl
 rotate_left
 ·simp only [Act.put, List.setIfInBounds_toArray, List.set_cons_zero, List.set_cons_succ, i64_w, i32_w]
  rfl
 refine pure_ (i := 6) (N := some 13) (v := ?_) (a' := ?_) #[false, false, false, false, true, true, true, false, false, false, false] rfl rfl (by kernel_rfl) (fun _ _ _ h => h) (Or.inl ⟨by rfl, ?_⟩) ?_ ?_
 rotate_left
 ·intro w'
  go_simp
  with_reducible rfl
 rotate_left
 ·simp only [Act.put, List.setIfInBounds_toArray, List.set_cons_zero, List.set_cons_succ, i64_w, i32_w]
  rfl
 refine take_ (i := 0) (N := some 7) (v := ?_) (a' := ?_) #[true, false, false, false, true, true, true, false, false, false, false] rfl rfl (by kernel_rfl) (fun _ _ _ h => h) (Or.inl ⟨by rfl, ?_⟩) hHeld ?_ ?_
 rotate_left
 ·rintro w' ⟨s0, s1, s2⟩
  have c0 : w'.cell? ⟨w.heap.size, 0, none⟩ = some (.int .u64 0) := cell_of_row _ _ _ _ _ _ s0
  have c1 : w'.cell? ⟨w.heap.size, 1, none⟩ = some (.int .i64 e) := cell_of_row _ _ _ _ _ _ s0
  have c2 : w'.cell? ⟨w.heap.size, 2, none⟩ = some (.pointer l) := cell_of_row _ _ _ _ _ _ s0
  go_simp
  with_reducible rfl
 rotate_left
 ·simp only [Act.put, List.setIfInBounds_toArray, List.set_cons_zero, List.set_cons_succ, i64_w, i32_w]
  rfl
 refine take_ (i := 7) (N := some 14) (v := ?_) (a' := ?_) #[true, false, false, false, true, true, true, true, false, false, false] rfl rfl (by kernel_rfl) (fun _ _ _ h => h) (Or.inl ⟨by rfl, ?_⟩) hHeld ?_ ?_
 rotate_left
 ·rintro w' ⟨s0, s1, s2⟩
  have c3 : w'.cell? ⟨g, 3, none⟩ = some (.int .u64 (S.dom : Int)) := cell_of_row _ _ _ _ _ _ s1
  go_simp
  with_reducible rfl
 rotate_left
 ·simp only [Act.put, List.setIfInBounds_toArray, List.set_cons_zero, List.set_cons_succ, i64_w, i32_w]
  rfl
 refine one_ (i := 1) (N := some 8) #[true, true, false, false, true, true, true, true, false, false, false] rfl rfl (by kernel_rfl) (by decide) (fun K hK => ?_)
 refine goes_ Try.func64 (by kernel_rfl) rfl #[.agg #[.int .u64 0, .int .i64 e, .pointer l]] (by rfl) rfl rfl (by simp only [List.map_toArray, List.map_cons, List.map_nil]; rfl) ?_
 with_reducible refine (HD.out _ (H.abs.keeps (H.abs.keeps HI.out hbo) hHeld.2.2)).mono ?_
 rintro e3 w3 ⟨rfl, hb3⟩
 refine ⟨_, rfl, ?_⟩
 refine hK.out _ _ ⟨(hb3.block _ (Array.getElem?_eq_some_iff.1 hHeld.1).1).trans hHeld.1, hHeld.2.1.below hb3, below_le hHeld.2.2 hb3⟩ (fun hHeld => ?_)
 clear hK K
 refine norm_ (a' := ?_) ?_ ?_
 rotate_left
 ·show Act.put _ (some 8) _ = _
  simp only [Act.put, List.setIfInBounds_toArray, List.set_cons_zero, List.set_cons_succ, i64_w, i32_w]
  rfl
 refine pure_ (i := 2) (N := some 9) (v := ?_) (a' := ?_) #[true, true, true, false, true, true, true, true, false, false, false] rfl rfl (by kernel_rfl) (fun _ _ _ h => h) (Or.inl ⟨by rfl, ?_⟩) ?_ ?_
 rotate_left
 ·intro w'
  go_simp
  with_reducible rfl
 rotate_left
 ·simp only [Act.put, List.setIfInBounds_toArray, List.set_cons_zero, List.set_cons_succ, i64_w, i32_w]
  rfl
 refine pure_ (i := 3) (N := some 10) (v := ?_) (a' := ?_) #[true, true, true, true, true, true, true, true, false, false, false] rfl rfl (by kernel_rfl) (fun _ _ _ h => h) (Or.inl ⟨by rfl, ?_⟩) ?_ ?_
 rotate_left
 ·intro w'
  go_simp
  with_reducible rfl
 rotate_left
 ·simp only [Act.put, List.setIfInBounds_toArray, List.set_cons_zero, List.set_cons_succ, i64_w, i32_w]
  rfl
 refine pure_ (i := 8) (N := some 15) (v := ?_) (a' := ?_) #[true, true, true, true, true, true, true, true, true, false, false] rfl rfl (by kernel_rfl) (fun _ _ _ h => h) (Or.inl ⟨by rfl, ?_⟩) ?_ ?_
 rotate_left
 ·intro w'
  go_simp
  with_reducible rfl
 rotate_left
 ·simp only [Act.put, List.setIfInBounds_toArray, List.set_cons_zero, List.set_cons_succ, i64_w, i32_w]
  rfl
 refine pure_ (i := 9) (N := some 16) (v := ?_) (a' := ?_) #[true, true, true, true, true, true, true, true, true, true, false] rfl rfl (by kernel_rfl) (fun _ _ _ h => h) (Or.inl ⟨by rfl, ?_⟩) ?_ ?_
 rotate_left
 ·intro w'
  go_simp
  with_reducible rfl
 rotate_left
 ·simp only [Act.put, List.setIfInBounds_toArray, List.set_cons_zero, List.set_cons_succ, i64_w, i32_w]
  rfl
 refine pure_ (i := 10) (N := some 5) (v := ?_) (a' := ?_) #[true, true, true, true, true, true, true, true, true, true, true] rfl rfl (by kernel_rfl) (fun _ _ _ h => h) (Or.inl ⟨by rfl, ?_⟩) ?_ ?_
 rotate_left
 ·intro w'
  go_simp
  with_reducible rfl
 rotate_left
 ·simp only [Act.put, List.setIfInBounds_toArray, List.set_cons_zero, List.set_cons_succ, i64_w, i32_w]
  rfl
 refine done_ (by kernel_rfl) ?_
 obtain ⟨hr1, hs1, hB1⟩ := hHeld
 have hl1 := below_le hbo hB1
 rw [bit_gt hS.2.2.2.1 (by omega) (by omega)]
 clear hrow hspec
 generalize IntKind.u64.wrap (2 ^ min (IntKind.u64.wrap d).toNat 64) = junk
 go_upto_region 2 with fail
 refine start_ (n := 11) (S := fun w' => w'.heap[w.heap.size]? = some (.cells #[.int .u64 0, .int .i64 e, .pointer l] 59 (0, 0)) ∧ SpecRow w' g S loc ∧ Below w.heap.size w w') (ds := []) #[false, false, false, false, false, false, false, false, false, false, false] (by kernel_rfl) rfl rfl ⟨hr1, hs1, hl1.drew⟩ (fun hHeld => ?_)
 refine pure_ (i := 4) (N := some 21) (v := ?_) (a' := ?_) #[false, false, false, false, true, false, false, false, false, false, false] rfl rfl (by kernel_rfl) (fun _ _ _ h => h) (Or.inl ⟨by rfl, ?_⟩) ?_ ?_
 rotate_left
 ·intro w'
  go_simp
  with_reducible rfl
 rotate_left
 ·simp only [Act.put, List.setIfInBounds_toArray, List.set_cons_zero, List.set_cons_succ, i64_w, i32_w]
  rfl
 refine pure_ (i := 5) (N := some 22) (v := ?_) (a' := ?_) #[false, false, false, false, true, true, false, false, false, false, false] rfl rfl (by kernel_rfl) (fun _ _ _ h => h) (Or.inl ⟨by rfl, ?_⟩) ?_ ?_
 rotate_left
 ·intro w'
  go_simp
  with_reducible rfl
 rotate_left
 ·simp only [Act.put, List.setIfInBounds_toArray, List.set_cons_zero, List.set_cons_succ, i64_w, i32_w]
  rfl
 refine pure_ (i := 6) (N := some 23) (v := ?_) (a' := ?_) #[false, false, false, false, true, true, true, false, false, false, false] rfl rfl (by kernel_rfl) (fun _ _ _ h => h) (Or.inl ⟨by rfl, ?_⟩) ?_ ?_
 rotate_left
 ·intro w'
  go_simp
  with_reducible rfl
 rotate_left
 ·simp only [Act.put, List.setIfInBounds_toArray, List.set_cons_zero, List.set_cons_succ, i64_w, i32_w]
  rfl
 refine take_ (i := 0) (N := some 17) (v := ?_) (a' := ?_) #[true, false, false, false, true, true, true, false, false, false, false] rfl rfl (by kernel_rfl) (fun _ _ _ h => h) (Or.inl ⟨by rfl, ?_⟩) hHeld ?_ ?_
 rotate_left
 ·rintro w' ⟨s0, s1, s2⟩
  have c0 : w'.cell? ⟨w.heap.size, 0, none⟩ = some (.int .u64 0) := cell_of_row _ _ _ _ _ _ s0
  have c1 : w'.cell? ⟨w.heap.size, 1, none⟩ = some (.int .i64 e) := cell_of_row _ _ _ _ _ _ s0
  have c2 : w'.cell? ⟨w.heap.size, 2, none⟩ = some (.pointer l) := cell_of_row _ _ _ _ _ _ s0
  go_simp
  with_reducible rfl
 rotate_left
 ·simp only [Act.put, List.setIfInBounds_toArray, List.set_cons_zero, List.set_cons_succ, i64_w, i32_w]
  rfl
 refine take_ (i := 7) (N := some 24) (v := ?_) (a' := ?_) #[true, false, false, false, true, true, true, true, false, false, false] rfl rfl (by kernel_rfl) (fun _ _ _ h => h) (Or.inl ⟨by rfl, ?_⟩) hHeld ?_ ?_
 rotate_left
 ·rintro w' ⟨s0, s1, s2⟩
  have c3 : w'.cell? ⟨g, 5, none⟩ = some (.int .u64 (S.dow : Int)) := cell_of_row _ _ _ _ _ _ s1
  go_simp
  with_reducible rfl
 rotate_left
 ·simp only [Act.put, List.setIfInBounds_toArray, List.set_cons_zero, List.set_cons_succ, i64_w, i32_w]
  rfl
 refine one_ (i := 1) (N := some 18) #[true, true, false, false, true, true, true, true, false, false, false] rfl rfl (by kernel_rfl) (by decide) (fun K hK => ?_)
 refine goes_ Try.func92 (by kernel_rfl) rfl #[.agg #[.int .u64 0, .int .i64 e, .pointer l]] (by rfl) rfl rfl (by simp only [List.map_toArray, List.map_cons, List.map_nil]; rfl) ?_
 with_reducible refine (HW.out _ (H.abs.keeps HI.out hHeld.2.2)).mono ?_
 rintro e4 w4 ⟨rfl, hb4⟩
 refine ⟨_, rfl, ?_⟩
 refine hK.out _ _ ⟨(hb4.block _ (Array.getElem?_eq_some_iff.1 hHeld.1).1).trans hHeld.1, hHeld.2.1.below hb4, below_le hHeld.2.2 hb4⟩ (fun hHeld => ?_)
 clear hK K
 refine norm_ (a' := ?_) ?_ ?_
 rotate_left
 ·show Act.put _ (some 18) _ = _
  simp only [Act.put, List.setIfInBounds_toArray, List.set_cons_zero, List.set_cons_succ, i64_w, i32_w]
  rfl
 refine pure_ (i := 2) (N := some 19) (v := ?_) (a' := ?_) #[true, true, true, false, true, true, true, true, false, false, false] rfl rfl (by kernel_rfl) (fun _ _ _ h => h) (Or.inl ⟨by rfl, ?_⟩) ?_ ?_
 rotate_left
 ·intro w'
  go_simp
  with_reducible rfl
 rotate_left
 ·simp only [Act.put, List.setIfInBounds_toArray, List.set_cons_zero, List.set_cons_succ, i64_w, i32_w]
  rfl
 refine pure_ (i := 3) (N := some 20) (v := ?_) (a' := ?_) #[true, true, true, true, true, true, true, true, false, false, false] rfl rfl (by kernel_rfl) (fun _ _ _ h => h) (Or.inl ⟨by rfl, ?_⟩) ?_ ?_
 rotate_left
 ·intro w'
  go_simp
  with_reducible rfl
 rotate_left
 ·simp only [Act.put, List.setIfInBounds_toArray, List.set_cons_zero, List.set_cons_succ, i64_w, i32_w]
  rfl
 refine pure_ (i := 8) (N := some 25) (v := ?_) (a' := ?_) #[true, true, true, true, true, true, true, true, true, false, false] rfl rfl (by kernel_rfl) (fun _ _ _ h => h) (Or.inl ⟨by rfl, ?_⟩) ?_ ?_
 rotate_left
 ·intro w'
  go_simp
  with_reducible rfl
 rotate_left
 ·simp only [Act.put, List.setIfInBounds_toArray, List.set_cons_zero, List.set_cons_succ, i64_w, i32_w]
  rfl
 refine pure_ (i := 9) (N := some 26) (v := ?_) (a' := ?_) #[true, true, true, true, true, true, true, true, true, true, false] rfl rfl (by kernel_rfl) (fun _ _ _ h => h) (Or.inl ⟨by rfl, ?_⟩) ?_ ?_
 rotate_left
 ·intro w'
  go_simp
  with_reducible rfl
 rotate_left
 ·simp only [Act.put, List.setIfInBounds_toArray, List.set_cons_zero, List.set_cons_succ, i64_w, i32_w]
  rfl
 refine pure_ (i := 10) (N := some 6) (v := ?_) (a' := ?_) #[true, true, true, true, true, true, true, true, true, true, true] rfl rfl (by kernel_rfl) (fun _ _ _ h => h) (Or.inl ⟨by rfl, ?_⟩) ?_ ?_
 rotate_left
 ·intro w'
  go_simp
  with_reducible rfl
 rotate_left
 ·simp only [Act.put, List.setIfInBounds_toArray, List.set_cons_zero, List.set_cons_succ, i64_w, i32_w]
  rfl
 refine done_ (by kernel_rfl) ?_
 obtain ⟨hr2, hs2, hB2⟩ := hHeld
 rw [bit_gt hS.2.2.2.2.2 (by omega) (by omega)]
 generalize IntKind.u64.wrap (2 ^ min (IntKind.u64.wrap wd).toNat 64) = junk2
 have e1 := star_gt hS.2.2.2.1
 have e2 := star_gt hS.2.2.2.2.2
 have c3 : w4.cell? ⟨g, 3, none⟩ = some (.int .u64 (S.dom : Int)) := cell_of_row _ _ _ _ _ _ hs2
 have c5 : w4.cell? ⟨g, 5, none⟩ = some (.int .u64 (S.dow : Int)) := cell_of_row _ _ _ _ _ _ hs2
 clear hr1 hs1 hB1 hr2 hs2 hl1
 cases h1 : inB S.dom 63 <;> cases h2 : inB S.dow 63 <;> rw [h1] at e1 <;> rw [h2] at e2 <;> cases h3 : inB S.dom d <;> cases h4 : inB S.dow wd
 all_goals
  go_wp2_with fail
  all_goals
   go_ret
   exact ⟨by simp [h1, h2], hB2⟩
end Go.Proofs.Ytlopkdhblfibkaa.Cal
namespace Go.Proofs.Ytlopkdhblfibkaa.Cal
open Go
set_option linter.unusedVariables false
set_option linter.unusedSectionVars false
set_option linter.unusedSimpArgs false
theorem year_next {L x : Int} (h : x / 86400 = L / 86400 ∨ x = dNext L) : yearL x ≤ yearL L + 1 := by
 rcases h with h | h
 ·have := (same_day h).2.1; omega
 ·subst h
  rcases dNext_date L with h | h
  ·rw [h.2, (mNext_date L).2.2.2]; split <;> omega
  ·omega
def NoFitZ (off : Int → Int) (S : Sets) (a b : Int) : Prop := ∀ x, a ≤ x → x < b → ¬ Fits S (zt off x)
structure AtZ (off : Int → Int) (S : Sets) (f : Int) (added : Bool) (u : Int) : Prop where
 ge : f ≤ u
 no : NoFitZ off S f u
 mo : added = true → monthB S (zt off u) = true ∨ zt off u = mFirst (zt off u) * 86400
 da : added = true → dayB S (zt off u) = true ∨ zt off u % 86400 = 0
 ho : added = true → hourB S (zt off u) = true ∨ zt off u % 3600 = 0
 mi : added = true → minB S (zt off u) = true ∨ zt off u % 60 = 0
 fst : added = false → u = f
def AtH (off : Int → Int) (S : Sets) (f : Int) (added : Bool) (u : Int) : Prop :=
 AtZ off S f added u ∨ (added = true ∧ u ≤ f ∧ f < u + 3600 ∧ zt off u % 3600 = 0 ∧ hourB S (zt off u) = false)
theorem atZ_first (off : Int → Int) (S : Sets) (f : Int) : AtZ off S f false f :=
 ⟨Int.le_refl _, (fun x h1 h2 => by omega), (fun h => by cases h), (fun h => by cases h), (fun h => by cases h), (fun h => by cases h), (fun _ => rfl)⟩
theorem noFitZ_to {off : Int → Int} {S : Sets} {f a b : Int} (h : NoFitZ off S f a) (h2 : ∀ x, a ≤ x → x < b → ¬ Fits S (zt off x)) : NoFitZ off S f b := fun x h1 h3 => by
 by_cases hc : x < a
 ·exact h x h1 hc
 ·exact h2 x (by omega) h3
def LeastZ (off : Int → Int) (S : Sets) (f lim : Int) : Option Int → Prop
 | some u => f ≤ u ∧ Fits S (zt off u) ∧ NoFitZ off S f u ∧ yearL (zt off u) ≤ lim
 | none => ∀ x, f ≤ x → yearL (zt off x) ≤ lim → ¬ Fits S (zt off x)
theorem leastZ_unique {off : Int → Int} {S : Sets} {f lim : Int} : ∀ {r r' : Option Int}, LeastZ off S f lim r → LeastZ off S f lim r' → r = r'
 | none, none, _, _ => rfl
 | some L, none, h, h' => absurd h.2.1 (h' L h.1 h.2.2.2)
 | none, some L, h, h' => absurd h'.2.1 (h L h'.1 h'.2.2.2)
 | some L, some L', h, h' => by
  rcases Int.lt_trichotomy L L' with hl | hl | hl
  ·exact absurd h.2.1 (h'.2.2.1 L h.1 hl)
  ·rw [hl]
  ·exact absurd h'.2.1 (h.2.2.1 L' h'.1 hl)
section
variable {off : Int → Int} (Z : Zn off)
include Z
theorem yearZ_mono {u v : Int} (h : u ≤ v) : yearL (zt off u) ≤ yearL (zt off v) := by
 have h1 := up_mono Z (X := zt off u / 86400 * 86400) (by omega) (u := u) (v := v) (by omega) h
 have h2 := same_day (L := zt off u) (x := zt off u / 86400 * 86400) (by omega)
 rw [← h2.2.1]
 exact year_mono h1
theorem leastZ_none {S : Sets} {f u lim : Int} {a : Bool} (h : AtZ off S f a u) (hy : lim < yearL (zt off u)) : LeastZ off S f lim none := fun x h1 h2 => by
 by_cases hx : x < u
 ·exact h.no x h1 hx
 ·have := yearZ_mono Z (u := u) (v := x) (by omega)
  omega
omit Z in
theorem leastZ_some {S : Sets} {f u lim : Int} {a : Bool} (h : AtZ off S f a u) (hm : monthB S (zt off u) = true) (hd : dayB S (zt off u) = true) (hh : hourB S (zt off u) = true) (hi : minB S (zt off u) = true) (hs : secB S (zt off u) = true) (hy : yearL (zt off u) ≤ lim) : LeastZ off S f lim (some u) :=
 ⟨h.ge, ⟨hm, hd, hh, hi, hs⟩, h.no, hy⟩
theorem mid_next {X u : Int} (hX : X % 86400 = 0) (hlt : zt off u < X) : u < dt off X ∧ zt off (dt off X) = X ∧ (∀ x, u ≤ x → x < dt off X → zt off x < X ∧ zt off u / 86400 * 86400 ≤ zt off x) := by
 obtain ⟨m1, m2, m3⟩ := mid Z hX
 refine ⟨?_, m1, fun x h1 h2 => ⟨m3 x h2, up_mono Z (by omega) (u := u) (by omega) h1⟩⟩
 by_cases hc : dt off X ≤ u
 ·have := m2 u hc; omega
 ·omega
theorem atZ_month {S : Sets} {f u : Int} {a : Bool} (h : AtZ off S f a u) (hm : monthB S (zt off u) = false) : AtZ off S f true (dt off (mNext (zt off u))) := by
 have hd := mNext_date (zt off u)
 have hg := mNext_gt (zt off u)
 obtain ⟨n1, n2, n3⟩ := mid_next Z hd.1 hg.1
 have hlo := fun x (h1 : u ≤ x) => up_mono Z (X := mFirst (zt off u) * 86400) (by omega) (u := u) (v := x) hg.2 h1
 refine ⟨by have := h.ge; omega, noFitZ_to h.no fun x h1 h2 hx => ?_, fun _ => .inr (by rw [n2]; exact day_first hd.1 hd.2.1), fun _ => .inr (by rw [n2]; exact hd.1), fun _ => .inr (by rw [n2]; omega), fun _ => .inr (by rw [n2]; omega), (fun h => by cases h)⟩
 have := same_month (L := zt off u) (x := zt off x) (hlo x h1) (n3 x h1 h2).1
 have hmo := hx.mo
 unfold monthB at hmo hm
 rw [this.1, hm] at hmo
 cases hmo
theorem atZ_day {S : Sets} {f u : Int} {a : Bool} (h : AtZ off S f a u) (hm : monthB S (zt off u) = true) (hd : dayB S (zt off u) = false) :
  AtZ off S f true (dt off (dNext (zt off u))) ∧ (mdayL (dNext (zt off u)) = 1 ∨ monthB S (dNext (zt off u)) = true ∧ yearL (dNext (zt off u)) = yearL (zt off u)) := by
 have hgt : zt off u < dNext (zt off u) := by unfold dNext; omega
 have h0 : dNext (zt off u) % 86400 = 0 := by unfold dNext; omega
 obtain ⟨n1, n2, n3⟩ := mid_next Z h0 hgt
 have hdd := dNext_date (zt off u)
 have hmo : mdayL (dNext (zt off u)) = 1 ∨ monthB S (dNext (zt off u)) = true ∧ yearL (dNext (zt off u)) = yearL (zt off u) := by
  rcases hdd with h | h
  ·exact .inl h.1
  ·exact .inr ⟨by unfold monthB at hm ⊢; rw [h.2.1]; exact hm, h.2.2⟩
 refine ⟨⟨by have := h.ge; omega, noFitZ_to h.no fun x h1 h2 hx => ?_, fun _ => ?_, fun _ => .inr (by rw [n2]; exact h0), fun _ => .inr (by rw [n2]; omega), fun _ => .inr (by rw [n2]; omega), (fun h => by cases h)⟩, hmo⟩
 ·obtain ⟨a1, a2⟩ := n3 x h1 h2
  have := same_day (L := zt off u) (x := zt off x) (by unfold dNext at a1; omega)
  have hda := hx.da
  unfold dayB at hda hd
  rw [this.2.2.1, this.2.2.2, hd] at hda
  cases hda
 ·rw [n2]
  rcases hmo with h | h
  ·exact .inr (day_first h0 h)
  ·exact .inl h.1
omit Z in
theorem noHour {S : Sets} {u x : Int} (hh : hourB S (zt off u) = false) (h : zt off x / 3600 = zt off u / 3600) : ¬ Fits S (zt off x) := fun hx => by
 have e : hourL (zt off x) = hourL (zt off u) := by unfold hourL; omega
 have := hx.ho
 unfold hourB at this hh
 rw [e, hh] at this
 cases this
theorem hour_next {S : Sets} {f u : Int} (ha : zt off u % 3600 = 0) (hf : f < u + 3600) (hno : NoFitZ off S f u) (hm : monthB S (zt off u) = true) (hd : dayB S (zt off u) = true) (hh : hourB S (zt off u) = false) :
  AtZ off S f true (u + 3600) ∧ (hourL (zt off (u + 3600)) = 0 ∨ monthB S (zt off (u + 3600)) = true ∧ dayB S (zt off (u + 3600)) = true ∧ yearL (zt off (u + 3600)) = yearL (zt off u)) := by
 obtain ⟨e1, e2⟩ := edge Z ha
 have hno2 : NoFitZ off S f (u + 3600) := noFitZ_to hno fun x h1 h2 => noHour hh (by have := cell_zt Z (u := u) (v := x) (by omega) (by omega); omega)
 rcases e2 with e2 | e2
 ·have k := keep_day hm hd e2
  exact ⟨⟨by omega, hno2, fun _ => .inl k.1, fun _ => .inl k.2.1, fun _ => .inr e1, fun _ => .inr (by omega), (fun h => by cases h)⟩, .inr k⟩
 ·exact ⟨⟨by omega, hno2, fun _ => next_day_month hm e2, fun _ => .inr (by rw [e2]; unfold dNext; omega), fun _ => .inr e1, fun _ => .inr (by omega), (fun h => by cases h)⟩, .inl (by rw [e2]; unfold hourL dNext; omega)⟩
theorem atH_next {S : Sets} {f u : Int} (h : AtH off S f true u) (hm : monthB S (zt off u) = true) (hd : dayB S (zt off u) = true) (hh : hourB S (zt off u) = false) :
  AtZ off S f true (u + 3600) ∧ (hourL (zt off (u + 3600)) = 0 ∨ monthB S (zt off (u + 3600)) = true ∧ dayB S (zt off (u + 3600)) = true ∧ yearL (zt off (u + 3600)) = yearL (zt off u)) := by
 rcases h with h | ⟨-, h1, h2, h3, h4⟩
 ·exact hour_next Z ((h.ho rfl).resolve_left (by rw [hh]; decide)) (by have := h.ge; omega) h.no hm hd hh
 ·exact hour_next Z h3 h2 (fun x a b => by omega) hm hd hh
omit Z in
theorem atH_good {S : Sets} {f u : Int} {a : Bool} (h : AtH off S f a u) (hh : hourB S (zt off u) = true) : AtZ off S f a u := by
 rcases h with h | h
 ·exact h
 ·rw [hh] at h; cases h.2.2.2.2
theorem atH_first {S : Sets} {f u : Int} (h : AtZ off S f false u) (hm : monthB S (zt off u) = true) (hd : dayB S (zt off u) = true) (hh : hourB S (zt off u) = false) (hfu : u = f) :
  AtH off S f true (dt off (zt off u / 3600 * 3600) + 3600) ∧ u ≤ dt off (zt off u / 3600 * 3600) + 7200 ∧
  (hourL (zt off (dt off (zt off u / 3600 * 3600) + 3600)) = 0 → AtZ off S f true (dt off (zt off u / 3600 * 3600) + 3600) ∧ u < dt off (zt off u / 3600 * 3600) + 3600) ∧
  (hourL (zt off (dt off (zt off u / 3600 * 3600) + 3600)) = 0 ∨ monthB S (zt off (dt off (zt off u / 3600 * 3600) + 3600)) = true ∧ dayB S (zt off (dt off (zt off u / 3600 * 3600) + 3600)) = true ∧ yearL (zt off (dt off (zt off u / 3600 * 3600) + 3600)) = yearL (zt off u)) ∧
  zt off (dt off (zt off u / 3600 * 3600)) = zt off u / 3600 * 3600 := by
 have hr0 : 0 ≤ zt off u % 3600 := by omega
 have hb := cell_zt Z (u := u) (v := u - zt off u % 3600) (by omega) (by omega)
 obtain ⟨b, hbe⟩ : ∃ b, b = u - zt off u % 3600 := ⟨_, rfl⟩
 rw [← hbe] at hb
 have hb' : zt off b = zt off u / 3600 * 3600 := by omega
 have hs := dt_shows Z hb'
 obtain ⟨R, hR⟩ : ∃ R, R = dt off (zt off u / 3600 * 3600) := ⟨_, rfl⟩
 rw [← hR] at hs ⊢
 have hmB := keep_day hm hd (x := zt off b) (by omega)
 have hmR := keep_day hm hd (x := zt off R) (by omega)
 have hhB : hourB S (zt off b) = false := by
  have e : hourL (zt off b) = hourL (zt off u) := by unfold hourL; omega
  unfold hourB at hh ⊢; rw [e]; exact hh
 have hhR : hourB S (zt off R) = false := by
  have e : hourL (zt off R) = hourL (zt off u) := by unfold hourL; omega
  unfold hourB at hh ⊢; rw [e]; exact hh
 have hnB : NoFitZ off S f b := fun x h1 h2 => by omega
 have hcellB : ∀ x, b ≤ x → x < b + 3600 → ¬ Fits S (zt off x) := fun x h1 h2 => noHour hh (by have := cell_zt Z (u := b) (v := x) (by omega) (by omega); omega)
 rcases Int.lt_trichotomy R b with hlt | heq | hgt
 ·have := twin Z (hs.trans hb'.symm) hlt
  have e : R + 3600 = b := by omega
  rw [e]
  refine ⟨.inr ⟨rfl, by omega, by omega, by omega, hhB⟩, by omega, fun h0 => ?_, .inr ⟨hmB.1, hmB.2.1, hmB.2.2⟩, hs⟩
  exfalso
  have hX : zt off b % 86400 = 0 := by unfold hourL at h0; omega
  have := (mid Z hX).2.2
  obtain ⟨u1, c1, c2, c3⟩ := inst_ex Z hX
  have g1 := c3 R
  have g2 := c2 R
  have g3 : ¬ R < u1 := fun hh => by have := c3 R hh; omega
  have g4 := cell_zt Z (u := R) (v := R + 3599) (by omega) (by omega)
  have g5 := edge Z (u := R) (by omega)
  rw [e] at g5
  rcases Int.lt_trichotomy b u1 with k | k | k
  ·have := c3 b k; omega
  ·omega
  ·by_cases hc : off b = off (b - 1)
   ·have g6 := c2 (b - 1) (by omega)
    unfold zt at *
    rw [show R + 3599 = b - 1 by omega] at g4
    omega
   ·have g7 := Z.step (b - 1) (by rw [show b - 1 + 1 = b by omega]; exact hc)
    rw [show b - 1 + 1 = b by omega] at g7
    unfold zt at *
    omega
 ·subst heq
  have hn := hour_next Z (S := S) (f := f) (u := R) (by omega) (by omega) hnB hmB.1 hmB.2.1 hhB
  have hy : yearL (zt off R) = yearL (zt off u) := hmB.2.2
  rw [hy] at hn
  exact ⟨.inl hn.1, by omega, fun _ => ⟨hn.1, by omega⟩, hn.2, hs⟩
 ·have := twin Z (hb'.trans hs.symm) hgt
  have hn := hour_next Z (S := S) (f := f) (u := R) (by omega) (by omega) (noFitZ_to hnB fun x h1 h2 => hcellB x h1 (by omega)) hmR.1 hmR.2.1 hhR
  rw [hmR.2.2] at hn
  exact ⟨.inl hn.1, by omega, fun _ => ⟨hn.1, by omega⟩, hn.2, hs⟩
theorem atZ_min {S : Sets} {f u : Int} {a : Bool} (h : AtZ off S f a u) (hm : monthB S (zt off u) = true) (hd : dayB S (zt off u) = true) (hh : hourB S (zt off u) = true) (hi : minB S (zt off u) = false) :
  AtZ off S f true (u / 60 * 60 + 60) ∧ (minL (zt off (u / 60 * 60 + 60)) = 0 ∨ monthB S (zt off (u / 60 * 60 + 60)) = true ∧ dayB S (zt off (u / 60 * 60 + 60)) = true ∧ hourB S (zt off (u / 60 * 60 + 60)) = true ∧ yearL (zt off (u / 60 * 60 + 60)) = yearL (zt off u)) ∧ yearL (zt off (u / 60 * 60 + 60)) ≤ yearL (zt off u) + 1 := by
 have h6 := Z.m60 u
 have hu : u / 60 * 60 = u - zt off u % 60 := by unfold zt; omega
 obtain ⟨v, hv⟩ : ∃ v, v = u / 60 * 60 + 60 := ⟨_, rfl⟩
 rw [← hv]
 have hno : NoFitZ off S f v := noFitZ_to h.no fun x h1 h2 hx => by
  have hc := cell_zt Z (u := u) (v := x) (by omega) (by omega)
  have e : minL (zt off x) = minL (zt off u) := by unfold minL; omega
  have hho := hx.mi
  unfold minB at hho hi
  rw [e, hi] at hho
  cases hho
 have h60 : zt off v % 60 = 0 := by have := Z.m60 v; unfold zt; omega
 by_cases hw : v < u - zt off u % 3600 + 3600
 ·have hc := cell_zt Z (u := u) (v := v) (by omega) hw
  have kh := keep_hour hh (x := zt off v) (by omega)
  have k := keep_day hm hd (x := zt off v) (by omega)
  exact ⟨⟨by have := h.ge; omega, hno, fun _ => .inl k.1, fun _ => .inl k.2.1, fun _ => .inl kh, fun _ => .inr h60, (fun h => by cases h)⟩, .inr ⟨k.1, k.2.1, kh, k.2.2⟩, by rw [k.2.2]; omega⟩
 ·have hb := cell_zt Z (u := u) (v := u - zt off u % 3600) (by omega) (by omega)
  obtain ⟨e1, e2⟩ := edge Z (u := u - zt off u % 3600) (by omega)
  rw [show u - zt off u % 3600 + 3600 = v by omega] at e1 e2
  have hz : minL (zt off v) = 0 := by unfold minL; omega
  have hyr : yearL (zt off v) ≤ yearL (zt off u) + 1 := year_day (zt off u) (zt off v) (by rcases e2 with e | e; omega; unfold dNext at e; omega)
  rcases e2 with e2 | e2
  ·have k := keep_day hm hd (x := zt off v) (by omega)
   exact ⟨⟨by have := h.ge; omega, hno, fun _ => .inl k.1, fun _ => .inl k.2.1, fun _ => .inr e1, fun _ => .inr h60, (fun h => by cases h)⟩, .inl hz, hyr⟩
  ·have e3 : zt off v = dNext (zt off u) := by unfold dNext at *; omega
   exact ⟨⟨by have := h.ge; omega, hno, fun _ => next_day_month hm e3, fun _ => .inr (by rw [e3]; unfold dNext; omega), fun _ => .inr e1, fun _ => .inr h60, (fun h => by cases h)⟩, .inl hz, hyr⟩
theorem atZ_sec {S : Sets} {f u : Int} {a : Bool} (h : AtZ off S f a u) (hm : monthB S (zt off u) = true) (hd : dayB S (zt off u) = true) (hh : hourB S (zt off u) = true) (hi : minB S (zt off u) = true) (hs : secB S (zt off u) = false) :
  AtZ off S f true (u + 1) ∧ (secL (zt off (u + 1)) = 0 ∨ monthB S (zt off (u + 1)) = true ∧ dayB S (zt off (u + 1)) = true ∧ hourB S (zt off (u + 1)) = true ∧ minB S (zt off (u + 1)) = true ∧ yearL (zt off (u + 1)) = yearL (zt off u)) ∧ yearL (zt off (u + 1)) ≤ yearL (zt off u) + 1 := by
 have hno : NoFitZ off S f (u + 1) := noFitZ_to h.no fun x h1 h2 hx => by
  have e : x = u := by omega
  have hho := hx.se
  rw [e, hs] at hho
  cases hho
 by_cases hw : u + 1 < u - zt off u % 3600 + 3600
 ·have hc := cell_zt Z (u := u) (v := u + 1) (by omega) hw
  have kh := keep_hour hh (x := zt off (u + 1)) (by omega)
  have k := keep_day hm hd (x := zt off (u + 1)) (by omega)
  by_cases hw1 : (zt off u + 1) / 60 = zt off u / 60
  ·have ki := keep_min hi (x := zt off (u + 1)) (by omega)
   exact ⟨⟨by have := h.ge; omega, hno, fun _ => .inl k.1, fun _ => .inl k.2.1, fun _ => .inl kh, fun _ => .inl ki, (fun h => by cases h)⟩, .inr ⟨k.1, k.2.1, kh, ki, k.2.2⟩, by rw [k.2.2]; omega⟩
  ·exact ⟨⟨by have := h.ge; omega, hno, fun _ => .inl k.1, fun _ => .inl k.2.1, fun _ => .inl kh, fun _ => .inr (by omega), (fun h => by cases h)⟩, .inl (by unfold secL; omega), by rw [k.2.2]; omega⟩
 ·have hb := cell_zt Z (u := u) (v := u - zt off u % 3600) (by omega) (by omega)
  obtain ⟨e1, e2⟩ := edge Z (u := u - zt off u % 3600) (by omega)
  rw [show u - zt off u % 3600 + 3600 = u + 1 by omega] at e1 e2
  have hz : secL (zt off (u + 1)) = 0 := by unfold secL; omega
  have hyr : yearL (zt off (u + 1)) ≤ yearL (zt off u) + 1 := year_day (zt off u) (zt off (u + 1)) (by rcases e2 with e | e; omega; unfold dNext at e; omega)
  rcases e2 with e2 | e2
  ·have k := keep_day hm hd (x := zt off (u + 1)) (by omega)
   exact ⟨⟨by have := h.ge; omega, hno, fun _ => .inl k.1, fun _ => .inl k.2.1, fun _ => .inr e1, fun _ => .inr (by omega), (fun h => by cases h)⟩, .inl hz, hyr⟩
  ·have e3 : zt off (u + 1) = dNext (zt off u) := by unfold dNext at *; omega
   exact ⟨⟨by have := h.ge; omega, hno, fun _ => next_day_month hm e3, fun _ => .inr (by rw [e3]; unfold dNext; omega), fun _ => .inr e1, fun _ => .inr (by omega), (fun h => by cases h)⟩, .inl hz, hyr⟩
end
end Go.Proofs.Ytlopkdhblfibkaa.Cal
namespace Go.Proofs.Ytlopkdhblfibkaa.Cal
open Go Go.RowKit Go.Proofs.YtlopkdhblfibkaaW.PrintWords Go.Proofs.YtlopkdhblfibkaaW.PrintLast
set_option linter.unusedVariables false
set_option linter.unusedSimpArgs false
def YOk (L : Int) : Prop := 0 ≤ yearL L ∧ (monthL L < 3 → 1 ≤ yearL L) ∧ yearL L ≤ 10100
theorem dayGo_month (X : Int) (hX : X = mFirst X * 86400) : mdayL X = 1 ∧ X % 86400 = 0 ∧ dayGo (yearL X) (monthL X + 1) 1 * 86400 = mNext X := by
 have hd := date_eq (L := X) (first_valid X) (by unfold dayL; unfold mFirst at hX; omega)
 obtain ⟨hv, -⟩ := date_L X
 obtain ⟨v1, v2, v3, v4⟩ := hv
 refine ⟨hd.2.2, by omega, ?_⟩
 unfold mNext mFirst dayGo
 generalize yearL X = y at *
 generalize monthL X = m at *
 congr 1
 split
 ·obtain rfl : m = 12 := by omega
  unfold dayOf
  rw [ystart_succ, cum_one]
  have h1 := cum_succ y 12 (by omega) (by omega)
  have h2 := cum_last y
  rw [show (12 : Int) + 1 = 13 from rfl] at h1
  omega
 ·have h1 := cum_succ y m v1 (by omega)
  unfold dayOf
  omega
end Go.Proofs.Ytlopkdhblfibkaa.Cal
namespace Go.Proofs.Ytlopkdhblfibkaa.Cal
open Go Go.RowKit Go.Proofs.YtlopkdhblfibkaaW.PrintWords Go.Proofs.YtlopkdhblfibkaaW.PrintLast
set_option linter.unusedVariables false
set_option linter.unusedSimpArgs false
def ucells (l : Option Addr) (u : Int) : Array Value := #[.int .u64 0, .int .i64 (u + 62135596800), .pointer l]
def UOk (u : Int) : Prop := EOk (u + 62135596800)
section
variable {l : Option Addr} {off : Int → Int} {Inv : World → Prop} {Loc : World → Nat → Prop} (H : ClockZ l off Inv Loc)
include H
theorem zYear (u : Int) (w : World) (hL : UOk u) (hI : Inv w) : Calls Try.prog 71 #[.agg (ucells l u)] w fun e' w' => e' = .returned (.int .i64 (yearL (zt off u))) ∧ Below w.heap.size w w' := by
 have := tYear_z H.abs 0 (u + 62135596800) w (by omega) (by omega) hL hI
 rw [show u + 62135596800 - 62135596800 = u by omega] at this
 exact this
theorem zMonth (u : Int) (w : World) (hL : UOk u) (hI : Inv w) : Calls Try.prog 72 #[.agg (ucells l u)] w fun e' w' => e' = .returned (.int .i64 (monthL (zt off u))) ∧ Below w.heap.size w w' := by
 have := tMonth_z H.abs 0 (u + 62135596800) w (by omega) (by omega) hL hI
 rw [show u + 62135596800 - 62135596800 = u by omega] at this
 exact this
theorem zDay (u : Int) (w : World) (hL : UOk u) (hI : Inv w) : Calls Try.prog 64 #[.agg (ucells l u)] w fun e' w' => e' = .returned (.int .i64 (mdayL (zt off u))) ∧ Below w.heap.size w w' := by
 have := tDay_z H.abs 0 (u + 62135596800) w (by omega) (by omega) hL hI
 rw [show u + 62135596800 - 62135596800 = u by omega] at this
 exact this
theorem zHour (u : Int) (w : World) (hL : UOk u) (hI : Inv w) : Calls Try.prog 76 #[.agg (ucells l u)] w fun e' w' => e' = .returned (.int .i64 (hourL (zt off u))) ∧ Below w.heap.size w w' := by
 have := tHour_z H.abs 0 (u + 62135596800) w (by omega) (by omega) hL hI
 rw [show u + 62135596800 - 62135596800 = u by omega] at this
 exact this
theorem zMinute (u : Int) (w : World) (hL : UOk u) (hI : Inv w) : Calls Try.prog 77 #[.agg (ucells l u)] w fun e' w' => e' = .returned (.int .i64 (minL (zt off u))) ∧ Below w.heap.size w w' := by
 have := tMinute_z H.abs 0 (u + 62135596800) w (by omega) (by omega) hL hI
 rw [show u + 62135596800 - 62135596800 = u by omega] at this
 exact this
theorem zSecond (u : Int) (w : World) (hL : UOk u) (hI : Inv w) : Calls Try.prog 79 #[.agg (ucells l u)] w fun e' w' => e' = .returned (.int .i64 (secL (zt off u))) ∧ Below w.heap.size w w' := by
 have := tSecond_z H.abs 0 (u + 62135596800) w (by omega) (by omega) hL hI
 rw [show u + 62135596800 - 62135596800 = u by omega] at this
 exact this
theorem zMatch (S : Sets) (hS : S.ok) (g : Nat) (loc : Option Addr) (u : Int) (w : World) (hL : UOk u) (hI : Inv w) (hg : SpecRow w g S loc) :
  Calls Try.prog 75 #[.pointer (some ⟨g, 0, none⟩), .agg (ucells l u)] w fun e' w' => e' = .returned (.bool (dayB S (zt off u))) ∧ Below w.heap.size w w' := by
 have := dayMatches_z H S hS g loc (u + 62135596800) w hL hI hg
 rw [show u + 62135596800 - 62135596800 = u by omega] at this
 exact this
omit H in
theorem zAdd (k u : Int) (w : World) (hL : UOk u) (hk0 : -1000000 ≤ k) (hk1 : k ≤ 1000000) : Calls Try.prog 67 #[.agg (ucells l u), .int .i64 (1000000000 * k)] w fun e' w' => e' = .returned (.agg (ucells l (u + k))) ∧ Below w.heap.size w w' := by
 have := addWhole_any k (u + 62135596800) l (by have := hL.1; omega) (by have := hL.2; omega) hk0 hk1 w
 rw [show u + 62135596800 + k = u + k + 62135596800 by omega] at this
 exact this
theorem zAddMonth (u : Int) (w : World) (hL : UOk u) (hI : Inv w) (hY : YOk (zt off u)) (hX : zt off u = mFirst (zt off u) * 86400) : Calls Try.prog 74 #[.agg (ucells l u), .int .i64 0, .int .i64 1, .int .i64 0] w fun e' w' => e' = .returned (.agg (ucells l (dt off (mNext (zt off u))))) ∧ Below w.heap.size w w' := by
 have := addDate_z H 1 0 (u + 62135596800) w hL hI
 rw [show u + 62135596800 - 62135596800 = u by omega] at this
 have e : u + off u = zt off u := rfl
 rw [e] at this
 generalize zt off u = X at *
 obtain ⟨h1, h2, h3⟩ := dayGo_month X hX
 rw [h1, show (1 : Int) + 0 = 1 from rfl, h3, show hourL X * 3600 + minL X * 60 + secL X = 0 by unfold hourL minL secL; omega, Int.add_zero] at this
 exact this hY.1 hY.2.1 hY.2.2 (.inl ⟨rfl, rfl⟩)
theorem zAddDay (u : Int) (w : World) (hL : UOk u) (hI : Inv w) (hY : YOk (zt off u)) (hX : zt off u % 86400 = 0) : Calls Try.prog 74 #[.agg (ucells l u), .int .i64 0, .int .i64 0, .int .i64 1] w fun e' w' => e' = .returned (.agg (ucells l (dt off (dNext (zt off u))))) ∧ Below w.heap.size w w' := by
 have := addDate_z H 0 1 (u + 62135596800) w hL hI
 rw [show u + 62135596800 - 62135596800 = u by omega] at this
 have e : u + off u = zt off u := rfl
 rw [e] at this
 generalize zt off u = X at *
 obtain ⟨hv, hd⟩ := date_L X
 have e : dayGo (yearL X) (monthL X + 0) (mdayL X + 1) * 86400 = dNext X := by
  unfold dayGo
  rw [Int.add_zero, if_neg (by have := hv.m2; omega)]
  unfold dayOf dayL at *
  unfold dNext
  omega
 rw [e, show hourL X * 3600 + minL X * 60 + secL X = 0 by unfold hourL minL secL; omega, Int.add_zero] at this
 exact this hY.1 hY.2.1 hY.2.2 (.inr ⟨rfl, rfl⟩)
theorem zDateMonth (L : Int) (k : Nat) (w : World) (hY : YOk L) (hk : Loc w k) : Calls Try.prog 73 #[.int .i64 (yearL L), .int .i64 (monthL L), .int .i64 1, .int .i64 0, .int .i64 0, .int .i64 0, .int .i64 0, .pointer (some ⟨k, 0, none⟩)] w fun e' w' => e' = .returned (.agg (ucells l (dt off (mFirst L * 86400)))) ∧ Below w.heap.size w w' := by
 obtain ⟨hv, hd⟩ := date_L L
 obtain ⟨v1, v2, v3, v4⟩ := hv
 have := H.date k (yearL L) (monthL L) 1 0 0 0 w hY.1 hY.2.2 v1 (by omega) (by omega) (by omega) hY.2.1 (by omega) (by omega) (by omega) (by omega) (by omega) (by omega) hk
 have e : dayGo (yearL L) (monthL L) 1 = mFirst L := by unfold dayGo mFirst; rw [if_neg (by omega)]
 rw [e, show ((0 : Int) * 3600 + 0 * 60 + 0) = 0 by omega, Int.add_zero] at this
 exact this
theorem zDateDay (L : Int) (k : Nat) (w : World) (hY : YOk L) (hk : Loc w k) : Calls Try.prog 73 #[.int .i64 (yearL L), .int .i64 (monthL L), .int .i64 (mdayL L), .int .i64 0, .int .i64 0, .int .i64 0, .int .i64 0, .pointer (some ⟨k, 0, none⟩)] w fun e' w' => e' = .returned (.agg (ucells l (dt off (L / 86400 * 86400)))) ∧ Below w.heap.size w w' := by
 obtain ⟨hv, hd⟩ := date_L L
 obtain ⟨v1, v2, v3, v4⟩ := hv
 have hb := mdays_bd (yearL L) (monthL L)
 have := H.date k (yearL L) (monthL L) (mdayL L) 0 0 0 w hY.1 hY.2.2 v1 (by omega) (by omega) (by omega) hY.2.1 (by omega) (by omega) (by omega) (by omega) (by omega) (by omega) hk
 have e : dayGo (yearL L) (monthL L) (mdayL L) = L / 86400 := by unfold dayGo; rw [if_neg (by omega)]; exact hd
 rw [e, show ((0 : Int) * 3600 + 0 * 60 + 0) = 0 by omega, Int.add_zero] at this
 exact this
theorem zDateHour (L : Int) (k : Nat) (w : World) (hY : YOk L) (hk : Loc w k) : Calls Try.prog 73 #[.int .i64 (yearL L), .int .i64 (monthL L), .int .i64 (mdayL L), .int .i64 (hourL L), .int .i64 0, .int .i64 0, .int .i64 0, .pointer (some ⟨k, 0, none⟩)] w fun e' w' => e' = .returned (.agg (ucells l (dt off (L / 3600 * 3600)))) ∧ Below w.heap.size w w' := by
 obtain ⟨hv, hd⟩ := date_L L
 obtain ⟨v1, v2, v3, v4⟩ := hv
 have hb := mdays_bd (yearL L) (monthL L)
 have hh : 0 ≤ hourL L ∧ hourL L < 24 := by unfold hourL; omega
 have := H.date k (yearL L) (monthL L) (mdayL L) (hourL L) 0 0 w hY.1 hY.2.2 v1 (by omega) (by omega) (by omega) hY.2.1 hh.1 hh.2 (by omega) (by omega) (by omega) (by omega) hk
 have e : dayGo (yearL L) (monthL L) (mdayL L) = L / 86400 := by unfold dayGo; rw [if_neg (by omega)]; exact hd
 rw [e, show L / 86400 * 86400 + (hourL L * 3600 + 0 * 60 + 0) = L / 3600 * 3600 by unfold hourL; omega] at this
 exact this
omit H in
theorem zTrunc60 (u : Int) (w : World) (h0 : 0 ≤ u + 62135596800) (hL : UOk u) : Calls Try.prog 78 #[.agg (ucells l u), .int .i64 60000000000] w fun e' w' => e' = .returned (.agg (ucells l (u / 60 * 60))) ∧ Below w.heap.size w w' := by
 have := trunc60_any (u + 62135596800) l h0 (by have := hL.2; omega) w
 rw [show u + 62135596800 - (u + 62135596800) % 60 = u / 60 * 60 + 62135596800 by omega] at this
 exact this
omit H in
theorem zTrunc1 (u : Int) (w : World) (h0 : 0 ≤ u + 62135596800) (hL : UOk u) : Calls Try.prog 78 #[.agg (ucells l u), .int .i64 1000000000] w fun e' w' => e' = .returned (.agg (ucells l u)) ∧ Below w.heap.size w w' :=
 trunc1_any (u + 62135596800) l h0 (by have := hL.2; omega) w
end
end Go.Proofs.Ytlopkdhblfibkaa.Cal
namespace Go.Proofs.Ytlopkdhblfibkaa.Cal
open Go Go.RowKit Go.Proofs.YtlopkdhblfibkaaW.PrintWords Go.Proofs.YtlopkdhblfibkaaW.PrintLast
set_option linter.unusedVariables false
set_option linter.unusedSimpArgs false
def loops : Code → List Code
 | .seq x y => loops x ++ loops y
 | .cond _ x y => loops x ++ loops y
 | .block _ c => loops c
 | .scope c => loops c
 | .loop c => [.loop c]
 | _ => []
def loopK (c : Code) (k : Nat) : Code := ((loops c)[k]?).getD .skip
def tcells (l : Option Addr) (off L : Int) : Array Value := #[.int .u64 0, .int .i64 (L + 62135596800 - off), .pointer l]
def zcells : Array Value := #[.int .u64 0, .int .i64 0, .pointer none]
def LocS (Loc : World → Nat → Prop) : Prop := ∀ (w w' : World) (k T : Nat) (n : Int) (x y : Value), Loc w k → w.heap[T]? = some (.cells #[.int .u64 n, x, y] 59 (0, 0)) → (∀ b, b ≠ T → w'.heap[b]? = w.heap[b]?) → w.heap.size ≤ w'.heap.size → Loc w' k
theorem locS_utc : LocS UtcAt := by
 intro w w' k T n x y ⟨h1, h2, h3⟩ hT hb hs
 have hne : k ≠ T := by
  intro e
  subst e
  rw [cell_of_row _ _ _ _ _ _ hT] at h1
  simp at h1
 exact ⟨(World.cell?_of_block (hb k hne)).trans h1, (World.cell?_of_block (hb k hne)).trans h2, by omega⟩
theorem year_one {L : Int} (h : -62135596800 ≤ L) : 1 ≤ yearL L := by
 have := year_mono h
 have e : yearL (-62135596800) = 1 := (date_eq (L := -62135596800) (y := 1) (m := 1) (d := 1) ⟨by omega, by omega, by omega, by decide⟩ (by decide)).1
 omega
theorem year_zero {L : Int} (h : -62135596800 - 86400 ≤ L) (h2 : L < -62135596800) : yearL L = 0 ∧ monthL L = 12 := by
 have := date_eq (L := L) (y := 0) (m := 12) (d := 31) ⟨by omega, by omega, by omega, by decide⟩ (by unfold dayL; rw [show dayOf 0 12 31 = -719163 from by decide]; omega)
 exact ⟨this.1, this.2.1⟩
theorem lim_lt {L y : Int} (h : yearL L ≤ y) : L < ystart (y + 1) * 86400 := by
 have h1 := (year_range L).2
 have := ystart_le (a := yearL L + 1) (b := y + 1) (by omega)
 omega
end Go.Proofs.Ytlopkdhblfibkaa.Cal
