/- Lemmas and walks on the way to the law, merged by wip/tools/pack.py: SpecT, SpecC, SpecD, SpecL, ZList, ZGood. Conditions: none. -/
import Derived.Test.YtlopkdhblfibkaaGrE
import Derived.Test.YtlopkdhblfibkaaWEqStructT
import Derived.BigQuiet
import Derived.Test.YtlopkdhblfibkaaPrA
import Derived.Test.YtlopkdhblfibkaaGrA
namespace Go.Proofs.Ytlopkdhblfibkaa.CronN
open Go Go.RowKit Go.Proofs.YtlopkdhblfibkaaW.PrintWords Go.Proofs.YtlopkdhblfibkaaW.PrintLast Go.Proofs.Ytlopkdhblfibkaa.Cal Go.Proofs.Ytlopkdhblfibkaa.Pr
set_option linter.unusedVariables false
set_option linter.unusedSimpArgs false
def FieldsAt (w : World) (g : Nat) (S : Sets) : Prop := w.heap[g]? = some (.cells (fieldsC S) 40 (0, 0))
theorem FieldsAt.below {w w' : World} {g : Nat} {S : Sets} (h : FieldsAt w g S) (hb : Below w.heap.size w w') : FieldsAt w' g S := (hb.block g (Array.getElem?_eq_some_iff.1 h).1).trans h
theorem FieldsAt.star {w : World} {g : Nat} {S : Sets} (h : FieldsAt w g S) (k : Nat) (hk : k < 6) : w.cell? ⟨g, k * 64, none⟩ = some (.bool (inB (bitsK S k) 63)) := (cell_of_row _ _ _ _ _ _ h).trans (fieldsC_star S k hk)
theorem FieldsAt.at_ {w : World} {g : Nat} {S : Sets} (h : FieldsAt w g S) (k v : Nat) (hk : k < 6) (hv : v < 63) : w.cell? ⟨g, k * 64 + (v + 1), none⟩ = some (.bool (memB (loF k) (hiF k) (bitsK S k) v)) := (cell_of_row _ _ _ _ _ _ h).trans (fieldsC_at S k v hk hv)
theorem fieldsAt_new (w : World) (S : Sets) : FieldsAt (w.alloc (.cells (fieldsC S) 40)) w.heap.size S := heap_alloc_new w _
theorem eqItems_bool (d : Nat) (w : World) (p q : Nat → Bool) (xs ys : Array Value) : ∀ is : List Nat, (∀ i ∈ is, xs[i]? = some (.bool (p i)) ∧ ys[i]? = some (.bool (q i))) →
  (Op.eqItems (d + 1) 4 1 xs ys is).run Try.prog w = .ok (is.all fun i => p i == q i) w
 | [], _ => by simp [Op.eqItems]
 | i :: is, h => by
  obtain ⟨hx, hy⟩ := h i (by simp)
  have ih := eqItems_bool d w p q xs ys is (fun j hj => h j (by simp [hj]))
  have hp : Try.prog.plainKey 4 = true := by kernel_rfl
  have h1 : (part 4 xs (i * 1)).run Try.prog w = .ok (.bool (p i)) w := run_part_plain w hp (by rw [Nat.mul_one]; exact hx)
  have h2 : (part 4 ys (i * 1)).run Try.prog w = .ok (.bool (q i)) w := run_part_plain w hp (by rw [Nat.mul_one]; exact hy)
  have h3 : (Op.equalIn (d + 1) 4 (.bool (p i)) (.bool (q i))).run Try.prog w = .ok (p i == q i) w := by simp [Op.equalIn, run_underlying Try.underlying4]
  simp only [Op.eqItems, Sem.run_bind, h1, h2, h3, Result.andThen_ok, List.all_cons]
  cases hq : (p i == q i)
  ·simp
  ·simpa using ih
def eqB (p q : Nat → Bool) : Bool := (List.range 63).all fun i => p i == q i
theorem eqIn (d : Nat) (w : World) (p q : Nat → Bool) : (Op.equalIn (d + 2) 36 (.agg (inCells p)) (.agg (inCells q))).run Try.prog w = .ok (eqB p q) w := by
 obtain ⟨i, hi⟩ : ∃ i, Try.prog.info? 4 = some i := Option.isSome_iff_exists.1 (by kernel_rfl)
 rw [run_equalIn_array w (d + 1) _ _ Try.underlying36 hi, show Try.prog.cellsOf 4 = 1 by kernel_rfl]
 exact eqItems_bool d w p q _ _ _ (fun j hj => ⟨inCells_at p j (List.mem_range.1 hj), inCells_at q j (List.mem_range.1 hj)⟩)
attribute [local go_sem high] eqIn
theorem run_field_in (w : World) : (Instr.field 38 (.agg (setCells false noSet)) 1).run Try.prog w = .ok (.agg (inCells noSet)) w := by kernel_rfl
def emptyB (p : Nat → Bool) : Bool := eqB p noSet
set_option maxRecDepth 100000 in
theorem cronEmpty_any (st : Bool) (p : Nat → Bool) (w : World) :
  Calls Try.prog 39 #[.agg (setCells st p)] w fun e w' => e = .returned (.bool (emptyB p)) ∧ Below w.heap.size w w' := by
 have hbx := run_box_set st p
 have HS := Lib.hid (isSet_new w st p)
 go_enter Try.func39, Try.ntmps39
 have hfi := run_field_in
 go_wp2_with (first | (refine wpList_load_in rfl _ rfl w.heap.size st p rfl HS.out ?_) | (refine wpList_build_set rfl rfl ?_))
 go_ret
 exact ⟨rfl, (Below.refl _ _).alloc (Nat.le_refl _) _⟩
set_option maxRecDepth 100000 in
set_option maxHeartbeats 4000000 in
theorem dayFits_any (S : Sets) (y m d wd : Int) (hd0 : 1 ≤ d) (hd1 : d ≤ 31) (hw0 : 0 ≤ wd) (hw1 : wd < 7) (w : World) :
  Calls Try.prog 27 #[.agg (fieldsC S), .agg #[.int .i64 y, .int .i64 m, .int .i64 d], .int .i64 wd] w fun e w' =>
   e = .returned (.bool (if inB S.dom 63 || inB S.dow 63 then inB S.dom d && inB S.dow wd else inB S.dom d || inB S.dow wd)) ∧ Below w.heap.size w w' := by
 obtain ⟨dn, rfl⟩ : ∃ n : Nat, d = n := ⟨d.toNat, by omega⟩
 obtain ⟨wn, rfl⟩ : ∃ n : Nat, wd = n := ⟨wd.toNat, by omega⟩
 go_enter Try.func27, Try.ntmps27
 go_upto_region 1 with fail
 generalize hW : World.alloc (World.alloc w _) _ = wo
 have hf : FieldsAt wo w.heap.size S := by rw [← hW]; exact (((Below.refl _ _).alloc (Nat.le_refl _) _).block w.heap.size (by simp)).trans (fieldsAt_new w S)
 have hdr : wo.heap[w.heap.size + 1]? = some (.cells #[.int .i64 y, .int .i64 m, .int .i64 (dn : Int)] 47 (0, 0)) := by rw [← hW]; exact heap_two w _ _
 have hB : Below w.heap.size w wo := by rw [← hW]; exact ((Below.refl _ _).alloc (Nat.le_refl _) _).alloc (by simp) _
 clear hW
 have k1 : wo.cell? ⟨w.heap.size + 1, 2, none⟩ = some (.int .i64 (dn : Int)) := cell_of_row _ _ _ _ _ _ hdr
 have k2 : wo.cell? ⟨w.heap.size, 193 + dn, none⟩ = some (.bool (inB S.dom (dn : Int))) := by
  have := hf.at_ 3 dn (by omega) (by omega)
  rw [show 3 * 64 + (dn + 1) = 193 + dn by omega] at this
  rw [this]
  unfold memB inB bitsK loF hiF
  simp [show 1 ≤ dn by omega, show dn ≤ 31 by omega]
 have k3 : wo.cell? ⟨w.heap.size, 321 + wn, none⟩ = some (.bool (inB S.dow (wn : Int))) := by
  have := hf.at_ 5 wn (by omega) (by omega)
  rw [show 5 * 64 + (wn + 1) = 321 + wn by omega] at this
  rw [this]
  unfold memB inB bitsK loF hiF
  simp [show wn ≤ 6 by omega]
 have k4 : wo.cell? ⟨w.heap.size, 192, none⟩ = some (.bool (inB S.dom 63)) := hf.star 3 (by omega)
 have k5 : wo.cell? ⟨w.heap.size, 320, none⟩ = some (.bool (inB S.dow 63)) := hf.star 5 (by omega)
 have b1 : (dn : Int) < 63 := by omega
 have b2 : (0 : Int) ≤ dn := by omega
 have b3 : (wn : Int) < 63 := by omega
 have b4 : (0 : Int) ≤ wn := by omega
 clear hf hdr
 refine start_ (n := 13) (S := fun w' => w'.cell? ⟨w.heap.size + 1, 2, none⟩ = some (.int .i64 (dn : Int)) ∧ w'.cell? ⟨w.heap.size, 193 + dn, none⟩ = some (.bool (inB S.dom (dn : Int))) ∧ w'.cell? ⟨w.heap.size, 321 + wn, none⟩ = some (.bool (inB S.dow (wn : Int))) ∧ w'.cell? ⟨w.heap.size, 192, none⟩ = some (.bool (inB S.dom 63)) ∧ w'.cell? ⟨w.heap.size, 320, none⟩ = some (.bool (inB S.dow 63)) ∧ Below w.heap.size w w') (ds := []) #[false, false, false, false, false, false, false, false, false, false, false, false, false] (by kernel_rfl) rfl rfl ⟨k1, k2, k3, k4, k5, hB.drew⟩ (fun hHeld => ?_)
 refine pure_ (i := 0) (N := some 9) (v := ?_) (a' := ?_) #[true, false, false, false, false, false, false, false, false, false, false, false, false] rfl rfl (by kernel_rfl) (fun _ _ _ h => h) (Or.inl ⟨by rfl, ?_⟩) ?_ ?_
 rotate_left
 ·intro w'
  go_simp
  with_reducible rfl
 rotate_left
 ·simp only [Act.put, List.setIfInBounds_toArray, List.set_cons_zero, List.set_cons_succ, i64_w, i32_w]
  rfl
 refine pure_ (i := 2) (N := some 11) (v := ?_) (a' := ?_) #[true, false, true, false, false, false, false, false, false, false, false, false, false] rfl rfl (by kernel_rfl) (fun _ _ _ h => h) (Or.inl ⟨by rfl, ?_⟩) ?_ ?_
 rotate_left
 ·intro w'
  go_simp
  with_reducible rfl
 rotate_left
 ·simp only [Act.put, List.setIfInBounds_toArray, List.set_cons_zero, List.set_cons_succ, i64_w, i32_w]
  rfl
 refine pure_ (i := 3) (N := some 12) (v := ?_) (a' := ?_) #[true, false, true, true, false, false, false, false, false, false, false, false, false] rfl rfl (by kernel_rfl) (fun _ _ _ h => h) (Or.inl ⟨by rfl, ?_⟩) ?_ ?_
 rotate_left
 ·intro w'
  go_simp
  with_reducible rfl
 rotate_left
 ·simp only [Act.put, List.setIfInBounds_toArray, List.set_cons_zero, List.set_cons_succ, i64_w, i32_w]
  rfl
 refine pure_ (i := 6) (N := some 15) (v := ?_) (a' := ?_) #[true, false, true, true, false, false, true, false, false, false, false, false, false] rfl rfl (by kernel_rfl) (fun _ _ _ h => h) (Or.inl ⟨by rfl, ?_⟩) ?_ ?_
 rotate_left
 ·intro w'
  go_simp
  with_reducible rfl
 rotate_left
 ·simp only [Act.put, List.setIfInBounds_toArray, List.set_cons_zero, List.set_cons_succ, i64_w, i32_w]
  rfl
 refine pure_ (i := 7) (N := some 16) (v := ?_) (a' := ?_) #[true, false, true, true, false, false, true, true, false, false, false, false, false] rfl rfl (by kernel_rfl) (fun _ _ _ h => h) (Or.inl ⟨by rfl, ?_⟩) ?_ ?_
 rotate_left
 ·intro w'
  go_simp
  with_reducible rfl
 rotate_left
 ·simp only [Act.put, List.setIfInBounds_toArray, List.set_cons_zero, List.set_cons_succ, i64_w, i32_w]
  rfl
 refine pure_ (i := 8) (N := some 17) (v := ?_) (a' := ?_) #[true, false, true, true, false, false, true, true, true, false, false, false, false] rfl rfl (by kernel_rfl) (fun _ _ _ h => h) (Or.inl ⟨by rfl, ?_⟩) ?_ ?_
 rotate_left
 ·intro w'
  go_simp
  with_reducible rfl
 rotate_left
 ·simp only [Act.put, List.setIfInBounds_toArray, List.set_cons_zero, List.set_cons_succ, i64_w, i32_w]
  rfl
 refine pure_ (i := 9) (N := some 18) (v := ?_) (a' := ?_) #[true, false, true, true, false, false, true, true, true, true, false, false, false] rfl rfl (by kernel_rfl) (fun _ _ _ h => h) (Or.inl ⟨by rfl, ?_⟩) ?_ ?_
 rotate_left
 ·intro w'
  go_simp
  with_reducible rfl
 rotate_left
 ·simp only [Act.put, List.setIfInBounds_toArray, List.set_cons_zero, List.set_cons_succ, i64_w, i32_w]
  rfl
 refine take_ (i := 1) (N := some 10) (v := ?_) (a' := ?_) #[true, true, true, true, false, false, true, true, true, true, false, false, false] rfl rfl (by kernel_rfl) (fun _ _ _ h => h) (Or.inl ⟨by rfl, ?_⟩) hHeld ?_ ?_
 rotate_left
 ·rintro w' ⟨s0, s1, s2, s3, s4, s5⟩
  go_simp
  with_reducible rfl
 rotate_left
 ·simp only [Act.put, List.setIfInBounds_toArray, List.set_cons_zero, List.set_cons_succ, i64_w, i32_w]
  rfl
 refine pure_ (i := 4) (N := some 13) (v := ?_) (a' := ?_) #[true, true, true, true, true, false, true, true, true, true, false, false, false] rfl rfl (by kernel_rfl) (fun _ _ _ h => h) (Or.inl ⟨by rfl, ?_⟩) ?_ ?_
 rotate_left
 ·intro w'
  go_simp
  with_reducible rfl
 rotate_left
 ·simp only [Act.put, List.setIfInBounds_toArray, List.set_cons_zero, List.set_cons_succ, i64_w, i32_w]
  rfl
 refine take_ (i := 5) (N := some 14) (v := ?_) (a' := ?_) #[true, true, true, true, true, true, true, true, true, true, false, false, false] rfl rfl (by kernel_rfl) (fun _ _ _ h => h) (Or.inl ⟨by rfl, ?_⟩) hHeld ?_ ?_
 rotate_left
 ·rintro w' ⟨s0, s1, s2, s3, s4, s5⟩
  go_simp
  with_reducible rfl
 rotate_left
 ·simp only [Act.put, List.setIfInBounds_toArray, List.set_cons_zero, List.set_cons_succ, i64_w, i32_w]
  rfl
 refine pure_ (i := 11) (N := some 7) (v := ?_) (a' := ?_) #[true, true, true, true, true, true, true, true, true, true, false, true, false] rfl rfl (by kernel_rfl) (fun _ _ _ h => h) (Or.inl ⟨by rfl, ?_⟩) ?_ ?_
 rotate_left
 ·intro w'
  go_simp
  with_reducible rfl
 rotate_left
 ·simp only [Act.put, List.setIfInBounds_toArray, List.set_cons_zero, List.set_cons_succ, i64_w, i32_w]
  rfl
 refine take_ (i := 10) (N := some 19) (v := ?_) (a' := ?_) #[true, true, true, true, true, true, true, true, true, true, true, true, false] rfl rfl (by kernel_rfl) (fun _ _ _ h => h) (Or.inl ⟨by rfl, ?_⟩) hHeld ?_ ?_
 rotate_left
 ·rintro w' ⟨s0, s1, s2, s3, s4, s5⟩
  go_simp
  with_reducible rfl
 rotate_left
 ·simp only [Act.put, List.setIfInBounds_toArray, List.set_cons_zero, List.set_cons_succ, i64_w, i32_w]
  rfl
 refine pure_ (i := 12) (N := some 8) (v := ?_) (a' := ?_) #[true, true, true, true, true, true, true, true, true, true, true, true, true] rfl rfl (by kernel_rfl) (fun _ _ _ h => h) (Or.inl ⟨by rfl, ?_⟩) ?_ ?_
 rotate_left
 ·intro w'
  go_simp
  with_reducible rfl
 rotate_left
 ·simp only [Act.put, List.setIfInBounds_toArray, List.set_cons_zero, List.set_cons_succ, i64_w, i32_w]
  rfl
 refine done_ (by kernel_rfl) ?_
 obtain ⟨-, -, -, k4, k5, hB2⟩ := hHeld
 clear k1 k2 k3
 cases h3 : inB S.dom 63 <;> cases h4 : inB S.dow 63 <;> rw [h3] at k4 <;> rw [h4] at k5 <;> cases h1 : inB S.dom (dn : Int) <;> cases h2 : inB S.dow (wn : Int)
 all_goals
  go_wp2_with fail
  all_goals
   go_ret
   exact ⟨by simp [h1, h2, h3, h4], hB2⟩
end Go.Proofs.Ytlopkdhblfibkaa.CronN
namespace Go.Proofs.Ytlopkdhblfibkaa.CronN
open Go Go.RowKit Go.Proofs.YtlopkdhblfibkaaW.PrintWords Go.Proofs.YtlopkdhblfibkaaW.PrintLast Go.Proofs.Ytlopkdhblfibkaa.Cal Go.Proofs.Ytlopkdhblfibkaa.Pr
set_option linter.unusedVariables false
set_option linter.unusedSimpArgs false
theorem FieldsAt.range {w : World} {g : Nat} {S : Sets} (h : FieldsAt w g S) (k : Nat) (hk : k < 6) : w.rangeAt g (k * 64) (setK S k).toList := by
 intro t x hx
 have ht : t < 64 := by
  have := (List.getElem?_eq_some_iff.1 hx).1
  rw [Array.length_toList, show (setK S k).size = 64 from setCells_size _ _] at this
  exact this
 rw [cell_of_row _ _ _ _ _ _ h]
 unfold fieldsC
 rw [List.getElem?_toArray, rowsK_at S 6 k t hk ht]
 simpa using hx
section
variable {ops : Array Oper} {rest : List Oper} {o : Oper} {a : Act} {w : World} {Q : Exit → Act → World → Prop}
theorem wpList_load_K (hw : Region.wanted o (yielded ops a.tmps) = true) (x : Operand) (ho : o.op = .load 38 x) (g : Nat) (S : Sets) (k : Nat) (hk : k < 6) (n : Nat) (hn : n = k * 64)
  (hx : a.eval x = .pointer (some ⟨g, n, none⟩)) (hs : FieldsAt w g S) (h : wpList Try.prog ops Q rest (a.put o.dst (.agg (setK S k))) w) : wpList Try.prog ops Q (o :: rest) a w := by
 subst hn
 refine wpList_step fun K hK => ?_
 rw [if_pos hw]
 exact wp_load_mid 38 x ho g (k * 64) hx (setK S k).toList _ (hs.range k hk) Try.underlying38 rfl (by rw [setSize, Array.length_toList]; exact congrArg some (setCells_size _ _).symm) (hK _ _ h)
end
def emptyK (S : Sets) (k : Nat) : Bool := emptyB (memB (loF k) (hiF k) (bitsK S k))
theorem emptyK_any (S : Sets) (k : Nat) (w : World) : Calls Try.prog 39 #[.agg (setK S k)] w fun e w' => e = .returned (.bool (emptyK S k)) ∧ Below w.heap.size w w' := cronEmpty_any _ _ w
def neverB (S : Sets) : Bool := emptyK S 2 || (emptyK S 1 || emptyK S 0)
set_option maxRecDepth 100000 in
set_option maxHeartbeats 4000000 in
theorem cronNever_any (S : Sets) (w : World) :
  Calls Try.prog 25 #[.agg (fieldsC S)] w fun e w' => e = .returned (.bool (neverB S)) ∧ Below w.heap.size w w' := by
 have HE := Lib.hid (fun k w' => emptyK_any S k w')
 have HF := Lib.hid (fieldsAt_new w S)
 go_enter Try.func25, Try.ntmps25
 go_wp2_with (refine wpList_load_K (by rfl) _ rfl w.heap.size S 2 (by omega) 128 rfl rfl HF.out ?_)
 refine (HE.out 2 _).mono ?_
 rintro e w1 ⟨rfl, hb1⟩
 have HF1 := Lib.hid (HF.out.below hb1)
 have hB1 := below_le ((Below.refl w.heap.size w).alloc (Nat.le_refl _) _) hb1
 clear hb1
 cases h2 : emptyK S 2 with
 | true =>
  go_wp2_with fail
  all_goals
   go_ret
   exact ⟨by simp [neverB, h2], hB1⟩
 | false =>
  go_wp2_with (refine wpList_load_K (by rfl) _ rfl w.heap.size S 1 (by omega) 64 rfl rfl HF1.out ?_)
  refine (HE.out 1 _).mono ?_
  rintro e w2 ⟨rfl, hb2⟩
  have HF2 := Lib.hid (HF1.out.below hb2)
  have hB2 := below_le hB1 hb2
  clear hb2
  cases h1 : emptyK S 1 with
  | true =>
   go_wp2_with fail
   all_goals
    go_ret
    exact ⟨by simp [neverB, h2, h1], hB2⟩
  | false =>
   go_wp2_with (refine wpList_load_K (by rfl) _ rfl w.heap.size S 0 (by omega) 0 rfl rfl HF2.out ?_)
   refine (HE.out 0 _).mono ?_
   rintro e w3 ⟨rfl, hb3⟩
   have hB3 := below_le hB2 hb3
   clear hb3
   cases h0 : emptyK S 0
   all_goals
    go_wp2_with fail
    all_goals
     go_ret
     exact ⟨by simp [neverB, h2, h1, h0], hB3⟩
def TimeIn (S : Sets) (t : Int) : Prop := inB S.hour (t / 3600) = true ∧ inB S.min (t % 3600 / 60) = true ∧ inB S.sec (t % 60) = true
def NoT (S : Sets) (f X : Int) : Prop := ∀ t, f ≤ t → t < X → ¬ TimeIn S t
theorem mem_no {hi b q : Nat} (hq : q ≤ hi) (h : memB 0 hi b q = false) : inB b (q : Int) = false := by
 unfold memB at h
 unfold inB
 simp [hq] at h
 simpa using h
theorem NoT.hour {S : Sets} {f : Int} {q : Nat} (h : NoT S f (3600 * (q : Int))) (h24 : q < 24) (hm : memB 0 23 S.hour q = false) : NoT S f (3600 * ((q + 1 : Nat) : Int)) := by
 intro t h1 h2 ht
 by_cases hx : t < 3600 * (q : Int)
 ·exact h t h1 hx ht
 ·have := ht.1
  rw [show t / 3600 = (q : Int) by omega, mem_no (by omega) hm] at this
  cases this
theorem NoT.min {S : Sets} {f : Int} {q m : Nat} (h : NoT S f (3600 * (q : Int) + 60 * (m : Int))) (h60 : m < 60) (hm : memB 0 59 S.min m = false) : NoT S f (3600 * (q : Int) + 60 * ((m + 1 : Nat) : Int)) := by
 intro t h1 h2 ht
 by_cases hx : t < 3600 * (q : Int) + 60 * (m : Int)
 ·exact h t h1 hx ht
 ·have := ht.2.1
  rw [show t % 3600 / 60 = (m : Int) by omega, mem_no (by omega) hm] at this
  cases this
theorem NoT.early {S : Sets} {f : Int} {q m : Nat} (h : 3600 * (q : Int) + 60 * m + 59 < f) : NoT S f (3600 * (q : Int) + 60 * ((m + 1 : Nat) : Int)) := fun t h1 h2 => by omega
theorem NoT.sec {S : Sets} {f : Int} {q m s : Nat} (h : NoT S f (3600 * (q : Int) + 60 * (m : Int) + (s : Int))) (h60 : s < 60) (hm : memB 0 59 S.sec s = false) : NoT S f (3600 * (q : Int) + 60 * (m : Int) + ((s + 1 : Nat) : Int)) := by
 intro t h1 h2 ht
 by_cases hx : t < 3600 * (q : Int) + 60 * (m : Int) + (s : Int)
 ·exact h t h1 hx ht
 ·have := ht.2.2
  rw [show t % 60 = (s : Int) by omega, mem_no (by omega) hm] at this
  cases this
theorem NoT.first {S : Sets} {f : Nat} {q m : Nat} (h : NoT S f (3600 * (q : Int) + 60 * (m : Int))) : NoT S f (3600 * (q : Int) + 60 * (m : Int) + ((f - (3600 * q + 60 * m) : Nat) : Int)) := by
 intro t h1 h2 ht
 exact h t h1 (by omega) ht
theorem NoT.same {S : Sets} {f X Y : Int} (h : NoT S f X) (e : X = Y) : NoT S f Y := e ▸ h
set_option maxRecDepth 100000 in
set_option maxHeartbeats 4000000 in
theorem cronTime_any (S : Sets) (fr : Nat) (hf : fr < 86400) (w : World) :
  Calls Try.prog 29 #[.agg (fieldsC S), .int .i64 fr] w fun e w' =>
   (∃ r : Int, e = .returned (.int .i64 r) ∧ (0 ≤ r → (fr : Int) ≤ r ∧ r < 86400 ∧ TimeIn S r) ∧ NoT S fr (if 0 ≤ r then r else 86400)) ∧ Below w.heap.size w w' := by
 have hq : Int.tdiv (fr : Int) 3600 = ((fr / 3600 : Nat) : Int) := by rw [Int.tdiv_eq_ediv_of_nonneg (by omega)]; omega
 go_enter Try.func29, Try.ntmps29
 go_wp2_with fail
 generalize hW : World.alloc w _ = wo
 have HF : Hid (FieldsAt wo w.heap.size S) := Lib.hid (by rw [← hW]; exact fieldsAt_new w S)
 have hB : Below w.heap.size w wo := by rw [← hW]; exact (Below.refl _ _).alloc (Nat.le_refl _) _
 clear hW
 go_loopw [5] (fun v5 wr => ∃ q : Nat, v5 = .int .i64 q ∧ fr / 3600 ≤ q ∧ q ≤ 24 ∧ Hid (NoT S fr (3600 * (q : Int))) ∧ wr = wo) (fun v5 _ => 24 - (intOf v5).toNat)
 case atStart => exact ⟨fr / 3600, by push_cast; rfl, by omega, by omega, Lib.hid (fun t h1 h2 => by omega), rfl⟩
 case round =>
  obtain ⟨q, rfl, h0, h1, HN, hwr⟩ := hrel
  have hwr' := hwr.symm
  clear hwr
  subst hwr'
  by_cases h24 : q < 24
  ·have hd : decide ((q : Int) < 24) = true := decide_eq_true (by omega)
   have hc : wo.cell? ⟨w.heap.size, 129 + q, none⟩ = some (.bool (memB 0 23 S.hour q)) := by
    have := HF.out.at_ 2 q (by omega) (by omega)
    rw [show 2 * 64 + (q + 1) = 129 + q by omega] at this
    exact this
   have hp1 : (0 : Int) ≤ q := by omega
   have hp2 : (q : Int) < 63 := by omega
   cases hm : memB 0 23 S.hour q with
   | false =>
    rw [hm] at hc
    go_wp2_with fail
    exact ⟨⟨q + 1, by push_cast; rfl, by omega, by omega, Lib.hid (HN.out.hour h24 hm), trivial⟩, by simp [intOf]; omega⟩
   | true =>
    rw [hm] at hc
    have HH : Hid (S.hour.testBit q = true) := Lib.hid (by unfold memB at hm; simp at hm; exact hm.2)
    go_wp2_with fail
    go_loopw [21] (fun v21 wr => ∃ m : Nat, v21 = .int .i64 m ∧ m ≤ 60 ∧ Hid (NoT S fr (3600 * (q : Int) + 60 * (m : Int))) ∧ wr = wo) (fun v21 _ => 60 - (intOf v21).toNat)
    case atStart => exact ⟨0, rfl, by omega, Lib.hid (HN.out.same (by simp)), rfl⟩
    case round =>
     obtain ⟨m, rfl, m1, HNM, hwr⟩ := hrel
     have hwr' := hwr.symm
     clear hwr
     subst hwr'
     by_cases m60 : m < 60
     ·have hdm : decide ((m : Int) < 60) = true := decide_eq_true (by omega)
      have hcm : wo.cell? ⟨w.heap.size, 65 + m, none⟩ = some (.bool (memB 0 59 S.min m)) := by
       have := HF.out.at_ 1 m (by omega) (by omega)
       rw [show 1 * 64 + (m + 1) = 65 + m by omega] at this
       exact this
      have hq1 : (0 : Int) ≤ m := by omega
      have hq2 : (m : Int) < 63 := by omega
      cases hmm : memB 0 59 S.min m with
      | false =>
       rw [hmm] at hcm
       go_wp2_with fail
       all_goals exact ⟨⟨m + 1, by push_cast; rfl, by omega, Lib.hid (HNM.out.min m60 hmm), trivial⟩, by simp [intOf]; omega⟩
      | true =>
       rw [hmm] at hcm
       have HM : Hid (S.min.testBit m = true) := Lib.hid (by unfold memB at hmm; simp at hmm; exact hmm.2)
       by_cases hlt : 3600 * (q : Int) + 60 * m + 59 < fr
       ·have hdl : decide (3600 * (q : Int) + 60 * m + 59 < fr) = true := decide_eq_true hlt
        go_wp2_with fail
        all_goals exact ⟨⟨m + 1, by push_cast; rfl, by omega, Lib.hid (NoT.early hlt), trivial⟩, by simp [intOf]; omega⟩
       ·have hdl : decide (3600 * (q : Int) + 60 * m + 59 < fr) = false := decide_eq_false hlt
        go_wp2_with fail
        all_goals
         go_loopw [8] (fun v8 wr => ∃ s : Nat, v8 = .int .i64 s ∧ fr ≤ 3600 * q + 60 * m + s ∧ s ≤ 60 ∧ Hid (NoT S fr (3600 * (q : Int) + 60 * (m : Int) + (s : Int))) ∧ wr = wo) (fun v8 _ => 60 - (intOf v8).toNat)
         case atStart => first | exact ⟨0, rfl, by omega, by omega, Lib.hid (HNM.out.same (by simp)), rfl⟩ | exact ⟨fr - (3600 * q + 60 * m), by congr 1; omega, by omega, by omega, Lib.hid HNM.out.first, rfl⟩
         case round =>
          obtain ⟨s, rfl, s0, s1, HNS, hwr⟩ := hrel
          have hwr' := hwr.symm
          clear hwr
          subst hwr'
          by_cases s60 : s < 60
          ·have hds : decide ((s : Int) < 60) = true := decide_eq_true (by omega)
           have hcs : wo.cell? ⟨w.heap.size, 1 + s, none⟩ = some (.bool (memB 0 59 S.sec s)) := by
            have := HF.out.at_ 0 s (by omega) (by omega)
            rw [show 0 * 64 + (s + 1) = 1 + s by omega] at this
            exact this
           have hr1 : (0 : Int) ≤ s := by omega
           have hr2 : (s : Int) < 63 := by omega
           cases hss : memB 0 59 S.sec s with
           | false =>
            rw [hss] at hcs
            go_wp2_with fail
            exact ⟨⟨s + 1, by push_cast; rfl, by omega, by omega, Lib.hid (HNS.out.sec s60 hss), trivial⟩, by simp [intOf]; omega⟩
           | true =>
            rw [hss] at hcs
            have HS : S.sec.testBit s = true := by unfold memB at hss; simp at hss; exact hss.2
            go_wp2_with fail
            go_ret
            refine ⟨⟨3600 * (q : Int) + 60 * m + s, rfl, fun _ => ⟨by omega, by omega, ?_, ?_, ?_⟩, by rw [if_pos (by omega)]; exact HNS.out⟩, hB⟩
            ·unfold inB; rw [show ((3600 * (q : Int) + 60 * m + s) / 3600).toNat = q by omega]; exact HH.out
            ·unfold inB; rw [show ((3600 * (q : Int) + 60 * m + s) % 3600 / 60).toNat = m by omega]; exact HM.out
            ·unfold inB; rw [show ((3600 * (q : Int) + 60 * m + s) % 60).toNat = s by omega]; exact HS
          ·have hds : decide ((s : Int) < 60) = false := decide_eq_false (by omega)
           go_wp2_with fail
           exact ⟨⟨m + 1, by push_cast; rfl, by omega, Lib.hid (HNS.out.same (by push_cast; omega)), trivial⟩, by simp [intOf]; omega⟩
     ·have hdm : decide ((m : Int) < 60) = false := decide_eq_false (by omega)
      go_wp2_with fail
      exact ⟨⟨q + 1, by push_cast; rfl, by omega, by omega, Lib.hid (HNM.out.same (by push_cast; omega)), trivial⟩, by simp [intOf]; omega⟩
  ·have hd : decide ((q : Int) < 24) = false := decide_eq_false (by omega)
   go_wp2_with fail
   go_ret
   exact ⟨⟨-1, rfl, (fun h => by omega), by rw [if_neg (by omega)]; exact HN.out.same (by omega)⟩, hB⟩
end Go.Proofs.Ytlopkdhblfibkaa.CronN
namespace Go.Proofs.Ytlopkdhblfibkaa.CronN
open Go Go.RowKit Go.Proofs.YtlopkdhblfibkaaW.PrintWords Go.Proofs.YtlopkdhblfibkaaW.PrintLast Go.Proofs.Ytlopkdhblfibkaa.Cal Go.Proofs.Ytlopkdhblfibkaa.Pr
set_option linter.unusedVariables false
set_option linter.unusedSimpArgs false
theorem fd (a b : Int) (hb : 0 < b) : (if Int.tmod a b < 0 then Int.tdiv a b - 1 else Int.tdiv a b) = a / b := by
 by_cases h : 0 ≤ a
 ·rw [Int.tdiv_eq_ediv_of_nonneg h, Int.tmod_eq_emod_of_nonneg h]
  have := Int.emod_nonneg a (by omega : b ≠ 0)
  rw [if_neg (by omega)]
 ·obtain ⟨n, rfl⟩ : ∃ n, a = -n := ⟨-a, by omega⟩
  have hn : 0 < n := by omega
  rw [Int.neg_tdiv, Int.neg_tmod, Int.tdiv_eq_ediv_of_nonneg (by omega), Int.tmod_eq_emod_of_nonneg (by omega)]
  have h1 := Int.emod_nonneg n (by omega : b ≠ 0)
  have h2 := Int.emod_lt_of_pos n hb
  have h3 := Int.mul_ediv_add_emod n b
  generalize n / b = q at *
  generalize n % b = r at *
  symm
  split
  ·refine ((Int.ediv_emod_unique (a := -n) (b := b) (r := b - r) (q := -q - 1) hb).2 ⟨?_, by omega, by omega⟩).1
   rw [Int.mul_sub, Int.mul_neg]
   omega
  ·refine ((Int.ediv_emod_unique (a := -n) (b := b) (r := 0) (q := -q) hb).2 ⟨?_, by omega, by omega⟩).1
   rw [Int.mul_neg]
   omega
theorem w64 {x : Int} (h0 : -9223372036854775808 ≤ x) (h1 : x < 9223372036854775808) : wrap64 x = x := by unfold wrap64; omega
theorem floorDiv_f (a b : Int) (hb : 0 < b) (hq : -4611686018427387904 ≤ a / b ∧ a / b ≤ 4611686018427387904) : spec_floorDiv.f a b = some (a / b) := by
 have := fd a b hb
 unfold spec_floorDiv.f
 rw [if_neg (by omega)]
 split
 ·rename_i h
  rw [if_pos h] at this
  rw [w64 (x := Int.tdiv a b) (by omega) (by omega), w64 (by omega) (by omega), this]
 ·rename_i h
  rw [if_neg h] at this
  rw [w64 (by omega) (by omega), this]
theorem yearStart_f (y : Int) (h0 : -1000000 ≤ y) (h1 : y ≤ 1000000) : spec_CronYearStart.f y = some (ystart y) := by
 unfold spec_CronYearStart.f
 rw [w64 (x := y - 1) (by omega) (by omega), floorDiv_f (y - 1) 4 (by omega) (by omega), floorDiv_f (y - 1) 100 (by omega) (by omega), floorDiv_f (y - 1) 400 (by omega) (by omega)]
 simp only [Option.bind_some]
 rw [w64 (x := 365 * (y - 1)) (by omega) (by omega), w64 (x := 365 * (y - 1) + (y - 1) / 4) (by omega) (by omega), w64 (x := 365 * (y - 1) + (y - 1) / 4 - (y - 1) / 100) (by omega) (by omega), w64 (x := 365 * (y - 1) + (y - 1) / 4 - (y - 1) / 100 + (y - 1) / 400) (by omega) (by omega), w64 (by omega) (by omega)]
 rfl
theorem monthDays_f (y m : Int) (h0 : 0 ≤ y) (h1 : y ≤ 1000000) (m0 : 1 ≤ m) (m1 : m ≤ 12) : spec_CronMonthDays.f y m = some (mdays y m) := by
 unfold spec_CronMonthDays.f mdays spec_CronLeap.f lpN
 rw [Int.tmod_eq_emod_of_nonneg h0, Int.tmod_eq_emod_of_nonneg h0, Int.tmod_eq_emod_of_nonneg h0]
 by_cases h2 : m = 2
 ·rw [if_pos h2, if_pos h2]
  by_cases a : y % 4 = 0
  ·rw [if_pos a]
   by_cases b : y % 100 = 0
   ·rw [if_pos b]
    by_cases c : y % 400 = 0
    ·simp [a, b, c]
    ·simp [a, b, c]
   ·rw [if_neg b]
    simp [a, b]
  ·rw [if_neg a]
   simp [a]
 ·rw [if_neg h2, if_neg h2]
  by_cases a : m = 4
  ·simp [a]
  ·by_cases b : m = 6
   ·simp [b]
   ·by_cases c : m = 9
    ·simp [c]
    ·by_cases d : m = 11
     ·simp [d]
     ·simp [a, b, c, d]
theorem dateL1 (y D : Int) (h0 : 0 ≤ y) (h1 : y ≤ 100000) (m : Int) (m1 : m ≤ 12) (hc0 : cum y m ≤ D - ystart y) (hc1 : D - ystart y < cum y m + mdays y m) (hD : -1000000 ≤ D ∧ D ≤ 40000000) : ∀ (n k : Nat) (x5 : Int), (m - x5).toNat = n → 1 ≤ x5 → x5 ≤ m → n < k →
  spec_CronDateOf.l1 k y (D - ystart y - cum y x5) x5 = some (y, m, D - ystart y - cum y m + 1) := by
 intro n
 induction n with
 | zero =>
  intro k x5 hn hx hm hk
  obtain ⟨k, rfl⟩ : ∃ j, k = j + 1 := ⟨k - 1, by omega⟩
  obtain rfl : x5 = m := by omega
  have hb := mdays_bd y x5
  unfold spec_CronDateOf.l1
  rw [monthDays_f y x5 h0 (by omega) hx m1]
  simp only [Option.bind_some]
  rw [if_neg (by omega), w64 (by omega) (by omega)]
 | succ n ih =>
  intro k x5 hn hx hm hk
  obtain ⟨k, rfl⟩ : ∃ j, k = j + 1 := ⟨k - 1, by omega⟩
  have hlt : x5 < m := by omega
  have hb := mdays_bd y x5
  have hs := cum_succ y x5 hx (by omega)
  have hle := cum_lt (y := y) hx hlt (by omega)
  have hcn := cum_nonneg (y := y) hx (by omega)
  have hys : -1000000 ≤ ystart y ∧ ystart y ≤ 40000000 := by unfold ystart; omega
  unfold spec_CronDateOf.l1
  rw [monthDays_f y x5 h0 (by omega) hx (by omega)]
  simp only [Option.bind_some]
  rw [if_pos (by omega), w64 (x := x5 + 1) (by omega) (by omega), w64 (x := D - ystart y - cum y x5 - mdays y x5) (by omega) (by omega), show D - ystart y - cum y x5 - mdays y x5 = D - ystart y - cum y (x5 + 1) by omega]
  exact ih k (x5 + 1) (by omega) (by omega) (by omega) (by omega)
theorem dateL0 (y m d D : Int) (h0 : 0 ≤ y) (h1 : y ≤ 100000) (hv : Valid y m d) (hd : dayOf y m d = D) : ∀ (n k : Nat) (x3 : Int), (y - x3).toNat = n → -1000 ≤ x3 → x3 ≤ y → n + 13 < k → spec_CronDateOf.l0 k D x3 = some (y, m, d) := by
 have hys : -1000000 ≤ ystart y ∧ ystart y ≤ 39000000 := by unfold ystart; omega
 have hdy := day_year hv
 have hbd := mdays_bd y m
 obtain ⟨v1, v2, v3, v4⟩ := hv
 have hcn := cum_nonneg (y := y) v1 (by omega)
 have hle := cum_lt (y := y) (m := m) (m' := 13) v1 (by omega) (by omega)
 have hc13 := cum_last y
 have hlp := lp_01 y
 intro n
 induction n with
 | zero =>
  intro k x3 hn hx hm hk
  obtain ⟨k, rfl⟩ : ∃ j, k = j + 1 := ⟨k - 1, by omega⟩
  obtain rfl : x3 = y := by omega
  unfold spec_CronDateOf.l0
  rw [w64 (x := x3 + 1) (by omega) (by omega), yearStart_f (x3 + 1) (by omega) (by omega)]
  simp only [Option.bind_some]
  rw [if_neg (by omega), yearStart_f x3 (by omega) (by omega)]
  simp only [Option.bind_some]
  unfold dayOf at hd
  rw [w64 (x := D - ystart x3) (by omega) (by omega)]
  have := dateL1 x3 D h0 h1 m v2 (by omega) (by omega) (by omega) (m - 1).toNat k 1 rfl (by omega) (by omega) (by omega)
  rw [cum_one, Int.sub_zero] at this
  rw [this]
  congr 3
  omega
 | succ n ih =>
  intro k x3 hn hx hm hk
  obtain ⟨k, rfl⟩ : ∃ j, k = j + 1 := ⟨k - 1, by omega⟩
  have hle2 := ystart_le (a := x3 + 1) (b := y) (by omega)
  unfold spec_CronDateOf.l0
  rw [w64 (x := x3 + 1) (by omega) (by omega), yearStart_f (x3 + 1) (by omega) (by omega)]
  simp only [Option.bind_some]
  rw [if_pos (by omega)]
  exact ih k (x3 + 1) (by omega) (by omega) (by omega) (by omega)
theorem dateOf_f (L : Int) (h0 : -62135596800 - 86400 ≤ L) (h1 : L ≤ 320000000000) : spec_CronDateOf.f 200 (L / 86400) = some (yearL L, monthL L, mdayL L) := by
 obtain ⟨hv, hd⟩ := date_L L
 have hy0 : 0 ≤ yearL L := by
  by_cases h : -62135596800 ≤ L
  ·have := year_one h; omega
  ·have := year_zero h0 (by omega); omega
 have hr := year_range L
 unfold dayL at hd
 have hst := day_year hv
 rw [hd] at hst
 generalize yearL L = y at *
 generalize monthL L = m at *
 generalize mdayL L = d at *
 have hyl : y ≤ 13000 := by unfold ystart at hst; omega
 unfold spec_CronDateOf.f
 rw [floorDiv_f (L / 86400) 366 (by omega) (by omega), floorDiv_f (L / 86400) 365 (by omega) (by omega)]
 simp only [Option.bind_some]
 unfold ystart at hst
 split
 ·rw [w64 (x := 1970 + L / 86400 / 365) (by omega) (by omega), w64 (by omega) (by omega)]
  unfold spec_CronDateOf.j0
  exact dateL0 y m d (L / 86400) hy0 (by omega) hv hd _ 199 _ rfl (by omega) (by omega) (by omega)
 ·have hy70 : 1970 ≤ y := by omega
  have hle : 1970 + L / 86400 / 366 ≤ y := by omega
  rw [w64 (by omega) (by omega)]
  unfold spec_CronDateOf.j0
  exact dateL0 y m d (L / 86400) hy0 (by omega) hv hd _ 199 _ rfl (by omega) (by omega) (by omega)
theorem tomorrow_is (L : Int) :
  (mdayL L < mdays (yearL L) (monthL L) ∧ yearL (dNext L) = yearL L ∧ monthL (dNext L) = monthL L ∧ mdayL (dNext L) = mdayL L + 1) ∨
  (¬ mdayL L < mdays (yearL L) (monthL L) ∧ monthL L < 12 ∧ yearL (dNext L) = yearL L ∧ monthL (dNext L) = monthL L + 1 ∧ mdayL (dNext L) = 1) ∨
  (¬ mdayL L < mdays (yearL L) (monthL L) ∧ ¬ monthL L < 12 ∧ yearL (dNext L) = yearL L + 1 ∧ monthL (dNext L) = 1 ∧ mdayL (dNext L) = 1) := by
 obtain ⟨hv, hd⟩ := date_L L
 have hn : dayL (dNext L) = dayL L + 1 := by unfold dayL dNext; omega
 obtain ⟨v1, v2, v3, v4⟩ := hv
 have hb := mdays_bd (yearL L) (monthL L)
 have hcs := cum_succ (yearL L) (monthL L) v1 v2
 by_cases h : mdayL L < mdays (yearL L) (monthL L)
 ·have e := date_eq (L := dNext L) (y := yearL L) (m := monthL L) (d := mdayL L + 1) ⟨v1, v2, by omega, by omega⟩ (by rw [hn, ← hd]; unfold dayOf; omega)
  exact .inl ⟨h, e⟩
 ·by_cases h12 : monthL L < 12
  ·have hb2 := mdays_bd (yearL L) (monthL L + 1)
   have e := date_eq (L := dNext L) (y := yearL L) (m := monthL L + 1) (d := 1) ⟨by omega, by omega, by omega, by omega⟩ (by rw [hn, ← hd]; unfold dayOf; omega)
   exact .inr (.inl ⟨h, h12, e⟩)
  ·have hm : monthL L = 12 := by omega
   have hb2 := mdays_bd (yearL L + 1) 1
   have hl := cum_last (yearL L)
   have e := date_eq (L := dNext L) (y := yearL L + 1) (m := 1) (d := 1) ⟨by omega, by omega, by omega, by omega⟩ (by
    rw [hn, ← hd]
    unfold dayOf
    rw [ystart_succ, cum_one]
    have e12 : mdays (yearL L) (monthL L) = mdays (yearL L) 12 := by rw [hm]
    have c12 : cum (yearL L) (monthL L) = cum (yearL L) 12 := by rw [hm]
    have c13 : cum (yearL L) (monthL L + 1) = cum (yearL L) 13 := by rw [hm]; rfl
    omega)
   exact .inr (.inr ⟨h, h12, e⟩)
theorem dateSizeT : (Try.prog.info? 47).map (·.size) = some 3 := by kernel_rfl
theorem run_alloc_dateT (w : World) : (Instr.alloc 47 true (.tuple #[])).run Try.prog w = .ok (.pointer (some ⟨w.heap.size, 0, none⟩)) (w.alloc (.cells #[.int .i64 0, .int .i64 0, .int .i64 0] 47 (0, 0))) := by kernel_rfl
set_option maxRecDepth 100000 in
set_option maxHeartbeats 2000000 in
theorem tomorrow_any (L : Int) (w : World) (h0 : 0 ≤ yearL L) (h1 : yearL L ≤ 20000) :
  Calls Try.prog 26 #[.agg #[.int .i64 (yearL L), .int .i64 (monthL L), .int .i64 (mdayL L)]] w fun e w' => e = .returned (.agg #[.int .i64 (yearL (dNext L)), .int .i64 (monthL (dNext L)), .int .i64 (mdayL (dNext L))]) ∧ Below w.heap.size w w' := by
 obtain ⟨v1, v2, v3, v4⟩ := (date_L L).1
 have HMD : Hid (∀ w' : World, Calls Try.prog 24 #[.int .i64 (yearL L), .int .i64 (monthL L)] w' fun e w2 => e = .returned (.int .i64 (mdays (yearL L) (monthL L))) ∧ Below w'.heap.size w' w2) := Lib.hid (fun w' => (spec_CronMonthDays.calls _ _ _ w' (monthDays_f _ _ h0 (by omega) v1 v2)).mono fun _ _ h => ⟨h.1, drawn_below h.2⟩)
 have hb := mdays_bd (yearL L) (monthL L)
 have HC := Lib.hid (tomorrow_is L)
 have hal := run_alloc_dateT
 have hwd : wrap64 (mdayL L + 1) = mdayL L + 1 := w64 (by omega) (by omega)
 have hwm : wrap64 (monthL L + 1) = monthL L + 1 := w64 (by omega) (by omega)
 have hwy : wrap64 (yearL L + 1) = yearL L + 1 := w64 (by omega) (by omega)
 generalize mdays (yearL L) (monthL L) = M at *
 generalize yearL L = y at *
 generalize monthL L = m at *
 generalize mdayL L = d at *
 generalize yearL (dNext L) = y' at *
 generalize monthL (dNext L) = m' at *
 generalize mdayL (dNext L) = d' at *
 go_enter Try.func26, Try.ntmps26
 go_upto_region 1 with fail
 generalize hW : World.alloc (World.alloc w _) _ = wo
 have hr0 : wo.heap[w.heap.size]? = some (.cells #[.int .i64 y, .int .i64 m, .int .i64 d] 47 (0, 0)) := by
  rw [← hW, Below.heap_alloc _ _ _ (by simp)]
  exact heap_alloc_new w _
 have hr1 : wo.heap[w.heap.size + 1]? = some (.cells #[.int .i64 0, .int .i64 0, .int .i64 0] 47 (0, 0)) := by
  rw [← hW]
  exact heap_two w _ _
 have hbw : Below w.heap.size w wo := by
  rw [← hW]
  exact ((Below.refl _ _).alloc (Nat.le_refl _) _).alloc (by simp) _
 clear hW
 refine start_ (n := 8) (S := fun w' => w'.heap[w.heap.size]? = some (.cells #[.int .i64 y, .int .i64 m, .int .i64 d] 47 (0, 0)) ∧ w'.heap[w.heap.size + 1]? = some (.cells #[.int .i64 0, .int .i64 0, .int .i64 0] 47 (0, 0)) ∧ Below wo.heap.size wo w') (ds := []) #[false, false, false, false, false, false, false, false] (by kernel_rfl) rfl rfl ⟨hr0, hr1, (Below.refl _ _).drew⟩ (fun hHeld => ?_)
 refine pure_ (i := 0) (N := some 3) (v := ?_) (a' := ?_) #[true, false, false, false, false, false, false, false] rfl rfl (by kernel_rfl) (fun _ _ _ h => h) (Or.inl ⟨by rfl, ?_⟩) ?_ ?_
 rotate_left
 ·intro w'
  go_simp
  with_reducible rfl
 rotate_left
 ·simp only [Act.put, List.setIfInBounds_toArray, List.set_cons_zero, List.set_cons_succ, i64_w, i32_w]
  rfl
 refine pure_ (i := 2) (N := some 5) (v := ?_) (a' := ?_) #[true, false, true, false, false, false, false, false] rfl rfl (by kernel_rfl) (fun _ _ _ h => h) (Or.inl ⟨by rfl, ?_⟩) ?_ ?_
 rotate_left
 ·intro w'
  go_simp
  with_reducible rfl
 rotate_left
 ·simp only [Act.put, List.setIfInBounds_toArray, List.set_cons_zero, List.set_cons_succ, i64_w, i32_w]
  rfl
 refine pure_ (i := 4) (N := some 7) (v := ?_) (a' := ?_) #[true, false, true, false, true, false, false, false] rfl rfl (by kernel_rfl) (fun _ _ _ h => h) (Or.inl ⟨by rfl, ?_⟩) ?_ ?_
 rotate_left
 ·intro w'
  go_simp
  with_reducible rfl
 rotate_left
 ·simp only [Act.put, List.setIfInBounds_toArray, List.set_cons_zero, List.set_cons_succ, i64_w, i32_w]
  rfl
 refine take_ (i := 1) (N := some 4) (v := ?_) (a' := ?_) #[true, true, true, false, true, false, false, false] rfl rfl (by kernel_rfl) (fun _ _ _ h => h) (Or.inl ⟨by rfl, ?_⟩) hHeld ?_ ?_
 rotate_left
 ·rintro w' ⟨s0, s1, s2⟩
  have c2 : w'.cell? ⟨w.heap.size, 2, none⟩ = some (.int .i64 d) := cell_of_row _ _ _ _ _ _ s0
  go_simp
  with_reducible rfl
 rotate_left
 ·simp only [Act.put, List.setIfInBounds_toArray, List.set_cons_zero, List.set_cons_succ, i64_w, i32_w]
  rfl
 refine take_ (i := 3) (N := some 6) (v := ?_) (a' := ?_) #[true, true, true, true, true, false, false, false] rfl rfl (by kernel_rfl) (fun _ _ _ h => h) (Or.inl ⟨by rfl, ?_⟩) hHeld ?_ ?_
 rotate_left
 ·rintro w' ⟨s0, s1, s2⟩
  have c2 : w'.cell? ⟨w.heap.size, 0, none⟩ = some (.int .i64 y) := cell_of_row _ _ _ _ _ _ s0
  go_simp
  with_reducible rfl
 rotate_left
 ·simp only [Act.put, List.setIfInBounds_toArray, List.set_cons_zero, List.set_cons_succ, i64_w, i32_w]
  rfl
 refine take_ (i := 5) (N := some 8) (v := ?_) (a' := ?_) #[true, true, true, true, true, true, false, false] rfl rfl (by kernel_rfl) (fun _ _ _ h => h) (Or.inl ⟨by rfl, ?_⟩) hHeld ?_ ?_
 rotate_left
 ·rintro w' ⟨s0, s1, s2⟩
  have c2 : w'.cell? ⟨w.heap.size, 1, none⟩ = some (.int .i64 m) := cell_of_row _ _ _ _ _ _ s0
  go_simp
  with_reducible rfl
 rotate_left
 ·simp only [Act.put, List.setIfInBounds_toArray, List.set_cons_zero, List.set_cons_succ, i64_w, i32_w]
  rfl
 refine one_ (i := 6) (N := some 9) #[true, true, true, true, true, true, true, false] rfl rfl (by kernel_rfl) (by decide) (fun K hK => ?_)
 refine goes_ Try.func24 (by kernel_rfl) rfl #[.int .i64 y, .int .i64 m] (by rfl) rfl rfl (by simp only [List.map_toArray, List.map_cons, List.map_nil]; rfl) ?_
 with_reducible refine (HMD.out _).mono ?_
 rintro e6 w6 ⟨rfl, hb6⟩
 refine ⟨_, rfl, ?_⟩
 refine hK.out _ _ ⟨(hb6.block _ (Array.getElem?_eq_some_iff.1 hHeld.1).1).trans hHeld.1, (hb6.block _ (Array.getElem?_eq_some_iff.1 hHeld.2.1).1).trans hHeld.2.1, below_le hHeld.2.2 hb6⟩ (fun hHeld => ?_)
 clear hK K
 refine norm_ (a' := ?_) ?_ ?_
 rotate_left
 ·show Act.put _ (some 9) _ = _
  simp only [Act.put, List.setIfInBounds_toArray, List.set_cons_zero, List.set_cons_succ, i64_w, i32_w]
  rfl
 refine pure_ (i := 7) (N := some 10) (v := ?_) (a' := ?_) #[true, true, true, true, true, true, true, true] rfl rfl (by kernel_rfl) (fun _ _ _ h => h) (Or.inl ⟨by rfl, ?_⟩) ?_ ?_
 rotate_left
 ·intro w'
  go_simp
  with_reducible rfl
 rotate_left
 ·simp only [Act.put, List.setIfInBounds_toArray, List.set_cons_zero, List.set_cons_succ, i64_w, i32_w]
  rfl
 refine done_ (by kernel_rfl) ?_
 have HR := Lib.hid hHeld.2.1
 have c0 : w6.cell? ⟨w.heap.size, 0, none⟩ = some (.int .i64 y) := cell_of_row _ _ _ _ _ _ hHeld.1
 have c1 : w6.cell? ⟨w.heap.size, 1, none⟩ = some (.int .i64 m) := cell_of_row _ _ _ _ _ _ hHeld.1
 have c2 : w6.cell? ⟨w.heap.size, 2, none⟩ = some (.int .i64 d) := cell_of_row _ _ _ _ _ _ hHeld.1
 have hbx := below_le hbw hHeld.2.2
 clear hHeld hr0 hr1 hbw
 rcases HC.out with ⟨e1, i1, i2, i3⟩ | ⟨e1, e2, i1, i2, i3⟩ | ⟨e1, e2, i1, i2, i3⟩ <;> subst i1 <;> subst i2 <;> subst i3
 ·have k1 : decide (d < M) = true := decide_eq_true e1
  go_wp2_with (refine wpList_store_row rfl 47 _ _ rfl (w.heap.size + 1) #[.int .i64 y', .int .i64 m', .int .i64 (d + 1)] rfl rfl 47 _ HR.out dateSizeT rfl (by simp [Value.oneCell']) ?_)
  refine bodyPost_ret (v := .agg #[.int .i64 y', .int .i64 m', .int .i64 (d + 1)]) (results_cell_row (fn := Try.f26) (p := 2) rfl _ _ (w.heap.size + 1) 47 #[.int .i64 y', .int .i64 m', .int .i64 (d + 1)] (0, 0) _ rfl (setRow_heap _ _ _ _ _ _ HR.out) Try.underlying47 rfl dateSizeT) rfl ⟨rfl, below_setRow hbx (by omega) _⟩
 ·have k1 : decide (d < M) = false := decide_eq_false e1
  have k2 : decide (m < 12) = true := decide_eq_true e2
  go_wp2_with (refine wpList_store_row rfl 47 _ _ rfl (w.heap.size + 1) #[.int .i64 y', .int .i64 (m + 1), .int .i64 1] rfl rfl 47 _ HR.out dateSizeT rfl (by simp [Value.oneCell']) ?_)
  refine bodyPost_ret (v := .agg #[.int .i64 y', .int .i64 (m + 1), .int .i64 1]) (results_cell_row (fn := Try.f26) (p := 2) rfl _ _ (w.heap.size + 1) 47 #[.int .i64 y', .int .i64 (m + 1), .int .i64 1] (0, 0) _ rfl (setRow_heap _ _ _ _ _ _ HR.out) Try.underlying47 rfl dateSizeT) rfl ⟨rfl, below_setRow hbx (by omega) _⟩
 ·have k1 : decide (d < M) = false := decide_eq_false e1
  have k2 : decide (m < 12) = false := decide_eq_false e2
  go_wp2_with (refine wpList_store_row rfl 47 _ _ rfl (w.heap.size + 1) #[.int .i64 (y + 1), .int .i64 1, .int .i64 1] rfl rfl 47 _ HR.out dateSizeT rfl (by simp [Value.oneCell']) ?_)
  refine bodyPost_ret (v := .agg #[.int .i64 (y + 1), .int .i64 1, .int .i64 1]) (results_cell_row (fn := Try.f26) (p := 2) rfl _ _ (w.heap.size + 1) 47 #[.int .i64 (y + 1), .int .i64 1, .int .i64 1] (0, 0) _ rfl (setRow_heap _ _ _ _ _ _ HR.out) Try.underlying47 rfl dateSizeT) rfl ⟨rfl, below_setRow hbx (by omega) _⟩
theorem weekday_f (day : Int) (h0 : -100000000 ≤ day) (h1 : day ≤ 100000000) : spec_CronWeekday.f day = some ((day + 4) % 7) := by
 unfold spec_CronWeekday.f spec_floorMod.f
 rw [w64 (x := day + 4) (by omega) (by omega), floorDiv_f (day + 4) 7 (by omega) (by omega)]
 simp only [Option.bind_some]
 rw [w64 (x := 7 * ((day + 4) / 7)) (by omega) (by omega), w64 (by omega) (by omega)]
 congr 1
 omega
end Go.Proofs.Ytlopkdhblfibkaa.CronN
namespace Go.Proofs.Ytlopkdhblfibkaa.CronN
open Go Go.RowKit Go.Proofs.YtlopkdhblfibkaaW.PrintWords Go.Proofs.YtlopkdhblfibkaaW.PrintLast Go.Proofs.Ytlopkdhblfibkaa.Cal Go.Proofs.Ytlopkdhblfibkaa.Pr
set_option linter.unusedVariables false
set_option linter.unusedSimpArgs false
theorem dateSize : (Try.prog.info? 47).map (·.size) = some 3 := by kernel_rfl
def dateC (L : Int) : Array Value := #[.int .i64 (yearL L), .int .i64 (monthL L), .int .i64 (mdayL L)]
theorem dateC_size (L : Int) : (dateC L).size = 3 := rfl
theorem dateC_one (L : Int) : (dateC L).all (·.oneCell') = true := by simp [dateC, Value.oneCell']
theorem dayFitsC_any (S : Sets) (L : Int) (w : World) :
  Calls Try.prog 27 #[.agg (fieldsC S), .agg (dateC L), .int .i64 (wdL L)] w fun e w' => e = .returned (.bool (dayB S L)) ∧ Below w.heap.size w w' := by
 obtain ⟨hv, -⟩ := date_L L
 have hb := mdays_bd (yearL L) (monthL L)
 exact dayFits_any S (yearL L) (monthL L) (mdayL L) (wdL L) hv.d1 (by have := hv.d2; omega) (by unfold wdL; omega) (by unfold wdL; omega) w
theorem emptyK_fit {S : Sets} {k : Nat} (h : emptyK S k = true) {v : Nat} (h1 : loF k ≤ v) (h2 : v ≤ hiF k) (h3 : v < 63) : (bitsK S k).testBit v = false := by
 unfold emptyK emptyB eqB at h
 rw [List.all_eq_true] at h
 have := h v (List.mem_range.2 h3)
 unfold memB noSet at this
 simp [h1, h2] at this
 exact this
theorem never_fit {S : Sets} (h : neverB S = true) (x : Int) : ¬ Fits S x := by
 intro hf
 unfold neverB at h
 rw [Bool.or_eq_true, Bool.or_eq_true] at h
 have hh := hf.ho
 have hm := hf.mi
 have hs := hf.se
 unfold hourB hourL inB at hh
 unfold minB minL inB at hm
 unfold secB secL inB at hs
 rcases h with h | h | h
 ·have := emptyK_fit h (v := (x % 86400 / 3600).toNat) (by show 0 ≤ _; omega) (by show _ ≤ 23; omega) (by omega)
  rw [show S.hour.testBit (x % 86400 / 3600).toNat = false from this] at hh
  cases hh
 ·have := emptyK_fit h (v := (x % 3600 / 60).toNat) (by show 0 ≤ _; omega) (by show _ ≤ 59; omega) (by omega)
  rw [show S.min.testBit (x % 3600 / 60).toNat = false from this] at hm
  cases hm
 ·have := emptyK_fit h (v := (x % 60).toNat) (by show 0 ≤ _; omega) (by show _ ≤ 59; omega) (by omega)
  rw [show S.sec.testBit (x % 60).toNat = false from this] at hs
  cases hs
theorem NoFit.day {S : Sets} {fr D at' : Int} (h : NoFit S fr (D * 86400 + at')) (a0 : 0 ≤ at') (hd : monthB S (D * 86400) = false ∨ dayB S (D * 86400) = false ∨ NoT S at' 86400) : NoFit S fr ((D + 1) * 86400 + 0) := by
 intro x h1 h2 hf
 by_cases hx : x < D * 86400 + at'
 ·exact h x h1 hx hf
 ·have hs := same_day (L := D * 86400) (x := x) (by omega)
  rcases hd with hd | hd | hd
  ·have := hf.mo
   unfold monthB at this hd
   rw [hs.1, hd] at this
   cases this
  ·have := hf.da
   unfold dayB at this hd
   rw [hs.2.2.1, hs.2.2.2, hd] at this
   cases this
  ·refine hd (x - D * 86400) (by omega) (by omega) ⟨?_, ?_, ?_⟩
   ·have := hf.ho
    unfold hourB hourL at this
    rwa [show x % 86400 / 3600 = (x - D * 86400) / 3600 by omega] at this
   ·have := hf.mi
    unfold minB minL at this
    rwa [show x % 3600 / 60 = (x - D * 86400) % 3600 / 60 by omega] at this
   ·have := hf.se
    unfold secB secL at this
    rwa [show x % 60 = (x - D * 86400) % 60 by omega] at this
theorem NoFit.in_day {S : Sets} {fr D at' r : Int} (h : NoFit S fr (D * 86400 + at')) (a0 : 0 ≤ at') (hr : r < 86400) (hd : NoT S at' r) : NoFit S fr (D * 86400 + r) := by
 intro x h1 h2 hf
 by_cases hx : x < D * 86400 + at'
 ·exact h x h1 hx hf
 ·refine hd (x - D * 86400) (by omega) (by omega) ⟨?_, ?_, ?_⟩
  ·have := hf.ho
   unfold hourB hourL at this
   rwa [show x % 86400 / 3600 = (x - D * 86400) / 3600 by omega] at this
  ·have := hf.mi
   unfold minB minL at this
   rwa [show x % 3600 / 60 = (x - D * 86400) % 3600 / 60 by omega] at this
  ·have := hf.se
   unfold secB secL at this
   rwa [show x % 60 = (x - D * 86400) % 60 by omega] at this
theorem noFit_end {S : Sets} {fr lim D at' : Int} (h : NoFit S fr (D * 86400 + at')) (a0 : 0 ≤ at') (hy : ¬ yearL (D * 86400) ≤ lim) : Least S fr lim none := by
 intro x h1 h2 hf
 by_cases hx : x < D * 86400 + at'
 ·exact h x h1 hx hf
 ·have := year_mono (a := D * 86400) (b := x) (by omega)
  omega
def LocalUn (S : Sets) (fr un lim : Int) (e : Ending) : Prop := ∃ (x : Int) (b : Bool), e = .returned (.tuple #[.int .i64 x, .bool b]) ∧ (b = true → Least S fr lim (some x) ∧ x < un) ∧ (b = false → ∀ y, fr ≤ y → y < un → yearL y ≤ lim → ¬ Fits S y)
set_option maxRecDepth 100000 in
set_option maxHeartbeats 8000000 in
theorem cronLocal_un (S : Sets) (fr un lim : Int) (h0 : -62135596800 - 86400 ≤ fr) (h1 : fr ≤ 310000000000) (hl : lim ≤ 10010) (hl0 : yearL fr ≤ lim) (w : World) :
  Calls Try.prog 17 #[.agg (fieldsC S), .int .i64 fr, .int .i64 un, .int .i64 lim] w fun e w' =>
   LocalUn S fr un lim e ∧ Below w.heap.size w w' := by
 have HNV := Lib.hid (fun w' => cronNever_any S w')
 have HFD : Hid (∀ w' : World, Calls Try.prog 13 #[.int .i64 fr, .int .i64 86400] w' fun e w2 => e = .returned (.int .i64 (fr / 86400)) ∧ Below w'.heap.size w' w2) := Lib.hid (fun w' => (spec_floorDiv.calls fr 86400 (fr / 86400) w' (floorDiv_f fr 86400 (by omega) (by omega))).mono fun _ _ h => ⟨h.1, drawn_below h.2⟩)
 have HDO : Hid (∀ w' : World, Calls Try.prog 14 #[.int .i64 (fr / 86400)] w' fun e w2 => e = .returned (.agg (dateC fr)) ∧ Below w'.heap.size w' w2) := Lib.hid (fun w' => spec_CronDateOf.calls 200 (fr / 86400) _ _ _ w' (dateOf_f fr (by omega) (by omega)))
 have HTO : Hid (∀ (L : Int) (w' : World), 0 ≤ yearL L → yearL L ≤ 20000 → Calls Try.prog 26 #[.agg (dateC L)] w' fun e w2 => e = .returned (.agg (dateC (dNext L))) ∧ Below w'.heap.size w' w2) := Lib.hid (fun L w' a b => tomorrow_any L w' a b)
 have HWD : Hid (∀ (D : Int) (w' : World), -100000000 ≤ D → D ≤ 100000000 → Calls Try.prog 28 #[.int .i64 D] w' fun e w2 => e = .returned (.int .i64 ((D + 4) % 7)) ∧ Below w'.heap.size w' w2) := Lib.hid (fun D w' a b => (spec_CronWeekday.calls D _ w' (weekday_f D a b)).mono fun _ _ h => ⟨h.1, drawn_below h.2⟩)
 have HDF := Lib.hid (fun L w' => dayFitsC_any S L w')
 have HCT := Lib.hid (fun (n : Nat) hn w' => cronTime_any S n hn w')
 go_enter Try.func17, Try.ntmps17
 have HF0 := Lib.hid (fieldsAt_new w S)
 go_wp2_with (refine wpList_load_row rfl 40 _ rfl w.heap.size rfl _ _ _ _ HF0.out Try.underlying40 rfl (by rw [fieldsSize, fieldsC_size]) ?_)
 refine (HNV.out _).mono ?_
 rintro e w1 ⟨rfl, hb1⟩
 have HF1 := Lib.hid (HF0.out.below hb1)
 have hB1 := below_le ((Below.refl w.heap.size w).alloc (Nat.le_refl _) _) hb1
 clear hb1
 cases hn : neverB S with
 | true =>
  go_wp2_with fail
  go_ret2
  exact ⟨⟨_, _, rfl, (fun h => by cases h), fun _ x _ _ _ => never_fit hn x⟩, hB1⟩
 | false =>
  go_wp2_with fail
  refine (HFD.out _).mono ?_
  rintro e w2 ⟨rfl, hb2⟩
  have HF2 := Lib.hid (HF1.out.below hb2)
  have hB2 := below_le hB1 hb2
  clear hb2 hB1
  go_wp2_with fail
  refine (HDO.out _).mono ?_
  rintro e w3 ⟨rfl, hb3⟩
  have HF3 := Lib.hid (HF2.out.below hb3)
  have hB3 := below_le hB2 hb3
  clear hb3 hB2
  go_wp2_with (refine wpList_store_row rfl 47 _ _ rfl w3.heap.size (dateC fr) rfl rfl 47 _ (heap_alloc_new w3 _) dateSize rfl (dateC_one _) ?_; generalize hX : World.setRow _ _ _ = wx; have HX := Lib.hid (show wx.heap[w3.heap.size]? = some (.cells (dateC fr) 47 (0, 0)) by rw [← hX]; exact setRow_heap _ _ _ _ _ _ (heap_alloc_new w3 _)); have HBX := Lib.hid (show Below w3.heap.size w3 wx by rw [← hX]; exact below_setRow ((Below.refl _ _).alloc (Nat.le_refl _) _) (Nat.le_refl _) _); clear hX)
  have hfrd : dateC fr = dateC (fr / 86400 * 86400) := by
   have := same_day (L := fr) (x := fr / 86400 * 86400) (by omega)
   unfold dateC
   rw [this.1, this.2.1, this.2.2.1]
  have hyf : yearL (fr / 86400 * 86400) ≤ lim := by
   have := same_day (L := fr) (x := fr / 86400 * 86400) (by omega)
   rw [this.2.1]
   exact hl0
  have HFX := Lib.hid (HF3.out.below HBX.out)
  have hBX := below_le hB3 HBX.out
  have hw3 := hB3.size
  have hX0 := Lib.hid HX.out
  rw [hfrd] at hX0
  clear HF3 HX HBX hB3 hfrd
  dsimp only [Act.put]
  go_loopw [10, 11, 12] (fun v10 v11 v12 wr => ∃ (D at' : Int) (dT : Nat), v10 = .int .i64 D ∧ v11 = .int .i64 at' ∧ v12 = .pointer (some ⟨dT, 0, none⟩) ∧ 0 ≤ at' ∧ at' < 86400 ∧ fr ≤ D * 86400 + at' ∧ fr / 86400 ≤ D ∧ yearL (D * 86400) ≤ lim + 1 ∧ Hid (NoFit S fr (D * 86400 + at')) ∧ Hid (wr.heap[dT]? = some (.cells (dateC (D * 86400)) 47 (0, 0))) ∧ w.heap.size ≤ dT ∧ Hid (FieldsAt wr w.heap.size S) ∧ Below w.heap.size w wr) (fun v10 _ _ _ => (ystart (lim + 3) - intOf v10).toNat)
  case atStart => exact ⟨fr / 86400, fr - 86400 * (fr / 86400), w3.heap.size, rfl, rfl, rfl, by omega, by omega, by omega, by omega, by omega, Lib.hid (fun x h1 h2 => by omega), hX0, hw3, HFX, hBX⟩
  case round =>
   obtain ⟨D, at', dT, rfl, rfl, rfl, a0, a1, a2, a3, a4, HNF, HD, hdT, HFA, hbr⟩ := hrel
   clear hX0 HFX hBX
   have hlt := lim_lt (L := D * 86400) (y := 10011) (by omega)
   rw [show ystart (10011 + 1) = 2937280 from by decide] at hlt
   by_cases hun : 86400 * D < un
   rotate_left
   ·have hd2 : decide (86400 * D < un) = false := decide_eq_false hun
    have hw1 : wrap64 (86400 * D) = 86400 * D := by unfold wrap64; omega
    have hcy : wr.cell? ⟨dT, 0, none⟩ = some (.int .i64 (yearL (D * 86400))) := cell_of_row _ _ _ _ _ _ HD.out
    by_cases hyl : yearL (D * 86400) ≤ lim
    ·have hd1 : decide (yearL (D * 86400) ≤ lim) = true := decide_eq_true hyl
     go_wp2_with fail
     all_goals
      go_ret2
      exact ⟨⟨_, _, rfl, (fun h => by cases h), fun _ y h1 h2 _ => HNF.out y h1 (by omega)⟩, hbr⟩
    ·have hd1 : decide (yearL (D * 86400) ≤ lim) = false := decide_eq_false hyl
     go_wp2_with fail
     all_goals
      go_ret2
      exact ⟨⟨_, _, rfl, (fun h => by cases h), fun _ y h1 h2 _ => HNF.out y h1 (by omega)⟩, hbr⟩
   by_cases hyl : yearL (D * 86400) ≤ lim
   ·obtain ⟨wo, hwo⟩ : ∃ wo, wo = wr := ⟨_, rfl⟩
    subst hwo
    have hd1 : decide (yearL (D * 86400) ≤ lim) = true := decide_eq_true hyl
    have hd2 : decide (86400 * D < un) = true := decide_eq_true hun
    have hcy : wo.cell? ⟨dT, 0, none⟩ = some (.int .i64 (yearL (D * 86400))) := cell_of_row _ _ _ _ _ _ HD.out
    have hw1 : wrap64 (86400 * D) = 86400 * D := by unfold wrap64; omega
    obtain ⟨hv, -⟩ := date_L (D * 86400)
    obtain ⟨mn, hmn⟩ : ∃ n : Nat, monthL (D * 86400) = (n : Int) := ⟨(monthL (D * 86400)).toNat, by have := hv.m1; omega⟩
    have hm1 := hv.m1
    have hm2 := hv.m2
    have hmB : memB (loF 4) (hiF 4) (bitsK S 4) mn = monthB S (D * 86400) := by
     unfold memB monthB inB loF hiF bitsK
     rw [hmn]
     simp [show 1 ≤ mn by omega, show mn ≤ 12 by omega]
    have b1 : (0 : Int) ≤ mn := by omega
    have b2 : (mn : Int) < 63 := by omega
    have hy0 : 0 ≤ yearL (D * 86400) := by
     by_cases hh : -62135596800 ≤ D * 86400
     ·have := year_one hh; omega
     ·have := year_zero (L := D * 86400) (by omega) (by omega); omega
    have hy1 : yearL (D * 86400) ≤ 20000 := by omega
    have hdn : dNext (D * 86400) = (D + 1) * 86400 := by unfold dNext; omega
    have hyn : yearL ((D + 1) * 86400) ≤ lim + 1 := by
     rw [← hdn]
     rcases dNext_date (D * 86400) with ⟨-, h⟩ | ⟨-, -, h⟩
     ·rw [h]
      have := (mNext_date (D * 86400)).2.2.2
      split at this <;> omega
     ·omega
    have hms : D < ystart (lim + 3) := by
     have h1 := lim_lt hyl
     have h2 := ystart_le (a := lim + 1) (b := lim + 3) (by omega)
     omega
    have HS1 := Lib.hid (And.intro hdn hyn)
    have HS2 := Lib.hid hms
    have hDu : D ≤ 3000000 := by omega
    have hDl : -800000 ≤ D := by omega
    clear hdn hyn hms hlt
    have hdr := HD.out
    have hfa := HFA.out
    go_upto_region 8 with fail
    cases hm : monthB S (D * 86400) with
    | false =>
     refine start_ (n := 13) (S := fun w' => w'.heap[dT]? = some (.cells (dateC (D * 86400)) 47 (0, 0)) ∧ FieldsAt w' w.heap.size S ∧ Below wo.heap.size wo w') (ds := []) #[false, false, false, false, false, false, false, false, false, false, false, false, false] (by kernel_rfl) rfl rfl ⟨hdr, hfa, (Below.refl _ _).drew⟩ (fun hHeld => ?_)
     refine pure_ (i := 0) (N := some 36) (v := ?_) (a' := ?_) #[true, false, false, false, false, false, false, false, false, false, false, false, false] rfl rfl (by kernel_rfl) (fun _ _ _ h => h) (Or.inl ⟨by rfl, ?_⟩) ?_ ?_
     rotate_left
     ·intro w'
      go_simp
      with_reducible rfl
     rotate_left
     ·simp only [Act.put, List.setIfInBounds_toArray, List.set_cons_zero, List.set_cons_succ, i64_w, i32_w]
      rfl
     refine pure_ (i := 2) (N := some 38) (v := ?_) (a' := ?_) #[true, false, true, false, false, false, false, false, false, false, false, false, false] rfl rfl (by kernel_rfl) (fun _ _ _ h => h) (Or.inl ⟨by rfl, ?_⟩) ?_ ?_
     rotate_left
     ·intro w'
      go_simp
      with_reducible rfl
     rotate_left
     ·simp only [Act.put, List.setIfInBounds_toArray, List.set_cons_zero, List.set_cons_succ, i64_w, i32_w]
      rfl
     refine pure_ (i := 3) (N := some 39) (v := ?_) (a' := ?_) #[true, false, true, true, false, false, false, false, false, false, false, false, false] rfl rfl (by kernel_rfl) (fun _ _ _ h => h) (Or.inl ⟨by rfl, ?_⟩) ?_ ?_
     rotate_left
     ·intro w'
      go_simp
      with_reducible rfl
     rotate_left
     ·simp only [Act.put, List.setIfInBounds_toArray, List.set_cons_zero, List.set_cons_succ, i64_w, i32_w]
      rfl
     refine take_ (i := 1) (N := some 37) (v := ?_) (a' := ?_) #[true, true, true, true, false, false, false, false, false, false, false, false, false] rfl rfl (by kernel_rfl) (fun _ _ _ h => h) (Or.inl ⟨by rfl, ?_⟩) hHeld ?_ ?_
     rotate_left
     ·rintro w' ⟨s0, s1, s2⟩
      have c1 : w'.cell? ⟨dT, 1, none⟩ = some (.int .i64 (mn : Int)) := (cell_of_row _ _ _ _ _ _ s0).trans (show (dateC (D * 86400))[1]? = some (.int .i64 (mn : Int)) by rw [← hmn]; rfl)
      go_simp
      with_reducible rfl
     rotate_left
     ·simp only [Act.put, List.setIfInBounds_toArray, List.set_cons_zero, List.set_cons_succ, i64_w, i32_w]
      rfl
     refine pure_ (i := 4) (N := some 40) (v := ?_) (a' := ?_) #[true, true, true, true, true, false, false, false, false, false, false, false, false] rfl rfl (by kernel_rfl) (fun _ _ _ h => h) (Or.inl ⟨by rfl, ?_⟩) ?_ ?_
     rotate_left
     ·intro w'
      go_simp
      with_reducible rfl
     rotate_left
     ·simp only [Act.put, List.setIfInBounds_toArray, List.set_cons_zero, List.set_cons_succ, i64_w, i32_w]
      rfl
     refine take_ (i := 5) (N := some 41) (v := ?_) (a' := ?_) #[true, true, true, true, true, true, false, false, false, false, false, false, false] rfl rfl (by kernel_rfl) (fun _ _ _ h => h) (Or.inl ⟨by rfl, ?_⟩) hHeld ?_ ?_
     rotate_left
     ·rintro w' ⟨s0, s1, s2⟩
      have c5 : w'.cell? ⟨w.heap.size, 257 + mn, none⟩ = some (.bool (monthB S (D * 86400))) := by { have := s1.at_ 4 mn (by omega) (by omega); rw [show 4 * 64 + (mn + 1) = 257 + mn by omega] at this; rw [this, hmB] }
      rw [hm] at c5
      go_simp
      with_reducible rfl
     rotate_left
     ·simp only [Act.put, List.setIfInBounds_toArray, List.set_cons_zero, List.set_cons_succ, i64_w, i32_w]
      rfl
     refine pure_ (i := 6) (N := some 42) (v := ?_) (a' := ?_) #[true, true, true, true, true, true, true, false, false, false, false, false, false] rfl rfl (by kernel_rfl) (fun _ _ _ h => h) (Or.inl ⟨by rfl, ?_⟩) ?_ ?_
     rotate_left
     ·intro w'
      go_simp
      with_reducible rfl
     rotate_left
     ·simp only [Act.put, List.setIfInBounds_toArray, List.set_cons_zero, List.set_cons_succ, i64_w, i32_w]
      rfl
     refine pure_ (i := 7) (N := some 43) (v := undef) (a' := ?_) #[true, true, true, true, true, true, true, true, false, false, false, false, false] rfl rfl (by kernel_rfl) (fun _ _ _ h => h) (Or.inr ⟨by rfl, rfl⟩) ?_ ?_
     rotate_left
     ·simp only [Act.put, List.setIfInBounds_toArray, List.set_cons_zero, List.set_cons_succ, i64_w, i32_w]
      rfl
     refine pure_ (i := 8) (N := some 44) (v := undef) (a' := ?_) #[true, true, true, true, true, true, true, true, true, false, false, false, false] rfl rfl (by kernel_rfl) (fun _ _ _ h => h) (Or.inr ⟨by rfl, rfl⟩) ?_ ?_
     rotate_left
     ·simp only [Act.put, List.setIfInBounds_toArray, List.set_cons_zero, List.set_cons_succ, i64_w, i32_w]
      rfl
     refine pure_ (i := 9) (N := some 45) (v := undef) (a' := ?_) #[true, true, true, true, true, true, true, true, true, true, false, false, false] rfl rfl (by kernel_rfl) (fun _ _ _ h => h) (Or.inr ⟨by rfl, rfl⟩) ?_ ?_
     rotate_left
     ·simp only [Act.put, List.setIfInBounds_toArray, List.set_cons_zero, List.set_cons_succ, i64_w, i32_w]
      rfl
     refine pure_ (i := 10) (N := some 46) (v := undef) (a' := ?_) #[true, true, true, true, true, true, true, true, true, true, true, false, false] rfl rfl (by kernel_rfl) (fun _ _ _ h => h) (Or.inr ⟨by rfl, rfl⟩) ?_ ?_
     rotate_left
     ·simp only [Act.put, List.setIfInBounds_toArray, List.set_cons_zero, List.set_cons_succ, i64_w, i32_w]
      rfl
     refine pure_ (i := 11) (N := some 47) (v := undef) (a' := ?_) #[true, true, true, true, true, true, true, true, true, true, true, true, false] rfl rfl (by kernel_rfl) (fun _ _ _ h => h) (Or.inr ⟨by rfl, rfl⟩) ?_ ?_
     rotate_left
     ·simp only [Act.put, List.setIfInBounds_toArray, List.set_cons_zero, List.set_cons_succ, i64_w, i32_w]
      rfl
     refine pure_ (i := 12) (N := some 48) (v := ?_) (a' := ?_) #[true, true, true, true, true, true, true, true, true, true, true, true, true] rfl rfl (by kernel_rfl) (fun _ _ _ h => h) (Or.inl ⟨by rfl, ?_⟩) ?_ ?_
     rotate_left
     ·intro w'
      go_simp
      with_reducible rfl
     rotate_left
     ·simp only [Act.put, List.setIfInBounds_toArray, List.set_cons_zero, List.set_cons_succ, i64_w, i32_w]
      rfl
     refine done_ (by kernel_rfl) ?_
     have HNX := Lib.hid (NoFit.day HNF.out a0 (.inl hm))
     obtain ⟨hT0, hT1, hT2⟩ := hHeld
     generalize hwz : wo.drew = wz at *
     have HT := Lib.hid hT0
     have HTF := Lib.hid hT1
     have hTB := below_le hbr hT2
     clear hT0 hT1 hT2 hwz
     have hwp1 : wrap64 (D + 1) = D + 1 := by unfold wrap64; omega
     go_upto_region 15 with (go_big_may; refine wpList_load_row rfl 47 _ rfl dT rfl _ _ _ _ HT.out Try.underlying47 rfl dateSize ?_)
     dsimp only [Act.put]
     go_upto_region 7 with (go_big_may; refine wpList_store_row rfl 47 _ _ rfl wz.heap.size (dateC (D * 86400)) rfl rfl 47 _ (heap_alloc_new wz _) dateSize rfl (dateC_one _) ?_; generalize hY : World.setRow _ _ _ = wy; have HY := Lib.hid (show wy.heap[wz.heap.size]? = some (.cells (dateC (D * 86400)) 47 (0, 0)) by rw [← hY]; exact setRow_heap _ _ _ _ _ _ (heap_alloc_new wz _)); have HBY := Lib.hid (show Below wz.heap.size wz wy by rw [← hY]; exact below_setRow ((Below.refl _ _).alloc (Nat.le_refl _) _) (Nat.le_refl _) _); clear hY)
     have HYF := Lib.hid (HTF.out.below HBY.out)
     have hYB := below_le hTB HBY.out
     have hws : w.heap.size < wz.heap.size := (Array.getElem?_eq_some_iff.1 (show wz.heap[w.heap.size]? = _ from HTF.out)).1
     clear HT HTF HBY hTB
     dsimp only [Act.put]
     go_wp2_with (refine wpList_load_row rfl 47 _ rfl wz.heap.size rfl _ _ _ _ HY.out Try.underlying47 rfl dateSize ?_)
     refine (HTO.out (D * 86400) _ hy0 hy1).mono ?_
     rintro e w5 ⟨rfl, hb5⟩
     have HZ := Lib.hid ((hb5.block _ (Array.getElem?_eq_some_iff.1 HY.out).1).trans HY.out)
     have HZF := Lib.hid (HYF.out.below hb5)
     have hZB := below_le hYB hb5
     clear hb5 HY HYF hYB
     dsimp only
     go_wp2_with (refine wpList_store_row rfl 47 _ _ rfl wz.heap.size (dateC (dNext (D * 86400))) rfl rfl 47 _ HZ.out dateSize ((dateC_size (D * 86400)).trans (dateC_size (dNext (D * 86400))).symm) (dateC_one _) ?_; generalize hV : World.setRow _ _ _ = wv; have HV := Lib.hid (show wv.heap[wz.heap.size]? = some (.cells (dateC (dNext (D * 86400))) 47 (0, 0)) by rw [← hV]; exact setRow_heap _ _ _ _ _ _ HZ.out); have HVF := Lib.hid (show FieldsAt wv w.heap.size S by rw [← hV]; exact (setRow_other _ _ _ _ (Nat.ne_of_lt hws)).trans HZF.out); have HVB := Lib.hid (show Below w.heap.size w wv by rw [← hV]; exact below_setRow hZB (Nat.le_of_lt hws) _); clear hV)
     dsimp only [Act.put]
     go_simp
     obtain ⟨hdn, hyn⟩ := HS1.out
     have HV' := Lib.hid HV.out
     rw [hdn] at HV'
     exact ⟨⟨u8, u9, _, _, _, ⟨D + 1, rfl, 0, rfl, wz.heap.size, rfl, by omega, by omega, by omega, by omega, hyn, HNX, HV', Nat.le_of_lt hws, HVB.out⟩, rfl, rfl, rfl, rfl, rfl⟩, by show max (ystart (lim + 3) - (D + 1)) 0 < ystart (lim + 3) - D; have := HS2.out; omega⟩
    | true =>
     have HDFD : Hid (∀ w' : World, Calls Try.prog 27 #[.agg (fieldsC S), .agg (dateC (D * 86400)), .int .i64 ((D + 4) % 7)] w' fun e w2 => e = .returned (.bool (dayB S (D * 86400))) ∧ Below w'.heap.size w' w2) := Lib.hid (fun w' => by
      have := HDF.out (D * 86400) w'
      rw [show wdL (D * 86400) = (D + 4) % 7 by unfold wdL dayL; omega] at this
      exact this)
     refine start_ (n := 13) (S := fun w' => w'.heap[dT]? = some (.cells (dateC (D * 86400)) 47 (0, 0)) ∧ FieldsAt w' w.heap.size S ∧ Below wo.heap.size wo w') (ds := []) #[false, false, false, false, false, false, false, false, false, false, false, false, false] (by kernel_rfl) rfl rfl ⟨hdr, hfa, (Below.refl _ _).drew⟩ (fun hHeld => ?_)
     refine pure_ (i := 0) (N := some 36) (v := ?_) (a' := ?_) #[true, false, false, false, false, false, false, false, false, false, false, false, false] rfl rfl (by kernel_rfl) (fun _ _ _ h => h) (Or.inl ⟨by rfl, ?_⟩) ?_ ?_
     rotate_left
     ·intro w'
      go_simp
      with_reducible rfl
     rotate_left
     ·simp only [Act.put, List.setIfInBounds_toArray, List.set_cons_zero, List.set_cons_succ, i64_w, i32_w]
      rfl
     refine pure_ (i := 2) (N := some 38) (v := ?_) (a' := ?_) #[true, false, true, false, false, false, false, false, false, false, false, false, false] rfl rfl (by kernel_rfl) (fun _ _ _ h => h) (Or.inl ⟨by rfl, ?_⟩) ?_ ?_
     rotate_left
     ·intro w'
      go_simp
      with_reducible rfl
     rotate_left
     ·simp only [Act.put, List.setIfInBounds_toArray, List.set_cons_zero, List.set_cons_succ, i64_w, i32_w]
      rfl
     refine pure_ (i := 3) (N := some 39) (v := ?_) (a' := ?_) #[true, false, true, true, false, false, false, false, false, false, false, false, false] rfl rfl (by kernel_rfl) (fun _ _ _ h => h) (Or.inl ⟨by rfl, ?_⟩) ?_ ?_
     rotate_left
     ·intro w'
      go_simp
      with_reducible rfl
     rotate_left
     ·simp only [Act.put, List.setIfInBounds_toArray, List.set_cons_zero, List.set_cons_succ, i64_w, i32_w]
      rfl
     refine take_ (i := 1) (N := some 37) (v := ?_) (a' := ?_) #[true, true, true, true, false, false, false, false, false, false, false, false, false] rfl rfl (by kernel_rfl) (fun _ _ _ h => h) (Or.inl ⟨by rfl, ?_⟩) hHeld ?_ ?_
     rotate_left
     ·rintro w' ⟨s0, s1, s2⟩
      have c1 : w'.cell? ⟨dT, 1, none⟩ = some (.int .i64 (mn : Int)) := (cell_of_row _ _ _ _ _ _ s0).trans (show (dateC (D * 86400))[1]? = some (.int .i64 (mn : Int)) by rw [← hmn]; rfl)
      go_simp
      with_reducible rfl
     rotate_left
     ·simp only [Act.put, List.setIfInBounds_toArray, List.set_cons_zero, List.set_cons_succ, i64_w, i32_w]
      rfl
     refine pure_ (i := 4) (N := some 40) (v := ?_) (a' := ?_) #[true, true, true, true, true, false, false, false, false, false, false, false, false] rfl rfl (by kernel_rfl) (fun _ _ _ h => h) (Or.inl ⟨by rfl, ?_⟩) ?_ ?_
     rotate_left
     ·intro w'
      go_simp
      with_reducible rfl
     rotate_left
     ·simp only [Act.put, List.setIfInBounds_toArray, List.set_cons_zero, List.set_cons_succ, i64_w, i32_w]
      rfl
     refine take_ (i := 5) (N := some 41) (v := ?_) (a' := ?_) #[true, true, true, true, true, true, false, false, false, false, false, false, false] rfl rfl (by kernel_rfl) (fun _ _ _ h => h) (Or.inl ⟨by rfl, ?_⟩) hHeld ?_ ?_
     rotate_left
     ·rintro w' ⟨s0, s1, s2⟩
      have c5 : w'.cell? ⟨w.heap.size, 257 + mn, none⟩ = some (.bool (monthB S (D * 86400))) := by { have := s1.at_ 4 mn (by omega) (by omega); rw [show 4 * 64 + (mn + 1) = 257 + mn by omega] at this; rw [this, hmB] }
      rw [hm] at c5
      go_simp
      with_reducible rfl
     rotate_left
     ·simp only [Act.put, List.setIfInBounds_toArray, List.set_cons_zero, List.set_cons_succ, i64_w, i32_w]
      rfl
     refine pure_ (i := 6) (N := some 42) (v := ?_) (a' := ?_) #[true, true, true, true, true, true, true, false, false, false, false, false, false] rfl rfl (by kernel_rfl) (fun _ _ _ h => h) (Or.inl ⟨by rfl, ?_⟩) ?_ ?_
     rotate_left
     ·intro w'
      go_simp
      with_reducible rfl
     rotate_left
     ·simp only [Act.put, List.setIfInBounds_toArray, List.set_cons_zero, List.set_cons_succ, i64_w, i32_w]
      rfl
     refine pure_ (i := 9) (N := some 45) (v := ?_) (a' := ?_) #[true, true, true, true, true, true, true, false, false, true, false, false, false] rfl rfl (by kernel_rfl) (fun _ _ _ h => h) (Or.inl ⟨by rfl, ?_⟩) ?_ ?_
     rotate_left
     ·intro w'
      go_simp
      with_reducible rfl
     rotate_left
     ·simp only [Act.put, List.setIfInBounds_toArray, List.set_cons_zero, List.set_cons_succ, i64_w, i32_w]
      rfl
     refine take_ (i := 7) (N := some 43) (v := ?_) (a' := ?_) #[true, true, true, true, true, true, true, true, false, true, false, false, false] rfl rfl (by kernel_rfl) (fun _ _ _ h => h) (Or.inl ⟨by rfl, ?_⟩) hHeld ?_ ?_
     rotate_left
     ·rintro w' ⟨s0, s1, s2⟩
      refine exec_load_row _ _ w' 40 (.tmp 4) ?_ w.heap.size ?_ _ _ _ _ s1 Try.underlying40 rfl (by rw [fieldsSize, fieldsC_size])
      ·rfl
      ·rfl
     rotate_left
     ·simp only [Act.put, List.setIfInBounds_toArray, List.set_cons_zero, List.set_cons_succ, i64_w, i32_w]
      rfl
     refine take_ (i := 8) (N := some 44) (v := ?_) (a' := ?_) #[true, true, true, true, true, true, true, true, true, true, false, false, false] rfl rfl (by kernel_rfl) (fun _ _ _ h => h) (Or.inl ⟨by rfl, ?_⟩) hHeld ?_ ?_
     rotate_left
     ·rintro w' ⟨s0, s1, s2⟩
      refine exec_load_row _ _ w' 47 (.tmp 12) ?_ dT ?_ _ _ _ _ s0 Try.underlying47 rfl (dateSize)
      ·rfl
      ·rfl
     rotate_left
     ·simp only [Act.put, List.setIfInBounds_toArray, List.set_cons_zero, List.set_cons_succ, i64_w, i32_w]
      rfl
     refine one_ (i := 10) (N := some 46) #[true, true, true, true, true, true, true, true, true, true, true, false, false] rfl rfl (by kernel_rfl) (by decide) (fun K hK => ?_)
     refine goes_ Try.func28 (by kernel_rfl) rfl #[.int .i64 D] (by rfl) rfl rfl (by simp only [List.map_toArray, List.map_cons, List.map_nil]; rfl) ?_
     with_reducible refine (HWD.out D _ (by omega) (by omega)).mono ?_
     rintro e10 x10 ⟨rfl, hb10⟩
     refine ⟨_, rfl, ?_⟩
     refine hK.out _ _ ⟨(hb10.block _ (Array.getElem?_eq_some_iff.1 hHeld.1).1).trans hHeld.1, hHeld.2.1.below hb10, below_le hHeld.2.2 hb10⟩ (fun hHeld => ?_)
     clear hK K
     refine norm_ (a' := ?_) ?_ ?_
     rotate_left
     ·show Act.put _ (some 46) _ = _
      simp only [Act.put, List.setIfInBounds_toArray, List.set_cons_zero, List.set_cons_succ, i64_w, i32_w]
      rfl
     refine one_ (i := 11) (N := some 47) #[true, true, true, true, true, true, true, true, true, true, true, true, false] rfl rfl (by kernel_rfl) (by decide) (fun K hK => ?_)
     refine goes_ Try.func27 (by kernel_rfl) rfl #[.agg (fieldsC S), .agg (dateC (D * 86400)), .int .i64 ((D + 4) % 7)] (by rfl) rfl rfl (by simp only [List.map_toArray, List.map_cons, List.map_nil]; rfl) ?_
     with_reducible refine (HDFD.out _).mono ?_
     rintro e11 x11 ⟨rfl, hb11⟩
     refine ⟨_, rfl, ?_⟩
     refine hK.out _ _ ⟨(hb11.block _ (Array.getElem?_eq_some_iff.1 hHeld.1).1).trans hHeld.1, hHeld.2.1.below hb11, below_le hHeld.2.2 hb11⟩ (fun hHeld => ?_)
     clear hK K
     refine norm_ (a' := ?_) ?_ ?_
     rotate_left
     ·show Act.put _ (some 47) _ = _
      simp only [Act.put, List.setIfInBounds_toArray, List.set_cons_zero, List.set_cons_succ, i64_w, i32_w]
      rfl
     refine pure_ (i := 12) (N := some 48) (v := ?_) (a' := ?_) #[true, true, true, true, true, true, true, true, true, true, true, true, true] rfl rfl (by kernel_rfl) (fun _ _ _ h => h) (Or.inl ⟨by rfl, ?_⟩) ?_ ?_
     rotate_left
     ·intro w'
      go_simp
      with_reducible rfl
     rotate_left
     ·simp only [Act.put, List.setIfInBounds_toArray, List.set_cons_zero, List.set_cons_succ, i64_w, i32_w]
      rfl
     refine done_ (by kernel_rfl) ?_
     cases hdb : dayB S (D * 86400) with
     | false =>
      have HNX := Lib.hid (NoFit.day HNF.out a0 (.inr (.inl hdb)))
      obtain ⟨hT0, hT1, hT2⟩ := hHeld
      generalize hwz : x11 = wz at *
      have HT := Lib.hid hT0
      have HTF := Lib.hid hT1
      have hTB := below_le hbr hT2
      clear hT0 hT1 hT2 hwz
      have hwp1 : wrap64 (D + 1) = D + 1 := by unfold wrap64; omega
      go_upto_region 15 with (go_big_may; refine wpList_load_row rfl 47 _ rfl dT rfl _ _ _ _ HT.out Try.underlying47 rfl dateSize ?_)
      dsimp only [Act.put]
      go_upto_region 7 with (go_big_may; refine wpList_store_row rfl 47 _ _ rfl wz.heap.size (dateC (D * 86400)) rfl rfl 47 _ (heap_alloc_new wz _) dateSize rfl (dateC_one _) ?_; generalize hY : World.setRow _ _ _ = wy; have HY := Lib.hid (show wy.heap[wz.heap.size]? = some (.cells (dateC (D * 86400)) 47 (0, 0)) by rw [← hY]; exact setRow_heap _ _ _ _ _ _ (heap_alloc_new wz _)); have HBY := Lib.hid (show Below wz.heap.size wz wy by rw [← hY]; exact below_setRow ((Below.refl _ _).alloc (Nat.le_refl _) _) (Nat.le_refl _) _); clear hY)
      have HYF := Lib.hid (HTF.out.below HBY.out)
      have hYB := below_le hTB HBY.out
      have hws : w.heap.size < wz.heap.size := (Array.getElem?_eq_some_iff.1 (show wz.heap[w.heap.size]? = _ from HTF.out)).1
      clear HT HTF HBY hTB
      dsimp only [Act.put]
      go_wp2_with (refine wpList_load_row rfl 47 _ rfl wz.heap.size rfl _ _ _ _ HY.out Try.underlying47 rfl dateSize ?_)
      refine (HTO.out (D * 86400) _ hy0 hy1).mono ?_
      rintro e w5 ⟨rfl, hb5⟩
      have HZ := Lib.hid ((hb5.block _ (Array.getElem?_eq_some_iff.1 HY.out).1).trans HY.out)
      have HZF := Lib.hid (HYF.out.below hb5)
      have hZB := below_le hYB hb5
      clear hb5 HY HYF hYB
      dsimp only
      go_wp2_with (refine wpList_store_row rfl 47 _ _ rfl wz.heap.size (dateC (dNext (D * 86400))) rfl rfl 47 _ HZ.out dateSize ((dateC_size (D * 86400)).trans (dateC_size (dNext (D * 86400))).symm) (dateC_one _) ?_; generalize hV : World.setRow _ _ _ = wv; have HV := Lib.hid (show wv.heap[wz.heap.size]? = some (.cells (dateC (dNext (D * 86400))) 47 (0, 0)) by rw [← hV]; exact setRow_heap _ _ _ _ _ _ HZ.out); have HVF := Lib.hid (show FieldsAt wv w.heap.size S by rw [← hV]; exact (setRow_other _ _ _ _ (Nat.ne_of_lt hws)).trans HZF.out); have HVB := Lib.hid (show Below w.heap.size w wv by rw [← hV]; exact below_setRow hZB (Nat.le_of_lt hws) _); clear hV)
      dsimp only [Act.put]
      go_simp
      obtain ⟨hdn, hyn⟩ := HS1.out
      have HV' := Lib.hid HV.out
      rw [hdn] at HV'
      exact ⟨⟨u8, u9, _, _, _, ⟨D + 1, rfl, 0, rfl, wz.heap.size, rfl, by omega, by omega, by omega, by omega, hyn, HNX, HV', Nat.le_of_lt hws, HVB.out⟩, rfl, rfl, rfl, rfl, rfl⟩, by show max (ystart (lim + 3) - (D + 1)) 0 < ystart (lim + 3) - D; have := HS2.out; omega⟩
     | true =>
      have HT := Lib.hid hHeld.1
      have HTF := Lib.hid hHeld.2.1
      have HTB := Lib.hid hHeld.2.2
      clear hHeld
      go_upto_region 10 with (go_big_may; refine wpList_load_row rfl 40 _ rfl w.heap.size rfl _ _ _ _ HTF.out Try.underlying40 rfl (by rw [fieldsSize, fieldsC_size]) ?_)
      obtain ⟨n, rfl⟩ : ∃ n : Nat, at' = (n : Int) := ⟨at'.toNat, by omega⟩
      refine (HCT.out n (by omega) _).mono ?_
      rintro e w7 ⟨⟨r, rfl, hr, hrn⟩, hb7⟩
      have hHeld : w7.heap[dT]? = some (.cells (dateC (D * 86400)) 47 (0, 0)) ∧ FieldsAt w7 w.heap.size S ∧ Below wo.heap.size wo w7 := ⟨(hb7.block _ (Array.getElem?_eq_some_iff.1 HT.out).1).trans HT.out, HTF.out.below hb7, below_le HTB.out hb7⟩
      have HR := Lib.hid hr
      have HRN := Lib.hid hrn
      clear HT HTF HTB hb7 hr hrn
      dsimp only
      by_cases hr0 : 0 ≤ r
      ·have hdr0 : decide (0 ≤ r) = true := decide_eq_true hr0
       have hdr1 : decide (r ≥ 0) = true := decide_eq_true hr0
       have hrB := below_le hbr hHeld.2.2
       clear hHeld
       have hr' := HR.out hr0
       have hwr : wrap64 (86400 * D + r) = 86400 * D + r := by unfold wrap64; omega
       go_wp2_with fail
       go_ret2
       rw [show 86400 * D + r = D * 86400 + r by omega]
       have hrn := HRN.out
       rw [if_pos hr0] at hrn
       refine ⟨⟨_, _, rfl, (fun h => ⟨⟨by omega, ?_, NoFit.in_day HNF.out a0 (by omega) hrn, ?_⟩, of_decide_eq_true h⟩), (fun h y h1 h2 _ => NoFit.in_day HNF.out a0 (by omega) hrn y h1 (by have := of_decide_eq_false h; omega))⟩, hrB⟩
       rotate_left
       ·have := same_day (L := D * 86400) (x := D * 86400 + r) (by omega)
        rw [this.2.1]
        exact hyl
       ·have hk := keep_day hm hdb (x := D * 86400 + r) (by omega)
        obtain ⟨q0, q1, q2, q3, q4⟩ := hr'
        refine ⟨hk.1, hk.2.1, ?_, ?_, ?_⟩
        ·unfold hourB hourL
         rw [show (D * 86400 + r) % 86400 / 3600 = r / 3600 by omega]
         exact q2
        ·unfold minB minL
         rw [show (D * 86400 + r) % 3600 / 60 = r % 3600 / 60 by omega]
         exact q3
        ·unfold secB secL
         rw [show (D * 86400 + r) % 60 = r % 60 by omega]
         exact q4
      ·have hdr0 : decide (0 ≤ r) = false := decide_eq_false hr0
       have hdr1 : decide (r ≥ 0) = false := decide_eq_false hr0
       have hrn := HRN.out
       rw [if_neg hr0] at hrn
       have HNX := Lib.hid (NoFit.day HNF.out a0 (.inr (.inr hrn)))
       clear hrn
       obtain ⟨hT0, hT1, hT2⟩ := hHeld
       generalize hwz : w7 = wz at *
       have HT := Lib.hid hT0
       have HTF := Lib.hid hT1
       have hTB := below_le hbr hT2
       clear hT0 hT1 hT2 hwz
       have hwp1 : wrap64 (D + 1) = D + 1 := by unfold wrap64; omega
       go_upto_region 15 with (go_big_may; refine wpList_load_row rfl 47 _ rfl dT rfl _ _ _ _ HT.out Try.underlying47 rfl dateSize ?_)
       dsimp only [Act.put]
       go_upto_region 7 with (go_big_may; refine wpList_store_row rfl 47 _ _ rfl wz.heap.size (dateC (D * 86400)) rfl rfl 47 _ (heap_alloc_new wz _) dateSize rfl (dateC_one _) ?_; generalize hY : World.setRow _ _ _ = wy; have HY := Lib.hid (show wy.heap[wz.heap.size]? = some (.cells (dateC (D * 86400)) 47 (0, 0)) by rw [← hY]; exact setRow_heap _ _ _ _ _ _ (heap_alloc_new wz _)); have HBY := Lib.hid (show Below wz.heap.size wz wy by rw [← hY]; exact below_setRow ((Below.refl _ _).alloc (Nat.le_refl _) _) (Nat.le_refl _) _); clear hY)
       have HYF := Lib.hid (HTF.out.below HBY.out)
       have hYB := below_le hTB HBY.out
       have hws : w.heap.size < wz.heap.size := (Array.getElem?_eq_some_iff.1 (show wz.heap[w.heap.size]? = _ from HTF.out)).1
       clear HT HTF HBY hTB
       dsimp only [Act.put]
       go_wp2_with (refine wpList_load_row rfl 47 _ rfl wz.heap.size rfl _ _ _ _ HY.out Try.underlying47 rfl dateSize ?_)
       refine (HTO.out (D * 86400) _ hy0 hy1).mono ?_
       rintro e w5 ⟨rfl, hb5⟩
       have HZ := Lib.hid ((hb5.block _ (Array.getElem?_eq_some_iff.1 HY.out).1).trans HY.out)
       have HZF := Lib.hid (HYF.out.below hb5)
       have hZB := below_le hYB hb5
       clear hb5 HY HYF hYB
       dsimp only
       go_wp2_with (refine wpList_store_row rfl 47 _ _ rfl wz.heap.size (dateC (dNext (D * 86400))) rfl rfl 47 _ HZ.out dateSize ((dateC_size (D * 86400)).trans (dateC_size (dNext (D * 86400))).symm) (dateC_one _) ?_; generalize hV : World.setRow _ _ _ = wv; have HV := Lib.hid (show wv.heap[wz.heap.size]? = some (.cells (dateC (dNext (D * 86400))) 47 (0, 0)) by rw [← hV]; exact setRow_heap _ _ _ _ _ _ HZ.out); have HVF := Lib.hid (show FieldsAt wv w.heap.size S by rw [← hV]; exact (setRow_other _ _ _ _ (Nat.ne_of_lt hws)).trans HZF.out); have HVB := Lib.hid (show Below w.heap.size w wv by rw [← hV]; exact below_setRow hZB (Nat.le_of_lt hws) _); clear hV)
       dsimp only [Act.put]
       go_simp
       obtain ⟨hdn, hyn⟩ := HS1.out
       have HV' := Lib.hid HV.out
       rw [hdn] at HV'
       exact ⟨⟨u8, u9, _, _, _, ⟨D + 1, rfl, 0, rfl, wz.heap.size, rfl, by omega, by omega, by omega, by omega, hyn, HNX, HV', Nat.le_of_lt hws, HVB.out⟩, rfl, rfl, rfl, rfl, rfl⟩, by show max (ystart (lim + 3) - (D + 1)) 0 < ystart (lim + 3) - D; have := HS2.out; omega⟩
   ·have hd1 : decide (yearL (D * 86400) ≤ lim) = false := decide_eq_false hyl
    have hcy : wr.cell? ⟨dT, 0, none⟩ = some (.int .i64 (yearL (D * 86400))) := cell_of_row _ _ _ _ _ _ HD.out
    go_wp2_with fail
    all_goals
     go_ret2
     exact ⟨⟨_, _, rfl, (fun h => by cases h), fun _ y h1 _ h3 => noFit_end HNF.out a0 (by omega) y h1 h3⟩, hbr⟩
end Go.Proofs.Ytlopkdhblfibkaa.CronN
namespace Go.Proofs.Ytlopkdhblfibkaa.Cal
open Go
set_option linter.unusedVariables false
set_option linter.unusedSectionVars false
set_option linter.unusedSimpArgs false
structure GoodL (offs : List Int) (dst : List Bool) (whn idx : List Int) : Prop where
 n1 : 1 ≤ offs.length
 n64 : offs.length ≤ 64
 dl : dst.length = offs.length
 m1 : 1 ≤ whn.length
 m4 : whn.length ≤ 4096
 il : idx.length = whn.length
 w0 : whn.getD 0 0 = -9223372036854775808
 ob : ∀ i, i < offs.length → -86400 ≤ offs.getD i 0 ∧ offs.getD i 0 ≤ 86400
 ib : ∀ i, i < whn.length → 0 ≤ idx.getD i 0 ∧ idx.getD i 0 < offs.length
 inc : ∀ i, i + 1 < whn.length → whn.getD i 0 < whn.getD (i + 1) 0
def cnt (whn : List Int) (u : Int) : Nat → Nat
 | 0 => 0
 | n + 1 => if whn.getD (n + 1) 0 ≤ u then n + 1 else cnt whn u n
def posL (whn : List Int) (u : Int) : Nat := cnt whn u (whn.length - 1)
def offAt (offs idx : List Int) (j : Nat) : Int := offs.getD (idx.getD j 0).toNat 0
def offL (offs whn idx : List Int) (u : Int) : Int := offAt offs idx (posL whn u)
theorem cnt_spec (whn : List Int) (u : Int) : ∀ n, cnt whn u n ≤ n ∧ (cnt whn u n = 0 ∨ whn.getD (cnt whn u n) 0 ≤ u) ∧ ∀ i, cnt whn u n < i → i ≤ n → u < whn.getD i 0
 | 0 => ⟨Nat.le_refl _, .inl rfl, fun i h1 h2 => by unfold cnt at h1; omega⟩
 | n + 1 => by
  obtain ⟨a, b, c⟩ := cnt_spec whn u n
  unfold cnt
  split
  ·exact ⟨Nat.le_refl _, .inr (by assumption), fun i h1 h2 => by omega⟩
  ·refine ⟨by omega, b, fun i h1 h2 => ?_⟩
   by_cases hi : i ≤ n
   ·exact c i h1 hi
   ·rw [show i = n + 1 by omega]; omega
section
variable {offs : List Int} {dst : List Bool} {whn idx : List Int} (G : GoodL offs dst whn idx)
include G
theorem whn_lt : ∀ (d i : Nat), i + (d + 1) < whn.length → whn.getD i 0 < whn.getD (i + (d + 1)) 0
 | 0, i, h => G.inc i h
 | d + 1, i, h => by
  have h1 := whn_lt d i (by omega)
  have h2 := G.inc (i + (d + 1)) (by omega)
  rw [show i + (d + 1 + 1) = i + (d + 1) + 1 by omega]
  omega
theorem whn_mono {i j : Nat} (h : i < j) (hj : j < whn.length) : whn.getD i 0 < whn.getD j 0 := by
 have := whn_lt G (j - i - 1) i (by omega)
 rw [show i + (j - i - 1 + 1) = j by omega] at this
 exact this
theorem pos_lt (u : Int) : posL whn u < whn.length := by
 have := (cnt_spec whn u (whn.length - 1)).1
 have := G.m1
 unfold posL
 omega
theorem pos_le (u : Int) (hu : -9223372036854775808 ≤ u) : whn.getD (posL whn u) 0 ≤ u := by
 rcases (cnt_spec whn u (whn.length - 1)).2.1 with h | h
 ·unfold posL; rw [h, G.w0]; exact hu
 ·exact h
theorem pos_gt (u : Int) (h : posL whn u + 1 < whn.length) : u < whn.getD (posL whn u + 1) 0 := (cnt_spec whn u (whn.length - 1)).2.2 _ (by unfold posL; omega) (by unfold posL at *; omega)
theorem pos_eq {u : Int} {j : Nat} (hj : j < whn.length) (h1 : j = 0 ∨ whn.getD j 0 ≤ u) (h2 : j + 1 < whn.length → u < whn.getD (j + 1) 0) : posL whn u = j := by
 have hp := pos_lt G u
 have hg := pos_gt G u
 have hl := (cnt_spec whn u (whn.length - 1)).2.1
 rw [show cnt whn u (whn.length - 1) = posL whn u from rfl] at hl
 rcases Nat.lt_trichotomy (posL whn u) j with h | h | h
 ·exfalso
  have a := hg (by omega)
  have b : whn.getD (posL whn u + 1) 0 ≤ whn.getD j 0 := by
   by_cases e : posL whn u + 1 = j
   ·rw [e]; exact Int.le_refl _
   ·have := whn_mono G (i := posL whn u + 1) (j := j) (by omega) hj; omega
  rcases h1 with h1 | h1
  ·omega
  ·omega
 ·exact h
 ·exfalso
  have a := h2 (by omega)
  have b : whn.getD (j + 1) 0 ≤ whn.getD (posL whn u) 0 := by
   by_cases e : j + 1 = posL whn u
   ·rw [e]; exact Int.le_refl _
   ·have := whn_mono G (i := j + 1) (j := posL whn u) (by omega) hp; omega
  rcases hl with hl | hl
  ·omega
  ·omega
theorem offAt_in {j : Nat} (hj : j < whn.length) : (idx.getD j 0).toNat < offs.length ∧ -86400 ≤ offAt offs idx j ∧ offAt offs idx j ≤ 86400 := by
 have := G.ib j hj
 have h : (idx.getD j 0).toNat < offs.length := by omega
 exact ⟨h, G.ob _ h⟩
theorem offL_in (u : Int) : -86400 ≤ offL offs whn idx u ∧ offL offs whn idx u ≤ 86400 := (offAt_in G (pos_lt G u)).2
theorem offL_at {v : Int} {j : Nat} (hj : j < whn.length) (h1 : whn.getD j 0 ≤ v) (h2 : j + 1 < whn.length → v < whn.getD (j + 1) 0) : offL offs whn idx v = offAt offs idx j := by
 unfold offL
 rw [pos_eq G hj (.inr h1) h2]
structure PlainL (offs whn idx : List Int) : Prop where
 m60 : ∀ i, i < offs.length → offs.getD i 0 % 60 = 0
 tr : ∀ i, i + 1 < whn.length → (whn.getD (i + 1) 0 + offAt offs idx i) % 3600 = 0 ∧ (whn.getD (i + 1) 0 + offAt offs idx (i + 1)) % 3600 = 0 ∧ (whn.getD (i + 1) 0 + offAt offs idx i) / 86400 = (whn.getD (i + 1) 0 + offAt offs idx (i + 1)) / 86400 ∧
  3600 ≤ (whn.getD (i + 1) 0 + offAt offs idx i) % 86400 ∧ 3600 ≤ (whn.getD (i + 1) 0 + offAt offs idx (i + 1)) % 86400 ∧ offAt offs idx i - 3600 ≤ offAt offs idx (i + 1)
 gap : ∀ i, i + 2 < whn.length → 345600 ≤ whn.getD (i + 2) 0 - whn.getD (i + 1) 0
theorem change_at {u : Int} (h : offL offs whn idx (u + 1) ≠ offL offs whn idx u) : ∃ i, i + 1 < whn.length ∧ whn.getD (i + 1) 0 = u + 1 ∧ posL whn (u + 1) = i + 1 ∧ posL whn u = i := by
 have hp := pos_lt G u
 have hl := (cnt_spec whn u (whn.length - 1)).2.1
 rw [show cnt whn u (whn.length - 1) = posL whn u from rfl] at hl
 by_cases hc : posL whn u + 1 < whn.length
 ·have hg := pos_gt G u hc
  by_cases he : whn.getD (posL whn u + 1) 0 = u + 1
  ·refine ⟨posL whn u, hc, he, pos_eq G hc (.inr (by omega)) (fun h2 => ?_), rfl⟩
   have := G.inc (posL whn u + 1) h2
   omega
  ·exact absurd (congrArg (offAt offs idx) (pos_eq G (u := u + 1) hp (by rcases hl with h | h; exact .inl h; exact .inr (by omega)) (fun _ => by omega))) h
 ·exact absurd (congrArg (offAt offs idx) (pos_eq G (u := u + 1) hp (by rcases hl with h | h; exact .inl h; exact .inr (by omega)) (fun h => absurd h hc))) h
theorem zn_of (P : PlainL offs whn idx) : Zn (offL offs whn idx) where
 o0 := fun u => (offL_in G u).1
 o1 := fun u => (offL_in G u).2
 m60 := fun u => P.m60 _ (offAt_in G (pos_lt G u)).1
 step := fun u h => by
  obtain ⟨i, h1, h2, h3, h4⟩ := change_at G h
  have := P.tr i h1
  unfold offL
  rw [h3, h4, ← h2]
  exact this
 gap := fun u v huv hu hv => by
  obtain ⟨i, h1, h2, h3, h4⟩ := change_at G hu
  obtain ⟨j, k1, k2, k3, k4⟩ := change_at G hv
  have hij : i < j := by
   rcases Nat.lt_trichotomy i j with h | h | h
   ·exact h
   ·subst h; omega
   ·have := whn_mono G (i := j + 1) (j := i + 1) (by omega) h1; omega
  have hg := P.gap (j - 1) (by omega)
  rw [show j - 1 + 2 = j + 1 by omega, show j - 1 + 1 = j by omega] at hg
  have : whn.getD (i + 1) 0 ≤ whn.getD j 0 := by
   by_cases e : i + 1 = j
   ·rw [e]; exact Int.le_refl _
   ·have := whn_mono G (i := i + 1) (j := j) (by omega) (by omega); omega
  omega
end
end Go.Proofs.Ytlopkdhblfibkaa.Cal
namespace Go.Proofs.Ytlopkdhblfibkaa.CronN
open Go Go.RowKit Go.Proofs.YtlopkdhblfibkaaW.PrintWords Go.Proofs.YtlopkdhblfibkaaW.PrintLast Go.Proofs.Ytlopkdhblfibkaa.Cal Go.Proofs.Ytlopkdhblfibkaa.Pr
set_option linter.unusedVariables false
set_option linter.unusedSimpArgs false
set_option linter.unusedSectionVars false
theorem rd_nat (l : List Int) (i : Nat) : rd l (i : Int) = l.getD i 0 := by unfold rd; simp
theorem wrap_succ (i : Nat) (h : i ≤ 4096) : wrap64 ((i : Int) + 1) = ((i + 1 : Nat) : Int) := by unfold wrap64; omega
theorem wrap_pred (i : Nat) (h : i ≤ 4096) (h0 : 0 < i) : wrap64 ((i : Int) - 1) = ((i - 1 : Nat) : Int) := by unfold wrap64; omega
section
variable {offs : List Int} {dst : List Bool} {whn idx : List Int}
theorem good_l1 (hl : idx.length = whn.length) (hL : whn.length ≤ 4096) : ∀ d i, idx.length - i = d → i ≤ idx.length → ∃ k b, spec_GoodZone.l1 k idx (idx.length : Int) (i : Int) offs dst whn idx = some b ∧
  (b = true → ∀ j, i ≤ j → j < idx.length → 0 ≤ idx.getD j 0 ∧ idx.getD j 0 < offs.length ∧ (0 < j → whn.getD (j - 1) 0 < whn.getD j 0)) := by
 intro d
 induction d with
 | zero =>
  intro i hd hi
  obtain rfl : i = idx.length := by omega
  exact ⟨1, true, by simp [spec_GoodZone.l1], fun _ j h1 h2 => absurd h2 (by omega)⟩
 | succ d ih =>
  intro i hd hi
  have h1 : (i : Int) < idx.length := by omega
  have h2 : (0 : Int) ≤ i := by omega
  obtain ⟨k, b, hk, hb⟩ := ih (i + 1) (by omega) (by omega)
  by_cases c1 : idx.getD i 0 < 0
  ·exact ⟨k + 1, false, by unfold spec_GoodZone.l1; rw [if_pos h1, if_pos h2, if_pos h1, rd_nat, if_pos c1], fun h => by cases h⟩
  by_cases c2 : idx.getD i 0 ≥ offs.length
  ·exact ⟨k + 1, false, by unfold spec_GoodZone.l1; rw [if_pos h1, if_pos h2, if_pos h1, rd_nat, if_neg c1, if_pos c2], fun h => by cases h⟩
  by_cases c3 : 0 < i
  ·have h3 : (i : Int) > 0 := by omega
   have h4 : (0 : Int) ≤ ((i - 1 : Nat) : Int) := by omega
   have h5 : ((i - 1 : Nat) : Int) < whn.length := by omega
   have h6 : (i : Int) < whn.length := by omega
   by_cases c4 : whn.getD (i - 1) 0 ≥ whn.getD i 0
   ·exact ⟨k + 1, false, by unfold spec_GoodZone.l1; rw [if_pos h1, if_pos h2, if_pos h1, rd_nat, if_neg c1, if_neg c2, if_pos h3, wrap_pred i (by omega) c3, if_pos h4, if_pos h5, if_pos h6, rd_nat, rd_nat, if_pos c4], fun h => by cases h⟩
   ·refine ⟨k + 1, b, by unfold spec_GoodZone.l1; rw [if_pos h1, if_pos h2, if_pos h1, rd_nat, if_neg c1, if_neg c2, if_pos h3, wrap_pred i (by omega) c3, if_pos h4, if_pos h5, if_pos h6, rd_nat, rd_nat, if_neg c4, wrap_succ i (by omega)]; exact hk, fun h j j1 j2 => ?_⟩
    by_cases e : j = i
    ·subst e
     exact ⟨by omega, by omega, fun _ => by omega⟩
    ·exact hb h j (by omega) j2
  ·have h3 : ¬ (i : Int) > 0 := by omega
   refine ⟨k + 1, b, by unfold spec_GoodZone.l1; rw [if_pos h1, if_pos h2, if_pos h1, rd_nat, if_neg c1, if_neg c2, if_neg h3, wrap_succ i (by omega)]; exact hk, fun h j j1 j2 => ?_⟩
   by_cases e : j = i
   ·subst e
    exact ⟨by omega, by omega, fun h => absurd h c3⟩
   ·exact hb h j (by omega) j2
theorem good_l0 (hn : offs.length ≤ 64) (hl : idx.length = whn.length) (hL : whn.length ≤ 4096) : ∀ d i, offs.length - i = d → i ≤ offs.length → ∃ k b, spec_GoodZone.l0 k offs (offs.length : Int) (i : Int) offs dst whn idx = some b ∧
  (b = true → (∀ j, i ≤ j → j < offs.length → -86400 ≤ offs.getD j 0 ∧ offs.getD j 0 ≤ 86400) ∧ ∀ j, j < idx.length → 0 ≤ idx.getD j 0 ∧ idx.getD j 0 < offs.length ∧ (0 < j → whn.getD (j - 1) 0 < whn.getD j 0)) := by
 intro d
 induction d with
 | zero =>
  intro i hd hi
  obtain rfl : i = offs.length := by omega
  obtain ⟨k, b, hk, hb⟩ := good_l1 (offs := offs) (dst := dst) hl hL idx.length 0 (by omega) (by omega)
  refine ⟨k + 1, b, by unfold spec_GoodZone.l0; rw [if_neg (by omega)]; exact hk, fun h => ⟨fun j h1 h2 => absurd h2 (by omega), fun j h2 => hb h j (by omega) h2⟩⟩
 | succ d ih =>
  intro i hd hi
  have h1 : (i : Int) < offs.length := by omega
  have h2 : (0 : Int) ≤ i := by omega
  obtain ⟨k, b, hk, hb⟩ := ih (i + 1) (by omega) (by omega)
  by_cases c1 : offs.getD i 0 < -86400
  ·exact ⟨k + 1, false, by unfold spec_GoodZone.l0; rw [if_pos h1, if_pos h2, if_pos h1, rd_nat, if_pos c1], fun h => by cases h⟩
  by_cases c2 : offs.getD i 0 > 86400
  ·exact ⟨k + 1, false, by unfold spec_GoodZone.l0; rw [if_pos h1, if_pos h2, if_pos h1, rd_nat, if_neg c1, if_pos c2], fun h => by cases h⟩
  refine ⟨k + 1, b, by unfold spec_GoodZone.l0; rw [if_pos h1, if_pos h2, if_pos h1, rd_nat, if_neg c1, if_neg c2, wrap_succ i (by omega)]; exact hk, fun h => ⟨fun j j1 j2 => ?_, (hb h).2⟩⟩
  by_cases e : j = i
  ·subst e
   omega
  ·exact (hb h).1 j (by omega) j2
theorem good_f (offs : List Int) (dst : List Bool) (whn idx : List Int) : ∃ k b, spec_GoodZone.f k offs dst whn idx = some b ∧ (b = true → (offs.length = 0 ∧ dst.length = 0 ∧ whn.length = 0 ∧ idx.length = 0) ∨ GoodL offs dst whn idx) := by
 by_cases n0 : offs.length = 0
 ·refine ⟨0, ?_⟩
  unfold spec_GoodZone.f
  rw [if_pos (by omega)]
  by_cases d0 : (dst.length : Int) = 0
  ·rw [if_pos d0]
   by_cases w0 : (whn.length : Int) = 0
   ·rw [if_pos w0]
    exact ⟨_, rfl, fun h => .inl ⟨n0, by omega, by omega, by simpa using h⟩⟩
   ·rw [if_neg w0]
    exact ⟨_, rfl, fun h => by cases h⟩
  ·rw [if_neg d0]
   exact ⟨_, rfl, fun h => by cases h⟩
 have n0' : ¬ (offs.length : Int) = 0 := by omega
 have jt : spec_GoodZone.j0 1 true offs dst whn idx = some false := by simp [spec_GoodZone.j0]
 by_cases c1 : (offs.length : Int) > 64
 ·exact ⟨1, false, by unfold spec_GoodZone.f; rw [if_neg n0', if_pos c1]; exact jt, fun h => by cases h⟩
 by_cases c2 : (dst.length : Int) = offs.length
 rotate_left
 ·exact ⟨1, false, by unfold spec_GoodZone.f; rw [if_neg n0', if_neg c1, if_neg c2]; exact jt, fun h => by cases h⟩
 by_cases c3 : (whn.length : Int) = 0
 ·exact ⟨1, false, by unfold spec_GoodZone.f; rw [if_neg n0', if_neg c1, if_pos c2, if_pos c3]; exact jt, fun h => by cases h⟩
 by_cases c4 : (whn.length : Int) > 4096
 ·exact ⟨1, false, by unfold spec_GoodZone.f; rw [if_neg n0', if_neg c1, if_pos c2, if_neg c3, if_pos c4]; exact jt, fun h => by cases h⟩
 by_cases c5 : (idx.length : Int) = whn.length
 rotate_left
 ·exact ⟨1, false, by unfold spec_GoodZone.f; rw [if_neg n0', if_neg c1, if_pos c2, if_neg c3, if_neg c4, if_neg c5]; exact jt, fun h => by cases h⟩
 have c6 : (0 : Int) < whn.length := by omega
 have e0 : rd whn 0 = whn.getD 0 0 := rd_nat whn 0
 by_cases c7 : whn.getD 0 0 = -9223372036854775808
 rotate_left
 ·have hb : (rd whn 0 != (-9223372036854775808)) = true := by rw [e0]; exact bne_iff_ne.2 c7
  exact ⟨1, false, by unfold spec_GoodZone.f; rw [if_neg n0', if_neg c1, if_pos c2, if_neg c3, if_neg c4, if_pos c5, if_pos c6, hb]; exact jt, fun h => by cases h⟩
 have hb : (rd whn 0 != (-9223372036854775808)) = false := by rw [e0, c7]; decide
 obtain ⟨k, b, hk, hg⟩ := good_l0 (offs := offs) (dst := dst) (whn := whn) (idx := idx) (by omega) (by omega) (by omega) offs.length 0 (by omega) (by omega)
 refine ⟨k + 1, b, ?_, fun h => .inr ?_⟩
 ·unfold spec_GoodZone.f
  rw [if_neg n0', if_neg c1, if_pos c2, if_neg c3, if_neg c4, if_pos c5, if_pos c6, hb]
  simp only [spec_GoodZone.j0, Bool.false_eq_true, if_false]
  exact hk
 ·obtain ⟨g1, g2⟩ := hg h
  exact ⟨by omega, by omega, by omega, by omega, by omega, by omega, c7, fun i hi => g1 i (by omega) hi, fun i hi => ⟨(g2 i (by omega)).1, (g2 i (by omega)).2.1⟩, fun i hi => by have := (g2 (i + 1) (by omega)).2.2 (by omega); simpa using this⟩
theorem rd_off (j : Nat) : rd offs (rd idx (j : Int)) = offAt offs idx j := by rw [rd_nat]; rfl
section
variable (G : GoodL offs dst whn idx)
include G
theorem idx_in {j : Nat} (hj : j < whn.length) : (j : Int) < idx.length ∧ 0 ≤ rd idx (j : Int) ∧ rd idx (j : Int) < offs.length := by
 have := G.ib j hj
 have := G.il
 rw [rd_nat]
 omega
theorem le_pos (u : Int) (hu : -9223372036854775808 ≤ u) {i : Nat} (h : i ≤ posL whn u) : whn.getD i 0 ≤ u := by
 have h1 := pos_le G u hu
 by_cases e : i = posL whn u
 ·rw [e]; exact h1
 ·have := whn_mono G (i := i) (j := posL whn u) (by omega) (pos_lt G u); omega
theorem gt_pos (u : Int) {i : Nat} (h : posL whn u < i) (hi : i < whn.length) : u < whn.getD i 0 := by
 have h1 := pos_gt G u (by omega)
 by_cases e : i = posL whn u + 1
 ·rw [e]; exact h1
 ·have := whn_mono G (i := posL whn u + 1) (j := i) (by omega) hi; omega
theorem offset_l (u : Int) (hu : -9223372036854775808 ≤ u) : ∀ d i x, whn.length - i = d → i ≤ whn.length → ∃ k, spec_CronOffset.l0 k u x whn (whn.length : Int) (i : Int) offs dst whn idx = some (if i ≤ posL whn u then offL offs whn idx u else x) := by
 intro d
 have hL := G.m4
 have hp := pos_lt G u
 induction d with
 | zero =>
  intro i x hd hi
  obtain rfl : i = whn.length := by omega
  exact ⟨1, by unfold spec_CronOffset.l0; rw [if_neg (by omega), if_neg (by omega)]⟩
 | succ d ih =>
  intro i x hd hi
  obtain ⟨i1, i2, i3⟩ := idx_in G (j := i) (by omega)
  have h1 : (i : Int) < whn.length := by omega
  have h2 : (0 : Int) ≤ i := by omega
  by_cases c : i ≤ posL whn u
  ·have hle := le_pos G u hu c
   obtain ⟨k, hk⟩ := ih (i + 1) (offAt offs idx i) (by omega) (by omega)
   refine ⟨k + 1, ?_⟩
   unfold spec_CronOffset.l0
   rw [if_pos h1, if_pos h2, if_pos h1, rd_nat whn, if_pos hle, if_pos i1, if_pos i2, if_pos i3, wrap_succ i (by omega), rd_off, hk, if_pos c]
   by_cases c2 : i + 1 ≤ posL whn u
   ·rw [if_pos c2]
   ·rw [if_neg c2]
    unfold offL
    rw [show posL whn u = i by omega]
  ·have hgt := gt_pos G u (i := i) (by omega) (by omega)
   obtain ⟨k, hk⟩ := ih (i + 1) x (by omega) (by omega)
   refine ⟨k + 1, ?_⟩
   unfold spec_CronOffset.l0
   rw [if_pos h1, if_pos h2, if_pos h1, rd_nat whn, if_neg (by omega), wrap_succ i (by omega), hk, if_neg c, if_neg (by omega)]
theorem offset_f (u : Int) (hu : -9223372036854775808 ≤ u) : ∃ k, spec_CronOffset.f k offs dst whn idx u = some (offL offs whn idx u) := by
 obtain ⟨k, hk⟩ := offset_l G u hu whn.length 0 0 (by omega) (by omega)
 exact ⟨k, hk.trans (by rw [if_pos (Nat.zero_le _)])⟩
omit G in
def nxL (whn : List Int) (u : Int) : Option Int := if posL whn u + 1 < whn.length then some (whn.getD (posL whn u + 1) 0) else none
omit G in
def nxV : Option Int → Int × Bool | none => (0, false) | some c => (c, true)
theorem change_l (u : Int) (hu : -9223372036854775808 ≤ u) : ∀ d i, whn.length - i = d → i ≤ whn.length → i ≤ posL whn u + 1 → ∃ k, spec_CronChange.l0 k u whn (whn.length : Int) (i : Int) = some (nxV (nxL whn u)) := by
 intro d
 have hL := G.m4
 have hp := pos_lt G u
 induction d with
 | zero =>
  intro i hd hi hx
  obtain rfl : i = whn.length := by omega
  refine ⟨1, ?_⟩
  unfold spec_CronChange.l0 nxL
  rw [if_neg (by omega), if_neg (by omega)]
  rfl
 | succ d ih =>
  intro i hd hi hx
  have h1 : (i : Int) < whn.length := by omega
  have h2 : (0 : Int) ≤ i := by omega
  by_cases c : i ≤ posL whn u
  ·have hle := le_pos G u hu c
   obtain ⟨k, hk⟩ := ih (i + 1) (by omega) (by omega) (by omega)
   refine ⟨k + 1, ?_⟩
   unfold spec_CronChange.l0
   rw [if_pos h1, if_pos h2, if_pos h1, rd_nat, if_neg (by omega), wrap_succ i (by omega)]
   exact hk
  ·have hgt := gt_pos G u (i := i) (by omega) (by omega)
   refine ⟨1, ?_⟩
   unfold spec_CronChange.l0 nxL
   rw [if_pos h1, if_pos h2, if_pos h1, rd_nat, if_pos (by omega), show posL whn u + 1 = i by omega, if_pos (by omega)]
   rfl
theorem change_f (u : Int) (hu : -9223372036854775808 ≤ u) : ∃ k, spec_CronChange.f k offs dst whn idx u = some (nxV (nxL whn u)) := change_l G u hu whn.length 0 (by omega) (by omega) (by omega)
theorem nx_stay {u v : Int} (hu : -9223372036854775808 ≤ u) (h : u ≤ v) (hc : ∀ c, nxL whn u = some c → v < c) : offL offs whn idx v = offL offs whn idx u := by
 have h1 := pos_le G u hu
 rw [offL_at G (pos_lt G u) (v := v) (by omega) (fun h2 => hc _ (by unfold nxL; rw [if_pos h2]))]
 rfl
theorem nx_gt {u c : Int} (hc : nxL whn u = some c) : u < c := by
 unfold nxL at hc
 split at hc
 ·rename_i h
  have := pos_gt G u h
  cases hc
  exact this
 ·cases hc
end
theorem floorMod_h (a : Int) (ha : -1000000000000 ≤ a) (ha1 : a ≤ 1000000000000) : spec_floorMod.f a 3600 = some (a % 3600) := by
 unfold spec_floorMod.f
 rw [floorDiv_f a 3600 (by omega) (by omega)]
 simp only [Option.bind_some]
 rw [w64 (x := 3600 * (a / 3600)) (by omega) (by omega), w64 (by omega) (by omega)]
 congr 1
 omega
theorem floorMod_d (a : Int) (ha : -1000000000000 ≤ a) (ha1 : a ≤ 1000000000000) : spec_floorMod.f a 86400 = some (a % 86400) := by
 unfold spec_floorMod.f
 rw [floorDiv_f a 86400 (by omega) (by omega)]
 simp only [Option.bind_some]
 rw [w64 (x := 86400 * (a / 86400)) (by omega) (by omega), w64 (by omega) (by omega)]
 congr 1
 omega
section
variable (G : GoodL offs dst whn idx)
theorem pj2_t (k : Nat) (i W : Int) : spec_CronPlainZone.j2 (k + 1) i W true offs dst whn idx = some false := by simp [spec_CronPlainZone.j2]
theorem pj3_t (k : Nat) (i W : Int) : spec_CronPlainZone.j3 (k + 1) i W true offs dst whn idx = some false := by simp [spec_CronPlainZone.j3]
theorem pj4_t (k : Nat) (i B A : Int) : spec_CronPlainZone.j4 (k + 1) i B A true offs dst whn idx = some false := by simp [spec_CronPlainZone.j4]
include G
theorem pl1 (k i : Nat) (h : i < whn.length) : spec_CronPlainZone.l1 (k + 1) (i : Int) offs dst whn idx = if whn.getD i 0 < -62167596800 then spec_CronPlainZone.j2 k i (whn.getD i 0) true offs dst whn idx else spec_CronPlainZone.j2 k i (whn.getD i 0) (decide (whn.getD i 0 > 253722300799)) offs dst whn idx := by
 simp only [spec_CronPlainZone.l1]
 rw [if_pos (show (i : Int) < whn.length by omega), if_pos (show (0 : Int) ≤ i by omega), rd_nat]
theorem pj2_1 (k : Nat) (W : Int) : spec_CronPlainZone.j2 (k + 1) ((1 : Nat) : Int) W false offs dst whn idx = spec_CronPlainZone.j3 k ((1 : Nat) : Int) W false offs dst whn idx := by
 simp [spec_CronPlainZone.j2]
theorem pj2_2 (k i : Nat) (W : Int) (hW : W = whn.getD i 0) (h1 : 1 < i) (h : i < whn.length) (w0 : -62167596800 ≤ whn.getD (i - 1) 0) (w1 : whn.getD i 0 ≤ 253722300799) : spec_CronPlainZone.j2 (k + 1) (i : Int) W false offs dst whn idx = spec_CronPlainZone.j3 k (i : Int) W (decide (whn.getD i 0 - whn.getD (i - 1) 0 < 345600)) offs dst whn idx := by
 have hm := G.m4
 have hl := whn_mono G (i := i - 1) (j := i) (by omega) h
 simp only [spec_CronPlainZone.j2, Bool.false_eq_true, if_false]
 rw [if_pos (show (i : Int) > 1 by omega), if_pos (show (0 : Int) ≤ i by omega), if_pos (show (i : Int) < whn.length by omega), wrap_pred i (by omega) (by omega), if_pos (show (0 : Int) ≤ ((i - 1 : Nat) : Int) by omega), if_pos (show ((i - 1 : Nat) : Int) < whn.length by omega), rd_nat, rd_nat, w64 (by omega) (by omega)]
theorem pj3 (k i : Nat) (W : Int) (h1 : 1 ≤ i) (h : i < whn.length) (w0 : -62167596800 ≤ W) (w1 : W ≤ 253722300799) : spec_CronPlainZone.j3 (k + 1) (i : Int) W false offs dst whn idx =
  if (W + offAt offs idx (i - 1)) % 3600 = 0 then (if (W + offAt offs idx i) % 3600 = 0 then spec_CronPlainZone.j4 k i (W + offAt offs idx (i - 1)) (W + offAt offs idx i) (decide (W + offAt offs idx i < W + offAt offs idx (i - 1) - 3600)) offs dst whn idx else spec_CronPlainZone.j4 k i (W + offAt offs idx (i - 1)) (W + offAt offs idx i) true offs dst whn idx) else spec_CronPlainZone.j4 k i (W + offAt offs idx (i - 1)) (W + offAt offs idx i) true offs dst whn idx := by
 have hm := G.m4
 obtain ⟨a1, a2, a3⟩ := idx_in G (j := i - 1) (by omega)
 obtain ⟨b1, b2, b3⟩ := idx_in G (j := i) h
 obtain ⟨-, o1, o2⟩ := offAt_in G (j := i - 1) (by omega)
 obtain ⟨-, o3, o4⟩ := offAt_in G (j := i) h
 simp only [spec_CronPlainZone.j3, Bool.false_eq_true, if_false]
 rw [wrap_pred i (by omega) (by omega), if_pos (show (0 : Int) ≤ ((i - 1 : Nat) : Int) by omega), if_pos a1, if_pos a2, if_pos a3, if_pos (show (0 : Int) ≤ i by omega), if_pos b1, if_pos b2, if_pos b3, rd_off, rd_off,
  w64 (x := W + offAt offs idx (i - 1)) (by omega) (by omega), w64 (x := W + offAt offs idx i) (by omega) (by omega), floorMod_h _ (by omega) (by omega), floorMod_h _ (by omega) (by omega), w64 (x := W + offAt offs idx (i - 1) - 3600) (by omega) (by omega)]
 simp only [Option.bind_some]
omit G in
theorem pj4 (k i : Nat) (B A : Int) (hi : i ≤ 4096) (b0 : -900000000000 ≤ B) (b1 : B ≤ 900000000000) (a0 : -900000000000 ≤ A) (a1 : A ≤ 900000000000) : spec_CronPlainZone.j4 (k + 1) (i : Int) B A false offs dst whn idx =
  if B / 86400 = A / 86400 then (if B % 86400 < 3600 then some false else (if A % 86400 < 3600 then some false else spec_CronPlainZone.l1 k ((i + 1 : Nat) : Int) offs dst whn idx)) else some false := by
 simp only [spec_CronPlainZone.j4, Bool.false_eq_true, if_false]
 rw [floorDiv_f B 86400 (by omega) (by omega), floorDiv_f A 86400 (by omega) (by omega), floorMod_d B (by omega) (by omega), floorMod_d A (by omega) (by omega), wrap_succ i hi]
 simp only [Option.bind_some]
omit G in
def PlainAt (offs whn idx : List Int) (j : Nat) : Prop := whn.getD j 0 ≤ 253722300799 ∧ -62167596800 ≤ whn.getD j 0 ∧ (1 < j → 345600 ≤ whn.getD j 0 - whn.getD (j - 1) 0) ∧
 (whn.getD j 0 + offAt offs idx (j - 1)) % 3600 = 0 ∧ (whn.getD j 0 + offAt offs idx j) % 3600 = 0 ∧ (whn.getD j 0 + offAt offs idx (j - 1)) / 86400 = (whn.getD j 0 + offAt offs idx j) / 86400 ∧
  3600 ≤ (whn.getD j 0 + offAt offs idx (j - 1)) % 86400 ∧ 3600 ≤ (whn.getD j 0 + offAt offs idx j) % 86400 ∧ offAt offs idx (j - 1) - 3600 ≤ offAt offs idx j
theorem plain_l1 : ∀ d i, whn.length - i = d → 1 ≤ i → i ≤ whn.length → (1 < i → -62167596800 ≤ whn.getD (i - 1) 0) → ∃ k b, spec_CronPlainZone.l1 k (i : Int) offs dst whn idx = some b ∧ (b = true → ∀ j, i ≤ j → j < whn.length → PlainAt offs whn idx j) := by
 intro d
 have hm := G.m4
 induction d with
 | zero =>
  intro i hd h1 hi hp
  obtain rfl : i = whn.length := by omega
  exact ⟨1, true, by simp [spec_CronPlainZone.l1], fun _ j a b => absurd b (by omega)⟩
 | succ d ih =>
  intro i hd h1 hi hp
  have h : i < whn.length := by omega
  obtain ⟨W, hW⟩ : ∃ W, W = whn.getD i 0 := ⟨_, rfl⟩
  by_cases c1 : W < -62167596800
  ·exact ⟨2, false, by rw [pl1 G _ _ h, ← hW, if_pos c1, pj2_t], fun h => by cases h⟩
  by_cases c2 : W > 253722300799
  ·exact ⟨2, false, by rw [pl1 G _ _ h, ← hW, if_neg c1, decide_eq_true c2, pj2_t], fun h => by cases h⟩
  have s1 : ∀ k, spec_CronPlainZone.l1 (k + 1) (i : Int) offs dst whn idx = spec_CronPlainZone.j2 k i W false offs dst whn idx := fun k => by rw [pl1 G _ _ h, ← hW, if_neg c1, decide_eq_false c2]
  have key : (∃ k, spec_CronPlainZone.l1 k (i : Int) offs dst whn idx = some false) ∨ ((1 < i → 345600 ≤ W - whn.getD (i - 1) 0) ∧ ∀ k, spec_CronPlainZone.l1 (k + 2) (i : Int) offs dst whn idx = spec_CronPlainZone.j3 k i W false offs dst whn idx) := by
   by_cases c3 : 1 < i
   ·by_cases c4 : W - whn.getD (i - 1) 0 < 345600
    ·left
     refine ⟨3, ?_⟩
     rw [s1, pj2_2 G 1 i W hW c3 h (hp c3) (by omega), ← hW, decide_eq_true c4, pj3_t]
    ·right
     refine ⟨fun _ => by omega, fun k => ?_⟩
     rw [s1, pj2_2 G k i W hW c3 h (hp c3) (by omega), ← hW, decide_eq_false c4]
   ·right
    obtain rfl : i = 1 := by omega
    refine ⟨fun h => absurd h c3, fun k => ?_⟩
    rw [s1, pj2_1 G]
  rcases key with ⟨k, hk⟩ | ⟨hgap, s3⟩
  ·exact ⟨k, false, hk, fun h => by cases h⟩
  obtain ⟨-, o1, o2⟩ := offAt_in G (j := i - 1) (by omega)
  obtain ⟨-, o3, o4⟩ := offAt_in G (j := i) h
  have s4 : ∀ k, spec_CronPlainZone.l1 (k + 3) (i : Int) offs dst whn idx = _ := fun k => (s3 (k + 1)).trans (pj3 G k i W h1 h (by omega) (by omega))
  by_cases c5 : (W + offAt offs idx (i - 1)) % 3600 = 0
  rotate_left
  ·exact ⟨4, false, by rw [s4, if_neg c5, pj4_t], fun h => by cases h⟩
  by_cases c6 : (W + offAt offs idx i) % 3600 = 0
  rotate_left
  ·exact ⟨4, false, by rw [s4, if_pos c5, if_neg c6, pj4_t], fun h => by cases h⟩
  by_cases c7 : W + offAt offs idx i < W + offAt offs idx (i - 1) - 3600
  ·exact ⟨4, false, by rw [s4, if_pos c5, if_pos c6, decide_eq_true c7, pj4_t], fun h => by cases h⟩
  have s5 : ∀ k, spec_CronPlainZone.l1 (k + 4) (i : Int) offs dst whn idx = _ := fun k => (s4 (k + 1)).trans (by rw [if_pos c5, if_pos c6, decide_eq_false c7, pj4 k i _ _ (by omega) (by omega) (by omega) (by omega) (by omega)])
  by_cases c8 : (W + offAt offs idx (i - 1)) / 86400 = (W + offAt offs idx i) / 86400
  rotate_left
  ·exact ⟨4, false, by rw [s5, if_neg c8], fun h => by cases h⟩
  by_cases c9 : (W + offAt offs idx (i - 1)) % 86400 < 3600
  ·exact ⟨4, false, by rw [s5, if_pos c8, if_pos c9], fun h => by cases h⟩
  by_cases c10 : (W + offAt offs idx i) % 86400 < 3600
  ·exact ⟨4, false, by rw [s5, if_pos c8, if_neg c9, if_pos c10], fun h => by cases h⟩
  obtain ⟨k, b, hk, hb⟩ := ih (i + 1) (by omega) (by omega) (by omega) (fun _ => by show -62167596800 ≤ whn.getD i 0; omega)
  refine ⟨k + 4, b, by rw [s5, if_pos c8, if_neg c9, if_neg c10]; exact hk, fun hbt j j1 j2 => ?_⟩
  by_cases e : j = i
  ·subst e
   unfold PlainAt
   rw [← hW]
   exact ⟨by omega, by omega, hgap, c5, c6, c8, by omega, by omega, by omega⟩
  ·exact hb hbt j (by omega) j2
theorem plain_l0 : ∀ d i, offs.length - i = d → i ≤ offs.length → ∃ k b, spec_CronPlainZone.l0 k offs (offs.length : Int) (i : Int) offs dst whn idx = some b ∧
  (b = true → (∀ j, i ≤ j → j < offs.length → offs.getD j 0 % 60 = 0) ∧ ∀ j, 1 ≤ j → j < whn.length → PlainAt offs whn idx j) := by
 intro d
 have hm := G.n64
 induction d with
 | zero =>
  intro i hd hi
  obtain rfl : i = offs.length := by omega
  obtain ⟨k, b, hk, hb⟩ := plain_l1 G (whn.length - 1) 1 (by omega) (by omega) G.m1 (fun h => absurd h (by omega))
  exact ⟨k + 1, b, by simp only [spec_CronPlainZone.l0]; rw [if_neg (by omega)]; exact hk, fun h => ⟨fun j a b => absurd b (by omega), hb h⟩⟩
 | succ d ih =>
  intro i hd hi
  have h1 : (i : Int) < offs.length := by omega
  have h2 : (0 : Int) ≤ i := by omega
  have hob := G.ob i (by omega)
  obtain ⟨k, b, hk, hb⟩ := ih (i + 1) (by omega) (by omega)
  by_cases c : Int.tmod (offs.getD i 0) 60 = 0
  ·refine ⟨k + 1, b, by simp only [spec_CronPlainZone.l0]; rw [if_pos h1, if_pos h2, if_pos h1, rd_nat, if_pos c, wrap_succ i (by omega)]; exact hk, fun h => ⟨fun j j1 j2 => ?_, (hb h).2⟩⟩
   by_cases e : j = i
   ·subst e
    exact Int.emod_eq_zero_of_dvd (Int.dvd_of_tmod_eq_zero c)
   ·exact (hb h).1 j (by omega) j2
  ·exact ⟨k + 1, false, by simp only [spec_CronPlainZone.l0]; rw [if_pos h1, if_pos h2, if_pos h1, rd_nat, if_neg c], fun h => by cases h⟩
theorem plain_f : ∃ k b, spec_CronPlainZone.f k offs dst whn idx = some b ∧ (b = true → PlainL offs whn idx ∧ ∀ u c, nxL whn u = some c → c ≤ 253722300799) := by
 obtain ⟨k, b, hk, hb⟩ := plain_l0 G offs.length 0 (by omega) (by omega)
 refine ⟨k, b, hk, fun h => ?_⟩
 obtain ⟨h1, h2⟩ := hb h
 refine ⟨⟨fun i hi => h1 i (by omega) hi, fun i hi => ?_, fun i hi => ?_⟩, fun u c hc => ?_⟩
 ·obtain ⟨-, -, -, a1, a2, a3, a4, a5, a6⟩ := h2 (i + 1) (by omega) hi
  exact ⟨a1, a2, a3, a4, a5, a6⟩
 ·exact (h2 (i + 2) (by omega) hi).2.2.1 (by omega)
 ·unfold nxL at hc
  split at hc
  ·rename_i hlt
   cases hc
   exact (h2 _ (by omega) hlt).1
  ·cases hc
end
end
end Go.Proofs.Ytlopkdhblfibkaa.CronN
