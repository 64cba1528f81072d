/- Lemmas and walks on the way to the law, merged by wip/tools/pack.py: SpecF, SpecT, SpecC, SpecD, SpecL, SpecN. Conditions: none. -/
import Derived.Test.YtmecbmgfacpecaaGreatDoorGrD
import Derived.Test.YtmecbmgfacpecaaGreatDoorPrA
import Derived.Test.YtmecbmgfacpecaaGreatDoorWEqStructT
import Derived.BigQuiet
namespace Go.Proofs.YtmecbmgfacpecaaGreatDoor.CronN
open Go Go.RowKit Go.Proofs.YtmecbmgfacpecaaGreatDoorW.PrintWords Go.Proofs.YtmecbmgfacpecaaGreatDoorW.PrintLast Go.Proofs.YtmecbmgfacpecaaGreatDoor.Cal Go.Proofs.YtmecbmgfacpecaaGreatDoor.Pr
open Go.Proofs.YtmecbmgfacpecaaGreatDoor.Sched (wpList_store_at)
set_option linter.unusedVariables false
set_option linter.unusedSimpArgs false
def bitsK (S : Sets) : Nat → Nat | 0 => S.sec | 1 => S.min | 2 => S.hour | 3 => S.dom | 4 => S.month | _ => S.dow
def loF : Nat → Nat | 3 => 1 | 4 => 1 | _ => 0
def hiF : Nat → Nat | 0 => 59 | 1 => 59 | 2 => 23 | 3 => 31 | 4 => 12 | _ => 6
def memB (lo hi b : Nat) : Nat → Bool := fun v => decide (lo ≤ v) && (decide (v ≤ hi) && b.testBit v)
theorem low_f (k : Nat) (hk : k < 6) : spec_CronLow.f (k : Int) = some (loF k : Int) := by
 match k, hk with
 | 0, _ | 1, _ | 2, _ | 3, _ | 4, _ | 5, _ => decide
theorem high_f (k : Nat) (hk : k < 6) : spec_CronHigh.f (k : Int) = some (hiF k : Int) := by
 match k, hk with
 | 0, _ | 1, _ | 2, _ | 3, _ | 4, _ | 5, _ => decide
theorem drawn_below {w w' : World} (h : Drawn0 w w') : Below w.heap.size w w' := by
 first
  | exact h
  | (obtain ⟨n, rfl⟩ := h; exact pw_below_drewN (Below.refl _ _) n)
theorem shr_bit {b : Nat} (hb : b < 2 ^ 64) (v : Nat) : (bits .and .u64 ((b : Int) / 2 ^ v) 1 == 1) = b.testBit v := by
 have e : ((b : Int) / 2 ^ v) = ((b / 2 ^ v : Nat) : Int) := by push_cast; rfl
 have hl : b / 2 ^ v < 2 ^ 64 := Nat.lt_of_le_of_lt (Nat.div_le_self _ _) hb
 rw [e, show (1 : Int) = ((1 : Nat) : Int) from rfl, and_u64 hl (by omega), Nat.and_one_is_mod, Nat.testBit_eq_decide_div_mod_eq]
 generalize b / 2 ^ v % 2 = x
 by_cases h : x = 1
 ·simp [h]
 ·simp only [h, decide_false, beq_eq_false_iff_ne]
  omega
theorem star_ne {b : Nat} (hb : b < 2 ^ 64) : (bits .and .u64 (b : Int) 9223372036854775808 != 0) = inB b 63 := by
 have := and_u64 hb (show 2 ^ 63 < 2 ^ 64 by omega)
 rw [show ((2 ^ 63 : Nat) : Int) = 9223372036854775808 from rfl, Nat.and_comm, pow_and] at this
 rw [this]
 unfold inB
 rw [show (63 : Int).toNat = 63 from rfl]
 cases h : b.testBit 63 <;> simp
theorem lit64 : (#[.bool false, .bool false, .bool false, .bool false, .bool false, .bool false, .bool false, .bool false, .bool false, .bool false, .bool false, .bool false, .bool false, .bool false, .bool false, .bool false, .bool false, .bool false, .bool false, .bool false, .bool false, .bool false, .bool false, .bool false, .bool false, .bool false, .bool false, .bool false, .bool false, .bool false, .bool false, .bool false, .bool false, .bool false, .bool false, .bool false, .bool false, .bool false, .bool false, .bool false, .bool false, .bool false, .bool false, .bool false, .bool false, .bool false, .bool false, .bool false, .bool false, .bool false, .bool false, .bool false, .bool false, .bool false, .bool false, .bool false, .bool false, .bool false, .bool false, .bool false, .bool false, .bool false, .bool false, .bool false] : Array Value) = setCells false noSet := by kernel_rfl
theorem setCells2 (w : World) : IsSet ((w.alloc (.cells (setCells false noSet) 56)).alloc (.cells (setCells false noSet) 56)) (w.heap.size + 1) false noSet := heap_two w _ _
set_option maxRecDepth 100000 in
set_option maxHeartbeats 4000000 in
theorem setOf_any (k b : Nat) (hk : k < 6) (hb : b < 2 ^ 64) (w : World) :
  Calls Tryz.prog 127 #[.int .i64 k, .int .u64 b] w fun e w' => e = .returned (.agg (setCells (inB b 63) (memB (loF k) (hiF k) b))) ∧ Below w.heap.size w w' := by
 have HL : Hid (∀ w' : World, Calls Tryz.prog 60 #[.int .i64 k] w' fun e w2 => e = .returned (.int .i64 (loF k : Nat)) ∧ Below w'.heap.size w' w2) := Lib.hid (fun w' => (spec_CronLow.calls k (loF k) w' (low_f k hk)).mono (fun _ _ h => ⟨h.1, drawn_below h.2⟩))
 have HH : Hid (∀ w' : World, Calls Tryz.prog 61 #[.int .i64 k] w' fun e w2 => e = .returned (.int .i64 (hiF k : Nat)) ∧ Below w'.heap.size w' w2) := Lib.hid (fun w' => (spec_CronHigh.calls k (hiF k) w' (high_f k hk)).mono (fun _ _ h => ⟨h.1, drawn_below h.2⟩))
 have hlo : loF k ≤ 1 := by match k, hk with | 0, _ | 1, _ | 2, _ | 3, _ | 4, _ | 5, _ => decide
 have hhi : hiF k ≤ 59 ∧ 6 ≤ hiF k := by match k, hk with | 0, _ | 1, _ | 2, _ | 3, _ | 4, _ | 5, _ => decide
 generalize loF k = lo at *
 generalize hiF k = hi at *
 have hal := run_alloc_set
 go_enter Tryz.func127, Tryz.ntmps127
 go_wp2_with fail
 refine (HL.out _).mono ?_
 rintro e w1 ⟨rfl, hb1⟩
 rw [lit64] at hb1
 have HS5 := Lib.hid ((setCells2 w).below hb1)
 have HS4 := Lib.hid (((isSet_new w false noSet).below ((Below.refl _ _).alloc (Nat.le_refl _) (.cells (setCells false noSet) 56))).below hb1)
 have HB1 := Lib.hid (below_le (((Below.refl w.heap.size w).alloc (Nat.le_refl _) _).alloc (by simp) _) hb1)
 clear hb1
 go_wp2_with fail
 go_loopw [6] (fun v6 wr => ∃ v : Nat, v6 = .int .i64 v ∧ lo ≤ v ∧ v ≤ hi + 1 ∧ Hid (IsSet wr (w.heap.size + 1) false (fun i => decide (i < v) && memB lo hi b i)) ∧ Hid (IsSet wr w.heap.size false noSet) ∧ Below w.heap.size w wr) (fun v6 _ => hi + 1 - (intOf v6).toNat)
 case atStart => exact ⟨lo, rfl, by omega, by omega, Lib.hid (by
  have e : setCells false noSet = setCells false (fun i => decide (i < lo) && memB lo hi b i) := setCells_ext (fun j _ => by unfold noSet memB; by_cases h : j < lo <;> simp [h] <;> omega)
  have := HS5.out
  unfold IsSet at *
  rw [← e]
  exact this), HS4, HB1.out⟩
 case round =>
  obtain ⟨v, rfl, hv0, hv1, HS, HS0, hbr⟩ := hrel
  clear HS5 HS4 HB1
  go_wp2_with fail
  refine (HH.out _).mono ?_
  rintro e w2 ⟨rfl, hb2⟩
  have HSb := Lib.hid (HS.out.below hb2)
  have HS0b := Lib.hid (HS0.out.below hb2)
  have hbr2 := below_le hbr hb2
  by_cases hvh : v ≤ hi
  ·have hd : decide ((v : Int) ≤ hi) = true := decide_eq_true (by omega)
   have hv63 : (v : Int) < 63 := by omega
   have hvp : (0 : Int) ≤ v := by omega
   have hc := HSb.out.cellAt v (by omega)
   have hfz := HSb.out.free (v + 1)
   have hc' : w2.cell? ⟨w.heap.size + 1, 1 + v, none⟩ = some (.bool (decide (v < v) && memB lo hi b v)) := by rw [Nat.add_comm 1 v]; exact hc
   have hfz' : w2.frozen? ⟨w.heap.size + 1, 1 + v, none⟩ = false := by rw [Nat.add_comm 1 v]; exact hfz
   go_wp2_with fail
   rw [shr_bit hb, Nat.add_comm 1 v]
   refine ⟨⟨v + 1, by push_cast; rfl, by omega, by omega, Lib.hid ?_, Lib.hid (HS0b.out.other (by show w.heap.size ≠ w.heap.size + 1; omega) _), hbr2.setCell (by show w.heap.size ≤ w.heap.size + 1; omega) _⟩, by simp [intOf]; omega⟩
   have := HSb.out.put v (by omega) (b.testBit v)
   have e := setCells_ext (star := false) (p := fun i => if i = v then b.testBit v else decide (i < v) && memB lo hi b i) (q := fun i => decide (i < v + 1) && memB lo hi b i) (fun j _ => by
    show (if j = v then b.testBit v else decide (j < v) && memB lo hi b j) = (decide (j < v + 1) && memB lo hi b j)
    by_cases hj : j = v
    ·subst hj
     rw [if_pos rfl]
     unfold memB
     simp [hv0, hvh]
    ·rw [if_neg hj]
     by_cases h2 : j < v
     ·simp [h2, show j < v + 1 by omega]
     ·simp [h2, show ¬ j < v + 1 by omega])
   unfold IsSet at *
   rw [← e]
   exact this
  ·have hd : decide ((v : Int) ≤ hi) = false := decide_eq_false (by omega)
   obtain rfl : v = hi + 1 := by omega
   have hc := HSb.out.cell0
   have hfz := HSb.out.free 0
   have hsn := star_ne hb
   have HP := Lib.hid (HSb.out.putStar (inB b 63))
   have HP0 := Lib.hid (HS0b.out.other (a := ⟨w.heap.size + 1, 0, none⟩) (by show w.heap.size ≠ w.heap.size + 1; omega) (.bool (inB b 63)))
   go_wp2_with (first | (refine wpList_load_set rfl _ rfl (w.heap.size + 1) (inB b 63) _ rfl HP.out ?_) | (refine wpList_store_set rfl _ _ rfl w.heap.size (inB b 63) _ rfl rfl false noSet HP0.out ?_))
   have e := setCells_ext (star := inB b 63) (p := fun i => decide (i < hi + 1) && memB lo hi b i) (q := memB lo hi b) (fun j _ => by
    show (decide (j < hi + 1) && memB lo hi b j) = memB lo hi b j
    by_cases h : j < hi + 1
    ·simp [h]
    ·unfold memB
     simp [h, show ¬ j ≤ hi by omega])
   rw [e]
   refine bodyPost_ret (v := .agg (setCells (inB b 63) (memB lo hi b))) ?_ rfl ⟨rfl, ?_⟩
   ·exact results_cell_row (fn := Tryz.f127) (p := 4) rfl _ _ w.heap.size _ _ _ _ rfl (setRow_heap _ _ _ _ _ _ HP0.out) Tryz.underlying56 rfl (by rw [setSize, setCells_size])
   ·exact below_setRow (hbr2.setCell (by show w.heap.size ≤ w.heap.size + 1; omega) _) (Nat.le_refl _) _
def setK (S : Sets) (k : Nat) : Array Value := setCells (inB (bitsK S k) 63) (memB (loF k) (hiF k) (bitsK S k))
def rowsK (S : Sets) (j : Nat) : List Value := (List.range j).flatMap fun k => (setK S k).toList
def fieldsC (S : Sets) : Array Value := (rowsK S 6).toArray
theorem rowsK_len (S : Sets) : ∀ j, (rowsK S j).length = j * 64
 | 0 => rfl
 | j + 1 => by
  have := rowsK_len S j
  unfold rowsK at this ⊢
  rw [List.range_succ, List.flatMap_append, List.length_append, this]
  simp [setK, setCells_size]
  omega
theorem rowsK_succ (S : Sets) (j : Nat) : rowsK S (j + 1) = rowsK S j ++ (setK S j).toList := by
 unfold rowsK
 rw [List.range_succ, List.flatMap_append]
 simp
theorem fieldsC_size (S : Sets) : (fieldsC S).size = 384 := by unfold fieldsC; simp [rowsK_len]
theorem rowsK_at (S : Sets) : ∀ (n k t : Nat), k < n → t < 64 → (rowsK S n)[k * 64 + t]? = (setK S k)[t]?
 | 0, k, t, h, _ => absurd h (by omega)
 | n + 1, k, t, h, ht => by
  have hl := rowsK_len S n
  rw [rowsK_succ]
  by_cases hm : k < n
  ·rw [List.getElem?_append_left (by rw [hl]; omega)]
   exact rowsK_at S n k t hm ht
  ·obtain rfl : k = n := by omega
   rw [List.getElem?_append_right (by rw [hl]; omega), hl, show k * 64 + t - k * 64 = t by omega]
   simp
theorem fieldsC_star (S : Sets) (k : Nat) (hk : k < 6) : (fieldsC S)[k * 64]? = some (.bool (inB (bitsK S k) 63)) := by
 have := rowsK_at S 6 k 0 hk (by omega)
 rw [Nat.add_zero] at this
 unfold fieldsC
 rw [List.getElem?_toArray, this]
 exact setCells_zero _ _
theorem fieldsC_at (S : Sets) (k v : Nat) (hk : k < 6) (hv : v < 63) : (fieldsC S)[k * 64 + (v + 1)]? = some (.bool (memB (loF k) (hiF k) (bitsK S k) v)) := by
 have := rowsK_at S 6 k (v + 1) hk (by omega)
 unfold fieldsC
 rw [List.getElem?_toArray, this]
 exact setCells_at _ _ v hv
theorem fieldsC_one (S : Sets) : (fieldsC S).all (·.oneCell') = true := by
 rw [Array.all_eq_true_iff_forall_mem]
 intro v hv
 unfold fieldsC rowsK at hv
 simp only [List.mem_toArray, List.mem_flatMap] at hv
 obtain ⟨k, _, hv⟩ := hv
 exact (Array.all_eq_true_iff_forall_mem.1 (setCells_one (inB (bitsK S k) 63) (memB (loF k) (hiF k) (bitsK S k)))) v (by simpa [setK] using hv)
theorem zeroC_size : Tryz.zeroCells88.size = 384 := by kernel_rfl
theorem fieldsSize : (Tryz.prog.info? 88).map (·.size) = some 384 := by kernel_rfl
def fillC (Z : Array Value) (S : Sets) (j : Nat) : Array Value := (rowsK S j ++ Z.toList.drop (j * 64)).toArray
theorem fillC_size (Z : Array Value) (hZ : Z.size = 384) (S : Sets) (j : Nat) (hj : j ≤ 6) : (fillC Z S j).size = 384 := by
 unfold fillC
 simp only [List.size_toArray, List.length_append, rowsK_len, List.length_drop, Array.length_toList, hZ]
 omega
theorem fillC_step (Z : Array Value) (S : Sets) (j : Nat) (hj : j < 6) : ((fillC Z S j).toList.take (j * 64) ++ (setK S j).toList ++ (fillC Z S j).toList.drop (j * 64 + (setK S j).size)).toArray = fillC Z S (j + 1) := by
 have hl := rowsK_len S j
 unfold fillC
 congr 1
 rw [rowsK_succ, show (setK S j).size = 64 from setCells_size _ _]
 show List.take (j * 64) (rowsK S j ++ List.drop (j * 64) Z.toList) ++ (setK S j).toList ++ List.drop (j * 64 + 64) (rowsK S j ++ List.drop (j * 64) Z.toList) = _
 rw [← hl, List.take_left, List.drop_append, List.drop_drop, hl]
 have e1 : List.drop (j * 64 + 64) (rowsK S j) = [] := List.drop_eq_nil_of_le (by rw [hl]; omega)
 rw [e1]
 congr 2
 show List.drop _ _ = _
 congr 1
 omega
set_option maxRecDepth 100000 in
set_option maxHeartbeats 4000000 in
theorem fieldsOfE_any (ev : Bool) (d : Int) (S : Sets) (hS : S.ok) (w : World) :
  Calls Tryz.prog 69 #[.agg #[.bool ev, .int .i64 d, .int .u64 (S.sec : Int), .int .u64 (S.min : Int), .int .u64 (S.hour : Int), .int .u64 (S.dom : Int), .int .u64 (S.month : Int), .int .u64 (S.dow : Int)]] w fun e w' => e = .returned (.agg (fieldsC S)) ∧ Below w.heap.size w w' := by
 have HSO : Hid (∀ (k : Nat) (w' : World), k < 6 → Calls Tryz.prog 127 #[.int .i64 k, .int .u64 (bitsK S k : Nat)] w' fun e w2 => e = .returned (.agg (setK S k)) ∧ Below w'.heap.size w' w2) := Lib.hid (fun k w' hk => setOf_any k (bitsK S k) hk (by
  obtain ⟨h1, h2, h3, h4, h5, h6⟩ := hS
  match k, hk with
  | 0, _ => exact h1
  | 1, _ => exact h2
  | 2, _ => exact h3
  | 3, _ => exact h4
  | 4, _ => exact h5
  | 5, _ => exact h6) w')
 go_enter Tryz.func69, Tryz.ntmps69
 go_wp2_with fail
 have hr3 : Hid ((((w.alloc (.cells #[.bool ev, .int .i64 d, .int .u64 (S.sec : Int), .int .u64 (S.min : Int), .int .u64 (S.hour : Int), .int .u64 (S.dom : Int), .int .u64 (S.month : Int), .int .u64 (S.dow : Int)] 26)).alloc (.cells Tryz.zeroCells88 88)).alloc (.cells Tryz.zeroCells88 88)).heap[w.heap.size + 1 + 1]? = some (.cells (fillC Tryz.zeroCells88 S 0) 88 (0, 0))) := Lib.hid (by
  have e : fillC Tryz.zeroCells88 S 0 = Tryz.zeroCells88 := by simp [fillC, rowsK]
  rw [e]
  have := heap_two (w.alloc (.cells #[.bool ev, .int .i64 d, .int .u64 (S.sec : Int), .int .u64 (S.min : Int), .int .u64 (S.hour : Int), .int .u64 (S.dom : Int), .int .u64 (S.month : Int), .int .u64 (S.dow : Int)] 26)) (.cells Tryz.zeroCells88 88) (.cells Tryz.zeroCells88 88)
  simpa using this)
 have hr2 : Hid ((((w.alloc (.cells #[.bool ev, .int .i64 d, .int .u64 (S.sec : Int), .int .u64 (S.min : Int), .int .u64 (S.hour : Int), .int .u64 (S.dom : Int), .int .u64 (S.month : Int), .int .u64 (S.dow : Int)] 26)).alloc (.cells Tryz.zeroCells88 88)).alloc (.cells Tryz.zeroCells88 88)).heap[w.heap.size + 1]? = some (.cells Tryz.zeroCells88 88 (0, 0))) := Lib.hid (by
  rw [Below.heap_alloc _ _ _ (by simp)]
  exact heap_two w _ _)
 have hb0 : Below w.heap.size w (((w.alloc (.cells #[.bool ev, .int .i64 d, .int .u64 (S.sec : Int), .int .u64 (S.min : Int), .int .u64 (S.hour : Int), .int .u64 (S.dom : Int), .int .u64 (S.month : Int), .int .u64 (S.dow : Int)] 26)).alloc (.cells Tryz.zeroCells88 88)).alloc (.cells Tryz.zeroCells88 88)) := ((((Below.refl _ _).alloc (Nat.le_refl _) _).alloc (by simp) _).alloc (by simp; try omega) _)
 go_loopw [19] (fun v19 wr => ∃ j : Nat, v19 = .int .i64 j ∧ j ≤ 6 ∧ Hid (wr.heap[w.heap.size + 1 + 1]? = some (.cells (fillC Tryz.zeroCells88 S j) 88 (0, 0))) ∧ Hid (wr.heap[w.heap.size + 1]? = some (.cells Tryz.zeroCells88 88 (0, 0))) ∧ Below w.heap.size w wr) (fun v19 _ => 6 - (intOf v19).toNat)
 case atStart => exact ⟨0, rfl, by omega, hr3, hr2, hb0⟩
 case round =>
  obtain ⟨j, rfl, hj, HR, HR2, hbr⟩ := hrel
  clear hr3 hr2 hb0
  by_cases h6 : j < 6
  ·have hix : ∀ w' : World, (Instr.index 228 (.agg #[.int .u64 (S.sec : Int), .int .u64 (S.min : Int), .int .u64 (S.hour : Int), .int .u64 (S.dom : Int), .int .u64 (S.month : Int), .int .u64 (S.dow : Int)]) (.int .i64 (j : Int))).run Tryz.prog w' = .ok (.int .u64 (bitsK S j : Nat)) w' := by
    intro w'
    match j, h6 with
    | 0, _ | 1, _ | 2, _ | 3, _ | 4, _ | 5, _ => rfl
   have hjl : (j : Int) < 6 := by omega
   have hj0 : (0 : Int) ≤ j := by omega
   have hd : decide ((j : Int) < 6) = true := decide_eq_true hjl
   go_wp2_with fail
   refine (HSO.out j _ h6).mono ?_
   rintro e w2 ⟨rfl, hb2⟩
   have hr := (hb2.block _ (Array.getElem?_eq_some_iff.1 HR.out).1).trans HR.out
   have hr2 := Lib.hid ((hb2.block _ (Array.getElem?_eq_some_iff.1 HR2.out).1).trans HR2.out)
   have hbr2 := below_le hbr hb2
   have HST := Lib.hid (fillC_step Tryz.zeroCells88 S j h6)
   have HRR := Lib.hid hr
   clear hb2 hr
   go_wp2_with (refine wpList_store_at rfl 56 _ _ rfl (w.heap.size + 1 + 1) (j * 64) (setK S j) rfl rfl 88 _ HRR.out (by rw [setSize]; exact congrArg some (setCells_size _ _).symm) (by rw [fillC_size _ zeroC_size S j (by omega), show (setK S j).size = 64 from setCells_size _ _]; omega) (setCells_one _ _) ?_)
   refine ⟨⟨j + 1, by push_cast; rfl, by omega, Lib.hid ?_, Lib.hid ((setRow_other _ _ _ _ (by omega)).trans hr2.out), below_setRow hbr2 (by omega) _⟩, by simp [intOf]; omega⟩
   rw [← List.append_assoc, HST.out]
   exact setRow_heap _ _ _ _ _ _ HRR.out
  ·obtain rfl : j = 6 := by omega
   have e : fillC Tryz.zeroCells88 S 6 = fieldsC S := by
    unfold fillC fieldsC
    rw [List.drop_eq_nil_of_le (by rw [Array.length_toList, zeroC_size]; decide), List.append_nil]
   have HRE := Lib.hid (HR.out)
   rw [e] at HRE
   go_wp2_with (first | (refine wpList_load_row rfl 88 _ rfl (w.heap.size + 1 + 1) rfl _ _ _ _ HRE.out Tryz.underlying88 rfl (by rw [fieldsSize, fieldsC_size]) ?_) | (refine wpList_store_row rfl 88 _ _ rfl (w.heap.size + 1) (fieldsC S) rfl rfl 88 _ HR2.out (by rw [fieldsSize, fieldsC_size]) (by rw [fieldsC_size, zeroC_size]) (fieldsC_one S) ?_))
   refine bodyPost_ret (v := .agg (fieldsC S)) ?_ rfl ⟨rfl, ?_⟩
   ·exact results_cell_row (fn := Tryz.f69) (p := 2) rfl _ _ (w.heap.size + 1) _ _ _ _ rfl (setRow_heap _ _ _ _ _ _ HR2.out) Tryz.underlying88 rfl (by rw [fieldsSize, fieldsC_size])
   ·exact below_setRow hbr (by omega) _
end Go.Proofs.YtmecbmgfacpecaaGreatDoor.CronN
namespace Go.Proofs.YtmecbmgfacpecaaGreatDoor.CronN
open Go Go.RowKit Go.Proofs.YtmecbmgfacpecaaGreatDoorW.PrintWords Go.Proofs.YtmecbmgfacpecaaGreatDoorW.PrintLast Go.Proofs.YtmecbmgfacpecaaGreatDoor.Cal Go.Proofs.YtmecbmgfacpecaaGreatDoor.Pr
set_option linter.unusedVariables false
set_option linter.unusedSimpArgs false
def FieldsAt (w : World) (g : Nat) (S : Sets) : Prop := w.heap[g]? = some (.cells (fieldsC S) 88 (0, 0))
theorem FieldsAt.below {w w' : World} {g : Nat} {S : Sets} (h : FieldsAt w g S) (hb : Below w.heap.size w w') : FieldsAt w' g S := (hb.block g (Array.getElem?_eq_some_iff.1 h).1).trans h
theorem FieldsAt.star {w : World} {g : Nat} {S : Sets} (h : FieldsAt w g S) (k : Nat) (hk : k < 6) : w.cell? ⟨g, k * 64, none⟩ = some (.bool (inB (bitsK S k) 63)) := (cell_of_row _ _ _ _ _ _ h).trans (fieldsC_star S k hk)
theorem FieldsAt.at_ {w : World} {g : Nat} {S : Sets} (h : FieldsAt w g S) (k v : Nat) (hk : k < 6) (hv : v < 63) : w.cell? ⟨g, k * 64 + (v + 1), none⟩ = some (.bool (memB (loF k) (hiF k) (bitsK S k) v)) := (cell_of_row _ _ _ _ _ _ h).trans (fieldsC_at S k v hk hv)
theorem fieldsAt_new (w : World) (S : Sets) : FieldsAt (w.alloc (.cells (fieldsC S) 88)) w.heap.size S := heap_alloc_new w _
theorem eqItems_bool (d : Nat) (w : World) (p q : Nat → Bool) (xs ys : Array Value) : ∀ is : List Nat, (∀ i ∈ is, xs[i]? = some (.bool (p i)) ∧ ys[i]? = some (.bool (q i))) →
  (Op.eqItems (d + 1) 4 1 xs ys is).run Tryz.prog w = .ok (is.all fun i => p i == q i) w
 | [], _ => by simp [Op.eqItems]
 | i :: is, h => by
  obtain ⟨hx, hy⟩ := h i (by simp)
  have ih := eqItems_bool d w p q xs ys is (fun j hj => h j (by simp [hj]))
  have hp : Tryz.prog.plainKey 4 = true := by kernel_rfl
  have h1 : (part 4 xs (i * 1)).run Tryz.prog w = .ok (.bool (p i)) w := run_part_plain w hp (by rw [Nat.mul_one]; exact hx)
  have h2 : (part 4 ys (i * 1)).run Tryz.prog w = .ok (.bool (q i)) w := run_part_plain w hp (by rw [Nat.mul_one]; exact hy)
  have h3 : (Op.equalIn (d + 1) 4 (.bool (p i)) (.bool (q i))).run Tryz.prog w = .ok (p i == q i) w := by simp [Op.equalIn, run_underlying Tryz.underlying4]
  simp only [Op.eqItems, Sem.run_bind, h1, h2, h3, Result.andThen_ok, List.all_cons]
  cases hq : (p i == q i)
  ·simp
  ·simpa using ih
def eqB (p q : Nat → Bool) : Bool := (List.range 63).all fun i => p i == q i
theorem eqIn (d : Nat) (w : World) (p q : Nat → Bool) : (Op.equalIn (d + 2) 54 (.agg (inCells p)) (.agg (inCells q))).run Tryz.prog w = .ok (eqB p q) w := by
 obtain ⟨i, hi⟩ : ∃ i, Tryz.prog.info? 4 = some i := Option.isSome_iff_exists.1 (by kernel_rfl)
 rw [run_equalIn_array w (d + 1) _ _ Tryz.underlying54 hi, show Tryz.prog.cellsOf 4 = 1 by kernel_rfl]
 exact eqItems_bool d w p q _ _ _ (fun j hj => ⟨inCells_at p j (List.mem_range.1 hj), inCells_at q j (List.mem_range.1 hj)⟩)
attribute [local go_sem high] eqIn
theorem run_field_in (w : World) : (Instr.field 56 (.agg (setCells false noSet)) 1).run Tryz.prog w = .ok (.agg (inCells noSet)) w := by kernel_rfl
def emptyB (p : Nat → Bool) : Bool := eqB p noSet
set_option maxRecDepth 100000 in
theorem cronEmpty_any (st : Bool) (p : Nat → Bool) (w : World) :
  Calls Tryz.prog 75 #[.agg (setCells st p)] w fun e w' => e = .returned (.bool (emptyB p)) ∧ Below w.heap.size w w' := by
 have hbx := run_box_set st p
 have HS := Lib.hid (isSet_new w st p)
 go_enter Tryz.func75, Tryz.ntmps75
 have hfi := run_field_in
 go_wp2_with (first | (refine wpList_load_in rfl _ rfl w.heap.size st p rfl HS.out ?_) | (refine wpList_build_set rfl rfl ?_))
 go_ret
 exact ⟨rfl, (Below.refl _ _).alloc (Nat.le_refl _) _⟩
set_option maxRecDepth 100000 in
set_option maxHeartbeats 4000000 in
theorem dayFits_any (S : Sets) (y m d wd : Int) (hd0 : 1 ≤ d) (hd1 : d ≤ 31) (hw0 : 0 ≤ wd) (hw1 : wd < 7) (w : World) :
  Calls Tryz.prog 135 #[.agg (fieldsC S), .agg #[.int .i64 y, .int .i64 m, .int .i64 d], .int .i64 wd] w fun e w' =>
   e = .returned (.bool (if inB S.dom 63 || inB S.dow 63 then inB S.dom d && inB S.dow wd else inB S.dom d || inB S.dow wd)) ∧ Below w.heap.size w w' := by
 obtain ⟨dn, rfl⟩ : ∃ n : Nat, d = n := ⟨d.toNat, by omega⟩
 obtain ⟨wn, rfl⟩ : ∃ n : Nat, wd = n := ⟨wd.toNat, by omega⟩
 go_enter Tryz.func135, Tryz.ntmps135
 go_upto_region 1 with fail
 generalize hW : World.alloc (World.alloc w _) _ = wo
 have hf : FieldsAt wo w.heap.size S := by rw [← hW]; exact (((Below.refl _ _).alloc (Nat.le_refl _) _).block w.heap.size (by simp)).trans (fieldsAt_new w S)
 have hdr : wo.heap[w.heap.size + 1]? = some (.cells #[.int .i64 y, .int .i64 m, .int .i64 (dn : Int)] 83 (0, 0)) := by rw [← hW]; exact heap_two w _ _
 have hB : Below w.heap.size w wo := by rw [← hW]; exact ((Below.refl _ _).alloc (Nat.le_refl _) _).alloc (by simp) _
 clear hW
 have k1 : wo.cell? ⟨w.heap.size + 1, 2, none⟩ = some (.int .i64 (dn : Int)) := cell_of_row _ _ _ _ _ _ hdr
 have k2 : wo.cell? ⟨w.heap.size, 193 + dn, none⟩ = some (.bool (inB S.dom (dn : Int))) := by
  have := hf.at_ 3 dn (by omega) (by omega)
  rw [show 3 * 64 + (dn + 1) = 193 + dn by omega] at this
  rw [this]
  unfold memB inB bitsK loF hiF
  simp [show 1 ≤ dn by omega, show dn ≤ 31 by omega]
 have k3 : wo.cell? ⟨w.heap.size, 321 + wn, none⟩ = some (.bool (inB S.dow (wn : Int))) := by
  have := hf.at_ 5 wn (by omega) (by omega)
  rw [show 5 * 64 + (wn + 1) = 321 + wn by omega] at this
  rw [this]
  unfold memB inB bitsK loF hiF
  simp [show wn ≤ 6 by omega]
 have k4 : wo.cell? ⟨w.heap.size, 192, none⟩ = some (.bool (inB S.dom 63)) := hf.star 3 (by omega)
 have k5 : wo.cell? ⟨w.heap.size, 320, none⟩ = some (.bool (inB S.dow 63)) := hf.star 5 (by omega)
 have b1 : (dn : Int) < 63 := by omega
 have b2 : (0 : Int) ≤ dn := by omega
 have b3 : (wn : Int) < 63 := by omega
 have b4 : (0 : Int) ≤ wn := by omega
 clear hf hdr
 refine start_ (n := 13) (S := fun w' => w'.cell? ⟨w.heap.size + 1, 2, none⟩ = some (.int .i64 (dn : Int)) ∧ w'.cell? ⟨w.heap.size, 193 + dn, none⟩ = some (.bool (inB S.dom (dn : Int))) ∧ w'.cell? ⟨w.heap.size, 321 + wn, none⟩ = some (.bool (inB S.dow (wn : Int))) ∧ w'.cell? ⟨w.heap.size, 192, none⟩ = some (.bool (inB S.dom 63)) ∧ w'.cell? ⟨w.heap.size, 320, none⟩ = some (.bool (inB S.dow 63)) ∧ Below w.heap.size w w') (ds := []) #[false, false, false, false, false, false, false, false, false, false, false, false, false] (by kernel_rfl) rfl rfl ⟨k1, k2, k3, k4, k5, hB.drew⟩ (fun hHeld => ?_)
 refine pure_ (i := 0) (N := some 9) (v := ?_) (a' := ?_) #[true, false, false, false, false, false, false, false, false, false, false, false, false] rfl rfl (by kernel_rfl) (fun _ _ _ h => h) (Or.inl ⟨by rfl, ?_⟩) ?_ ?_
 rotate_left
 ·intro w'
  go_simp
  with_reducible rfl
 rotate_left
 ·simp only [Act.put, List.setIfInBounds_toArray, List.set_cons_zero, List.set_cons_succ, i64_w, i32_w]
  rfl
 refine pure_ (i := 2) (N := some 11) (v := ?_) (a' := ?_) #[true, false, true, false, false, false, false, false, false, false, false, false, false] rfl rfl (by kernel_rfl) (fun _ _ _ h => h) (Or.inl ⟨by rfl, ?_⟩) ?_ ?_
 rotate_left
 ·intro w'
  go_simp
  with_reducible rfl
 rotate_left
 ·simp only [Act.put, List.setIfInBounds_toArray, List.set_cons_zero, List.set_cons_succ, i64_w, i32_w]
  rfl
 refine pure_ (i := 3) (N := some 12) (v := ?_) (a' := ?_) #[true, false, true, true, false, false, false, false, false, false, false, false, false] rfl rfl (by kernel_rfl) (fun _ _ _ h => h) (Or.inl ⟨by rfl, ?_⟩) ?_ ?_
 rotate_left
 ·intro w'
  go_simp
  with_reducible rfl
 rotate_left
 ·simp only [Act.put, List.setIfInBounds_toArray, List.set_cons_zero, List.set_cons_succ, i64_w, i32_w]
  rfl
 refine pure_ (i := 6) (N := some 15) (v := ?_) (a' := ?_) #[true, false, true, true, false, false, true, false, false, false, false, false, false] rfl rfl (by kernel_rfl) (fun _ _ _ h => h) (Or.inl ⟨by rfl, ?_⟩) ?_ ?_
 rotate_left
 ·intro w'
  go_simp
  with_reducible rfl
 rotate_left
 ·simp only [Act.put, List.setIfInBounds_toArray, List.set_cons_zero, List.set_cons_succ, i64_w, i32_w]
  rfl
 refine pure_ (i := 7) (N := some 16) (v := ?_) (a' := ?_) #[true, false, true, true, false, false, true, true, false, false, false, false, false] rfl rfl (by kernel_rfl) (fun _ _ _ h => h) (Or.inl ⟨by rfl, ?_⟩) ?_ ?_
 rotate_left
 ·intro w'
  go_simp
  with_reducible rfl
 rotate_left
 ·simp only [Act.put, List.setIfInBounds_toArray, List.set_cons_zero, List.set_cons_succ, i64_w, i32_w]
  rfl
 refine pure_ (i := 8) (N := some 17) (v := ?_) (a' := ?_) #[true, false, true, true, false, false, true, true, true, false, false, false, false] rfl rfl (by kernel_rfl) (fun _ _ _ h => h) (Or.inl ⟨by rfl, ?_⟩) ?_ ?_
 rotate_left
 ·intro w'
  go_simp
  with_reducible rfl
 rotate_left
 ·simp only [Act.put, List.setIfInBounds_toArray, List.set_cons_zero, List.set_cons_succ, i64_w, i32_w]
  rfl
 refine pure_ (i := 9) (N := some 18) (v := ?_) (a' := ?_) #[true, false, true, true, false, false, true, true, true, true, false, false, false] rfl rfl (by kernel_rfl) (fun _ _ _ h => h) (Or.inl ⟨by rfl, ?_⟩) ?_ ?_
 rotate_left
 ·intro w'
  go_simp
  with_reducible rfl
 rotate_left
 ·simp only [Act.put, List.setIfInBounds_toArray, List.set_cons_zero, List.set_cons_succ, i64_w, i32_w]
  rfl
 refine take_ (i := 1) (N := some 10) (v := ?_) (a' := ?_) #[true, true, true, true, false, false, true, true, true, true, false, false, false] rfl rfl (by kernel_rfl) (fun _ _ _ h => h) (Or.inl ⟨by rfl, ?_⟩) hHeld ?_ ?_
 rotate_left
 ·rintro w' ⟨s0, s1, s2, s3, s4, s5⟩
  go_simp
  with_reducible rfl
 rotate_left
 ·simp only [Act.put, List.setIfInBounds_toArray, List.set_cons_zero, List.set_cons_succ, i64_w, i32_w]
  rfl
 refine pure_ (i := 4) (N := some 13) (v := ?_) (a' := ?_) #[true, true, true, true, true, false, true, true, true, true, false, false, false] rfl rfl (by kernel_rfl) (fun _ _ _ h => h) (Or.inl ⟨by rfl, ?_⟩) ?_ ?_
 rotate_left
 ·intro w'
  go_simp
  with_reducible rfl
 rotate_left
 ·simp only [Act.put, List.setIfInBounds_toArray, List.set_cons_zero, List.set_cons_succ, i64_w, i32_w]
  rfl
 refine take_ (i := 5) (N := some 14) (v := ?_) (a' := ?_) #[true, true, true, true, true, true, true, true, true, true, false, false, false] rfl rfl (by kernel_rfl) (fun _ _ _ h => h) (Or.inl ⟨by rfl, ?_⟩) hHeld ?_ ?_
 rotate_left
 ·rintro w' ⟨s0, s1, s2, s3, s4, s5⟩
  go_simp
  with_reducible rfl
 rotate_left
 ·simp only [Act.put, List.setIfInBounds_toArray, List.set_cons_zero, List.set_cons_succ, i64_w, i32_w]
  rfl
 refine pure_ (i := 11) (N := some 7) (v := ?_) (a' := ?_) #[true, true, true, true, true, true, true, true, true, true, false, true, false] rfl rfl (by kernel_rfl) (fun _ _ _ h => h) (Or.inl ⟨by rfl, ?_⟩) ?_ ?_
 rotate_left
 ·intro w'
  go_simp
  with_reducible rfl
 rotate_left
 ·simp only [Act.put, List.setIfInBounds_toArray, List.set_cons_zero, List.set_cons_succ, i64_w, i32_w]
  rfl
 refine take_ (i := 10) (N := some 19) (v := ?_) (a' := ?_) #[true, true, true, true, true, true, true, true, true, true, true, true, false] rfl rfl (by kernel_rfl) (fun _ _ _ h => h) (Or.inl ⟨by rfl, ?_⟩) hHeld ?_ ?_
 rotate_left
 ·rintro w' ⟨s0, s1, s2, s3, s4, s5⟩
  go_simp
  with_reducible rfl
 rotate_left
 ·simp only [Act.put, List.setIfInBounds_toArray, List.set_cons_zero, List.set_cons_succ, i64_w, i32_w]
  rfl
 refine pure_ (i := 12) (N := some 8) (v := ?_) (a' := ?_) #[true, true, true, true, true, true, true, true, true, true, true, true, true] rfl rfl (by kernel_rfl) (fun _ _ _ h => h) (Or.inl ⟨by rfl, ?_⟩) ?_ ?_
 rotate_left
 ·intro w'
  go_simp
  with_reducible rfl
 rotate_left
 ·simp only [Act.put, List.setIfInBounds_toArray, List.set_cons_zero, List.set_cons_succ, i64_w, i32_w]
  rfl
 refine done_ (by kernel_rfl) ?_
 obtain ⟨-, -, -, k4, k5, hB2⟩ := hHeld
 clear k1 k2 k3
 cases h3 : inB S.dom 63 <;> cases h4 : inB S.dow 63 <;> rw [h3] at k4 <;> rw [h4] at k5 <;> cases h1 : inB S.dom (dn : Int) <;> cases h2 : inB S.dow (wn : Int)
 all_goals
  go_wp2_with fail
  all_goals
   go_ret
   exact ⟨by simp [h1, h2, h3, h4], hB2⟩
end Go.Proofs.YtmecbmgfacpecaaGreatDoor.CronN
namespace Go.Proofs.YtmecbmgfacpecaaGreatDoor.CronN
open Go Go.RowKit Go.Proofs.YtmecbmgfacpecaaGreatDoorW.PrintWords Go.Proofs.YtmecbmgfacpecaaGreatDoorW.PrintLast Go.Proofs.YtmecbmgfacpecaaGreatDoor.Cal Go.Proofs.YtmecbmgfacpecaaGreatDoor.Pr
set_option linter.unusedVariables false
set_option linter.unusedSimpArgs false
theorem FieldsAt.range {w : World} {g : Nat} {S : Sets} (h : FieldsAt w g S) (k : Nat) (hk : k < 6) : w.rangeAt g (k * 64) (setK S k).toList := by
 intro t x hx
 have ht : t < 64 := by
  have := (List.getElem?_eq_some_iff.1 hx).1
  rw [Array.length_toList, show (setK S k).size = 64 from setCells_size _ _] at this
  exact this
 rw [cell_of_row _ _ _ _ _ _ h]
 unfold fieldsC
 rw [List.getElem?_toArray, rowsK_at S 6 k t hk ht]
 simpa using hx
section
variable {ops : Array Oper} {rest : List Oper} {o : Oper} {a : Act} {w : World} {Q : Exit → Act → World → Prop}
theorem wpList_load_K (hw : Region.wanted o (yielded ops a.tmps) = true) (x : Operand) (ho : o.op = .load 56 x) (g : Nat) (S : Sets) (k : Nat) (hk : k < 6) (n : Nat) (hn : n = k * 64)
  (hx : a.eval x = .pointer (some ⟨g, n, none⟩)) (hs : FieldsAt w g S) (h : wpList Tryz.prog ops Q rest (a.put o.dst (.agg (setK S k))) w) : wpList Tryz.prog ops Q (o :: rest) a w := by
 subst hn
 refine wpList_step fun K hK => ?_
 rw [if_pos hw]
 exact wp_load_mid 56 x ho g (k * 64) hx (setK S k).toList _ (hs.range k hk) Tryz.underlying56 rfl (by rw [setSize, Array.length_toList]; exact congrArg some (setCells_size _ _).symm) (hK _ _ h)
end
def emptyK (S : Sets) (k : Nat) : Bool := emptyB (memB (loF k) (hiF k) (bitsK S k))
theorem emptyK_any (S : Sets) (k : Nat) (w : World) : Calls Tryz.prog 75 #[.agg (setK S k)] w fun e w' => e = .returned (.bool (emptyK S k)) ∧ Below w.heap.size w w' := cronEmpty_any _ _ w
def neverB (S : Sets) : Bool := emptyK S 2 || (emptyK S 1 || emptyK S 0)
set_option maxRecDepth 100000 in
set_option maxHeartbeats 4000000 in
theorem cronNever_any (S : Sets) (w : World) :
  Calls Tryz.prog 133 #[.agg (fieldsC S)] w fun e w' => e = .returned (.bool (neverB S)) ∧ Below w.heap.size w w' := by
 have HE := Lib.hid (fun k w' => emptyK_any S k w')
 have HF := Lib.hid (fieldsAt_new w S)
 go_enter Tryz.func133, Tryz.ntmps133
 go_wp2_with (refine wpList_load_K (by rfl) _ rfl w.heap.size S 2 (by omega) 128 rfl rfl HF.out ?_)
 refine (HE.out 2 _).mono ?_
 rintro e w1 ⟨rfl, hb1⟩
 have HF1 := Lib.hid (HF.out.below hb1)
 have hB1 := below_le ((Below.refl w.heap.size w).alloc (Nat.le_refl _) _) hb1
 clear hb1
 cases h2 : emptyK S 2 with
 | true =>
  go_wp2_with fail
  all_goals
   go_ret
   exact ⟨by simp [neverB, h2], hB1⟩
 | false =>
  go_wp2_with (refine wpList_load_K (by rfl) _ rfl w.heap.size S 1 (by omega) 64 rfl rfl HF1.out ?_)
  refine (HE.out 1 _).mono ?_
  rintro e w2 ⟨rfl, hb2⟩
  have HF2 := Lib.hid (HF1.out.below hb2)
  have hB2 := below_le hB1 hb2
  clear hb2
  cases h1 : emptyK S 1 with
  | true =>
   go_wp2_with fail
   all_goals
    go_ret
    exact ⟨by simp [neverB, h2, h1], hB2⟩
  | false =>
   go_wp2_with (refine wpList_load_K (by rfl) _ rfl w.heap.size S 0 (by omega) 0 rfl rfl HF2.out ?_)
   refine (HE.out 0 _).mono ?_
   rintro e w3 ⟨rfl, hb3⟩
   have hB3 := below_le hB2 hb3
   clear hb3
   cases h0 : emptyK S 0
   all_goals
    go_wp2_with fail
    all_goals
     go_ret
     exact ⟨by simp [neverB, h2, h1, h0], hB3⟩
def TimeIn (S : Sets) (t : Int) : Prop := inB S.hour (t / 3600) = true ∧ inB S.min (t % 3600 / 60) = true ∧ inB S.sec (t % 60) = true
def NoT (S : Sets) (f X : Int) : Prop := ∀ t, f ≤ t → t < X → ¬ TimeIn S t
theorem mem_no {hi b q : Nat} (hq : q ≤ hi) (h : memB 0 hi b q = false) : inB b (q : Int) = false := by
 unfold memB at h
 unfold inB
 simp [hq] at h
 simpa using h
theorem NoT.hour {S : Sets} {f : Int} {q : Nat} (h : NoT S f (3600 * (q : Int))) (h24 : q < 24) (hm : memB 0 23 S.hour q = false) : NoT S f (3600 * ((q + 1 : Nat) : Int)) := by
 intro t h1 h2 ht
 by_cases hx : t < 3600 * (q : Int)
 ·exact h t h1 hx ht
 ·have := ht.1
  rw [show t / 3600 = (q : Int) by omega, mem_no (by omega) hm] at this
  cases this
theorem NoT.min {S : Sets} {f : Int} {q m : Nat} (h : NoT S f (3600 * (q : Int) + 60 * (m : Int))) (h60 : m < 60) (hm : memB 0 59 S.min m = false) : NoT S f (3600 * (q : Int) + 60 * ((m + 1 : Nat) : Int)) := by
 intro t h1 h2 ht
 by_cases hx : t < 3600 * (q : Int) + 60 * (m : Int)
 ·exact h t h1 hx ht
 ·have := ht.2.1
  rw [show t % 3600 / 60 = (m : Int) by omega, mem_no (by omega) hm] at this
  cases this
theorem NoT.early {S : Sets} {f : Int} {q m : Nat} (h : 3600 * (q : Int) + 60 * m + 59 < f) : NoT S f (3600 * (q : Int) + 60 * ((m + 1 : Nat) : Int)) := fun t h1 h2 => by omega
theorem NoT.sec {S : Sets} {f : Int} {q m s : Nat} (h : NoT S f (3600 * (q : Int) + 60 * (m : Int) + (s : Int))) (h60 : s < 60) (hm : memB 0 59 S.sec s = false) : NoT S f (3600 * (q : Int) + 60 * (m : Int) + ((s + 1 : Nat) : Int)) := by
 intro t h1 h2 ht
 by_cases hx : t < 3600 * (q : Int) + 60 * (m : Int) + (s : Int)
 ·exact h t h1 hx ht
 ·have := ht.2.2
  rw [show t % 60 = (s : Int) by omega, mem_no (by omega) hm] at this
  cases this
theorem NoT.first {S : Sets} {f : Nat} {q m : Nat} (h : NoT S f (3600 * (q : Int) + 60 * (m : Int))) : NoT S f (3600 * (q : Int) + 60 * (m : Int) + ((f - (3600 * q + 60 * m) : Nat) : Int)) := by
 intro t h1 h2 ht
 exact h t h1 (by omega) ht
theorem NoT.same {S : Sets} {f X Y : Int} (h : NoT S f X) (e : X = Y) : NoT S f Y := e ▸ h
set_option maxRecDepth 100000 in
set_option maxHeartbeats 4000000 in
theorem cronTime_any (S : Sets) (fr : Nat) (hf : fr < 86400) (w : World) :
  Calls Tryz.prog 136 #[.agg (fieldsC S), .int .i64 fr] w fun e w' =>
   (∃ r : Int, e = .returned (.int .i64 r) ∧ (0 ≤ r → (fr : Int) ≤ r ∧ r < 86400 ∧ TimeIn S r) ∧ NoT S fr (if 0 ≤ r then r else 86400)) ∧ Below w.heap.size w w' := by
 have hq : Int.tdiv (fr : Int) 3600 = ((fr / 3600 : Nat) : Int) := by rw [Int.tdiv_eq_ediv_of_nonneg (by omega)]; omega
 go_enter Tryz.func136, Tryz.ntmps136
 go_wp2_with fail
 generalize hW : World.alloc w _ = wo
 have HF : Hid (FieldsAt wo w.heap.size S) := Lib.hid (by rw [← hW]; exact fieldsAt_new w S)
 have hB : Below w.heap.size w wo := by rw [← hW]; exact (Below.refl _ _).alloc (Nat.le_refl _) _
 clear hW
 go_loopw [5] (fun v5 wr => ∃ q : Nat, v5 = .int .i64 q ∧ fr / 3600 ≤ q ∧ q ≤ 24 ∧ Hid (NoT S fr (3600 * (q : Int))) ∧ wr = wo) (fun v5 _ => 24 - (intOf v5).toNat)
 case atStart => exact ⟨fr / 3600, by push_cast; rfl, by omega, by omega, Lib.hid (fun t h1 h2 => by omega), rfl⟩
 case round =>
  obtain ⟨q, rfl, h0, h1, HN, hwr⟩ := hrel
  have hwr' := hwr.symm
  clear hwr
  subst hwr'
  by_cases h24 : q < 24
  ·have hd : decide ((q : Int) < 24) = true := decide_eq_true (by omega)
   have hc : wo.cell? ⟨w.heap.size, 129 + q, none⟩ = some (.bool (memB 0 23 S.hour q)) := by
    have := HF.out.at_ 2 q (by omega) (by omega)
    rw [show 2 * 64 + (q + 1) = 129 + q by omega] at this
    exact this
   have hp1 : (0 : Int) ≤ q := by omega
   have hp2 : (q : Int) < 63 := by omega
   cases hm : memB 0 23 S.hour q with
   | false =>
    rw [hm] at hc
    go_wp2_with fail
    exact ⟨⟨q + 1, by push_cast; rfl, by omega, by omega, Lib.hid (HN.out.hour h24 hm), trivial⟩, by simp [intOf]; omega⟩
   | true =>
    rw [hm] at hc
    have HH : Hid (S.hour.testBit q = true) := Lib.hid (by unfold memB at hm; simp at hm; exact hm.2)
    go_wp2_with fail
    go_loopw [21] (fun v21 wr => ∃ m : Nat, v21 = .int .i64 m ∧ m ≤ 60 ∧ Hid (NoT S fr (3600 * (q : Int) + 60 * (m : Int))) ∧ wr = wo) (fun v21 _ => 60 - (intOf v21).toNat)
    case atStart => exact ⟨0, rfl, by omega, Lib.hid (HN.out.same (by simp)), rfl⟩
    case round =>
     obtain ⟨m, rfl, m1, HNM, hwr⟩ := hrel
     have hwr' := hwr.symm
     clear hwr
     subst hwr'
     by_cases m60 : m < 60
     ·have hdm : decide ((m : Int) < 60) = true := decide_eq_true (by omega)
      have hcm : wo.cell? ⟨w.heap.size, 65 + m, none⟩ = some (.bool (memB 0 59 S.min m)) := by
       have := HF.out.at_ 1 m (by omega) (by omega)
       rw [show 1 * 64 + (m + 1) = 65 + m by omega] at this
       exact this
      have hq1 : (0 : Int) ≤ m := by omega
      have hq2 : (m : Int) < 63 := by omega
      cases hmm : memB 0 59 S.min m with
      | false =>
       rw [hmm] at hcm
       go_wp2_with fail
       all_goals exact ⟨⟨m + 1, by push_cast; rfl, by omega, Lib.hid (HNM.out.min m60 hmm), trivial⟩, by simp [intOf]; omega⟩
      | true =>
       rw [hmm] at hcm
       have HM : Hid (S.min.testBit m = true) := Lib.hid (by unfold memB at hmm; simp at hmm; exact hmm.2)
       by_cases hlt : 3600 * (q : Int) + 60 * m + 59 < fr
       ·have hdl : decide (3600 * (q : Int) + 60 * m + 59 < fr) = true := decide_eq_true hlt
        go_wp2_with fail
        all_goals exact ⟨⟨m + 1, by push_cast; rfl, by omega, Lib.hid (NoT.early hlt), trivial⟩, by simp [intOf]; omega⟩
       ·have hdl : decide (3600 * (q : Int) + 60 * m + 59 < fr) = false := decide_eq_false hlt
        go_wp2_with fail
        all_goals
         go_loopw [8] (fun v8 wr => ∃ s : Nat, v8 = .int .i64 s ∧ fr ≤ 3600 * q + 60 * m + s ∧ s ≤ 60 ∧ Hid (NoT S fr (3600 * (q : Int) + 60 * (m : Int) + (s : Int))) ∧ wr = wo) (fun v8 _ => 60 - (intOf v8).toNat)
         case atStart => first | exact ⟨0, rfl, by omega, by omega, Lib.hid (HNM.out.same (by simp)), rfl⟩ | exact ⟨fr - (3600 * q + 60 * m), by congr 1; omega, by omega, by omega, Lib.hid HNM.out.first, rfl⟩
         case round =>
          obtain ⟨s, rfl, s0, s1, HNS, hwr⟩ := hrel
          have hwr' := hwr.symm
          clear hwr
          subst hwr'
          by_cases s60 : s < 60
          ·have hds : decide ((s : Int) < 60) = true := decide_eq_true (by omega)
           have hcs : wo.cell? ⟨w.heap.size, 1 + s, none⟩ = some (.bool (memB 0 59 S.sec s)) := by
            have := HF.out.at_ 0 s (by omega) (by omega)
            rw [show 0 * 64 + (s + 1) = 1 + s by omega] at this
            exact this
           have hr1 : (0 : Int) ≤ s := by omega
           have hr2 : (s : Int) < 63 := by omega
           cases hss : memB 0 59 S.sec s with
           | false =>
            rw [hss] at hcs
            go_wp2_with fail
            exact ⟨⟨s + 1, by push_cast; rfl, by omega, by omega, Lib.hid (HNS.out.sec s60 hss), trivial⟩, by simp [intOf]; omega⟩
           | true =>
            rw [hss] at hcs
            have HS : S.sec.testBit s = true := by unfold memB at hss; simp at hss; exact hss.2
            go_wp2_with fail
            go_ret
            refine ⟨⟨3600 * (q : Int) + 60 * m + s, rfl, fun _ => ⟨by omega, by omega, ?_, ?_, ?_⟩, by rw [if_pos (by omega)]; exact HNS.out⟩, hB⟩
            ·unfold inB; rw [show ((3600 * (q : Int) + 60 * m + s) / 3600).toNat = q by omega]; exact HH.out
            ·unfold inB; rw [show ((3600 * (q : Int) + 60 * m + s) % 3600 / 60).toNat = m by omega]; exact HM.out
            ·unfold inB; rw [show ((3600 * (q : Int) + 60 * m + s) % 60).toNat = s by omega]; exact HS
          ·have hds : decide ((s : Int) < 60) = false := decide_eq_false (by omega)
           go_wp2_with fail
           exact ⟨⟨m + 1, by push_cast; rfl, by omega, Lib.hid (HNS.out.same (by push_cast; omega)), trivial⟩, by simp [intOf]; omega⟩
     ·have hdm : decide ((m : Int) < 60) = false := decide_eq_false (by omega)
      go_wp2_with fail
      exact ⟨⟨q + 1, by push_cast; rfl, by omega, by omega, Lib.hid (HNM.out.same (by push_cast; omega)), trivial⟩, by simp [intOf]; omega⟩
  ·have hd : decide ((q : Int) < 24) = false := decide_eq_false (by omega)
   go_wp2_with fail
   go_ret
   exact ⟨⟨-1, rfl, (fun h => by omega), by rw [if_neg (by omega)]; exact HN.out.same (by omega)⟩, hB⟩
end Go.Proofs.YtmecbmgfacpecaaGreatDoor.CronN
namespace Go.Proofs.YtmecbmgfacpecaaGreatDoor.CronN
open Go Go.RowKit Go.Proofs.YtmecbmgfacpecaaGreatDoorW.PrintWords Go.Proofs.YtmecbmgfacpecaaGreatDoorW.PrintLast Go.Proofs.YtmecbmgfacpecaaGreatDoor.Cal Go.Proofs.YtmecbmgfacpecaaGreatDoor.Pr
set_option linter.unusedVariables false
set_option linter.unusedSimpArgs false
theorem fd (a b : Int) (hb : 0 < b) : (if Int.tmod a b < 0 then Int.tdiv a b - 1 else Int.tdiv a b) = a / b := by
 by_cases h : 0 ≤ a
 ·rw [Int.tdiv_eq_ediv_of_nonneg h, Int.tmod_eq_emod_of_nonneg h]
  have := Int.emod_nonneg a (by omega : b ≠ 0)
  rw [if_neg (by omega)]
 ·obtain ⟨n, rfl⟩ : ∃ n, a = -n := ⟨-a, by omega⟩
  have hn : 0 < n := by omega
  rw [Int.neg_tdiv, Int.neg_tmod, Int.tdiv_eq_ediv_of_nonneg (by omega), Int.tmod_eq_emod_of_nonneg (by omega)]
  have h1 := Int.emod_nonneg n (by omega : b ≠ 0)
  have h2 := Int.emod_lt_of_pos n hb
  have h3 := Int.mul_ediv_add_emod n b
  generalize n / b = q at *
  generalize n % b = r at *
  symm
  split
  ·refine ((Int.ediv_emod_unique (a := -n) (b := b) (r := b - r) (q := -q - 1) hb).2 ⟨?_, by omega, by omega⟩).1
   rw [Int.mul_sub, Int.mul_neg]
   omega
  ·refine ((Int.ediv_emod_unique (a := -n) (b := b) (r := 0) (q := -q) hb).2 ⟨?_, by omega, by omega⟩).1
   rw [Int.mul_neg]
   omega
theorem w64 {x : Int} (h0 : -9223372036854775808 ≤ x) (h1 : x < 9223372036854775808) : wrap64 x = x := by unfold wrap64; omega
theorem floorDiv_f (a b : Int) (hb : 0 < b) (hq : -4611686018427387904 ≤ a / b ∧ a / b ≤ 4611686018427387904) : spec_floorDiv.f a b = some (a / b) := by
 have := fd a b hb
 unfold spec_floorDiv.f
 rw [if_neg (by omega)]
 split
 ·rename_i h
  rw [if_pos h] at this
  rw [w64 (x := Int.tdiv a b) (by omega) (by omega), w64 (by omega) (by omega), this]
 ·rename_i h
  rw [if_neg h] at this
  rw [w64 (by omega) (by omega), this]
theorem yearStart_f (y : Int) (h0 : -1000000 ≤ y) (h1 : y ≤ 1000000) : spec_CronYearStart.f y = some (ystart y) := by
 unfold spec_CronYearStart.f
 rw [w64 (x := y - 1) (by omega) (by omega), floorDiv_f (y - 1) 4 (by omega) (by omega), floorDiv_f (y - 1) 100 (by omega) (by omega), floorDiv_f (y - 1) 400 (by omega) (by omega)]
 simp only [Option.bind_some]
 rw [w64 (x := 365 * (y - 1)) (by omega) (by omega), w64 (x := 365 * (y - 1) + (y - 1) / 4) (by omega) (by omega), w64 (x := 365 * (y - 1) + (y - 1) / 4 - (y - 1) / 100) (by omega) (by omega), w64 (x := 365 * (y - 1) + (y - 1) / 4 - (y - 1) / 100 + (y - 1) / 400) (by omega) (by omega), w64 (by omega) (by omega)]
 rfl
theorem monthDays_f (y m : Int) (h0 : 0 ≤ y) (h1 : y ≤ 1000000) (m0 : 1 ≤ m) (m1 : m ≤ 12) : spec_CronMonthDays.f y m = some (mdays y m) := by
 unfold spec_CronMonthDays.f mdays spec_CronLeap.f lpN
 rw [Int.tmod_eq_emod_of_nonneg h0, Int.tmod_eq_emod_of_nonneg h0, Int.tmod_eq_emod_of_nonneg h0]
 by_cases h2 : m = 2
 ·rw [if_pos h2, if_pos h2]
  by_cases a : y % 4 = 0
  ·rw [if_pos a]
   by_cases b : y % 100 = 0
   ·rw [if_pos b]
    by_cases c : y % 400 = 0
    ·simp [a, b, c]
    ·simp [a, b, c]
   ·rw [if_neg b]
    simp [a, b]
  ·rw [if_neg a]
   simp [a]
 ·rw [if_neg h2, if_neg h2]
  by_cases a : m = 4
  ·simp [a]
  ·by_cases b : m = 6
   ·simp [b]
   ·by_cases c : m = 9
    ·simp [c]
    ·by_cases d : m = 11
     ·simp [d]
     ·simp [a, b, c, d]
theorem dateL1 (y D : Int) (h0 : 0 ≤ y) (h1 : y ≤ 100000) (m : Int) (m1 : m ≤ 12) (hc0 : cum y m ≤ D - ystart y) (hc1 : D - ystart y < cum y m + mdays y m) (hD : -1000000 ≤ D ∧ D ≤ 40000000) : ∀ (n k : Nat) (x5 : Int), (m - x5).toNat = n → 1 ≤ x5 → x5 ≤ m → n < k →
  spec_CronDateOf.l1 k y (D - ystart y - cum y x5) x5 = some (y, m, D - ystart y - cum y m + 1) := by
 intro n
 induction n with
 | zero =>
  intro k x5 hn hx hm hk
  obtain ⟨k, rfl⟩ : ∃ j, k = j + 1 := ⟨k - 1, by omega⟩
  obtain rfl : x5 = m := by omega
  have hb := mdays_bd y x5
  unfold spec_CronDateOf.l1
  rw [monthDays_f y x5 h0 (by omega) hx m1]
  simp only [Option.bind_some]
  rw [if_neg (by omega), w64 (by omega) (by omega)]
 | succ n ih =>
  intro k x5 hn hx hm hk
  obtain ⟨k, rfl⟩ : ∃ j, k = j + 1 := ⟨k - 1, by omega⟩
  have hlt : x5 < m := by omega
  have hb := mdays_bd y x5
  have hs := cum_succ y x5 hx (by omega)
  have hle := cum_lt (y := y) hx hlt (by omega)
  have hcn := cum_nonneg (y := y) hx (by omega)
  have hys : -1000000 ≤ ystart y ∧ ystart y ≤ 40000000 := by unfold ystart; omega
  unfold spec_CronDateOf.l1
  rw [monthDays_f y x5 h0 (by omega) hx (by omega)]
  simp only [Option.bind_some]
  rw [if_pos (by omega), w64 (x := x5 + 1) (by omega) (by omega), w64 (x := D - ystart y - cum y x5 - mdays y x5) (by omega) (by omega), show D - ystart y - cum y x5 - mdays y x5 = D - ystart y - cum y (x5 + 1) by omega]
  exact ih k (x5 + 1) (by omega) (by omega) (by omega) (by omega)
theorem dateL0 (y m d D : Int) (h0 : 0 ≤ y) (h1 : y ≤ 100000) (hv : Valid y m d) (hd : dayOf y m d = D) : ∀ (n k : Nat) (x3 : Int), (y - x3).toNat = n → -1000 ≤ x3 → x3 ≤ y → n + 13 < k → spec_CronDateOf.l0 k D x3 = some (y, m, d) := by
 have hys : -1000000 ≤ ystart y ∧ ystart y ≤ 39000000 := by unfold ystart; omega
 have hdy := day_year hv
 have hbd := mdays_bd y m
 obtain ⟨v1, v2, v3, v4⟩ := hv
 have hcn := cum_nonneg (y := y) v1 (by omega)
 have hle := cum_lt (y := y) (m := m) (m' := 13) v1 (by omega) (by omega)
 have hc13 := cum_last y
 have hlp := lp_01 y
 intro n
 induction n with
 | zero =>
  intro k x3 hn hx hm hk
  obtain ⟨k, rfl⟩ : ∃ j, k = j + 1 := ⟨k - 1, by omega⟩
  obtain rfl : x3 = y := by omega
  unfold spec_CronDateOf.l0
  rw [w64 (x := x3 + 1) (by omega) (by omega), yearStart_f (x3 + 1) (by omega) (by omega)]
  simp only [Option.bind_some]
  rw [if_neg (by omega), yearStart_f x3 (by omega) (by omega)]
  simp only [Option.bind_some]
  unfold dayOf at hd
  rw [w64 (x := D - ystart x3) (by omega) (by omega)]
  have := dateL1 x3 D h0 h1 m v2 (by omega) (by omega) (by omega) (m - 1).toNat k 1 rfl (by omega) (by omega) (by omega)
  rw [cum_one, Int.sub_zero] at this
  rw [this]
  congr 3
  omega
 | succ n ih =>
  intro k x3 hn hx hm hk
  obtain ⟨k, rfl⟩ : ∃ j, k = j + 1 := ⟨k - 1, by omega⟩
  have hle2 := ystart_le (a := x3 + 1) (b := y) (by omega)
  unfold spec_CronDateOf.l0
  rw [w64 (x := x3 + 1) (by omega) (by omega), yearStart_f (x3 + 1) (by omega) (by omega)]
  simp only [Option.bind_some]
  rw [if_pos (by omega)]
  exact ih k (x3 + 1) (by omega) (by omega) (by omega) (by omega)
theorem dateOf_f (L : Int) (h0 : -62135596800 - 86400 ≤ L) (h1 : L ≤ 320000000000) : spec_CronDateOf.f 200 (L / 86400) = some (yearL L, monthL L, mdayL L) := by
 obtain ⟨hv, hd⟩ := date_L L
 have hy0 : 0 ≤ yearL L := by
  by_cases h : -62135596800 ≤ L
  ·have := year_one h; omega
  ·have := year_zero h0 (by omega); omega
 have hr := year_range L
 unfold dayL at hd
 have hst := day_year hv
 rw [hd] at hst
 generalize yearL L = y at *
 generalize monthL L = m at *
 generalize mdayL L = d at *
 have hyl : y ≤ 13000 := by unfold ystart at hst; omega
 unfold spec_CronDateOf.f
 rw [floorDiv_f (L / 86400) 366 (by omega) (by omega), floorDiv_f (L / 86400) 365 (by omega) (by omega)]
 simp only [Option.bind_some]
 unfold ystart at hst
 split
 ·rw [w64 (x := 1970 + L / 86400 / 365) (by omega) (by omega), w64 (by omega) (by omega)]
  unfold spec_CronDateOf.j0
  exact dateL0 y m d (L / 86400) hy0 (by omega) hv hd _ 199 _ rfl (by omega) (by omega) (by omega)
 ·have hy70 : 1970 ≤ y := by omega
  have hle : 1970 + L / 86400 / 366 ≤ y := by omega
  rw [w64 (by omega) (by omega)]
  unfold spec_CronDateOf.j0
  exact dateL0 y m d (L / 86400) hy0 (by omega) hv hd _ 199 _ rfl (by omega) (by omega) (by omega)
theorem tomorrow_is (L : Int) :
  (mdayL L < mdays (yearL L) (monthL L) ∧ yearL (dNext L) = yearL L ∧ monthL (dNext L) = monthL L ∧ mdayL (dNext L) = mdayL L + 1) ∨
  (¬ mdayL L < mdays (yearL L) (monthL L) ∧ monthL L < 12 ∧ yearL (dNext L) = yearL L ∧ monthL (dNext L) = monthL L + 1 ∧ mdayL (dNext L) = 1) ∨
  (¬ mdayL L < mdays (yearL L) (monthL L) ∧ ¬ monthL L < 12 ∧ yearL (dNext L) = yearL L + 1 ∧ monthL (dNext L) = 1 ∧ mdayL (dNext L) = 1) := by
 obtain ⟨hv, hd⟩ := date_L L
 have hn : dayL (dNext L) = dayL L + 1 := by unfold dayL dNext; omega
 obtain ⟨v1, v2, v3, v4⟩ := hv
 have hb := mdays_bd (yearL L) (monthL L)
 have hcs := cum_succ (yearL L) (monthL L) v1 v2
 by_cases h : mdayL L < mdays (yearL L) (monthL L)
 ·have e := date_eq (L := dNext L) (y := yearL L) (m := monthL L) (d := mdayL L + 1) ⟨v1, v2, by omega, by omega⟩ (by rw [hn, ← hd]; unfold dayOf; omega)
  exact .inl ⟨h, e⟩
 ·by_cases h12 : monthL L < 12
  ·have hb2 := mdays_bd (yearL L) (monthL L + 1)
   have e := date_eq (L := dNext L) (y := yearL L) (m := monthL L + 1) (d := 1) ⟨by omega, by omega, by omega, by omega⟩ (by rw [hn, ← hd]; unfold dayOf; omega)
   exact .inr (.inl ⟨h, h12, e⟩)
  ·have hm : monthL L = 12 := by omega
   have hb2 := mdays_bd (yearL L + 1) 1
   have hl := cum_last (yearL L)
   have e := date_eq (L := dNext L) (y := yearL L + 1) (m := 1) (d := 1) ⟨by omega, by omega, by omega, by omega⟩ (by
    rw [hn, ← hd]
    unfold dayOf
    rw [ystart_succ, cum_one]
    have e12 : mdays (yearL L) (monthL L) = mdays (yearL L) 12 := by rw [hm]
    have c12 : cum (yearL L) (monthL L) = cum (yearL L) 12 := by rw [hm]
    have c13 : cum (yearL L) (monthL L + 1) = cum (yearL L) 13 := by rw [hm]; rfl
    omega)
   exact .inr (.inr ⟨h, h12, e⟩)
theorem dateSizeT : (Tryz.prog.info? 83).map (·.size) = some 3 := by kernel_rfl
theorem run_alloc_dateT (w : World) : (Instr.alloc 83 true (.tuple #[])).run Tryz.prog w = .ok (.pointer (some ⟨w.heap.size, 0, none⟩)) (w.alloc (.cells #[.int .i64 0, .int .i64 0, .int .i64 0] 83 (0, 0))) := by kernel_rfl
set_option maxRecDepth 100000 in
set_option maxHeartbeats 2000000 in
theorem tomorrow_any (L : Int) (w : World) (h0 : 0 ≤ yearL L) (h1 : yearL L ≤ 20000) :
  Calls Tryz.prog 134 #[.agg #[.int .i64 (yearL L), .int .i64 (monthL L), .int .i64 (mdayL L)]] w fun e w' => e = .returned (.agg #[.int .i64 (yearL (dNext L)), .int .i64 (monthL (dNext L)), .int .i64 (mdayL (dNext L))]) ∧ Below w.heap.size w w' := by
 obtain ⟨v1, v2, v3, v4⟩ := (date_L L).1
 have HMD : Hid (∀ w' : World, Calls Tryz.prog 35 #[.int .i64 (yearL L), .int .i64 (monthL L)] w' fun e w2 => e = .returned (.int .i64 (mdays (yearL L) (monthL L))) ∧ Below w'.heap.size w' w2) := Lib.hid (fun w' => (spec_CronMonthDays.calls _ _ _ w' (monthDays_f _ _ h0 (by omega) v1 v2)).mono fun _ _ h => ⟨h.1, drawn_below h.2⟩)
 have hb := mdays_bd (yearL L) (monthL L)
 have HC := Lib.hid (tomorrow_is L)
 have hal := run_alloc_dateT
 have hwd : wrap64 (mdayL L + 1) = mdayL L + 1 := w64 (by omega) (by omega)
 have hwm : wrap64 (monthL L + 1) = monthL L + 1 := w64 (by omega) (by omega)
 have hwy : wrap64 (yearL L + 1) = yearL L + 1 := w64 (by omega) (by omega)
 generalize mdays (yearL L) (monthL L) = M at *
 generalize yearL L = y at *
 generalize monthL L = m at *
 generalize mdayL L = d at *
 generalize yearL (dNext L) = y' at *
 generalize monthL (dNext L) = m' at *
 generalize mdayL (dNext L) = d' at *
 go_enter Tryz.func134, Tryz.ntmps134
 go_upto_region 1 with fail
 generalize hW : World.alloc (World.alloc w _) _ = wo
 have hr0 : wo.heap[w.heap.size]? = some (.cells #[.int .i64 y, .int .i64 m, .int .i64 d] 83 (0, 0)) := by
  rw [← hW, Below.heap_alloc _ _ _ (by simp)]
  exact heap_alloc_new w _
 have hr1 : wo.heap[w.heap.size + 1]? = some (.cells #[.int .i64 0, .int .i64 0, .int .i64 0] 83 (0, 0)) := by
  rw [← hW]
  exact heap_two w _ _
 have hbw : Below w.heap.size w wo := by
  rw [← hW]
  exact ((Below.refl _ _).alloc (Nat.le_refl _) _).alloc (by simp) _
 clear hW
 refine start_ (n := 8) (S := fun w' => w'.heap[w.heap.size]? = some (.cells #[.int .i64 y, .int .i64 m, .int .i64 d] 83 (0, 0)) ∧ w'.heap[w.heap.size + 1]? = some (.cells #[.int .i64 0, .int .i64 0, .int .i64 0] 83 (0, 0)) ∧ Below wo.heap.size wo w') (ds := []) #[false, false, false, false, false, false, false, false] (by kernel_rfl) rfl rfl ⟨hr0, hr1, (Below.refl _ _).drew⟩ (fun hHeld => ?_)
 refine pure_ (i := 0) (N := some 3) (v := ?_) (a' := ?_) #[true, false, false, false, false, false, false, false] rfl rfl (by kernel_rfl) (fun _ _ _ h => h) (Or.inl ⟨by rfl, ?_⟩) ?_ ?_
 rotate_left
 ·intro w'
  go_simp
  with_reducible rfl
 rotate_left
 ·simp only [Act.put, List.setIfInBounds_toArray, List.set_cons_zero, List.set_cons_succ, i64_w, i32_w]
  rfl
 refine pure_ (i := 2) (N := some 5) (v := ?_) (a' := ?_) #[true, false, true, false, false, false, false, false] rfl rfl (by kernel_rfl) (fun _ _ _ h => h) (Or.inl ⟨by rfl, ?_⟩) ?_ ?_
 rotate_left
 ·intro w'
  go_simp
  with_reducible rfl
 rotate_left
 ·simp only [Act.put, List.setIfInBounds_toArray, List.set_cons_zero, List.set_cons_succ, i64_w, i32_w]
  rfl
 refine pure_ (i := 4) (N := some 7) (v := ?_) (a' := ?_) #[true, false, true, false, true, false, false, false] rfl rfl (by kernel_rfl) (fun _ _ _ h => h) (Or.inl ⟨by rfl, ?_⟩) ?_ ?_
 rotate_left
 ·intro w'
  go_simp
  with_reducible rfl
 rotate_left
 ·simp only [Act.put, List.setIfInBounds_toArray, List.set_cons_zero, List.set_cons_succ, i64_w, i32_w]
  rfl
 refine take_ (i := 1) (N := some 4) (v := ?_) (a' := ?_) #[true, true, true, false, true, false, false, false] rfl rfl (by kernel_rfl) (fun _ _ _ h => h) (Or.inl ⟨by rfl, ?_⟩) hHeld ?_ ?_
 rotate_left
 ·rintro w' ⟨s0, s1, s2⟩
  have c2 : w'.cell? ⟨w.heap.size, 2, none⟩ = some (.int .i64 d) := cell_of_row _ _ _ _ _ _ s0
  go_simp
  with_reducible rfl
 rotate_left
 ·simp only [Act.put, List.setIfInBounds_toArray, List.set_cons_zero, List.set_cons_succ, i64_w, i32_w]
  rfl
 refine take_ (i := 3) (N := some 6) (v := ?_) (a' := ?_) #[true, true, true, true, true, false, false, false] rfl rfl (by kernel_rfl) (fun _ _ _ h => h) (Or.inl ⟨by rfl, ?_⟩) hHeld ?_ ?_
 rotate_left
 ·rintro w' ⟨s0, s1, s2⟩
  have c2 : w'.cell? ⟨w.heap.size, 0, none⟩ = some (.int .i64 y) := cell_of_row _ _ _ _ _ _ s0
  go_simp
  with_reducible rfl
 rotate_left
 ·simp only [Act.put, List.setIfInBounds_toArray, List.set_cons_zero, List.set_cons_succ, i64_w, i32_w]
  rfl
 refine take_ (i := 5) (N := some 8) (v := ?_) (a' := ?_) #[true, true, true, true, true, true, false, false] rfl rfl (by kernel_rfl) (fun _ _ _ h => h) (Or.inl ⟨by rfl, ?_⟩) hHeld ?_ ?_
 rotate_left
 ·rintro w' ⟨s0, s1, s2⟩
  have c2 : w'.cell? ⟨w.heap.size, 1, none⟩ = some (.int .i64 m) := cell_of_row _ _ _ _ _ _ s0
  go_simp
  with_reducible rfl
 rotate_left
 ·simp only [Act.put, List.setIfInBounds_toArray, List.set_cons_zero, List.set_cons_succ, i64_w, i32_w]
  rfl
 refine one_ (i := 6) (N := some 9) #[true, true, true, true, true, true, true, false] rfl rfl (by kernel_rfl) (by decide) (fun K hK => ?_)
 refine goes_ Tryz.func35 (by kernel_rfl) rfl #[.int .i64 y, .int .i64 m] (by rfl) rfl rfl (by simp only [List.map_toArray, List.map_cons, List.map_nil]; rfl) ?_
 with_reducible refine (HMD.out _).mono ?_
 rintro e6 w6 ⟨rfl, hb6⟩
 refine ⟨_, rfl, ?_⟩
 refine hK.out _ _ ⟨(hb6.block _ (Array.getElem?_eq_some_iff.1 hHeld.1).1).trans hHeld.1, (hb6.block _ (Array.getElem?_eq_some_iff.1 hHeld.2.1).1).trans hHeld.2.1, below_le hHeld.2.2 hb6⟩ (fun hHeld => ?_)
 clear hK K
 refine norm_ (a' := ?_) ?_ ?_
 rotate_left
 ·show Act.put _ (some 9) _ = _
  simp only [Act.put, List.setIfInBounds_toArray, List.set_cons_zero, List.set_cons_succ, i64_w, i32_w]
  rfl
 refine pure_ (i := 7) (N := some 10) (v := ?_) (a' := ?_) #[true, true, true, true, true, true, true, true] rfl rfl (by kernel_rfl) (fun _ _ _ h => h) (Or.inl ⟨by rfl, ?_⟩) ?_ ?_
 rotate_left
 ·intro w'
  go_simp
  with_reducible rfl
 rotate_left
 ·simp only [Act.put, List.setIfInBounds_toArray, List.set_cons_zero, List.set_cons_succ, i64_w, i32_w]
  rfl
 refine done_ (by kernel_rfl) ?_
 have HR := Lib.hid hHeld.2.1
 have c0 : w6.cell? ⟨w.heap.size, 0, none⟩ = some (.int .i64 y) := cell_of_row _ _ _ _ _ _ hHeld.1
 have c1 : w6.cell? ⟨w.heap.size, 1, none⟩ = some (.int .i64 m) := cell_of_row _ _ _ _ _ _ hHeld.1
 have c2 : w6.cell? ⟨w.heap.size, 2, none⟩ = some (.int .i64 d) := cell_of_row _ _ _ _ _ _ hHeld.1
 have hbx := below_le hbw hHeld.2.2
 clear hHeld hr0 hr1 hbw
 rcases HC.out with ⟨e1, i1, i2, i3⟩ | ⟨e1, e2, i1, i2, i3⟩ | ⟨e1, e2, i1, i2, i3⟩ <;> subst i1 <;> subst i2 <;> subst i3
 ·have k1 : decide (d < M) = true := decide_eq_true e1
  go_wp2_with (refine wpList_store_row rfl 83 _ _ rfl (w.heap.size + 1) #[.int .i64 y', .int .i64 m', .int .i64 (d + 1)] rfl rfl 83 _ HR.out dateSizeT rfl (by simp [Value.oneCell']) ?_)
  refine bodyPost_ret (v := .agg #[.int .i64 y', .int .i64 m', .int .i64 (d + 1)]) (results_cell_row (fn := Tryz.f134) (p := 2) rfl _ _ (w.heap.size + 1) 83 #[.int .i64 y', .int .i64 m', .int .i64 (d + 1)] (0, 0) _ rfl (setRow_heap _ _ _ _ _ _ HR.out) Tryz.underlying83 rfl dateSizeT) rfl ⟨rfl, below_setRow hbx (by omega) _⟩
 ·have k1 : decide (d < M) = false := decide_eq_false e1
  have k2 : decide (m < 12) = true := decide_eq_true e2
  go_wp2_with (refine wpList_store_row rfl 83 _ _ rfl (w.heap.size + 1) #[.int .i64 y', .int .i64 (m + 1), .int .i64 1] rfl rfl 83 _ HR.out dateSizeT rfl (by simp [Value.oneCell']) ?_)
  refine bodyPost_ret (v := .agg #[.int .i64 y', .int .i64 (m + 1), .int .i64 1]) (results_cell_row (fn := Tryz.f134) (p := 2) rfl _ _ (w.heap.size + 1) 83 #[.int .i64 y', .int .i64 (m + 1), .int .i64 1] (0, 0) _ rfl (setRow_heap _ _ _ _ _ _ HR.out) Tryz.underlying83 rfl dateSizeT) rfl ⟨rfl, below_setRow hbx (by omega) _⟩
 ·have k1 : decide (d < M) = false := decide_eq_false e1
  have k2 : decide (m < 12) = false := decide_eq_false e2
  go_wp2_with (refine wpList_store_row rfl 83 _ _ rfl (w.heap.size + 1) #[.int .i64 (y + 1), .int .i64 1, .int .i64 1] rfl rfl 83 _ HR.out dateSizeT rfl (by simp [Value.oneCell']) ?_)
  refine bodyPost_ret (v := .agg #[.int .i64 (y + 1), .int .i64 1, .int .i64 1]) (results_cell_row (fn := Tryz.f134) (p := 2) rfl _ _ (w.heap.size + 1) 83 #[.int .i64 (y + 1), .int .i64 1, .int .i64 1] (0, 0) _ rfl (setRow_heap _ _ _ _ _ _ HR.out) Tryz.underlying83 rfl dateSizeT) rfl ⟨rfl, below_setRow hbx (by omega) _⟩
theorem weekday_f (day : Int) (h0 : -100000000 ≤ day) (h1 : day ≤ 100000000) : spec_CronWeekday.f day = some ((day + 4) % 7) := by
 unfold spec_CronWeekday.f spec_floorMod.f
 rw [w64 (x := day + 4) (by omega) (by omega), floorDiv_f (day + 4) 7 (by omega) (by omega)]
 simp only [Option.bind_some]
 rw [w64 (x := 7 * ((day + 4) / 7)) (by omega) (by omega), w64 (by omega) (by omega)]
 congr 1
 omega
end Go.Proofs.YtmecbmgfacpecaaGreatDoor.CronN
namespace Go.Proofs.YtmecbmgfacpecaaGreatDoor.CronN
open Go Go.RowKit Go.Proofs.YtmecbmgfacpecaaGreatDoorW.PrintWords Go.Proofs.YtmecbmgfacpecaaGreatDoorW.PrintLast Go.Proofs.YtmecbmgfacpecaaGreatDoor.Cal Go.Proofs.YtmecbmgfacpecaaGreatDoor.Pr
set_option linter.unusedVariables false
set_option linter.unusedSimpArgs false
theorem offsetUtc_any (s : Int) (w : World) : Calls Tryz.prog 72 #[utcZone, .int .i64 s] w fun e w' => e = .returned (.int .i64 0) ∧ Below w.heap.size w w' := by
 have hd : decide ((0 : Int) < 0) = false := by decide
 unfold utcZone
 go_enter Tryz.func72, Tryz.ntmps72
 go_wp2_with fail
 go_loopw [5, 11] (fun v5 v11 wr => v5 = .int .i64 0 ∧ v11 = .int .i64 0 ∧ Below w.heap.size w wr) (fun _ _ _ => 0)
 case atStart => exact ⟨rfl, rfl, (Below.refl _ _).alloc (Nat.le_refl _) _⟩
 case round =>
  obtain ⟨rfl, rfl, hbr⟩ := hrel
  go_wp2_with fail
  go_ret
  exact ⟨rfl, hbr⟩
theorem changeUtc_any (s : Int) (w : World) : Calls Tryz.prog 86 #[utcZone, .int .i64 s] w fun e w' => e = .returned (.tuple #[.int .i64 0, .bool false]) ∧ Below w.heap.size w w' := by
 have hd : decide ((0 : Int) < 0) = false := by decide
 unfold utcZone
 go_enter Tryz.func86, Tryz.ntmps86
 go_wp2_with fail
 go_loopw [11] (fun v11 wr => v11 = .int .i64 0 ∧ Below w.heap.size w wr) (fun _ _ => 0)
 case atStart => exact ⟨rfl, (Below.refl _ _).alloc (Nat.le_refl _) _⟩
 case round =>
  obtain ⟨rfl, hbr⟩ := hrel
  go_wp2_with fail
  go_ret2
  exact ⟨rfl, hbr⟩
theorem dateSize : (Tryz.prog.info? 83).map (·.size) = some 3 := by kernel_rfl
def dateC (L : Int) : Array Value := #[.int .i64 (yearL L), .int .i64 (monthL L), .int .i64 (mdayL L)]
theorem dateC_size (L : Int) : (dateC L).size = 3 := rfl
theorem dateC_one (L : Int) : (dateC L).all (·.oneCell') = true := by simp [dateC, Value.oneCell']
theorem dayFitsC_any (S : Sets) (L : Int) (w : World) :
  Calls Tryz.prog 135 #[.agg (fieldsC S), .agg (dateC L), .int .i64 (wdL L)] w fun e w' => e = .returned (.bool (dayB S L)) ∧ Below w.heap.size w w' := by
 obtain ⟨hv, -⟩ := date_L L
 have hb := mdays_bd (yearL L) (monthL L)
 exact dayFits_any S (yearL L) (monthL L) (mdayL L) (wdL L) hv.d1 (by have := hv.d2; omega) (by unfold wdL; omega) (by unfold wdL; omega) w
theorem emptyK_fit {S : Sets} {k : Nat} (h : emptyK S k = true) {v : Nat} (h1 : loF k ≤ v) (h2 : v ≤ hiF k) (h3 : v < 63) : (bitsK S k).testBit v = false := by
 unfold emptyK emptyB eqB at h
 rw [List.all_eq_true] at h
 have := h v (List.mem_range.2 h3)
 unfold memB noSet at this
 simp [h1, h2] at this
 exact this
theorem never_fit {S : Sets} (h : neverB S = true) (x : Int) : ¬ Fits S x := by
 intro hf
 unfold neverB at h
 rw [Bool.or_eq_true, Bool.or_eq_true] at h
 have hh := hf.ho
 have hm := hf.mi
 have hs := hf.se
 unfold hourB hourL inB at hh
 unfold minB minL inB at hm
 unfold secB secL inB at hs
 rcases h with h | h | h
 ·have := emptyK_fit h (v := (x % 86400 / 3600).toNat) (by show 0 ≤ _; omega) (by show _ ≤ 23; omega) (by omega)
  rw [show S.hour.testBit (x % 86400 / 3600).toNat = false from this] at hh
  cases hh
 ·have := emptyK_fit h (v := (x % 3600 / 60).toNat) (by show 0 ≤ _; omega) (by show _ ≤ 59; omega) (by omega)
  rw [show S.min.testBit (x % 3600 / 60).toNat = false from this] at hm
  cases hm
 ·have := emptyK_fit h (v := (x % 60).toNat) (by show 0 ≤ _; omega) (by show _ ≤ 59; omega) (by omega)
  rw [show S.sec.testBit (x % 60).toNat = false from this] at hs
  cases hs
theorem NoFit.day {S : Sets} {fr D at' : Int} (h : NoFit S fr (D * 86400 + at')) (a0 : 0 ≤ at') (hd : monthB S (D * 86400) = false ∨ dayB S (D * 86400) = false ∨ NoT S at' 86400) : NoFit S fr ((D + 1) * 86400 + 0) := by
 intro x h1 h2 hf
 by_cases hx : x < D * 86400 + at'
 ·exact h x h1 hx hf
 ·have hs := same_day (L := D * 86400) (x := x) (by omega)
  rcases hd with hd | hd | hd
  ·have := hf.mo
   unfold monthB at this hd
   rw [hs.1, hd] at this
   cases this
  ·have := hf.da
   unfold dayB at this hd
   rw [hs.2.2.1, hs.2.2.2, hd] at this
   cases this
  ·refine hd (x - D * 86400) (by omega) (by omega) ⟨?_, ?_, ?_⟩
   ·have := hf.ho
    unfold hourB hourL at this
    rwa [show x % 86400 / 3600 = (x - D * 86400) / 3600 by omega] at this
   ·have := hf.mi
    unfold minB minL at this
    rwa [show x % 3600 / 60 = (x - D * 86400) % 3600 / 60 by omega] at this
   ·have := hf.se
    unfold secB secL at this
    rwa [show x % 60 = (x - D * 86400) % 60 by omega] at this
theorem NoFit.in_day {S : Sets} {fr D at' r : Int} (h : NoFit S fr (D * 86400 + at')) (a0 : 0 ≤ at') (hr : r < 86400) (hd : NoT S at' r) : NoFit S fr (D * 86400 + r) := by
 intro x h1 h2 hf
 by_cases hx : x < D * 86400 + at'
 ·exact h x h1 hx hf
 ·refine hd (x - D * 86400) (by omega) (by omega) ⟨?_, ?_, ?_⟩
  ·have := hf.ho
   unfold hourB hourL at this
   rwa [show x % 86400 / 3600 = (x - D * 86400) / 3600 by omega] at this
  ·have := hf.mi
   unfold minB minL at this
   rwa [show x % 3600 / 60 = (x - D * 86400) % 3600 / 60 by omega] at this
  ·have := hf.se
   unfold secB secL at this
   rwa [show x % 60 = (x - D * 86400) % 60 by omega] at this
theorem noFit_end {S : Sets} {fr lim D at' : Int} (h : NoFit S fr (D * 86400 + at')) (a0 : 0 ≤ at') (hy : ¬ yearL (D * 86400) ≤ lim) : Least S fr lim none := by
 intro x h1 h2 hf
 by_cases hx : x < D * 86400 + at'
 ·exact h x h1 hx hf
 ·have := year_mono (a := D * 86400) (b := x) (by omega)
  omega
def LocalAns (S : Sets) (fr lim : Int) (e : Ending) : Prop := ∃ (x : Int) (b : Bool), e = .returned (.tuple #[.int .i64 x, .bool b]) ∧ (b = true → Least S fr lim (some x)) ∧ (b = false → Least S fr lim none)
set_option maxRecDepth 100000 in
set_option maxHeartbeats 8000000 in
theorem cronLocal_any (S : Sets) (fr lim : Int) (h0 : -62135596800 ≤ fr) (h1 : fr ≤ 253402473600) (hl : lim ≤ 10010) (hl0 : yearL fr ≤ lim) (w : World) :
  Calls Tryz.prog 87 #[.agg (fieldsC S), .int .i64 fr, .int .i64 4611686018427387904, .int .i64 lim] w fun e w' =>
   LocalAns S fr lim e ∧ Below w.heap.size w w' := by
 have HNV := Lib.hid (fun w' => cronNever_any S w')
 have HFD : Hid (∀ w' : World, Calls Tryz.prog 85 #[.int .i64 fr, .int .i64 86400] w' fun e w2 => e = .returned (.int .i64 (fr / 86400)) ∧ Below w'.heap.size w' w2) := Lib.hid (fun w' => (spec_floorDiv.calls fr 86400 (fr / 86400) w' (floorDiv_f fr 86400 (by omega) (by omega))).mono fun _ _ h => ⟨h.1, drawn_below h.2⟩)
 have HDO : Hid (∀ w' : World, Calls Tryz.prog 84 #[.int .i64 (fr / 86400)] w' fun e w2 => e = .returned (.agg (dateC fr)) ∧ Below w'.heap.size w' w2) := Lib.hid (fun w' => spec_CronDateOf.calls 200 (fr / 86400) _ _ _ w' (dateOf_f fr (by omega) (by omega)))
 have HTO : Hid (∀ (L : Int) (w' : World), 0 ≤ yearL L → yearL L ≤ 20000 → Calls Tryz.prog 134 #[.agg (dateC L)] w' fun e w2 => e = .returned (.agg (dateC (dNext L))) ∧ Below w'.heap.size w' w2) := Lib.hid (fun L w' a b => tomorrow_any L w' a b)
 have HWD : Hid (∀ (D : Int) (w' : World), -100000000 ≤ D → D ≤ 100000000 → Calls Tryz.prog 129 #[.int .i64 D] w' fun e w2 => e = .returned (.int .i64 ((D + 4) % 7)) ∧ Below w'.heap.size w' w2) := Lib.hid (fun D w' a b => (spec_CronWeekday.calls D _ w' (weekday_f D a b)).mono fun _ _ h => ⟨h.1, drawn_below h.2⟩)
 have HDF := Lib.hid (fun L w' => dayFitsC_any S L w')
 have HCT := Lib.hid (fun (n : Nat) hn w' => cronTime_any S n hn w')
 go_enter Tryz.func87, Tryz.ntmps87
 have HF0 := Lib.hid (fieldsAt_new w S)
 go_wp2_with (refine wpList_load_row rfl 88 _ rfl w.heap.size rfl _ _ _ _ HF0.out Tryz.underlying88 rfl (by rw [fieldsSize, fieldsC_size]) ?_)
 refine (HNV.out _).mono ?_
 rintro e w1 ⟨rfl, hb1⟩
 have HF1 := Lib.hid (HF0.out.below hb1)
 have hB1 := below_le ((Below.refl w.heap.size w).alloc (Nat.le_refl _) _) hb1
 clear hb1
 cases hn : neverB S with
 | true =>
  go_wp2_with fail
  go_ret2
  exact ⟨⟨_, _, rfl, (fun h => by cases h), fun _ x _ _ => never_fit hn x⟩, hB1⟩
 | false =>
  go_wp2_with fail
  refine (HFD.out _).mono ?_
  rintro e w2 ⟨rfl, hb2⟩
  have HF2 := Lib.hid (HF1.out.below hb2)
  have hB2 := below_le hB1 hb2
  clear hb2 hB1
  go_wp2_with fail
  refine (HDO.out _).mono ?_
  rintro e w3 ⟨rfl, hb3⟩
  have HF3 := Lib.hid (HF2.out.below hb3)
  have hB3 := below_le hB2 hb3
  clear hb3 hB2
  go_wp2_with (refine wpList_store_row rfl 83 _ _ rfl w3.heap.size (dateC fr) rfl rfl 83 _ (heap_alloc_new w3 _) dateSize rfl (dateC_one _) ?_; generalize hX : World.setRow _ _ _ = wx; have HX := Lib.hid (show wx.heap[w3.heap.size]? = some (.cells (dateC fr) 83 (0, 0)) by rw [← hX]; exact setRow_heap _ _ _ _ _ _ (heap_alloc_new w3 _)); have HBX := Lib.hid (show Below w3.heap.size w3 wx by rw [← hX]; exact below_setRow ((Below.refl _ _).alloc (Nat.le_refl _) _) (Nat.le_refl _) _); clear hX)
  have hfrd : dateC fr = dateC (fr / 86400 * 86400) := by
   have := same_day (L := fr) (x := fr / 86400 * 86400) (by omega)
   unfold dateC
   rw [this.1, this.2.1, this.2.2.1]
  have hyf : yearL (fr / 86400 * 86400) ≤ lim := by
   have := same_day (L := fr) (x := fr / 86400 * 86400) (by omega)
   rw [this.2.1]
   exact hl0
  have HFX := Lib.hid (HF3.out.below HBX.out)
  have hBX := below_le hB3 HBX.out
  have hw3 := hB3.size
  have hX0 := Lib.hid HX.out
  rw [hfrd] at hX0
  clear HF3 HX HBX hB3 hfrd
  dsimp only [Act.put]
  go_loopw [10, 11, 12] (fun v10 v11 v12 wr => ∃ (D at' : Int) (dT : Nat), v10 = .int .i64 D ∧ v11 = .int .i64 at' ∧ v12 = .pointer (some ⟨dT, 0, none⟩) ∧ 0 ≤ at' ∧ at' < 86400 ∧ fr ≤ D * 86400 + at' ∧ fr / 86400 ≤ D ∧ yearL (D * 86400) ≤ lim + 1 ∧ Hid (NoFit S fr (D * 86400 + at')) ∧ Hid (wr.heap[dT]? = some (.cells (dateC (D * 86400)) 83 (0, 0))) ∧ w.heap.size ≤ dT ∧ Hid (FieldsAt wr w.heap.size S) ∧ Below w.heap.size w wr) (fun v10 _ _ _ => (ystart (lim + 3) - intOf v10).toNat)
  case atStart => exact ⟨fr / 86400, fr - 86400 * (fr / 86400), w3.heap.size, rfl, rfl, rfl, by omega, by omega, by omega, by omega, by omega, Lib.hid (fun x h1 h2 => by omega), hX0, hw3, HFX, hBX⟩
  case round =>
   obtain ⟨D, at', dT, rfl, rfl, rfl, a0, a1, a2, a3, a4, HNF, HD, hdT, HFA, hbr⟩ := hrel
   clear hX0 HFX hBX
   have hlt := lim_lt (L := D * 86400) (y := 10011) (by omega)
   rw [show ystart (10011 + 1) = 2937280 from by decide] at hlt
   by_cases hyl : yearL (D * 86400) ≤ lim
   ·obtain ⟨wo, hwo⟩ : ∃ wo, wo = wr := ⟨_, rfl⟩
    subst hwo
    have hd1 : decide (yearL (D * 86400) ≤ lim) = true := decide_eq_true hyl
    have hd2 : decide (86400 * D < 4611686018427387904) = true := decide_eq_true (by omega)
    have hcy : wo.cell? ⟨dT, 0, none⟩ = some (.int .i64 (yearL (D * 86400))) := cell_of_row _ _ _ _ _ _ HD.out
    have hw1 : wrap64 (86400 * D) = 86400 * D := by unfold wrap64; omega
    obtain ⟨hv, -⟩ := date_L (D * 86400)
    obtain ⟨mn, hmn⟩ : ∃ n : Nat, monthL (D * 86400) = (n : Int) := ⟨(monthL (D * 86400)).toNat, by have := hv.m1; omega⟩
    have hm1 := hv.m1
    have hm2 := hv.m2
    have hmB : memB (loF 4) (hiF 4) (bitsK S 4) mn = monthB S (D * 86400) := by
     unfold memB monthB inB loF hiF bitsK
     rw [hmn]
     simp [show 1 ≤ mn by omega, show mn ≤ 12 by omega]
    have b1 : (0 : Int) ≤ mn := by omega
    have b2 : (mn : Int) < 63 := by omega
    have hy0 : 0 ≤ yearL (D * 86400) := by have := year_one (L := D * 86400) (by omega); omega
    have hy1 : yearL (D * 86400) ≤ 20000 := by omega
    have hdn : dNext (D * 86400) = (D + 1) * 86400 := by unfold dNext; omega
    have hyn : yearL ((D + 1) * 86400) ≤ lim + 1 := by
     rw [← hdn]
     rcases dNext_date (D * 86400) with ⟨-, h⟩ | ⟨-, -, h⟩
     ·rw [h]
      have := (mNext_date (D * 86400)).2.2.2
      split at this <;> omega
     ·omega
    have hms : D < ystart (lim + 3) := by
     have h1 := lim_lt hyl
     have h2 := ystart_le (a := lim + 1) (b := lim + 3) (by omega)
     omega
    have HS1 := Lib.hid (And.intro hdn hyn)
    have HS2 := Lib.hid hms
    have hDu : D ≤ 3000000 := by omega
    have hDl : -800000 ≤ D := by omega
    clear hdn hyn hms hlt
    have hdr := HD.out
    have hfa := HFA.out
    go_upto_region 8 with fail
    cases hm : monthB S (D * 86400) with
    | false =>
     refine start_ (n := 13) (S := fun w' => w'.heap[dT]? = some (.cells (dateC (D * 86400)) 83 (0, 0)) ∧ FieldsAt w' w.heap.size S ∧ Below wo.heap.size wo w') (ds := []) #[false, false, false, false, false, false, false, false, false, false, false, false, false] (by kernel_rfl) rfl rfl ⟨hdr, hfa, (Below.refl _ _).drew⟩ (fun hHeld => ?_)
     refine pure_ (i := 0) (N := some 36) (v := ?_) (a' := ?_) #[true, false, false, false, false, false, false, false, false, false, false, false, false] rfl rfl (by kernel_rfl) (fun _ _ _ h => h) (Or.inl ⟨by rfl, ?_⟩) ?_ ?_
     rotate_left
     ·intro w'
      go_simp
      with_reducible rfl
     rotate_left
     ·simp only [Act.put, List.setIfInBounds_toArray, List.set_cons_zero, List.set_cons_succ, i64_w, i32_w]
      rfl
     refine pure_ (i := 2) (N := some 38) (v := ?_) (a' := ?_) #[true, false, true, false, false, false, false, false, false, false, false, false, false] rfl rfl (by kernel_rfl) (fun _ _ _ h => h) (Or.inl ⟨by rfl, ?_⟩) ?_ ?_
     rotate_left
     ·intro w'
      go_simp
      with_reducible rfl
     rotate_left
     ·simp only [Act.put, List.setIfInBounds_toArray, List.set_cons_zero, List.set_cons_succ, i64_w, i32_w]
      rfl
     refine pure_ (i := 3) (N := some 39) (v := ?_) (a' := ?_) #[true, false, true, true, false, false, false, false, false, false, false, false, false] rfl rfl (by kernel_rfl) (fun _ _ _ h => h) (Or.inl ⟨by rfl, ?_⟩) ?_ ?_
     rotate_left
     ·intro w'
      go_simp
      with_reducible rfl
     rotate_left
     ·simp only [Act.put, List.setIfInBounds_toArray, List.set_cons_zero, List.set_cons_succ, i64_w, i32_w]
      rfl
     refine take_ (i := 1) (N := some 37) (v := ?_) (a' := ?_) #[true, true, true, true, false, false, false, false, false, false, false, false, false] rfl rfl (by kernel_rfl) (fun _ _ _ h => h) (Or.inl ⟨by rfl, ?_⟩) hHeld ?_ ?_
     rotate_left
     ·rintro w' ⟨s0, s1, s2⟩
      have c1 : w'.cell? ⟨dT, 1, none⟩ = some (.int .i64 (mn : Int)) := (cell_of_row _ _ _ _ _ _ s0).trans (show (dateC (D * 86400))[1]? = some (.int .i64 (mn : Int)) by rw [← hmn]; rfl)
      go_simp
      with_reducible rfl
     rotate_left
     ·simp only [Act.put, List.setIfInBounds_toArray, List.set_cons_zero, List.set_cons_succ, i64_w, i32_w]
      rfl
     refine pure_ (i := 4) (N := some 40) (v := ?_) (a' := ?_) #[true, true, true, true, true, false, false, false, false, false, false, false, false] rfl rfl (by kernel_rfl) (fun _ _ _ h => h) (Or.inl ⟨by rfl, ?_⟩) ?_ ?_
     rotate_left
     ·intro w'
      go_simp
      with_reducible rfl
     rotate_left
     ·simp only [Act.put, List.setIfInBounds_toArray, List.set_cons_zero, List.set_cons_succ, i64_w, i32_w]
      rfl
     refine take_ (i := 5) (N := some 41) (v := ?_) (a' := ?_) #[true, true, true, true, true, true, false, false, false, false, false, false, false] rfl rfl (by kernel_rfl) (fun _ _ _ h => h) (Or.inl ⟨by rfl, ?_⟩) hHeld ?_ ?_
     rotate_left
     ·rintro w' ⟨s0, s1, s2⟩
      have c5 : w'.cell? ⟨w.heap.size, 257 + mn, none⟩ = some (.bool (monthB S (D * 86400))) := by { have := s1.at_ 4 mn (by omega) (by omega); rw [show 4 * 64 + (mn + 1) = 257 + mn by omega] at this; rw [this, hmB] }
      rw [hm] at c5
      go_simp
      with_reducible rfl
     rotate_left
     ·simp only [Act.put, List.setIfInBounds_toArray, List.set_cons_zero, List.set_cons_succ, i64_w, i32_w]
      rfl
     refine pure_ (i := 6) (N := some 42) (v := ?_) (a' := ?_) #[true, true, true, true, true, true, true, false, false, false, false, false, false] rfl rfl (by kernel_rfl) (fun _ _ _ h => h) (Or.inl ⟨by rfl, ?_⟩) ?_ ?_
     rotate_left
     ·intro w'
      go_simp
      with_reducible rfl
     rotate_left
     ·simp only [Act.put, List.setIfInBounds_toArray, List.set_cons_zero, List.set_cons_succ, i64_w, i32_w]
      rfl
     refine pure_ (i := 7) (N := some 43) (v := undef) (a' := ?_) #[true, true, true, true, true, true, true, true, false, false, false, false, false] rfl rfl (by kernel_rfl) (fun _ _ _ h => h) (Or.inr ⟨by rfl, rfl⟩) ?_ ?_
     rotate_left
     ·simp only [Act.put, List.setIfInBounds_toArray, List.set_cons_zero, List.set_cons_succ, i64_w, i32_w]
      rfl
     refine pure_ (i := 8) (N := some 44) (v := undef) (a' := ?_) #[true, true, true, true, true, true, true, true, true, false, false, false, false] rfl rfl (by kernel_rfl) (fun _ _ _ h => h) (Or.inr ⟨by rfl, rfl⟩) ?_ ?_
     rotate_left
     ·simp only [Act.put, List.setIfInBounds_toArray, List.set_cons_zero, List.set_cons_succ, i64_w, i32_w]
      rfl
     refine pure_ (i := 9) (N := some 45) (v := undef) (a' := ?_) #[true, true, true, true, true, true, true, true, true, true, false, false, false] rfl rfl (by kernel_rfl) (fun _ _ _ h => h) (Or.inr ⟨by rfl, rfl⟩) ?_ ?_
     rotate_left
     ·simp only [Act.put, List.setIfInBounds_toArray, List.set_cons_zero, List.set_cons_succ, i64_w, i32_w]
      rfl
     refine pure_ (i := 10) (N := some 46) (v := undef) (a' := ?_) #[true, true, true, true, true, true, true, true, true, true, true, false, false] rfl rfl (by kernel_rfl) (fun _ _ _ h => h) (Or.inr ⟨by rfl, rfl⟩) ?_ ?_
     rotate_left
     ·simp only [Act.put, List.setIfInBounds_toArray, List.set_cons_zero, List.set_cons_succ, i64_w, i32_w]
      rfl
     refine pure_ (i := 11) (N := some 47) (v := undef) (a' := ?_) #[true, true, true, true, true, true, true, true, true, true, true, true, false] rfl rfl (by kernel_rfl) (fun _ _ _ h => h) (Or.inr ⟨by rfl, rfl⟩) ?_ ?_
     rotate_left
     ·simp only [Act.put, List.setIfInBounds_toArray, List.set_cons_zero, List.set_cons_succ, i64_w, i32_w]
      rfl
     refine pure_ (i := 12) (N := some 48) (v := ?_) (a' := ?_) #[true, true, true, true, true, true, true, true, true, true, true, true, true] rfl rfl (by kernel_rfl) (fun _ _ _ h => h) (Or.inl ⟨by rfl, ?_⟩) ?_ ?_
     rotate_left
     ·intro w'
      go_simp
      with_reducible rfl
     rotate_left
     ·simp only [Act.put, List.setIfInBounds_toArray, List.set_cons_zero, List.set_cons_succ, i64_w, i32_w]
      rfl
     refine done_ (by kernel_rfl) ?_
     have HNX := Lib.hid (NoFit.day HNF.out a0 (.inl hm))
     obtain ⟨hT0, hT1, hT2⟩ := hHeld
     generalize hwz : wo.drew = wz at *
     have HT := Lib.hid hT0
     have HTF := Lib.hid hT1
     have hTB := below_le hbr hT2
     clear hT0 hT1 hT2 hwz
     have hwp1 : wrap64 (D + 1) = D + 1 := by unfold wrap64; omega
     go_upto_region 15 with (go_big_may; refine wpList_load_row rfl 83 _ rfl dT rfl _ _ _ _ HT.out Tryz.underlying83 rfl dateSize ?_)
     dsimp only [Act.put]
     go_upto_region 7 with (go_big_may; refine wpList_store_row rfl 83 _ _ rfl wz.heap.size (dateC (D * 86400)) rfl rfl 83 _ (heap_alloc_new wz _) dateSize rfl (dateC_one _) ?_; generalize hY : World.setRow _ _ _ = wy; have HY := Lib.hid (show wy.heap[wz.heap.size]? = some (.cells (dateC (D * 86400)) 83 (0, 0)) by rw [← hY]; exact setRow_heap _ _ _ _ _ _ (heap_alloc_new wz _)); have HBY := Lib.hid (show Below wz.heap.size wz wy by rw [← hY]; exact below_setRow ((Below.refl _ _).alloc (Nat.le_refl _) _) (Nat.le_refl _) _); clear hY)
     have HYF := Lib.hid (HTF.out.below HBY.out)
     have hYB := below_le hTB HBY.out
     have hws : w.heap.size < wz.heap.size := (Array.getElem?_eq_some_iff.1 (show wz.heap[w.heap.size]? = _ from HTF.out)).1
     clear HT HTF HBY hTB
     dsimp only [Act.put]
     go_wp2_with (refine wpList_load_row rfl 83 _ rfl wz.heap.size rfl _ _ _ _ HY.out Tryz.underlying83 rfl dateSize ?_)
     refine (HTO.out (D * 86400) _ hy0 hy1).mono ?_
     rintro e w5 ⟨rfl, hb5⟩
     have HZ := Lib.hid ((hb5.block _ (Array.getElem?_eq_some_iff.1 HY.out).1).trans HY.out)
     have HZF := Lib.hid (HYF.out.below hb5)
     have hZB := below_le hYB hb5
     clear hb5 HY HYF hYB
     dsimp only
     go_wp2_with (refine wpList_store_row rfl 83 _ _ rfl wz.heap.size (dateC (dNext (D * 86400))) rfl rfl 83 _ HZ.out dateSize ((dateC_size (D * 86400)).trans (dateC_size (dNext (D * 86400))).symm) (dateC_one _) ?_; generalize hV : World.setRow _ _ _ = wv; have HV := Lib.hid (show wv.heap[wz.heap.size]? = some (.cells (dateC (dNext (D * 86400))) 83 (0, 0)) by rw [← hV]; exact setRow_heap _ _ _ _ _ _ HZ.out); have HVF := Lib.hid (show FieldsAt wv w.heap.size S by rw [← hV]; exact (setRow_other _ _ _ _ (Nat.ne_of_lt hws)).trans HZF.out); have HVB := Lib.hid (show Below w.heap.size w wv by rw [← hV]; exact below_setRow hZB (Nat.le_of_lt hws) _); clear hV)
     dsimp only [Act.put]
     go_simp
     obtain ⟨hdn, hyn⟩ := HS1.out
     have HV' := Lib.hid HV.out
     rw [hdn] at HV'
     exact ⟨⟨u8, u9, _, _, _, ⟨D + 1, rfl, 0, rfl, wz.heap.size, rfl, by omega, by omega, by omega, by omega, hyn, HNX, HV', Nat.le_of_lt hws, HVB.out⟩, rfl, rfl, rfl, rfl, rfl⟩, by show max (ystart (lim + 3) - (D + 1)) 0 < ystart (lim + 3) - D; have := HS2.out; omega⟩
    | true =>
     have HDFD : Hid (∀ w' : World, Calls Tryz.prog 135 #[.agg (fieldsC S), .agg (dateC (D * 86400)), .int .i64 ((D + 4) % 7)] w' fun e w2 => e = .returned (.bool (dayB S (D * 86400))) ∧ Below w'.heap.size w' w2) := Lib.hid (fun w' => by
      have := HDF.out (D * 86400) w'
      rw [show wdL (D * 86400) = (D + 4) % 7 by unfold wdL dayL; omega] at this
      exact this)
     refine start_ (n := 13) (S := fun w' => w'.heap[dT]? = some (.cells (dateC (D * 86400)) 83 (0, 0)) ∧ FieldsAt w' w.heap.size S ∧ Below wo.heap.size wo w') (ds := []) #[false, false, false, false, false, false, false, false, false, false, false, false, false] (by kernel_rfl) rfl rfl ⟨hdr, hfa, (Below.refl _ _).drew⟩ (fun hHeld => ?_)
     refine pure_ (i := 0) (N := some 36) (v := ?_) (a' := ?_) #[true, false, false, false, false, false, false, false, false, false, false, false, false] rfl rfl (by kernel_rfl) (fun _ _ _ h => h) (Or.inl ⟨by rfl, ?_⟩) ?_ ?_
     rotate_left
     ·intro w'
      go_simp
      with_reducible rfl
     rotate_left
     ·simp only [Act.put, List.setIfInBounds_toArray, List.set_cons_zero, List.set_cons_succ, i64_w, i32_w]
      rfl
     refine pure_ (i := 2) (N := some 38) (v := ?_) (a' := ?_) #[true, false, true, false, false, false, false, false, false, false, false, false, false] rfl rfl (by kernel_rfl) (fun _ _ _ h => h) (Or.inl ⟨by rfl, ?_⟩) ?_ ?_
     rotate_left
     ·intro w'
      go_simp
      with_reducible rfl
     rotate_left
     ·simp only [Act.put, List.setIfInBounds_toArray, List.set_cons_zero, List.set_cons_succ, i64_w, i32_w]
      rfl
     refine pure_ (i := 3) (N := some 39) (v := ?_) (a' := ?_) #[true, false, true, true, false, false, false, false, false, false, false, false, false] rfl rfl (by kernel_rfl) (fun _ _ _ h => h) (Or.inl ⟨by rfl, ?_⟩) ?_ ?_
     rotate_left
     ·intro w'
      go_simp
      with_reducible rfl
     rotate_left
     ·simp only [Act.put, List.setIfInBounds_toArray, List.set_cons_zero, List.set_cons_succ, i64_w, i32_w]
      rfl
     refine take_ (i := 1) (N := some 37) (v := ?_) (a' := ?_) #[true, true, true, true, false, false, false, false, false, false, false, false, false] rfl rfl (by kernel_rfl) (fun _ _ _ h => h) (Or.inl ⟨by rfl, ?_⟩) hHeld ?_ ?_
     rotate_left
     ·rintro w' ⟨s0, s1, s2⟩
      have c1 : w'.cell? ⟨dT, 1, none⟩ = some (.int .i64 (mn : Int)) := (cell_of_row _ _ _ _ _ _ s0).trans (show (dateC (D * 86400))[1]? = some (.int .i64 (mn : Int)) by rw [← hmn]; rfl)
      go_simp
      with_reducible rfl
     rotate_left
     ·simp only [Act.put, List.setIfInBounds_toArray, List.set_cons_zero, List.set_cons_succ, i64_w, i32_w]
      rfl
     refine pure_ (i := 4) (N := some 40) (v := ?_) (a' := ?_) #[true, true, true, true, true, false, false, false, false, false, false, false, false] rfl rfl (by kernel_rfl) (fun _ _ _ h => h) (Or.inl ⟨by rfl, ?_⟩) ?_ ?_
     rotate_left
     ·intro w'
      go_simp
      with_reducible rfl
     rotate_left
     ·simp only [Act.put, List.setIfInBounds_toArray, List.set_cons_zero, List.set_cons_succ, i64_w, i32_w]
      rfl
     refine take_ (i := 5) (N := some 41) (v := ?_) (a' := ?_) #[true, true, true, true, true, true, false, false, false, false, false, false, false] rfl rfl (by kernel_rfl) (fun _ _ _ h => h) (Or.inl ⟨by rfl, ?_⟩) hHeld ?_ ?_
     rotate_left
     ·rintro w' ⟨s0, s1, s2⟩
      have c5 : w'.cell? ⟨w.heap.size, 257 + mn, none⟩ = some (.bool (monthB S (D * 86400))) := by { have := s1.at_ 4 mn (by omega) (by omega); rw [show 4 * 64 + (mn + 1) = 257 + mn by omega] at this; rw [this, hmB] }
      rw [hm] at c5
      go_simp
      with_reducible rfl
     rotate_left
     ·simp only [Act.put, List.setIfInBounds_toArray, List.set_cons_zero, List.set_cons_succ, i64_w, i32_w]
      rfl
     refine pure_ (i := 6) (N := some 42) (v := ?_) (a' := ?_) #[true, true, true, true, true, true, true, false, false, false, false, false, false] rfl rfl (by kernel_rfl) (fun _ _ _ h => h) (Or.inl ⟨by rfl, ?_⟩) ?_ ?_
     rotate_left
     ·intro w'
      go_simp
      with_reducible rfl
     rotate_left
     ·simp only [Act.put, List.setIfInBounds_toArray, List.set_cons_zero, List.set_cons_succ, i64_w, i32_w]
      rfl
     refine pure_ (i := 9) (N := some 45) (v := ?_) (a' := ?_) #[true, true, true, true, true, true, true, false, false, true, false, false, false] rfl rfl (by kernel_rfl) (fun _ _ _ h => h) (Or.inl ⟨by rfl, ?_⟩) ?_ ?_
     rotate_left
     ·intro w'
      go_simp
      with_reducible rfl
     rotate_left
     ·simp only [Act.put, List.setIfInBounds_toArray, List.set_cons_zero, List.set_cons_succ, i64_w, i32_w]
      rfl
     refine take_ (i := 7) (N := some 43) (v := ?_) (a' := ?_) #[true, true, true, true, true, true, true, true, false, true, false, false, false] rfl rfl (by kernel_rfl) (fun _ _ _ h => h) (Or.inl ⟨by rfl, ?_⟩) hHeld ?_ ?_
     rotate_left
     ·rintro w' ⟨s0, s1, s2⟩
      refine exec_load_row _ _ w' 88 (.tmp 4) ?_ w.heap.size ?_ _ _ _ _ s1 Tryz.underlying88 rfl (by rw [fieldsSize, fieldsC_size])
      ·rfl
      ·rfl
     rotate_left
     ·simp only [Act.put, List.setIfInBounds_toArray, List.set_cons_zero, List.set_cons_succ, i64_w, i32_w]
      rfl
     refine take_ (i := 8) (N := some 44) (v := ?_) (a' := ?_) #[true, true, true, true, true, true, true, true, true, true, false, false, false] rfl rfl (by kernel_rfl) (fun _ _ _ h => h) (Or.inl ⟨by rfl, ?_⟩) hHeld ?_ ?_
     rotate_left
     ·rintro w' ⟨s0, s1, s2⟩
      refine exec_load_row _ _ w' 83 (.tmp 12) ?_ dT ?_ _ _ _ _ s0 Tryz.underlying83 rfl (dateSize)
      ·rfl
      ·rfl
     rotate_left
     ·simp only [Act.put, List.setIfInBounds_toArray, List.set_cons_zero, List.set_cons_succ, i64_w, i32_w]
      rfl
     refine one_ (i := 10) (N := some 46) #[true, true, true, true, true, true, true, true, true, true, true, false, false] rfl rfl (by kernel_rfl) (by decide) (fun K hK => ?_)
     refine goes_ Tryz.func129 (by kernel_rfl) rfl #[.int .i64 D] (by rfl) rfl rfl (by simp only [List.map_toArray, List.map_cons, List.map_nil]; rfl) ?_
     with_reducible refine (HWD.out D _ (by omega) (by omega)).mono ?_
     rintro e10 x10 ⟨rfl, hb10⟩
     refine ⟨_, rfl, ?_⟩
     refine hK.out _ _ ⟨(hb10.block _ (Array.getElem?_eq_some_iff.1 hHeld.1).1).trans hHeld.1, hHeld.2.1.below hb10, below_le hHeld.2.2 hb10⟩ (fun hHeld => ?_)
     clear hK K
     refine norm_ (a' := ?_) ?_ ?_
     rotate_left
     ·show Act.put _ (some 46) _ = _
      simp only [Act.put, List.setIfInBounds_toArray, List.set_cons_zero, List.set_cons_succ, i64_w, i32_w]
      rfl
     refine one_ (i := 11) (N := some 47) #[true, true, true, true, true, true, true, true, true, true, true, true, false] rfl rfl (by kernel_rfl) (by decide) (fun K hK => ?_)
     refine goes_ Tryz.func135 (by kernel_rfl) rfl #[.agg (fieldsC S), .agg (dateC (D * 86400)), .int .i64 ((D + 4) % 7)] (by rfl) rfl rfl (by simp only [List.map_toArray, List.map_cons, List.map_nil]; rfl) ?_
     with_reducible refine (HDFD.out _).mono ?_
     rintro e11 x11 ⟨rfl, hb11⟩
     refine ⟨_, rfl, ?_⟩
     refine hK.out _ _ ⟨(hb11.block _ (Array.getElem?_eq_some_iff.1 hHeld.1).1).trans hHeld.1, hHeld.2.1.below hb11, below_le hHeld.2.2 hb11⟩ (fun hHeld => ?_)
     clear hK K
     refine norm_ (a' := ?_) ?_ ?_
     rotate_left
     ·show Act.put _ (some 47) _ = _
      simp only [Act.put, List.setIfInBounds_toArray, List.set_cons_zero, List.set_cons_succ, i64_w, i32_w]
      rfl
     refine pure_ (i := 12) (N := some 48) (v := ?_) (a' := ?_) #[true, true, true, true, true, true, true, true, true, true, true, true, true] rfl rfl (by kernel_rfl) (fun _ _ _ h => h) (Or.inl ⟨by rfl, ?_⟩) ?_ ?_
     rotate_left
     ·intro w'
      go_simp
      with_reducible rfl
     rotate_left
     ·simp only [Act.put, List.setIfInBounds_toArray, List.set_cons_zero, List.set_cons_succ, i64_w, i32_w]
      rfl
     refine done_ (by kernel_rfl) ?_
     cases hdb : dayB S (D * 86400) with
     | false =>
      have HNX := Lib.hid (NoFit.day HNF.out a0 (.inr (.inl hdb)))
      obtain ⟨hT0, hT1, hT2⟩ := hHeld
      generalize hwz : x11 = wz at *
      have HT := Lib.hid hT0
      have HTF := Lib.hid hT1
      have hTB := below_le hbr hT2
      clear hT0 hT1 hT2 hwz
      have hwp1 : wrap64 (D + 1) = D + 1 := by unfold wrap64; omega
      go_upto_region 15 with (go_big_may; refine wpList_load_row rfl 83 _ rfl dT rfl _ _ _ _ HT.out Tryz.underlying83 rfl dateSize ?_)
      dsimp only [Act.put]
      go_upto_region 7 with (go_big_may; refine wpList_store_row rfl 83 _ _ rfl wz.heap.size (dateC (D * 86400)) rfl rfl 83 _ (heap_alloc_new wz _) dateSize rfl (dateC_one _) ?_; generalize hY : World.setRow _ _ _ = wy; have HY := Lib.hid (show wy.heap[wz.heap.size]? = some (.cells (dateC (D * 86400)) 83 (0, 0)) by rw [← hY]; exact setRow_heap _ _ _ _ _ _ (heap_alloc_new wz _)); have HBY := Lib.hid (show Below wz.heap.size wz wy by rw [← hY]; exact below_setRow ((Below.refl _ _).alloc (Nat.le_refl _) _) (Nat.le_refl _) _); clear hY)
      have HYF := Lib.hid (HTF.out.below HBY.out)
      have hYB := below_le hTB HBY.out
      have hws : w.heap.size < wz.heap.size := (Array.getElem?_eq_some_iff.1 (show wz.heap[w.heap.size]? = _ from HTF.out)).1
      clear HT HTF HBY hTB
      dsimp only [Act.put]
      go_wp2_with (refine wpList_load_row rfl 83 _ rfl wz.heap.size rfl _ _ _ _ HY.out Tryz.underlying83 rfl dateSize ?_)
      refine (HTO.out (D * 86400) _ hy0 hy1).mono ?_
      rintro e w5 ⟨rfl, hb5⟩
      have HZ := Lib.hid ((hb5.block _ (Array.getElem?_eq_some_iff.1 HY.out).1).trans HY.out)
      have HZF := Lib.hid (HYF.out.below hb5)
      have hZB := below_le hYB hb5
      clear hb5 HY HYF hYB
      dsimp only
      go_wp2_with (refine wpList_store_row rfl 83 _ _ rfl wz.heap.size (dateC (dNext (D * 86400))) rfl rfl 83 _ HZ.out dateSize ((dateC_size (D * 86400)).trans (dateC_size (dNext (D * 86400))).symm) (dateC_one _) ?_; generalize hV : World.setRow _ _ _ = wv; have HV := Lib.hid (show wv.heap[wz.heap.size]? = some (.cells (dateC (dNext (D * 86400))) 83 (0, 0)) by rw [← hV]; exact setRow_heap _ _ _ _ _ _ HZ.out); have HVF := Lib.hid (show FieldsAt wv w.heap.size S by rw [← hV]; exact (setRow_other _ _ _ _ (Nat.ne_of_lt hws)).trans HZF.out); have HVB := Lib.hid (show Below w.heap.size w wv by rw [← hV]; exact below_setRow hZB (Nat.le_of_lt hws) _); clear hV)
      dsimp only [Act.put]
      go_simp
      obtain ⟨hdn, hyn⟩ := HS1.out
      have HV' := Lib.hid HV.out
      rw [hdn] at HV'
      exact ⟨⟨u8, u9, _, _, _, ⟨D + 1, rfl, 0, rfl, wz.heap.size, rfl, by omega, by omega, by omega, by omega, hyn, HNX, HV', Nat.le_of_lt hws, HVB.out⟩, rfl, rfl, rfl, rfl, rfl⟩, by show max (ystart (lim + 3) - (D + 1)) 0 < ystart (lim + 3) - D; have := HS2.out; omega⟩
     | true =>
      have HT := Lib.hid hHeld.1
      have HTF := Lib.hid hHeld.2.1
      have HTB := Lib.hid hHeld.2.2
      clear hHeld
      go_upto_region 10 with (go_big_may; refine wpList_load_row rfl 88 _ rfl w.heap.size rfl _ _ _ _ HTF.out Tryz.underlying88 rfl (by rw [fieldsSize, fieldsC_size]) ?_)
      obtain ⟨n, rfl⟩ : ∃ n : Nat, at' = (n : Int) := ⟨at'.toNat, by omega⟩
      refine (HCT.out n (by omega) _).mono ?_
      rintro e w7 ⟨⟨r, rfl, hr, hrn⟩, hb7⟩
      have hHeld : w7.heap[dT]? = some (.cells (dateC (D * 86400)) 83 (0, 0)) ∧ FieldsAt w7 w.heap.size S ∧ Below wo.heap.size wo w7 := ⟨(hb7.block _ (Array.getElem?_eq_some_iff.1 HT.out).1).trans HT.out, HTF.out.below hb7, below_le HTB.out hb7⟩
      have HR := Lib.hid hr
      have HRN := Lib.hid hrn
      clear HT HTF HTB hb7 hr hrn
      dsimp only
      by_cases hr0 : 0 ≤ r
      ·have hdr0 : decide (0 ≤ r) = true := decide_eq_true hr0
       have hdr1 : decide (r ≥ 0) = true := decide_eq_true hr0
       have hrB := below_le hbr hHeld.2.2
       clear hHeld
       have hr' := HR.out hr0
       have hwr : wrap64 (86400 * D + r) = 86400 * D + r := by unfold wrap64; omega
       go_wp2_with fail
       go_ret2
       rw [show 86400 * D + r = D * 86400 + r by omega]
       have hrn := HRN.out
       rw [if_pos hr0] at hrn
       refine ⟨⟨_, _, rfl, (fun _ => ⟨by omega, ?_, NoFit.in_day HNF.out a0 (by omega) hrn, ?_⟩), (fun h => absurd (of_decide_eq_false h) (by omega))⟩, hrB⟩
       rotate_left
       ·have := same_day (L := D * 86400) (x := D * 86400 + r) (by omega)
        rw [this.2.1]
        exact hyl
       ·have hk := keep_day hm hdb (x := D * 86400 + r) (by omega)
        obtain ⟨q0, q1, q2, q3, q4⟩ := hr'
        refine ⟨hk.1, hk.2.1, ?_, ?_, ?_⟩
        ·unfold hourB hourL
         rw [show (D * 86400 + r) % 86400 / 3600 = r / 3600 by omega]
         exact q2
        ·unfold minB minL
         rw [show (D * 86400 + r) % 3600 / 60 = r % 3600 / 60 by omega]
         exact q3
        ·unfold secB secL
         rw [show (D * 86400 + r) % 60 = r % 60 by omega]
         exact q4
      ·have hdr0 : decide (0 ≤ r) = false := decide_eq_false hr0
       have hdr1 : decide (r ≥ 0) = false := decide_eq_false hr0
       have hrn := HRN.out
       rw [if_neg hr0] at hrn
       have HNX := Lib.hid (NoFit.day HNF.out a0 (.inr (.inr hrn)))
       clear hrn
       obtain ⟨hT0, hT1, hT2⟩ := hHeld
       generalize hwz : w7 = wz at *
       have HT := Lib.hid hT0
       have HTF := Lib.hid hT1
       have hTB := below_le hbr hT2
       clear hT0 hT1 hT2 hwz
       have hwp1 : wrap64 (D + 1) = D + 1 := by unfold wrap64; omega
       go_upto_region 15 with (go_big_may; refine wpList_load_row rfl 83 _ rfl dT rfl _ _ _ _ HT.out Tryz.underlying83 rfl dateSize ?_)
       dsimp only [Act.put]
       go_upto_region 7 with (go_big_may; refine wpList_store_row rfl 83 _ _ rfl wz.heap.size (dateC (D * 86400)) rfl rfl 83 _ (heap_alloc_new wz _) dateSize rfl (dateC_one _) ?_; generalize hY : World.setRow _ _ _ = wy; have HY := Lib.hid (show wy.heap[wz.heap.size]? = some (.cells (dateC (D * 86400)) 83 (0, 0)) by rw [← hY]; exact setRow_heap _ _ _ _ _ _ (heap_alloc_new wz _)); have HBY := Lib.hid (show Below wz.heap.size wz wy by rw [← hY]; exact below_setRow ((Below.refl _ _).alloc (Nat.le_refl _) _) (Nat.le_refl _) _); clear hY)
       have HYF := Lib.hid (HTF.out.below HBY.out)
       have hYB := below_le hTB HBY.out
       have hws : w.heap.size < wz.heap.size := (Array.getElem?_eq_some_iff.1 (show wz.heap[w.heap.size]? = _ from HTF.out)).1
       clear HT HTF HBY hTB
       dsimp only [Act.put]
       go_wp2_with (refine wpList_load_row rfl 83 _ rfl wz.heap.size rfl _ _ _ _ HY.out Tryz.underlying83 rfl dateSize ?_)
       refine (HTO.out (D * 86400) _ hy0 hy1).mono ?_
       rintro e w5 ⟨rfl, hb5⟩
       have HZ := Lib.hid ((hb5.block _ (Array.getElem?_eq_some_iff.1 HY.out).1).trans HY.out)
       have HZF := Lib.hid (HYF.out.below hb5)
       have hZB := below_le hYB hb5
       clear hb5 HY HYF hYB
       dsimp only
       go_wp2_with (refine wpList_store_row rfl 83 _ _ rfl wz.heap.size (dateC (dNext (D * 86400))) rfl rfl 83 _ HZ.out dateSize ((dateC_size (D * 86400)).trans (dateC_size (dNext (D * 86400))).symm) (dateC_one _) ?_; generalize hV : World.setRow _ _ _ = wv; have HV := Lib.hid (show wv.heap[wz.heap.size]? = some (.cells (dateC (dNext (D * 86400))) 83 (0, 0)) by rw [← hV]; exact setRow_heap _ _ _ _ _ _ HZ.out); have HVF := Lib.hid (show FieldsAt wv w.heap.size S by rw [← hV]; exact (setRow_other _ _ _ _ (Nat.ne_of_lt hws)).trans HZF.out); have HVB := Lib.hid (show Below w.heap.size w wv by rw [← hV]; exact below_setRow hZB (Nat.le_of_lt hws) _); clear hV)
       dsimp only [Act.put]
       go_simp
       obtain ⟨hdn, hyn⟩ := HS1.out
       have HV' := Lib.hid HV.out
       rw [hdn] at HV'
       exact ⟨⟨u8, u9, _, _, _, ⟨D + 1, rfl, 0, rfl, wz.heap.size, rfl, by omega, by omega, by omega, by omega, hyn, HNX, HV', Nat.le_of_lt hws, HVB.out⟩, rfl, rfl, rfl, rfl, rfl⟩, by show max (ystart (lim + 3) - (D + 1)) 0 < ystart (lim + 3) - D; have := HS2.out; omega⟩
   ·have hd1 : decide (yearL (D * 86400) ≤ lim) = false := decide_eq_false hyl
    have hcy : wr.cell? ⟨dT, 0, none⟩ = some (.int .i64 (yearL (D * 86400))) := cell_of_row _ _ _ _ _ _ HD.out
    go_wp2_with fail
    all_goals
     go_ret2
     exact ⟨⟨_, _, rfl, (fun h => by cases h), fun _ => noFit_end HNF.out a0 (by omega)⟩, hbr⟩
end Go.Proofs.YtmecbmgfacpecaaGreatDoor.CronN
namespace Go.Proofs.YtmecbmgfacpecaaGreatDoor.CronN
open Go Go.RowKit Go.Proofs.YtmecbmgfacpecaaGreatDoorW.PrintWords Go.Proofs.YtmecbmgfacpecaaGreatDoorW.PrintLast Go.Proofs.YtmecbmgfacpecaaGreatDoor.Cal Go.Proofs.YtmecbmgfacpecaaGreatDoor.Pr
set_option linter.unusedVariables false
set_option linter.unusedSimpArgs false
theorem run_field_date (y m d : Value) (w : World) : (Instr.field 83 (.agg #[y, m, d]) 0).run Tryz.prog w = .ok y w := by kernel_rfl
def NextAns (S : Sets) (fr lim : Int) (e : Ending) : Prop := ∃ r : Option Int, Least S fr lim r ∧ e = .returned (.tuple #[.agg (ansI 0 r), .bool r.isSome])
theorem next_some {S : Sets} {fr lim x : Int} {g : Ending} (h0 : -62135596800 ≤ fr) (hl : lim ≤ 10010) (h : Least S fr lim (some x)) (e : g = .returned (.tuple #[.agg #[.int .i64 (wrap64 x), .int .i64 0], .bool true])) : NextAns S fr lim g := by
 have h1 := lim_lt (L := x) (y := 10011) (by have := h.2.2.2; omega)
 rw [show ystart (10011 + 1) = 2937280 from by decide] at h1
 have h2 := h.1
 have hw : wrap64 x = x := by unfold wrap64; omega
 refine ⟨some x, h, ?_⟩
 rw [e, hw]
 show Ending.returned (.tuple #[.agg #[.int .i64 x, .int .i64 0], .bool true]) = .returned (.tuple #[.agg #[.int .i64 (x - 0), .int .i64 0], .bool true])
 rw [Int.sub_zero]
set_option maxRecDepth 100000 in
set_option maxHeartbeats 8000000 in
theorem cronNext_utc (S : Sets) (sec nano : Int) (h0 : -62135596800 ≤ sec) (h1 : sec ≤ 253402300799) (w : World) :
  Calls Tryz.prog 40 #[.agg (fieldsC S), .agg #[.int .i64 sec, .int .i64 nano], utcZone] w fun e w' =>
   NextAns S (sec + 1) (yearL (sec + 1) + 5) e ∧ Below w.heap.size w w' := by
 have hlim : yearL (sec + 1) + 5 ≤ 10010 := by have := year_top (L := sec + 1) (by omega); omega
 have HOF := Lib.hid (fun w' => offsetUtc_any (sec + 1) w')
 have HCH := Lib.hid (fun w' => changeUtc_any (sec + 1) w')
 have HFD : Hid (∀ w' : World, Calls Tryz.prog 85 #[.int .i64 (sec + 1), .int .i64 86400] w' fun e w2 => e = .returned (.int .i64 ((sec + 1) / 86400)) ∧ Below w'.heap.size w' w2) := Lib.hid (fun w' => (spec_floorDiv.calls (sec + 1) 86400 ((sec + 1) / 86400) w' (floorDiv_f (sec + 1) 86400 (by omega) (by omega))).mono fun _ _ h => ⟨h.1, drawn_below h.2⟩)
 have HDO : Hid (∀ w' : World, Calls Tryz.prog 84 #[.int .i64 ((sec + 1) / 86400)] w' fun e w2 => e = .returned (.agg (dateC (sec + 1))) ∧ Below w'.heap.size w' w2) := Lib.hid (fun w' => spec_CronDateOf.calls 200 ((sec + 1) / 86400) _ _ _ w' (dateOf_f (sec + 1) (by omega) (by omega)))
 have HLO := Lib.hid (fun w' => cronLocal_any S (sec + 1) (yearL (sec + 1) + 5) (by omega) (by omega) hlim (by omega) w')
 have hw1 : wrap64 (sec + 1) = sec + 1 := by unfold wrap64; omega
 have hw2 : wrap64 (yearL (sec + 1) + 5) = yearL (sec + 1) + 5 := by have := year_one (L := sec + 1) (by omega); unfold wrap64; omega
 unfold utcZone at HOF HCH ⊢
 go_enter Tryz.func40, Tryz.ntmps40
 go_upto_region 1 with fail
 generalize hW : World.alloc (World.alloc (World.alloc (World.alloc w _) _) _) _ = wo
 have hr0 : wo.heap[w.heap.size]? = some (.cells (fieldsC S) 88 (0, 0)) := by
  rw [← hW, Below.heap_alloc _ _ _ (by simp; try omega), Below.heap_alloc _ _ _ (by simp; try omega), Below.heap_alloc _ _ _ (by simp)]
  exact heap_alloc_new w _
 have hr1 : wo.heap[w.heap.size + 1]? = some (.cells #[.int .i64 sec, .int .i64 nano] 50 (0, 0)) := by
  rw [← hW, Below.heap_alloc _ _ _ (by simp; try omega), Below.heap_alloc _ _ _ (by simp)]
  exact heap_two w _ _
 have hr2 : wo.heap[w.heap.size + 1 + 1]? = some (.cells #[.slice none 0 0, .slice none 0 0, .slice none 0 0, .slice none 0 0] 71 (0, 0)) := by
  rw [← hW, Below.heap_alloc _ _ _ (by simp)]
  have := heap_two (w.alloc (.cells (fieldsC S) 88)) (.cells #[.int .i64 sec, .int .i64 nano] 50) (.cells #[.slice none 0 0, .slice none 0 0, .slice none 0 0, .slice none 0 0] 71)
  rw [show (w.alloc (.cells (fieldsC S) 88)).heap.size = w.heap.size + 1 by simp] at this
  exact this
 have hres : wo.heap[w.heap.size + 1 + 1 + 1]? = some (.cells #[.int .i64 0, .int .i64 0] 50 (0, 0)) := by
  rw [← hW]
  have := heap_two ((w.alloc (.cells (fieldsC S) 88)).alloc (.cells #[.int .i64 sec, .int .i64 nano] 50)) (.cells #[.slice none 0 0, .slice none 0 0, .slice none 0 0, .slice none 0 0] 71) (.cells #[.int .i64 0, .int .i64 0] 50)
  rw [show ((w.alloc (.cells (fieldsC S) 88)).alloc (.cells #[.int .i64 sec, .int .i64 nano] 50)).heap.size = w.heap.size + 1 + 1 by simp] at this
  exact this
 have hB : Below w.heap.size w wo := by
  rw [← hW]
  exact ((((Below.refl _ _).alloc (Nat.le_refl _) _).alloc (by simp) _).alloc (by simp only [World.alloc]; simp; try omega) _).alloc (by simp; try omega) _
 clear hW
 have hcs : wo.cell? ⟨w.heap.size + 1, 0, none⟩ = some (.int .i64 sec) := cell_of_row _ _ _ _ _ _ hr1
 have HR0 := Lib.hid hr0
 have HR2 := Lib.hid hr2
 have HRS := Lib.hid hres
 have HLM := Lib.hid hlim
 clear hr0 hr1 hr2 hres hlim
 have HK0 : Hid (∀ w' : World, Below wo.heap.size wo w' → w'.heap[w.heap.size]? = some (.cells (fieldsC S) 88 (0, 0))) := Lib.hid (fun w' hb => (hb.block _ (Array.getElem?_eq_some_iff.1 HR0.out).1).trans HR0.out)
 have HK2 : Hid (∀ w' : World, Below wo.heap.size wo w' → w'.heap[w.heap.size + 1 + 1]? = some (.cells #[.slice none 0 0, .slice none 0 0, .slice none 0 0, .slice none 0 0] 71 (0, 0))) := Lib.hid (fun w' hb => (hb.block _ (Array.getElem?_eq_some_iff.1 HR2.out).1).trans HR2.out)
 have HKS : Hid (∀ w' : World, Below wo.heap.size wo w' → w'.heap[w.heap.size + 1 + 1 + 1]? = some (.cells #[.int .i64 0, .int .i64 0] 50 (0, 0))) := Lib.hid (fun w' hb => (hb.block _ (Array.getElem?_eq_some_iff.1 HRS.out).1).trans HRS.out)
 have HSZ := Lib.hid (show w.heap.size + 3 < wo.heap.size from (Array.getElem?_eq_some_iff.1 HRS.out).1)
 clear HR0 HRS
 go_wp2_with (refine wpList_load_row rfl 71 _ rfl (w.heap.size + 1 + 1) rfl _ _ _ _ HR2.out Tryz.underlying71 rfl zoneSize ?_)
 refine (HOF.out _).mono ?_
 rintro e w1 ⟨rfl, hb1⟩
 have HB1 := Lib.hid hb1
 clear hb1 HR2
 dsimp only
 go_wp2_with fail
 refine (HFD.out _).mono ?_
 rintro e w2 ⟨rfl, hb2⟩
 have HB2 := Lib.hid (below_le HB1.out hb2)
 clear hb2 HB1
 dsimp only
 go_wp2_with fail
 refine (HDO.out _).mono ?_
 rintro e w3 ⟨rfl, hb3⟩
 have HB3 := Lib.hid (below_le HB2.out hb3)
 clear hb3 HB2
 have hfd := fun w' => run_field_date (.int .i64 (yearL (sec + 1))) (.int .i64 (monthL (sec + 1))) (.int .i64 (mdayL (sec + 1))) w'
 unfold dateC
 dsimp only
 go_wp2_with fail
 go_loopw [8] (fun v8 wr => v8 = .int .i64 (sec + 1) ∧ Hid (Below wo.heap.size wo wr)) (fun _ _ => 0)
 case atStart => exact ⟨rfl, HB3⟩
 case round =>
  obtain ⟨rfl, HBr⟩ := hrel
  clear HB3
  have HZ2 := Lib.hid (HK2.out _ HBr.out)
  go_upto_region 4 with (go_big_may; refine wpList_load_row rfl 71 _ rfl (w.heap.size + 1 + 1) rfl _ _ _ _ HZ2.out Tryz.underlying71 rfl zoneSize ?_)
  refine (HOF.out _).mono ?_
  rintro e w4 ⟨rfl, hb4⟩
  have HB4 := Lib.hid (below_le HBr.out hb4)
  clear hb4 HBr HZ2
  have HZ3 := Lib.hid (HK2.out _ HB4.out)
  dsimp only
  go_upto_region 6 with (go_big_may; refine wpList_load_row rfl 71 _ rfl (w.heap.size + 1 + 1) rfl _ _ _ _ HZ3.out Tryz.underlying71 rfl zoneSize ?_)
  refine (HCH.out _).mono ?_
  rintro e w5 ⟨rfl, hb5⟩
  have HB5 := Lib.hid (below_le HB4.out hb5)
  clear hb5 HB4 HZ3
  have HZ4 := Lib.hid (HK0.out _ HB5.out)
  dsimp only
  go_upto_region 9 with (go_big_may; refine wpList_load_row rfl 88 _ rfl w.heap.size rfl _ _ _ _ HZ4.out Tryz.underlying88 rfl (by rw [fieldsSize, fieldsC_size]) ?_)
  refine (HLO.out _).mono ?_
  rintro e w6 ⟨⟨x, b, rfl, hb, hbn⟩, hb6⟩
  have HB6 := Lib.hid (below_le HB5.out hb6)
  have HX := Lib.hid hb
  have HXN := Lib.hid hbn
  clear hb6 HB5 HZ4 hb hbn
  dsimp only
  have HRW := Lib.hid (HKS.out _ HB6.out)
  have hsz : w.heap.size ≤ w.heap.size + 1 + 1 + 1 := by omega
  have HW := Lib.hid (below_le hB HB6.out)
  cases b with
  | true =>
   go_wp2_with (refine wpList_store_row rfl 50 _ _ rfl (w.heap.size + 1 + 1 + 1) (#[.int .i64 (wrap64 x), .int .i64 0]) rfl rfl 50 _ HRW.out instSize rfl (by simp [Value.oneCell']) ?_)
   refine bodyPost_ret (v := .tuple #[.agg #[.int .i64 (wrap64 x), .int .i64 0], .bool true]) ?_ rfl ⟨next_some (by omega) HLM.out (HX.out trivial) rfl, ?_⟩
   ·exact results_inst (fn := Tryz.f40) (p := 6) (u := 7) rfl _ _ (w.heap.size + 1 + 1 + 1) _ rfl rfl (setRow_heap _ _ _ _ _ _ HRW.out)
   ·exact below_setRow HW.out hsz _
  | false =>
   go_wp2_with (refine wpList_store_row rfl 50 _ _ rfl (w.heap.size + 1 + 1 + 1) (#[.int .i64 0, .int .i64 0]) rfl rfl 50 _ HRW.out instSize rfl (by simp [Value.oneCell']) ?_)
   refine bodyPost_ret (v := .tuple #[.agg #[.int .i64 0, .int .i64 0], .bool false]) ?_ rfl ⟨⟨none, HXN.out trivial, rfl⟩, ?_⟩
   ·exact results_inst (fn := Tryz.f40) (p := 6) (u := 7) rfl _ _ (w.heap.size + 1 + 1 + 1) _ rfl rfl (setRow_heap _ _ _ _ _ _ HRW.out)
   ·exact below_setRow HW.out hsz _
def NextOld (S : Sets) (fr lim : Int) (e : Ending) : Prop := ∃ (x y : Int) (b : Bool), e = .returned (.tuple #[.agg #[.int .i64 x, .int .i64 y], .bool b]) ∧ (b = true → ∃ y, fr ≤ y ∧ yearL y ≤ lim ∧ Fits S y)
theorem NextAns.old {S : Sets} {fr lim : Int} {e : Ending} (h : NextAns S fr lim e) : NextOld S fr lim e := by
 obtain ⟨r, h1, rfl⟩ := h
 cases r with
 | none => exact ⟨0, 0, false, rfl, fun h => by cases h⟩
 | some L => exact ⟨L - 0, 0, true, rfl, fun _ => ⟨L, h1.1, h1.2.2.2, h1.2.1⟩⟩
end Go.Proofs.YtmecbmgfacpecaaGreatDoor.CronN
