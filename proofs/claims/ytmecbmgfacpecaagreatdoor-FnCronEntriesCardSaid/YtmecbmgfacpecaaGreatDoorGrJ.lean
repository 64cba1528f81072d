/- Lemmas and walks on the way to the law, merged by wip/tools/pack.py: Scr4, Scr5, Scr6, Scr7, Scr8, Scr9. Conditions: none. -/
import Derived.Test.YtmecbmgfacpecaaGreatDoorGrI
set_option linter.unusedVariables false
set_option linter.unusedSimpArgs false
namespace Go.Proofs.YtmecbmgfacpecaaGreatDoor.Scr
open Go Go.RowKit Go.Proofs.YtmecbmgfacpecaaGreatDoor.Sched Go.Proofs.YtmecbmgfacpecaaGreatDoor.Cal Go.Proofs.YtmecbmgfacpecaaGreatDoorW.PrintWords Go.Proofs.YtmecbmgfacpecaaGreatDoorW.PrintLast Go.MuLone
theorem entrySize : (Tryz.prog.info? 131).map (·.size) = some 10 := by kernel_rfl
theorem info_entry : ∃ i, Tryz.prog.info? 131 = some i ∧ i.size = 10 ∧ i.bytes = 104 ∧ ∃ z, i.zero = some z := by
 have h1 : (Tryz.prog.info? 131).map (fun i => (i.size, i.bytes, i.zero.isSome)) = some (10, 104, true) := by kernel_rfl
 cases h : Tryz.prog.info? 131 with
 | none => rw [h] at h1; cases h1
 | some i =>
  rw [h] at h1;simp only [Option.map_some, Option.some.injEq, Prod.mk.injEq] at h1;exact ⟨i, rfl, h1.1, h1.2.1, Option.isSome_iff_exists.1 h1.2.2⟩
def rowsOf (E : Nat → Array Value) (j : Nat) : List Value := (List.range j).flatMap fun i => (E i).toList
theorem rowsOf_len (E : Nat → Array Value) (n : Nat) (hE : ∀ i, i < n → (E i).size = 10) : ∀ j, j ≤ n → (rowsOf E j).length = j * 10 := by
 intro j;induction j with
 | zero => intro _; rfl
 | succ j ih =>
  intro hj;have := ih (by omega);unfold rowsOf at this ⊢
  rw [List.range_succ, List.flatMap_append, List.length_append, this];simp [hE j (by omega)];omega
theorem rowsOf_succ (E : Nat → Array Value) (j : Nat) : rowsOf E (j + 1) = rowsOf E j ++ (E j).toList := by
 unfold rowsOf;rw [List.range_succ, List.flatMap_append];simp
def fillRow (E : Nat → Array Value) (Z : Array Value) (j : Nat) : Array Value := (rowsOf E j ++ Z.toList.drop (j * 10)).toArray
theorem fillRow_size (E : Nat → Array Value) (Z : Array Value) (n : Nat) (hZ : Z.size = n * 10) (hE : ∀ i, i < n → (E i).size = 10) (j : Nat) (hj : j ≤ n) : (fillRow E Z j).size = n * 10 := by
 unfold fillRow;simp only [List.size_toArray, List.length_append, rowsOf_len E n hE j hj, List.length_drop, Array.length_toList, hZ];have : j * 10 ≤ n * 10 := Nat.mul_le_mul_right _ hj;omega
theorem fillRow_step (E : Nat → Array Value) (Z : Array Value) (n : Nat) (hZ : Z.size = n * 10) (hE : ∀ i, i < n → (E i).size = 10) (j : Nat) (hj : j < n) :
  ((fillRow E Z j).toList.take (j * 10) ++ (E j).toList ++ (fillRow E Z j).toList.drop (j * 10 + (E j).size)).toArray = fillRow E Z (j + 1) := by
 have hl := rowsOf_len E n hE j (by omega);unfold fillRow;congr 1
 rw [rowsOf_succ, hE j hj];show List.take (j * 10) (rowsOf E j ++ List.drop (j * 10) Z.toList) ++ (E j).toList ++ List.drop (j * 10 + 10) (rowsOf E j ++ List.drop (j * 10) Z.toList) = _
 rw [← hl, List.take_left, List.drop_append, List.drop_drop, hl];have e1 : List.drop (j * 10 + 10) (rowsOf E j) = [] := List.drop_eq_nil_of_le (by rw [hl]; omega);rw [e1];congr 2
 show List.drop _ _ = _
 congr 1
 omega
def Ents (w : World) (B : Nat) (v : Value) (n : Nat) (ps : List Value) (E : Nat → Array Value) : Prop :=
 w.ownsRow B 258 1 v n ps ∧ ∀ i, i < n → (E i).size = 10 ∧ (E i).all (·.oneCell') = true ∧ ∃ b, ps[i]? = some (.pointer (some ⟨b, 0, none⟩)) ∧ w.heap[b]? = some (.cells (E i) 131 (0, 0))
theorem Ents.below {w w' : World} {B : Nat} {v : Value} {n : Nat} {ps : List Value} {E : Nat → Array Value} (h : Ents w B v n ps E) (hb : Below w.heap.size w w') : Ents w' B v n ps E := by
 refine ⟨ownsRow_same h.1 (fun b hv => hb.block b (h.1.lt b hv).2), fun i hi => ?_⟩;obtain ⟨h1, h2, b, h3, h4⟩ := h.2 i hi;exact ⟨h1, h2, b, h3, (hb.block b (Array.getElem?_eq_some_iff.1 h4).1).trans h4⟩
set_option maxRecDepth 100000 in
set_option maxHeartbeats 4000000 in
theorem snapshot_any (o : Int) (g B : Nat) (v : Value) (n : Nat) (hn : n ≤ 1000) (ps : List Value) (E : Nat → Array Value) (k m : Int) (w : World) (hg : w.heap[g]? = some (.cells (cronCells o v k m) 214 (0, 0)))
  (hE : Ents w B v n ps E) :
  Calls Tryz.prog 117 #[.pointer (some ⟨g, 0, none⟩)] w fun e w' => ∃ h, e = .returned (.slice (some ⟨h, 0, none⟩) n n) ∧ w.heap.size ≤ h ∧ w'.heap[h]? = some (.cells (rowsOf E n).toArray 131 (0, 0)) ∧ Below w.heap.size w w' := by
 have c0 : w.cell? ⟨g, 0, none⟩ = some v := cell_of_row _ _ _ _ _ _ hg;have hgl : g < w.heap.size := (Array.getElem?_eq_some_iff.1 hg).1;obtain ⟨i, hi, hs, hy, z, hz⟩ := info_entry;obtain ⟨Z, hZ⟩ : ∃ Z, Z = madeCells z.cells (n * 10) := ⟨_, rfl⟩
 have hZs : Z.size = n * 10 := by rw [hZ]; exact size_madeCells _ _
 have hmk : ∀ w' : World, (Instr.makeSlice 123 (.int .i64 (n : Int)) (.int .i64 (n : Int))).run Tryz.prog w' = .ok (.slice (some ⟨w'.heap.size, 0, none⟩) n n) (w'.alloc (.cells Z 131)) := by
  intro w';have := run_make (P := Tryz.prog) w' 123 131 i z Tryz.underlying123 hi hz .i64 .i64 n n (by omega) (by omega) (by rw [hy]; omega) (by omega);rw [this, hs, Int.toNat_natCast, hZ]
 clear hi hs hy hz hZ
 obtain ⟨A, cap, hv, hA⟩ : ∃ A cap, v = .slice A n cap ∧ (0 < n → ∃ q, A = some ⟨q, 0, none⟩) := by
  rcases hE.1.2 with ⟨h1, h2⟩ | ⟨q, cap, cur, h1, _⟩
  ·exact ⟨none, 0, by rw [h1, h2], fun h => by omega⟩
  ·exact ⟨_, cap, h1, fun _ => ⟨q, rfl⟩⟩
 have HE := Lib.hid hE;subst hv;clear hE hg;go_enter Tryz.func117, Tryz.ntmps117;go_wp2_with fail
 have hr0 : Hid ((w.alloc (.cells Z 131)).heap[w.heap.size]? = some (.cells (fillRow E Z 0) 131 (0, 0))) := Lib.hid (by
  have e : fillRow E Z 0 = Z := by simp [fillRow, rowsOf]
  rw [e];exact heap_alloc_new w _)
 have hb0 : Below w.heap.size w (w.alloc (.cells Z 131)) := (Below.refl _ _).alloc (Nat.le_refl _) _;go_loopw [17] (fun v17 wr => ∃ j : Nat, v17 = .int .i64 j ∧ j ≤ n ∧ Hid (wr.heap[w.heap.size]? = some (.cells (fillRow E Z j) 131 (0, 0))) ∧ Below w.heap.size w wr) (fun v17 _ => n - (intOf v17).toNat)
 case atStart => exact ⟨0, rfl, by omega, hr0, hb0⟩
 case round =>
  obtain ⟨j, rfl, hj, HR, hbr⟩ := hrel;clear hr0 hb0;by_cases hjn : j < n
  ·obtain ⟨q, rfl⟩ := hA (by omega);obtain ⟨h10, h1c, b, hps, hbw⟩ := HE.out.2 j hjn
   have cj : wr.cell? ⟨q, j, none⟩ = some (.pointer (some ⟨b, 0, none⟩)) := by
    have hc := HE.out.1.cells (g := q) rfl j _ hps;have hq := (HE.out.1.lt q rfl).2;rw [Addr.add_mid, Nat.zero_add] at hc;exact (hbr.cell (p := ⟨q, j, none⟩) hq).trans hc
   have HBW := Lib.hid ((hbr.block b (Array.getElem?_eq_some_iff.1 hbw).1).trans hbw);have H10 := Lib.hid h10;have H1C := Lib.hid h1c;have HFS := Lib.hid (fillRow_size E Z n hZs (fun i hi => (HE.out.2 i hi).1) j (by omega));have HST := Lib.hid (fillRow_step E Z n hZs (fun i hi => (HE.out.2 i hi).1) j hjn);have hjl : (j : Int) < n := by omega
   have hj0 : (0 : Int) ≤ j := by omega
   clear hps hbw h10 h1c hmk;obtain ⟨Ej, hEj⟩ : ∃ Ej, Ej = E j := ⟨_, rfl⟩
   rw [← hEj] at HBW H10 H1C HST
   clear hEj;have hd : decide ((j : Int) < n) = true := decide_eq_true hjl;go_wp2_with (first | (refine wpList_load_row rfl 131 _ rfl b rfl _ _ _ _ HBW.out Tryz.underlying131 rfl (by rw [entrySize, H10.out]) ?_) | (refine wpList_store_at rfl 131 _ _ rfl w.heap.size (j * 10) Ej rfl rfl 131 _ HR.out (by rw [entrySize, H10.out]) (by rw [HFS.out, H10.out]; omega) H1C.out ?_))
   refine ⟨⟨j + 1, by push_cast; rfl, by omega, Lib.hid ?_, below_setRow hbr (Nat.le_refl _) _⟩, by simp [intOf]; omega⟩;rw [← List.append_assoc, HST.out];exact setRow_heap _ _ _ _ _ _ HR.out
  ·obtain rfl : j = n := by omega
   have hd : decide ((j : Int) < j) = false := decide_eq_false (by omega);go_wp2_with fail
   go_ret;refine ⟨w.heap.size, rfl, Nat.le_refl _, ?_, hbr⟩
   have e : fillRow E Z j = (rowsOf E j).toArray := by
    unfold fillRow;rw [List.drop_eq_nil_of_le (by simp [hZs]), List.append_nil]
   rw [← e];exact HR.out
set_option maxRecDepth 100000 in
set_option maxHeartbeats 4000000 in
theorem entries_any (o : Int) (g B : Nat) (v : Value) (n : Nat) (hn : n ≤ 1000) (ps : List Value) (E : Nat → Array Value) (k : Int) (w : World) (hg : w.heap[g]? = some (.cells (cronCells o v k 0) 214 (0, 0)))
  (hE : Ents w B v n ps E) :
  Calls Tryz.prog 53 #[.pointer (some ⟨g, 0, none⟩)] w fun e w' => ∃ h, e = .returned (.slice (some ⟨h, 0, none⟩) n n) ∧ w.heap.size ≤ h ∧ w'.heap[h]? = some (.cells (rowsOf E n).toArray 131 (0, 0)) ∧ Below w.heap.size w w' := by
 have hg0 := hg;unfold cronCells at hg0;have c7 : w.cell? ⟨g, 7, none⟩ = some (.int .i32 0) := cell_of_row _ _ _ _ _ _ hg0;have c6 : w.cell? ⟨g, 6, none⟩ = some (.bool false) := cell_of_row _ _ _ _ _ _ hg0;have f7 : w.frozen? ⟨g, 7, none⟩ = false := by simp [World.frozen?, hg0]
 have hgl : g < w.heap.size := (Array.getElem?_eq_some_iff.1 hg).1;have HG := Lib.hid hg;have HE := Lib.hid hE;have hg1 : (w.setCell ⟨g, 7, none⟩ (.int .i32 1)).heap[g]? = some (.cells (cronCells o v k 1) 214 (0, 0)) := heap_setCell_same _ _ _ _ _ _ hg;have hk1 : ∀ c, c ≠ g → (w.setCell ⟨g, 7, none⟩ (.int .i32 1)).heap[c]? = w.heap[c]? := fun c hc => heap_setCell_other _ _ _ _ hc
 have hogne := own_ne hE.1 hg (by decide)
 have hE1 : Ents (w.setCell ⟨g, 7, none⟩ (.int .i32 1)) B v n ps E := by
  refine ⟨ownsRow_same hE.1 (fun b hb => hk1 b (fun h => hogne (by rw [← h]; exact hb))), fun i hi => ?_⟩;obtain ⟨h1, h2, b, h3, h4⟩ := hE.2 i hi;refine ⟨h1, h2, b, h3, (hk1 b (fun h => ?_)).trans h4⟩;subst h;rw [hg] at h4;simp only [Option.some.injEq, Obj.cells.injEq] at h4;exact absurd h4.2.1 (by decide)
 have HS := Lib.hid (snapshot_any o g B v n hn ps E k 1 _ hg1 hE1);have HG1 := Lib.hid hg1;have HK1 := Lib.hid hk1;clear hg hg0 hE hg1 hk1 hE1 hogne;go_enter_defers Tryz.func53, Tryz.ntmps53;go_wp2_with (first | (go_at_call 114; refine (lock_free Tryz.muLib ⟨g, 7, none⟩ _ c7 f7).mono ?_; rintro e w' ⟨rfl, rfl⟩) | (go_at_call 117; refine HS.out.mono ?_; rintro e w2 ⟨h, rfl, hh, hrow, hb2⟩; have HH := Lib.hid hh; have HR := Lib.hid hrow; have HB2 := Lib.hid hb2; clear hh hrow hb2))
 have hs1 : (w.setCell ⟨g, 7, none⟩ (.int .i32 1)).heap.size = w.heap.size := by simp
 have hg2 : w2.heap[g]? = some (.cells (cronCells o v k 1) 214 (0, 0)) := (HB2.out.block g (by rw [hs1]; exact hgl)).trans HG1.out;have hhg : h ≠ g := by have := HH.out; omega
 refine leaves_cons (f := 115) (args := #[.pointer (some ⟨g, 7, none⟩)]) (by simp) (by simp [go_sem]) ?_;refine (unlock_deferred Tryz.muLib ⟨g, 7, none⟩ .returning _ (cell_of_row _ _ _ _ _ _ hg2) (by simp [World.frozen?, hg2])).mono ?_;rintro e u' w'' ⟨rfl, rfl, rfl⟩;refine ⟨_, results_tmp rfl _ _ _, h, rfl, by have := HH.out; omega, ?_, ⟨HB2.out.os, HB2.out.tape, HB2.out.output, ?_, ?_⟩⟩
 ·rw [heap_setCell_other _ _ _ _ hhg];exact HR.out
 ·have := HB2.out.size;simp at this ⊢
  exact this
 ·intro c hc;by_cases hcg : c = g
  ·subst hcg;rw [HG.out];exact heap_setCell_same _ _ _ _ _ _ hg2
  ·rw [heap_setCell_other _ _ _ _ hcg, HB2.out.block c (by rw [hs1]; exact hc), HK1.out c hcg]
theorem rowsOf_range (E : Nat → Array Value) (n : Nat) (hE : ∀ i, i < n → (E i).size = 10) {w : World} {h : Nat} {t : TypeId} {fr : Nat × Nat} (hw : w.heap[h]? = some (.cells (rowsOf E n).toArray t fr)) (j : Nat) (hj : j < n) : w.rangeAt h (j * 10) (E j).toList := by
 intro i x hx
 have hi : i < 10 := by
  have := (List.getElem?_eq_some_iff.1 hx).1;rw [Array.length_toList, hE j hj] at this;exact this
 rw [cell_of_row w h (j * 10 + i) _ t fr hw]
 have key : ∀ m, j < m → m ≤ n → (rowsOf E m)[j * 10 + i]? = some x := by
  intro m;induction m with
  | zero => intro h; omega
  | succ m ih =>
   intro h1 h2;have hl := rowsOf_len E n hE m (by omega);rw [rowsOf_succ];by_cases hm : j < m
   ·rw [List.getElem?_append_left (by rw [hl]; omega)];exact ih hm (by omega)
   ·obtain rfl : j = m := by omega
    rw [List.getElem?_append_right (by rw [hl]; omega), hl];rw [show j * 10 + i - j * 10 = i by omega];exact hx
 simpa using key n hj (Nat.le_refl _)
set_option maxRecDepth 100000 in
set_option maxHeartbeats 4000000 in
theorem find_any (o : Int) (g B : Nat) (v : Value) (n : Nat) (hn : n ≤ 1000) (ps : List Value) (E : Nat → Array Value) (k : Int) (w : World) (hg : w.heap[g]? = some (.cells (cronCells o v k 0) 214 (0, 0)))
  (hE : Ents w B v n ps E) (hID : ∀ i, i < n → (E i)[0]? = some (.int .i64 ((i : Int) + 1))) (k0 : Nat) (hk0 : k0 < n) :
  Calls Tryz.prog 55 #[.pointer (some ⟨g, 0, none⟩), .int .i64 ((k0 : Int) + 1)] w fun e w' => e = .returned (.agg (E k0)) ∧ Below w.heap.size w w' := by
 have HE := Lib.hid (fun ob => (entries_any o g B v n hn ps E k (w.alloc ob) ((((Below.refl _ _).alloc (Nat.le_refl _) _).block g (Array.getElem?_eq_some_iff.1 hg).1).trans hg) (hE.below ((Below.refl _ _).alloc (Nat.le_refl _) _))));have HEN := Lib.hid hE.2;have HID := Lib.hid hID;clear hg hE hID;go_enter Tryz.func55, Tryz.ntmps55;go_wp2_with fail
 refine (HE.out _).mono ?_;rintro e w2 ⟨h, rfl, hh, hrow, hb2⟩;have hres : w2.heap[w.heap.size]? = some (.cells (entryCells 0 .nilIface .nilIface .nilIface) 131 (0, 0)) := (hb2.block w.heap.size (by simp)).trans (heap_alloc_new w _);have hbel : Below w.heap.size w w2 := below_of_le ((Below.refl _ _).alloc (Nat.le_refl _) _) hb2;have hhw : w.heap.size + 1 ≤ h := by simpa using hh
 go_wp2_with fail
 have HR0 := Lib.hid hrow;have HS0 := Lib.hid hres;clear hrow hres hb2 HE hh;go_loopw [10] (fun v10 wr => ∃ j : Nat, v10 = .int .i64 j ∧ j ≤ k0 ∧ Hid (wr.heap[h]? = some (.cells (rowsOf E n).toArray 131 (0, 0))) ∧ Hid (wr.heap[w.heap.size]? = some (.cells (entryCells 0 .nilIface .nilIface .nilIface) 131 (0, 0))) ∧ Below w.heap.size w wr) (fun v10 _ => n - (intOf v10).toNat)
 case atStart => exact ⟨0, rfl, by omega, HR0, HS0, hbel⟩
 case round =>
  obtain ⟨j, rfl, hj, HR, HS, hbr⟩ := hrel;clear HR0 HS0 hbel;have hjn : j < n := by omega
  obtain ⟨h10, h1c, -⟩ := HEN.out j hjn;have hid := HID.out j hjn;have HRG := Lib.hid (rowsOf_range E n (fun i hi => (HEN.out i hi).1) HR.out j hjn);obtain ⟨Ej, hEj⟩ : ∃ Ej, Ej = E j := ⟨_, rfl⟩
  rw [← hEj] at h10 h1c hid HRG
  have HEJ := Lib.hid hEj;have H10 := Lib.hid h10;have H1C := Lib.hid h1c;have HI := Lib.hid hid;have hhl := Lib.hid (show h < wr.heap.size from (Array.getElem?_eq_some_iff.1 HR.out).1);have hwl := Lib.hid (show w.heap.size < wr.heap.size from (Array.getElem?_eq_some_iff.1 HS.out).1);clear h10 h1c hid hEj;have hjl : (j : Int) < n := by omega
  have hj0 : (0 : Int) ≤ j := by omega
  have hd : decide ((j : Int) < n) = true := decide_eq_true hjl;by_cases hjk : j = k0
  ·subst hjk;go_wp2_with (first | (refine wpList_load_mid rfl 131 _ rfl h (j * 10) rfl Ej.toList _ HRG.out Tryz.underlying131 rfl (by rw [entrySize, Array.length_toList, H10.out]) ?_) | (refine wpList_store_row rfl 131 _ _ rfl wr.heap.size Ej rfl rfl 131 _ (heap_alloc_new wr _) (by rw [entrySize, H10.out]) (by rw [H10.out]; rfl) H1C.out ?_; generalize hX : World.setRow _ _ _ = wx; have HX := Lib.hid (show wx.heap[wr.heap.size]? = some (.cells Ej 131 (0, 0)) by rw [← hX]; exact setRow_heap _ _ _ _ _ _ (heap_alloc_new wr _)); have HBX := Lib.hid (show Below wr.heap.size wr wx by rw [← hX]; exact below_setRow ((Below.refl _ _).alloc (Nat.le_refl _) _) (Nat.le_refl _) _); have e0 : wx.cell? ⟨wr.heap.size, 0, none⟩ = some (.int .i64 ((j : Int) + 1)) := (cell_of_row _ _ _ _ _ _ HX.out).trans HI.out; clear hX) | (refine wpList_load_row rfl 131 _ rfl wr.heap.size rfl _ _ _ _ HX.out Tryz.underlying131 rfl (by rw [entrySize, H10.out]) ?_) | (refine wpList_store_row rfl 131 _ _ rfl w.heap.size Ej rfl rfl 131 _ ((HBX.out.block _ hwl.out).trans HS.out) (by rw [entrySize, H10.out]) (by rw [H10.out]; rfl) H1C.out ?_))
   refine bodyPost_ret (v := .agg Ej) ?_ rfl ⟨by rw [HEJ.out], ?_⟩
   ·exact results_cell_row (fn := Tryz.f55) (p := 4) rfl _ _ w.heap.size _ _ _ _ rfl (setRow_heap _ _ _ _ _ _ ((HBX.out.block _ hwl.out).trans HS.out)) Tryz.underlying131 rfl (by rw [entrySize, H10.out])
   ·exact below_setRow (below_of_le hbr HBX.out) (Nat.le_refl _) _
  ·have hne : ((k0 : Int) + 1 == (j : Int) + 1) = false := by simp; omega
   go_wp2_with (first | (refine wpList_load_mid rfl 131 _ rfl h (j * 10) rfl Ej.toList _ HRG.out Tryz.underlying131 rfl (by rw [entrySize, Array.length_toList, H10.out]) ?_) | (refine wpList_store_row rfl 131 _ _ rfl wr.heap.size Ej rfl rfl 131 _ (heap_alloc_new wr _) (by rw [entrySize, H10.out]) (by rw [H10.out]; rfl) H1C.out ?_; generalize hX : World.setRow _ _ _ = wx; have HX := Lib.hid (show wx.heap[wr.heap.size]? = some (.cells Ej 131 (0, 0)) by rw [← hX]; exact setRow_heap _ _ _ _ _ _ (heap_alloc_new wr _)); have HBX := Lib.hid (show Below wr.heap.size wr wx by rw [← hX]; exact below_setRow ((Below.refl _ _).alloc (Nat.le_refl _) _) (Nat.le_refl _) _); have e0 : wx.cell? ⟨wr.heap.size, 0, none⟩ = some (.int .i64 ((j : Int) + 1)) := (cell_of_row _ _ _ _ _ _ HX.out).trans HI.out; clear hX))
   refine ⟨⟨j + 1, by push_cast; rfl, by omega, Lib.hid ((HBX.out.block _ hhl.out).trans HR.out), Lib.hid ((HBX.out.block _ hwl.out).trans HS.out), below_of_le hbr HBX.out⟩, by simp [intOf]; omega⟩
set_option maxRecDepth 100000 in
set_option maxHeartbeats 4000000 in
theorem find_none (o : Int) (g B : Nat) (v : Value) (n : Nat) (hn : n ≤ 1000) (ps : List Value) (E : Nat → Array Value) (k : Int) (w : World) (hg : w.heap[g]? = some (.cells (cronCells o v k 0) 214 (0, 0)))
  (hE : Ents w B v n ps E) (hID : ∀ i, i < n → (E i)[0]? = some (.int .i64 ((i : Int) + 1))) (x : Int) (hx : ∀ i : Nat, i < n → x ≠ (i : Int) + 1) :
  Calls Tryz.prog 55 #[.pointer (some ⟨g, 0, none⟩), .int .i64 x] w fun e w' => e = .returned (.agg (entryCells 0 .nilIface .nilIface .nilIface)) ∧ Below w.heap.size w w' := by
 have HE := Lib.hid (fun ob => (entries_any o g B v n hn ps E k (w.alloc ob) ((((Below.refl _ _).alloc (Nat.le_refl _) _).block g (Array.getElem?_eq_some_iff.1 hg).1).trans hg) (hE.below ((Below.refl _ _).alloc (Nat.le_refl _) _))));have HEN := Lib.hid hE.2;have HID := Lib.hid hID;clear hg hE hID;go_enter Tryz.func55, Tryz.ntmps55;go_wp2_with fail
 refine (HE.out _).mono ?_;rintro e w2 ⟨h, rfl, hh, hrow, hb2⟩;have hres : w2.heap[w.heap.size]? = some (.cells (entryCells 0 .nilIface .nilIface .nilIface) 131 (0, 0)) := (hb2.block w.heap.size (by simp)).trans (heap_alloc_new w _);have hbel : Below w.heap.size w w2 := below_of_le ((Below.refl _ _).alloc (Nat.le_refl _) _) hb2;have hhw : w.heap.size + 1 ≤ h := by simpa using hh
 go_wp2_with fail
 have HR0 := Lib.hid hrow;have HS0 := Lib.hid hres;clear hrow hres hb2 HE hh;go_loopw [10] (fun v10 wr => ∃ j : Nat, v10 = .int .i64 j ∧ j ≤ n ∧ Hid (wr.heap[h]? = some (.cells (rowsOf E n).toArray 131 (0, 0))) ∧ Hid (wr.heap[w.heap.size]? = some (.cells (entryCells 0 .nilIface .nilIface .nilIface) 131 (0, 0))) ∧ Below w.heap.size w wr) (fun v10 _ => n - (intOf v10).toNat)
 case atStart => exact ⟨0, rfl, by omega, HR0, HS0, hbel⟩
 case round =>
  obtain ⟨j, rfl, hj, HR, HS, hbr⟩ := hrel;clear HR0 HS0 hbel;by_cases hjn : j < n
  ·obtain ⟨h10, h1c, -⟩ := HEN.out j hjn;have hid := HID.out j hjn;have HRG := Lib.hid (rowsOf_range E n (fun i hi => (HEN.out i hi).1) HR.out j hjn);obtain ⟨Ej, hEj⟩ : ∃ Ej, Ej = E j := ⟨_, rfl⟩
   rw [← hEj] at h10 h1c hid HRG
   have HEJ := Lib.hid hEj;have H10 := Lib.hid h10;have H1C := Lib.hid h1c;have HI := Lib.hid hid;have hhl := Lib.hid (show h < wr.heap.size from (Array.getElem?_eq_some_iff.1 HR.out).1);have hwl := Lib.hid (show w.heap.size < wr.heap.size from (Array.getElem?_eq_some_iff.1 HS.out).1);clear h10 h1c hid hEj;have hjl : (j : Int) < n := by omega
   have hj0 : (0 : Int) ≤ j := by omega
   have hd : decide ((j : Int) < n) = true := decide_eq_true hjl;have hne : (x == (j : Int) + 1) = false := by rw [beq_eq_false_iff_ne]; exact hx j hjn
   go_wp2_with (first | (refine wpList_load_mid rfl 131 _ rfl h (j * 10) rfl Ej.toList _ HRG.out Tryz.underlying131 rfl (by rw [entrySize, Array.length_toList, H10.out]) ?_) | (refine wpList_store_row rfl 131 _ _ rfl wr.heap.size Ej rfl rfl 131 _ (heap_alloc_new wr _) (by rw [entrySize, H10.out]) (by rw [H10.out]; rfl) H1C.out ?_; generalize hX : World.setRow _ _ _ = wx; have HX := Lib.hid (show wx.heap[wr.heap.size]? = some (.cells Ej 131 (0, 0)) by rw [← hX]; exact setRow_heap _ _ _ _ _ _ (heap_alloc_new wr _)); have HBX := Lib.hid (show Below wr.heap.size wr wx by rw [← hX]; exact below_setRow ((Below.refl _ _).alloc (Nat.le_refl _) _) (Nat.le_refl _) _); have e0 : wx.cell? ⟨wr.heap.size, 0, none⟩ = some (.int .i64 ((j : Int) + 1)) := (cell_of_row _ _ _ _ _ _ HX.out).trans HI.out; clear hX))
   refine ⟨⟨j + 1, by push_cast; rfl, by omega, Lib.hid ((HBX.out.block _ hhl.out).trans HR.out), Lib.hid ((HBX.out.block _ hwl.out).trans HS.out), below_of_le hbr HBX.out⟩, by simp [intOf]; omega⟩
  ·obtain rfl : j = n := by omega
   have hd : decide ((j : Int) < j) = false := decide_eq_false (by omega);go_wp2_with (refine wpList_store_row rfl 131 _ _ rfl w.heap.size (entryCells 0 .nilIface .nilIface .nilIface) rfl rfl 131 _ HS.out (by rw [entrySize]; rfl) rfl (by simp [entryCells, Value.oneCell']) ?_)
   refine bodyPost_ret (v := .agg (entryCells 0 .nilIface .nilIface .nilIface)) ?_ rfl ⟨rfl, ?_⟩
   ·exact results_cell_row (fn := Tryz.f55) (p := 4) rfl _ _ w.heap.size _ _ _ _ rfl (setRow_heap _ _ _ _ _ _ HS.out) Tryz.underlying131 rfl (by rw [entrySize]; rfl)
   ·exact below_setRow hbr (Nat.le_refl _) _
def Kept (w w' : World) : Prop := w.heap.size ≤ w'.heap.size ∧ ∀ (c : Nat) (cs : Array Value) (t : TypeId) (fr : Nat × Nat), w.heap[c]? = some (Obj.cells cs t fr) → t ≠ 214 → t ≠ 258 → w'.heap[c]? = some (Obj.cells cs t fr)
theorem Kept.of_below {w w' : World} (h : Below w.heap.size w w') : Kept w w' := ⟨h.size, fun c cs t fr hc _ _ => (h.block c (Array.getElem?_eq_some_iff.1 hc).1).trans hc⟩
theorem Kept.own {w w' : World} (h : Kept w w') {base : Nat} {e : TypeId} {size : Nat} {v : Value} {n : Nat} {xs : List Value} (ho : w.ownsRow base e size v n xs) (h1 : e ≠ 214) (h2 : e ≠ 258) : w'.ownsRow base e size v n xs := by
 refine ⟨ho.1, ?_⟩;rcases ho.2 with hn | ⟨g, cap, cur, rfl, hbg, hgg, rest⟩
 ·exact .inl hn
 ·exact .inr ⟨g, cap, cur, rfl, hbg, h.2 _ _ _ _ hgg h1 h2, rest⟩
theorem SchG.kept {w w' : World} {v : Value} {s : Cron.Got} (h : SchG w v s) (hk : Kept w w') : SchG w' v s :=
 h.of_same fun c cs fr hc => hk.2 _ _ _ _ hc (by decide) (by decide)
def CronHas (o : Int) (w : World) (g B : Nat) (job : Value) (S : Nat → Cron.Got) (i : Nat) : Prop :=
 ∃ (v : Value) (ps : List Value) (sch : Nat → Value), B ≤ g ∧ w.heap[g]? = some (.cells (cronCells o v i 0) 214 (0, 0)) ∧ Ents w B v i ps (fun j => entryCells ((j : Int) + 1) (sch j) job job) ∧ ∀ j, j < i → SchG w (sch j) (S j)
theorem CronHas.below {o : Int} {w w' : World} {g B : Nat} {job : Value} {S : Nat → Cron.Got} {i : Nat} (h : CronHas o w g B job S i) (hb : Below w.heap.size w w') : CronHas o w' g B job S i := by
 obtain ⟨v, ps, sch, h0, h1, h2, h3⟩ := h;exact ⟨v, ps, sch, h0, (hb.block g (Array.getElem?_eq_some_iff.1 h1).1).trans h1, h2.below hb, fun j hj => (h3 j hj).below hb⟩
theorem cronHas_new {o : Int} {w w' : World} {g : Nat} {job : Value} {S : Nat → Cron.Got} (hg : w.heap.size ≤ g) (h : w'.heap[g]? = some (.cells (cronCells o (.slice none 0 0) 0 0) 214 (0, 0))) : CronHas o w' g w.heap.size job S 0 :=
 ⟨.slice none 0 0, [], fun _ => .nilIface, hg, h, ⟨World.ownsRow_nil _ _ _ _, fun i hi => absurd hi (by omega)⟩, fun j hj => absurd hj (by omega)⟩
theorem CronHas.of_same {o : Int} {w w' : World} {g B : Nat} {job : Value} {S : Nat → Cron.Got} {i : Nat} (h : CronHas o w g B job S i)
  (hsame : ∀ (c : Nat) (cs : Array Value) (t : TypeId) (fr : Nat × Nat), w.heap[c]? = some (Obj.cells cs t fr) → t ∈ [214, 258, 131, 171] → w'.heap[c]? = some (Obj.cells cs t fr)) : CronHas o w' g B job S i := by
 obtain ⟨v, ps, sch, h0, h1, h2, h3⟩ := h;refine ⟨v, ps, sch, h0, hsame _ _ _ _ h1 (by decide), ⟨?_, fun j hj => ?_⟩, fun j hj => (h3 j hj).of_same fun c cs fr hc => hsame _ _ _ _ hc (by decide)⟩
 ·refine ⟨h2.1.1, ?_⟩;rcases h2.1.2 with hn | ⟨q, cap, cur, rfl, hbg, hgg, rest⟩
  ·exact .inl hn
  ·exact .inr ⟨q, cap, cur, rfl, hbg, hsame _ _ _ _ hgg (by decide), rest⟩
 ·obtain ⟨h4, h5, b, h6, h7⟩ := h2.2 j hj;exact ⟨h4, h5, b, h6, hsame _ _ _ _ h7 (by decide)⟩
theorem CronHas.grown {o : Int} {w w' : World} {g B : Nat} {job : Value} {S : Nat → Cron.Got} {i : Nat} (h : CronHas o w g B job S i) {base : Nat} {e : TypeId} {size : Nat} {v : Value} {n : Nat} {xs : List Value} (ho : w.ownsRow base e size v n xs) (hg : w.grownBy w' v.ownBlock)
  (hne : e ∉ [214, 258, 131, 171]) : CronHas o w' g B job S i :=
 h.of_same fun c cs t fr hc ht => by
  rw [hg.block c (Array.getElem?_eq_some_iff.1 hc).1 (fun e' => own_ne ho hc (fun e2 => hne (by rw [← e2]; exact ht)) e'.symm)];exact hc
theorem add_has (o : Int) (g B : Nat) (tj : TypeId) (xj : Value) (S : Nat → Cron.Got) (i : Nat) (hi : i < 1000) (ts : TypeId) (xs : Value) (w : World) (hB : B ≤ w.heap.size) (h : CronHas o w g B (.iface tj xj) S i) (hs : SchG w (.iface ts xs) (S i)) :
  Calls Tryz.prog 113 #[.pointer (some ⟨g, 0, none⟩), .iface ts xs, .iface tj xj] w fun e w' => e = .returned (.int .i64 ((i : Int) + 1)) ∧ CronHas o w' g B (.iface tj xj) S (i + 1) ∧ Kept w w' ∧ Below B w w' := by
 obtain ⟨v, ps, sch, h0, h1, h2, h3⟩ := h;refine (add_any o g B v i hi ps ts tj xs xj w h1 h2.1 hB h0).mono ?_;rintro e w' ⟨rfl, v', b, a1, a2, a3, a4, a5, a6⟩
 have hk : Kept w w' := by
  refine ⟨a5.size, fun c cs t fr hc n1 n2 => ?_⟩;rw [a6 c (Array.getElem?_eq_some_iff.1 hc).1 ?_ ?_]
  ·exact hc
  ·intro e;subst e;rw [h1] at hc;simp only [Option.some.injEq, Obj.cells.injEq] at hc;exact n1 hc.2.1.symm
  ·exact own_ne h2.1 hc n2
 refine ⟨rfl, ?_, hk, a5⟩;have hl : ps.length = i := by simpa using h2.1.1
 refine ⟨v', _, fun j => if j = i then .iface ts xs else sch j, h0, a1, ⟨a2, fun j hj => ?_⟩, fun j hj => ?_⟩
 ·refine ⟨rfl, ?_, ?_⟩
  ·by_cases hji : j = i
   ·simp [entryCells, hji, Value.oneCell']
   ·simp only [hji, if_false];exact (h2.2 j (by omega)).2.1
  ·by_cases hji : j = i
   ·subst hji;refine ⟨b, by rw [List.getElem?_append_right (by omega), hl]; simp, ?_⟩;simp only [if_true];exact a4
   ·obtain ⟨_, _, b', h4, h5⟩ := h2.2 j (by omega);refine ⟨b', by rw [List.getElem?_append_left (by omega)]; exact h4, ?_⟩;simp only [hji, if_false];exact hk.2 _ _ _ _ h5 (by decide) (by decide)
 ·by_cases hji : j = i
  ·subst hji;simp only [if_true];exact hs.kept hk
  ·simp only [hji, if_false];exact (h3 j (by omega)).kept hk
theorem find_has (o : Int) (g B : Nat) (job : Value) (S : Nat → Cron.Got) (n : Nat) (hn : n ≤ 1000) (j : Nat) (hj : j < n) (w : World) (h : CronHas o w g B job S n) :
  Calls Tryz.prog 55 #[.pointer (some ⟨g, 0, none⟩), .int .i64 ((j : Int) + 1)] w fun e w' => ∃ sch, e = .returned (.agg (entryCells ((j : Int) + 1) sch job job)) ∧ SchG w sch (S j) ∧ Below w.heap.size w w' := by
 obtain ⟨v, ps, sch, h0, h1, h2, h3⟩ := h;refine (find_any o g B v n hn ps _ n w h1 h2 (fun i hi => rfl) j hj).mono ?_;rintro e w' ⟨rfl, hb⟩;exact ⟨sch j, rfl, h3 j hj, hb⟩
theorem Kept.trans {w w1 w2 : World} (h1 : Kept w w1) (h2 : Kept w1 w2) : Kept w w2 :=
 ⟨Nat.le_trans h1.1 h2.1, fun c cs t fr hc n1 n2 => h2.2 _ _ _ _ (h1.2 _ _ _ _ hc n1 n2) n1 n2⟩
def JobAns (r : Option Cron.Got) (i : Nat) (e : Ending) : Prop := match r with
 | none => ∃ t x, e = .returned (.tuple #[.int .i64 0, .iface t x])
 | some _ => e = .returned (.tuple #[.int .i64 ((i : Int) + 1), .nilIface])
def jobsN (r : Option Cron.Got) (i : Nat) : Nat := match r with
 | none => i
 | some _ => i + 1
set_option maxRecDepth 100000 in
theorem addJob_any (b : Bool) (g B : Nat) (tj : TypeId) (xj : Value) (S : Nat → Cron.Got) (i : Nat) (hi : i < 1000) (s : ByteArray) (hs : s.size ≤ 4294967296) (hsp : Cron.zoneZ s ≠ 0 → (32 : UInt8) ∈ s.data.toList) (w : World) (hB : B ≤ w.heap.size) (hga : Cron.GA w)
  (h : CronHas (optN b : Nat) w g B (.iface tj xj) S i) (hS : ∀ r, Cron.progS (optN b) s = some r → S i = r) :
  Calls Tryz.prog 50 #[.pointer (some ⟨g, 0, none⟩), .string s, .iface tj xj] w fun e w' =>
   JobAns (Cron.progS (optN b) s) i e ∧ CronHas (optN b : Nat) w' g B (.iface tj xj) S (jobsN (Cron.progS (optN b) s) i) ∧ Kept w w' ∧ Below B w w' := by
 have HP := Lib.hid (fun w' hg' => Cron.parse_any (optN b) (by cases b <;> decide) s hs hsp w' hg');have HA := Lib.hid (fun ts xs w' h1 h2 h3 => add_has (optN b : Nat) g B tj xj S i hi ts xs w' h1 h2 h3);have HC := Lib.hid h
 have c10 : w.cell? ⟨g, 10, none⟩ = some (.iface 105 (.agg #[.int .i64 (optN b : Nat)])) := by
  obtain ⟨v, ps, sch, h0, h1, h2, h3⟩ := h;unfold cronCells at h1;exact cell_of_row _ _ _ _ _ _ h1
 have HS := Lib.hid hS;clear h hS hsp hs hi;generalize optN b = o at *;generalize Cron.progS o s = r at *;go_enter Tryz.func50, Tryz.ntmps50;go_wp2_with fail
 refine (HP.out _ hga).mono ?_;intro e w1 hP;obtain ⟨hres, hb1⟩ := hP;have HC1 := Lib.hid (HC.out.below hb1);have HB1 := Lib.hid hb1;clear HP HC hb1 c10;cases r with
 | none =>
  obtain ⟨t, x, rfl⟩ := hres;go_wp2_with fail
  go_ret2;exact ⟨⟨t, x, rfl⟩, HC1.out, Kept.of_below HB1.out, HB1.out.mono hB⟩
 | some y =>
  have hSi := HS.out y rfl;cases y with
  | bits l =>
   obtain ⟨a, loc, rfl, hg⟩ := hres;have HSG : Hid (SchG w1 (.iface 169 (.pointer (some ⟨a, 0, none⟩))) (S i)) := Lib.hid (by rw [hSi]; exact ⟨a, loc, rfl, hg⟩);clear hg hSi HS;go_wp2_with fail
   refine (HA.out _ _ w1 (by have := HB1.out.size; omega) HC1.out HSG.out).mono ?_;rintro e w2 ⟨rfl, hc2, hk2, hb2⟩;have HC2 := Lib.hid hc2;have HK2 := Lib.hid ((Kept.of_below HB1.out).trans hk2);have HB2 := Lib.hid ((HB1.out.mono hB).trans hb2);clear hc2 hk2 hb2 HA HC1 HSG HB1;go_wp2_with fail
   go_ret2;exact ⟨rfl, HC2.out, HK2.out, HB2.out⟩
  | delay d =>
   obtain rfl := hres;have HSG : Hid (SchG w1 (.iface 174 (.agg #[.int .i64 d])) (S i)) := Lib.hid (by rw [hSi]; exact rfl);clear hSi HS;go_wp2_with fail
   refine (HA.out _ _ w1 (by have := HB1.out.size; omega) HC1.out HSG.out).mono ?_;rintro e w2 ⟨rfl, hc2, hk2, hb2⟩;have HC2 := Lib.hid hc2;have HK2 := Lib.hid ((Kept.of_below HB1.out).trans hk2);have HB2 := Lib.hid ((HB1.out.mono hB).trans hb2);clear hc2 hk2 hb2 HA HC1 HSG HB1;go_wp2_with fail
   go_ret2;exact ⟨rfl, HC2.out, HK2.out, HB2.out⟩
end Go.Proofs.YtmecbmgfacpecaaGreatDoor.Scr
namespace Go.Proofs.YtmecbmgfacpecaaGreatDoor.Scr
open Go Go.RowKit Go.Proofs.YtmecbmgfacpecaaGreatDoor.Sched Go.Proofs.YtmecbmgfacpecaaGreatDoor.Cal Go.Proofs.YtmecbmgfacpecaaGreatDoorW.PrintWords Go.Proofs.YtmecbmgfacpecaaGreatDoorW.PrintLast Go.Proofs.YtmecbmgfacpecaaGreatDoor.Pr
abbrev Step := S41
abbrev SchT := Bool × Int × Int × Int × Int × Int × Int × Int
def gotT (r : Option Cron.Got) : SchT := match r with
 | none => (false, 0, 0, 0, 0, 0, 0, 0)
 | some (.delay d) => (true, d, 0, 0, 0, 0, 0, 0)
 | some (.bits l) => (false, 0, (l.getD 0 0 : Nat), (l.getD 1 0 : Nat), (l.getD 2 0 : Nat), (l.getD 3 0 : Nat), (l.getD 4 0 : Nat), (l.getD 5 0 : Nat))
def schL (t : SchT) : List Value := [.bool t.1, .int .i64 t.2.1, .int .u64 t.2.2.1, .int .u64 t.2.2.2.1, .int .u64 t.2.2.2.2.1, .int .u64 t.2.2.2.2.2.1, .int .u64 t.2.2.2.2.2.2.1, .int .u64 t.2.2.2.2.2.2.2]
theorem gotT_cells (r : Option Cron.Got) : Cron.gotCells r = (schL (gotT r)).toArray := by
 cases r with
 | none => rfl
 | some y => cases y <;> rfl
structure Ans where
 ok : Bool
 id : Int
 ids : List Int
 s : SchT
 un : Bool
def Ans.row (x : Ans) (V : Value) : List Value := [.bool x.ok, .int .i64 x.id, V, .bool x.s.1, .int .i64 x.s.2.1, .int .u64 x.s.2.2.1, .int .u64 x.s.2.2.2.1, .int .u64 x.s.2.2.2.2.1, .int .u64 x.s.2.2.2.2.2.1, .int .u64 x.s.2.2.2.2.2.2.1, .int .u64 x.s.2.2.2.2.2.2.2, .bool x.un]
def kSch : Kd SchT := Kd.pair Kd.bool (Kd.pair (Kd.int .i64) (Kd.pair (Kd.int .u64) (Kd.pair (Kd.int .u64) (Kd.pair (Kd.int .u64) (Kd.pair (Kd.int .u64) (Kd.pair (Kd.int .u64) (Kd.int .u64)))))))
def kAns : Kd Ans := Kd.iso (Kd.pair Kd.bool (Kd.pair (Kd.int .i64) (Kd.pair (Kd.slice 3 (Kd.int .i64)) (Kd.pair kSch Kd.bool)))) (fun x => (x.ok, x.id, x.ids, x.s, x.un))
theorem kAns_mkM {w : World} {base : Nat} {ok : Nat → Prop} {x : Ans} {V : Value} (h : (Kd.int .i64).R 3 w base ok V x.ids) : kAns.M w base ok x (x.row V) :=
 ⟨[.bool x.ok], _, rfl, rfl, [.int .i64 x.id], _, rfl, rfl, [V], _, rfl, ⟨V, rfl, h⟩, schL x.s, [.bool x.un], rfl, ⟨[_], _, rfl, rfl, [_], _, rfl, rfl, [_], _, rfl, rfl, [_], _, rfl, rfl, [_], _, rfl, rfl, [_], _, rfl, rfl, [_], [_], rfl, rfl, rfl⟩, rfl⟩
theorem kAns_open {w : World} {x : Ans} {cs : List Value} (h : kAns.K w x cs) : ∃ A c, cs = x.row (.slice A x.ids.length c) ∧ x.ids.length ≤ c ∧ (Kd.int .i64).C w A x.ids.length x.ids := by
 obtain ⟨_, _, rfl, rfl, _, _, rfl, rfl, _, _, rfl, ⟨A, c, rfl, hl, hr⟩, _, _, rfl, ⟨_, _, rfl, rfl, _, _, rfl, rfl, _, _, rfl, rfl, _, _, rfl, rfl, _, _, rfl, rfl, _, _, rfl, rfl, _, _, rfl, rfl, rfl⟩, rfl⟩ := h;exact ⟨A, c, rfl, hl, hr⟩
def noA : Ans := ⟨false, 0, [], gotT none, false⟩
def idsI (n : Nat) : List Int := (List.range n).map fun (j : Nat) => (j : Int) + 1
theorem idsI_succ (n : Nat) : idsI (n + 1) = idsI n ++ [(n : Int) + 1] := by unfold idsI; rw [List.range_succ, List.map_append]; rfl
theorem idsI_len (n : Nat) : (idsI n).length = n := by simp [idsI]
def okT (b : Bool) (x : Step) : List Cron.Got := if x.f0 = 0 then (Cron.progS (optN b) x.f1).toList else []
def stepA (b : Bool) (gs : List Cron.Got) (x : Step) : Ans :=
 if x.f0 = 0 then (if (Cron.progS (optN b) x.f1).isSome = true then ⟨true, (gs.length : Int) + 1, [], gotT none, false⟩ else noA)
 else if x.f0 = 2 then ⟨false, 0, idsI gs.length, gotT none, false⟩
 else if x.f0 = 3 then (if 1 ≤ x.f2 ∧ x.f2 ≤ gs.length then ⟨true, x.f2, [], gotT gs[x.f2.toNat - 1]?, true⟩ else noA)
 else noA
def scriptA (b : Bool) : List Cron.Got → List Step → List Ans
 | _, [] => []
 | gs, x :: T => stepA b gs x :: scriptA b (gs ++ okT b x) T
def gotsT (b : Bool) (T : List Step) : List Cron.Got := T.flatMap (okT b)
theorem gotsT_append (b : Bool) (T U : List Step) : gotsT b (T ++ U) = gotsT b T ++ gotsT b U := by unfold gotsT; rw [List.flatMap_append]
theorem gotsT_one (b : Bool) (x : Step) : gotsT b [x] = okT b x := by simp [gotsT]
theorem scriptA_append (b : Bool) (T U : List Step) : ∀ gs, scriptA b gs (T ++ U) = scriptA b gs T ++ scriptA b (gs ++ gotsT b T) U := by
 induction T with
 | nil => intro gs; simp [scriptA, gotsT]
 | cons x T ih =>
  intro gs;show stepA b gs x :: scriptA b (gs ++ okT b x) (T ++ U) = stepA b gs x :: (scriptA b (gs ++ okT b x) T ++ _)
  rw [ih, List.append_assoc];rfl
theorem scriptA_len (b : Bool) (T : List Step) : ∀ gs, (scriptA b gs T).length = T.length := by
 induction T with
 | nil => intro gs; rfl
 | cons x T ih => intro gs; simp [scriptA, ih]
theorem take_step (T : List Step) (i : Nat) (hi : i < T.length) : T.take (i + 1) = T.take i ++ [T.getD i z41] := by
 rw [List.take_add_one, List.getElem?_eq_getElem hi];simp [List.getD, List.getElem?_eq_getElem hi]
theorem okT_len (b : Bool) (x : Step) : (okT b x).length ≤ 1 := by
 unfold okT;split
 ·cases Cron.progS (optN b) x.f1 <;> simp
 ·simp
theorem gotsT_len (b : Bool) (T : List Step) : (gotsT b T).length ≤ T.length := by
 induction T with
 | nil => simp [gotsT]
 | cons x T ih =>
  have := okT_len b x;show (okT b x ++ gotsT b T).length ≤ _
  rw [List.length_append, List.length_cons];omega
def schedS (b : Bool) (T : List Step) (j : Nat) : Cron.Got := (gotsT b T).getD j (.delay 0)
theorem schedS_take (b : Bool) (T : List Step) (i : Nat) (j : Nat) (hj : j < (gotsT b (T.take i)).length) : (gotsT b (T.take i))[j]? = some (schedS b T j) := by
 have h : gotsT b T = gotsT b (T.take i) ++ gotsT b (T.drop i) := by rw [← gotsT_append, List.take_append_drop]
 unfold schedS;rw [h, List.getD, List.getElem?_append_left hj, List.getElem?_eq_getElem hj];rfl
theorem schedS_new (b : Bool) (T : List Step) (i : Nat) (hi : i < T.length) (r : Cron.Got) (h : okT b (T.getD i z41) = [r]) : schedS b T (gotsT b (T.take i)).length = r := by
 have h1 := schedS_take b T (i + 1) (gotsT b (T.take i)).length (by rw [take_step T i hi, gotsT_append, gotsT_one, h, List.length_append]; simp);rw [take_step T i hi, gotsT_append, gotsT_one, h, List.getElem?_append_right (Nat.le_refl _)] at h1;simpa using h1.symm
theorem step_at {w : World} {base : Nat} {ok : Nat → Prop} {v : Value} {T : List Step} (h : k41.R 41 w base ok v T) (i : Nat) (hi : i < T.length) :
  ∃ g c, v = .slice (some ⟨g, 0, none⟩) T.length c ∧ g < w.heap.size ∧ w.rangeAt g (i * 3) [.int .i64 (T.getD i z41).f0, .string (T.getD i z41).f1, .int .i64 (T.getD i z41).f2] := by
 obtain ⟨A, c, rfl, hc, hC⟩ := Kd.R_reads h;obtain ⟨inner, ho⟩ := Kd.R_own h;rcases ho.2 with ⟨h1, h2⟩ | ⟨g, cap, cur, h1, hbg, hgg, _⟩
 ·exfalso
  simp only [Value.slice.injEq] at h1;omega
 ·simp only [Value.slice.injEq] at h1;obtain ⟨rfl, -, -⟩ := h1;refine ⟨g, c, rfl, (Array.getElem?_eq_some_iff.1 hgg).1, ?_⟩;obtain ⟨ad, cs, e, -, hK, hcell⟩ := Kd.C_get hC z41 (i : Int) (by omega) (by omega);cases e
  rw [Int.toNat_natCast] at hK hcell
  obtain rfl := k41_open hK;intro j x hx;have := hcell j x hx;rw [Addr.add_mid, Nat.zero_add] at this;exact this
theorem R_kept {α : Type} {d : Kd α} {e : Nat} {w w' : World} {base : Nat} {ok : Nat → Prop} {v : Value} {xs : List α} (hk : Kept w w') (ht : ∀ q, q ∈ e :: d.E → q ≠ 214 ∧ q ≠ 258) (h : d.R e w base ok v xs) : d.R e w' base ok v xs := by
 refine Kd.R_mono (Kd.R_step (Kd.R_bound h) ?_) (fun _ hk => hk.1);rintro k ⟨-, -, -, q, hq, cs, hc⟩ hlt;rw [hk.2 _ _ _ _ hc (ht q hq).1 (ht q hq).2, hc]
theorem CronHas.grownR {o : Int} {w w' : World} {g B : Nat} {job : Value} {S : Nat → Cron.Got} {i : Nat} (h : CronHas o w g B job S i) {α : Type} {d : Kd α} {e base : Nat} {ok : Nat → Prop} {v : Value} {xs : List α} (ho : d.R e w base ok v xs) (hg : w.grownBy w' v.ownBlock)
  (hne : e ∉ [214, 258, 131, 171]) : CronHas o w' g B job S i := by
 obtain ⟨inner, h1⟩ := Kd.R_own ho;exact h.grown h1 hg hne
theorem entries_has (o : Int) (g B : Nat) (job : Value) (S : Nat → Cron.Got) (n : Nat) (hn : n ≤ 1000) (w : World) (h : CronHas o w g B job S n) :
  Calls Tryz.prog 53 #[.pointer (some ⟨g, 0, none⟩)] w fun e w' => ∃ (h : Nat) (E : Nat → Array Value), e = .returned (.slice (some ⟨h, 0, none⟩) n n) ∧ w'.heap[h]? = some (.cells (rowsOf E n).toArray 131 (0, 0)) ∧ (∀ j, j < n → (E j).size = 10 ∧ (E j)[0]? = some (.int .i64 ((j : Int) + 1)) ∧ (E j).all (·.oneCell') = true) ∧ Below w.heap.size w w' := by
 obtain ⟨v, ps, sch, h0, h1, h2, h3⟩ := h;refine (entries_any o g B v n hn ps _ n w h1 h2).mono ?_;rintro e w' ⟨h, rfl, hh, hrow, hb⟩;exact ⟨h, _, rfl, hrow, fun j hj => ⟨rfl, rfl, (h2.2 j hj).2.1⟩, hb⟩
theorem findnone_has (o : Int) (g B : Nat) (job : Value) (S : Nat → Cron.Got) (n : Nat) (hn : n ≤ 1000) (x : Int) (hx : ¬ (1 ≤ x ∧ x ≤ n)) (w : World) (h : CronHas o w g B job S n) :
  Calls Tryz.prog 55 #[.pointer (some ⟨g, 0, none⟩), .int .i64 x] w fun e w' => e = .returned (.agg (entryCells 0 .nilIface .nilIface .nilIface)) ∧ Below w.heap.size w w' := by
 obtain ⟨v, ps, sch, h0, h1, h2, h3⟩ := h;exact find_none o g B v n hn ps _ n w h1 h2 (fun i hi => rfl) x (fun i hi => by omega)
theorem info_ansP : (Tryz.prog.info? 44).map (fun i => (i.zero, i.size, i.bytes)) = some (some (.agg noAns), 12, 112) := by kernel_rfl
theorem info_intP : (Tryz.prog.info? 3).map (fun i => (i.zero, i.size, i.bytes)) = some (some (.int .i64 0), 1, 8) := by kernel_rfl
theorem stepSize : (Tryz.prog.info? 41).map (·.size) = some 3 := by kernel_rfl
theorem rangeAt_belowS {w w' : World} {b o : Nat} {cs : List Value} (h : w.rangeAt b o cs) (hb : Below w.heap.size w w') (hl : b < w.heap.size) : w'.rangeAt b o cs := fun j v hv => (hb.cell (p := ⟨b, o + j, none⟩) hl).trans (h j v hv)
theorem far_V {w : World} {base B : Nat} {V u : Value} {xs : List Int} (h : (Kd.int .i64).R 3 w base (fun _ => True) V xs) (hu : ∀ k, u.ownBlock = some k → k < base) (hb : B ≤ base) : (Kd.int .i64).R 3 w B (fun k => some k ≠ u.ownBlock) V xs :=
 Kd.R_lower (Kd.R_mono (Kd.R_bound h) fun k hk he => by have := hu k he.symm; omega) hb
theorem own_lt {α : Type} {d : Kd α} {e : Nat} {w : World} {base : Nat} {ok : Nat → Prop} {v : Value} {xs : List α} (h : d.R e w base ok v xs) (k : Nat) (hk : v.ownBlock = some k) : k < w.heap.size := by
 obtain ⟨inner, ho⟩ := Kd.R_own h;exact (ho.lt k hk).2
theorem CronHas.far {o : Int} {w w' : World} {g B : Nat} {job : Value} {S : Nat → Cron.Got} {i : Nat} (h : CronHas o w g B job S i) {ga : Nat} {cs : Array Value} (hr : w.heap[ga]? = some (.cells cs 44 (0, 0))) (hk : ∀ c, c ≠ ga → w'.heap[c]? = w.heap[c]?) : CronHas o w' g B job S i :=
 h.of_same fun c cs t fr hc ht => by
  rw [hk c (fun e => ?_)]
  ·exact hc
  ·subst e;rw [hr] at hc;simp only [Option.some.injEq, Obj.cells.injEq] at hc;rw [← hc.2.1] at ht;revert ht
   decide
def ansV (V : Value) : Array Value := #[.bool false, .int .i64 0, V, .bool false, .int .i64 0, .int .u64 0, .int .u64 0, .int .u64 0, .int .u64 0, .int .u64 0, .int .u64 0, .bool false]
abbrev job1 : Value := .iface 121 (.func (.func 51) #[] #[])
def StepOk (x : Step) : Prop := (x.f0 = 0 ∧ x.f1.size ≤ 4294967296 ∧ (Cron.zoneZ x.f1 ≠ 0 → (32 : UInt8) ∈ x.f1.data.toList)) ∨ x.f0 = 2 ∨ x.f0 = 3
set_option maxRecDepth 100000 in
set_option maxHeartbeats 8000000 in
theorem script_any (b : Bool) (T : List Step) (hT : T.length ≤ 900) (hok : ∀ x ∈ T, StepOk x) (v0 : Value) (w : World) (hga : Cron.GA w) (base0 : Nat) (ok0 : Nat → Prop) (h0 : k41.R 41 w base0 ok0 v0 T) :
  Calls Tryz.prog 16 #[.bool b, v0] w fun e w' => ∃ v', e = .returned v' ∧ kAns.R 44 w' w.heap.size (fun _ => True) v' (scriptA b [] T) ∧ Below w.heap.size w w' := by
 obtain ⟨A, cap, rfl⟩ := Kd.R_slice h0;have HST := Lib.hid (fun i hi => step_at h0 i hi);have HOK := Lib.hid hok;have HZ := Lib.hid (zzCron_any b w);have HGA := Lib.hid (fun w' (h : Below w.heap.size w w') => hga.below h);have hal := run_alloc_ans;clear h0 hok hga;go_enter Tryz.func16, Tryz.ntmps16;go_wp2_with fail
 refine HZ.out.mono ?_;rintro e w1 ⟨g, rfl, hg, hrow, hb1⟩;have HC1 : Hid (CronHas (optN b : Nat) w1 g w.heap.size job1 (schedS b T) (gotsT b (T.take 0)).length) := Lib.hid (cronHas_new hg hrow);have HR1 : Hid (kAns.R 44 w1 w.heap.size (fun _ => True) (.slice none 0 0) (scriptA b [] (T.take 0))) := Lib.hid (Kd.R_nil _ _ _ _ _);clear hrow HZ hg;go_wp2_with fail
 go_loopw [6, 18] (fun v6 v18 wr => ∃ i : Nat, v18 = .int .i64 i ∧ i ≤ T.length ∧ Hid (CronHas (optN b : Nat) wr g w.heap.size job1 (schedS b T) (gotsT b (T.take i)).length) ∧ Hid (kAns.R 44 wr w.heap.size (fun _ => True) v6 (scriptA b [] (T.take i))) ∧ Hid (Below w.heap.size w wr)) (fun _ v18 _ => T.length - (intOf v18).toNat)
 case atStart => exact ⟨0, rfl, by omega, HC1, HR1, Lib.hid hb1⟩
 case round =>
  obtain ⟨i, rfl, hi, HC, HR, HB⟩ := hrel;clear HC1 HR1 hb1;obtain ⟨wo, hwo⟩ : ∃ wo, wo = wr := ⟨_, rfl⟩
  subst hwo;by_cases hiL : i < T.length
  ·obtain ⟨q, cq, hv, hql, hrg⟩ := HST.out i hiL;simp only [Value.slice.injEq] at hv;obtain ⟨rfl, -, rfl⟩ := hv;have HRG := Lib.hid (rangeAt_belowS hrg HB.out hql);have hil : (i : Int) < T.length := by omega
   have hi0 : (0 : Int) ≤ i := by omega
   have hd : decide ((i : Int) < T.length) = true := decide_eq_true hil
   have hm : (gotsT b (T.take i)).length < 1000 := by
    have := gotsT_len b (T.take i);rw [List.length_take] at this;omega
   have hlen : (scriptA b [] (T.take i)).length ≤ 900 := by rw [scriptA_len, List.length_take]; omega
   have HSC : Hid (scriptA b [] (T.take (i + 1)) = scriptA b [] (T.take i) ++ [stepA b (gotsT b (T.take i)) (T.getD i z41)]) := Lib.hid (by
    rw [take_step T i hiL, scriptA_append, List.nil_append];rfl)
   have HGS : Hid (gotsT b (T.take (i + 1)) = gotsT b (T.take i) ++ okT b (T.getD i z41)) := Lib.hid (by rw [take_step T i hiL, gotsT_append, gotsT_one]);have HNW := Lib.hid (schedS_new b T i hiL);have HTK := Lib.hid (schedS_take b T i);have hk := HOK.out (T.getD i z41) (by rw [List.getD, List.getElem?_eq_getElem hiL]; exact List.getElem_mem hiL);have HUL := Lib.hid (own_lt HR.out);have HRW : Hid (kAns.R 44 wo w.heap.size (fun k => k < wo.heap.size) u6 (scriptA b [] (T.take i))) := Lib.hid (Kd.R_mono (Kd.R_bound HR.out) (fun k hk => hk.2.2.1));have HBL := Lib.hid HB.out.size;clear hrg hql HR;generalize T.getD i z41 = x at *;obtain ⟨f0, f1, f2⟩ := x;unfold StepOk at hk;dsimp only at hk HRG
   generalize gotsT b (T.take i) = gs at *;generalize scriptA b [] (T.take i) = xsO at *;rcases hk with ⟨hk0, hs1, hs2⟩ | hk0 | hk0
   ·obtain rfl := hk0;have HS : Hid (∀ r, Cron.progS (optN b) f1 = some r → schedS b T gs.length = r) := Lib.hid fun r hr => HNW.out r (by unfold okT; rw [if_pos rfl, hr]; rfl)
    have HAJ := Lib.hid (fun w' h1 h2 h3 => addJob_any b g w.heap.size 121 (.func (.func 51) #[] #[]) (schedS b T) gs.length hm f1 hs1 hs2 w' h1 h2 h3 HS.out);have HSC2 : Hid (scriptA b [] (T.take (i + 1)) = xsO ++ [if (Cron.progS (optN b) f1).isSome = true then ⟨true, (gs.length : Int) + 1, [], gotT none, false⟩ else noA]) := Lib.hid (by rw [HSC.out]; rfl);have HGS2 : Hid (gotsT b (T.take (i + 1)) = gs ++ (Cron.progS (optN b) f1).toList) := Lib.hid (by rw [HGS.out]; rfl);clear HSC HGS HS HNW hs1 hs2 HTK;have HSC := HSC2;have HGS := HGS2;clear HSC2 HGS2;generalize Cron.progS (optN b) f1 = r at *;go_wp2_with (first | (refine wpList_load_mid rfl 41 _ rfl q (i * 3) rfl [.int .i64 0, .string f1, .int .i64 f2] _ HRG.out Tryz.underlying41 rfl stepSize ?_) | (refine wpList_store_row rfl 41 _ _ rfl wo.heap.size #[.int .i64 0, .string f1, .int .i64 f2] rfl rfl 41 _ (heap_alloc_new wo _) stepSize rfl (by simp [Value.oneCell']) ?_; generalize hX : World.setRow _ _ _ = wx; have HX := Lib.hid (show wx.heap[wo.heap.size]? = some (.cells #[.int .i64 0, .string f1, .int .i64 f2] 41 (0, 0)) by rw [← hX]; exact setRow_heap _ _ _ _ _ _ (heap_alloc_new wo _)); have HBX := Lib.hid (show Below wo.heap.size wo wx by rw [← hX]; exact below_setRow ((Below.refl _ _).alloc (Nat.le_refl _) _) (Nat.le_refl _) _); have e0 : ∀ o, (wx.alloc o).cell? ⟨wo.heap.size, 0, none⟩ = some (.int .i64 0) := fun o => ((Below.refl _ _).alloc (Nat.le_refl _) o |>.cell (p := ⟨wo.heap.size, 0, none⟩) (Array.getElem?_eq_some_iff.1 HX.out).1).trans (cell_of_row _ _ _ _ _ _ HX.out); have e1 : ∀ o, (wx.alloc o).cell? ⟨wo.heap.size, 1, none⟩ = some (.string f1) := fun o => ((Below.refl _ _).alloc (Nat.le_refl _) o |>.cell (p := ⟨wo.heap.size, 1, none⟩) (Array.getElem?_eq_some_iff.1 HX.out).1).trans (cell_of_row _ _ _ _ _ _ HX.out); have e2 : ∀ o, (wx.alloc o).cell? ⟨wo.heap.size, 2, none⟩ = some (.int .i64 f2) := fun o => ((Below.refl _ _).alloc (Nat.le_refl _) o |>.cell (p := ⟨wo.heap.size, 2, none⟩) (Array.getElem?_eq_some_iff.1 HX.out).1).trans (cell_of_row _ _ _ _ _ _ HX.out); have hgx : AnsRow (wx.alloc (.cells noAns 44 (0, 0))) wx.heap.size := ansRow_new wx; have HBA := Lib.hid (show Below wo.heap.size wo (wx.alloc (.cells noAns 44 (0, 0))) from HBX.out.alloc HBX.out.size _); have HGX := Lib.hid hgx; clear hX hgx))
    refine (HAJ.out _ (Nat.le_trans HB.out.size HBA.out.size) (HGA.out _ (below_of_le HB.out HBA.out)) (HC.out.below HBA.out)).mono ?_;rintro e w3 ⟨hans, hc3, hk3, hb3⟩;obtain ⟨ga, hga⟩ : ∃ ga, ga = wx.heap.size := ⟨_, rfl⟩
    rw [← hga] at HGX ⊢
    have hr3 : w3.heap[ga]? = some (.cells noAns 44 (0, 0)) := hk3.2 _ _ _ _ HGX.out (by decide) (by decide);have hgo : wo.heap.size ≤ ga := by rw [hga]; exact HBX.out.size
    have hgw : w.heap.size ≤ ga := Nat.le_trans HB.out.size hgo;have HR3 := Lib.hid (R_kept hk3 (by decide) (Kd.R_below HRW.out HBA.out));have HB3 := Lib.hid ((below_of_le HB.out HBA.out).trans hb3);have HC3 := Lib.hid hc3;clear hc3 hk3 hb3 HGX HBA HBX HX e0 e1 e2 HAJ hga;cases r with
    | none =>
     obtain ⟨t, y, rfl⟩ := hans;go_wp2_with (first | (refine wpList_store_row rfl 44 _ _ rfl ga #[.bool false, .int .i64 0, .slice none 0 0, .bool false, .int .i64 0, .int .u64 0, .int .u64 0, .int .u64 0, .int .u64 0, .int .u64 0, .int .u64 0, .bool false] rfl rfl 44 _ hr3 ansSize rfl (by simp [Value.oneCell']) ?_; generalize hY : World.setRow _ _ _ = w4; have HROW := Lib.hid (show w4.heap[ga]? = some (.cells #[.bool false, .int .i64 0, .slice none 0 0, .bool false, .int .i64 0, .int .u64 0, .int .u64 0, .int .u64 0, .int .u64 0, .int .u64 0, .int .u64 0, .bool false] 44 (0, 0)) by rw [← hY]; exact setRow_heap _ _ _ _ _ _ hr3); have hkb : ∀ c, c ≠ ga → w4.heap[c]? = w3.heap[c]? := (fun c hc => by rw [← hY]; exact setRow_other _ _ _ _ hc); have HR4 := Lib.hid (Kd.R_step HR3.out (fun k hk _ => hkb k (by omega))); have HC4 := Lib.hid (HC3.out.far hr3 hkb); have HB4 := Lib.hid (show Below w.heap.size w w4 by rw [← hY]; exact below_setRow HB3.out hgw _); have HV4 : Hid ((Kd.int .i64).R 3 w4 w.heap.size (fun k => some k ≠ u6.ownBlock) (.slice none 0 0) []) := Lib.hid (Kd.R_nil _ _ _ _ _); clear hY hkb) | (refine wpList_load_row rfl 44 _ rfl ga rfl _ _ _ _ HROW.out Tryz.underlying44 rfl ansSize ?_) | ((with_reducible refine gate_builtin (b := .append) (xs := #[.tmp 68, .tmp 70]) rfl ?_); at_builtin; refine Kd.R_append kAns (w0 := w) w.heap.size rfl (.tmp 68) (.tmp 70) 38 44 (.agg noAns) 112 rfl Tryz.underlying38 info_ansP rfl (by decide) (by omega) u6 xsO (noA) (Ans.row (noA) (.slice none 0 0)) (fun _ => True) (fun k => some k ≠ u6.ownBlock) rfl rfl ?aP ?aO ?aF ?aR ?aB ?aS ?aL ?_; (case aP => exact kAns_mkM HV4.out); (case aO => exact fun k hk => ⟨trivial, hk⟩); (case aF => exact fun _ _ => trivial); (case aR => exact Kd.R_mono HR4.out (fun _ _ => trivial)); (case aB => exact HB4.out); (case aS => exact HB4.out.size); (case aL => omega); intro v9 w9 ho hb hg hat; have HO9 := Lib.hid ho; have HB9 := Lib.hid hb; have HG9 := Lib.hid hg; clear ho hb hg hat))
     refine ⟨⟨i + 1, by push_cast; rfl, by omega, Lib.hid (by rw [HGS.out]; have h := HC4.out.grownR HR4.out HG9.out (by decide); simpa [jobsN] using h), Lib.hid (by rw [HSC.out]; have h := HO9.out; exact h), HB9⟩, by simp [intOf]; omega⟩
    | some y =>
     obtain rfl := hans;have hw1 : wrap64 ((gs.length : Int) + 1) = (gs.length : Int) + 1 := by simp [RowKit.wrap64]; omega
     go_wp2_with (first | (refine wpList_store_row rfl 44 _ _ rfl ga #[.bool true, .int .i64 ((gs.length : Int) + 1), .slice none 0 0, .bool false, .int .i64 0, .int .u64 0, .int .u64 0, .int .u64 0, .int .u64 0, .int .u64 0, .int .u64 0, .bool false] rfl rfl 44 _ hr3 ansSize rfl (by simp [Value.oneCell']) ?_; generalize hY : World.setRow _ _ _ = w4; have HROW := Lib.hid (show w4.heap[ga]? = some (.cells #[.bool true, .int .i64 ((gs.length : Int) + 1), .slice none 0 0, .bool false, .int .i64 0, .int .u64 0, .int .u64 0, .int .u64 0, .int .u64 0, .int .u64 0, .int .u64 0, .bool false] 44 (0, 0)) by rw [← hY]; exact setRow_heap _ _ _ _ _ _ hr3); have hkb : ∀ c, c ≠ ga → w4.heap[c]? = w3.heap[c]? := (fun c hc => by rw [← hY]; exact setRow_other _ _ _ _ hc); have HR4 := Lib.hid (Kd.R_step HR3.out (fun k hk _ => hkb k (by omega))); have HC4 := Lib.hid (HC3.out.far hr3 hkb); have HB4 := Lib.hid (show Below w.heap.size w w4 by rw [← hY]; exact below_setRow HB3.out hgw _); have HV4 : Hid ((Kd.int .i64).R 3 w4 w.heap.size (fun k => some k ≠ u6.ownBlock) (.slice none 0 0) []) := Lib.hid (Kd.R_nil _ _ _ _ _); clear hY hkb) | (refine wpList_load_row rfl 44 _ rfl ga rfl _ _ _ _ HROW.out Tryz.underlying44 rfl ansSize ?_) | ((with_reducible refine gate_builtin (b := .append) (xs := #[.tmp 68, .tmp 70]) rfl ?_); at_builtin; refine Kd.R_append kAns (w0 := w) w.heap.size rfl (.tmp 68) (.tmp 70) 38 44 (.agg noAns) 112 rfl Tryz.underlying38 info_ansP rfl (by decide) (by omega) u6 xsO ((⟨true, (gs.length : Int) + 1, [], gotT none, false⟩ : Ans)) (Ans.row ((⟨true, (gs.length : Int) + 1, [], gotT none, false⟩ : Ans)) (.slice none 0 0)) (fun _ => True) (fun k => some k ≠ u6.ownBlock) rfl rfl ?aP ?aO ?aF ?aR ?aB ?aS ?aL ?_; (case aP => exact kAns_mkM HV4.out); (case aO => exact fun k hk => ⟨trivial, hk⟩); (case aF => exact fun _ _ => trivial); (case aR => exact Kd.R_mono HR4.out (fun _ _ => trivial)); (case aB => exact HB4.out); (case aS => exact HB4.out.size); (case aL => omega); intro v9 w9 ho hb hg hat; have HO9 := Lib.hid ho; have HB9 := Lib.hid hb; have HG9 := Lib.hid hg; clear ho hb hg hat))
     refine ⟨⟨i + 1, by push_cast; rfl, by omega, Lib.hid (by rw [HGS.out]; have h := HC4.out.grownR HR4.out HG9.out (by decide); simpa [jobsN] using h), Lib.hid (by rw [HSC.out]; have h := HO9.out; exact h), HB9⟩, by simp [intOf]; omega⟩
   ·obtain rfl := hk0;have HSC2 : Hid (scriptA b [] (T.take (i + 1)) = xsO ++ [⟨false, 0, idsI gs.length, gotT none, false⟩]) := Lib.hid (by rw [HSC.out]; rfl);have HGS2 : Hid (gotsT b (T.take (i + 1)) = gs) := Lib.hid (by rw [HGS.out]; unfold okT; rw [if_neg (show ¬ (2 : Int) = 0 by decide), List.append_nil]);clear HSC HGS HNW HTK;have HSC := HSC2;have HGS := HGS2;clear HSC2 HGS2;go_wp2_with (first | (refine wpList_load_mid rfl 41 _ rfl q (i * 3) rfl [.int .i64 2, .string f1, .int .i64 f2] _ HRG.out Tryz.underlying41 rfl stepSize ?_) | (refine wpList_store_row rfl 41 _ _ rfl wo.heap.size #[.int .i64 2, .string f1, .int .i64 f2] rfl rfl 41 _ (heap_alloc_new wo _) stepSize rfl (by simp [Value.oneCell']) ?_; generalize hX : World.setRow _ _ _ = wx; have HX := Lib.hid (show wx.heap[wo.heap.size]? = some (.cells #[.int .i64 2, .string f1, .int .i64 f2] 41 (0, 0)) by rw [← hX]; exact setRow_heap _ _ _ _ _ _ (heap_alloc_new wo _)); have HBX := Lib.hid (show Below wo.heap.size wo wx by rw [← hX]; exact below_setRow ((Below.refl _ _).alloc (Nat.le_refl _) _) (Nat.le_refl _) _); have e0 : ∀ o, (wx.alloc o).cell? ⟨wo.heap.size, 0, none⟩ = some (.int .i64 2) := fun o => ((Below.refl _ _).alloc (Nat.le_refl _) o |>.cell (p := ⟨wo.heap.size, 0, none⟩) (Array.getElem?_eq_some_iff.1 HX.out).1).trans (cell_of_row _ _ _ _ _ _ HX.out); have e1 : ∀ o, (wx.alloc o).cell? ⟨wo.heap.size, 1, none⟩ = some (.string f1) := fun o => ((Below.refl _ _).alloc (Nat.le_refl _) o |>.cell (p := ⟨wo.heap.size, 1, none⟩) (Array.getElem?_eq_some_iff.1 HX.out).1).trans (cell_of_row _ _ _ _ _ _ HX.out); have e2 : ∀ o, (wx.alloc o).cell? ⟨wo.heap.size, 2, none⟩ = some (.int .i64 f2) := fun o => ((Below.refl _ _).alloc (Nat.le_refl _) o |>.cell (p := ⟨wo.heap.size, 2, none⟩) (Array.getElem?_eq_some_iff.1 HX.out).1).trans (cell_of_row _ _ _ _ _ _ HX.out); have hgx : AnsRow (wx.alloc (.cells noAns 44 (0, 0))) wx.heap.size := ansRow_new wx; have HBA := Lib.hid (show Below wo.heap.size wo (wx.alloc (.cells noAns 44 (0, 0))) from HBX.out.alloc HBX.out.size _); have HGX := Lib.hid hgx; clear hX hgx))
    refine (entries_has (optN b : Nat) g w.heap.size job1 (schedS b T) gs.length (by omega) _ (HC.out.below HBA.out)).mono ?_;rintro e w3 ⟨h, E, rfl, hrow, hE, hb3⟩;obtain ⟨ga, hga⟩ : ∃ ga, ga = wx.heap.size := ⟨_, rfl⟩
    rw [← hga] at HGX ⊢
    have hr3 : w3.heap[ga]? = some (.cells (ansV (.slice none 0 0)) 44 (0, 0)) := (hb3.block ga (Array.getElem?_eq_some_iff.1 HGX.out).1).trans HGX.out;have hgo : wo.heap.size ≤ ga := by rw [hga]; exact HBX.out.size
    have HB3 := Lib.hid (below_of_le HBA.out hb3);have HL0 : Hid (∃ V, w3.heap[ga]? = some (.cells (ansV V) 44 (0, 0)) ∧ (Kd.int .i64).R 3 w3 wo.heap.size (fun _ => True) V (idsI 0)) := Lib.hid ⟨_, hr3, Kd.R_nil _ _ _ _ _⟩;have HH0 := Lib.hid hrow;have HE := Lib.hid hE;clear hr3 hb3 HGX HBA HBX HX e0 e1 e2 hga hrow hE;go_wp2_with fail
    go_loopw [49] (fun v49 wr => ∃ j : Nat, v49 = .int .i64 j ∧ j ≤ gs.length ∧ Hid (wr.heap[h]? = some (.cells (rowsOf E gs.length).toArray 131 (0, 0))) ∧ Hid (∃ V, wr.heap[ga]? = some (.cells (ansV V) 44 (0, 0)) ∧ (Kd.int .i64).R 3 wr wo.heap.size (fun _ => True) V (idsI j)) ∧ Hid (Below wo.heap.size wo wr)) (fun v49 _ => gs.length - (intOf v49).toNat)
    case atStart => exact ⟨0, rfl, by omega, HH0, HL0, HB3⟩
    case round =>
     obtain ⟨j, rfl, hj, HH, HL, HBl⟩ := hrel;clear HH0 HL0 HB3;obtain ⟨V, hV, hRV⟩ := HL.out;have HVV := Lib.hid hV;have HRV := Lib.hid hRV;clear hV hRV HL;by_cases hjm : j < gs.length
     ·have hjl : (j : Int) < gs.length := by omega
      have hj0 : (0 : Int) ≤ j := by omega
      have hdj : decide ((j : Int) < gs.length) = true := decide_eq_true hjl;have HRE := Lib.hid (rowsOf_range E gs.length (fun i hi => (HE.out i hi).1) HH.out j hjm);obtain ⟨h10, hei, h1c⟩ := HE.out j hjm;obtain ⟨Ej, hEj⟩ : ∃ Ej, Ej = E j := ⟨_, rfl⟩
      rw [← hEj] at HRE h10 hei h1c
      have H10 := Lib.hid h10;have HEI := Lib.hid hei;have H1C := Lib.hid h1c;have hgl := Lib.hid (Array.getElem?_eq_some_iff.1 HVV.out).1;have hhl := Lib.hid (Array.getElem?_eq_some_iff.1 HH.out).1;have HBLo := Lib.hid HBl.out.size;clear h10 hei h1c hEj;go_wp2_with (first | (refine wpList_load_mid rfl 131 _ rfl h (j * 10) rfl Ej.toList _ HRE.out Tryz.underlying131 rfl (by rw [entrySize, Array.length_toList, H10.out]) ?_) | (refine wpList_store_row rfl 131 _ _ rfl wr.heap.size Ej rfl rfl 131 _ (heap_alloc_new wr _) (by rw [entrySize, H10.out]) (by rw [H10.out]; rfl) H1C.out ?_; generalize hX : World.setRow _ _ _ = w5; have HX5 := Lib.hid (show w5.heap[wr.heap.size]? = some (.cells Ej 131 (0, 0)) by rw [← hX]; exact setRow_heap _ _ _ _ _ _ (heap_alloc_new wr _)); have HB5 := Lib.hid (show Below wr.heap.size wr w5 by rw [← hX]; exact below_setRow ((Below.refl _ _).alloc (Nat.le_refl _) _) (Nat.le_refl _) _); have e5 : w5.cell? ⟨wr.heap.size, 0, none⟩ = some (.int .i64 ((j : Int) + 1)) := (cell_of_row _ _ _ _ _ _ HX5.out).trans HEI.out; have HV5 := Lib.hid ((HB5.out.block ga hgl.out).trans HVV.out); have HH5 := Lib.hid ((HB5.out.block h hhl.out).trans HH.out); have c5 : w5.cell? ⟨ga, 2, none⟩ = some V := cell_of_row _ _ _ _ _ _ HV5.out; have HR5 := Lib.hid (Kd.R_below HRV.out HB5.out); have HBo5 := Lib.hid (below_of_le HBl.out HB5.out); have hgl5 := Lib.hid (Array.getElem?_eq_some_iff.1 HV5.out).1; have hhl5 := Lib.hid (Array.getElem?_eq_some_iff.1 HH5.out).1; clear hX) | ((with_reducible refine gate_builtin (b := .append) (xs := #[.tmp 54, .tmp 57]) rfl ?_); at_builtin; refine Kd.R_append (Kd.int .i64) (w0 := wo) wo.heap.size rfl (.tmp 54) (.tmp 57) 42 3 (.int .i64 0) 8 rfl Tryz.underlying42 info_intP rfl (by decide) (by omega) V (idsI j) ((j : Int) + 1) [.int .i64 ((j : Int) + 1)] (fun _ => True) (fun _ => False) rfl rfl ?aP ?aO ?aF ?aR ?aB ?aS ?aL ?_; (case aP => exact rfl); (case aO => exact fun k hk => hk.elim); (case aF => exact fun _ _ => trivial); (case aR => exact HR5.out); (case aB => exact HBo5.out); (case aS => exact HBo5.out.size); (case aL => rw [idsI_len]; omega); intro v7 w7 ho hb hg hat; obtain ⟨A7, k7, rfl⟩ := Kd.R_slice ho; have HV7 := Lib.hid ((hg.block ga hgl5.out (Kd.R_ne HR5.out HV5.out (by decide))).trans HV5.out); have HH7 := Lib.hid ((hg.block h hhl5.out (Kd.R_ne HR5.out HH5.out (by decide))).trans HH5.out); have c7 : w7.cell? ⟨ga, 2, none⟩ = some V := cell_of_row _ _ _ _ _ _ HV7.out; have f7 : w7.frozen? ⟨ga, 2, none⟩ = false := (by simp [World.frozen?, HV7.out]); have l7 : (idsI j ++ [(j : Int) + 1]).length = (idsI j).length + 1 := (by simp); have ho2 := ho; rw [l7] at ho2; have HO7 := Lib.hid ho2; have HB7 := Lib.hid hb; clear ho ho2 hb hg hat l7))
      refine ⟨⟨j + 1, by push_cast; rfl, by omega, Lib.hid ?_, Lib.hid ⟨.slice A7 ((idsI j).length + 1) k7, ?_, ?_⟩, Lib.hid ?_⟩, by simp [intOf]; omega⟩
      ·rw [heap_setCell_other _ _ _ _ (show h ≠ ga from fun e => by
        have h1 := HH7.out;rw [e, HV7.out] at h1;simp only [Option.some.injEq, Obj.cells.injEq] at h1;exact absurd h1.2.1 (by decide))]
       exact HH7.out
      ·exact heap_setCell_same _ _ _ _ _ _ HV7.out
      ·rw [idsI_succ];exact Kd.R_set HO7.out HV7.out (by decide) _ _
      ·exact HB7.out.setCell hgo _
     ·obtain rfl : j = gs.length := by omega
      have hdj : decide ((gs.length : Int) < gs.length) = false := decide_eq_false (by omega);have HROW : Hid (wr.heap[ga]? = some (.cells #[.bool false, .int .i64 0, V, .bool false, .int .i64 0, .int .u64 0, .int .u64 0, .int .u64 0, .int .u64 0, .int .u64 0, .int .u64 0, .bool false] 44 (0, 0))) := Lib.hid HVV.out;have HV4 := Lib.hid (far_V HRV.out HUL.out HBL.out);have HC4 := Lib.hid (HC.out.below HBl.out);have HB4 := Lib.hid (below_of_le HB.out HBl.out);have HR4 := Lib.hid (Kd.R_step HRW.out (fun k hk _ => HBl.out.block k hk));go_wp2_with (first | (refine wpList_load_row rfl 44 _ rfl ga rfl _ _ _ _ HROW.out Tryz.underlying44 rfl ansSize ?_) | ((with_reducible refine gate_builtin (b := .append) (xs := #[.tmp 68, .tmp 70]) rfl ?_); at_builtin; refine Kd.R_append kAns (w0 := w) w.heap.size rfl (.tmp 68) (.tmp 70) 38 44 (.agg noAns) 112 rfl Tryz.underlying38 info_ansP rfl (by decide) (by omega) u6 xsO ((⟨false, 0, idsI gs.length, gotT none, false⟩ : Ans)) (Ans.row ((⟨false, 0, idsI gs.length, gotT none, false⟩ : Ans)) (V)) (fun _ => True) (fun k => some k ≠ u6.ownBlock) rfl rfl ?aP ?aO ?aF ?aR ?aB ?aS ?aL ?_; (case aP => exact kAns_mkM HV4.out); (case aO => exact fun k hk => ⟨trivial, hk⟩); (case aF => exact fun _ _ => trivial); (case aR => exact Kd.R_mono HR4.out (fun _ _ => trivial)); (case aB => exact HB4.out); (case aS => exact HB4.out.size); (case aL => omega); intro v9 w9 ho hb hg hat; have HO9 := Lib.hid ho; have HB9 := Lib.hid hb; have HG9 := Lib.hid hg; clear ho hb hg hat))
      refine ⟨⟨i + 1, by push_cast; rfl, by omega, Lib.hid (by rw [HGS.out]; have h := HC4.out.grownR HR4.out HG9.out (by decide); exact h), Lib.hid (by rw [HSC.out]; have h := HO9.out; exact h), HB9⟩, by simp [intOf]; omega⟩
   ·obtain rfl := hk0;by_cases hin : 1 ≤ f2 ∧ f2 ≤ gs.length
    ·obtain ⟨j, rfl⟩ : ∃ j : Nat, f2 = (j : Int) + 1 := ⟨(f2 - 1).toNat, by omega⟩
     have hjm : j < gs.length := by omega
     have hgj := HTK.out j hjm;obtain ⟨p0, p1, p2, p3, p4, p5, p6, p7, hp⟩ : ∃ p0 p1 p2 p3 p4 p5 p6 p7, gotT (some (schedS b T j)) = (p0, p1, p2, p3, p4, p5, p6, p7) := ⟨_, _, _, _, _, _, _, _, rfl⟩
     have HSC2 : Hid (scriptA b [] (T.take (i + 1)) = xsO ++ [⟨true, (j : Int) + 1, [], (p0, p1, p2, p3, p4, p5, p6, p7), true⟩]) := Lib.hid (by
      rw [HSC.out];unfold stepA;rw [if_neg (show ¬ (3 : Int) = 0 by decide), if_neg (show ¬ (3 : Int) = 2 by decide), if_pos rfl, if_pos hin];have e : ((j : Int) + 1).toNat - 1 = j := by omega
      dsimp only;rw [e, hgj, hp])
     have HGS2 : Hid (gotsT b (T.take (i + 1)) = gs) := Lib.hid (by rw [HGS.out]; unfold okT; rw [if_neg (show ¬ (3 : Int) = 0 by decide), List.append_nil]);have hag : (#[Value.bool true, .int .i64 ((j : Int) + 1), .slice none 0 0] ++ Cron.gotCells (some (schedS b T j)) ++ #[Value.bool true]) = #[.bool true, .int .i64 ((j : Int) + 1), .slice none 0 0, .bool p0, .int .i64 p1, .int .u64 p2, .int .u64 p3, .int .u64 p4, .int .u64 p5, .int .u64 p6, .int .u64 p7, .bool true] := by rw [gotT_cells, hp]; rfl
     have HEN := Lib.hid (fun sch w' hs => entryG_any ((j : Int) + 1) (by omega) (schedS b T j) sch job1 job1 w' hs);rw [hag] at HEN;clear HSC HGS HNW HTK hgj hp hag;have HSC := HSC2;have HGS := HGS2;clear HSC2 HGS2;go_wp2_with (first | (refine wpList_load_mid rfl 41 _ rfl q (i * 3) rfl [.int .i64 3, .string f1, .int .i64 ((j : Int) + 1)] _ HRG.out Tryz.underlying41 rfl stepSize ?_) | (refine wpList_store_row rfl 41 _ _ rfl wo.heap.size #[.int .i64 3, .string f1, .int .i64 ((j : Int) + 1)] rfl rfl 41 _ (heap_alloc_new wo _) stepSize rfl (by simp [Value.oneCell']) ?_; generalize hX : World.setRow _ _ _ = wx; have HX := Lib.hid (show wx.heap[wo.heap.size]? = some (.cells #[.int .i64 3, .string f1, .int .i64 ((j : Int) + 1)] 41 (0, 0)) by rw [← hX]; exact setRow_heap _ _ _ _ _ _ (heap_alloc_new wo _)); have HBX := Lib.hid (show Below wo.heap.size wo wx by rw [← hX]; exact below_setRow ((Below.refl _ _).alloc (Nat.le_refl _) _) (Nat.le_refl _) _); have e0 : ∀ o, (wx.alloc o).cell? ⟨wo.heap.size, 0, none⟩ = some (.int .i64 3) := fun o => ((Below.refl _ _).alloc (Nat.le_refl _) o |>.cell (p := ⟨wo.heap.size, 0, none⟩) (Array.getElem?_eq_some_iff.1 HX.out).1).trans (cell_of_row _ _ _ _ _ _ HX.out); have e1 : ∀ o, (wx.alloc o).cell? ⟨wo.heap.size, 1, none⟩ = some (.string f1) := fun o => ((Below.refl _ _).alloc (Nat.le_refl _) o |>.cell (p := ⟨wo.heap.size, 1, none⟩) (Array.getElem?_eq_some_iff.1 HX.out).1).trans (cell_of_row _ _ _ _ _ _ HX.out); have e2 : ∀ o, (wx.alloc o).cell? ⟨wo.heap.size, 2, none⟩ = some (.int .i64 ((j : Int) + 1)) := fun o => ((Below.refl _ _).alloc (Nat.le_refl _) o |>.cell (p := ⟨wo.heap.size, 2, none⟩) (Array.getElem?_eq_some_iff.1 HX.out).1).trans (cell_of_row _ _ _ _ _ _ HX.out); have hgx : AnsRow (wx.alloc (.cells noAns 44 (0, 0))) wx.heap.size := ansRow_new wx; have HBA := Lib.hid (show Below wo.heap.size wo (wx.alloc (.cells noAns 44 (0, 0))) from HBX.out.alloc HBX.out.size _); have HGX := Lib.hid hgx; clear hX hgx))
     refine (find_has (optN b : Nat) g w.heap.size job1 (schedS b T) gs.length (by omega) j hjm _ (HC.out.below HBA.out)).mono ?_;rintro e w3 ⟨sch, rfl, hsg, hb3⟩;obtain ⟨ga, hga⟩ : ∃ ga, ga = wx.heap.size := ⟨_, rfl⟩
     rw [← hga] at HGX ⊢
     have hr0 : w3.heap[ga]? = some (.cells noAns 44 (0, 0)) := (hb3.block ga (Array.getElem?_eq_some_iff.1 HGX.out).1).trans HGX.out;have hgo : wo.heap.size ≤ ga := by rw [hga]; exact HBX.out.size
     have hgw : w.heap.size ≤ ga := Nat.le_trans HB.out.size hgo;have HB2 := Lib.hid (below_of_le HBA.out hb3);have HR0 := Lib.hid hr0;have HSG := Lib.hid (hsg.below hb3);clear hr0 hb3 HGX HBA HBX HX e0 e1 e2 hga hsg;go_wp2_with fail
     refine (HEN.out sch w3 HSG.out).mono ?_;rintro e w5 ⟨rfl, hb5⟩;have hr3 := (hb5.block ga (Array.getElem?_eq_some_iff.1 HR0.out).1).trans HR0.out;have HB5 := Lib.hid (below_of_le HB2.out hb5);clear hb5 HR0 HB2 HEN HSG;go_wp2_with (first | (refine wpList_store_row rfl 44 _ _ rfl ga #[.bool true, .int .i64 ((j : Int) + 1), .slice none 0 0, .bool p0, .int .i64 p1, .int .u64 p2, .int .u64 p3, .int .u64 p4, .int .u64 p5, .int .u64 p6, .int .u64 p7, .bool true] rfl rfl 44 _ hr3 ansSize rfl (by simp [Value.oneCell']) ?_; generalize hY : World.setRow _ _ _ = w4; have HROW := Lib.hid (show w4.heap[ga]? = some (.cells #[.bool true, .int .i64 ((j : Int) + 1), .slice none 0 0, .bool p0, .int .i64 p1, .int .u64 p2, .int .u64 p3, .int .u64 p4, .int .u64 p5, .int .u64 p6, .int .u64 p7, .bool true] 44 (0, 0)) by rw [← hY]; exact setRow_heap _ _ _ _ _ _ hr3); have HBo := Lib.hid (show Below wo.heap.size wo w4 by rw [← hY]; exact below_setRow HB5.out hgo _); have HR4 := Lib.hid (Kd.R_step HRW.out (fun k hk _ => HBo.out.block k hk)); have HC4 := Lib.hid (HC.out.below HBo.out); have HB4 := Lib.hid (below_of_le HB.out HBo.out); have HV4 : Hid ((Kd.int .i64).R 3 w4 w.heap.size (fun k => some k ≠ u6.ownBlock) (.slice none 0 0) []) := Lib.hid (Kd.R_nil _ _ _ _ _); clear hY) | (refine wpList_load_row rfl 44 _ rfl ga rfl _ _ _ _ HROW.out Tryz.underlying44 rfl ansSize ?_) | ((with_reducible refine gate_builtin (b := .append) (xs := #[.tmp 68, .tmp 70]) rfl ?_); at_builtin; refine Kd.R_append kAns (w0 := w) w.heap.size rfl (.tmp 68) (.tmp 70) 38 44 (.agg noAns) 112 rfl Tryz.underlying38 info_ansP rfl (by decide) (by omega) u6 xsO ((⟨true, (j : Int) + 1, [], (p0, p1, p2, p3, p4, p5, p6, p7), true⟩ : Ans)) (Ans.row ((⟨true, (j : Int) + 1, [], (p0, p1, p2, p3, p4, p5, p6, p7), true⟩ : Ans)) (.slice none 0 0)) (fun _ => True) (fun k => some k ≠ u6.ownBlock) rfl rfl ?aP ?aO ?aF ?aR ?aB ?aS ?aL ?_; (case aP => exact kAns_mkM HV4.out); (case aO => exact fun k hk => ⟨trivial, hk⟩); (case aF => exact fun _ _ => trivial); (case aR => exact Kd.R_mono HR4.out (fun _ _ => trivial)); (case aB => exact HB4.out); (case aS => exact HB4.out.size); (case aL => omega); intro v9 w9 ho hb hg hat; have HO9 := Lib.hid ho; have HB9 := Lib.hid hb; have HG9 := Lib.hid hg; clear ho hb hg hat))
     refine ⟨⟨i + 1, by push_cast; rfl, by omega, Lib.hid (by rw [HGS.out]; have h := HC4.out.grownR HR4.out HG9.out (by decide); exact h), Lib.hid (by rw [HSC.out]; have h := HO9.out; exact h), HB9⟩, by simp [intOf]; omega⟩
    ·have HSC2 : Hid (scriptA b [] (T.take (i + 1)) = xsO ++ [noA]) := Lib.hid (by
      rw [HSC.out];unfold stepA;rw [if_neg (show ¬ (3 : Int) = 0 by decide), if_neg (show ¬ (3 : Int) = 2 by decide), if_pos rfl, if_neg hin])
     have HGS2 : Hid (gotsT b (T.take (i + 1)) = gs) := Lib.hid (by rw [HGS.out]; unfold okT; rw [if_neg (show ¬ (3 : Int) = 0 by decide), List.append_nil]);clear HSC HGS HNW HTK;have HSC := HSC2;have HGS := HGS2;clear HSC2 HGS2;go_wp2_with (first | (refine wpList_load_mid rfl 41 _ rfl q (i * 3) rfl [.int .i64 3, .string f1, .int .i64 f2] _ HRG.out Tryz.underlying41 rfl stepSize ?_) | (refine wpList_store_row rfl 41 _ _ rfl wo.heap.size #[.int .i64 3, .string f1, .int .i64 f2] rfl rfl 41 _ (heap_alloc_new wo _) stepSize rfl (by simp [Value.oneCell']) ?_; generalize hX : World.setRow _ _ _ = wx; have HX := Lib.hid (show wx.heap[wo.heap.size]? = some (.cells #[.int .i64 3, .string f1, .int .i64 f2] 41 (0, 0)) by rw [← hX]; exact setRow_heap _ _ _ _ _ _ (heap_alloc_new wo _)); have HBX := Lib.hid (show Below wo.heap.size wo wx by rw [← hX]; exact below_setRow ((Below.refl _ _).alloc (Nat.le_refl _) _) (Nat.le_refl _) _); have e0 : ∀ o, (wx.alloc o).cell? ⟨wo.heap.size, 0, none⟩ = some (.int .i64 3) := fun o => ((Below.refl _ _).alloc (Nat.le_refl _) o |>.cell (p := ⟨wo.heap.size, 0, none⟩) (Array.getElem?_eq_some_iff.1 HX.out).1).trans (cell_of_row _ _ _ _ _ _ HX.out); have e1 : ∀ o, (wx.alloc o).cell? ⟨wo.heap.size, 1, none⟩ = some (.string f1) := fun o => ((Below.refl _ _).alloc (Nat.le_refl _) o |>.cell (p := ⟨wo.heap.size, 1, none⟩) (Array.getElem?_eq_some_iff.1 HX.out).1).trans (cell_of_row _ _ _ _ _ _ HX.out); have e2 : ∀ o, (wx.alloc o).cell? ⟨wo.heap.size, 2, none⟩ = some (.int .i64 f2) := fun o => ((Below.refl _ _).alloc (Nat.le_refl _) o |>.cell (p := ⟨wo.heap.size, 2, none⟩) (Array.getElem?_eq_some_iff.1 HX.out).1).trans (cell_of_row _ _ _ _ _ _ HX.out); have hgx : AnsRow (wx.alloc (.cells noAns 44 (0, 0))) wx.heap.size := ansRow_new wx; have HBA := Lib.hid (show Below wo.heap.size wo (wx.alloc (.cells noAns 44 (0, 0))) from HBX.out.alloc HBX.out.size _); have HGX := Lib.hid hgx; clear hX hgx))
     refine (findnone_has (optN b : Nat) g w.heap.size job1 (schedS b T) gs.length (by omega) f2 hin _ (HC.out.below HBA.out)).mono ?_;rintro e w3 ⟨rfl, hb3⟩;obtain ⟨ga, hga⟩ : ∃ ga, ga = wx.heap.size := ⟨_, rfl⟩
     rw [← hga] at HGX ⊢
     have hr0 : w3.heap[ga]? = some (.cells noAns 44 (0, 0)) := (hb3.block ga (Array.getElem?_eq_some_iff.1 HGX.out).1).trans HGX.out;have hgo : wo.heap.size ≤ ga := by rw [hga]; exact HBX.out.size
     have hgw : w.heap.size ≤ ga := Nat.le_trans HB.out.size hgo;have HB2 := Lib.hid (below_of_le HBA.out hb3);have HR0 := Lib.hid hr0;clear hr0 hb3 HGX HBA HBX HX e0 e1 e2 hga;go_wp2_with fail
     refine (entry_none w3).mono ?_;rintro e w5 ⟨rfl, hb5⟩;have hr3 := (hb5.block ga (Array.getElem?_eq_some_iff.1 HR0.out).1).trans HR0.out;have HB5 := Lib.hid (below_of_le HB2.out hb5);clear hb5 HR0 HB2;unfold noAns;go_wp2_with (first | (refine wpList_store_row rfl 44 _ _ rfl ga #[.bool false, .int .i64 0, .slice none 0 0, .bool false, .int .i64 0, .int .u64 0, .int .u64 0, .int .u64 0, .int .u64 0, .int .u64 0, .int .u64 0, .bool false] rfl rfl 44 _ hr3 ansSize rfl (by simp [Value.oneCell']) ?_; generalize hY : World.setRow _ _ _ = w4; have HROW := Lib.hid (show w4.heap[ga]? = some (.cells #[.bool false, .int .i64 0, .slice none 0 0, .bool false, .int .i64 0, .int .u64 0, .int .u64 0, .int .u64 0, .int .u64 0, .int .u64 0, .int .u64 0, .bool false] 44 (0, 0)) by rw [← hY]; exact setRow_heap _ _ _ _ _ _ hr3); have HBo := Lib.hid (show Below wo.heap.size wo w4 by rw [← hY]; exact below_setRow HB5.out hgo _); have HR4 := Lib.hid (Kd.R_step HRW.out (fun k hk _ => HBo.out.block k hk)); have HC4 := Lib.hid (HC.out.below HBo.out); have HB4 := Lib.hid (below_of_le HB.out HBo.out); have HV4 : Hid ((Kd.int .i64).R 3 w4 w.heap.size (fun k => some k ≠ u6.ownBlock) (.slice none 0 0) []) := Lib.hid (Kd.R_nil _ _ _ _ _); clear hY) | (refine wpList_load_row rfl 44 _ rfl ga rfl _ _ _ _ HROW.out Tryz.underlying44 rfl ansSize ?_) | ((with_reducible refine gate_builtin (b := .append) (xs := #[.tmp 68, .tmp 70]) rfl ?_); at_builtin; refine Kd.R_append kAns (w0 := w) w.heap.size rfl (.tmp 68) (.tmp 70) 38 44 (.agg noAns) 112 rfl Tryz.underlying38 info_ansP rfl (by decide) (by omega) u6 xsO (noA) (Ans.row (noA) (.slice none 0 0)) (fun _ => True) (fun k => some k ≠ u6.ownBlock) rfl rfl ?aP ?aO ?aF ?aR ?aB ?aS ?aL ?_; (case aP => exact kAns_mkM HV4.out); (case aO => exact fun k hk => ⟨trivial, hk⟩); (case aF => exact fun _ _ => trivial); (case aR => exact Kd.R_mono HR4.out (fun _ _ => trivial)); (case aB => exact HB4.out); (case aS => exact HB4.out.size); (case aL => omega); intro v9 w9 ho hb hg hat; have HO9 := Lib.hid ho; have HB9 := Lib.hid hb; have HG9 := Lib.hid hg; clear ho hb hg hat))
     refine ⟨⟨i + 1, by push_cast; rfl, by omega, Lib.hid (by rw [HGS.out]; have h := HC4.out.grownR HR4.out HG9.out (by decide); exact h), Lib.hid (by rw [HSC.out]; have h := HO9.out; exact h), HB9⟩, by simp [intOf]; omega⟩
  ·obtain rfl : i = T.length := by omega
   have hd : decide ((T.length : Int) < T.length) = false := decide_eq_false (by omega);go_wp2_with fail
   go_ret;refine ⟨u6, rfl, ?_, HB.out⟩;have h := HR.out;rw [List.take_length] at h;exact h
end Go.Proofs.YtmecbmgfacpecaaGreatDoor.Scr
