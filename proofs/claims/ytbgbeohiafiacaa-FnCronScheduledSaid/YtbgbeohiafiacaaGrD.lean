/- Lemmas and walks on the way to the law, merged by wip/tools/pack.py: Cron3, Cron4, Cron5. Conditions: none. -/
import Derived.Test.YtbgbeohiafiacaaGrC
import Derived.Laws.MakeOwn
namespace Go.Proofs.Ytbgbeohiafiacaa.Sched
open Go Go.RowKit Go.Proofs.Ytbgbeohiafiacaa.Cal Go.Proofs.YtbgbeohiafiacaaW.PrintWords Go.Proofs.YtbgbeohiafiacaaW.PrintLast Go.MuLone
set_option linter.unusedVariables false
set_option linter.unusedSimpArgs false

theorem entrySize : (Try.prog.info? 78).map (·.size) = some 10 := by kernel_rfl
theorem info_entry : ∃ i, Try.prog.info? 78 = some i ∧ i.size = 10 ∧ i.bytes = 104 ∧ ∃ z, i.zero = some z := by
  have h1 : (Try.prog.info? 78).map (fun i => (i.size, i.bytes, i.zero.isSome)) = some (10, 104, true) := by kernel_rfl
  cases h : Try.prog.info? 78 with
  | none => rw [h] at h1; cases h1
  | some i =>
    rw [h] at h1
    simp only [Option.map_some, Option.some.injEq, Prod.mk.injEq] at h1
    exact ⟨i, rfl, h1.1, h1.2.1, Option.isSome_iff_exists.1 h1.2.2⟩

/-- the first j rows, one behind the other -/
def rowsOf (E : Nat → Array Value) (j : Nat) : List Value := (List.range j).flatMap fun i => (E i).toList
theorem rowsOf_len (E : Nat → Array Value) (n : Nat) (hE : ∀ i, i < n → (E i).size = 10) : ∀ j, j ≤ n → (rowsOf E j).length = j * 10 := by
  intro j
  induction j with
  | zero => intro _; rfl
  | succ j ih =>
    intro hj
    have := ih (by omega)
    unfold rowsOf at this ⊢
    rw [List.range_succ, List.flatMap_append, List.length_append, this]
    simp [hE j (by omega)]
    omega
theorem rowsOf_succ (E : Nat → Array Value) (j : Nat) : rowsOf E (j + 1) = rowsOf E j ++ (E j).toList := by
  unfold rowsOf
  rw [List.range_succ, List.flatMap_append]
  simp
/-- the row that is filled, j entries in it -/
def fillRow (E : Nat → Array Value) (Z : Array Value) (j : Nat) : Array Value := (rowsOf E j ++ Z.toList.drop (j * 10)).toArray
theorem fillRow_size (E : Nat → Array Value) (Z : Array Value) (n : Nat) (hZ : Z.size = n * 10) (hE : ∀ i, i < n → (E i).size = 10) (j : Nat) (hj : j ≤ n) : (fillRow E Z j).size = n * 10 := by
  unfold fillRow
  simp only [List.size_toArray, List.length_append, rowsOf_len E n hE j hj, List.length_drop, Array.length_toList, hZ]
  have : j * 10 ≤ n * 10 := Nat.mul_le_mul_right _ hj
  omega
theorem fillRow_step (E : Nat → Array Value) (Z : Array Value) (n : Nat) (hZ : Z.size = n * 10) (hE : ∀ i, i < n → (E i).size = 10) (j : Nat) (hj : j < n) :
    ((fillRow E Z j).toList.take (j * 10) ++ (E j).toList ++ (fillRow E Z j).toList.drop (j * 10 + (E j).size)).toArray = fillRow E Z (j + 1) := by
  have hl := rowsOf_len E n hE j (by omega)
  unfold fillRow
  congr 1
  rw [rowsOf_succ, hE j hj]
  show List.take (j * 10) (rowsOf E j ++ List.drop (j * 10) Z.toList) ++ (E j).toList ++ List.drop (j * 10 + 10) (rowsOf E j ++ List.drop (j * 10) Z.toList) = _
  rw [← hl, List.take_left, List.drop_append, List.drop_drop, hl]
  have e1 : List.drop (j * 10 + 10) (rowsOf E j) = [] := List.drop_eq_nil_of_le (by rw [hl]; omega)
  rw [e1]
  congr 2
  show List.drop _ _ = _
  congr 1
  omega

/-- the Cron's entries, as they lie there -/
def Ents (w : World) (B : Nat) (v : Value) (n : Nat) (ps : List Value) (E : Nat → Array Value) : Prop :=
  w.ownsRow B 127 1 v n ps ∧ ∀ i, i < n → (E i).size = 10 ∧ (E i).all (·.oneCell') = true ∧ ∃ b, ps[i]? = some (.pointer (some ⟨b, 0, none⟩)) ∧ w.heap[b]? = some (.cells (E i) 78 (0, 0))
theorem Ents.below {w w' : World} {B : Nat} {v : Value} {n : Nat} {ps : List Value} {E : Nat → Array Value} (h : Ents w B v n ps E) (hb : Below w.heap.size w w') : Ents w' B v n ps E := by
  refine ⟨ownsRow_same h.1 (fun b hv => hb.block b (h.1.lt b hv).2), fun i hi => ?_⟩
  obtain ⟨h1, h2, b, h3, h4⟩ := h.2 i hi
  exact ⟨h1, h2, b, h3, (hb.block b (Array.getElem?_eq_some_iff.1 h4).1).trans h4⟩

set_option maxRecDepth 100000 in
set_option maxHeartbeats 4000000 in
theorem snapshot_any (g B : Nat) (v : Value) (n : Nat) (hn : n ≤ 1000) (ps : List Value) (E : Nat → Array Value) (k m : Int) (w : World) (hg : w.heap[g]? = some (.cells (cronCells v k m) 125 (0, 0)))
    (hE : Ents w B v n ps E) :
    Calls Try.prog 69 #[.pointer (some ⟨g, 0, none⟩)] w fun e w' => ∃ h, e = .returned (.slice (some ⟨h, 0, none⟩) n n) ∧ w.heap.size ≤ h ∧ w'.heap[h]? = some (.cells (rowsOf E n).toArray 78 (0, 0)) ∧ Below w.heap.size w w' := by
  have c0 : w.cell? ⟨g, 0, none⟩ = some v := cell_of_row _ _ _ _ _ _ hg
  have hgl : g < w.heap.size := (Array.getElem?_eq_some_iff.1 hg).1
  obtain ⟨i, hi, hs, hy, z, hz⟩ := info_entry
  obtain ⟨Z, hZ⟩ : ∃ Z, Z = madeCells z.cells (n * 10) := ⟨_, rfl⟩
  have hZs : Z.size = n * 10 := by rw [hZ]; exact size_madeCells _ _
  have hmk : ∀ w' : World, (Instr.makeSlice 138 (.int .i64 (n : Int)) (.int .i64 (n : Int))).run Try.prog w' = .ok (.slice (some ⟨w'.heap.size, 0, none⟩) n n) (w'.alloc (.cells Z 78)) := by
    intro w'
    have := run_make (P := Try.prog) w' 138 78 i z Try.underlying138 hi hz .i64 .i64 n n (by omega) (by omega) (by rw [hy]; omega) (by omega)
    rw [this, hs, Int.toNat_natCast, hZ]
  clear hi hs hy hz hZ
  obtain ⟨A, cap, hv, hA⟩ : ∃ A cap, v = .slice A n cap ∧ (0 < n → ∃ q, A = some ⟨q, 0, none⟩) := by
    rcases hE.1.2 with ⟨h1, h2⟩ | ⟨q, cap, cur, h1, _⟩
    · exact ⟨none, 0, by rw [h1, h2], fun h => by omega⟩
    · exact ⟨_, cap, h1, fun _ => ⟨q, rfl⟩⟩
  have HE := Lib.hid hE
  subst hv
  clear hE hg
  go_enter Try.func69, Try.ntmps69
  go_wp2_with fail
  have hr0 : Hid ((w.alloc (.cells Z 78)).heap[w.heap.size]? = some (.cells (fillRow E Z 0) 78 (0, 0))) := Lib.hid (by
    have e : fillRow E Z 0 = Z := by simp [fillRow, rowsOf]
    rw [e]
    exact heap_alloc_new w _)
  have hb0 : Below w.heap.size w (w.alloc (.cells Z 78)) := (Below.refl _ _).alloc (Nat.le_refl _) _
  go_loopw [17] (fun v17 wr => ∃ j : Nat, v17 = .int .i64 j ∧ j ≤ n ∧ Hid (wr.heap[w.heap.size]? = some (.cells (fillRow E Z j) 78 (0, 0))) ∧ Below w.heap.size w wr) (fun v17 _ => n - (intOf v17).toNat)
  case atStart => exact ⟨0, rfl, by omega, hr0, hb0⟩
  case round =>
    obtain ⟨j, rfl, hj, HR, hbr⟩ := hrel
    clear hr0 hb0
    by_cases hjn : j < n
    · obtain ⟨q, rfl⟩ := hA (by omega)
      obtain ⟨h10, h1c, b, hps, hbw⟩ := HE.out.2 j hjn
      have cj : wr.cell? ⟨q, j, none⟩ = some (.pointer (some ⟨b, 0, none⟩)) := by
        have hc := HE.out.1.cells (g := q) rfl j _ hps
        have hq := (HE.out.1.lt q rfl).2
        rw [Addr.add_mid, Nat.zero_add] at hc
        exact (hbr.cell (p := ⟨q, j, none⟩) hq).trans hc
      have HBW := Lib.hid ((hbr.block b (Array.getElem?_eq_some_iff.1 hbw).1).trans hbw)
      have H10 := Lib.hid h10
      have H1C := Lib.hid h1c
      have HFS := Lib.hid (fillRow_size E Z n hZs (fun i hi => (HE.out.2 i hi).1) j (by omega))
      have HST := Lib.hid (fillRow_step E Z n hZs (fun i hi => (HE.out.2 i hi).1) j hjn)
      have hjl : (j : Int) < n := by omega
      have hj0 : (0 : Int) ≤ j := by omega
      clear hps hbw h10 h1c hmk
      obtain ⟨Ej, hEj⟩ : ∃ Ej, Ej = E j := ⟨_, rfl⟩
      rw [← hEj] at HBW H10 H1C HST
      clear hEj
      have hd : decide ((j : Int) < n) = true := decide_eq_true hjl
      go_wp2_with (first | (refine wpList_load_row rfl 78 _ rfl b rfl _ _ _ _ HBW.out Try.underlying78 rfl (by rw [entrySize, H10.out]) ?_) | (refine wpList_store_at rfl 78 _ _ rfl w.heap.size (j * 10) Ej rfl rfl 78 _ HR.out (by rw [entrySize, H10.out]) (by rw [HFS.out, H10.out]; omega) H1C.out ?_))
      refine ⟨⟨j + 1, by push_cast; rfl, by omega, Lib.hid ?_, below_setRow hbr (Nat.le_refl _) _⟩, by simp [intOf]; omega⟩
      rw [← List.append_assoc, HST.out]
      exact setRow_heap _ _ _ _ _ _ HR.out
    · obtain rfl : j = n := by omega
      have hd : decide ((j : Int) < j) = false := decide_eq_false (by omega)
      go_wp2_with fail
      go_ret
      refine ⟨w.heap.size, rfl, Nat.le_refl _, ?_, hbr⟩
      have e : fillRow E Z j = (rowsOf E j).toArray := by
        unfold fillRow
        rw [List.drop_eq_nil_of_le (by simp [hZs]), List.append_nil]
      rw [← e]
      exact HR.out
end Go.Proofs.Ytbgbeohiafiacaa.Sched

namespace Go.Proofs.Ytbgbeohiafiacaa.Sched
open Go Go.RowKit Go.Proofs.Ytbgbeohiafiacaa.Cal Go.Proofs.YtbgbeohiafiacaaW.PrintWords Go.Proofs.YtbgbeohiafiacaaW.PrintLast Go.MuLone
set_option linter.unusedVariables false
set_option linter.unusedSimpArgs false

set_option maxRecDepth 100000 in
set_option maxHeartbeats 4000000 in
theorem entries_any (g B : Nat) (v : Value) (n : Nat) (hn : n ≤ 1000) (ps : List Value) (E : Nat → Array Value) (k : Int) (w : World) (hg : w.heap[g]? = some (.cells (cronCells v k 0) 125 (0, 0)))
    (hE : Ents w B v n ps E) :
    Calls Try.prog 54 #[.pointer (some ⟨g, 0, none⟩)] w fun e w' => ∃ h, e = .returned (.slice (some ⟨h, 0, none⟩) n n) ∧ w.heap.size ≤ h ∧ w'.heap[h]? = some (.cells (rowsOf E n).toArray 78 (0, 0)) ∧ Below w.heap.size w w' := by
  have hg0 := hg
  unfold cronCells at hg0
  have c7 : w.cell? ⟨g, 7, none⟩ = some (.int .i32 0) := cell_of_row _ _ _ _ _ _ hg0
  have c6 : w.cell? ⟨g, 6, none⟩ = some (.bool false) := cell_of_row _ _ _ _ _ _ hg0
  have f7 : w.frozen? ⟨g, 7, none⟩ = false := by simp [World.frozen?, hg0]
  have hgl : g < w.heap.size := (Array.getElem?_eq_some_iff.1 hg).1
  have HG := Lib.hid hg
  have HE := Lib.hid hE
  have hg1 : (w.setCell ⟨g, 7, none⟩ (.int .i32 1)).heap[g]? = some (.cells (cronCells v k 1) 125 (0, 0)) := heap_setCell_same _ _ _ _ _ _ hg
  have hk1 : ∀ c, c ≠ g → (w.setCell ⟨g, 7, none⟩ (.int .i32 1)).heap[c]? = w.heap[c]? := fun c hc => heap_setCell_other _ _ _ _ hc
  have hogne := own_ne hE.1 hg (by decide)
  have hE1 : Ents (w.setCell ⟨g, 7, none⟩ (.int .i32 1)) B v n ps E := by
    refine ⟨ownsRow_same hE.1 (fun b hb => hk1 b (fun h => hogne (by rw [← h]; exact hb))), fun i hi => ?_⟩
    obtain ⟨h1, h2, b, h3, h4⟩ := hE.2 i hi
    refine ⟨h1, h2, b, h3, (hk1 b (fun h => ?_)).trans h4⟩
    subst h
    rw [hg] at h4
    simp only [Option.some.injEq, Obj.cells.injEq] at h4
    exact absurd h4.2.1 (by decide)
  have HS := Lib.hid (snapshot_any g B v n hn ps E k 1 _ hg1 hE1)
  have HG1 := Lib.hid hg1
  have HK1 := Lib.hid hk1
  clear hg hg0 hE hg1 hk1 hE1 hogne
  go_enter_defers Try.func54, Try.ntmps54
  go_wp2_with (first | (go_at_call 48; refine (lock_free Try.muLib ⟨g, 7, none⟩ _ c7 f7).mono ?_; rintro e w' ⟨rfl, rfl⟩) | (go_at_call 69; refine HS.out.mono ?_; rintro e w2 ⟨h, rfl, hh, hrow, hb2⟩; have HH := Lib.hid hh; have HR := Lib.hid hrow; have HB2 := Lib.hid hb2; clear hh hrow hb2))
  have hs1 : (w.setCell ⟨g, 7, none⟩ (.int .i32 1)).heap.size = w.heap.size := by simp
  have hg2 : w2.heap[g]? = some (.cells (cronCells v k 1) 125 (0, 0)) := (HB2.out.block g (by rw [hs1]; exact hgl)).trans HG1.out
  have hhg : h ≠ g := by have := HH.out; omega
  refine leaves_cons (f := 49) (args := #[.pointer (some ⟨g, 7, none⟩)]) (by simp) (by simp [go_sem]) ?_
  refine (unlock_deferred Try.muLib ⟨g, 7, none⟩ .returning _ (cell_of_row _ _ _ _ _ _ hg2) (by simp [World.frozen?, hg2])).mono ?_
  rintro e u' w'' ⟨rfl, rfl, rfl⟩
  refine ⟨_, results_tmp rfl _ _ _, h, rfl, by have := HH.out; omega, ?_, ⟨HB2.out.os, HB2.out.tape, HB2.out.output, ?_, ?_⟩⟩
  · rw [heap_setCell_other _ _ _ _ hhg]
    exact HR.out
  · have := HB2.out.size
    simp at this ⊢
    exact this
  · intro c hc
    by_cases hcg : c = g
    · subst hcg
      rw [HG.out]
      exact heap_setCell_same _ _ _ _ _ _ hg2
    · rw [heap_setCell_other _ _ _ _ hcg, HB2.out.block c (by rw [hs1]; exact hc), HK1.out c hcg]

theorem rowsOf_range (E : Nat → Array Value) (n : Nat) (hE : ∀ i, i < n → (E i).size = 10) {w : World} {h : Nat} {t : TypeId} {fr : Nat × Nat} (hw : w.heap[h]? = some (.cells (rowsOf E n).toArray t fr)) (j : Nat) (hj : j < n) : w.rangeAt h (j * 10) (E j).toList := by
  intro i x hx
  have hi : i < 10 := by
    have := (List.getElem?_eq_some_iff.1 hx).1
    rw [Array.length_toList, hE j hj] at this
    exact this
  rw [cell_of_row w h (j * 10 + i) _ t fr hw]
  have key : ∀ m, j < m → m ≤ n → (rowsOf E m)[j * 10 + i]? = some x := by
    intro m
    induction m with
    | zero => intro h; omega
    | succ m ih =>
      intro h1 h2
      have hl := rowsOf_len E n hE m (by omega)
      rw [rowsOf_succ]
      by_cases hm : j < m
      · rw [List.getElem?_append_left (by rw [hl]; omega)]
        exact ih hm (by omega)
      · obtain rfl : j = m := by omega
        rw [List.getElem?_append_right (by rw [hl]; omega), hl]
        rw [show j * 10 + i - j * 10 = i by omega]
        exact hx
  simpa using key n hj (Nat.le_refl _)

set_option maxRecDepth 100000 in
set_option maxHeartbeats 4000000 in
theorem find_any (g B : Nat) (v : Value) (n : Nat) (hn : n ≤ 1000) (ps : List Value) (E : Nat → Array Value) (k : Int) (w : World) (hg : w.heap[g]? = some (.cells (cronCells v k 0) 125 (0, 0)))
    (hE : Ents w B v n ps E) (hID : ∀ i, i < n → (E i)[0]? = some (.int .i64 ((i : Int) + 1))) (k0 : Nat) (hk0 : k0 < n) :
    Calls Try.prog 32 #[.pointer (some ⟨g, 0, none⟩), .int .i64 ((k0 : Int) + 1)] w fun e w' => e = .returned (.agg (E k0)) ∧ Below w.heap.size w w' := by
  have HE := Lib.hid (fun o => (entries_any g B v n hn ps E k (w.alloc o) ((((Below.refl _ _).alloc (Nat.le_refl _) _).block g (Array.getElem?_eq_some_iff.1 hg).1).trans hg) (hE.below ((Below.refl _ _).alloc (Nat.le_refl _) _))))
  have HEN := Lib.hid hE.2
  have HID := Lib.hid hID
  clear hg hE hID
  go_enter Try.func32, Try.ntmps32
  go_wp2_with fail
  refine (HE.out _).mono ?_
  rintro e w2 ⟨h, rfl, hh, hrow, hb2⟩
  have hres : w2.heap[w.heap.size]? = some (.cells (entryCells 0 .nilIface .nilIface .nilIface) 78 (0, 0)) := (hb2.block w.heap.size (by simp)).trans (heap_alloc_new w _)
  have hbel : Below w.heap.size w w2 := below_of_le ((Below.refl _ _).alloc (Nat.le_refl _) _) hb2
  have hhw : w.heap.size + 1 ≤ h := by simpa using hh
  go_wp2_with fail
  have HR0 := Lib.hid hrow
  have HS0 := Lib.hid hres
  clear hrow hres hb2 HE hh
  go_loopw [10] (fun v10 wr => ∃ j : Nat, v10 = .int .i64 j ∧ j ≤ k0 ∧ Hid (wr.heap[h]? = some (.cells (rowsOf E n).toArray 78 (0, 0))) ∧ Hid (wr.heap[w.heap.size]? = some (.cells (entryCells 0 .nilIface .nilIface .nilIface) 78 (0, 0))) ∧ Below w.heap.size w wr) (fun v10 _ => n - (intOf v10).toNat)
  case atStart => exact ⟨0, rfl, by omega, HR0, HS0, hbel⟩
  case round =>
    obtain ⟨j, rfl, hj, HR, HS, hbr⟩ := hrel
    clear HR0 HS0 hbel
    have hjn : j < n := by omega
    obtain ⟨h10, h1c, -⟩ := HEN.out j hjn
    have hid := HID.out j hjn
    have HRG := Lib.hid (rowsOf_range E n (fun i hi => (HEN.out i hi).1) HR.out j hjn)
    obtain ⟨Ej, hEj⟩ : ∃ Ej, Ej = E j := ⟨_, rfl⟩
    rw [← hEj] at h10 h1c hid HRG
    have HEJ := Lib.hid hEj
    have H10 := Lib.hid h10
    have H1C := Lib.hid h1c
    have HI := Lib.hid hid
    have hhl := Lib.hid (show h < wr.heap.size from (Array.getElem?_eq_some_iff.1 HR.out).1)
    have hwl := Lib.hid (show w.heap.size < wr.heap.size from (Array.getElem?_eq_some_iff.1 HS.out).1)
    clear h10 h1c hid hEj
    have hjl : (j : Int) < n := by omega
    have hj0 : (0 : Int) ≤ j := by omega
    have hd : decide ((j : Int) < n) = true := decide_eq_true hjl
    by_cases hjk : j = k0
    · subst hjk
      go_wp2_with (first | (refine wpList_load_mid rfl 78 _ rfl h (j * 10) rfl Ej.toList _ HRG.out Try.underlying78 rfl (by rw [entrySize, Array.length_toList, H10.out]) ?_) | (refine wpList_store_row rfl 78 _ _ rfl wr.heap.size Ej rfl rfl 78 _ (heap_alloc_new wr _) (by rw [entrySize, H10.out]) (by rw [H10.out]; rfl) H1C.out ?_; generalize hX : World.setRow _ _ _ = wx; have HX := Lib.hid (show wx.heap[wr.heap.size]? = some (.cells Ej 78 (0, 0)) by rw [← hX]; exact setRow_heap _ _ _ _ _ _ (heap_alloc_new wr _)); have HBX := Lib.hid (show Below wr.heap.size wr wx by rw [← hX]; exact below_setRow ((Below.refl _ _).alloc (Nat.le_refl _) _) (Nat.le_refl _) _); have e0 : wx.cell? ⟨wr.heap.size, 0, none⟩ = some (.int .i64 ((j : Int) + 1)) := (cell_of_row _ _ _ _ _ _ HX.out).trans HI.out; clear hX) | (refine wpList_load_row rfl 78 _ rfl wr.heap.size rfl _ _ _ _ HX.out Try.underlying78 rfl (by rw [entrySize, H10.out]) ?_) | (refine wpList_store_row rfl 78 _ _ rfl w.heap.size Ej rfl rfl 78 _ ((HBX.out.block _ hwl.out).trans HS.out) (by rw [entrySize, H10.out]) (by rw [H10.out]; rfl) H1C.out ?_))
      refine bodyPost_ret (v := .agg Ej) ?_ rfl ⟨by rw [HEJ.out], ?_⟩
      · exact results_cell_row (fn := Try.f32) (p := 4) rfl _ _ w.heap.size _ _ _ _ rfl (setRow_heap _ _ _ _ _ _ ((HBX.out.block _ hwl.out).trans HS.out)) Try.underlying78 rfl (by rw [entrySize, H10.out])
      · exact below_setRow (below_of_le hbr HBX.out) (Nat.le_refl _) _
    · have hne : ((k0 : Int) + 1 == (j : Int) + 1) = false := by simp; omega
      go_wp2_with (first | (refine wpList_load_mid rfl 78 _ rfl h (j * 10) rfl Ej.toList _ HRG.out Try.underlying78 rfl (by rw [entrySize, Array.length_toList, H10.out]) ?_) | (refine wpList_store_row rfl 78 _ _ rfl wr.heap.size Ej rfl rfl 78 _ (heap_alloc_new wr _) (by rw [entrySize, H10.out]) (by rw [H10.out]; rfl) H1C.out ?_; generalize hX : World.setRow _ _ _ = wx; have HX := Lib.hid (show wx.heap[wr.heap.size]? = some (.cells Ej 78 (0, 0)) by rw [← hX]; exact setRow_heap _ _ _ _ _ _ (heap_alloc_new wr _)); have HBX := Lib.hid (show Below wr.heap.size wr wx by rw [← hX]; exact below_setRow ((Below.refl _ _).alloc (Nat.le_refl _) _) (Nat.le_refl _) _); have e0 : wx.cell? ⟨wr.heap.size, 0, none⟩ = some (.int .i64 ((j : Int) + 1)) := (cell_of_row _ _ _ _ _ _ HX.out).trans HI.out; clear hX))
      refine ⟨⟨j + 1, by push_cast; rfl, by omega, Lib.hid ((HBX.out.block _ hhl.out).trans HR.out), Lib.hid ((HBX.out.block _ hwl.out).trans HS.out), below_of_le hbr HBX.out⟩, by simp [intOf]; omega⟩
end Go.Proofs.Ytbgbeohiafiacaa.Sched

namespace Go.Proofs.Ytbgbeohiafiacaa.Sched
open Go Go.RowKit Go.Proofs.Ytbgbeohiafiacaa.Cal Go.Proofs.YtbgbeohiafiacaaW.PrintWords Go.Proofs.YtbgbeohiafiacaaW.PrintLast Go.MuLone
set_option linter.unusedVariables false
set_option linter.unusedSimpArgs false

/-- what has no type of a Cron's own stays -/
def Kept (w w' : World) : Prop := w.heap.size ≤ w'.heap.size ∧ ∀ (c : Nat) (cs : Array Value) (t : TypeId) (fr : Nat × Nat), w.heap[c]? = some (Obj.cells cs t fr) → t ≠ 125 → t ≠ 127 → w'.heap[c]? = some (Obj.cells cs t fr)
theorem Kept.of_below {w w' : World} (h : Below w.heap.size w w') : Kept w w' := ⟨h.size, fun c cs t fr hc _ _ => (h.block c (Array.getElem?_eq_some_iff.1 hc).1).trans hc⟩
theorem Kept.own {w w' : World} (h : Kept w w') {base : Nat} {e : TypeId} {size : Nat} {v : Value} {n : Nat} {xs : List Value} (ho : w.ownsRow base e size v n xs) (h1 : e ≠ 125) (h2 : e ≠ 127) : w'.ownsRow base e size v n xs := by
  refine ⟨ho.1, ?_⟩
  rcases ho.2 with hn | ⟨g, cap, cur, rfl, hbg, hgg, rest⟩
  · exact .inl hn
  · exact .inr ⟨g, cap, cur, rfl, hbg, h.2 _ _ _ _ hgg h1 h2, rest⟩
theorem SchIs.kept {w w' : World} {v : Value} {s : Sch} (h : SchIs w v s) (hk : Kept w w') : SchIs w' v s := by
  unfold SchIs at h ⊢
  split at h
  · rename_i he
    rw [if_pos he]
    exact h
  · rename_i he
    rw [if_neg he]
    obtain ⟨g, h1, h2⟩ := h
    exact ⟨g, h1, hk.2 _ _ _ _ h2 (by decide) (by decide)⟩
theorem SchIs.iface {w : World} {v : Value} {s : Sch} (h : SchIs w v s) : ∃ t x, v = .iface t x := by
  unfold SchIs at h
  split at h
  · exact ⟨_, _, h⟩
  · obtain ⟨g, h1, _⟩ := h
    exact ⟨_, _, h1⟩
theorem own_apart {w : World} {b1 b2 : Nat} {e1 e2 : TypeId} {s1 s2 : Nat} {v1 v2 : Value} {n1 n2 : Nat} {x1 x2 : List Value} (h1 : w.ownsRow b1 e1 s1 v1 n1 x1) (h2 : w.ownsRow b2 e2 s2 v2 n2 x2) (hne : e1 ≠ e2) (c : Nat) (hc : v1.ownBlock = some c) : v2.ownBlock ≠ some c := by
  rcases h1.2 with ⟨rfl, _⟩ | ⟨g, cap, cur, rfl, _, hgg, _⟩
  · cases hc
  · simp only [Value.ownBlock, Option.some.injEq] at hc
    subst hc
    exact own_ne h2 hgg hne

/-- a Cron that has the first i schedules -/
def CronHas (w : World) (g B : Nat) (job : Value) (S : Nat → Sch) (i : Nat) : Prop :=
  ∃ (v : Value) (ps : List Value) (sch : Nat → Value), B ≤ g ∧ w.heap[g]? = some (.cells (cronCells v i 0) 125 (0, 0)) ∧ Ents w B v i ps (fun j => entryCells ((j : Int) + 1) (sch j) job job) ∧ ∀ j, j < i → SchIs w (sch j) (S j)
theorem CronHas.below {w w' : World} {g B : Nat} {job : Value} {S : Nat → Sch} {i : Nat} (h : CronHas w g B job S i) (hb : Below w.heap.size w w') : CronHas w' g B job S i := by
  obtain ⟨v, ps, sch, h0, h1, h2, h3⟩ := h
  exact ⟨v, ps, sch, h0, (hb.block g (Array.getElem?_eq_some_iff.1 h1).1).trans h1, h2.below hb, fun j hj => (h3 j hj).below hb⟩
theorem cronHas_new {w w' : World} {g : Nat} {job : Value} {S : Nat → Sch} (hg : w.heap.size ≤ g) (h : w'.heap[g]? = some (.cells (cronCells (.slice none 0 0) 0 0) 125 (0, 0))) : CronHas w' g w.heap.size job S 0 :=
  ⟨.slice none 0 0, [], fun _ => .nilIface, hg, h, ⟨World.ownsRow_nil _ _ _ _, fun i hi => absurd hi (by omega)⟩, fun j hj => absurd hj (by omega)⟩

theorem add_has (g B : Nat) (tj : TypeId) (xj : Value) (S : Nat → Sch) (i : Nat) (hi : i < 1000) (ts : TypeId) (xs : Value) (w : World) (hB : B ≤ w.heap.size) (h : CronHas w g B (.iface tj xj) S i) (hs : SchIs w (.iface ts xs) (S i)) :
    Calls Try.prog 28 #[.pointer (some ⟨g, 0, none⟩), .iface ts xs, .iface tj xj] w fun e w' => e = .returned (.int .i64 ((i : Int) + 1)) ∧ CronHas w' g B (.iface tj xj) S (i + 1) ∧ Kept w w' ∧ Below B w w' := by
  obtain ⟨v, ps, sch, h0, h1, h2, h3⟩ := h
  refine (add_any g B v i hi ps ts tj xs xj w h1 h2.1 hB h0).mono ?_
  rintro e w' ⟨rfl, v', b, a1, a2, a3, a4, a5, a6⟩
  have hk : Kept w w' := by
    refine ⟨a5.size, fun c cs t fr hc n1 n2 => ?_⟩
    rw [a6 c (Array.getElem?_eq_some_iff.1 hc).1 ?_ ?_]
    · exact hc
    · intro e
      subst e
      rw [h1] at hc
      simp only [Option.some.injEq, Obj.cells.injEq] at hc
      exact n1 hc.2.1.symm
    · exact own_ne h2.1 hc n2
  refine ⟨rfl, ?_, hk, a5⟩
  have hl : ps.length = i := by simpa using h2.1.1
  refine ⟨v', _, fun j => if j = i then .iface ts xs else sch j, h0, a1, ⟨a2, fun j hj => ?_⟩, fun j hj => ?_⟩
  · refine ⟨rfl, ?_, ?_⟩
    · by_cases hji : j = i
      · simp [entryCells, hji, Value.oneCell']
      · simp only [hji, if_false]
        exact (h2.2 j (by omega)).2.1
    · by_cases hji : j = i
      · subst hji
        refine ⟨b, by rw [List.getElem?_append_right (by omega), hl]; simp, ?_⟩
        simp only [if_true]
        exact a4
      · obtain ⟨_, _, b', h4, h5⟩ := h2.2 j (by omega)
        refine ⟨b', by rw [List.getElem?_append_left (by omega)]; exact h4, ?_⟩
        simp only [hji, if_false]
        exact hk.2 _ _ _ _ h5 (by decide) (by decide)
  · by_cases hji : j = i
    · subst hji
      simp only [if_true]
      exact hs.kept hk
    · simp only [hji, if_false]
      exact (h3 j (by omega)).kept hk

theorem find_has (g B : Nat) (job : Value) (S : Nat → Sch) (n : Nat) (hn : n ≤ 1000) (j : Nat) (hj : j < n) (w : World) (h : CronHas w g B job S n) :
    Calls Try.prog 32 #[.pointer (some ⟨g, 0, none⟩), .int .i64 ((j : Int) + 1)] w fun e w' => ∃ sch, e = .returned (.agg (entryCells ((j : Int) + 1) sch job job)) ∧ SchIs w sch (S j) ∧ Below w.heap.size w w' := by
  obtain ⟨v, ps, sch, h0, h1, h2, h3⟩ := h
  refine (find_any g B v n hn ps _ n w h1 h2 (fun i hi => rfl) j hj).mono ?_
  rintro e w' ⟨rfl, hb⟩
  exact ⟨sch j, rfl, h3 j hj, hb⟩
end Go.Proofs.Ytbgbeohiafiacaa.Sched
