/- Lemmas and walks on the way to the law, merged by wip/tools/pack.py: RowArgs, LawNever. Conditions: none. -/
import Derived.Test.YtbgbeohiafiacaaRows
import Derived.Test.YtbgbeohiafiacaaGrK
import Derived.WalkKit
import Derived.ProofKit
import Derived.OpenShut
import Derived.Below
import Derived.Carry
import Derived.Deep.Slices
import Derived.Deep.Fields
import Derived.ChangeSame
import Derived.Test.YtbgbeohiafiacaaPrA
namespace Go.Proofs.Ytbgbeohiafiacaa.RowArgs
open Go Go.Proofs.Ytbgbeohiafiacaa Go.ChangeShapes Go.WideShapes Go.ChangeAt Go.RowKit Go.Deep Go.Proofs.Ytbgbeohiafiacaa.Cal Go.Proofs.Ytbgbeohiafiacaa.Cron
set_option linter.unusedVariables false
theorem own : ownKnob Try.prog.godebug = none := by kernel_rfl
theorem laidOut : laidOutB Try.prog = true := by kernel_rfl
theorem cells_sched : Try.prog.cellsOf 27 = 8 := by kernel_rfl
theorem cells_inst : Try.prog.cellsOf 33 = 2 := by kernel_rfl
theorem okWide_size {P : Program} {w : World} {r : Reach} {base : Nat} {t : TypeId} {v : Value} {fs : Array Field} {n : Nat} (ht : P.underlying t = some (.struct fs)) (hC : P.cellsOf t = n) (h : Value.okWide P w r base t v) : ∃ cs : Array Value, v = .agg cs ∧ cs.size = n := by
  obtain ⟨cs, h1, h2⟩ := okWide_struct ht h
  exact ⟨cs, h1, h2.trans hC⟩
theorem u64_of {n : Int} (h : (Lit.int .u64 n).wf = true) : 0 ≤ n ∧ n < 18446744073709551616 := by
  simp [Lit.wf] at h
  have h1 : IntKind.u64.min = 0 := by decide
  have h2 : IntKind.u64.max = 18446744073709551615 := by decide
  omega
theorem one_field {P : Program} {fs : Array Field} (hone : oneCellFields P fs = true) (cs : List Value) (j : Nat) (f : Field) (hj : fs[j]? = some f) (v : Value) (hv : cs[j]? = some v) : (cs.drop f.offset).take (P.cellsOf f.type) = [v] := by
  obtain ⟨ho, hk⟩ := hone_of hone j f hj
  rw [ho, hk]
  have hl : j < cs.length := (List.getElem?_eq_some_iff.1 hv).1
  rw [List.drop_eq_getElem_cons hl]
  simp [(List.getElem?_eq_some_iff.1 hv).2]
theorem at_field {H : Type} {enc : TypeId × Value → H} {P : Program} {w : World} {base n : Nat} {spare : Nat → Bool} {held : Bool} {t : TypeId} {fs : Array Field} {cs : List Value} {xs : List (DataW H × List MemPlace)} (hs : P.underlying t = some (.struct fs)) (hone : oneCellFields P fs = true)
    (hg : ∀ (j : Nat) (f : Field), fs[j]? = some f → DataW.trod enc P w base spare held n f.type ((cs.drop f.offset).take (P.cellsOf f.type)) = xs[j]?) (j : Nat) (f : Field) (v : Value) (hj : fs[j]? = some f) (hv : cs[j]? = some v) :
    DataW.trod enc P w base spare held n f.type [v] = xs[j]? := by
  have := hg j f hj
  rw [one_field hone cs j f hj v hv] at this
  exact this
set_option maxRecDepth 100000 in
theorem open_inst {H : Type} {enc : TypeId × Value → H} {w W : World} {spare : Nat → Bool} {held : Bool} {base b2 : Nat} {r : Reach} {v : Value} {d : DataW H} {p : List MemPlace} (hv : Value.okWide Try.prog W r b2 33 v)
    (h : DataW.Trod enc Try.prog w base spare held 33 v d p) : ∃ sec nano : Int, v = .agg #[.int .i64 sec, .int .i64 nano] := by
  obtain ⟨cs, rfl, hsz⟩ := okWide_size Try.underlying33 cells_inst hv
  obtain ⟨l⟩ := cs
  match l, hsz with
  | [c0, c1], _ =>
    obtain ⟨fuel, hf⟩ := h
    obtain ⟨xs, n, _, hx, _, hlen, hg⟩ := DataW.trod_struct Try.underlying33 hf
    have g0 := at_field Try.underlying33 (by kernel_rfl) hg 0 _ c0 rfl rfl
    have g1 := at_field Try.underlying33 (by kernel_rfl) hg 1 _ c1 rfl rfl
    match xs, hlen with
    | [y0, y1], _ =>
      obtain ⟨a0, e0, -⟩ := DataW.trod_int Try.underlying2 (g0.trans rfl)
      obtain ⟨a1, e1, -⟩ := DataW.trod_int Try.underlying3 (g1.trans rfl)
      simp only [List.cons.injEq, and_true] at e0 e1
      subst e0 e1
      exact ⟨a0, a1, rfl⟩
set_option maxRecDepth 100000 in
theorem open_sched {H : Type} {enc : TypeId × Value → H} {w W : World} {spare : Nat → Bool} {held : Bool} {base b2 : Nat} {r : Reach} {v : Value} {d : DataW H} {p : List MemPlace} (hv : Value.okWide Try.prog W r b2 27 v)
    (h : DataW.Trod enc Try.prog w base spare held 27 v d p) : ∃ (ev : Bool) (dl : Int) (S : Sets), S.ok ∧ v = .agg (schedC ev dl S) := by
  obtain ⟨cs, rfl, hsz⟩ := okWide_size Try.underlying27 cells_sched hv
  obtain ⟨l⟩ := cs
  match l, hsz with
  | [c0, c1, c2, c3, c4, c5, c6, c7], _ =>
    obtain ⟨fuel, hf⟩ := h
    obtain ⟨xs, n, _, hx, _, hlen, hg⟩ := DataW.trod_struct Try.underlying27 hf
    have g0 := at_field Try.underlying27 (by kernel_rfl) hg 0 _ c0 rfl rfl
    have g1 := at_field Try.underlying27 (by kernel_rfl) hg 1 _ c1 rfl rfl
    have g2 := at_field Try.underlying27 (by kernel_rfl) hg 2 _ c2 rfl rfl
    have g3 := at_field Try.underlying27 (by kernel_rfl) hg 3 _ c3 rfl rfl
    have g4 := at_field Try.underlying27 (by kernel_rfl) hg 4 _ c4 rfl rfl
    have g5 := at_field Try.underlying27 (by kernel_rfl) hg 5 _ c5 rfl rfl
    have g6 := at_field Try.underlying27 (by kernel_rfl) hg 6 _ c6 rfl rfl
    have g7 := at_field Try.underlying27 (by kernel_rfl) hg 7 _ c7 rfl rfl
    match xs, hlen with
    | [y0, y1, y2, y3, y4, y5, y6, y7], _ =>
      obtain ⟨a0, e0, -⟩ := DataW.trod_bool Try.underlying4 (g0.trans rfl)
      obtain ⟨a1, e1, -⟩ := DataW.trod_int Try.underlying2 (g1.trans rfl)
      obtain ⟨a2, e2, -, k2⟩ := DataW.trod_int Try.underlying25 (g2.trans rfl)
      obtain ⟨a3, e3, -, k3⟩ := DataW.trod_int Try.underlying25 (g3.trans rfl)
      obtain ⟨a4, e4, -, k4⟩ := DataW.trod_int Try.underlying25 (g4.trans rfl)
      obtain ⟨a5, e5, -, k5⟩ := DataW.trod_int Try.underlying25 (g5.trans rfl)
      obtain ⟨a6, e6, -, k6⟩ := DataW.trod_int Try.underlying25 (g6.trans rfl)
      obtain ⟨a7, e7, -, k7⟩ := DataW.trod_int Try.underlying25 (g7.trans rfl)
      simp only [List.cons.injEq, and_true] at e0 e1 e2 e3 e4 e5 e6 e7
      subst e0 e1 e2 e3 e4 e5 e6 e7
      have k2 := u64_of k2
      have k3 := u64_of k3
      have k4 := u64_of k4
      have k5 := u64_of k5
      have k6 := u64_of k6
      have k7 := u64_of k7
      refine ⟨a0, a1, ⟨a2.toNat, a3.toNat, a4.toNat, a5.toNat, a6.toNat, a7.toNat⟩, ⟨by show a2.toNat < _; omega, by show a3.toNat < _; omega, by show a4.toNat < _; omega, by show a5.toNat < _; omega, by show a6.toNat < _; omega, by show a7.toNat < _; omega⟩, ?_⟩
      unfold schedC
      rw [Int.toNat_of_nonneg k2.1, Int.toNat_of_nonneg k3.1, Int.toNat_of_nonneg k4.1, Int.toNat_of_nonneg k5.1, Int.toNat_of_nonneg k6.1, Int.toNat_of_nonneg k7.1]
end Go.Proofs.Ytbgbeohiafiacaa.RowArgs

namespace Go.Proofs.Ytbgbeohiafiacaa.Cron
open Go Go.RowKit Go.Proofs.YtbgbeohiafiacaaW.PrintWords Go.Proofs.YtbgbeohiafiacaaW.PrintLast Go.Proofs.Ytbgbeohiafiacaa.Cal Go.Proofs.Ytbgbeohiafiacaa.Pr
set_option linter.unusedVariables false
set_option linter.unusedSimpArgs false

theorem emptyK_false {S : Sets} {k : Nat} (hk : k < 6) (h : emptyK S k = true) (v : Nat) (h1 : loF k ≤ v) (h2 : v ≤ hiF k) : (bitsK S k).testBit v = false := by
  have hv : v < 63 := by
    have : hiF k ≤ 59 := by match k, hk with | 0, _ | 1, _ | 2, _ | 3, _ | 4, _ | 5, _ => decide
    omega
  unfold emptyK emptyB eqB at h
  have := List.all_eq_true.1 h v (List.mem_range.2 hv)
  simpa [memB, noSet, h1, h2] using this
/-- the schedule is never: no hour, no minute, no second or no month -/
theorem never_of {S : Sets} (h : neverB S = true ∨ emptyK S 4 = true) (x : Int) : ¬ Fits S x := by
  refine never_fits ?_ x
  unfold neverB at h
  simp only [Bool.or_eq_true] at h
  rcases h with (h | h | h) | h
  · exact .inl fun k h1 h2 => emptyK_false (k := 2) (by omega) h k.toNat (Nat.zero_le _) (by show k.toNat ≤ 23; omega)
  · exact .inr (.inl fun k h1 h2 => emptyK_false (k := 1) (by omega) h k.toNat (Nat.zero_le _) (by show k.toNat ≤ 59; omega))
  · exact .inr (.inr (.inl fun k h1 h2 => emptyK_false (k := 0) (by omega) h k.toNat (Nat.zero_le _) (by show k.toNat ≤ 59; omega)))
  · exact .inr (.inr (.inr fun k h1 h2 => emptyK_false (k := 4) (by omega) h k.toNat (by show 1 ≤ k.toNat; omega) (by show k.toNat ≤ 12; omega)))
theorem month_at {w : World} {g : Nat} {S : Sets} (h : FieldsAt w g S) (m : Nat) (h1 : 1 ≤ m) (h2 : m ≤ 12) : w.cell? ⟨g, 257 + m, none⟩ = some (.bool (inB S.month m)) := by
  have := h.at_ 4 m (by omega) (by omega)
  rw [show 4 * 64 + (m + 1) = 257 + m by omega] at this
  rw [this]
  simp [memB, inB, loF, hiF, bitsK, h1, h2]
theorem dom_at {w : World} {g : Nat} {S : Sets} (h : FieldsAt w g S) (m : Nat) (h1 : 1 ≤ m) (h2 : m ≤ 31) : w.cell? ⟨g, 193 + m, none⟩ = some (.bool (inB S.dom m)) := by
  have := h.at_ 3 m (by omega) (by omega)
  rw [show 3 * 64 + (m + 1) = 193 + m by omega] at this
  rw [this]
  simp [memB, inB, loF, hiF, bitsK, h1, h2]
theorem fields_keep {w w' : World} {g : Nat} {S : Sets} (h : FieldsAt w g S) (hb : Below w.heap.size w w') : FieldsAt w' g S := h.below hb
/-- no day of the months ahead of m -/
def NoDay (S : Sets) (m : Int) : Prop := ∀ m' d' : Int, 1 ≤ m' → m' < m → 1 ≤ d' → d' ≤ mdays 2000 m' → inB S.month m' = true → inB S.dom d' = false
/-- no day of month m ahead of d -/
def NoDayIn (S : Sets) (m d : Int) : Prop := ∀ d' : Int, 1 ≤ d' → d' < d → inB S.month m = true → inB S.dom d' = false

set_option maxRecDepth 100000 in
set_option maxHeartbeats 8000000 in
theorem lawNever_any (ev : Bool) (d : Int) (S : Sets) (hS : S.ok) (sec nano : Int) (w : World) :
    Calls Try.prog 6 #[.agg (schedC ev d S), .agg #[.int .i64 sec, .int .i64 nano]] w fun e w' => e = .returned (.bool true) ∧ Below w.heap.size w w' := by
  have HC := Lib.hid (fun w' => case_any ev d S sec nano w')
  have HFO := Lib.hid (fun w' => fieldsOf_any d S hS w')
  have HNV := Lib.hid (fun w' => cronNever_any S w')
  have HEK := Lib.hid (fun k w' => emptyK_any S k w')
  have HMD : Hid (∀ (m : Int) (w' : World), 1 ≤ m → m ≤ 12 → Calls Try.prog 22 #[.int .i64 2000, .int .i64 m] w' fun e w2 => e = .returned (.int .i64 (mdays 2000 m)) ∧ Below w'.heap.size w' w2) := Lib.hid (fun m w' h1 h2 => (spec_CronMonthDays.calls 2000 m (mdays 2000 m) w' (monthDays_f 2000 m (by omega) (by omega) h1 h2)).mono fun _ _ h => ⟨h.1, drawn_below h.2⟩)
  have hal := run_alloc_inst
  go_enter Try.func6, Try.ntmps6
  go_upto_region 1 with fail
  generalize hW : World.alloc (World.alloc w _) _ = wa
  have hr0 : wa.heap[w.heap.size]? = some (.cells (schedC ev d S) 27 (0, 0)) := by
    rw [← hW, Below.heap_alloc _ _ _ (by simp; try omega)]
    exact heap_alloc_new w _
  have hr1 : wa.heap[w.heap.size + 1]? = some (.cells #[.int .i64 sec, .int .i64 nano] 33 (0, 0)) := by
    rw [← hW]
    exact heap_two w _ _
  have hB : Below w.heap.size w wa := by
    rw [← hW]
    exact (((Below.refl _ _).alloc (Nat.le_refl _) _).alloc (by simp) _)
  clear hW
  have HR0' := Lib.hid hr0
  have HR1' := Lib.hid hr1
  clear hr0 hr1
  go_wp2_with (first
    | (refine wpList_load_row rfl 27 _ rfl w.heap.size rfl _ _ _ _ HR0'.out Try.underlying27 rfl schedSize ?_)
    | (refine wpList_load_row rfl 33 _ rfl (w.heap.size + 1) rfl _ _ _ _ HR1'.out Try.underlying33 rfl instSize ?_))
  refine (HC.out _).mono ?_
  rintro e w2 ⟨rfl, hb2⟩
  have HS := Lib.hid (row_keep HR0'.out hb2)
  have HT := Lib.hid (row_keep HR1'.out hb2)
  have hB3 := below_le hB hb2
  clear hb2 HR0' HR1' hB
  dsimp only
  cases hcc : (!ev && goodB sec nano) with
  | false =>
    go_wp2_with fail
    go_ret
    exact ⟨rfl, hB3⟩
  | true =>
    have hev : ev = false := by cases ev <;> simp_all
    subst hev
    have hg : goodB sec nano = true := by simpa using hcc
    obtain ⟨g1, g2, g3, g4⟩ := goodB_iff.1 hg
    have HS3 : Hid (w2.heap[w.heap.size]? = some (.cells (setsCells d S) 27 (0, 0))) := HS
    clear HS HC hcc
    go_upto_region 4 with (go_big_may; refine wpList_load_row rfl 27 _ rfl w.heap.size rfl _ _ _ _ HS3.out Try.underlying27 rfl schedSize ?_)
    refine (HFO.out _).mono ?_
    rintro e w3 ⟨rfl, hb3⟩
    have HS4 := Lib.hid (row_keep HS3.out hb3)
    have HT4 := Lib.hid (row_keep HT.out hb3)
    have hB4 := below_le hB3 hb3
    clear hb3 HS3 HT hB3
    dsimp only
    go_upto_region 4 with (go_big_may; refine wpList_store_row rfl 50 _ _ rfl w3.heap.size (fieldsC S) rfl rfl 50 _ (heap_alloc_new w3 _) (by rw [fieldsSize, fieldsC_size]) (by rw [fieldsC_size, zeroC_size]) (fieldsC_one S) ?_)
    dsimp only [Act.put]
    generalize hY : World.setRow _ _ _ = wb
    have HF0 : Hid (FieldsAt wb w3.heap.size S) := Lib.hid (by rw [← hY]; exact setRow_heap _ _ _ _ _ _ (heap_alloc_new w3 _))
    have HBb := Lib.hid (show Below w3.heap.size w3 wb by rw [← hY]; exact below_setRow ((Below.refl _ _).alloc (Nat.le_refl _) _) (Nat.le_refl _) _)
    clear hY
    have HS0 := Lib.hid (row_keep HS4.out HBb.out)
    have HT0 := Lib.hid (row_keep HT4.out HBb.out)
    have HB0 := Lib.hid (below_le hB4 HBb.out)
    clear HBb HS4 HT4 hB4 hal HFO
    generalize hgF : w3.heap.size = gF at *
    clear hgF
    go_cut [6] from 12 (fun v6 wc => ∃ nv : Bool, v6 = .bool nv ∧ (nv = true → ∀ x, ¬ Fits S x) ∧ Hid (FieldsAt wc gF S) ∧ Hid (wc.heap[w.heap.size]? = some (.cells (setsCells d S) 27 (0, 0))) ∧ Hid (wc.heap[w.heap.size + 1]? = some (.cells #[.int .i64 sec, .int .i64 nano] 33 (0, 0))) ∧ Hid (Below w.heap.size w wc))
    case first =>
      go_wp2_with (refine wpList_load_row rfl 50 _ rfl gF rfl _ _ _ _ HF0.out Try.underlying50 rfl (by rw [fieldsSize, fieldsC_size]) ?_)
      refine (HNV.out _).mono ?_
      rintro e w4 ⟨rfl, hb4⟩
      have HF1 := Lib.hid (fields_keep HF0.out hb4)
      have HS1 := Lib.hid (row_keep HS0.out hb4)
      have HT1 := Lib.hid (row_keep HT0.out hb4)
      have HB1 := Lib.hid (below_le HB0.out hb4)
      clear hb4 HF0 HS0 HT0 HB0
      dsimp only
      cases h1 : neverB S with
      | true =>
        have hn := Lib.hid (never_of (S := S) (.inl h1))
        go_wp2_with fail
        go_meet
        exact ⟨true, rfl, fun _ => hn.out, HF1, HS1, HT1, HB1⟩
      | false =>
        go_wp2_with (refine wpList_load_K (by rfl) _ rfl gF S 4 (by omega) 256 rfl rfl HF1.out ?_)
        refine (HEK.out 4 _).mono ?_
        rintro e w5 ⟨rfl, hb5⟩
        have HF2 := Lib.hid (fields_keep HF1.out hb5)
        have HS2 := Lib.hid (row_keep HS1.out hb5)
        have HT2 := Lib.hid (row_keep HT1.out hb5)
        have HB2 := Lib.hid (below_le HB1.out hb5)
        clear hb5 HF1 HS1 HT1 HB1
        dsimp only
        have hn : emptyK S 4 = true → ∀ x, ¬ Fits S x := fun h => never_of (.inr h)
        have HN := Lib.hid hn
        clear hn
        generalize emptyK S 4 = nv at *
        go_wp2_with fail
        go_meet
        exact ⟨nv, rfl, HN.out, HF2, HS2, HT2, HB2⟩
    case rest =>
    obtain ⟨nv, rfl, hnv, HF1, HS1, HT1, HB1⟩ := hcut
    have HNV1 := Lib.hid hnv
    clear HF0 HS0 HT0 HB0 HNV HEK hnv
    have hstar : wc.cell? ⟨gF, 320, none⟩ = some (.bool (inB S.dow 63)) := HF1.out.star 5 (by omega)
    go_upto_if 27 with fail
    obtain ⟨wd, hwd⟩ : ∃ wd, wd = wc := ⟨_, rfl⟩
    subst hwd
    go_cut [6] from 12 (fun v6 wc => ∃ nv : Bool, v6 = .bool nv ∧ (nv = true → ∀ x, ¬ Fits S x) ∧ Hid (wc.heap[w.heap.size]? = some (.cells (setsCells d S) 27 (0, 0))) ∧ Hid (wc.heap[w.heap.size + 1]? = some (.cells #[.int .i64 sec, .int .i64 nano] 33 (0, 0))) ∧ Hid (Below w.heap.size w wc))
    case first =>
      clear hstar
      cases hs : inB S.dow 63 with
      | false =>
        go_wp2_with fail
        go_meet
        exact ⟨nv, rfl, HNV1.out, HS1, HT1, HB1⟩
      | true =>
        go_wp2_with fail
        go_loopw [7, 8] (fun v7 v8 wr => ∃ (b : Bool) (m : Nat), v7 = .bool b ∧ v8 = .int .i64 m ∧ 1 ≤ m ∧ m ≤ 13 ∧ Hid (b = false → NoDay S m) ∧ Hid (FieldsAt wr gF S) ∧ Hid (wr.heap[w.heap.size]? = some (.cells (setsCells d S) 27 (0, 0))) ∧ Hid (wr.heap[w.heap.size + 1]? = some (.cells #[.int .i64 sec, .int .i64 nano] 33 (0, 0))) ∧ Hid (Below w.heap.size w wr)) (fun _ v8 _ => 13 - (intOf v8).toNat)
        case atStart => exact ⟨false, 1, rfl, rfl, by omega, by omega, Lib.hid fun _ m' d' h1 h2 => by omega, HF1, HS1, HT1, HB1⟩
        case round =>
          obtain ⟨b, m, rfl, rfl, m1, m2, HND, HFm, HSm, HTm, HBm⟩ := hrel
          clear HF1 HS1 HT1 HB1
          obtain ⟨wo, hwo⟩ : ∃ wo, wo = wr := ⟨_, rfl⟩
          subst hwo
          by_cases h12 : m ≤ 12
          · have hd12 : decide ((m : Int) ≤ 12) = true := decide_eq_true (by omega)
            have hwm : wrap64 ((m : Int) + 1) = m + 1 := by unfold wrap64; omega
            have hp1 : (0 : Int) ≤ m := by omega
            have hp2 : (m : Int) < 63 := by omega
            go_wp2_with fail
            go_loopw [7, 9] (fun v7 v9 wr => ∃ (b : Bool) (q : Nat), v7 = .bool b ∧ v9 = .int .i64 q ∧ 1 ≤ q ∧ (q : Int) ≤ mdays 2000 m + 1 ∧ Hid (b = false → NoDay S m ∧ NoDayIn S m q) ∧ Hid (FieldsAt wr gF S) ∧ Hid (wr.heap[w.heap.size]? = some (.cells (setsCells d S) 27 (0, 0))) ∧ Hid (wr.heap[w.heap.size + 1]? = some (.cells #[.int .i64 sec, .int .i64 nano] 33 (0, 0))) ∧ Hid (Below w.heap.size w wr)) (fun _ v9 _ => 40 - (intOf v9).toNat)
            case atStart => exact ⟨b, 1, rfl, rfl, by omega, by have := mdays_bd 2000 m; omega, Lib.hid fun h => ⟨HND.out h, fun d' h1 h2 => by omega⟩, HFm, HSm, HTm, HBm⟩
            case round =>
              obtain ⟨b2, q, rfl, rfl, q1, q2, HND2, HFq, HSq, HTq, HBq⟩ := hrel
              clear HFm HSm HTm HBm HND
              have hmb := mdays_bd 2000 m
              have hq1 : (0 : Int) ≤ q := by omega
              have hq2 : (q : Int) < 63 := by omega
              have hwq : wrap64 ((q : Int) + 1) = q + 1 := by unfold wrap64; omega
              go_wp2_with fail
              refine (HMD.out m _ (by omega) (by omega)).mono ?_
              rintro e w6 ⟨rfl, hb6⟩
              have HF6 := Lib.hid (fields_keep HFq.out hb6)
              have HS6 := Lib.hid (row_keep HSq.out hb6)
              have HT6 := Lib.hid (row_keep HTq.out hb6)
              have HB6 := Lib.hid (below_le HBq.out hb6)
              clear hb6 HFq HSq HTq HBq
              dsimp only
              by_cases hqd : (q : Int) ≤ mdays 2000 m
              · have hdq : decide ((q : Int) ≤ mdays 2000 m) = true := decide_eq_true hqd
                have hcm : w6.cell? ⟨gF, 257 + m, none⟩ = some (.bool (inB S.month m)) := month_at HF6.out m m1 h12
                have hcd : w6.cell? ⟨gF, 193 + q, none⟩ = some (.bool (inB S.dom q)) := dom_at HF6.out q q1 (by omega)
                cases b2 with
                | true =>
                  go_wp2_with fail
                  exact ⟨⟨true, q + 1, rfl, by push_cast; rfl, by omega, by omega, Lib.hid (fun h => by cases h), HF6, HS6, HT6, HB6⟩, by simp [intOf]; omega⟩
                | false =>
                  obtain ⟨nd1, nd2⟩ := HND2.out rfl
                  cases hmm : inB S.month m with
                  | false =>
                    rw [hmm] at hcm
                    have HI := Lib.hid (show NoDay S m ∧ NoDayIn S m ((q + 1 : Nat) : Int) from ⟨nd1, fun d' h1 h2 h3 => by rw [hmm] at h3; cases h3⟩)
                    clear nd1 nd2
                    go_wp2_with fail
                    exact ⟨⟨false, q + 1, rfl, by push_cast; rfl, by omega, by omega, Lib.hid (fun _ => HI.out), HF6, HS6, HT6, HB6⟩, by simp [intOf]; omega⟩
                  | true =>
                    rw [hmm] at hcm
                    cases hdd : inB S.dom q with
                    | false =>
                      rw [hdd] at hcd
                      have HI := Lib.hid (show NoDay S m ∧ NoDayIn S m ((q + 1 : Nat) : Int) from ⟨nd1, fun d' h1 h2 h3 => by
                        by_cases e : d' = q
                        · rw [e]; exact hdd
                        · exact nd2 d' h1 (by push_cast at h2; omega) h3⟩)
                      clear nd1 nd2
                      go_wp2_with fail
                      exact ⟨⟨false, q + 1, rfl, by push_cast; rfl, by omega, by omega, Lib.hid (fun _ => HI.out), HF6, HS6, HT6, HB6⟩, by simp [intOf]; omega⟩
                    | true =>
                      rw [hdd] at hcd
                      clear nd1 nd2
                      go_wp2_with fail
                      exact ⟨⟨true, q + 1, rfl, by push_cast; rfl, by omega, by omega, Lib.hid (fun h => by cases h), HF6, HS6, HT6, HB6⟩, by simp [intOf]; omega⟩
              · have hdq : decide ((q : Int) ≤ mdays 2000 m) = false := decide_eq_false hqd
                go_wp2_with fail
                refine ⟨⟨b2, m + 1, rfl, by push_cast; rfl, by omega, by omega, Lib.hid fun h m' d' h1 h2 h3 h4 h5 => ?_, HF6, HS6, HT6, HB6⟩, by simp [intOf]; omega⟩
                obtain ⟨nd1, nd2⟩ := HND2.out h
                by_cases e : m' = m
                · subst e
                  exact nd2 d' h3 (by omega) h5
                · exact nd1 m' d' h1 (by push_cast at h2; omega) h3 h4 h5
          · have hd12 : decide ((m : Int) ≤ 12) = false := decide_eq_false (by omega)
            have HD : Hid (b = false → ∀ x, ¬ Fits S x) := Lib.hid (fun hb => never_days hs fun m' d' h1 h2 h3 h4 h5 => HND.out hb m' d' h1 (by omega) h3 h4 h5)
            cases nv with
            | true =>
              go_wp2_with fail
              go_meet
              exact ⟨true, rfl, fun _ => HNV1.out (by first | trivial | rfl), HSm, HTm, HBm⟩
            | false =>
              go_wp2_with fail
              go_meet
              exact ⟨!b, rfl, fun h => HD.out (by simpa using h), HSm, HTm, HBm⟩
    case rest =>
    obtain ⟨nv2, rfl, hnv2, HS7, HT7, HB7⟩ := hcut
    have HNV2 := Lib.hid hnv2
    clear HF1 HS1 HT1 HB1 hstar HNV1 hnv2 HMD
    obtain ⟨r, hr⟩ := least_exists S (sec + 1) (yearL (sec + 1) + 5)
    have HU := Lib.hid (fun w' => cronUtc_any w')
    have HN := Lib.hid (fun w' => nextUtc_any d S hS sec nano hg r hr w')
    have HNN := Lib.hid (fun w' => cronNone_any d S hS sec nano g1 g2 w')
    have HRL := Lib.hid hr
    unfold utcZone at HU HN HNN
    clear hr
    have hal := run_alloc_inst
    go_upto_region 15 with fail
    obtain ⟨wo, rfl⟩ : ∃ wo : World, wo = wc := ⟨_, rfl⟩
    have hr0 := HS7.out
    have hr1 := HT7.out
    have hB7 := HB7.out
    refine start_ (n := 10) (S := fun w' => w'.heap[w.heap.size]? = some (.cells (setsCells d S) 27 (0, 0)) ∧ w'.heap[w.heap.size + 1]? = some (.cells #[.int .i64 sec, .int .i64 nano] 33 (0, 0)) ∧ Below wo.heap.size wo w') (ds := [8]) #[false, false, false, false, false, false, false, false, false, false] (by kernel_rfl) rfl rfl ⟨hr0, hr1, (Below.refl _ _).drew⟩ (fun hHeld => ?_)
    refine take_ (i := 0) (N := some 59) (v := ?_) (a' := ?_) #[true, false, false, false, false, false, false, false, false, false] rfl rfl (by kernel_rfl) (fun _ _ _ h => h) (Or.inl ⟨by rfl, ?_⟩) hHeld ?_ ?_
    rotate_left
    · rintro w' ⟨s0, s1, s2⟩
      refine exec_load_row _ _ w' 27 (.tmp 2) ?_ (w.heap.size) ?_ _ _ _ _ s0 Try.underlying27 rfl schedSize
      · rfl
      · rfl
    rotate_left
    · simp only [Act.put, List.setIfInBounds_toArray, List.set_cons_zero, List.set_cons_succ, i64_w, i32_w]
      rfl
    refine take_ (i := 1) (N := some 60) (v := ?_) (a' := ?_) #[true, true, false, false, false, false, false, false, false, false] rfl rfl (by kernel_rfl) (fun _ _ _ h => h) (Or.inl ⟨by rfl, ?_⟩) hHeld ?_ ?_
    rotate_left
    · rintro w' ⟨s0, s1, s2⟩
      refine exec_load_row _ _ w' 33 (.tmp 3) ?_ (w.heap.size + 1) ?_ _ _ _ _ s1 Try.underlying33 rfl instSize
      · rfl
      · rfl
    rotate_left
    · simp only [Act.put, List.setIfInBounds_toArray, List.set_cons_zero, List.set_cons_succ, i64_w, i32_w]
      rfl
    refine join_ (σ := Nat) 2 #[true, true, true, true, true, true, true, true, false, false] (fun s => [(61, .agg #[.slice none 0 0, .slice none 0 0, .slice none 0 0, .slice none 0 0]), (62, .tuple #[.agg (ansI 0 r), .bool r.isSome]), (58, .tuple #[.agg (ansI 0 r), .bool r.isSome]), (63, .agg (ansI 0 r)), (64, .bool r.isSome), (10, .pointer (some ⟨s, 0, none⟩))]) (fun s w' => InstRow w' s ∧ wo.heap.size ≤ s ∧ (w'.heap[w.heap.size]? = some (.cells (setsCells d S) 27 (0, 0)) ∧ w'.heap[w.heap.size + 1]? = some (.cells #[.int .i64 sec, .int .i64 nano] 33 (0, 0)) ∧ Below wo.heap.size wo w')) ?_ ?_
    rotate_left
    · intro hCont
      refine two_ (i := 2) (j := 7) (Ni := some 61) (Nj := some 10) #[true, true, true, false, false, false, false, false, false, false] #[true, true, false, false, false, false, false, true, false, false] rfl rfl rfl rfl (by kernel_rfl) (by decide) (by decide) (fun K hK => ?_) (fun K hK => ?_)
      · skip
        refine goes_ Try.func12 (by kernel_rfl) rfl #[] (by rfl) rfl rfl (by simp only [List.map_toArray, List.map_nil]) ?_
        with_reducible refine (HU.out _).mono ?_
        rintro e w4 ⟨rfl, hb4⟩
        refine ⟨_, rfl, ?_⟩
        refine hK.out _ _ ⟨(hb4.block _ (Array.getElem?_eq_some_iff.1 hHeld.1).1).trans hHeld.1, (hb4.block _ (Array.getElem?_eq_some_iff.1 hHeld.2.1).1).trans hHeld.2.1, below_le hHeld.2.2 hb4⟩ (fun hHeld => ?_)
        clear hK K
        refine norm_ (a' := ?_) ?_ ?_
        rotate_left
        · show Act.put _ (some 61) _ = _
          simp only [Act.put, List.setIfInBounds_toArray, List.set_cons_zero, List.set_cons_succ, i64_w, i32_w]
          rfl
        refine two_ (i := 3) (j := 7) (Ni := some 62) (Nj := some 10) #[true, true, true, true, false, false, false, false, false, false] #[true, true, true, false, false, false, false, true, false, false] rfl rfl rfl rfl (by kernel_rfl) (by decide) (by decide) (fun K hK => ?_) (fun K hK => ?_)
        · skip
          refine goes_ Try.func11 (by kernel_rfl) rfl #[.agg (setsCells d S), .agg #[.int .i64 sec, .int .i64 nano], .agg #[.slice none 0 0, .slice none 0 0, .slice none 0 0, .slice none 0 0]] (by rfl) rfl rfl (by simp only [List.map_toArray, List.map_cons, List.map_nil]; rfl) ?_
          with_reducible refine (HN.out _).mono ?_
          rintro e w5 ⟨rfl, hb5⟩
          refine ⟨_, rfl, ?_⟩
          refine hK.out _ _ ⟨(hb5.block _ (Array.getElem?_eq_some_iff.1 hHeld.1).1).trans hHeld.1, (hb5.block _ (Array.getElem?_eq_some_iff.1 hHeld.2.1).1).trans hHeld.2.1, below_le hHeld.2.2 hb5⟩ (fun hHeld => ?_)
          clear hK K
          refine norm_ (a' := ?_) ?_ ?_
          rotate_left
          · show Act.put _ (some 62) _ = _
            simp only [Act.put, List.setIfInBounds_toArray, List.set_cons_zero, List.set_cons_succ, i64_w, i32_w]
            rfl
          refine pure_ (i := 4) (N := some 58) (v := ?_) (a' := ?_) #[true, true, true, true, true, false, false, false, false, false] rfl rfl (by kernel_rfl) (fun _ _ _ h => h) (Or.inl ⟨by rfl, ?_⟩) ?_ ?_
          rotate_left
          · intro w'
            go_simp
            with_reducible rfl
          rotate_left
          · simp only [Act.put, List.setIfInBounds_toArray, List.set_cons_zero, List.set_cons_succ, i64_w, i32_w]
            rfl
          refine pure_ (i := 5) (N := some 63) (v := ?_) (a' := ?_) #[true, true, true, true, true, true, false, false, false, false] rfl rfl (by kernel_rfl) (fun _ _ _ h => h) (Or.inl ⟨by rfl, ?_⟩) ?_ ?_
          rotate_left
          · intro w'
            go_simp
            with_reducible rfl
          rotate_left
          · simp only [Act.put, List.setIfInBounds_toArray, List.set_cons_zero, List.set_cons_succ, i64_w, i32_w]
            rfl
          refine pure_ (i := 6) (N := some 64) (v := ?_) (a' := ?_) #[true, true, true, true, true, true, true, false, false, false] rfl rfl (by kernel_rfl) (fun _ _ _ h => h) (Or.inl ⟨by rfl, ?_⟩) ?_ ?_
          rotate_left
          · intro w'
            go_simp
            with_reducible rfl
          rotate_left
          · simp only [Act.put, List.setIfInBounds_toArray, List.set_cons_zero, List.set_cons_succ, i64_w, i32_w]
            rfl
          refine one_ (i := 7) (N := some 10) #[true, true, true, true, true, true, true, true, false, false] rfl rfl (by kernel_rfl) (by decide) (fun K hK => ?_)
          have hge7 := hHeld.2.2.size
          have hs7 := instRow_of hHeld.2.2
          refine value_ (by rfl) rfl (exec_alloc_inst _ _ _ rfl) ?_
          refine hK.out _ _ ⟨(((Below.refl _ _).alloc (Nat.le_refl _) _).block _ (Array.getElem?_eq_some_iff.1 hHeld.1).1).trans hHeld.1, (((Below.refl _ _).alloc (Nat.le_refl _) _).block _ (Array.getElem?_eq_some_iff.1 hHeld.2.1).1).trans hHeld.2.1, hHeld.2.2.alloc hHeld.2.2.size _⟩ (fun hHeld => ?_)
          clear hK K
          refine norm_ (a' := ?_) ?_ ?_
          rotate_left
          · show Act.put _ (some 10) _ = _
            simp only [Act.put, List.setIfInBounds_toArray, List.set_cons_zero, List.set_cons_succ, i64_w, i32_w]
            rfl
          exact norm_ (by simp only [putAll, Act.put, List.setIfInBounds_toArray, List.set_cons_zero, List.set_cons_succ]) (hCont w5.heap.size _ ⟨hs7, hge7, hHeld⟩)
        · skip
          have hge7 := hHeld.2.2.size
          have hs7 := instRow_of hHeld.2.2
          refine value_ (by rfl) rfl (exec_alloc_inst _ _ _ rfl) ?_
          refine hK.out _ _ ⟨(((Below.refl _ _).alloc (Nat.le_refl _) _).block _ (Array.getElem?_eq_some_iff.1 hHeld.1).1).trans hHeld.1, (((Below.refl _ _).alloc (Nat.le_refl _) _).block _ (Array.getElem?_eq_some_iff.1 hHeld.2.1).1).trans hHeld.2.1, hHeld.2.2.alloc hHeld.2.2.size _⟩ (fun hHeld => ?_)
          clear hK K
          refine norm_ (a' := ?_) ?_ ?_
          rotate_left
          · show Act.put _ (some 10) _ = _
            simp only [Act.put, List.setIfInBounds_toArray, List.set_cons_zero, List.set_cons_succ, i64_w, i32_w]
            rfl
          refine one_ (i := 3) (N := some 62) #[true, true, true, true, false, false, false, true, false, false] rfl rfl (by kernel_rfl) (by decide) (fun K hK => ?_)
          refine goes_ Try.func11 (by kernel_rfl) rfl #[.agg (setsCells d S), .agg #[.int .i64 sec, .int .i64 nano], .agg #[.slice none 0 0, .slice none 0 0, .slice none 0 0, .slice none 0 0]] (by rfl) rfl rfl (by simp only [List.map_toArray, List.map_cons, List.map_nil]; rfl) ?_
          with_reducible refine (HN.out _).mono ?_
          rintro e w5 ⟨rfl, hb5⟩
          refine ⟨_, rfl, ?_⟩
          refine hK.out _ _ ⟨(hb5.block _ (Array.getElem?_eq_some_iff.1 hHeld.1).1).trans hHeld.1, (hb5.block _ (Array.getElem?_eq_some_iff.1 hHeld.2.1).1).trans hHeld.2.1, below_le hHeld.2.2 hb5⟩ (fun hHeld => ?_)
          clear hK K
          refine norm_ (a' := ?_) ?_ ?_
          rotate_left
          · show Act.put _ (some 62) _ = _
            simp only [Act.put, List.setIfInBounds_toArray, List.set_cons_zero, List.set_cons_succ, i64_w, i32_w]
            rfl
          refine pure_ (i := 4) (N := some 58) (v := ?_) (a' := ?_) #[true, true, true, true, true, false, false, true, false, false] rfl rfl (by kernel_rfl) (fun _ _ _ h => h) (Or.inl ⟨by rfl, ?_⟩) ?_ ?_
          rotate_left
          · intro w'
            go_simp
            with_reducible rfl
          rotate_left
          · simp only [Act.put, List.setIfInBounds_toArray, List.set_cons_zero, List.set_cons_succ, i64_w, i32_w]
            rfl
          refine pure_ (i := 5) (N := some 63) (v := ?_) (a' := ?_) #[true, true, true, true, true, true, false, true, false, false] rfl rfl (by kernel_rfl) (fun _ _ _ h => h) (Or.inl ⟨by rfl, ?_⟩) ?_ ?_
          rotate_left
          · intro w'
            go_simp
            with_reducible rfl
          rotate_left
          · simp only [Act.put, List.setIfInBounds_toArray, List.set_cons_zero, List.set_cons_succ, i64_w, i32_w]
            rfl
          refine pure_ (i := 6) (N := some 64) (v := ?_) (a' := ?_) #[true, true, true, true, true, true, true, true, false, false] rfl rfl (by kernel_rfl) (fun _ _ _ h => h) (Or.inl ⟨by rfl, ?_⟩) ?_ ?_
          rotate_left
          · intro w'
            go_simp
            with_reducible rfl
          rotate_left
          · simp only [Act.put, List.setIfInBounds_toArray, List.set_cons_zero, List.set_cons_succ, i64_w, i32_w]
            rfl
          exact norm_ (by simp only [putAll, Act.put, List.setIfInBounds_toArray, List.set_cons_zero, List.set_cons_succ]) (hCont w4.heap.size _ ⟨hs7.below hb5, hge7, hHeld⟩)
      · skip
        have hge7 := hHeld.2.2.size
        have hs7 := instRow_of hHeld.2.2
        refine value_ (by rfl) rfl (exec_alloc_inst _ _ _ rfl) ?_
        refine hK.out _ _ ⟨(((Below.refl _ _).alloc (Nat.le_refl _) _).block _ (Array.getElem?_eq_some_iff.1 hHeld.1).1).trans hHeld.1, (((Below.refl _ _).alloc (Nat.le_refl _) _).block _ (Array.getElem?_eq_some_iff.1 hHeld.2.1).1).trans hHeld.2.1, hHeld.2.2.alloc hHeld.2.2.size _⟩ (fun hHeld => ?_)
        clear hK K
        refine norm_ (a' := ?_) ?_ ?_
        rotate_left
        · show Act.put _ (some 10) _ = _
          simp only [Act.put, List.setIfInBounds_toArray, List.set_cons_zero, List.set_cons_succ, i64_w, i32_w]
          rfl
        refine one_ (i := 2) (N := some 61) #[true, true, true, false, false, false, false, true, false, false] rfl rfl (by kernel_rfl) (by decide) (fun K hK => ?_)
        refine goes_ Try.func12 (by kernel_rfl) rfl #[] (by rfl) rfl rfl (by simp only [List.map_toArray, List.map_nil]) ?_
        with_reducible refine (HU.out _).mono ?_
        rintro e w4 ⟨rfl, hb4⟩
        refine ⟨_, rfl, ?_⟩
        refine hK.out _ _ ⟨(hb4.block _ (Array.getElem?_eq_some_iff.1 hHeld.1).1).trans hHeld.1, (hb4.block _ (Array.getElem?_eq_some_iff.1 hHeld.2.1).1).trans hHeld.2.1, below_le hHeld.2.2 hb4⟩ (fun hHeld => ?_)
        clear hK K
        refine norm_ (a' := ?_) ?_ ?_
        rotate_left
        · show Act.put _ (some 61) _ = _
          simp only [Act.put, List.setIfInBounds_toArray, List.set_cons_zero, List.set_cons_succ, i64_w, i32_w]
          rfl
        refine one_ (i := 3) (N := some 62) #[true, true, true, true, false, false, false, true, false, false] rfl rfl (by kernel_rfl) (by decide) (fun K hK => ?_)
        refine goes_ Try.func11 (by kernel_rfl) rfl #[.agg (setsCells d S), .agg #[.int .i64 sec, .int .i64 nano], .agg #[.slice none 0 0, .slice none 0 0, .slice none 0 0, .slice none 0 0]] (by rfl) rfl rfl (by simp only [List.map_toArray, List.map_cons, List.map_nil]; rfl) ?_
        with_reducible refine (HN.out _).mono ?_
        rintro e w5 ⟨rfl, hb5⟩
        refine ⟨_, rfl, ?_⟩
        refine hK.out _ _ ⟨(hb5.block _ (Array.getElem?_eq_some_iff.1 hHeld.1).1).trans hHeld.1, (hb5.block _ (Array.getElem?_eq_some_iff.1 hHeld.2.1).1).trans hHeld.2.1, below_le hHeld.2.2 hb5⟩ (fun hHeld => ?_)
        clear hK K
        refine norm_ (a' := ?_) ?_ ?_
        rotate_left
        · show Act.put _ (some 62) _ = _
          simp only [Act.put, List.setIfInBounds_toArray, List.set_cons_zero, List.set_cons_succ, i64_w, i32_w]
          rfl
        refine pure_ (i := 4) (N := some 58) (v := ?_) (a' := ?_) #[true, true, true, true, true, false, false, true, false, false] rfl rfl (by kernel_rfl) (fun _ _ _ h => h) (Or.inl ⟨by rfl, ?_⟩) ?_ ?_
        rotate_left
        · intro w'
          go_simp
          with_reducible rfl
        rotate_left
        · simp only [Act.put, List.setIfInBounds_toArray, List.set_cons_zero, List.set_cons_succ, i64_w, i32_w]
          rfl
        refine pure_ (i := 5) (N := some 63) (v := ?_) (a' := ?_) #[true, true, true, true, true, true, false, true, false, false] rfl rfl (by kernel_rfl) (fun _ _ _ h => h) (Or.inl ⟨by rfl, ?_⟩) ?_ ?_
        rotate_left
        · intro w'
          go_simp
          with_reducible rfl
        rotate_left
        · simp only [Act.put, List.setIfInBounds_toArray, List.set_cons_zero, List.set_cons_succ, i64_w, i32_w]
          rfl
        refine pure_ (i := 6) (N := some 64) (v := ?_) (a' := ?_) #[true, true, true, true, true, true, true, true, false, false] rfl rfl (by kernel_rfl) (fun _ _ _ h => h) (Or.inl ⟨by rfl, ?_⟩) ?_ ?_
        rotate_left
        · intro w'
          go_simp
          with_reducible rfl
        rotate_left
        · simp only [Act.put, List.setIfInBounds_toArray, List.set_cons_zero, List.set_cons_succ, i64_w, i32_w]
          rfl
        exact norm_ (by simp only [putAll, Act.put, List.setIfInBounds_toArray, List.set_cons_zero, List.set_cons_succ]) (hCont wo.drew.heap.size _ ⟨(hs7.below hb4).below hb5, hge7, hHeld⟩)
    rintro g7 w5 ⟨hs7, hge7, hHeld⟩
    refine norm_ (a' := ?_) ?_ ?_
    rotate_left
    · simp only [putAll, Act.put, List.setIfInBounds_toArray, List.set_cons_zero, List.set_cons_succ]
      rfl
    refine last_ (i := 8) (N := none) #[true, true, true, true, true, true, true, true, true, false] rfl rfl (by kernel_rfl) (by decide) (fun K hK => ?_)
    rw [if_pos (by rfl)]
    refine wp_store_row 33 _ _ rfl g7 (ansI 0 r) rfl rfl 33 instZ hs7 (by rw [ansI_size]; exact instSize) (by rw [ansI_size]; rfl) (ansI_one 0 r) ?_
    go_simp
    refine hK.out _ _ ?_
    clear hK K
    refine pure_ (i := 9) (N := some 11) (v := ?_) (a' := ?_) #[true, true, true, true, true, true, true, true, true, true] rfl rfl (by kernel_rfl) (fun _ _ _ h => h) (Or.inl ⟨by rfl, ?_⟩) ?_ ?_
    rotate_left
    · intro w'
      go_simp
      with_reducible rfl
    rotate_left
    · simp only [Act.put, List.setIfInBounds_toArray, List.set_cons_zero, List.set_cons_succ, i64_w, i32_w]
      rfl
    refine done_ (by kernel_rfl) ?_
    have hlo := row_lt hr0
    have hl1 := row_lt hr1
    generalize hY : World.setRow _ _ _ = w6
    have HA8 := Lib.hid (show w6.heap[g7]? = some (.cells (ansI 0 r) 33 (0, 0)) by rw [← hY]; exact setRow_heap _ _ _ _ _ _ hs7)
    have HS8 := Lib.hid (show w6.heap[w.heap.size]? = some (.cells (setsCells d S) 27 (0, 0)) by rw [← hY]; exact (setRow_other _ _ _ _ (by omega)).trans hHeld.1)
    have HT8 := Lib.hid (show w6.heap[w.heap.size + 1]? = some (.cells #[.int .i64 sec, .int .i64 nano] 33 (0, 0)) by rw [← hY]; exact (setRow_other _ _ _ _ (by omega)).trans hHeld.2.1)
    have hB8 : Below w.heap.size w w6 := by rw [← hY]; exact below_setRow (below_le hB7 hHeld.2.2) (by omega) _
    clear hY hHeld hs7 hge7 hr0 hr1 HS7 HT7 HB7 hB7 hlo hl1
    obtain ⟨ga, rfl⟩ : ∃ ga : Nat, ga = g7 := ⟨_, rfl⟩
    cases nv2 with
    | true =>
      obtain rfl : r = none := least_never (HNV2.out (by first | trivial | rfl)) HRL.out
      dsimp only [Option.isSome]
      have HA9 : Hid (w6.heap[ga]? = some (.cells #[.int .i64 0, .int .i64 0] 33 (0, 0))) := HA8
      clear HA8
      go_wp2_with (refine wpList_load_rowG (by rfl) 33 _ rfl ga rfl _ _ _ _ HA9.out Try.underlying33 rfl instSize ?_)
      go_ret
      exact ⟨rfl, hB8⟩
    | false =>
      cases r with
      | some L =>
        dsimp only [Option.isSome]
        go_upto_region 18 with fail
        obtain ⟨wo, rfl⟩ : ∃ wo : World, wo = w6 := ⟨_, rfl⟩
        refine start_ (n := 8) (S := fun w' => Below wo.heap.size wo w') (ds := []) #[false, false, false, false, false, false, false, false] (by kernel_rfl) rfl rfl ((Below.refl _ _).drew) (fun hHeld => ?_)
        refine pure_ (i := 0) (N := some 73) (v := ?_) (a' := ?_) #[true, false, false, false, false, false, false, false] rfl rfl (by kernel_rfl) (fun _ _ _ h => h) (Or.inl ⟨by rfl, ?_⟩) ?_ ?_
        rotate_left
        · intro w'
          go_simp
          with_reducible rfl
        rotate_left
        · simp only [Act.put, List.setIfInBounds_toArray, List.set_cons_zero, List.set_cons_succ, i64_w, i32_w]
          rfl
        refine pure_ (i := 1) (N := some 74) (v := ?_) (a' := ?_) #[true, true, false, false, false, false, false, false] rfl rfl (by kernel_rfl) (fun _ _ _ h => h) (Or.inl ⟨by rfl, ?_⟩) ?_ ?_
        rotate_left
        · intro w'
          go_simp
          with_reducible rfl
        rotate_left
        · simp only [Act.put, List.setIfInBounds_toArray, List.set_cons_zero, List.set_cons_succ, i64_w, i32_w]
          rfl
        refine pure_ (i := 2) (N := some 75) (v := undef) (a' := ?_) #[true, true, true, false, false, false, false, false] rfl rfl (by kernel_rfl) (fun _ _ _ h => h) (Or.inr ⟨by rfl, rfl⟩) ?_ ?_
        rotate_left
        · simp only [Act.put, List.setIfInBounds_toArray, List.set_cons_zero, List.set_cons_succ, i64_w, i32_w]
          rfl
        refine pure_ (i := 3) (N := some 76) (v := undef) (a' := ?_) #[true, true, true, true, false, false, false, false] rfl rfl (by kernel_rfl) (fun _ _ _ h => h) (Or.inr ⟨by rfl, rfl⟩) ?_ ?_
        rotate_left
        · simp only [Act.put, List.setIfInBounds_toArray, List.set_cons_zero, List.set_cons_succ, i64_w, i32_w]
          rfl
        refine pure_ (i := 4) (N := some 77) (v := undef) (a' := ?_) #[true, true, true, true, true, false, false, false] rfl rfl (by kernel_rfl) (fun _ _ _ h => h) (Or.inr ⟨by rfl, rfl⟩) ?_ ?_
        rotate_left
        · simp only [Act.put, List.setIfInBounds_toArray, List.set_cons_zero, List.set_cons_succ, i64_w, i32_w]
          rfl
        refine pure_ (i := 5) (N := some 78) (v := undef) (a' := ?_) #[true, true, true, true, true, true, false, false] rfl rfl (by kernel_rfl) (fun _ _ _ h => h) (Or.inr ⟨by rfl, rfl⟩) ?_ ?_
        rotate_left
        · simp only [Act.put, List.setIfInBounds_toArray, List.set_cons_zero, List.set_cons_succ, i64_w, i32_w]
          rfl
        refine pure_ (i := 6) (N := some 79) (v := ?_) (a' := ?_) #[true, true, true, true, true, true, true, false] rfl rfl (by kernel_rfl) (fun _ _ _ h => h) (Or.inl ⟨by rfl, ?_⟩) ?_ ?_
        rotate_left
        · intro w'
          go_simp
          with_reducible rfl
        rotate_left
        · simp only [Act.put, List.setIfInBounds_toArray, List.set_cons_zero, List.set_cons_succ, i64_w, i32_w]
          rfl
        refine pure_ (i := 7) (N := some 4) (v := ?_) (a' := ?_) #[true, true, true, true, true, true, true, true] rfl rfl (by kernel_rfl) (fun _ _ _ h => h) (Or.inl ⟨by rfl, ?_⟩) ?_ ?_
        rotate_left
        · intro w'
          go_simp
          with_reducible rfl
        rotate_left
        · simp only [Act.put, List.setIfInBounds_toArray, List.set_cons_zero, List.set_cons_succ, i64_w, i32_w]
          rfl
        refine done_ (by kernel_rfl) ?_
        go_wp2_with fail
        go_ret
        exact ⟨rfl, below_le hB8 hHeld⟩
      | none =>
        dsimp only [Option.isSome]
        go_upto_region 18 with fail
        obtain ⟨wo, rfl⟩ : ∃ wo : World, wo = w6 := ⟨_, rfl⟩
        have hr0 := HS8.out
        have hr1 := HT8.out
        refine start_ (n := 8) (S := fun w' => w'.heap[w.heap.size]? = some (.cells (setsCells d S) 27 (0, 0)) ∧ w'.heap[w.heap.size + 1]? = some (.cells #[.int .i64 sec, .int .i64 nano] 33 (0, 0)) ∧ Below wo.heap.size wo w') (ds := []) #[false, false, false, false, false, false, false, false] (by kernel_rfl) rfl rfl ⟨hr0, hr1, (Below.refl _ _).drew⟩ (fun hHeld => ?_)
        refine pure_ (i := 0) (N := some 73) (v := ?_) (a' := ?_) #[true, false, false, false, false, false, false, false] rfl rfl (by kernel_rfl) (fun _ _ _ h => h) (Or.inl ⟨by rfl, ?_⟩) ?_ ?_
        rotate_left
        · intro w'
          go_simp
          with_reducible rfl
        rotate_left
        · simp only [Act.put, List.setIfInBounds_toArray, List.set_cons_zero, List.set_cons_succ, i64_w, i32_w]
          rfl
        refine pure_ (i := 1) (N := some 74) (v := ?_) (a' := ?_) #[true, true, false, false, false, false, false, false] rfl rfl (by kernel_rfl) (fun _ _ _ h => h) (Or.inl ⟨by rfl, ?_⟩) ?_ ?_
        rotate_left
        · intro w'
          go_simp
          with_reducible rfl
        rotate_left
        · simp only [Act.put, List.setIfInBounds_toArray, List.set_cons_zero, List.set_cons_succ, i64_w, i32_w]
          rfl
        refine take_ (i := 2) (N := some 75) (v := ?_) (a' := ?_) #[true, true, true, false, false, false, false, false] rfl rfl (by kernel_rfl) (fun _ _ _ h => h) (Or.inl ⟨by rfl, ?_⟩) hHeld ?_ ?_
        rotate_left
        · rintro w' ⟨s0, s1, s2⟩
          refine exec_load_row _ _ w' 27 (.tmp 2) ?_ (w.heap.size) ?_ _ _ _ _ s0 Try.underlying27 rfl schedSize
          · rfl
          · rfl
        rotate_left
        · simp only [Act.put, List.setIfInBounds_toArray, List.set_cons_zero, List.set_cons_succ, i64_w, i32_w]
          rfl
        refine take_ (i := 3) (N := some 76) (v := ?_) (a' := ?_) #[true, true, true, true, false, false, false, false] rfl rfl (by kernel_rfl) (fun _ _ _ h => h) (Or.inl ⟨by rfl, ?_⟩) hHeld ?_ ?_
        rotate_left
        · rintro w' ⟨s0, s1, s2⟩
          refine exec_load_row _ _ w' 33 (.tmp 3) ?_ (w.heap.size + 1) ?_ _ _ _ _ s1 Try.underlying33 rfl instSize
          · rfl
          · rfl
        rotate_left
        · simp only [Act.put, List.setIfInBounds_toArray, List.set_cons_zero, List.set_cons_succ, i64_w, i32_w]
          rfl
        refine one_ (i := 4) (N := some 77) #[true, true, true, true, true, false, false, false] rfl rfl (by kernel_rfl) (by decide) (fun K hK => ?_)
        refine goes_ Try.func12 (by kernel_rfl) rfl #[] (by rfl) rfl rfl (by simp only [List.map_toArray, List.map_nil]) ?_
        with_reducible refine (HU.out _).mono ?_
        rintro e9 x9 ⟨rfl, hb9⟩
        refine ⟨_, rfl, ?_⟩
        refine hK.out _ _ ⟨row_keep hHeld.1 hb9, row_keep hHeld.2.1 hb9, below_le hHeld.2.2 hb9⟩ (fun hHeld => ?_)
        clear hK K
        refine norm_ (a' := ?_) ?_ ?_
        rotate_left
        · show Act.put _ (some 77) _ = _
          simp only [Act.put, List.setIfInBounds_toArray, List.set_cons_zero, List.set_cons_succ, i64_w, i32_w]
          rfl
        refine one_ (i := 5) (N := some 78) #[true, true, true, true, true, true, false, false] rfl rfl (by kernel_rfl) (by decide) (fun K hK => ?_)
        refine goes_ Try.func13 (by kernel_rfl) rfl #[.agg (setsCells d S), .agg #[.int .i64 sec, .int .i64 nano], .agg #[.slice none 0 0, .slice none 0 0, .slice none 0 0, .slice none 0 0]] (by rfl) rfl rfl (by simp only [List.map_toArray, List.map_cons, List.map_nil]; rfl) ?_
        with_reducible refine (HNN.out _).mono ?_
        rintro e10 x10 ⟨⟨b, rfl, hbn⟩, hb10⟩
        refine ⟨_, rfl, ?_⟩
        refine hK.out _ _ ⟨row_keep hHeld.1 hb10, row_keep hHeld.2.1 hb10, below_le hHeld.2.2 hb10⟩ (fun hHeld => ?_)
        clear hK K
        refine norm_ (a' := ?_) ?_ ?_
        rotate_left
        · show Act.put _ (some 78) _ = _
          simp only [Act.put, List.setIfInBounds_toArray, List.set_cons_zero, List.set_cons_succ, i64_w, i32_w]
          rfl
        refine pure_ (i := 6) (N := some 79) (v := ?_) (a' := ?_) #[true, true, true, true, true, true, true, false] rfl rfl (by kernel_rfl) (fun _ _ _ h => h) (Or.inl ⟨by rfl, ?_⟩) ?_ ?_
        rotate_left
        · intro w'
          go_simp
          with_reducible rfl
        rotate_left
        · simp only [Act.put, List.setIfInBounds_toArray, List.set_cons_zero, List.set_cons_succ, i64_w, i32_w]
          rfl
        refine pure_ (i := 7) (N := some 4) (v := ?_) (a' := ?_) #[true, true, true, true, true, true, true, true] rfl rfl (by kernel_rfl) (fun _ _ _ h => h) (Or.inl ⟨by rfl, ?_⟩) ?_ ?_
        rotate_left
        · intro w'
          go_simp
          with_reducible rfl
        rotate_left
        · simp only [Act.put, List.setIfInBounds_toArray, List.set_cons_zero, List.set_cons_succ, i64_w, i32_w]
          rfl
        refine done_ (by kernel_rfl) ?_
        obtain rfl : b = true := by
          cases b with
          | true => rfl
          | false =>
            obtain ⟨y, y1, y2, y3⟩ := hbn rfl
            exact absurd y3 (HRL.out y y1 y2)
        go_wp2_with fail
        go_ret
        exact ⟨rfl, below_le hB8 hHeld.2.2⟩
end Go.Proofs.Ytbgbeohiafiacaa.Cron
