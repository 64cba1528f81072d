/- FnCronScheduled: the law returns true whatever the input. Conditions: none beyond the statement's own. -/
import Derived.Test.YtbgbeohiafiacaaRows
import Derived.Test.YtbgbeohiafiacaaGrE
import Derived.WalkKit
import Derived.ProofKit
import Derived.OpenShut
import Derived.Below
import Derived.Carry
import Derived.Deep.Slices
import Derived.Deep.Fields
import Derived.ChangeSame
namespace Go.Proofs.Ytbgbeohiafiacaa.fnCronScheduled
open Go Go.Proofs.Ytbgbeohiafiacaa Go.ChangeShapes Go.WideShapes Go.ChangeAt Go.RowKit Go.Deep Go.Proofs.Ytbgbeohiafiacaa.Sched
set_option linter.unusedVariables false
section
variable {H : Type} {enc : TypeId × Value → H} {P : Program} {w : World} {base : Nat} {spare : Nat → Bool} {held : Bool}
theorem open_slice_fields {t e : TypeId} {fs : Array Field} {fuel : Nat} {cs : List Value} {x : DataW H × List MemPlace} (ht : P.underlying t = some (.slice e)) (he : P.underlying e = some (.struct fs))
    (hone : oneCellFields P fs = true) (hC : P.cellsOf e = fs.size) (h : DataW.trod enc P w base spare held fuel t cs = some x) :
    (cs = [.slice none 0 0] ∧ x = (.nil, [])) ∨
    ∃ (a : Addr) (len cap m : Nat) (D : Nat → DataW H) (Pl : Nat → List MemPlace), cs = [.slice (some a) len cap] ∧ base ≤ a.block ∧ len ≤ cap ∧ cap ≤ maxLen ∧ m = (if spare a.block then cap else len) ∧
      x = (.slice ((List.range len).map D) ((List.range (m - len)).map fun j => D (len + j)), MemPlace.row a (m * fs.size) ++ (List.range m).flatMap Pl) ∧
      ∀ i, i < m → ∃ (ys : List (DataW H × List MemPlace)) (n : Nat), D i = .agg (ys.map (·.1)) ∧ Pl i = ys.flatMap (·.2) ∧ ys.length = fs.size ∧
        ∀ (j : Nat) (f : Field), fs[j]? = some f → ∃ (v : Value) (y : DataW H × List MemPlace), w.cell? (a.add (i * fs.size + j)) = some v ∧ ys[j]? = some y ∧ DataW.trod enc P w base spare held n f.type [v] = some y := by
  rcases open_slice ht h with h0 | ⟨a, len, cap, m, n, D, Pl, hcs, hb, hl, hm, hmm, hx, hi⟩
  · exact .inl h0
  · refine .inr ⟨a, len, cap, m, D, Pl, hcs, hb, hl, hm, hmm, by rw [hC] at hx; exact hx, fun i him => ?_⟩
    obtain ⟨cs', hc, ht'⟩ := hi i him
    rw [hC] at hc
    obtain ⟨ys, n', hn', hy, hlen, hyl, hf⟩ := DataW.trod_struct he ht'
    obtain ⟨_, hcl, hat⟩ := World.cells?_some hc
    simp only [Prod.mk.injEq] at hy
    refine ⟨ys, n', hy.1, hy.2, hyl, fun j f hj => ?_⟩
    obtain ⟨ho, hk⟩ := hone_of hone j f hj
    have hjl : j < fs.size := (Array.getElem?_eq_some_iff.1 hj).1
    have hcell := hat j hjl
    have hv : cs'[j]? = some (cs'[j]'(by omega)) := List.getElem?_eq_getElem (by omega)
    have h1 := hf j f hj
    rw [ho, hk] at h1
    have hone' : (cs'.drop j).take 1 = [cs'[j]'(by omega)] := by
      rw [List.drop_eq_getElem_cons (by omega)]
      rfl
    rw [hone'] at h1
    have hys : ys[j]? = some (ys[j]'(by omega)) := List.getElem?_eq_getElem (by omega)
    refine ⟨_, _, ?_, hys, h1.trans hys⟩
    rw [← Go.Deep.add_add, hcell, hv]
end

theorem own : ownKnob Try.prog.godebug = none := by kernel_rfl
theorem laidOut : laidOutB Try.prog = true := by kernel_rfl
theorem cells_sched : Try.prog.cellsOf 27 = 8 := by kernel_rfl
instance : Inhabited Sch := ⟨⟨false, 0, 0, 0, 0, 0, 0, 0⟩⟩

/-- the argument, opened -/
theorem open_arg {H : Type} {enc : TypeId × Value → H} {w : World} {spare : Nat → Bool} {held : Bool} {fuel : Nat} {v : Value} {x : DataW H × List MemPlace} (hv : ∃ A len cap, v = .slice A len cap)
    (h : DataW.trod enc Try.prog w 0 spare held fuel 22 v.cells.toList = some x) (hlt : ∀ y ∈ x.2, y.block < w.heap.size) : ∃ L S, SchedArg w v L S := by
  obtain ⟨A, len0, cap0, rfl⟩ := hv
  rcases open_slice_fields Try.underlying22 Try.underlying27 (by kernel_rfl) cells_sched h with ⟨hcs, hx⟩ | ⟨a, len, cap, m, D, Pl, hcs, hb, hl, hm, hmm, hx, hf⟩
  · simp [Value.cells] at hcs
    obtain ⟨rfl, rfl, rfl⟩ := hcs
    exact ⟨0, fun _ => default, none, 0, rfl, fun i hi => absurd hi (by omega)⟩
  · simp [Value.cells] at hcs
    obtain ⟨rfl, rfl, rfl⟩ := hcs
    have hlm : len0 ≤ m := by rw [hmm]; split <;> omega
    have each : ∀ i, i < len0 → ∃ s : Sch, ∀ j u, s.cells.toList[j]? = some u → w.cell? (a.add (i * 8 + j)) = some u := by
      intro i hi
      obtain ⟨ys, n, -, -, -, hg⟩ := hf i (by omega)
      obtain ⟨u0, y0, c0, -, t0⟩ := hg 0 _ rfl
      obtain ⟨u1, y1, c1, -, t1⟩ := hg 1 _ rfl
      obtain ⟨u2, y2, c2, -, t2⟩ := hg 2 _ rfl
      obtain ⟨u3, y3, c3, -, t3⟩ := hg 3 _ rfl
      obtain ⟨u4, y4, c4, -, t4⟩ := hg 4 _ rfl
      obtain ⟨u5, y5, c5, -, t5⟩ := hg 5 _ rfl
      obtain ⟨u6, y6, c6, -, t6⟩ := hg 6 _ rfl
      obtain ⟨u7, y7, c7, -, t7⟩ := hg 7 _ rfl
      obtain ⟨b0, e0, -⟩ := DataW.trod_bool Try.underlying4 t0
      obtain ⟨b1, e1, -⟩ := DataW.trod_int Try.underlying2 t1
      obtain ⟨b2, e2, -⟩ := DataW.trod_int Try.underlying25 t2
      obtain ⟨b3, e3, -⟩ := DataW.trod_int Try.underlying25 t3
      obtain ⟨b4, e4, -⟩ := DataW.trod_int Try.underlying25 t4
      obtain ⟨b5, e5, -⟩ := DataW.trod_int Try.underlying25 t5
      obtain ⟨b6, e6, -⟩ := DataW.trod_int Try.underlying25 t6
      obtain ⟨b7, e7, -⟩ := DataW.trod_int Try.underlying25 t7
      simp only [List.cons.injEq, and_true] at e0 e1 e2 e3 e4 e5 e6 e7
      subst e0 e1 e2 e3 e4 e5 e6 e7
      refine ⟨⟨b0, b1, b2, b3, b4, b5, b6, b7⟩, fun j u hu => ?_⟩
      have hj : j < 8 := (List.getElem?_eq_some_iff.1 hu).1
      match j, hj, hu with
      | 0, _, hu => exact c0.trans hu
      | 1, _, hu => exact c1.trans hu
      | 2, _, hu => exact c2.trans hu
      | 3, _, hu => exact c3.trans hu
      | 4, _, hu => exact c4.trans hu
      | 5, _, hu => exact c5.trans hu
      | 6, _, hu => exact c6.trans hu
      | 7, _, hu => exact c7.trans hu
    obtain ⟨S, hS⟩ := choose_lt each
    refine ⟨len0, S, some a, cap0, rfl, fun i hi => ?_⟩
    obtain ⟨b, off, spot⟩ := a
    have hspot : spot = none := by simpa [Addr.add] using World.cell?_spot (hS 0 (by omega) 0 _ rfl)
    subst hspot
    have hbl := World.block_lt_of_cell? w _ (hS i hi 0 _ rfl)
    rw [Addr.add_mid] at hbl
    refine ⟨b, off, rfl, hbl, fun j u hu => ?_⟩
    have := hS i hi j u hu
    rw [Addr.add_mid] at this
    rw [Nat.add_assoc]
    exact this

set_option maxRecDepth 100000 in
theorem lifted (os : Os) (started : os.Started) (H : Type) (enc : TypeId × Value → H) :
    ReturnsInHanded {} Try.checked os 3 .any (Rows.fnCronScheduledSpec.pre6 enc Try.prog Try.f3 Rows.fnCronScheduledRow.domain false) (Rows.fnCronScheduledSpec.post enc Try.prog Try.f3 false true false false) := by
  refine returnsInHanded_of_change (C := Try.checked) own started (by kernel_rfl) Try.func3
    (ChangeSpec.witness6 (enc := enc) (C := Try.checked) false ⟨#[], #[.slice none 0 0], []⟩ 8 (by kernel_rfl) (by kernel_rfl) (by kernel_rfl) (by kernel_rfl)) ?_
  intro W base args ds gs before hval0 hW hcnd0 _
  have hval : ∀ (j : Nat) t v, Try.f3.params[j]? = some t → args[j]? = some v → Value.okWide Try.prog W .any base t v := hval0
  have hW' := hW
  obtain ⟨p, q, hA0, hV, rfl, _, _⟩ := hW
  have hA : DataW.TrodAll enc Try.prog W 0 (fun _ => true) true Try.f3.params.toList args.toList ds p := hA0
  rw [Try.params3] at hA hval
  obtain ⟨v0, d0, rfl, rfl, h0⟩ := trodAll_one hA
  obtain ⟨rfl, rfl⟩ := trodVars_none hV
  have h0k := h0
  obtain ⟨fuel, hf⟩ := h0
  clear hA0 hval0
  simp only [List.append_nil] at hW'
  have hlt : ∀ x ∈ p, x.block < W.heap.size := fun x hx => by simpa using hW'.lt x hx
  have hargs : ∀ (W' : World), Below W.heap.size W W' → DataW.Trod enc Try.prog W' 0 (fun b => decide (b < W.heap.size)) true 22 v0 d0 p :=
    fun W' hn => Below.trod laidOut (by kernel_rfl) (of_decide_eq_true (by kernel_rfl)) h0k hn hlt
  obtain ⟨L, S, harg⟩ := open_arg (okWide_slice Try.underlying22 (hval 0 22 v0 rfl rfl)) hf hlt
  refine (law_any v0 L S W harg).mono fun e W' ⟨he, hb⟩ => ?_
  subst he
  exact ⟨_, rfl, ⟨_, _, _, [], _, [], hW', trodAll_mk1 (shut_bool Try.underlying4 _), trodAll_mk1 (hargs _ hb), rfl, hb.frame _, fun h => by cases h⟩⟩

theorem over : Rows.fnCronScheduledRow.holds Try.pinned (OpenSpec.ofChange Rows.fnCronScheduledSpec) :=
  OpenClaim.holds_of_wide 3 Try.f3 rfl rfl rfl rfl rfl rfl rfl ⟨rfl, rfl, rfl, rfl, rfl⟩ rfl rfl rfl rfl rfl (by kernel_rfl) Try.func3 (by kernel_rfl)
    (of_decide_eq_true (by kernel_rfl)) (by unfold Func.isWrapper; first | (rw [if_pos (by decide +kernel)]; kernel_rfl) | (rw [if_neg (by decide +kernel)]; exact ⟨rfl, rfl⟩))
    (fun os started H enc _ => lifted os started H enc)
theorem proved : Rows.FnCronScheduledSaid := over
#print axioms proved
end Go.Proofs.Ytbgbeohiafiacaa.fnCronScheduled
