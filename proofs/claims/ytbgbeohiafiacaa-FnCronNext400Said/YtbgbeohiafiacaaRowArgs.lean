/- The arguments of the rows: a Schedule and an Instant, opened to cells. -/
import Derived.Test.YtbgbeohiafiacaaRows
import Derived.Test.YtbgbeohiafiacaaGrK
import Derived.WalkKit
import Derived.ProofKit
import Derived.OpenShut
import Derived.Below
import Derived.Carry
import Derived.Deep.Slices
import Derived.Deep.Fields
import Derived.ChangeSame
namespace Go.Proofs.Ytbgbeohiafiacaa.RowArgs
open Go Go.Proofs.Ytbgbeohiafiacaa Go.ChangeShapes Go.WideShapes Go.ChangeAt Go.RowKit Go.Deep Go.Proofs.Ytbgbeohiafiacaa.Cal Go.Proofs.Ytbgbeohiafiacaa.Cron
set_option linter.unusedVariables false
theorem own : ownKnob Try.prog.godebug = none := by kernel_rfl
theorem laidOut : laidOutB Try.prog = true := by kernel_rfl
theorem cells_sched : Try.prog.cellsOf 27 = 8 := by kernel_rfl
theorem cells_inst : Try.prog.cellsOf 33 = 2 := by kernel_rfl
theorem okWide_size {P : Program} {w : World} {r : Reach} {base : Nat} {t : TypeId} {v : Value} {fs : Array Field} {n : Nat} (ht : P.underlying t = some (.struct fs)) (hC : P.cellsOf t = n) (h : Value.okWide P w r base t v) : ∃ cs : Array Value, v = .agg cs ∧ cs.size = n := by
  obtain ⟨cs, h1, h2⟩ := okWide_struct ht h
  exact ⟨cs, h1, h2.trans hC⟩
theorem u64_of {n : Int} (h : (Lit.int .u64 n).wf = true) : 0 ≤ n ∧ n < 18446744073709551616 := by
  simp [Lit.wf] at h
  have h1 : IntKind.u64.min = 0 := by decide
  have h2 : IntKind.u64.max = 18446744073709551615 := by decide
  omega
theorem one_field {P : Program} {fs : Array Field} (hone : oneCellFields P fs = true) (cs : List Value) (j : Nat) (f : Field) (hj : fs[j]? = some f) (v : Value) (hv : cs[j]? = some v) : (cs.drop f.offset).take (P.cellsOf f.type) = [v] := by
  obtain ⟨ho, hk⟩ := hone_of hone j f hj
  rw [ho, hk]
  have hl : j < cs.length := (List.getElem?_eq_some_iff.1 hv).1
  rw [List.drop_eq_getElem_cons hl]
  simp [(List.getElem?_eq_some_iff.1 hv).2]
theorem at_field {H : Type} {enc : TypeId × Value → H} {P : Program} {w : World} {base n : Nat} {spare : Nat → Bool} {held : Bool} {t : TypeId} {fs : Array Field} {cs : List Value} {xs : List (DataW H × List MemPlace)} (hs : P.underlying t = some (.struct fs)) (hone : oneCellFields P fs = true)
    (hg : ∀ (j : Nat) (f : Field), fs[j]? = some f → DataW.trod enc P w base spare held n f.type ((cs.drop f.offset).take (P.cellsOf f.type)) = xs[j]?) (j : Nat) (f : Field) (v : Value) (hj : fs[j]? = some f) (hv : cs[j]? = some v) :
    DataW.trod enc P w base spare held n f.type [v] = xs[j]? := by
  have := hg j f hj
  rw [one_field hone cs j f hj v hv] at this
  exact this
set_option maxRecDepth 100000 in
theorem open_inst {H : Type} {enc : TypeId × Value → H} {w W : World} {spare : Nat → Bool} {held : Bool} {base b2 : Nat} {r : Reach} {v : Value} {d : DataW H} {p : List MemPlace} (hv : Value.okWide Try.prog W r b2 33 v)
    (h : DataW.Trod enc Try.prog w base spare held 33 v d p) : ∃ sec nano : Int, v = .agg #[.int .i64 sec, .int .i64 nano] := by
  obtain ⟨cs, rfl, hsz⟩ := okWide_size Try.underlying33 cells_inst hv
  obtain ⟨l⟩ := cs
  match l, hsz with
  | [c0, c1], _ =>
    obtain ⟨fuel, hf⟩ := h
    obtain ⟨xs, n, _, hx, _, hlen, hg⟩ := DataW.trod_struct Try.underlying33 hf
    have g0 := at_field Try.underlying33 (by kernel_rfl) hg 0 _ c0 rfl rfl
    have g1 := at_field Try.underlying33 (by kernel_rfl) hg 1 _ c1 rfl rfl
    match xs, hlen with
    | [y0, y1], _ =>
      obtain ⟨a0, e0, -⟩ := DataW.trod_int Try.underlying2 (g0.trans rfl)
      obtain ⟨a1, e1, -⟩ := DataW.trod_int Try.underlying3 (g1.trans rfl)
      simp only [List.cons.injEq, and_true] at e0 e1
      subst e0 e1
      exact ⟨a0, a1, rfl⟩
set_option maxRecDepth 100000 in
theorem open_sched {H : Type} {enc : TypeId × Value → H} {w W : World} {spare : Nat → Bool} {held : Bool} {base b2 : Nat} {r : Reach} {v : Value} {d : DataW H} {p : List MemPlace} (hv : Value.okWide Try.prog W r b2 27 v)
    (h : DataW.Trod enc Try.prog w base spare held 27 v d p) : ∃ (ev : Bool) (dl : Int) (S : Sets), S.ok ∧ v = .agg (schedC ev dl S) := by
  obtain ⟨cs, rfl, hsz⟩ := okWide_size Try.underlying27 cells_sched hv
  obtain ⟨l⟩ := cs
  match l, hsz with
  | [c0, c1, c2, c3, c4, c5, c6, c7], _ =>
    obtain ⟨fuel, hf⟩ := h
    obtain ⟨xs, n, _, hx, _, hlen, hg⟩ := DataW.trod_struct Try.underlying27 hf
    have g0 := at_field Try.underlying27 (by kernel_rfl) hg 0 _ c0 rfl rfl
    have g1 := at_field Try.underlying27 (by kernel_rfl) hg 1 _ c1 rfl rfl
    have g2 := at_field Try.underlying27 (by kernel_rfl) hg 2 _ c2 rfl rfl
    have g3 := at_field Try.underlying27 (by kernel_rfl) hg 3 _ c3 rfl rfl
    have g4 := at_field Try.underlying27 (by kernel_rfl) hg 4 _ c4 rfl rfl
    have g5 := at_field Try.underlying27 (by kernel_rfl) hg 5 _ c5 rfl rfl
    have g6 := at_field Try.underlying27 (by kernel_rfl) hg 6 _ c6 rfl rfl
    have g7 := at_field Try.underlying27 (by kernel_rfl) hg 7 _ c7 rfl rfl
    match xs, hlen with
    | [y0, y1, y2, y3, y4, y5, y6, y7], _ =>
      obtain ⟨a0, e0, -⟩ := DataW.trod_bool Try.underlying4 (g0.trans rfl)
      obtain ⟨a1, e1, -⟩ := DataW.trod_int Try.underlying2 (g1.trans rfl)
      obtain ⟨a2, e2, -, k2⟩ := DataW.trod_int Try.underlying25 (g2.trans rfl)
      obtain ⟨a3, e3, -, k3⟩ := DataW.trod_int Try.underlying25 (g3.trans rfl)
      obtain ⟨a4, e4, -, k4⟩ := DataW.trod_int Try.underlying25 (g4.trans rfl)
      obtain ⟨a5, e5, -, k5⟩ := DataW.trod_int Try.underlying25 (g5.trans rfl)
      obtain ⟨a6, e6, -, k6⟩ := DataW.trod_int Try.underlying25 (g6.trans rfl)
      obtain ⟨a7, e7, -, k7⟩ := DataW.trod_int Try.underlying25 (g7.trans rfl)
      simp only [List.cons.injEq, and_true] at e0 e1 e2 e3 e4 e5 e6 e7
      subst e0 e1 e2 e3 e4 e5 e6 e7
      have k2 := u64_of k2
      have k3 := u64_of k3
      have k4 := u64_of k4
      have k5 := u64_of k5
      have k6 := u64_of k6
      have k7 := u64_of k7
      refine ⟨a0, a1, ⟨a2.toNat, a3.toNat, a4.toNat, a5.toNat, a6.toNat, a7.toNat⟩, ⟨by show a2.toNat < _; omega, by show a3.toNat < _; omega, by show a4.toNat < _; omega, by show a5.toNat < _; omega, by show a6.toNat < _; omega, by show a7.toNat < _; omega⟩, ?_⟩
      unfold schedC
      rw [Int.toNat_of_nonneg k2.1, Int.toNat_of_nonneg k3.1, Int.toNat_of_nonneg k4.1, Int.toNat_of_nonneg k5.1, Int.toNat_of_nonneg k6.1, Int.toNat_of_nonneg k7.1]
end Go.Proofs.Ytbgbeohiafiacaa.RowArgs
