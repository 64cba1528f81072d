/- FnCronNextIn: the law returns true whatever the input: the row. Conditions: none beyond the statement's own. -/
import Derived.Test.YtlopkdhblfibkaaRows
import Derived.Test.YtlopkdhblfibkaaGrH
import Derived.WalkKit
import Derived.ProofKit
import Derived.OpenShut
import Derived.ShutString
import Derived.ChangeOld
import Derived.Below
import Derived.SizedLaws
import Derived.LaidMore
import Derived.Stop.Joined
import Derived.SevenTiedAt
namespace Go.Proofs.Ytlopkdhblfibkaa.fnCronNextIn
open Go Go.Proofs.Ytlopkdhblfibkaa Go.ChangeShapes Go.WideShapes Go.ChangeAt Go.RowKit
open Go.ChangeMaps (open_string shut_string)
set_option linter.unusedVariables false
theorem own : ownKnob Try.prog.godebug = none := by kernel_rfl
set_option maxRecDepth 100000 in
theorem lifted (os : Os) (started : os.Started) (H : Type) (enc : TypeId × Value → H) :
  ReturnsInHanded {} Try.checked os 3 .any (Rows.fnCronNextInSpec.pre6 enc Try.prog Try.f3 Rows.fnCronNextInRow.domain false) (Rows.fnCronNextInSpec.post enc Try.prog Try.f3 false true false false) := by
 refine returnsInHanded_of_change_sized (C := Try.checked) own started (by kernel_rfl) Try.func3
  (ChangeSpec.witness6 (enc := enc) (C := Try.checked) false ⟨#[], #[.agg #[.bool false, .int .i64 0, .int .u64 0, .int .u64 0, .int .u64 0, .int .u64 0, .int .u64 0, .int .u64 0], .agg #[.slice none 0 0, .slice none 0 0, .slice none 0 0, .slice none 0 0], .agg #[.int .i64 0, .int .i64 0], .agg #[.slice none 0 0, .slice none 0 0, .slice none 0 0, .slice none 0 0]], []⟩ 8 (by kernel_rfl) (by kernel_rfl) (by kernel_rfl) (by kernel_rfl)) ?_
 intro W base args ds gs before hval0 hW hcnd hsz0 _
 have hsz : (DataW.weightsEach Try.prog (Try.f3.params.toList ++ Rows.fnCronNextInSpec.plain.varTypes Try.prog) (ds ++ gs)).all (· ≤ reachBytes) = true := hsz0
 have hval : ∀ (j : Nat) t v, Try.f3.params[j]? = some t → args[j]? = some v → Value.okWide Try.prog W .any base t v := hval0
 have hW' := hW
 obtain ⟨p, q, hA0, hV, rfl, hfz, hnd⟩ := hW
 have hA : DataW.TrodAll enc Try.prog W 0 (fun _ => true) true Try.f3.params.toList args.toList ds p := hA0
 rw [Try.params3] at hA hval hsz
 obtain ⟨v0, vs0, d0, ds0, p0, q0, hargs, rfl, rfl, h0, r0⟩ := trodAll_cons hA
 obtain ⟨v1, vs1, d1, ds1, p1, q1, rfl, rfl, rfl, h1, r1⟩ := trodAll_cons r0
 obtain ⟨v2, vs2, d2, ds2, p2, q2, rfl, rfl, rfl, h2, r2⟩ := trodAll_cons r1
 obtain ⟨v3, vs3, d3, ds3, p3, q3, rfl, rfl, rfl, h3, r3⟩ := trodAll_cons r2
 obtain ⟨rfl, rfl, rfl⟩ := trodAll_nil r3
 obtain rfl : args = #[v0, v1, v2, v3] := by cases args; simp_all
 obtain ⟨rfl, rfl⟩ := trodVars_none hV
 have hb0 : ∀ (W' : World), Below W.heap.size W W' → DataW.Trod enc Try.prog W' 0 (fun b => decide (b < W.heap.size)) true 24 v0 d0 p0 :=
  fun W' hn => Below.trod RowArgs.laidOut (by kernel_rfl) (of_decide_eq_true (by kernel_rfl)) h0 hn (fun x hx => by simpa using hW'.lt x (by simp [hx]))
 obtain ⟨ev0, dl0, S0, hS0, rfl⟩ := RowArgs.open_sched (hval 0 24 v0 rfl rfl) h0
 have hb1 : ∀ (W' : World), Below W.heap.size W W' → DataW.Trod enc Try.prog W' 0 (fun b => decide (b < W.heap.size)) true 29 v1 d1 p1 :=
  fun W' hn => Below.trod RowArgs.laidOut (by kernel_rfl) (of_decide_eq_true (by kernel_rfl)) h1 hn (fun x hx => by simpa using hW'.lt x (by simp [hx]))
 obtain ⟨z1, k1, rfl⟩ := RowArgs.open_zone (hval 1 29 v1 rfl rfl) h1
 have hb2 : ∀ (W' : World), Below W.heap.size W W' → DataW.Trod enc Try.prog W' 0 (fun b => decide (b < W.heap.size)) true 31 v2 d2 p2 :=
  fun W' hn => Below.trod RowArgs.laidOut (by kernel_rfl) (of_decide_eq_true (by kernel_rfl)) h2 hn (fun x hx => by simpa using hW'.lt x (by simp [hx]))
 obtain ⟨s2, n2, rfl⟩ := RowArgs.open_inst (hval 2 31 v2 rfl rfl) h2
 have hb3 : ∀ (W' : World), Below W.heap.size W W' → DataW.Trod enc Try.prog W' 0 (fun b => decide (b < W.heap.size)) true 29 v3 d3 p3 :=
  fun W' hn => Below.trod RowArgs.laidOut (by kernel_rfl) (of_decide_eq_true (by kernel_rfl)) h3 hn (fun x hx => by simpa using hW'.lt x (by simp [hx]))
 obtain ⟨z3, k3, rfl⟩ := RowArgs.open_zone (hval 3 29 v3 rfl rfl) h3
 clear hA0 hval0 hsz0 hsz
 refine (CronN.rowNextIn ev0 dl0 S0 hS0 z1 s2 n2 z3  W k1 k3).mono fun e W' ⟨he, bel⟩ => ?_
 subst he
 exact ⟨_, rfl, _, _, _, [], _, [], hW', trodAll_mk1 (shut_bool Try.underlying4 _), (trodAll_cons_mk (hb0 _ bel) (trodAll_cons_mk (hb1 _ bel) (trodAll_cons_mk (hb2 _ bel) (trodAll_cons_mk (hb3 _ bel) trodAll_mk0)))), rfl, bel.frame _, fun h => by cases h⟩
theorem over : Rows.fnCronNextInRow.holds Try.pinned (OpenSpec.ofChange Rows.fnCronNextInSpec) :=
 OpenClaim.holds_of_wide 3 Try.f3 rfl rfl rfl rfl rfl rfl rfl ⟨rfl, rfl, rfl, rfl, rfl⟩ rfl rfl rfl rfl rfl (by kernel_rfl) Try.func3 (by kernel_rfl)
  (of_decide_eq_true (by kernel_rfl)) (by unfold Func.isWrapper; first | (rw [if_pos (by decide +kernel)]; kernel_rfl) | (rw [if_neg (by decide +kernel)]; exact ⟨rfl, rfl⟩))
  (fun os started H enc _ => lifted os started H enc)
theorem proved : Rows.FnCronNextInSaid := over
#print axioms proved
end Go.Proofs.Ytlopkdhblfibkaa.fnCronNextIn
