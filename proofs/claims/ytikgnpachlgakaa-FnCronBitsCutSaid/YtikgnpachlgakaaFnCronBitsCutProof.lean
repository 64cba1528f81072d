/- FnCronBitsCut: for all numbers low, middle, high and step the law returns true: within its guards a set of steps up to a lower end is what lies up to this end of the set up to a higher one.
   Conditions: none beyond the statement's own. -/
import Derived.Test.YtikgnpachlgakaaRows
import Derived.WalkKit
import Derived.ProofKit
import Derived.OpenShut
import Derived.Test.YtikgnpachlgakaaGetBits
namespace Go.Proofs.Ytikgnpachlgakaa.fnCronBitsCut
open Go.Proofs.Ytikgnpachlgakaa.Bits Go.Proofs.Ytikgnpachlgakaa Go.ChangeShapes Go.WideShapes Go.ChangeAt Go.RowKit
set_option linter.unusedVariables false      -- a walk need not use every 'w<i>' (that an integer argument fits its kind)

theorem own : ownKnob Try.prog.godebug = none := by kernel_rfl

theorem out (lo mid hi st : Nat) (w : World) (h : mid < lo ∨ lo ≤ mid ∧ (hi < mid ∨ mid ≤ hi ∧ (62 < hi ∨ hi ≤ 62 ∧ (st < 1 ∨ 1 ≤ st ∧ 4294967296 < st)))) :
    Calls Try.prog 3 #[.int .u64 lo, .int .u64 mid, .int .u64 hi, .int .u64 st] w fun e w' => e = .returned (.bool true) ∧ Grown w w' := by
  rcases h with h | ⟨h1, h | ⟨h2, h | ⟨h3, h | ⟨h4, h⟩⟩⟩⟩
  all_goals
    go_enter Try.func3, Try.ntmps3
    go_wp2
    go_ret
    exact ⟨rfl, Grown.refl _⟩

theorem inn (lo mid hi st : Nat) (w : World) (h1 : lo ≤ mid) (h2 : mid ≤ hi) (h3 : hi ≤ 62) (h4 : 1 ≤ st) (h5 : st ≤ 4294967296) :
    Calls Try.prog 3 #[.int .u64 lo, .int .u64 mid, .int .u64 hi, .int .u64 st] w fun e w' => e = .returned (.bool true) ∧ Grown w w' := by
  have hne : (((steps lo mid st : Nat) : Int) != 0) = true := by
    have := steps_ne (st := st) h1 (show mid ≤ 63 by omega)
    simp; omega
  have hc := steps_cut (lo := lo) (st := st) h2 h3
  have hp : (2 : Nat) ^ (mid + 1) < 2 ^ 64 := Nat.pow_lt_pow_right (by decide) (by omega)
  have hp0 := Nat.two_pow_pos (mid + 1)
  have hw : IntKind.u64.wrap (2 ^ (mid + 1)) = ((2 ^ (mid + 1) : Nat) : Int) := shl_one (i := ((mid + 1 : Nat) : Int)) (by omega) (by omega)
  have hw2 : IntKind.u64.wrap (IntKind.u64.wrap (2 ^ (mid + 1)) - 1) = ((2 ^ (mid + 1) - 1 : Nat) : Int) := by
    rw [hw, show (((2 ^ (mid + 1) : Nat) : Int) - 1) = ((2 ^ (mid + 1) - 1 : Nat) : Int) by omega]
    exact wraps_u64 _ (by omega) (by exact_mod_cast (show 2 ^ (mid + 1) - 1 < 2 ^ 64 by omega))
  have hand : (((steps lo mid st : Nat) : Int) == bits .and .u64 (steps lo hi st : Int) (IntKind.u64.wrap (IntKind.u64.wrap (2 ^ (mid + 1)) - 1))) = true := by
    rw [hw2, and_u64 (steps_lt _ _ _) (by omega), ← hc]; simp
  clear hw hw2 hp hp0 hc
  go_enter Try.func3, Try.ntmps3
  go_wp2_with fail
  refine (Cron.cronBits_any lo mid st (by omega) (by omega) (by omega) (by omega) _).mono ?_
  rintro e w' ⟨rfl, rfl⟩
  go_wp2_with fail

  refine (Cron.cronBits_any lo hi st (by omega) (by omega) (by omega) (by omega) _).mono ?_
  rintro e w' ⟨rfl, rfl⟩
  go_wp2_with fail
  go_ret
  exact ⟨rfl, Grown.refl _⟩

/-! ### STEP 1: THE WALK: the Go text returns true. 'Grown w w'': the world has at most new blocks (Derived/RowKit3.lean). Part the cases AHEAD of 'go_enter' where a test parts the walk; take each callee by a contract of your own. -/
theorem walk (a0 : Int) (a1 : Int) (a2 : Int) (a3 : Int) (w0 : (Lit.int .u64 a0).wf = true) (w1 : (Lit.int .u64 a1).wf = true) (w2 : (Lit.int .u64 a2).wf = true) (w3 : (Lit.int .u64 a3).wf = true) (w : World) :
    Calls Try.prog 3 #[.int .u64 a0, .int .u64 a1, .int .u64 a2, .int .u64 a3] w fun e w' => e = .returned (.bool true) ∧ Grown w w' := by
  obtain ⟨p0, q0⟩ := bounds_u64 w0
  obtain ⟨p1, q1⟩ := bounds_u64 w1
  obtain ⟨p2, q2⟩ := bounds_u64 w2
  obtain ⟨p3, q3⟩ := bounds_u64 w3
  clear w0 w1 w2 w3
  obtain ⟨lo, rfl⟩ := Int.eq_ofNat_of_zero_le p0
  obtain ⟨mid, rfl⟩ := Int.eq_ofNat_of_zero_le p1
  obtain ⟨hi, rfl⟩ := Int.eq_ofNat_of_zero_le p2
  obtain ⟨st, rfl⟩ := Int.eq_ofNat_of_zero_le p3
  by_cases h1 : mid < lo
  · exact out lo mid hi st w (.inl h1)
  by_cases h2 : hi < mid
  · exact out lo mid hi st w (.inr ⟨by omega, .inl h2⟩)
  by_cases h3 : 62 < hi
  · exact out lo mid hi st w (.inr ⟨by omega, .inr ⟨by omega, .inl h3⟩⟩)
  by_cases h4 : st < 1
  · exact out lo mid hi st w (.inr ⟨by omega, .inr ⟨by omega, .inr ⟨by omega, .inl h4⟩⟩⟩)
  by_cases h5 : 4294967296 < st
  · exact out lo mid hi st w (.inr ⟨by omega, .inr ⟨by omega, .inr ⟨by omega, .inr ⟨by omega, h5⟩⟩⟩⟩)
  exact inn lo mid hi st w (by omega) (by omega) (by omega) (by omega) (by omega)

/-! ### THE ROW's STEP: WRITTEN OUT: LEAVE IT -/
set_option maxRecDepth 100000 in
theorem lifted (os : Os) (started : os.Started) (H : Type) (enc : TypeId × Value → H) :
    ReturnsInHanded {} Try.checked os 3 .any (Rows.fnCronBitsCutSpec.pre6 enc Try.prog Try.f3 Rows.fnCronBitsCutRow.domain false) (Rows.fnCronBitsCutSpec.post enc Try.prog Try.f3 false true false false) := by
  refine returnsInHanded_of_change (C := Try.checked) own started (by kernel_rfl) Try.func3
    (ChangeSpec.witness6 (enc := enc) (C := Try.checked) false ⟨#[], #[.int .u64 0, .int .u64 0, .int .u64 0, .int .u64 0], []⟩ 8 (by kernel_rfl) (by kernel_rfl) (by kernel_rfl) (by kernel_rfl)) ?_
  intro W base args ds gs before hval0 hW hcnd _
  have hval : ∀ (j : Nat) t v, Try.f3.params[j]? = some t → args[j]? = some v → Value.okWide Try.prog W .any base t v := hval0
  have hW' := hW
  obtain ⟨p, q, hA0, hV, rfl, hfz, hnd⟩ := hW
  have hA : DataW.TrodAll enc Try.prog W 0 (fun _ => true) true Try.f3.params.toList args.toList ds p := hA0
  rw [Try.params3] at hA hval
  obtain ⟨v0, vs0, d0, ds0, p0, q0, hargs, rfl, rfl, h0, r0⟩ := trodAll_cons hA
  obtain ⟨v1, vs1, d1, ds1, p1, q1, rfl, rfl, rfl, h1, r1⟩ := trodAll_cons r0
  obtain ⟨v2, vs2, d2, ds2, p2, q2, rfl, rfl, rfl, h2, r2⟩ := trodAll_cons r1
  obtain ⟨v3, vs3, d3, ds3, p3, q3, rfl, rfl, rfl, h3, r3⟩ := trodAll_cons r2
  obtain ⟨rfl, rfl, rfl⟩ := trodAll_nil r3
  obtain rfl : args = #[v0, v1, v2, v3] := by cases args; simp_all
  obtain ⟨rfl, rfl⟩ := trodVars_none hV
  obtain ⟨a0, rfl, rfl, rfl, w0⟩ := open_int Try.underlying22 (hval 0 22 v0 rfl rfl) h0
  obtain ⟨a1, rfl, rfl, rfl, w1⟩ := open_int Try.underlying22 (hval 1 22 v1 rfl rfl) h1
  obtain ⟨a2, rfl, rfl, rfl, w2⟩ := open_int Try.underlying22 (hval 2 22 v2 rfl rfl) h2
  obtain ⟨a3, rfl, rfl, rfl, w3⟩ := open_int Try.underlying22 (hval 3 22 v3 rfl rfl) h3
  clear hA0 hval0
  simp only [List.append_nil] at hW'
  refine (walk a0 a1 a2 a3 w0 w1 w2 w3 W).mono fun e W' ⟨he, hg⟩ => ?_
  subst he
  exact ⟨_, rfl, post_of_same (pa := []) (pv := []) hW' (fun _ _ _ => (trodAll_cons_mk (shut_bool Try.underlying4 _) trodAll_mk0)) (fun sp _ => (trodAll_cons_mk (shut_int Try.underlying22 w0) (trodAll_cons_mk (shut_int Try.underlying22 w1) (trodAll_cons_mk (shut_int Try.underlying22 w2) (trodAll_cons_mk (shut_int Try.underlying22 w3) trodAll_mk0))))) (fun _ _ => rfl) rfl
    (hg.frame _) hg.2.1 (ok_one (by kernel_rfl) rfl (okWide_bool_mk Try.underlying4 _))⟩

theorem over : Rows.fnCronBitsCutRow.holds Try.pinned (OpenSpec.ofChange Rows.fnCronBitsCutSpec) :=
  OpenClaim.holds_of_wide 3 Try.f3 rfl rfl rfl rfl rfl rfl rfl ⟨rfl, rfl, rfl, rfl, rfl⟩ rfl rfl rfl rfl rfl (by kernel_rfl) Try.func3 (by kernel_rfl)
    (of_decide_eq_true (by kernel_rfl)) (by unfold Func.isWrapper; first | (rw [if_pos (by decide +kernel)]; kernel_rfl) | (rw [if_neg (by decide +kernel)]; exact ⟨rfl, rfl⟩))
    (fun os started H enc _ => lifted os started H enc)

/-- ████ THE STATEMENT ████ -/
theorem proved : Rows.FnCronBitsCutSaid :=
  over
#print axioms proved
end Go.Proofs.Ytikgnpachlgakaa.fnCronBitsCut
