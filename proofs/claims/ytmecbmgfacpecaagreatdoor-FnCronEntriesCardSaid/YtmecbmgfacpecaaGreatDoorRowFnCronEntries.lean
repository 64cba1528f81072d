/- FnCronEntries: the law returns true whatever the input: the row and the tied card. Conditions: none beyond the statement's own. -/
import Derived.Test.YtmecbmgfacpecaaGreatDoorRows
import Derived.Test.YtmecbmgfacpecaaGreatDoorTie
import Derived.Test.YtmecbmgfacpecaaGreatDoorCards
import Derived.Test.YtmecbmgfacpecaaGreatDoorGrA
import Derived.Test.YtmecbmgfacpecaaGreatDoorGrO
import Derived.WalkKit
import Derived.ProofKit
import Derived.OpenShut
import Derived.ShutString
import Derived.ChangeOld
import Derived.Below
import Derived.SizedLaws
import Derived.LaidMore
import Derived.Stop.Joined
import Derived.SevenTiedAt
import Derived.Lay
namespace Go.Proofs.YtmecbmgfacpecaaGreatDoor.fnCronEntries
open Go Go.Proofs.YtmecbmgfacpecaaGreatDoor Go.ChangeShapes Go.WideShapes Go.ChangeAt Go.RowKit
open Go.ChangeMaps (open_string shut_string)
set_option linter.unusedVariables false
theorem own : ownKnob Tryz.prog.godebug = none := by kernel_rfl
def laidHere : List (String × DataW Unit) := [("math/bits.deBruijn32tab", Rows.laid_math_bits_deBruijn32tab), ("math/bits.deBruijn64tab", Rows.laid_math_bits_deBruijn64tab), ("internal/strconv.uint64pow10", Rows.laid_internal_strconv_uint64pow10), ("unicode/utf8.acceptRanges", Rows.laid_unicode_utf8_acceptRanges), ("pub-timebook/pub/gotime.errLeadingInt", Rows.laid_pub_timebook_pub_gotime_errLeadingInt), ("pub-timebook/pub/gotime.errLocation", Rows.laid_pub_timebook_pub_gotime_errLocation), ("strconv.ErrRange", Rows.laid_strconv_ErrRange), ("strconv.ErrSyntax", Rows.laid_strconv_ErrSyntax), ("unicode/utf8.first", Rows.laid_unicode_utf8_first)]
theorem door_met (os : Os) (args : Array Value) : laidMetH Tryz.prog laidHere ((World.laidAll Tryz.prog os laidHere).forCall (fun _ _ => 0) ⟨#[], args, []⟩).memory :=
 by rw [MakeChecks.laidMetH_plain _ _ _ (by kernel_rfl)]; exact laidMet_laidAll _ (by kernel_rfl) (by kernel_rfl)
set_option maxRecDepth 100000 in
theorem lifted (os : Os) (started : os.Started) (H : Type) (enc : TypeId × Value → H) :
  ReturnsInHanded {} Tryz.checked os 4 .any (fun w args => (Rows.fnCronEntriesSpec.pre enc Tryz.prog Tryz.f4 [] false w args ∧ laidMetH Tryz.prog laidHere w) ∧ sizedMet enc Tryz.prog Tryz.f4 (OpenSpec.ofChange Rows.fnCronEntriesSpec) false w args)
   (Rows.fnCronEntriesSpec.post enc Tryz.prog Tryz.f4 false true false false) := by
 refine returnsInHanded_of_change_and (C := Tryz.checked) (X := fun w _ => laidMetH Tryz.prog laidHere w) (fun _ _ _ hh h => h.of_heap hh) own started (by kernel_rfl) Tryz.func4
  (ChangeSpec.witness_shaped (enc := enc) (C := Tryz.checked) (os := os) (X := fun w _ => laidMetH Tryz.prog laidHere w) false (World.laidAll Tryz.prog os laidHere) #[.bool false, .slice none 0 0, .int .i64 0] 8 (World.laidAll_os _ _ _) (World.shaped_of_ZipB (by kernel_rfl) (by kernel_rfl)) (by kernel_rfl) (by kernel_rfl) (by kernel_rfl) (door_met os _)) ?_
 intro W base args ds gs before hval0 hW _ hsz0 hL _;have hsz : (DataW.weightsEach Tryz.prog (Tryz.f4.params.toList ++ Rows.fnCronEntriesSpec.plain.varTypes Tryz.prog) (ds ++ gs)).all (· ≤ reachBytes) = true := hsz0;have hval : ∀ (j : Nat) t v, Tryz.f4.params[j]? = some t → args[j]? = some v → Value.okWide Tryz.prog W .any base t v := hval0;have hW' := hW;obtain ⟨p, q, hA0, hV, rfl, hfz, hnd⟩ := hW;have hA : DataW.TrodAll enc Tryz.prog W 0 (fun _ => true) true Tryz.f4.params.toList args.toList ds p := hA0;rw [Tryz.params4] at hA hval hsz
 obtain ⟨v0, vs0, d0, ds0, p0, q0, hargs, rfl, rfl, h0, r0⟩ := trodAll_cons hA;obtain ⟨v1, vs1, d1, ds1, p1, q1, rfl, rfl, rfl, h1, r1⟩ := trodAll_cons r0;obtain ⟨v2, vs2, d2, ds2, p2, q2, rfl, rfl, rfl, h2, r2⟩ := trodAll_cons r1;obtain ⟨rfl, rfl, rfl⟩ := trodAll_nil r2;obtain rfl : args = #[v0, v1, v2] := by cases args; simp_all
 obtain ⟨rfl, rfl⟩ := trodVars_none hV;obtain ⟨a0, rfl, rfl, rfl⟩ := open_bool Tryz.underlying4 (hval 0 4 v0 rfl rfl) h0
 have hb1 : ∀ (W' : World), Below W.heap.size W W' → DataW.Trod enc Tryz.prog W' 0 (fun b => decide (b < W.heap.size)) true 33 v1 d1 p1 :=
  fun W' hn => Below.trod RowStrs.laidOut (by kernel_rfl) (of_decide_eq_true (by kernel_rfl)) h1 hn (fun x hx => by simpa using hW'.lt x (by simp [hx]))
 obtain ⟨A1, l1, c1, k1, rfl⟩ := RowStrs.open_strs (hval 1 33 v1 rfl rfl) h1;obtain ⟨a2, rfl, rfl, rfl, w2⟩ := open_int Tryz.underlying3 (hval 2 3 v2 rfl rfl) h2;clear hA0 hval0 hsz0 hsz;refine (Cron.ent_walk a0 A1 l1 c1 a2 w2 W hL k1).mono fun e W' ⟨he, bel⟩ => ?_
 subst he;exact ⟨_, rfl, _, _, _, [], _, [], hW', trodAll_mk1 (shut_bool Tryz.underlying4 _), (trodAll_cons_mk (shut_bool Tryz.underlying4 _) (trodAll_cons_mk (hb1 _ bel) (trodAll_cons_mk (shut_int Tryz.underlying3 w2) trodAll_mk0))), rfl, bel.frame _, fun h => by cases h⟩
theorem over : Rows.fnCronEntriesRow.holds Tryz.pinned (OpenSpec.ofChange Rows.fnCronEntriesSpec) :=
 OpenClaim.holds_of_wide 4 Tryz.f4 rfl rfl rfl rfl rfl rfl rfl ⟨rfl, rfl, rfl, rfl, rfl⟩ rfl rfl rfl rfl rfl (by kernel_rfl) Tryz.func4 (by kernel_rfl)
  (of_decide_eq_true (by kernel_rfl)) (by unfold Func.isWrapper; first | (rw [if_pos (by decide +kernel)]; kernel_rfl) | (rw [if_neg (by decide +kernel)]; exact ⟨rfl, rfl⟩))
  (fun os started H enc _ => lifted os started H enc)
theorem proved : Rows.FnCronEntriesSaid := over
theorem card : Rows.FnCronEntriesCardSaid :=
 Claim7.holds_tied_plain_at .later [] [.data, .data, .data, .data, .sentinel, .sentinel, .sentinel, .sentinel, .pinned] true (true, "2c8b9cb43f7129fe50b2c518ffce1ae2a5467ac2f6b99bedc3344eff5a77f46e") true
  proved (fun _ h => by cases h) (by kernel_rfl) (fun _ h => by cases h) fnCronEntries_row_tie rfl ⟨rfl, rfl⟩ (by kernel_rfl) rfl
  (fun f fn hf hfn => by
   obtain rfl : f = 4 := Option.some.inj ((show Tryz.prog.funcNamed "pub-timebook/laws.FnCronEntries" = some 4 by kernel_rfl).symm.trans hf) |>.symm
   obtain rfl : fn = Tryz.f4 := (Option.some.inj (Tryz.func4.symm.trans hfn)).symm
   exact ⟨by kernel_rfl, fun j t ht => by
    rw [Tryz.params4] at ht;have hm : t ∈ [4, 33, 3] := by simpa using Array.mem_of_getElem? ht
    have hall : ([4, 33, 3].all fun u => !Tryz.prog.wantsStandIn u) = true := by kernel_rfl
    exact (show Tryz.prog.wantsStandIn t = false by simpa using List.all_eq_true.1 hall t hm)⟩)
  (by kernel_rfl)
#print axioms card
end Go.Proofs.YtmecbmgfacpecaaGreatDoor.fnCronEntries
