/- Lemmas and walks on the way to the law, merged by wip/tools/pack.py: DurP, Desc, Time, Load, Trim. Conditions: none. -/
import Derived.Test.YtmecbmgfacpecaaGreatDoorGrH
import Derived.Test.YtmecbmgfacpecaaGreatDoorGrE
import Derived.Test.YtmecbmgfacpecaaGreatDoorShelfT
import Derived.Test.YtmecbmgfacpecaaGreatDoorPrB
import Derived.Test.YtmecbmgfacpecaaGreatDoorProg
import Derived.WalkKit
import Derived.OwnWalk
import Derived.Lib.Hide
import Derived.Below
import Derived.WalkSmall
import Derived.WalkLawsBesides
import Derived.WalkSpells
import Derived.Outline
import Derived.Laws.Rows
import Derived.Laws.Tables
import Derived.Laws.ResultCell
import Derived.Deep.QuietTactic
import Derived.BigQuiet
import Derived.Deep.DeepCutAuto
import Derived.Deep.DeepMust
import Derived.Test.YtmecbmgfacpecaaGreatDoorGrD
import Derived.Stop.FmtQuoteTie
namespace Go.Proofs.YtmecbmgfacpecaaGreatDoor.Cron
open Go Go.RowKit Go.Proofs.YtmecbmgfacpecaaGreatDoor.Text Go.Proofs.YtmecbmgfacpecaaGreatDoorW.PrintWords Go.Proofs.YtmecbmgfacpecaaGreatDoorW.PrintLast Go.Proofs.YtmecbmgfacpecaaGreatDoorW.PrintMore Go.Proofs.YtmecbmgfacpecaaGreatDoor.Dur
set_option linter.unusedVariables false
set_option linter.unusedSimpArgs false
set_option maxRecDepth 100000 in
set_option maxHeartbeats 16000000 in
theorem parseDur_any (l : List UInt8) (hl : l.length ≤ 4294967296) (w : World) (hg : GE w) :
  Calls Tryz.prog 146 #[.string (ba l)] w fun e w' => DurAns (durF l) e ∧ Below w.heap.size w w' := by
 have HLI := Lib.hid (fun m hm w' hg' => leadInt_any m hm w' hg');have HLF := Lib.hid (fun m hm w' => leadFrac_any m hm w');have HUM := Lib.hid (fun w' => unitMap_any w');have HGE : Hid (∀ w' : World, Below w.heap.size w w' → GE w') := Lib.hid (fun w' hb => hg.below hb);clear hg
 go_enter Tryz.func146, Tryz.ntmps146
 go_upto_region 4 with fail
 rename_i K hK Kc hKc
 refine viaThen hK (fun a w' => w' = w ∧ a.tmps.size = 209 ∧ a.defers = [] ∧ a.tmps.getD 4 undef = .string (ba l) ∧ a.tmps.getD 5 undef = .int .u64 0 ∧ ∃ neg l1, signF l = (neg, l1) ∧ l1.length ≤ l.length ∧ a.tmps.getD 0 undef = .string (ba l1) ∧ a.tmps.getD 6 undef = .bool neg) ?_ ?_
 ·clear hK;rintro a wt ⟨hw, hs, hd, h4, h5, neg, l1, hsg, hl1, h0, h6⟩;subst hw;obtain ⟨u, hu, ha⟩ := frame_open a hs hd;rw [← hu] at h0 h4 h5 h6
  rw [h0, h4, h5, h6] at ha;clear hu hs hd h0 h4 h5 h6;subst ha;have HSG := Lib.hid hsg;clear hsg
  by_cases h48 : l1 = [48]
  ·subst h48;have hq : (ba [48]).toList = [48] := by rw [toList_data, ba_list]
   have he : durF l = some 0 := by unfold durF; rw [HSG.out]; rfl
   go_wp2_with fail
   go_ret2
   refine ⟨?_, Below.refl _ _⟩;rw [he];exact rfl
  ·have hq1 : ¬ (ba l1).toList = [48] := by rw [toList_data, ba_list]; exact h48
   have hq3 : ((ba l1).toList == [48]) = false := by rw [beq_eq_false_iff_ne]; exact hq1
   go_upto_region 11 with fail
   rename_i K1 hK1 Kc1 hKc1
   refine viaThen hK1 (fun a w' => wt = w' ∧ l1 ≠ [] ∧ a.tmps.size = 209 ∧ a.defers = [] ∧ a.tmps.getD 0 undef = .string (ba l1) ∧ a.tmps.getD 4 undef = .string (ba l) ∧ a.tmps.getD 5 undef = .int .u64 0 ∧ a.tmps.getD 6 undef = .bool neg) ?_ ?_;rotate_left
   ·intro HTb;clear hK1
    by_cases hne : l1 = []
    ·subst hne;have hq : (ba []).toList = [] := by rw [toList_data, ba_list]
     have he : durF l = none := by unfold durF; rw [HSG.out]; rfl
     go_wp2_with fail
     go_ret2
     refine ⟨?_, (Below.refl _ _).alloc (Nat.le_refl _) _⟩;rw [he];exact ⟨_, _, rfl⟩
    ·have hq2 : ¬ (ba l1).toList = [] := by rw [toList_data, ba_list]; exact hne
     have hq4 : (ba l1).toList.isEmpty = false := by rw [toList_data, ba_list]; simpa using hne
     go_wp2_with fail
     refine HTb.out _ _ ?_;exact ⟨rfl, hne, rfl, rfl, rfl, rfl, rfl, rfl⟩
   ·clear hK1 hq1 hq3;rintro a wtb ⟨hwb, hne, hs, hd, h0, h4, h5, h6⟩;subst hwb;obtain ⟨uA, hu, ha⟩ := frame_open a hs hd;rw [← hu] at h0 h4 h5 h6
    rw [h0, h4, h5, h6] at ha;clear hu hs hd h0 h4 h5 h6;subst ha;have HDU : Hid (durF l = finF neg (sumF l1.length 0 l1)) := Lib.hid (by unfold durF; rw [HSG.out]; simp only [if_neg h48, if_neg hne]);have HL1 := Lib.hid hl1
    go_wp2_with fail
    clear HSG
    go_loopw [0, 5] (fun v0 v5 wr => ∃ (d : Nat) (m : List UInt8), v0 = .string (ba m) ∧ v5 = .int .u64 d ∧ d ≤ 9223372036854775808 ∧ m.length ≤ l1.length ∧ Hid (sumF l1.length 0 l1 = sumF m.length d m) ∧ Hid (Below wt.heap.size wt wr)) (fun v0 _ _ => strD v0)
    case atStart => exact ⟨0, l1, rfl, rfl, by omega, Nat.le_refl _, Lib.hid rfl, Lib.hid (Below.refl _ _)⟩
    case round =>
     obtain ⟨d, m, rfl, rfl, hd63, hml, HSU, HBR⟩ := hrel
     rcases m with _ | ⟨c, r⟩
     ·have hq : (ba []).toList = [] := by rw [toList_data, ba_list]
      have HFN : Hid (durF l = finF neg (some d)) := Lib.hid (by rw [HDU.out, HSU.out]; rfl)
      cases neg with
      | true =>
       by_cases hd63e : d = 9223372036854775808
       ·subst hd63e;have he : finF true (some 9223372036854775808) = some (-9223372036854775808) := rfl;have hw : wrap64 (-wrap64 9223372036854775808) = -9223372036854775808 := by unfold wrap64; omega
        go_wp2_with fail
        go_ret2
        refine ⟨?_, HBR.out⟩;rw [HFN.out, he]
        show DurAns _ (.returned (.tuple #[.int .i64 (wrap64 (-wrap64 9223372036854775808)), .nilIface]))
        rw [hw];exact rfl
       ·have hw1 : IntKind.i64.wrap (d : Int) = (d : Int) := by rw [IntKind.wrap_i64]; omega
        have hw2 : wrap64 (-(d : Int)) = -(d : Int) := by unfold wrap64; omega
        have he : finF true (some d) = some (-(d : Int)) := by unfold finF; simp only [if_true, if_neg hd63e]
        go_wp2_with fail
        go_ret2
        refine ⟨?_, HBR.out⟩;rw [HFN.out, he];exact rfl
      | false =>
       by_cases hbig : 9223372036854775807 < d
       ·have h1 : decide ((d : Int) > 9223372036854775807) = true := decide_eq_true (by omega)
        go_wp2_with fail
        go_ret2
        refine ⟨?_, HBR.out.alloc HBR.out.size _⟩;have he : finF false (some d) = none := by show (if false = true then some (if d = 9223372036854775808 then -9223372036854775808 else -(d : Int)) else if 9223372036854775807 < d then none else some (d : Int)) = none; rw [if_neg (by simp), if_pos hbig]
        rw [HFN.out, he];exact ⟨_, _, rfl⟩
       ·have h1 : decide ((d : Int) > 9223372036854775807) = false := decide_eq_false (by omega)
        go_wp2_with fail
        go_ret2
        refine ⟨?_, HBR.out⟩;have he : finF false (some d) = some (d : Int) := by show (if false = true then some (if d = 9223372036854775808 then -9223372036854775808 else -(d : Int)) else if 9223372036854775807 < d then none else some (d : Int)) = some (d : Int); rw [if_neg (by simp), if_neg hbig]
        rw [HFN.out, he];exact rfl
     ·have hq1 : ¬ (ba (c :: r)).toList = [] := by rw [toList_data, ba_list]; simp
      have hq2 : (ba (c :: r)).toList.isEmpty = false := by rw [toList_data, ba_list]; rfl
      have hix : ∀ w' : World, (Instr.index 9 (.string (ba (c :: r))) (.int .i64 0)).run Tryz.prog w' = .ok (.int .u8 (c.toNat : Nat)) w' := fun w' => str_at (c :: r) 0 (by simp) w'
      have hc256 : c.toNat < 256 := c.toNat_lt
      go_upto_region 17 with fail
      rename_i K2 hK2 Kc2 hKc2
      refine viaThen hK2 (fun a w' => w' = wr ∧ (isD c || c == 46) = true ∧ (a.tmps.getD 1 undef = uA 1 ∧ a.tmps.getD 7 undef = uA 7 ∧ a.tmps.getD 21 undef = uA 21 ∧ a.tmps.getD 22 undef = uA 22 ∧ a.tmps.getD 23 undef = uA 23 ∧ a.tmps.getD 24 undef = uA 24 ∧ a.tmps.getD 25 undef = uA 25 ∧ a.tmps.getD 26 undef = uA 26 ∧ a.tmps.getD 27 undef = uA 27 ∧ a.tmps.getD 28 undef = uA 28 ∧ a.tmps.getD 29 undef = uA 29 ∧ a.tmps.getD 30 undef = uA 30 ∧ a.tmps.getD 31 undef = uA 31 ∧ a.tmps.getD 32 undef = uA 32 ∧ a.tmps.getD 33 undef = uA 33 ∧ a.tmps.getD 34 undef = uA 34 ∧ a.tmps.getD 35 undef = uA 35 ∧ a.tmps.getD 36 undef = uA 36 ∧ a.tmps.getD 37 undef = uA 37 ∧ a.tmps.getD 38 undef = uA 38 ∧ a.tmps.getD 39 undef = uA 39 ∧ a.tmps.getD 40 undef = uA 40 ∧ a.tmps.getD 41 undef = uA 41 ∧ a.tmps.getD 42 undef = uA 42 ∧ a.tmps.getD 43 undef = uA 43 ∧ a.tmps.getD 197 undef = uA 197 ∧ a.tmps.getD 198 undef = uA 198 ∧ a.tmps.getD 199 undef = uA 199 ∧ a.tmps.getD 200 undef = uA 200 ∧ a.tmps.getD 201 undef = uA 201 ∧ a.tmps.getD 202 undef = uA 202 ∧ a.tmps.getD 203 undef = uA 203 ∧ a.tmps.getD 204 undef = uA 204 ∧ a.tmps.getD 205 undef = uA 205 ∧ a.tmps.getD 206 undef = uA 206 ∧ a.tmps.getD 207 undef = uA 207 ∧ a.tmps.getD 208 undef = uA 208) ∧ a.tmps.size = 209 ∧ a.defers = [] ∧ a.tmps.getD 0 undef = .string (ba (c :: r)) ∧ a.tmps.getD 4 undef = .string (ba l) ∧ a.tmps.getD 5 undef = .int .u64 d ∧ a.tmps.getD 6 undef = .bool neg ∧ a.tmps.getD 8 undef = .int .u64 0 ∧ a.tmps.getD 9 undef = .int .u64 0 ∧ a.tmps.getD 10 undef = .float .f64 one64 ∧ a.tmps.getD 11 undef = .nilIface) ?_ ?_
      ·clear hK2;rintro a wt2 ⟨hw2, hcd, hfix, hs, hd, h0, h4, h5, h6, h8, h9, h10, h11⟩;subst hw2;obtain ⟨u, hu, ha⟩ := frame_fix a uA hs hd hfix;rw [← hu] at h0 h4 h5 h6 h8 h9 h10 h11
       rw [h0, h4, h5, h6, h8, h9, h10, h11] at ha;clear hu hs hd hfix h0 h4 h5 h6 h8 h9 h10 h11;subst ha;have HCD := Lib.hid hcd;obtain ⟨m, hm⟩ : ∃ m, m = c :: r := ⟨_, rfl⟩
       rw [← hm] at hq1 hq2 hix hml HSU
       have HMC := Lib.hid hm;have hmne : m ≠ [] := by rw [hm]; simp
       rw [← hm];clear hcd hm hq1 hq2 hix hc256;have hsm := ba_size m
       have HTF : Hid (∀ t, termF m = t → durF l = (match t with | none => none | some (n, r2) => if 9223372036854775808 < (d + n) % 18446744073709551616 then none else finF neg (sumF r2.length ((d + n) % 18446744073709551616) r2))) := Lib.hid (fun t ht => by
        rw [HDU.out, HSU.out, HMC.out];rw [HMC.out] at ht;rw [show (c :: r).length = r.length + 1 from rfl, sumF, ht]
        cases t with
        | none => rfl
        | some x =>
         obtain ⟨n, r2⟩ := x;dsimp only
         by_cases hb : 9223372036854775808 < (d + n) % 18446744073709551616
         ·rw [if_pos hb, if_pos hb]; rfl
         ·rw [if_neg hb, if_neg hb];have := (termF_ok ht).2;rw [sumF_fuel r.length r2.length _ r2 (by simp only [List.length_cons] at this; omega) (Nat.le_refl _)])
       have HSF : Hid (∀ n r2, termF m = some (n, r2) → ¬ 9223372036854775808 < (d + n) % 18446744073709551616 → sumF l1.length 0 l1 = sumF r2.length ((d + n) % 18446744073709551616) r2 ∧ r2.length < m.length) := Lib.hid (fun n r2 ht hb => by
        rw [HSU.out, HMC.out];rw [HMC.out] at ht;have := (termF_ok ht).2;rw [show (c :: r).length = r.length + 1 from rfl, sumF, ht];dsimp only;rw [if_neg hb];exact ⟨sumF_fuel r.length r2.length _ r2 (by simp only [List.length_cons] at this; omega) (Nat.le_refl _), this⟩)
       go_wp2_with fail
       refine (HLI.out m (by have := HL1.out; omega) _ (HGE.out _ HBR.out)).mono ?_;rintro e w2 ⟨hans, hb2⟩;have HB2 := Lib.hid (below_of_le HBR.out hb2);clear hb2;obtain ⟨ld, hld⟩ : ∃ ld, leadI 0 m = ld := ⟨_, rfl⟩
       rw [hld] at hans
       cases ld with
       | none =>
        obtain ⟨t, x, rfl⟩ := hans
        have hTN : termF m = none := by
         rw [HMC.out];unfold termF;dsimp only;rw [if_pos HCD.out, ← HMC.out, hld]
        have he := HTF.out none hTN;have HE := Lib.hid he;clear he hTN
        go_wp2_with fail
        go_ret2
        refine ⟨?_, HB2.out.alloc HB2.out.size _⟩;rw [HE.out];exact ⟨_, _, rfl⟩
       | some vr =>
        obtain ⟨v, r1⟩ := vr;obtain rfl : e = _ := hans;have hlv := leadI_le _ _ _ _ (by omega) hld;have hv63 := hlv.1;have hr1m := hlv.2;have HLD := Lib.hid hld;have hs1 := ba_size r1;clear hlv hld
        go_upto_region 25 with fail
        rename_i K3 hK3 Kc3 hKc3
        refine viaThen hK3 (fun a w' => ∃ f s r2 post, fracF r1 = (f, s, r2, post) ∧ Below wt.heap.size wt w' ∧ (a.tmps.getD 1 undef = uA 1 ∧ a.tmps.getD 7 undef = uA 7 ∧ a.tmps.getD 21 undef = uA 21 ∧ a.tmps.getD 22 undef = uA 22 ∧ a.tmps.getD 23 undef = uA 23 ∧ a.tmps.getD 24 undef = uA 24 ∧ a.tmps.getD 25 undef = uA 25 ∧ a.tmps.getD 26 undef = uA 26 ∧ a.tmps.getD 27 undef = uA 27 ∧ a.tmps.getD 28 undef = uA 28 ∧ a.tmps.getD 29 undef = uA 29 ∧ a.tmps.getD 30 undef = uA 30 ∧ a.tmps.getD 31 undef = uA 31 ∧ a.tmps.getD 32 undef = uA 32 ∧ a.tmps.getD 33 undef = uA 33 ∧ a.tmps.getD 34 undef = uA 34 ∧ a.tmps.getD 35 undef = uA 35 ∧ a.tmps.getD 36 undef = uA 36 ∧ a.tmps.getD 37 undef = uA 37 ∧ a.tmps.getD 38 undef = uA 38 ∧ a.tmps.getD 39 undef = uA 39 ∧ a.tmps.getD 40 undef = uA 40 ∧ a.tmps.getD 41 undef = uA 41 ∧ a.tmps.getD 42 undef = uA 42 ∧ a.tmps.getD 43 undef = uA 43 ∧ a.tmps.getD 197 undef = uA 197 ∧ a.tmps.getD 198 undef = uA 198 ∧ a.tmps.getD 199 undef = uA 199 ∧ a.tmps.getD 200 undef = uA 200 ∧ a.tmps.getD 201 undef = uA 201 ∧ a.tmps.getD 202 undef = uA 202 ∧ a.tmps.getD 203 undef = uA 203 ∧ a.tmps.getD 204 undef = uA 204 ∧ a.tmps.getD 205 undef = uA 205 ∧ a.tmps.getD 206 undef = uA 206 ∧ a.tmps.getD 207 undef = uA 207 ∧ a.tmps.getD 208 undef = uA 208) ∧ a.tmps.size = 209 ∧ a.defers = [] ∧ a.tmps.getD 0 undef = .string (ba r2) ∧ a.tmps.getD 4 undef = .string (ba l) ∧ a.tmps.getD 5 undef = .int .u64 d ∧ a.tmps.getD 6 undef = .bool neg ∧ a.tmps.getD 8 undef = .int .u64 v ∧ a.tmps.getD 9 undef = .int .u64 f ∧ a.tmps.getD 10 undef = .float .f64 s ∧ a.tmps.getD 13 undef = .bool (!decide (m.length = r1.length)) ∧ a.tmps.getD 14 undef = .bool post) ?_ ?_
        ·clear hK3;rintro a wt3 ⟨f, s, r2, post, hff, hB3, hfix, hs, hd, h0, h4, h5, h6, h8, h9, h10, h13, h14⟩;obtain ⟨u, hu, ha⟩ := frame_fix a uA hs hd hfix;rw [← hu] at h0 h4 h5 h6 h8 h9 h10 h13 h14
         rw [h0, h4, h5, h6, h8, h9, h10, h13, h14] at ha;clear hu hs hd hfix h0 h4 h5 h6 h8 h9 h10 h13 h14;subst ha;have hfo := fracF_ok r1;rw [hff] at hfo;obtain ⟨hsc, hf63, hr2l⟩ := hfo;have HSC := Lib.hid hsc;have HB3 := Lib.hid hB3
         have HTM : Hid (termF m = if decide (m.length = r1.length) && !post then none else unitF v f s r2) := Lib.hid (by
          rw [HMC.out];unfold termF;dsimp only;rw [if_pos HCD.out, ← HMC.out, HLD.out];dsimp only;rw [hff])
         have hr2l := Lib.hid (show r2.length ≤ r1.length from hr2l);clear hsc hB3 hff
         go_upto_region 30 with fail
         rename_i K4 hK4 Kc4 hKc4
         obtain ⟨pre, hpre⟩ : ∃ pre, decide (m.length = r1.length) = pre := ⟨_, rfl⟩
         rw [hpre] at HTM;rw [hpre];refine viaThen hK4 (fun a w' => w' = wt3 ∧ (pre && !post) = false ∧ (a.tmps.getD 1 undef = uA 1 ∧ a.tmps.getD 7 undef = uA 7 ∧ a.tmps.getD 21 undef = uA 21 ∧ a.tmps.getD 22 undef = uA 22 ∧ a.tmps.getD 23 undef = uA 23 ∧ a.tmps.getD 24 undef = uA 24 ∧ a.tmps.getD 25 undef = uA 25 ∧ a.tmps.getD 26 undef = uA 26 ∧ a.tmps.getD 27 undef = uA 27 ∧ a.tmps.getD 28 undef = uA 28 ∧ a.tmps.getD 29 undef = uA 29 ∧ a.tmps.getD 30 undef = uA 30 ∧ a.tmps.getD 31 undef = uA 31 ∧ a.tmps.getD 32 undef = uA 32 ∧ a.tmps.getD 33 undef = uA 33 ∧ a.tmps.getD 34 undef = uA 34 ∧ a.tmps.getD 35 undef = uA 35 ∧ a.tmps.getD 36 undef = uA 36 ∧ a.tmps.getD 37 undef = uA 37 ∧ a.tmps.getD 38 undef = uA 38 ∧ a.tmps.getD 39 undef = uA 39 ∧ a.tmps.getD 40 undef = uA 40 ∧ a.tmps.getD 41 undef = uA 41 ∧ a.tmps.getD 42 undef = uA 42 ∧ a.tmps.getD 43 undef = uA 43 ∧ a.tmps.getD 197 undef = uA 197 ∧ a.tmps.getD 198 undef = uA 198 ∧ a.tmps.getD 199 undef = uA 199 ∧ a.tmps.getD 200 undef = uA 200 ∧ a.tmps.getD 201 undef = uA 201 ∧ a.tmps.getD 202 undef = uA 202 ∧ a.tmps.getD 203 undef = uA 203 ∧ a.tmps.getD 204 undef = uA 204 ∧ a.tmps.getD 205 undef = uA 205 ∧ a.tmps.getD 206 undef = uA 206 ∧ a.tmps.getD 207 undef = uA 207 ∧ a.tmps.getD 208 undef = uA 208) ∧ a.tmps.size = 209 ∧ a.defers = [] ∧ a.tmps.getD 0 undef = .string (ba r2) ∧ a.tmps.getD 4 undef = .string (ba l) ∧ a.tmps.getD 5 undef = .int .u64 d ∧ a.tmps.getD 6 undef = .bool neg ∧ a.tmps.getD 8 undef = .int .u64 v ∧ a.tmps.getD 9 undef = .int .u64 f ∧ a.tmps.getD 10 undef = .float .f64 s) ?_ ?_
         ·clear hK4;rintro a wt4 ⟨hw4, hpp, hfix, hs, hd, h0, h4, h5, h6, h8, h9, h10⟩;subst hw4;obtain ⟨u, hu, ha⟩ := frame_fix a uA hs hd hfix;rw [← hu] at h0 h4 h5 h6 h8 h9 h10
          rw [h0, h4, h5, h6, h8, h9, h10] at ha;clear hu hs hd hfix h0 h4 h5 h6 h8 h9 h10;subst ha;have HTM2 : Hid (termF m = unitF v f s r2) := Lib.hid (by rw [HTM.out, hpp]; rfl);have hs2 := ba_size r2;have hr2s : r2.length ≤ 4294967296 := by have := hr2l.out; have := HL1.out; omega
          clear HTM hpp hpre
          go_wp2_with fail
          rename_i K5 hK5
          refine viaThen hK5 (fun a w' => w' = wt4 ∧ ∃ i : Nat, i ≤ r2.length ∧ (r2.takeWhile isU = r2.take i ∧ r2.dropWhile isU = r2.drop i) ∧ (a.tmps.getD 1 undef = uA 1 ∧ a.tmps.getD 7 undef = uA 7 ∧ a.tmps.getD 21 undef = uA 21 ∧ a.tmps.getD 22 undef = uA 22 ∧ a.tmps.getD 23 undef = uA 23 ∧ a.tmps.getD 24 undef = uA 24 ∧ a.tmps.getD 25 undef = uA 25 ∧ a.tmps.getD 26 undef = uA 26 ∧ a.tmps.getD 27 undef = uA 27 ∧ a.tmps.getD 28 undef = uA 28 ∧ a.tmps.getD 29 undef = uA 29 ∧ a.tmps.getD 30 undef = uA 30 ∧ a.tmps.getD 31 undef = uA 31 ∧ a.tmps.getD 32 undef = uA 32 ∧ a.tmps.getD 33 undef = uA 33 ∧ a.tmps.getD 34 undef = uA 34 ∧ a.tmps.getD 35 undef = uA 35 ∧ a.tmps.getD 36 undef = uA 36 ∧ a.tmps.getD 37 undef = uA 37 ∧ a.tmps.getD 38 undef = uA 38 ∧ a.tmps.getD 39 undef = uA 39 ∧ a.tmps.getD 40 undef = uA 40 ∧ a.tmps.getD 41 undef = uA 41 ∧ a.tmps.getD 42 undef = uA 42 ∧ a.tmps.getD 43 undef = uA 43 ∧ a.tmps.getD 197 undef = uA 197 ∧ a.tmps.getD 198 undef = uA 198 ∧ a.tmps.getD 199 undef = uA 199 ∧ a.tmps.getD 200 undef = uA 200 ∧ a.tmps.getD 201 undef = uA 201 ∧ a.tmps.getD 202 undef = uA 202 ∧ a.tmps.getD 203 undef = uA 203 ∧ a.tmps.getD 204 undef = uA 204 ∧ a.tmps.getD 205 undef = uA 205 ∧ a.tmps.getD 206 undef = uA 206 ∧ a.tmps.getD 207 undef = uA 207 ∧ a.tmps.getD 208 undef = uA 208) ∧ a.tmps.size = 209 ∧ a.defers = [] ∧ a.tmps.getD 0 undef = .string (ba r2) ∧ a.tmps.getD 4 undef = .string (ba l) ∧ a.tmps.getD 5 undef = .int .u64 d ∧ a.tmps.getD 6 undef = .bool neg ∧ a.tmps.getD 8 undef = .int .u64 v ∧ a.tmps.getD 9 undef = .int .u64 f ∧ a.tmps.getD 10 undef = .float .f64 s ∧ a.tmps.getD 16 undef = .int .i64 i) ?_ ?_
          ·clear hK5;rintro a wt5 ⟨hw5, i, hi, htd, hfix, hs, hd, h0, h4, h5, h6, h8, h9, h10, h16⟩;subst hw5;obtain ⟨u, hu, ha⟩ := frame_fix a uA hs hd hfix;rw [← hu] at h0 h4 h5 h6 h8 h9 h10 h16
           rw [h0, h4, h5, h6, h8, h9, h10, h16] at ha;clear hu hs hd hfix h0 h4 h5 h6 h8 h9 h10 h16;subst ha;obtain ⟨htw, hdw⟩ := htd
           have HUF : Hid (termF m = (if r2.take i = [] then none else match unitN (r2.take i) with
             | none => none
             | some n => if 9223372036854775808 / n < v then none else if 0 < f then (if 9223372036854775808 < v * n + fracN f s n then none else some (v * n + fracN f s n, r2.drop i)) else some (v * n, r2.drop i))) := Lib.hid (by rw [HTM2.out]; unfold unitF; rw [htw, hdw]; first | rfl | (cases unitN (r2.take i) <;> rfl))
           clear htw hdw HTM2
           by_cases hi0 : i = 0
           ·subst hi0;have he := HTF.out none (by rw [HUF.out]; rfl);have HE := Lib.hid he;clear he
            go_wp2_with fail
            go_ret2
            refine ⟨?_, HB3.out.alloc HB3.out.size _⟩;rw [HE.out];exact ⟨_, _, rfl⟩
           ·have hc1 : (((i : Nat) : Int) == 0) = false := by rw [beq_eq_false_iff_ne]; omega
            have hto := str_to r2 i hi;have hfrom := str_from r2 i hi;have htl : (r2.take i).length = i := by rw [List.length_take]; omega
            have htne : ¬ r2.take i = [] := fun e => by rw [e] at htl; simp at htl; omega
            have HTNE := Lib.hid htne;have hst := ba_size (r2.take i);rw [htl] at hst;clear htne htl
            go_wp2_with fail
            refine (HUM.out _).mono ?_;rintro e w5 ⟨mr, rfl, hM, hb5⟩;have HB5 := Lib.hid (below_of_le HB3.out hb5);have hlk := run_lookup_unit w5 mr unitsL (ba (r2.take i)) hM;rw [unit_look] at hlk;clear hb5 hM;obtain ⟨un, hun⟩ : ∃ un, unitN (r2.take i) = un := ⟨_, rfl⟩
            rw [hun] at hlk HUF
            have HUN := Lib.hid hun;clear hun
            cases un with
            | none =>
             have he := HTF.out none (by rw [HUF.out, if_neg HTNE.out]);have HE := Lib.hid he;clear he;simp only [Option.map_none, Option.getD_none, Option.isSome_none] at hlk;have hi32 : i ≤ 4294967296 := by omega
             go_wp2_with fail
             go_ret2
             refine ⟨?_, HB5.out.alloc HB5.out.size _⟩;rw [HE.out];exact ⟨_, _, rfl⟩
            | some n =>
             simp only [Option.map_some, Option.getD_some, Option.isSome_some] at hlk;obtain ⟨hn1, hn36⟩ := unit_le HUN.out;have hn0 : (((n : Nat) : Int) == 0) = false := by rw [beq_eq_false_iff_ne]; omega
             have hdiv : Int.tdiv 9223372036854775808 (n : Int) = ((9223372036854775808 / n : Nat) : Int) := by rw [Int.tdiv_eq_ediv_of_nonneg (by omega), Int.natCast_ediv]; rfl
             obtain ⟨qn, hqn⟩ : ∃ qn, 9223372036854775808 / n = qn := ⟨_, rfl⟩
             have hUF := HUF.out;rw [if_neg HTNE.out] at hUF;dsimp only at hUF;rw [hqn] at hdiv hUF
             have HQN := Lib.hid hqn;have hqb : qn ≤ 9223372036854775808 := by rw [← hqn]; exact Nat.div_le_self _ _
             clear hqn HUF
             by_cases hvq : qn < v
             ·have h1 : decide ((v : Int) > (qn : Int)) = true := decide_eq_true (by omega);have he := HTF.out none (by rw [hUF, if_pos hvq]);have HE := Lib.hid he;clear he hUF
              go_wp2_with fail
              go_ret2
              refine ⟨?_, HB5.out.alloc HB5.out.size _⟩;rw [HE.out];exact ⟨_, _, rfl⟩
             ·have h1 : decide ((v : Int) > (qn : Int)) = false := decide_eq_false (by omega);rw [if_neg hvq] at hUF;obtain ⟨vm, hvm⟩ : ∃ vm, v * n = vm := ⟨_, rfl⟩
              have hvmi : (v : Int) * (n : Int) = (vm : Int) := by rw [← hvm]; push_cast; rfl
              have hvm63 : vm ≤ 9223372036854775808 := by
               rw [← hvm]
               calc v * n ≤ 9223372036854775808 / n * n := Nat.mul_le_mul_right _ (by rw [HQN.out]; omega)
                _ ≤ 9223372036854775808 := Nat.div_mul_le_self _ _
              rw [hvm] at hUF;clear hvm
              by_cases hf0 : f = 0
              ·subst hf0;rw [if_neg (by omega)] at hUF;have HUF := Lib.hid hUF;have h2 : decide (((0 : Nat) : Int) > 0) = false := rfl;clear hUF;obtain ⟨V, hV⟩ : ∃ V, V = vm := ⟨_, rfl⟩
               have hVi : (vm : Int) = (V : Int) := by rw [hV]
               have hV63 : V ≤ 9223372036854775808 := by omega
               rw [← hV] at HUF;clear hV
               by_cases h64 : d + V = 18446744073709551616
               ·have hm0 : (d + V) % 18446744073709551616 = 0 := by rw [h64]
                have hstep := HSF.out V _ HUF.out (by rw [hm0]; omega);rw [hm0] at hstep;have HST := Lib.hid hstep;have hsum : (d : Int) + (V : Int) = 18446744073709551616 := by omega
                clear hstep
                go_wp2_with fail
                go_roundw
                case rel => exact ⟨0, r2.drop i, rfl, by go_num, by omega, by have := HST.out.2; omega, Lib.hid HST.out.1, HB5⟩
                case measure => have := HST.out.2; show (ba (r2.drop i)).size < (ba (c :: r)).size; rw [ba_size, ba_size, ← HMC.out]; exact this
               ·have hmm : (d + V) % 18446744073709551616 = d + V := Nat.mod_eq_of_lt (by omega)
                by_cases hbig : 9223372036854775808 < d + V
                ·have h4 : decide ((d : Int) + (V : Int) > 9223372036854775808) = true := decide_eq_true (by omega);have he := HTF.out _ HUF.out;dsimp only at he;rw [hmm, if_pos hbig] at he;have HE := Lib.hid he;clear he
                 go_wp2_with fail
                 go_ret2
                 refine ⟨?_, HB5.out.alloc HB5.out.size _⟩;rw [HE.out];exact ⟨_, _, rfl⟩
                ·have h4 : decide ((d : Int) + (V : Int) > 9223372036854775808) = false := decide_eq_false (by omega);have hstep := HSF.out V _ HUF.out (by rw [hmm]; exact hbig);rw [hmm] at hstep;have HST := Lib.hid hstep;clear hstep
                 go_wp2_with fail
                 go_roundw
                 case rel => exact ⟨d + V, r2.drop i, rfl, by go_num, by omega, by have := HST.out.2; omega, Lib.hid HST.out.1, HB5⟩
                 case measure => have := HST.out.2; show (ba (r2.drop i)).size < (ba (c :: r)).size; rw [ba_size, ba_size, ← HMC.out]; exact this
              ·rw [if_pos (by omega)] at hUF;have h2 : decide ((f : Int) > 0) = true := decide_eq_true (by omega);obtain ⟨fq, fm, fi, fr63⟩ := frac_ok HSC.out hf63 hn36;obtain ⟨fr, hfr⟩ : ∃ fr, fracN f s n = fr := ⟨_, rfl⟩
               rw [hfr] at hUF fi fr63
               have hcf : ∀ w' : World, (convert 24 290 (.int .u64 (f : Nat))).run Tryz.prog w' = .ok (.float .f64 (Flo.fl f)) w' := fun w' => run_convert_int_float w' _ _ .u64 .f64 _ (by kernel_rfl) Tryz.underlying290
               have hcn : ∀ w' : World, (convert 24 290 (.int .u64 (n : Nat))).run Tryz.prog w' = .ok (.float .f64 (Flo.fl n)) w' := fun w' => run_convert_int_float w' _ _ .u64 .f64 _ (by kernel_rfl) Tryz.underlying290
               have hq : ∀ w' : World, (binOp .quo 290 (.float .f64 (Flo.fl n)) (.float .f64 s)).run Tryz.prog w' = .ok (.float .f64 (quoW n s)) w' := fun w' => run_floatArith w' fq
               have hm : ∀ w' : World, (binOp .mul 290 (.float .f64 (Flo.fl f)) (.float .f64 (quoW n s))).run Tryz.prog w' = .ok (.float .f64 (mulW f n s)) w' := fun w' => run_floatArith w' fm
               have hci : ∀ w' : World, (convert 290 24 (.float .f64 (mulW f n s))).run Tryz.prog w' = .ok (.int .u64 (fr : Nat)) w' := fun w' => run_convert_float_int w' _ _ .f64 .u64 _ _ (by kernel_rfl) Tryz.underlying24 fi
               by_cases hv2 : 9223372036854775808 < vm + fr
               ·rw [if_pos hv2] at hUF;have he := HTF.out none hUF;have HE := Lib.hid he;clear he hUF fq fm fi hfr;have h3 : decide ((vm : Int) + (fr : Int) > 9223372036854775808) = true := decide_eq_true (by omega)
                go_wp2_with fail
                go_ret2
                refine ⟨?_, HB5.out.alloc HB5.out.size _⟩;rw [HE.out];exact ⟨_, _, rfl⟩
               ·rw [if_neg hv2] at hUF;have HUF := Lib.hid hUF;clear hUF fq fm fi hfr;have h3 : decide ((vm : Int) + (fr : Int) > 9223372036854775808) = false := decide_eq_false (by omega);obtain ⟨V, hV⟩ : ∃ V, V = vm + fr := ⟨_, rfl⟩
                have hVi : (vm : Int) + (fr : Int) = (V : Int) := by rw [hV]; push_cast; rfl
                have hV63 : V ≤ 9223372036854775808 := by omega
                rw [← hV] at HUF;clear hV
                by_cases h64 : d + V = 18446744073709551616
                ·have hm0 : (d + V) % 18446744073709551616 = 0 := by rw [h64]
                 have hstep := HSF.out V _ HUF.out (by rw [hm0]; omega);rw [hm0] at hstep;have HST := Lib.hid hstep;have hsum : (d : Int) + (V : Int) = 18446744073709551616 := by omega
                 clear hstep
                 go_wp2_with fail
                 go_roundw
                 case rel => exact ⟨0, r2.drop i, rfl, by go_num, by omega, by have := HST.out.2; omega, Lib.hid HST.out.1, HB5⟩
                 case measure => have := HST.out.2; show (ba (r2.drop i)).size < (ba (c :: r)).size; rw [ba_size, ba_size, ← HMC.out]; exact this
                ·have hmm : (d + V) % 18446744073709551616 = d + V := Nat.mod_eq_of_lt (by omega)
                 by_cases hbig : 9223372036854775808 < d + V
                 ·have h4 : decide ((d : Int) + (V : Int) > 9223372036854775808) = true := decide_eq_true (by omega);have he := HTF.out _ HUF.out;dsimp only at he;rw [hmm, if_pos hbig] at he;have HE := Lib.hid he;clear he
                  go_wp2_with fail
                  go_ret2
                  refine ⟨?_, HB5.out.alloc HB5.out.size _⟩;rw [HE.out];exact ⟨_, _, rfl⟩
                 ·have h4 : decide ((d : Int) + (V : Int) > 9223372036854775808) = false := decide_eq_false (by omega);have hstep := HSF.out V _ HUF.out (by rw [hmm]; exact hbig);rw [hmm] at hstep;have HST := Lib.hid hstep;clear hstep
                  go_wp2_with fail
                  go_roundw
                  case rel => exact ⟨d + V, r2.drop i, rfl, by go_num, by omega, by have := HST.out.2; omega, Lib.hid HST.out.1, HB5⟩
                  case measure => have := HST.out.2; show (ba (r2.drop i)).size < (ba (c :: r)).size; rw [ba_size, ba_size, ← HMC.out]; exact this
          ·intro HT4;clear hK5
           go_loopw [16] (fun v16 wr => ∃ i : Nat, v16 = .int .i64 i ∧ i ≤ r2.length ∧ Hid (∀ x ∈ r2.take i, isU x = true) ∧ wr = wt4) (fun v16 _ => r2.length - (intOf v16).toNat)
           case atStart => exact ⟨0, rfl, by omega, Lib.hid (by simp), rfl⟩
           case round =>
            obtain ⟨i, rfl, hi, HU, hwr⟩ := hrel;have hwr' := hwr.symm;clear hwr;subst hwr'
            by_cases hir : i < r2.length
            ·have hidx := str_at r2 i hir;have hdrop := List.drop_eq_getElem_cons hir;have htk : r2.take (i + 1) = r2.take i ++ [r2[i]] := by rw [List.take_add_one, List.getElem?_eq_getElem hir]; rfl
             obtain ⟨cu, hcu⟩ : ∃ cu, cu = r2[i] := ⟨_, rfl⟩
             rw [← hcu] at hidx hdrop htk
             have HDR := Lib.hid hdrop;have HTK := Lib.hid htk;have hd1 : decide ((i : Int) < (r2.length : Nat)) = true := decide_eq_true (by omega);have hc256 : cu.toNat < 256 := cu.toNat_lt;clear hdrop htk hcu
             by_cases h46 : cu = 46
             ·have hc1 : (((cu.toNat : Nat) : Int) == 46) = true := by rw [h46]; rfl
              have hnu : isU cu = false := by rw [h46]; decide
              go_wp2_with fail
              refine HT4.out _ _ ?_;exact ⟨rfl, i, hi, tw_is HU.out (.inr ⟨cu, _, HDR.out, hnu⟩), ⟨rfl, rfl, rfl, rfl, rfl, rfl, rfl, rfl, rfl, rfl, rfl, rfl, rfl, rfl, rfl, rfl, rfl, rfl, rfl, rfl, rfl, rfl, rfl, rfl, rfl, rfl, rfl, rfl, rfl, rfl, rfl, rfl, rfl, rfl, rfl, rfl, rfl⟩, rfl, rfl, rfl, rfl, rfl, rfl, rfl, rfl, rfl, rfl⟩
             ·have hn46 : cu.toNat ≠ 46 := fun e => h46 (UInt8.toNat_inj.1 e)
              have hc1 : (((cu.toNat : Nat) : Int) == 46) = false := by rw [beq_eq_false_iff_ne]; omega
              by_cases h48c : 48 ≤ cu.toNat
              ·have h1 : decide ((48 : Int) ≤ cu.toNat) = true := decide_eq_true (by omega)
               by_cases h57 : cu.toNat ≤ 57
               ·have h2 : decide ((cu.toNat : Int) ≤ 57) = true := decide_eq_true (by omega);have hnu : isU cu = false := by unfold isU; rw [isD_iff.2 ⟨h48c, h57⟩]; rfl
                go_wp2_with fail
                refine HT4.out _ _ ?_;exact ⟨rfl, i, hi, tw_is HU.out (.inr ⟨cu, _, HDR.out, hnu⟩), ⟨rfl, rfl, rfl, rfl, rfl, rfl, rfl, rfl, rfl, rfl, rfl, rfl, rfl, rfl, rfl, rfl, rfl, rfl, rfl, rfl, rfl, rfl, rfl, rfl, rfl, rfl, rfl, rfl, rfl, rfl, rfl, rfl, rfl, rfl, rfl, rfl, rfl⟩, rfl, rfl, rfl, rfl, rfl, rfl, rfl, rfl, rfl, rfl⟩
               ·have h2 : decide ((cu.toNat : Int) ≤ 57) = false := decide_eq_false (by omega);have hu : isU cu = true := by unfold isU isD; rw [decide_eq_false h57, Bool.and_false, Bool.false_or, beq_eq_false_iff_ne.2 h46]; rfl
                go_wp2_with fail
                go_roundw
                case rel => exact ⟨i + 1, by go_num, by omega, Lib.hid (by rw [HTK.out]; intro x hx; rcases List.mem_append.1 hx with hx | hx; exact HU.out x hx; rw [List.mem_singleton.1 hx]; exact hu), trivial⟩
                case measure => simp [intOf]; omega
              ·have h1 : decide ((48 : Int) ≤ cu.toNat) = false := decide_eq_false (by omega);have hu : isU cu = true := by unfold isU isD; rw [decide_eq_false h48c, Bool.false_and, Bool.false_or, beq_eq_false_iff_ne.2 h46]; rfl
               go_wp2_with fail
               go_roundw
               case rel => exact ⟨i + 1, by go_num, by omega, Lib.hid (by rw [HTK.out]; intro x hx; rcases List.mem_append.1 hx with hx | hx; exact HU.out x hx; rw [List.mem_singleton.1 hx]; exact hu), trivial⟩
               case measure => simp [intOf]; omega
            ·have hd1 : decide ((i : Int) < (r2.length : Nat)) = false := decide_eq_false (by omega)
             go_wp2_with fail
             refine HT4.out _ _ ?_;exact ⟨rfl, i, hi, tw_is HU.out (.inl (List.drop_eq_nil_of_le (by omega))), ⟨rfl, rfl, rfl, rfl, rfl, rfl, rfl, rfl, rfl, rfl, rfl, rfl, rfl, rfl, rfl, rfl, rfl, rfl, rfl, rfl, rfl, rfl, rfl, rfl, rfl, rfl, rfl, rfl, rfl, rfl, rfl, rfl, rfl, rfl, rfl, rfl, rfl⟩, rfl, rfl, rfl, rfl, rfl, rfl, rfl, rfl, rfl, rfl⟩
         ·intro HT3;clear hK4
          cases pre with
          | false =>
           go_wp2_with fail
           refine HT3.out _ _ ?_;exact ⟨rfl, rfl, ⟨rfl, rfl, rfl, rfl, rfl, rfl, rfl, rfl, rfl, rfl, rfl, rfl, rfl, rfl, rfl, rfl, rfl, rfl, rfl, rfl, rfl, rfl, rfl, rfl, rfl, rfl, rfl, rfl, rfl, rfl, rfl, rfl, rfl, rfl, rfl, rfl, rfl⟩, rfl, rfl, rfl, rfl, rfl, rfl, rfl, rfl, rfl⟩
          | true =>
           cases post with
           | true =>
            go_wp2_with fail
            refine HT3.out _ _ ?_;exact ⟨rfl, rfl, ⟨rfl, rfl, rfl, rfl, rfl, rfl, rfl, rfl, rfl, rfl, rfl, rfl, rfl, rfl, rfl, rfl, rfl, rfl, rfl, rfl, rfl, rfl, rfl, rfl, rfl, rfl, rfl, rfl, rfl, rfl, rfl, rfl, rfl, rfl, rfl, rfl, rfl⟩, rfl, rfl, rfl, rfl, rfl, rfl, rfl, rfl, rfl⟩
           | false =>
            have he := HTF.out none (by rw [HTM.out]; rfl);have HE := Lib.hid he;clear he
            go_wp2_with fail
            go_ret2
            refine ⟨?_, HB3.out.alloc HB3.out.size _⟩;rw [HE.out];exact ⟨_, _, rfl⟩
        ·intro HT2;clear hK3
         have hpre : (((m.length : Nat) : Int) != ((r1.length : Nat) : Int)) = !decide (m.length = r1.length) := by
          by_cases e : m.length = r1.length
          ·rw [e]; simp
          ·rw [decide_eq_false e, bne_iff_ne.2 (by omega)]; rfl
         rcases r1 with _ | ⟨c1, t1⟩
         ·have hq1 : (ba []).toList = [] := by rw [toList_data, ba_list]
          go_wp2_with fail
          refine HT2.out _ _ ?_;exact ⟨0, one64, [], false, rfl, HB2.out, ⟨rfl, rfl, rfl, rfl, rfl, rfl, rfl, rfl, rfl, rfl, rfl, rfl, rfl, rfl, rfl, rfl, rfl, rfl, rfl, rfl, rfl, rfl, rfl, rfl, rfl, rfl, rfl, rfl, rfl, rfl, rfl, rfl, rfl, rfl, rfl, rfl, rfl⟩, rfl, rfl, rfl, rfl, rfl, rfl, rfl, rfl, rfl, congrArg Value.bool hpre, rfl⟩
         ·have hq1 : ¬ (ba (c1 :: t1)).toList = [] := by rw [toList_data, ba_list]; simp
          have hq2 : (ba (c1 :: t1)).toList.isEmpty = false := by rw [toList_data, ba_list]; rfl
          have hix : ∀ w' : World, (Instr.index 9 (.string (ba (c1 :: t1))) (.int .i64 0)).run Tryz.prog w' = .ok (.int .u8 (c1.toNat : Nat)) w' := fun w' => str_at (c1 :: t1) 0 (by simp) w'
          have hfr : ∀ w' : World, (Instr.slice 9 (.string (ba (c1 :: t1))) (some (.int .i64 1)) none none).run Tryz.prog w' = .ok (.string (ba t1)) w' := fun w' => str_from (c1 :: t1) 1 (by simp) w'
          have hc256 : c1.toNat < 256 := c1.toNat_lt
          by_cases h46 : c1 = 46
          ·subst h46;have hc1 : ((((46 : UInt8).toNat : Nat) : Int) == 46) = true := rfl;have hst := ba_size t1
           go_wp2_with fail
           refine (HLF.out t1 (by have := HL1.out; simp only [List.length_cons] at hr1m; omega) _).mono ?_;rintro e w3 ⟨hans3, hb3⟩;obtain ⟨f, s, r2, hf⟩ : ∃ f s r2, leadF 0 one64 false t1 = (f, s, r2) := ⟨_, _, _, rfl⟩
           rw [hf] at hans3;obtain rfl : e = .returned (.tuple #[.int .u64 (f : Nat), .float .f64 s, .string (ba r2)]) := hans3;have hsr := ba_size r2;have HFF : Hid (fracF (46 :: t1) = (f, s, r2, !decide (t1.length = r2.length))) := Lib.hid (by show ((leadF 0 one64 false t1).1, (leadF 0 one64 false t1).2.1, (leadF 0 one64 false t1).2.2, !decide (t1.length = (leadF 0 one64 false t1).2.2.length)) = _; rw [hf]);have HB3 := Lib.hid (below_of_le HB2.out hb3)
           have hpost : (((t1.length : Nat) : Int) != ((r2.length : Nat) : Int)) = !decide (t1.length = r2.length) := by
            by_cases e : t1.length = r2.length
            ·rw [e]; simp
            ·rw [decide_eq_false e, bne_iff_ne.2 (by omega)]; rfl
           clear hb3 hf
           go_wp2_with fail
           refine HT2.out _ _ ?_;exact ⟨f, s, r2, _, HFF.out, HB3.out, ⟨rfl, rfl, rfl, rfl, rfl, rfl, rfl, rfl, rfl, rfl, rfl, rfl, rfl, rfl, rfl, rfl, rfl, rfl, rfl, rfl, rfl, rfl, rfl, rfl, rfl, rfl, rfl, rfl, rfl, rfl, rfl, rfl, rfl, rfl, rfl, rfl, rfl⟩, rfl, rfl, rfl, rfl, rfl, rfl, rfl, rfl, rfl, congrArg Value.bool hpre, by first | rfl | exact congrArg Value.bool hpost⟩
          ·have hn46 : c1.toNat ≠ 46 := fun e => h46 (UInt8.toNat_inj.1 e)
           have hc1 : (((c1.toNat : Nat) : Int) == 46) = false := by rw [beq_eq_false_iff_ne]; omega
           have hff : fracF (c1 :: t1) = (0, one64, c1 :: t1, false) := by
            unfold fracF
            split
            ·rename_i e
             simp only [List.cons.injEq] at e;exact absurd e.1 h46
            ·rfl
           go_wp2_with fail
           refine HT2.out _ _ ?_;exact ⟨0, one64, c1 :: t1, false, hff, HB2.out, ⟨rfl, rfl, rfl, rfl, rfl, rfl, rfl, rfl, rfl, rfl, rfl, rfl, rfl, rfl, rfl, rfl, rfl, rfl, rfl, rfl, rfl, rfl, rfl, rfl, rfl, rfl, rfl, rfl, rfl, rfl, rfl, rfl, rfl, rfl, rfl, rfl, rfl⟩, rfl, rfl, rfl, rfl, rfl, rfl, rfl, rfl, rfl, congrArg Value.bool hpre, rfl⟩
      ·intro HT1;clear hK2
       by_cases h46 : c = 46
       ·subst h46;have hc1 : ((((46 : UInt8).toNat : Nat) : Int) == 46) = true := rfl
        go_wp2_with fail
        refine HT1.out _ _ ?_;exact ⟨rfl, rfl, ⟨rfl, rfl, rfl, rfl, rfl, rfl, rfl, rfl, rfl, rfl, rfl, rfl, rfl, rfl, rfl, rfl, rfl, rfl, rfl, rfl, rfl, rfl, rfl, rfl, rfl, rfl, rfl, rfl, rfl, rfl, rfl, rfl, rfl, rfl, rfl, rfl, rfl⟩, rfl, rfl, rfl, rfl, rfl, rfl, rfl, rfl, rfl, rfl⟩
       ·have hn46 : c.toNat ≠ 46 := fun e => h46 (UInt8.toNat_inj.1 e)
        have hc1 : (((c.toNat : Nat) : Int) == 46) = false := by rw [beq_eq_false_iff_ne]; omega
        by_cases hdg : isD c = true
        ·have hdn := isD_iff.1 hdg;have h1 : decide ((48 : Int) ≤ c.toNat) = true := decide_eq_true (by omega);have h2 : decide ((c.toNat : Int) ≤ 57) = true := decide_eq_true (by omega)
         go_wp2_with fail
         refine HT1.out _ _ ?_;exact ⟨rfl, by rw [hdg]; rfl, ⟨rfl, rfl, rfl, rfl, rfl, rfl, rfl, rfl, rfl, rfl, rfl, rfl, rfl, rfl, rfl, rfl, rfl, rfl, rfl, rfl, rfl, rfl, rfl, rfl, rfl, rfl, rfl, rfl, rfl, rfl, rfl, rfl, rfl, rfl, rfl, rfl, rfl⟩, rfl, rfl, rfl, rfl, rfl, rfl, rfl, rfl, rfl, rfl⟩
        ·have hno : (isD c || c == 46) = false := by
          rw [show isD c = false by simpa using hdg, Bool.false_or, beq_eq_false_iff_ne];exact h46
         have HTN : Hid (durF l = none) := Lib.hid (by
          rw [HDU.out, HSU.out];simp only [List.length_cons, sumF, termF, hno];rfl)
         by_cases h48c : 48 ≤ c.toNat
         ·have h57 : ¬ c.toNat ≤ 57 := fun h => hdg (isD_iff.2 ⟨h48c, h⟩)
          have h1 : decide ((48 : Int) ≤ c.toNat) = true := decide_eq_true (by omega);have h2 : decide ((c.toNat : Int) ≤ 57) = false := decide_eq_false (by omega)
          go_wp2_with fail
          go_ret2
          refine ⟨?_, HBR.out.alloc HBR.out.size _⟩;rw [HTN.out];exact ⟨_, _, rfl⟩
         ·have h1 : decide ((48 : Int) ≤ c.toNat) = false := decide_eq_false (by omega)
          go_wp2_with fail
          go_ret2
          refine ⟨?_, HBR.out.alloc HBR.out.size _⟩;rw [HTN.out];exact ⟨_, _, rfl⟩
 ·intro HT0;clear hK
  rcases l with _ | ⟨c, r⟩
  ·have hq : (ba []).toList = [] := by rw [toList_data, ba_list]
   go_wp2_with fail
   refine HT0.out _ _ ?_;exact ⟨rfl, rfl, rfl, rfl, rfl, false, [], rfl, by simp, rfl, rfl⟩
  ·have hq1 : ¬ (ba (c :: r)).toList = [] := by rw [toList_data, ba_list]; simp
   have hq2 : (ba (c :: r)).toList.isEmpty = false := by rw [toList_data, ba_list]; rfl
   have hix : ∀ w' : World, (Instr.index 9 (.string (ba (c :: r))) (.int .i64 0)).run Tryz.prog w' = .ok (.int .u8 (c.toNat : Nat)) w' := fun w' => str_at (c :: r) 0 (by simp) w'
   have hfr : ∀ w' : World, (Instr.slice 9 (.string (ba (c :: r))) (some (.int .i64 1)) none none).run Tryz.prog w' = .ok (.string (ba r)) w' := fun w' => str_from (c :: r) 1 (by simp) w'
   by_cases h45 : c = 45
   ·subst h45;have hc1 : ((((45 : UInt8).toNat : Nat) : Int) == 45) = true := rfl
    go_wp2_with fail
    refine HT0.out _ _ ?_;exact ⟨rfl, rfl, rfl, rfl, rfl, true, r, rfl, by simp, rfl, rfl⟩
   ·have hn45 : c.toNat ≠ 45 := fun e => h45 (UInt8.toNat_inj.1 e)
    have hc1 : (((c.toNat : Nat) : Int) == 45) = false := by rw [beq_eq_false_iff_ne]; omega
    by_cases h43 : c = 43
    ·subst h43;have hc2 : ((((43 : UInt8).toNat : Nat) : Int) == 43) = true := rfl
     go_wp2_with fail
     refine HT0.out _ _ ?_;exact ⟨rfl, rfl, rfl, rfl, rfl, false, r, rfl, by simp, rfl, rfl⟩
    ·have hn43 : c.toNat ≠ 43 := fun e => h43 (UInt8.toNat_inj.1 e)
     have hc2 : (((c.toNat : Nat) : Int) == 43) = false := by rw [beq_eq_false_iff_ne]; omega
     have hsg : signF (c :: r) = (false, c :: r) := by
      unfold signF
      split
      ·rename_i e
       simp only [List.cons.injEq] at e;exact absurd e.1 h45
      ·rename_i e
       simp only [List.cons.injEq] at e;exact absurd e.1 h43
      ·rfl
     go_wp2_with fail
     refine HT0.out _ _ ?_;exact ⟨rfl, rfl, rfl, rfl, rfl, false, c :: r, hsg, by simp, rfl, rfl⟩
end Go.Proofs.YtmecbmgfacpecaaGreatDoor.Cron
namespace Go.Proofs.YtmecbmgfacpecaaGreatDoor.Cron
open Go Go.RowKit Go.Proofs.YtmecbmgfacpecaaGreatDoor.Text Go.Proofs.YtmecbmgfacpecaaGreatDoor.Bits Go.Proofs.YtmecbmgfacpecaaGreatDoorW.PrintWords Go.Proofs.YtmecbmgfacpecaaGreatDoorW.PrintLast Go.Proofs.YtmecbmgfacpecaaGreatDoorW.PrintMore Go.Proofs.YtmecbmgfacpecaaGreatDoor.Pr
set_option linter.unusedVariables false
set_option linter.unusedSimpArgs false
inductive Got where
 | bits (l : List Nat)
 | delay (d : Int)
def GotAns (r : Option Got) (e : Ending) (w' : World) : Prop := match r with
 | some (.bits l) => ∃ g loc, e = .returned (.tuple #[.iface 169 (.pointer (some ⟨g, 0, none⟩)), .nilIface]) ∧ w'.heap[g]? = some (.cells (specCells l loc) 171 (0, 0))
 | some (.delay d) => e = .returned (.tuple #[.iface 174 (.agg #[.int .i64 d]), .nilIface])
 | none => ∃ t x, e = .returned (.tuple #[.nilIface, .iface t x])
def everyD (d : Int) : Int := if d < 1000000000 then 1000000000 else d / 1000000000 * 1000000000
theorem every_f (d : Int) (h : d ≤ 9223372036854775807) : cron_Every.f d = some (everyD d) := by
 unfold cron_Every.f everyD
 by_cases h1 : d < 1000000000
 ·rw [if_pos h1, if_pos h1]
  decide +kernel
 ·rw [if_neg h1, if_neg h1]
  show some (wrap64 (d - Int.tmod d 1000000000)) = _
  rw [Int.tmod_eq_emod_of_nonneg (by omega)]
  congr 1
  unfold wrap64;omega
theorem durF_le {l : List UInt8} {d : Int} (h : Dur.durF l = some d) : d ≤ 9223372036854775807 := by
 unfold Dur.durF at h
 split at h
 ·cases h; decide
 ·split at h
  ·cases h
  ·unfold Dur.finF at h
   split at h
   ·cases h
   ·split at h
    ·cases h
     split <;> omega
    ·split at h
     ·cases h
     ·cases h
      omega
def allN (k : Nat) : Int := if k = 2 then 9223372036871553023 else if k = 3 then 9223372041149743102 else if k = 4 then 9223372036854783998 else 9223372036854775935
theorem allN_bits (k : Nat) (hk : k = 2 ∨ k = 3 ∨ k = 4 ∨ k = 5) : Go.bits .or .u64 (steps (loK k) (hiK k) 1 : Nat) 9223372036854775808 = allN k := by
 rcases hk with rfl | rfl | rfl | rfl <;> decide +kernel
theorem allN_any (k : Nat) (hk : k = 2 ∨ k = 3 ∨ k = 4 ∨ k = 5) (r : Option Nat) (w : World) : Calls Tryz.prog 145 #[.agg #[.int .u64 (loK k : Nat), .int .u64 (hiK k : Nat), .map r]] w fun e w' => e = .returned (.int .u64 (allN k)) ∧ Below w.heap.size w w' := by
 have HG := Lib.hid (fun w' => getBits_any (loK k) (hiK k) 1 (by rcases hk with rfl | rfl | rfl | rfl <;> decide) (by rcases hk with rfl | rfl | rfl | rfl <;> decide) (by omega) (by omega) w');have HA := Lib.hid (allN_bits k hk)
 go_enter Tryz.func145, Tryz.ntmps145
 go_wp2_with fail
 refine (HG.out _).mono ?_;rintro e w1 ⟨rfl, rfl⟩
 go_wp2_with fail
 go_ret
 exact ⟨by rw [← HA.out]; rfl, (Below.refl _ _).alloc (Nat.le_refl _) _⟩
def descB (l : List UInt8) : Option (List Nat) :=
 if l = [64, 121, 101, 97, 114, 108, 121] ∨ l = [64, 97, 110, 110, 117, 97, 108, 108, 121] then some [1, 1, 1, 2, 2, 9223372036854775935] else
 if l = [64, 109, 111, 110, 116, 104, 108, 121] then some [1, 1, 1, 2, 9223372036854783998, 9223372036854775935] else
 if l = [64, 119, 101, 101, 107, 108, 121] then some [1, 1, 1, 9223372041149743102, 9223372036854783998, 1] else
 if l = [64, 100, 97, 105, 108, 121] ∨ l = [64, 109, 105, 100, 110, 105, 103, 104, 116] then some [1, 1, 1, 9223372041149743102, 9223372036854783998, 9223372036854775935] else
 if l = [64, 104, 111, 117, 114, 108, 121] then some [1, 1, 9223372036871553023, 9223372041149743102, 9223372036854783998, 9223372036854775935] else
 none
def descS (l : List UInt8) : Option Got := match descB l with
 | some b => some (.bits b)
 | none => if Lib.hasPrefix l [64, 101, 118, 101, 114, 121, 32] = true then (Dur.durF (l.drop 7)).map (fun d => .delay (everyD d)) else none
theorem run_field_min (lo hi : Int) (m : Option Nat) (w : World) : (Instr.field 185 (.agg #[.int .u64 lo, .int .u64 hi, .map m]) 0).run Tryz.prog w = .ok (.int .u64 lo) w := by kernel_rfl
theorem prefix_len {l p : List UInt8} (h : Lib.hasPrefix l p = true) : p.length ≤ l.length := by
 unfold Lib.hasPrefix at h;exact (List.isPrefixOf_iff_prefix.1 h).length_le
set_option maxRecDepth 100000 in
set_option maxHeartbeats 4000000 in
theorem desc_any (l : List UInt8) (hl : l.length ≤ 4294967296) (loc : Option Addr) (w : World) (hg : GE w) :
  Calls Tryz.prog 101 #[.string (ba l), .pointer loc] w fun e w' => GotAns (descS l) e w' ∧ Below w.heap.size w w' := by
 have hfm := run_field_min;have C0 := Lib.hid (fun w' => seconds_any w');have C1 := Lib.hid (fun w' => minutes_any w');have C2 := Lib.hid (fun w' => hours_any w');have C3 := Lib.hid (fun w' => dom_any w');have C4 := Lib.hid (fun w' => months_any w');have C5 := Lib.hid (fun w' => dow_any w');have D2 : Hid (∀ (r : Option Nat) (w' : World), Calls Tryz.prog 145 #[.agg #[.int .u64 0, .int .u64 23, .map r]] w' fun e w2 => e = .returned (.int .u64 9223372036871553023) ∧ Below w'.heap.size w' w2) := Lib.hid (fun r w' => allN_any 2 (by omega) r w');have D3 : Hid (∀ (r : Option Nat) (w' : World), Calls Tryz.prog 145 #[.agg #[.int .u64 1, .int .u64 31, .map r]] w' fun e w2 => e = .returned (.int .u64 9223372041149743102) ∧ Below w'.heap.size w' w2) := Lib.hid (fun r w' => allN_any 3 (by omega) r w');have D4 : Hid (∀ (r : Option Nat) (w' : World), Calls Tryz.prog 145 #[.agg #[.int .u64 1, .int .u64 12, .map r]] w' fun e w2 => e = .returned (.int .u64 9223372036854783998) ∧ Below w'.heap.size w' w2) := Lib.hid (fun r w' => allN_any 4 (by omega) r w');have D5 : Hid (∀ (r : Option Nat) (w' : World), Calls Tryz.prog 145 #[.agg #[.int .u64 0, .int .u64 6, .map r]] w' fun e w2 => e = .returned (.int .u64 9223372036854775935) ∧ Below w'.heap.size w' w2) := Lib.hid (fun r w' => allN_any 5 (by omega) r w')
 by_cases e0 : l = [64, 121, 101, 97, 114, 108, 121]
 ·have q0 : (ba l).toList = [64, 121, 101, 97, 114, 108, 121] := by rw [toList_data, ba_list]; exact e0
  have HT : Hid (descS l = some (.bits [1, 1, 1, 2, 2, 9223372036854775935])) := Lib.hid (by rw [e0]; rfl);clear hl hg e0
  go_enter Tryz.func101, Tryz.ntmps101
  have HB0 : Hid (Below w.heap.size w w) := Lib.hid (Below.refl _ _)
  go_wp2_with fail
  refine (C0.out _).mono ?_;rintro e w1 ⟨rfl, hb⟩;have HB1 := Lib.hid (below_of_le HB0.out hb);clear hb HB0
  go_wp2_with fail
  refine (C1.out _).mono ?_;rintro e w2 ⟨rfl, hb⟩;have HB2 := Lib.hid (below_of_le HB1.out hb);clear hb HB1
  go_wp2_with fail
  refine (C2.out _).mono ?_;rintro e w3 ⟨rfl, hb⟩;have HB3 := Lib.hid (below_of_le HB2.out hb);clear hb HB2
  go_wp2_with fail
  refine (C3.out _).mono ?_;rintro e w4 ⟨rfl, hb⟩;have HB4 := Lib.hid (below_of_le HB3.out hb);clear hb HB3
  go_wp2_with fail
  refine (C4.out _).mono ?_;rintro e w5 ⟨r4, rfl, -, -, hb⟩;have HB5 := Lib.hid (below_of_le HB4.out hb);clear hb HB4
  go_wp2_with fail
  refine (C5.out _).mono ?_;rintro e w6 ⟨r5, rfl, -, -, hb⟩;have HB6 := Lib.hid (below_of_le HB5.out hb);clear hb HB5
  go_wp2_with fail
  refine (D5.out (some r5) _).mono ?_;rintro e w7 ⟨rfl, hb⟩;have HB7 := Lib.hid (below_of_le HB6.out hb);clear hb HB6
  go_wp2_with fail
  go_ret2
  refine ⟨?_, HB7.out.alloc HB7.out.size _⟩;rw [HT.out];exact ⟨w7.heap.size, loc, rfl, heap_alloc_new w7 _⟩
 have n0 : ¬ (ba l).toList = [64, 121, 101, 97, 114, 108, 121] := by rw [toList_data, ba_list]; exact e0
 have m0 : ((ba l).toList == [64, 121, 101, 97, 114, 108, 121]) = false := by rw [beq_eq_false_iff_ne]; exact n0
 by_cases e1 : l = [64, 97, 110, 110, 117, 97, 108, 108, 121]
 ·have q1 : (ba l).toList = [64, 97, 110, 110, 117, 97, 108, 108, 121] := by rw [toList_data, ba_list]; exact e1
  have HT : Hid (descS l = some (.bits [1, 1, 1, 2, 2, 9223372036854775935])) := Lib.hid (by rw [e1]; rfl);clear hl hg e1 e0
  go_enter Tryz.func101, Tryz.ntmps101
  have HB0 : Hid (Below w.heap.size w w) := Lib.hid (Below.refl _ _)
  go_wp2_with fail
  refine (C0.out _).mono ?_;rintro e w1 ⟨rfl, hb⟩;have HB1 := Lib.hid (below_of_le HB0.out hb);clear hb HB0
  go_wp2_with fail
  refine (C1.out _).mono ?_;rintro e w2 ⟨rfl, hb⟩;have HB2 := Lib.hid (below_of_le HB1.out hb);clear hb HB1
  go_wp2_with fail
  refine (C2.out _).mono ?_;rintro e w3 ⟨rfl, hb⟩;have HB3 := Lib.hid (below_of_le HB2.out hb);clear hb HB2
  go_wp2_with fail
  refine (C3.out _).mono ?_;rintro e w4 ⟨rfl, hb⟩;have HB4 := Lib.hid (below_of_le HB3.out hb);clear hb HB3
  go_wp2_with fail
  refine (C4.out _).mono ?_;rintro e w5 ⟨r4, rfl, -, -, hb⟩;have HB5 := Lib.hid (below_of_le HB4.out hb);clear hb HB4
  go_wp2_with fail
  refine (C5.out _).mono ?_;rintro e w6 ⟨r5, rfl, -, -, hb⟩;have HB6 := Lib.hid (below_of_le HB5.out hb);clear hb HB5
  go_wp2_with fail
  refine (D5.out (some r5) _).mono ?_;rintro e w7 ⟨rfl, hb⟩;have HB7 := Lib.hid (below_of_le HB6.out hb);clear hb HB6
  go_wp2_with fail
  go_ret2
  refine ⟨?_, HB7.out.alloc HB7.out.size _⟩;rw [HT.out];exact ⟨w7.heap.size, loc, rfl, heap_alloc_new w7 _⟩
 have n1 : ¬ (ba l).toList = [64, 97, 110, 110, 117, 97, 108, 108, 121] := by rw [toList_data, ba_list]; exact e1
 have m1 : ((ba l).toList == [64, 97, 110, 110, 117, 97, 108, 108, 121]) = false := by rw [beq_eq_false_iff_ne]; exact n1
 by_cases e2 : l = [64, 109, 111, 110, 116, 104, 108, 121]
 ·have q2 : (ba l).toList = [64, 109, 111, 110, 116, 104, 108, 121] := by rw [toList_data, ba_list]; exact e2
  have HT : Hid (descS l = some (.bits [1, 1, 1, 2, 9223372036854783998, 9223372036854775935])) := Lib.hid (by rw [e2]; rfl);clear hl hg e2 e0 e1
  go_enter Tryz.func101, Tryz.ntmps101
  have HB0 : Hid (Below w.heap.size w w) := Lib.hid (Below.refl _ _)
  go_wp2_with fail
  refine (C0.out _).mono ?_;rintro e w1 ⟨rfl, hb⟩;have HB1 := Lib.hid (below_of_le HB0.out hb);clear hb HB0
  go_wp2_with fail
  refine (C1.out _).mono ?_;rintro e w2 ⟨rfl, hb⟩;have HB2 := Lib.hid (below_of_le HB1.out hb);clear hb HB1
  go_wp2_with fail
  refine (C2.out _).mono ?_;rintro e w3 ⟨rfl, hb⟩;have HB3 := Lib.hid (below_of_le HB2.out hb);clear hb HB2
  go_wp2_with fail
  refine (C3.out _).mono ?_;rintro e w4 ⟨rfl, hb⟩;have HB4 := Lib.hid (below_of_le HB3.out hb);clear hb HB3
  go_wp2_with fail
  refine (C4.out _).mono ?_;rintro e w5 ⟨r4, rfl, -, -, hb⟩;have HB5 := Lib.hid (below_of_le HB4.out hb);clear hb HB4
  go_wp2_with fail
  refine (D4.out (some r4) _).mono ?_;rintro e w6 ⟨rfl, hb⟩;have HB6 := Lib.hid (below_of_le HB5.out hb);clear hb HB5
  go_wp2_with fail
  refine (C5.out _).mono ?_;rintro e w7 ⟨r5, rfl, -, -, hb⟩;have HB7 := Lib.hid (below_of_le HB6.out hb);clear hb HB6
  go_wp2_with fail
  refine (D5.out (some r5) _).mono ?_;rintro e w8 ⟨rfl, hb⟩;have HB8 := Lib.hid (below_of_le HB7.out hb);clear hb HB7
  go_wp2_with fail
  go_ret2
  refine ⟨?_, HB8.out.alloc HB8.out.size _⟩;rw [HT.out];exact ⟨w8.heap.size, loc, rfl, heap_alloc_new w8 _⟩
 have n2 : ¬ (ba l).toList = [64, 109, 111, 110, 116, 104, 108, 121] := by rw [toList_data, ba_list]; exact e2
 have m2 : ((ba l).toList == [64, 109, 111, 110, 116, 104, 108, 121]) = false := by rw [beq_eq_false_iff_ne]; exact n2
 by_cases e3 : l = [64, 119, 101, 101, 107, 108, 121]
 ·have q3 : (ba l).toList = [64, 119, 101, 101, 107, 108, 121] := by rw [toList_data, ba_list]; exact e3
  have HT : Hid (descS l = some (.bits [1, 1, 1, 9223372041149743102, 9223372036854783998, 1])) := Lib.hid (by rw [e3]; rfl);clear hl hg e3 e0 e1 e2
  go_enter Tryz.func101, Tryz.ntmps101
  have HB0 : Hid (Below w.heap.size w w) := Lib.hid (Below.refl _ _)
  go_wp2_with fail
  refine (C0.out _).mono ?_;rintro e w1 ⟨rfl, hb⟩;have HB1 := Lib.hid (below_of_le HB0.out hb);clear hb HB0
  go_wp2_with fail
  refine (C1.out _).mono ?_;rintro e w2 ⟨rfl, hb⟩;have HB2 := Lib.hid (below_of_le HB1.out hb);clear hb HB1
  go_wp2_with fail
  refine (C2.out _).mono ?_;rintro e w3 ⟨rfl, hb⟩;have HB3 := Lib.hid (below_of_le HB2.out hb);clear hb HB2
  go_wp2_with fail
  refine (C3.out _).mono ?_;rintro e w4 ⟨rfl, hb⟩;have HB4 := Lib.hid (below_of_le HB3.out hb);clear hb HB3
  go_wp2_with fail
  refine (D3.out none _).mono ?_;rintro e w5 ⟨rfl, hb⟩;have HB5 := Lib.hid (below_of_le HB4.out hb);clear hb HB4
  go_wp2_with fail
  refine (C4.out _).mono ?_;rintro e w6 ⟨r4, rfl, -, -, hb⟩;have HB6 := Lib.hid (below_of_le HB5.out hb);clear hb HB5
  go_wp2_with fail
  refine (D4.out (some r4) _).mono ?_;rintro e w7 ⟨rfl, hb⟩;have HB7 := Lib.hid (below_of_le HB6.out hb);clear hb HB6
  go_wp2_with fail
  refine (C5.out _).mono ?_;rintro e w8 ⟨r5, rfl, -, -, hb⟩;have HB8 := Lib.hid (below_of_le HB7.out hb);clear hb HB7
  go_wp2_with fail
  go_ret2
  refine ⟨?_, HB8.out.alloc HB8.out.size _⟩;rw [HT.out];exact ⟨w8.heap.size, loc, rfl, heap_alloc_new w8 _⟩
 have n3 : ¬ (ba l).toList = [64, 119, 101, 101, 107, 108, 121] := by rw [toList_data, ba_list]; exact e3
 have m3 : ((ba l).toList == [64, 119, 101, 101, 107, 108, 121]) = false := by rw [beq_eq_false_iff_ne]; exact n3
 by_cases e4 : l = [64, 100, 97, 105, 108, 121]
 ·have q4 : (ba l).toList = [64, 100, 97, 105, 108, 121] := by rw [toList_data, ba_list]; exact e4
  have HT : Hid (descS l = some (.bits [1, 1, 1, 9223372041149743102, 9223372036854783998, 9223372036854775935])) := Lib.hid (by rw [e4]; rfl);clear hl hg e4 e0 e1 e2 e3
  go_enter Tryz.func101, Tryz.ntmps101
  have HB0 : Hid (Below w.heap.size w w) := Lib.hid (Below.refl _ _)
  go_wp2_with fail
  refine (C0.out _).mono ?_;rintro e w1 ⟨rfl, hb⟩;have HB1 := Lib.hid (below_of_le HB0.out hb);clear hb HB0
  go_wp2_with fail
  refine (C1.out _).mono ?_;rintro e w2 ⟨rfl, hb⟩;have HB2 := Lib.hid (below_of_le HB1.out hb);clear hb HB1
  go_wp2_with fail
  refine (C2.out _).mono ?_;rintro e w3 ⟨rfl, hb⟩;have HB3 := Lib.hid (below_of_le HB2.out hb);clear hb HB2
  go_wp2_with fail
  refine (C3.out _).mono ?_;rintro e w4 ⟨rfl, hb⟩;have HB4 := Lib.hid (below_of_le HB3.out hb);clear hb HB3
  go_wp2_with fail
  refine (D3.out none _).mono ?_;rintro e w5 ⟨rfl, hb⟩;have HB5 := Lib.hid (below_of_le HB4.out hb);clear hb HB4
  go_wp2_with fail
  refine (C4.out _).mono ?_;rintro e w6 ⟨r4, rfl, -, -, hb⟩;have HB6 := Lib.hid (below_of_le HB5.out hb);clear hb HB5
  go_wp2_with fail
  refine (D4.out (some r4) _).mono ?_;rintro e w7 ⟨rfl, hb⟩;have HB7 := Lib.hid (below_of_le HB6.out hb);clear hb HB6
  go_wp2_with fail
  refine (C5.out _).mono ?_;rintro e w8 ⟨r5, rfl, -, -, hb⟩;have HB8 := Lib.hid (below_of_le HB7.out hb);clear hb HB7
  go_wp2_with fail
  refine (D5.out (some r5) _).mono ?_;rintro e w9 ⟨rfl, hb⟩;have HB9 := Lib.hid (below_of_le HB8.out hb);clear hb HB8
  go_wp2_with fail
  go_ret2
  refine ⟨?_, HB9.out.alloc HB9.out.size _⟩;rw [HT.out];exact ⟨w9.heap.size, loc, rfl, heap_alloc_new w9 _⟩
 have n4 : ¬ (ba l).toList = [64, 100, 97, 105, 108, 121] := by rw [toList_data, ba_list]; exact e4
 have m4 : ((ba l).toList == [64, 100, 97, 105, 108, 121]) = false := by rw [beq_eq_false_iff_ne]; exact n4
 by_cases e5 : l = [64, 109, 105, 100, 110, 105, 103, 104, 116]
 ·have q5 : (ba l).toList = [64, 109, 105, 100, 110, 105, 103, 104, 116] := by rw [toList_data, ba_list]; exact e5
  have HT : Hid (descS l = some (.bits [1, 1, 1, 9223372041149743102, 9223372036854783998, 9223372036854775935])) := Lib.hid (by rw [e5]; rfl);clear hl hg e5 e0 e1 e2 e3 e4
  go_enter Tryz.func101, Tryz.ntmps101
  have HB0 : Hid (Below w.heap.size w w) := Lib.hid (Below.refl _ _)
  go_wp2_with fail
  refine (C0.out _).mono ?_;rintro e w1 ⟨rfl, hb⟩;have HB1 := Lib.hid (below_of_le HB0.out hb);clear hb HB0
  go_wp2_with fail
  refine (C1.out _).mono ?_;rintro e w2 ⟨rfl, hb⟩;have HB2 := Lib.hid (below_of_le HB1.out hb);clear hb HB1
  go_wp2_with fail
  refine (C2.out _).mono ?_;rintro e w3 ⟨rfl, hb⟩;have HB3 := Lib.hid (below_of_le HB2.out hb);clear hb HB2
  go_wp2_with fail
  refine (C3.out _).mono ?_;rintro e w4 ⟨rfl, hb⟩;have HB4 := Lib.hid (below_of_le HB3.out hb);clear hb HB3
  go_wp2_with fail
  refine (D3.out none _).mono ?_;rintro e w5 ⟨rfl, hb⟩;have HB5 := Lib.hid (below_of_le HB4.out hb);clear hb HB4
  go_wp2_with fail
  refine (C4.out _).mono ?_;rintro e w6 ⟨r4, rfl, -, -, hb⟩;have HB6 := Lib.hid (below_of_le HB5.out hb);clear hb HB5
  go_wp2_with fail
  refine (D4.out (some r4) _).mono ?_;rintro e w7 ⟨rfl, hb⟩;have HB7 := Lib.hid (below_of_le HB6.out hb);clear hb HB6
  go_wp2_with fail
  refine (C5.out _).mono ?_;rintro e w8 ⟨r5, rfl, -, -, hb⟩;have HB8 := Lib.hid (below_of_le HB7.out hb);clear hb HB7
  go_wp2_with fail
  refine (D5.out (some r5) _).mono ?_;rintro e w9 ⟨rfl, hb⟩;have HB9 := Lib.hid (below_of_le HB8.out hb);clear hb HB8
  go_wp2_with fail
  go_ret2
  refine ⟨?_, HB9.out.alloc HB9.out.size _⟩;rw [HT.out];exact ⟨w9.heap.size, loc, rfl, heap_alloc_new w9 _⟩
 have n5 : ¬ (ba l).toList = [64, 109, 105, 100, 110, 105, 103, 104, 116] := by rw [toList_data, ba_list]; exact e5
 have m5 : ((ba l).toList == [64, 109, 105, 100, 110, 105, 103, 104, 116]) = false := by rw [beq_eq_false_iff_ne]; exact n5
 by_cases e6 : l = [64, 104, 111, 117, 114, 108, 121]
 ·have q6 : (ba l).toList = [64, 104, 111, 117, 114, 108, 121] := by rw [toList_data, ba_list]; exact e6
  have HT : Hid (descS l = some (.bits [1, 1, 9223372036871553023, 9223372041149743102, 9223372036854783998, 9223372036854775935])) := Lib.hid (by rw [e6]; rfl);clear hl hg e6 e0 e1 e2 e3 e4 e5
  go_enter Tryz.func101, Tryz.ntmps101
  have HB0 : Hid (Below w.heap.size w w) := Lib.hid (Below.refl _ _)
  go_wp2_with fail
  refine (C0.out _).mono ?_;rintro e w1 ⟨rfl, hb⟩;have HB1 := Lib.hid (below_of_le HB0.out hb);clear hb HB0
  go_wp2_with fail
  refine (C1.out _).mono ?_;rintro e w2 ⟨rfl, hb⟩;have HB2 := Lib.hid (below_of_le HB1.out hb);clear hb HB1
  go_wp2_with fail
  refine (C2.out _).mono ?_;rintro e w3 ⟨rfl, hb⟩;have HB3 := Lib.hid (below_of_le HB2.out hb);clear hb HB2
  go_wp2_with fail
  refine (D2.out none _).mono ?_;rintro e w4 ⟨rfl, hb⟩;have HB4 := Lib.hid (below_of_le HB3.out hb);clear hb HB3
  go_wp2_with fail
  refine (C3.out _).mono ?_;rintro e w5 ⟨rfl, hb⟩;have HB5 := Lib.hid (below_of_le HB4.out hb);clear hb HB4
  go_wp2_with fail
  refine (D3.out none _).mono ?_;rintro e w6 ⟨rfl, hb⟩;have HB6 := Lib.hid (below_of_le HB5.out hb);clear hb HB5
  go_wp2_with fail
  refine (C4.out _).mono ?_;rintro e w7 ⟨r4, rfl, -, -, hb⟩;have HB7 := Lib.hid (below_of_le HB6.out hb);clear hb HB6
  go_wp2_with fail
  refine (D4.out (some r4) _).mono ?_;rintro e w8 ⟨rfl, hb⟩;have HB8 := Lib.hid (below_of_le HB7.out hb);clear hb HB7
  go_wp2_with fail
  refine (C5.out _).mono ?_;rintro e w9 ⟨r5, rfl, -, -, hb⟩;have HB9 := Lib.hid (below_of_le HB8.out hb);clear hb HB8
  go_wp2_with fail
  refine (D5.out (some r5) _).mono ?_;rintro e w10 ⟨rfl, hb⟩;have HB10 := Lib.hid (below_of_le HB9.out hb);clear hb HB9
  go_wp2_with fail
  go_ret2
  refine ⟨?_, HB10.out.alloc HB10.out.size _⟩;rw [HT.out];exact ⟨w10.heap.size, loc, rfl, heap_alloc_new w10 _⟩
 have n6 : ¬ (ba l).toList = [64, 104, 111, 117, 114, 108, 121] := by rw [toList_data, ba_list]; exact e6
 have m6 : ((ba l).toList == [64, 104, 111, 117, 114, 108, 121]) = false := by rw [beq_eq_false_iff_ne]; exact n6
 have hdB : descB l = none := by
  unfold descB;rw [if_neg (fun h => h.elim e0 e1), if_neg e2, if_neg e3, if_neg (fun h => h.elim e4 e5), if_neg e6]
 clear C0 C1 C2 C3 C4 C5 D2 D3 D4 D5 e0 e1 e2 e3 e4 e5 e6
 cases hpre : Lib.hasPrefix l [64, 101, 118, 101, 114, 121, 32] with
 | false =>
  have HP : Hid (∀ w' : World, Calls Tryz.prog 97 #[.string (ba l), .string ⟨#[64, 101, 118, 101, 114, 121, 32]⟩] w' fun e w'' => e = .returned (.bool false) ∧ w' = w'') := Lib.hid fun w' => (Tryz.strings_HasPrefix (ba l) ⟨#[64, 101, 118, 101, 114, 121, 32]⟩ w').mono fun e w'' hh => ⟨hh.1.trans (by rw [show (⟨#[64, 101, 118, 101, 114, 121, 32]⟩ : ByteArray).data.toList = [64, 101, 118, 101, 114, 121, 32] from rfl, ba_list, hpre]), hh.2.symm⟩
  have HT : Hid (descS l = none) := Lib.hid (by unfold descS; rw [hdB]; simp only [hpre]; rfl);clear hpre hdB hl hg
  go_enter Tryz.func101, Tryz.ntmps101
  go_wp2_with fail
  refine (HP.out _).mono ?_;rintro e w1 ⟨rfl, rfl⟩
  go_wp2_with fail
  refine (errorsNew_any _ _).mono ?_;rintro e w1 ⟨t, x, rfl, hb⟩
  go_wp2_with fail
  go_ret2
  refine ⟨?_, hb⟩;rw [HT.out];exact ⟨t, x, rfl⟩
 | true =>
  have HP : Hid (∀ w' : World, Calls Tryz.prog 97 #[.string (ba l), .string ⟨#[64, 101, 118, 101, 114, 121, 32]⟩] w' fun e w'' => e = .returned (.bool true) ∧ w' = w'') := Lib.hid fun w' => (Tryz.strings_HasPrefix (ba l) ⟨#[64, 101, 118, 101, 114, 121, 32]⟩ w').mono fun e w'' hh => ⟨hh.1.trans (by rw [show (⟨#[64, 101, 118, 101, 114, 121, 32]⟩ : ByteArray).data.toList = [64, 101, 118, 101, 114, 121, 32] from rfl, ba_list, hpre]), hh.2.symm⟩
  have hle := prefix_len hpre;have hsl : ∀ w' : World, (Instr.slice 9 (.string (ba l)) (some (.int .i64 7)) none none).run Tryz.prog w' = .ok (.string (ba (l.drop 7))) w' := fun w' => str_from l 7 hle w'
  have HPD := Lib.hid (fun w' h => parseDur_any (l.drop 7) (by rw [List.length_drop]; omega) w' h);have HT : Hid (descS l = (Dur.durF (l.drop 7)).map (fun d => .delay (everyD d))) := Lib.hid (by unfold descS; rw [hdB]; simp only [hpre]; rfl);have HE : Hid (∀ d, Dur.durF (l.drop 7) = some d → d ≤ 9223372036854775807) := Lib.hid fun d h => durF_le h
  generalize Dur.durF (l.drop 7) = rd at *;generalize ba (l.drop 7) = sd at *;clear hpre hdB hl hle
  go_enter Tryz.func101, Tryz.ntmps101
  go_wp2_with fail
  refine (HP.out _).mono ?_;rintro e w1 ⟨rfl, rfl⟩
  go_wp2_with fail
  refine (HPD.out _ hg).mono ?_;rintro e w1 ⟨hd, hb1⟩
  cases rd with
  | none =>
   obtain ⟨t, x, rfl⟩ := hd
   go_wp2_with fail
   refine (errorsNew_any _ _).mono ?_;rintro e w2 ⟨t2, x2, rfl, hb⟩
   go_wp2_with fail
   go_ret2
   refine ⟨?_, below_of_le hb1 hb⟩;rw [HT.out];exact ⟨t2, x2, rfl⟩
  | some d =>
   obtain rfl := hd;have HEV := Lib.hid (fun w' => cron_Every.calls d _ w' (every_f d (HE.out d rfl)))
   go_wp2_with fail
   refine (HEV.out _).mono ?_;rintro e w2 ⟨rfl, hb⟩
   go_wp2_with fail
   go_ret2
   refine ⟨?_, below_of_le hb1 hb⟩;rw [HT.out];exact rfl
end Go.Proofs.YtmecbmgfacpecaaGreatDoor.Cron
namespace Go.Proofs.YtmecbmgfacpecaaGreatDoor.Cal
open Go Go.RowKit
set_option linter.unusedVariables false
set_option linter.unusedSimpArgs false
theorem utc_any (w : World) :
  Calls Tryz.prog 125 #[] w fun e' w' => e' = .returned (.pointer (some ⟨w.heap.size, 0, none⟩)) ∧ w'.cell? ⟨w.heap.size, 0, none⟩ = some (.bool true) ∧ w'.cell? ⟨w.heap.size, 2, none⟩ = some (.slice none 0 0) ∧ Below w.heap.size w w' ∧ w.heap.size < w'.heap.size := by
 go_enter Tryz.func125, Tryz.ntmps125
 go_wp2_with fail
 go_ret
 refine ⟨rfl, by simp [go_sem], by simp [go_sem], (Below.refl _ _).alloc (Nat.le_refl _) _, by simp⟩
end Go.Proofs.YtmecbmgfacpecaaGreatDoor.Cal
namespace Go.Proofs.YtmecbmgfacpecaaGreatDoor.Cron
open Go Go.RowKit Go.Proofs.YtmecbmgfacpecaaGreatDoor.Text Go.Proofs.YtmecbmgfacpecaaGreatDoorW.PrintWords Go.Proofs.YtmecbmgfacpecaaGreatDoorW.PrintLast Go.Proofs.YtmecbmgfacpecaaGreatDoorW.PrintMore Go.Proofs.YtmecbmgfacpecaaGreatDoor.Pr
set_option linter.unusedVariables false
set_option linter.unusedSimpArgs false
def GL (w : World) : Prop := ∃ tp p, w.var? Tryz.prog "pub-timebook/pub/gotime.errLocation" = some #[.iface tp p]
theorem gLocation : Tryz.prog.globalNamed "pub-timebook/pub/gotime.errLocation" = some 0 := by kernel_rfl
theorem GL.below {w w' : World} (h : GL w) (hb : Below w.heap.size w w') : GL w' := by
 obtain ⟨t, p, h1⟩ := h;exact ⟨t, p, var?_below hb gLocation (lt_of_var gLocation h1) h1⟩
theorem GL.cell {w : World} (h : GL w) : ∃ tp p, w.cell? ⟨0, 0, none⟩ = some (.iface tp p) := by
 obtain ⟨t, p, h1⟩ := h;exact ⟨t, p, by simpa using World.var?_cell gLocation h1 0⟩
theorem GL.lt {w : World} (h : GL w) : 0 < w.heap.size := by
 obtain ⟨t, p, h1⟩ := h;exact lt_of_var gLocation h1
def dotsFrom : List UInt8 → Bool
 | a :: b :: r => (a == 46 && b == 46) || dotsFrom (b :: r)
 | _ => false
theorem dots_l0 (s : ByteArray) (hs : s.size ≤ 4294967296) (h2 : 2 ≤ s.size) : ∀ (d i k : Nat), s.size - 1 - i = d → i + 1 ≤ s.size → d < k → gotime_containsDotDot.l0 k s (i : Int) = some (dotsFrom (s.data.toList.drop i))
 | 0, i, k, hd, hi, hk => by
  obtain ⟨k, rfl⟩ : ∃ m, k = m + 1 := ⟨k - 1, by omega⟩
  unfold gotime_containsDotDot.l0
  have hw : wrap64 ((s.size : Int) - 1) = ((s.size - 1 : Nat) : Int) := by
   unfold wrap64;omega
  have hl : (s.data.toList.drop i).length = 1 := by rw [List.length_drop, ← size_list]; omega
  obtain ⟨x, hx⟩ := List.length_eq_one_iff.1 hl;rw [hw, if_neg (by omega), hx];rfl
 | d + 1, i, k, hd, hi, hk => by
  obtain ⟨k, rfl⟩ : ∃ m, k = m + 1 := ⟨k - 1, by omega⟩
  have hw : wrap64 ((s.size : Int) - 1) = ((s.size - 1 : Nat) : Int) := by
   unfold wrap64;omega
  have hw1 : wrap64 ((i : Int) + 1) = ((i + 1 : Nat) : Int) := by
   unfold wrap64;omega
  have hl : i < s.data.toList.length := by rw [← size_list]; omega
  have hl1 : i + 1 < s.data.toList.length := by rw [← size_list]; omega
  have e : s.data.toList.drop i = s.data.toList[i] :: s.data.toList[i + 1] :: s.data.toList.drop (i + 2) := by
   rw [List.drop_eq_getElem_cons hl, List.drop_eq_getElem_cons hl1]
  have e1 : s.data.toList.drop (i + 1) = s.data.toList[i + 1] :: s.data.toList.drop (i + 2) := List.drop_eq_getElem_cons hl1;have ih := dots_l0 s hs h2 d (i + 1) k (by omega) (by omega) (by omega);have hbt := bt_list s i hl;have hbt1 := bt_list s (i + 1) hl1;rw [e1] at ih;unfold gotime_containsDotDot.l0;rw [hw, if_pos (by omega), if_pos (by omega), if_pos (by omega), hbt, e];generalize s.data.toList[i] = a at *;generalize s.data.toList[i + 1] = b at *;generalize s.data.toList.drop (i + 2) = r at *
  have key : ∀ x : UInt8, (((x.toNat : Nat) : Int) = 46) = (x = 46) := fun x => by
   apply propext
   constructor
   ·intro h;exact UInt8.toNat_inj.1 (by show x.toNat = 46; omega)
   ·rintro rfl;rfl
  by_cases ha : a = 46
  ·rw [if_pos (by rw [key]; exact ha), hw1, if_pos (by omega), if_pos (by omega), hbt1]
   by_cases hb : b = 46
   ·rw [if_pos (by rw [key]; exact hb), dotsFrom, ha, hb];rfl
   ·rw [if_neg (by rw [key]; exact hb), ih, dotsFrom];simp [hb]
  ·rw [if_neg (by rw [key]; exact ha), hw1, ih, dotsFrom];simp [ha]
theorem dots_f (s : ByteArray) (hs : s.size ≤ 4294967296) : gotime_containsDotDot.f (s.size + 1) s = some (dotsFrom s.data.toList) := by
 unfold gotime_containsDotDot.f
 by_cases h : (s.size : Int) < 2
 ·rw [if_pos h];have := size_list s;generalize s.data.toList = l at *
  rcases l with _ | ⟨a, _ | ⟨b, r⟩⟩
  ·rfl
  ·rfl
  ·simp at this;omega
 ·rw [if_neg h];exact dots_l0 s hs (by omega) _ 0 _ rfl (by omega) (by omega)
def zoneOk (l : List UInt8) : Bool := decide (l = []) || decide (l = [85, 84, 67]) || decide (l = [76, 111, 99, 97, 108])
def LoadAns (b : Bool) (e : Ending) : Prop := if b = true then ∃ loc : Option Addr, e = .returned (.tuple #[.pointer loc, .nilIface]) else ∃ t x, e = .returned (.tuple #[.pointer none, .iface t x])
set_option maxRecDepth 100000 in
theorem loadLoc_any (s : ByteArray) (hs : s.size ≤ 4294967296) (w : World) (hg : GL w) :
  Calls Tryz.prog 99 #[.string s] w fun e w' => LoadAns (zoneOk s.data.toList) e ∧ Below w.heap.size w w' := by
 have HU := Lib.hid (fun w' => Cal.utc_any w');have HD := Lib.hid (fun w' => gotime_containsDotDot.calls (s.size + 1) s _ w' (dots_f s hs))
 by_cases h0 : s.data.toList = []
 ·have hq : s.toList = [] := by rw [toList_data]; exact h0
  have hz : zoneOk s.data.toList = true := by rw [h0]; rfl
  rw [hz];clear hz h0
  go_enter Tryz.func99, Tryz.ntmps99
  go_wp2_with fail
  refine (HU.out _).mono ?_;rintro e w1 ⟨rfl, _, _, hb, _⟩
  go_wp2_with fail
  go_ret2
  exact ⟨⟨_, rfl⟩, hb⟩
 by_cases h1 : s.data.toList = [85, 84, 67]
 ·have hq : s.toList = [85, 84, 67] := by rw [toList_data]; exact h1
  have hz : zoneOk s.data.toList = true := by rw [h1]; rfl
  rw [hz];clear hz h1
  go_enter Tryz.func99, Tryz.ntmps99
  go_wp2_with fail
  refine (HU.out _).mono ?_;rintro e w1 ⟨rfl, _, _, hb, _⟩
  go_wp2_with fail
  go_ret2
  exact ⟨⟨_, rfl⟩, hb⟩
 have hq0 : ¬ s.toList = [] := by rw [toList_data]; exact h0
 have hq0' : (s.toList == []) = false := by rw [beq_eq_false_iff_ne]; exact hq0
 have hq1 : ¬ s.toList = [85, 84, 67] := by rw [toList_data]; exact h1
 have hq1' : (s.toList == [85, 84, 67]) = false := by rw [beq_eq_false_iff_ne]; exact hq1
 by_cases h2 : s.data.toList = [76, 111, 99, 97, 108]
 ·have hq : s.toList = [76, 111, 99, 97, 108] := by rw [toList_data]; exact h2
  have hz : zoneOk s.data.toList = true := by rw [h2]; rfl
  rw [hz];clear hz h2 h0 h1
  go_enter Tryz.func99, Tryz.ntmps99
  go_wp2_with fail
  go_ret2
  exact ⟨⟨_, rfl⟩, Below.refl _ _⟩
 have hq2 : ¬ s.toList = [76, 111, 99, 97, 108] := by rw [toList_data]; exact h2
 have hq2' : (s.toList == [76, 111, 99, 97, 108]) = false := by rw [beq_eq_false_iff_ne]; exact hq2
 have hz : zoneOk s.data.toList = false := by
  unfold zoneOk;rw [decide_eq_false h0, decide_eq_false h1, decide_eq_false h2];rfl
 obtain ⟨tp, pp, hc⟩ := hg.cell;have hlt := hg.lt
 obtain ⟨c, r, hcr⟩ : ∃ c r, s.data.toList = c :: r := by
  cases h : s.data.toList with
  | nil => exact absurd h h0
  | cons c r => exact ⟨c, r, rfl⟩
 obtain rfl : s = ba (c :: r) := by rw [← hcr]; rfl
 have hix : ∀ w' : World, (Instr.index 9 (.string (ba (c :: r))) (.int .i64 0)).run Tryz.prog w' = .ok (.int .u8 (c.toNat : Nat)) w' := fun w' => str_at (c :: r) 0 (by simp) w'
 generalize dotsFrom (ba (c :: r)).data.toList = dd at *;rw [hz];clear hz h0 h1 h2 hs hcr
 go_enter Tryz.func99, Tryz.ntmps99
 go_wp2_with fail
 refine (HD.out _).mono ?_;rintro e w1 ⟨rfl, hd1⟩;have hb1 := hd1.below;have hc1 := (hb1.cell (p := ⟨0, 0, none⟩) hlt).trans hc;clear hd1 hc
 cases dd with
 | true =>
  go_wp2_with fail
  refine start_ (n := 3) (S := fun w' => w'.cell? ⟨0, 0, none⟩ = some (.iface tp pp) ∧ Below w.heap.size w w') (ds := []) #[false, false, false] (by kernel_rfl) rfl rfl ⟨hc1, hb1.drew⟩ (fun hHeld => ?_);refine pure_ (i := 1) (N := some 2) (v := ?_) (a' := ?_) #[false, true, false] rfl rfl (by kernel_rfl) (fun _ _ _ h => h) (Or.inl ⟨by rfl, ?_⟩) ?_ ?_;rotate_left
  ·intro w'
   go_simp
   with_reducible rfl
  rotate_left
  ·simp only [Act.put, List.setIfInBounds_toArray, List.set_cons_zero, List.set_cons_succ, i64_w, i32_w];rfl
  refine take_ (i := 0) (N := some 25) (v := ?_) (a' := ?_) #[true, true, false] rfl rfl (by kernel_rfl) (fun _ _ _ h => h) (Or.inl ⟨by rfl, ?_⟩) hHeld ?_ ?_;rotate_left
  ·rintro w' ⟨s0, s1⟩
   go_simp
   with_reducible rfl
  rotate_left
  ·simp only [Act.put, List.setIfInBounds_toArray, List.set_cons_zero, List.set_cons_succ, i64_w, i32_w];rfl
  refine pure_ (i := 2) (N := some 3) (v := ?_) (a' := ?_) #[true, true, true] rfl rfl (by kernel_rfl) (fun _ _ _ h => h) (Or.inl ⟨by rfl, ?_⟩) ?_ ?_;rotate_left
  ·intro w'
   go_simp
   with_reducible rfl
  rotate_left
  ·simp only [Act.put, List.setIfInBounds_toArray, List.set_cons_zero, List.set_cons_succ, i64_w, i32_w];rfl
  refine done_ (by kernel_rfl) ?_
  go_wp2_with fail
  have hb := hHeld.2
  go_ret2
  exact ⟨⟨_, _, rfl⟩, hb⟩
 | false =>
  by_cases h47 : c = 47
  ·subst h47;have hk : ((((47 : UInt8).toNat : Nat) : Int) == 47) = true := rfl
   go_wp2_with fail
   refine start_ (n := 3) (S := fun w' => w'.cell? ⟨0, 0, none⟩ = some (.iface tp pp) ∧ Below w.heap.size w w') (ds := []) #[false, false, false] (by kernel_rfl) rfl rfl ⟨hc1, hb1.drew⟩ (fun hHeld => ?_);refine pure_ (i := 1) (N := some 2) (v := ?_) (a' := ?_) #[false, true, false] rfl rfl (by kernel_rfl) (fun _ _ _ h => h) (Or.inl ⟨by rfl, ?_⟩) ?_ ?_;rotate_left
   ·intro w'
    go_simp
    with_reducible rfl
   rotate_left
   ·simp only [Act.put, List.setIfInBounds_toArray, List.set_cons_zero, List.set_cons_succ, i64_w, i32_w];rfl
   refine take_ (i := 0) (N := some 25) (v := ?_) (a' := ?_) #[true, true, false] rfl rfl (by kernel_rfl) (fun _ _ _ h => h) (Or.inl ⟨by rfl, ?_⟩) hHeld ?_ ?_;rotate_left
   ·rintro w' ⟨s0, s1⟩
    go_simp
    with_reducible rfl
   rotate_left
   ·simp only [Act.put, List.setIfInBounds_toArray, List.set_cons_zero, List.set_cons_succ, i64_w, i32_w];rfl
   refine pure_ (i := 2) (N := some 3) (v := ?_) (a' := ?_) #[true, true, true] rfl rfl (by kernel_rfl) (fun _ _ _ h => h) (Or.inl ⟨by rfl, ?_⟩) ?_ ?_;rotate_left
   ·intro w'
    go_simp
    with_reducible rfl
   rotate_left
   ·simp only [Act.put, List.setIfInBounds_toArray, List.set_cons_zero, List.set_cons_succ, i64_w, i32_w];rfl
   refine done_ (by kernel_rfl) ?_
   go_wp2_with fail
   have hb := hHeld.2
   go_ret2
   exact ⟨⟨_, _, rfl⟩, hb⟩
  ·have hn47 : c.toNat ≠ 47 := fun e => h47 (UInt8.toNat_inj.1 e)
   have hc47 : (((c.toNat : Nat) : Int) == 47) = false := by rw [beq_eq_false_iff_ne]; omega
   by_cases h92 : c = 92
   ·subst h92;have hk : ((((92 : UInt8).toNat : Nat) : Int) == 92) = true := rfl
    go_wp2_with fail
    refine start_ (n := 3) (S := fun w' => w'.cell? ⟨0, 0, none⟩ = some (.iface tp pp) ∧ Below w.heap.size w w') (ds := []) #[false, false, false] (by kernel_rfl) rfl rfl ⟨hc1, hb1.drew⟩ (fun hHeld => ?_);refine pure_ (i := 1) (N := some 2) (v := ?_) (a' := ?_) #[false, true, false] rfl rfl (by kernel_rfl) (fun _ _ _ h => h) (Or.inl ⟨by rfl, ?_⟩) ?_ ?_;rotate_left
    ·intro w'
     go_simp
     with_reducible rfl
    rotate_left
    ·simp only [Act.put, List.setIfInBounds_toArray, List.set_cons_zero, List.set_cons_succ, i64_w, i32_w];rfl
    refine take_ (i := 0) (N := some 25) (v := ?_) (a' := ?_) #[true, true, false] rfl rfl (by kernel_rfl) (fun _ _ _ h => h) (Or.inl ⟨by rfl, ?_⟩) hHeld ?_ ?_;rotate_left
    ·rintro w' ⟨s0, s1⟩
     go_simp
     with_reducible rfl
    rotate_left
    ·simp only [Act.put, List.setIfInBounds_toArray, List.set_cons_zero, List.set_cons_succ, i64_w, i32_w];rfl
    refine pure_ (i := 2) (N := some 3) (v := ?_) (a' := ?_) #[true, true, true] rfl rfl (by kernel_rfl) (fun _ _ _ h => h) (Or.inl ⟨by rfl, ?_⟩) ?_ ?_;rotate_left
    ·intro w'
     go_simp
     with_reducible rfl
    rotate_left
    ·simp only [Act.put, List.setIfInBounds_toArray, List.set_cons_zero, List.set_cons_succ, i64_w, i32_w];rfl
    refine done_ (by kernel_rfl) ?_
    go_wp2_with fail
    have hb := hHeld.2
    go_ret2
    exact ⟨⟨_, _, rfl⟩, hb⟩
   ·have hn92 : c.toNat ≠ 92 := fun e => h92 (UInt8.toNat_inj.1 e)
    have hc92 : (((c.toNat : Nat) : Int) == 92) = false := by rw [beq_eq_false_iff_ne]; omega
    go_wp2_with fail
    refine (errorsNew_any _ _).mono ?_;rintro e w2 ⟨t, x, rfl, hb2⟩
    go_wp2_with fail
    go_ret2
    exact ⟨⟨_, _, rfl⟩, below_of_le hb1 hb2⟩
end Go.Proofs.YtmecbmgfacpecaaGreatDoor.Cron
namespace Go.Proofs.YtmecbmgfacpecaaGreatDoor.Cron
open Go Go.RowKit Go.Lib Go.Proofs.YtmecbmgfacpecaaGreatDoor.Text Go.Proofs.YtmecbmgfacpecaaGreatDoorW.PrintWords Go.Proofs.YtmecbmgfacpecaaGreatDoorW.PrintLast Go.Proofs.YtmecbmgfacpecaaGreatDoorW.PrintMore Go.Proofs.YtmecbmgfacpecaaGreatDoor.Pr
set_option linter.unusedVariables false
set_option linter.unusedSimpArgs false
def trimF (s : ByteArray) : Nat → Nat → Option (Nat × Nat) → Option (Nat × Nat)
 | 0, _, st => st
 | f + 1, pos, st => if pos < s.size then
   let d := Utf8.decode s pos
   trimF s f (pos + d.2) (if spaceZ d.1 = true then st else match st with
    | none => some (pos, pos + d.2)
    | some x => some (x.1, pos + d.2))
  else st
def trimZ (s : ByteArray) : ByteArray := match trimF s s.size 0 none with
 | none => ⟨#[]⟩
 | some x => s.extract x.1 x.2
abbrev GU (w : World) : Prop := Lib.Utf8Tabs 2 3 w
theorem GU.below {w w' : World} (h : GU w) (hb : Below w.heap.size w w') : GU w' :=
 ⟨fun c hc => (hb.cell (p := ⟨_, c, none⟩) (Lib.lt_of_cell (h.1 c hc))).trans (h.1 c hc), fun i hi => ⟨(hb.cell (p := ⟨_, 2 * i, none⟩) (Lib.lt_of_cell (h.2 i hi).1)).trans (h.2 i hi).1, (hb.cell (p := ⟨_, 2 * i + 1, none⟩) (Lib.lt_of_cell (h.2 i hi).2)).trans (h.2 i hi).2⟩⟩
theorem dec_in (s : ByteArray) (pos : Nat) (hlt : pos < s.size) : pos + (Utf8.decode s pos).2 ≤ s.size := by
 have := Lib.decodeN_le_n' (s.size - pos) (s.get! pos).toNat (s.get! (pos + 1)).toNat (s.get! (pos + 2)).toNat (s.get! (pos + 3)).toNat (by omega);rw [← Lib.decode_at] at this;omega
theorem trimZ_size (s : ByteArray) : (trimZ s).size ≤ s.size := by
 unfold trimZ
 split
 ·exact Nat.zero_le _
 ·rw [ByteArray.size_extract];omega
def stFrom (st : Option (Nat × Nat)) : Int := match st with
 | none => -1
 | some x => (x.1 : Nat)
def stTo (st : Option (Nat × Nat)) : Int := match st with
 | none => 0
 | some x => (x.2 : Nat)
theorem str_from' (s : ByteArray) (i : Nat) (hi : i ≤ s.size) (w : World) : (Instr.slice 9 (.string s) (some (.int .i64 (i : Nat))) none none).run Tryz.prog w = .ok (.string (s.extract i s.size)) w := by
 have h1 : (i : Int) ≤ ((s.size : Nat) : Int) := by omega
 simp [Instr.slice, Instr.sliceBounds, Instr.sliceBound, asIntOf, run_underlying Tryz.underlying9];omega
theorem str_sub (s : ByteArray) (i j : Nat) (hi : i ≤ j) (hj : j ≤ s.size) (w : World) : (Instr.slice 9 (.string s) (some (.int .i64 (i : Nat))) (some (.int .i64 (j : Nat))) none).run Tryz.prog w = .ok (.string (s.extract i j)) w := by
 have h1 : (i : Int) ≤ ((j : Nat) : Int) := by omega
 have h2 : (j : Int) ≤ ((s.size : Nat) : Int) := by omega
 simp [Instr.slice, Instr.sliceBounds, Instr.sliceBound, asIntOf, run_underlying Tryz.underlying9];rw [if_pos hj, if_pos hi]
set_option maxRecDepth 100000 in
set_option maxHeartbeats 4000000 in
theorem trim_any (s : ByteArray) (hs : s.size ≤ 4294967296) (w : World) (hg : GU w) :
  Calls Tryz.prog 100 #[.string s] w fun e w' => e = .returned (.string (trimZ s)) ∧ Below w.heap.size w w' := by
 go_enter Tryz.func100, Tryz.ntmps100
 go_wp2_with fail
 go_loopg [3, 4, 5] s.size (fun gf s3 s4 s5 wx => ∃ (pos : Nat) (st : Option (Nat × Nat)), s3 = .int .i64 (stFrom st) ∧ s4 = .int .i64 (stTo st) ∧ s5 = .int .i64 (pos : Nat) ∧ Below w.heap.size w wx ∧
   Hid (trimF s gf pos st = trimF s s.size 0 none) ∧ s.size ≤ pos + gf ∧ pos ≤ s.size ∧ Hid (∀ x, st = some x → x.1 ≤ x.2 ∧ x.2 ≤ pos))
 case atStart =>
  exact ⟨0, none, rfl, rfl, rfl, Below.refl _ _, Lib.hid rfl, by omega, Nat.zero_le _, Lib.hid (fun x h => by cases h)⟩
 case round =>
  obtain ⟨pos, st, rfl, rfl, rfl, hbw, HG, hfu, hps, HST⟩ := hrel
  by_cases hlt : pos < s.size
  ·obtain ⟨g', rfl⟩ : ∃ g', gk = g' + 1 := ⟨gk - 1, by omega⟩
   have hwd := Lib.width_pos s pos;have hwn := dec_in s pos hlt;have hrl := Lib.rune_le s pos;have hG := HG.out;simp only [trimF, hlt, if_true] at hG
   have hdd : Lib.decodeGo (s.extract pos s.size) = Utf8.decode s pos := by
    unfold Lib.decodeGo;rw [if_neg (by rw [ByteArray.size_extract]; omega), Go.Extern.FmtText.decode_extract]
   have HDR := Lib.hid (fun w' (h : GU w') => Tryz.utf8_DecodeRuneInString (s.extract pos s.size) w' h);rw [hdd] at HDR;generalize (Utf8.decode s pos).1 = R at *;generalize (Utf8.decode s pos).2 = K at *;have HGW := Lib.hid (hg.below hbw);have HS := Lib.hid (fun w' => space_any R w');have hfr := str_from' s pos hps;have hdlt : decide ((pos : Int) < s.size) = true := decide_eq_true (by omega);clear hdd HG
   go_wp2_with fail
   refine (HDR.out _ HGW.out).mono ?_;rintro e w1 ⟨rfl, hb1⟩;have hbw1 := below_of_le hbw hb1;clear hb1 hbw HGW
   go_wp2_with fail
   refine (HS.out _).mono ?_;rintro e w2 ⟨rfl, q, rfl⟩;have hbw2 := pw_below_drewN hbw1 q;clear hbw1 HS
   cases hsp : spaceZ R
   ·rw [hsp] at hG;simp only [Bool.false_eq_true, if_false] at hG;have HG2 := Lib.hid hG;clear hG
    cases st with
    | none =>
     dsimp only [stFrom, stTo]
     go_wp2_with fail
     go_roundg g'
     case measure => omega
     case rel => exact ⟨pos + K, some (pos, pos + K), rfl, by go_num, by go_num, hbw2, HG2, by omega, hwn, Lib.hid (fun x h => by cases h; exact ⟨Nat.le_add_right _ _, Nat.le_refl _⟩)⟩
    | some a =>
     have := HST.out a rfl;dsimp only [stFrom, stTo]
     go_wp2_with fail
     go_roundg g'
     case measure => omega
     case rel => exact ⟨pos + K, some (a.1, pos + K), rfl, by go_num, by go_num, hbw2, HG2, by omega, hwn, Lib.hid (fun x h => by cases h; exact ⟨by dsimp only; omega, Nat.le_refl _⟩)⟩
   ·rw [hsp] at hG;simp only [if_true] at hG;have HG2 := Lib.hid hG;clear hG
    go_wp2_with fail
    go_roundg g'
    case measure => omega
    case rel => exact ⟨pos + K, st, rfl, rfl, by go_num, hbw2, HG2, by omega, hwn, Lib.hid (fun x h => by have := HST.out x h; exact ⟨this.1, by omega⟩)⟩
  ·have hdlt : decide ((pos : Int) < s.size) = false := decide_eq_false (by omega)
   have hG : st = trimF s s.size 0 none := by
    rw [← HG.out]
    cases gk with
    | zero => rfl
    | succ k => unfold trimF; rw [if_neg hlt]
   have hle := HST.out;clear HG HST
   cases st with
   | none =>
    have HT : Hid (trimZ s = ⟨#[]⟩) := Lib.hid (by unfold trimZ; rw [← hG]);clear hG hle;dsimp only [stFrom, stTo]
    go_wp2_with fail
    go_ret
    exact ⟨by rw [HT.out]; rfl, hbw⟩
   | some a =>
    have HT : Hid (trimZ s = s.extract a.1 a.2) := Lib.hid (by unfold trimZ; rw [← hG]);have h12 := hle a rfl;have hsub := str_sub s a.1 a.2 h12.1 (by omega);have hdf : decide (((a.1 : Nat) : Int) < 0) = false := decide_eq_false (by omega);clear hG hle;dsimp only [stFrom, stTo]
    go_wp2_with fail
    go_ret
    exact ⟨by rw [HT.out]; rfl, hbw⟩
end Go.Proofs.YtmecbmgfacpecaaGreatDoor.Cron
