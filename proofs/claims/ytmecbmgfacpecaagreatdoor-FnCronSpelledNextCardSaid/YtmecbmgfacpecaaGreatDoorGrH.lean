/- Lemmas and walks on the way to the law, merged by wip/tools/pack.py: GetBits, GetRange, FieldsL, GetField, Sets, ItemLaw. Conditions: none. -/
import Derived.Test.YtmecbmgfacpecaaGreatDoorProg
import Derived.WalkKit
import Derived.OwnWalk
import Derived.Lib.Hide
import Derived.Outline
import Derived.Test.YtmecbmgfacpecaaGreatDoorGrG
import Derived.Deep.DeepCutAuto
import Derived.Deep.QuietTactic
import Derived.Deep.RegionWith
import Derived.Deep.DeepMust
import Derived.BigQuiet
import Derived.Lib.FieldsP
import Derived.Lib.SpaceUEq
import Derived.Laws.OwnMore
import Derived.Test.YtmecbmgfacpecaaGreatDoorGrF
import Derived.Laws.Rows
import Derived.Laws.Tables
import Derived.Laws.ResultCell
import Derived.Laws.CopyOwn
import Derived.ChangeKeysEq
import Derived.Test.YtmecbmgfacpecaaGreatDoorPrA
namespace Go.Proofs.YtmecbmgfacpecaaGreatDoor.Cron
open Go Go.RowKit Go.Proofs.YtmecbmgfacpecaaGreatDoor.Bits
set_option linter.unusedVariables false
theorem int_eq {k : IntKind} {a b : Int} (h : a = b) : Ending.returned (.int k a) = .returned (.int k b) := by rw [h]
theorem getBits_one (lo hi : Nat) (h : lo ≤ hi) (hh : hi ≤ 63) (w : World) :
  Calls Tryz.prog 174 #[.int .u64 lo, .int .u64 hi, .int .u64 1] w fun e w' => e = .returned (.int .u64 (steps lo hi 1)) ∧ w = w' := by
 have hs := Lib.hid (steps_one lo hi hh)
 go_enter Tryz.func174, Tryz.ntmps174
 go_wp2
 go_ret
 refine ⟨int_eq ?_, rfl⟩
 rcases hs.out with e | e
 ·exact e
 ·omega
theorem getBits_more (lo hi st : Nat) (h : lo ≤ hi) (hh : hi ≤ 63) (h2 : 2 ≤ st) (h3 : st ≤ 9223372036854775807) (w : World) :
  Calls Tryz.prog 174 #[.int .u64 lo, .int .u64 hi, .int .u64 st] w fun e w' => e = .returned (.int .u64 (steps lo hi st)) ∧ w = w' := by
 have hne : ((st : Int) == 1) = false := by simp; omega
 go_enter Tryz.func174, Tryz.ntmps174
 go_wp2
 go_loop [7, 8] (fun b i => ∃ n m : Nat, i = .int .u64 n ∧ b = .int .u64 (below lo n st) ∧ Hid (n = lo + m * st) ∧ lo ≤ n ∧ n ≤ hi + st) (fun _ i => hi + st + 1 - (intOf i).toNat)
 case atStart => exact ⟨lo, 0, rfl, by rw [below_start]; rfl, Lib.hid (by simp), by omega, by omega⟩
 case round =>
  obtain ⟨n, m, rfl, rfl, hn, hl, hu⟩ := hrel
  have hb := below_lt lo n st
  by_cases hle : n ≤ hi
  ·have hstep := Lib.hid (below_step m hn.out (by omega) (show n ≤ 63 by omega))
   have hor : bits .or .u64 (below lo n st : Int) (IntKind.u64.wrap (2 ^ n)) = (below lo (n + st) st : Int) := by
    rw [show IntKind.u64.wrap (2 ^ n) = ((2 ^ n : Nat) : Int) from shl_one (i := (n : Int)) (by omega) (by omega), or_u64 hb (Nat.pow_lt_pow_right (by decide) (by omega)), hstep.out]
   go_wp2
   go_round
   case rel =>
    refine ⟨n + st, m + 1, by go_num, ?_, Lib.hid ?_, by omega, by omega⟩
    ·rfl
    ·have := hn.out; rw [Nat.add_mul]; omega
   case measure => simp [intOf]; omega
  ·have hend := Lib.hid (below_end m hn.out (show hi < n by omega) hu h)
   go_wp2
   go_ret
   exact ⟨int_eq (by rw [hend.out]), rfl⟩
theorem getBits_any (lo hi st : Nat) (h : lo ≤ hi) (hh : hi ≤ 63) (h2 : 1 ≤ st) (h3 : st ≤ 9223372036854775807) (w : World) :
  Calls Tryz.prog 174 #[.int .u64 lo, .int .u64 hi, .int .u64 st] w fun e w' => e = .returned (.int .u64 (steps lo hi st)) ∧ w = w' := by
 by_cases e : st = 1
 ·subst e; exact getBits_one lo hi h hh w
 ·exact getBits_more lo hi st h hh (by omega) h3 w
end Go.Proofs.YtmecbmgfacpecaaGreatDoor.Cron
namespace Go.Proofs.YtmecbmgfacpecaaGreatDoor.Cron
open Go Go.RowKit Go.Proofs.YtmecbmgfacpecaaGreatDoor.Text Go.Proofs.YtmecbmgfacpecaaGreatDoor.Bits
set_option linter.unusedVariables false
def Answers (w : World) (r : Option Nat) (e : Ending) (w' : World) : Prop :=
 (match r with
  | some b => e = .returned (.tuple #[.int .u64 b, .nilIface])
  | none => ∃ t x, e = .returned (.tuple #[.int .u64 0, .iface t x])) ∧ Below w.heap.size w w'
structure Reads (m : Option Nat) (val : List UInt8 → Option Nat) (Inv : World → Prop) : Prop where
 keeps : ∀ {w w' : World}, Inv w → Below w.heap.size w w' → Inv w'
 g : ∀ {w : World}, Inv w → G w
 le : ∀ {l n}, val l = some n → n ≤ 9223372036854775807
 calls : ∀ (s : ByteArray) (w : World), s.size ≤ 4294967296 → Inv w → Calls Tryz.prog 180 #[.string s, .map m] w (Answers w (val s.data.toList))
def Slots (r : Option Nat) (v e : Value) : Prop :=
 match r with
 | some n => v = .int .u64 n ∧ e = .nilIface
 | none => v = .int .u64 0 ∧ ∃ t x, e = .iface t x
theorem answers_cases {w : World} {r : Option Nat} {e : Ending} {w' : World} (h : Answers w r e w') : ∃ v x, e = .returned (.tuple #[v, x]) ∧ Hid (Slots r v x) ∧ Below w.heap.size w w' := by
 obtain ⟨h, hb⟩ := h
 cases r with
 | none => obtain ⟨t, x, rfl⟩ := h; exact ⟨_, _, rfl, Lib.hid ⟨rfl, t, x, rfl⟩, hb⟩
 | some n => subst h; exact ⟨_, _, rfl, Lib.hid ⟨rfl, rfl⟩, hb⟩
set_option maxRecDepth 100000 in
set_option maxHeartbeats 1600000 in
theorem rangeA (m : Option Nat) (val : List UInt8 → Option Nat) (Inv : World → Prop) (hR : Reads m val Inv) (lo hi : Nat) (s : ByteArray) (hs : s.size ≤ 4294967296) (h1 : lo ≤ hi) (h2 : hi ≤ 62) (w : World) (hI : Inv w) :
  Calls Tryz.prog 152 #[.string s, .agg #[.int .u64 lo, .int .u64 hi, .map m]] w (Answers w (rangeS val lo hi s.data.toList)) := by
 obtain ⟨p, ps, hps⟩ : ∃ p ps, splitL 47 s.data.toList = p :: ps := by
  cases h : splitL 47 s.data.toList with
  | nil => exact absurd h (splitL_ne _ _)
  | cons p ps => exact ⟨p, ps, rfl⟩
 obtain ⟨q, qs, hqs⟩ : ∃ q qs, splitL 45 p = q :: qs := by
  cases h : splitL 45 p with
  | nil => exact absurd h (splitL_ne _ _)
  | cons q qs => exact ⟨q, qs, rfl⟩
 have hpl : p.length ≤ 4294967296 := by
  have := splitL_size 47 s.data.toList p (by rw [hps]; simp)
  rw [← size_list] at this
  omega
 have hpsB : splitB 47 s = ba p :: ps.map ba := by rw [splitB, hps]; rfl
 have hqsB : splitB 45 (ba p) = ba q :: qs.map ba := by rw [splitB, ba_list, hqs]; rfl
 have HP := Lib.hid hps
 have HQ := Lib.hid hqs
 have HPB := Lib.hid hpsB
 have HQB := Lib.hid hqsB
 clear hps hqs hpsB hqsB
 go_enter Tryz.func152, Tryz.ntmps152
 go_wp2_with fail
 refine (zzSplit_any 47 s (by omega) _).mono ?_
 rintro e w1 ⟨g1, n1, c1, rfl, hg1, ht1, hb1⟩
 have hB1 : Below w.heap.size w w1 := ((Below.refl _ _).alloc (Nat.le_refl _) _).trans (hb1.mono (by simp))
 have hz1 : w.heap.size < w1.heap.size := by have := hb1.size; simp at this; omega
 have hx0 : w1.cell? ⟨w.heap.size, 0, none⟩ = some (.int .u64 lo) := (hb1.cell (p := ⟨w.heap.size, 0, none⟩) (by simp)).trans (by simp [World.cell?_alloc_new])
 have hx1 : w1.cell? ⟨w.heap.size, 1, none⟩ = some (.int .u64 hi) := (hb1.cell (p := ⟨w.heap.size, 1, none⟩) (by simp)).trans (by simp [World.cell?_alloc_new])
 have hx2 : w1.cell? ⟨w.heap.size, 2, none⟩ = some (.map m) := (hb1.cell (p := ⟨w.heap.size, 2, none⟩) (by simp)).trans (by simp [World.cell?_alloc_new])
 have hc0 : w1.cell? ⟨g1, 0, none⟩ = some (.string (ba p)) := ht1.at_ 0 _ (by rw [HPB.out]; rfl)
 have hn1 : 0 < n1 := by rw [ht1.len, HPB.out]; simp
 clear hb1
 go_wp2_with fail
 refine (zzSplit_any 45 (ba p) (by rw [ba_size]; omega) _).mono ?_
 rintro e w2 ⟨g2, n2, c2, rfl, hg2, ht2, hb2⟩
 have hB2 : Below w.heap.size w w2 := below_of_le hB1 hb2
 have hy0 : w2.cell? ⟨w.heap.size, 0, none⟩ = some (.int .u64 lo) := (hb2.cell (p := ⟨w.heap.size, 0, none⟩) hz1).trans hx0
 have hy1 : w2.cell? ⟨w.heap.size, 1, none⟩ = some (.int .u64 hi) := (hb2.cell (p := ⟨w.heap.size, 1, none⟩) hz1).trans hx1
 have hy2 : w2.cell? ⟨w.heap.size, 2, none⟩ = some (.map m) := (hb2.cell (p := ⟨w.heap.size, 2, none⟩) hz1).trans hx2
 have hz2 : w.heap.size < w2.heap.size := Nat.lt_of_lt_of_le hz1 hb2.size
 have ht3 : Texts w2 g1 n1 c1 (splitB 47 s) := ht1.below hb2
 have hd0 : w2.cell? ⟨g2, 0, none⟩ = some (.string (ba q)) := ht2.at_ 0 _ (by rw [HQB.out]; rfl)
 have hn2 : 0 < n2 := by rw [ht2.len, HQB.out]; simp
 have hnn : n2 = qs.length + 1 := by rw [ht2.len, HQB.out]; simp
 obtain ⟨sg, hsg⟩ : ∃ sg : Bool, ((n2 : Int) == 1) = sg := ⟨_, rfl⟩
 have HN := Lib.hid hnn
 have HSG := Lib.hid (show sg = ((q :: qs).length == 1) by rw [← hsg, hnn]; cases qs <;> simp; omega)
 clear hb2 hx0 hx1 hx2 hc0 ht1 hB1 hz1 hg1 hg2 hnn
 go_upto_region 7 with fail
 go_cut [32] (fun v32 wc => ∃ st : Bool, v32 = .bool st ∧ Hid (StarIs st q) ∧ w2 = wc)
 case first =>
  by_cases c1 : q = [42]
  ·have e1 := eq42_true c1
   have HS : Hid (StarIs true q) := Lib.hid (by simp [StarIs, c1])
   clear c1
   go_wp2_with fail
   go_meet
   exact ⟨true, rfl, HS, rfl⟩
  ·have e1 := eq42_false c1
   by_cases c2 : q = [63]
   ·have e2 := eq63_true c2
    have HS : Hid (StarIs true q) := Lib.hid (by simp [StarIs, c2])
    clear c1 c2
    go_wp2_with fail
    go_meet
    exact ⟨true, rfl, HS, rfl⟩
   ·have e2 := eq63_false c2
    have HS : Hid (StarIs false q) := Lib.hid (by simp [StarIs, c1, c2])
    clear c1 c2
    go_wp2_with fail
    go_meet
    exact ⟨false, rfl, HS, rfl⟩
 case rest =>
  obtain ⟨st, rfl, hst, rfl⟩ := hcut
  go_upto_if 32 with fail
  go_cut [6, 7, 13] (fun v6 v7 v13 wc => ∃ (a b : Nat) (sb : Bool), Hid (ends val lo hi (q :: qs) = some (a, b, sb)) ∧ v6 = .int .u64 a ∧ v7 = .int .u64 b ∧ v13 = .int .u64 (starBits sb) ∧ Below w2.heap.size w2 wc)
  case first =>
   cases st with
   | true =>
    have HE := Lib.hid (ends_true (val := val) (lo := lo) (hi := hi) qs hst.out)
    clear hst
    go_wp2_with fail
    go_meet
    exact ⟨lo, hi, true, HE, rfl, rfl, rfl, Below.refl _ _⟩
   | false =>
    have HE := Lib.hid (ends_false (val := val) (lo := lo) (hi := hi) qs hst.out)
    clear hst
    have hIq := hR.keeps hI hB2
    have H := fun (w' : World) (hw' : Inv w') => (hR.calls (ba q) w' (by rw [ba_size]; have := splitL_size 45 p q (by rw [HQ.out]; simp); omega) hw').mono (fun _ _ => answers_cases)
    simp only [ba_list] at H
    have HH := Lib.hid H
    clear H
    go_upto_region 11 with fail
    go_cut [6, 12] (fun v6 v12 wc => Hid (Slots (val q) v6 v12) ∧ Below w2.heap.size w2 wc)
    case first =>
     go_region_with (go_at_call 180; go_must (refine (HH.out _ ?_).mono ?_); (first | exact hIq | exact hR.keeps hIq (Below.refl _ _).drew); rintro e w3 ⟨v3, x3, rfl, hsl, hb3⟩)
     all_goals (go_wp2_with fail; go_meet; exact ⟨hsl, by first | exact hb3 | exact (Below.refl _ _).drew.trans hb3⟩)
    case rest =>
     obtain ⟨hsl, hb3⟩ := hcut
     have hB3 : Below w.heap.size w wc := below_of_le hB2 hb3
     cases hv : val q with
     | none =>
      rw [hv] at hsl HE
      obtain ⟨rfl, t3, x3, rfl⟩ := hsl.out
      have HE2 := Lib.hid (show ends val lo hi (q :: qs) = none from HE.out)
      clear HE hsl
      go_wp2_with fail
      go_ret2
      rw [rangeS_none HP.out HQ.out HE2.out]
      exact ⟨⟨t3, x3, rfl⟩, hB3⟩
     | some a =>
      rw [hv] at hsl HE
      obtain ⟨rfl, rfl⟩ := hsl.out
      clear hsl hv
      have hn := HN.out
      have hIc := hR.keeps hIq hb3
      have ht4 := ht2.below hb3
      cases qs with
      | nil =>
       obtain rfl : sg = true := HSG.out
       have HE2 := Lib.hid (show ends val lo hi [q] = some (a, a, false) from HE.out)
       clear HE hn
       go_wp2_with fail
       go_meet
       exact ⟨a, a, false, HE2, rfl, rfl, rfl, hb3⟩
      | cons e2 qs =>
       obtain rfl : sg = false := by rw [HSG.out]; simp
       cases qs with
       | cons e3 qs =>
        have hq2 : ((n2 : Int) == 2) = false := by rw [hn]; simp; omega
        have HE2 := Lib.hid (show ends val lo hi (q :: e2 :: e3 :: qs) = none from HE.out)
        clear HE hn
        go_wp2_with (go_at_call 96; refine (errorsNew_any _ _).mono ?_; rintro e w4 ⟨t4, x4, rfl, hb4⟩)
        go_ret2
        rw [rangeS_none HP.out HQ.out HE2.out]
        exact ⟨⟨t4, x4, rfl⟩, below_of_le hB3 hb4⟩
       | nil =>
        have hq2 : ((n2 : Int) == 2) = true := by rw [hn]; rfl
        have hn1 : 1 < n2 := by rw [hn]; simp
        have hl1 : ((1 : Nat) : Int) < n2 := by omega
        have hc1 : wc.cell? ⟨g2, 1, none⟩ = some (.string (ba e2)) := ht4.at_ 1 _ (by rw [HQB.out]; rfl)
        have hy4 : wc.cell? ⟨w.heap.size, 2, none⟩ = some (.map m) := (hb3.cell (p := ⟨w.heap.size, 2, none⟩) hz2).trans hy2
        have H2 := fun (w' : World) (hw' : Inv w') => (hR.calls (ba e2) w' (by rw [ba_size]; have := splitL_size 45 p e2 (by rw [HQ.out]; simp); omega) hw').mono (fun _ _ => answers_cases)
        simp only [ba_list] at H2
        have HH2 := Lib.hid H2
        clear H2 hn HH hd0 hy0 hy1 hy2
        go_upto_region 19 with fail
        go_cut [7, 12] (fun v7 v12 wd => Hid (Slots (val e2) v7 v12) ∧ Below wc.heap.size wc wd)
        case first =>
         go_region_with (go_at_call 180; go_must (refine (HH2.out _ ?_).mono ?_); (first | exact hIc | exact hR.keeps hIc (Below.refl _ _).drew); rintro e w3 ⟨v3, x3, rfl, hsl, hb4⟩)
         all_goals (go_wp2_with fail; go_meet; exact ⟨hsl, by first | exact hb4 | exact (Below.refl _ _).drew.trans hb4⟩)
        case rest =>
         obtain ⟨hsl, hb4⟩ := hcut
         cases hv2 : val e2 with
         | none =>
          rw [hv2] at hsl
          obtain ⟨rfl, t3, x3, rfl⟩ := hsl.out
          have HE2 := Lib.hid (show ends val lo hi [q, e2] = none by rw [HE.out]; simp only [endsRest, hv2])
          clear HE hsl hv2
          go_wp2_with fail
          go_ret2
          rw [rangeS_none HP.out HQ.out HE2.out]
          exact ⟨⟨t3, x3, rfl⟩, below_of_le hB3 hb4⟩
         | some b =>
          rw [hv2] at hsl
          obtain ⟨rfl, rfl⟩ := hsl.out
          have HE2 := Lib.hid (show ends val lo hi [q, e2] = some (a, b, false) by rw [HE.out]; simp only [endsRest, hv2])
          clear HE hsl hv2
          go_wp2_with fail
          go_meet
          exact ⟨a, b, false, HE2, rfl, rfl, rfl, below_of_le hb3 hb4⟩
  case rest =>
   obtain ⟨a, b, sb, HE, rfl, rfl, rfl, hb3⟩ := hcut
   have HF := Lib.hid (show rangeS val lo hi s.data.toList = rangeFin lo hi sg a b sb ps by rw [rangeS_some HP.out HQ.out HE.out, HSG.out])
   have hB3 : Below w.heap.size w wc := below_of_le hB2 hb3
   have hz3 : w.heap.size < wc.heap.size := Nat.lt_of_lt_of_le hz2 hb3.size
   have ha0 : wc.cell? ⟨w.heap.size, 0, none⟩ = some (.int .u64 lo) := (hb3.cell (p := ⟨w.heap.size, 0, none⟩) hz2).trans hy0
   have ha1 : wc.cell? ⟨w.heap.size, 1, none⟩ = some (.int .u64 hi) := (hb3.cell (p := ⟨w.heap.size, 1, none⟩) hz2).trans hy1
   have ht4 := ht3.below hb3
   have hg4 : G wc := (hR.g hI).below hB3
   have hm1 : n1 = ps.length + 1 := by rw [ht3.len, HPB.out]; simp
   have HM := Lib.hid hm1
   clear HE HQ HQB HN HSG ht2 ht3 hd0 hn2 hy0 hy1 hy2 hz2 hb3 hB2 hst hsg hm1
   obtain ⟨wo, rfl⟩ : ∃ wo : World, wo = wc := ⟨_, rfl⟩
   go_upto_block 1 with fail
   go_cut [7, 8, 13] (fun v7 v8 v13 wd => ∃ (b' k : Nat) (sb' : Bool), Hid (stepOf hi sg b sb ps = some (k, b', sb')) ∧ k ≤ 9223372036854775807 ∧ v7 = .int .u64 b' ∧ v8 = .int .u64 k ∧ v13 = .int .u64 (starBits sb') ∧ Below wo.heap.size wo wd)
   case first =>
    cases ps with
    | nil =>
     have hq1 : ((n1 : Int) == 1) = true := by rw [HM.out]; rfl
     clear HM
     go_wp2_with fail
     go_meet
     exact ⟨b, 1, sb, Lib.hid rfl, by omega, rfl, rfl, rfl, Below.refl _ _⟩
    | cons t ps =>
     have hq1 : ((n1 : Int) == 1) = false := by rw [HM.out]; simp; omega
     cases ps with
     | cons t2 ps =>
      have hq2 : ((n1 : Int) == 2) = false := by rw [HM.out]; simp; omega
      have HX := Lib.hid (fin_none (lo := lo) (a := a) (show stepOf hi sg b sb (t :: t2 :: ps) = none from rfl))
      clear HM
      go_wp2_with (go_at_call 96; refine (errorsNew_any _ _).mono ?_; rintro e w4 ⟨t4, x4, rfl, hb4⟩)
      go_ret2
      rw [HF.out, HX.out]
      exact ⟨⟨t4, x4, rfl⟩, below_of_le hB3 hb4⟩
     | nil =>
      have hq2 : ((n1 : Int) == 2) = true := by rw [HM.out]; rfl
      have hn1' : 1 < n1 := by rw [HM.out]; simp
      have hc1 : wo.cell? ⟨g1, 1, none⟩ = some (.string (ba t)) := ht4.at_ 1 _ (by rw [HPB.out]; rfl)
      have htl : (ba t).size ≤ 281474976710656 := by
       have := splitL_size 47 s.data.toList t (by rw [HP.out]; simp)
       rw [← size_list] at this
       rw [ba_size]
       omega
      clear HM
      cases hv : mp t with
      | none =>
       have hmp := mustParse_bad (ba t) htl (by rw [ba_list]; exact hv) wo hg4
       have HX := Lib.hid (fin_none (lo := lo) (a := a) (show stepOf hi sg b sb [t] = none by simp only [stepOf, hv]))
       have HMP := Lib.hid hmp
       clear hv hmp
       go_wp2_with (go_at_call 181; go_must (refine HMP.out.mono ?_); rintro e w4 ⟨t4, x4, rfl, hb4⟩)
       go_ret2
       rw [HF.out, HX.out]
       exact ⟨⟨t4, x4, rfl⟩, below_of_le hB3 hb4⟩
      | some k =>
       have hk := mp_le hv
       have hmp := mustParse_ok (ba t) htl k (by rw [ba_list]; exact hv) wo
       have HX := Lib.hid (show stepOf hi sg b sb [t] = some (k, if sg then hi else b, if 1 < k then false else sb) by simp only [stepOf, hv])
       have HMP := Lib.hid hmp
       clear hv hmp
       by_cases hk1 : 1 < k
       ·cases sg with
        | true =>
         go_wp2_with (go_at_call 181; go_must (refine HMP.out.mono ?_); rintro e w4 ⟨rfl, hb4⟩; obtain ⟨hl1, hl2⟩ := bcell hb4)
         go_meet
         exact ⟨hi, k, false, Lib.hid (by rw [HX.out, if_pos hk1]; rfl), hk, rfl, rfl, rfl, hb4⟩
        | false =>
         go_wp2_with (go_at_call 181; go_must (refine HMP.out.mono ?_); rintro e w4 ⟨rfl, hb4⟩; obtain ⟨hl1, hl2⟩ := bcell hb4)
         go_meet
         exact ⟨b, k, false, Lib.hid (by rw [HX.out, if_pos hk1]; rfl), hk, rfl, rfl, rfl, hb4⟩
       ·cases sg with
        | true =>
         go_wp2_with (go_at_call 181; go_must (refine HMP.out.mono ?_); rintro e w4 ⟨rfl, hb4⟩; obtain ⟨hl1, hl2⟩ := bcell hb4)
         go_meet
         exact ⟨hi, k, sb, Lib.hid (by rw [HX.out, if_neg hk1]; rfl), hk, rfl, rfl, rfl, hb4⟩
        | false =>
         go_wp2_with (go_at_call 181; go_must (refine HMP.out.mono ?_); rintro e w4 ⟨rfl, hb4⟩; obtain ⟨hl1, hl2⟩ := bcell hb4)
         go_meet
         exact ⟨b, k, sb, Lib.hid (by rw [HX.out, if_neg hk1]; rfl), hk, rfl, rfl, rfl, hb4⟩
   case rest =>
    obtain ⟨b', k, sb', HX, hk, rfl, rfl, rfl, hb4⟩ := hcut
    have hB4 : Below w.heap.size w wc := below_of_le hB3 hb4
    have hd0 : wc.cell? ⟨w.heap.size, 0, none⟩ = some (.int .u64 lo) := (hb4.cell (p := ⟨w.heap.size, 0, none⟩) hz3).trans ha0
    have hd1 : wc.cell? ⟨w.heap.size, 1, none⟩ = some (.int .u64 hi) := (hb4.cell (p := ⟨w.heap.size, 1, none⟩) hz3).trans ha1
    have HY := Lib.hid (HF.out.trans (fin_some (lo := lo) (a := a) HX.out))
    clear HF HX HP HPB HM ht4 hg4 hz3 ha0 ha1 hb4 hB3
    by_cases x1 : a < lo
    ·go_wp2_with (go_at_call 96; refine (errorsNew_any _ _).mono ?_; rintro e w4 ⟨t4, x4, rfl, hb4⟩)
     go_ret2
     rw [HY.out, bitsOf, if_pos x1]
     exact ⟨⟨t4, x4, rfl⟩, below_of_le hB4 hb4⟩
    by_cases x2 : hi < b'
    ·go_wp2_with (go_at_call 96; refine (errorsNew_any _ _).mono ?_; rintro e w4 ⟨t4, x4, rfl, hb4⟩)
     go_ret2
     rw [HY.out, bitsOf, if_neg x1, if_pos x2]
     exact ⟨⟨t4, x4, rfl⟩, below_of_le hB4 hb4⟩
    by_cases x3 : b' < a
    ·go_wp2_with (go_at_call 96; refine (errorsNew_any _ _).mono ?_; rintro e w4 ⟨t4, x4, rfl, hb4⟩)
     go_ret2
     rw [HY.out, bitsOf, if_neg x1, if_neg x2, if_pos x3]
     exact ⟨⟨t4, x4, rfl⟩, below_of_le hB4 hb4⟩
    by_cases x4 : k = 0
    ·subst x4
     go_wp2_with (go_at_call 96; refine (errorsNew_any _ _).mono ?_; rintro e w4 ⟨t4, x4, rfl, hb4⟩)
     go_ret2
     rw [HY.out, bitsOf, if_neg x1, if_neg x2, if_neg x3, if_pos rfl]
     exact ⟨⟨t4, x4, rfl⟩, below_of_le hB4 hb4⟩
    ·have hk1 : 1 ≤ k := by omega
     have hk0 : ((k : Int) == 0) = false := by simp; omega
     have HZ := Lib.hid (or_star (steps_lt a b' k) sb')
     have HW := Lib.hid (show rangeS val lo hi s.data.toList = some (steps a b' k ||| (if sb' then 9223372036854775808 else 0)) by rw [HY.out, bitsOf, if_neg x1, if_neg x2, if_neg x3, if_neg x4])
     clear HY x4
     go_wp2_with (go_at_call 174; go_must (refine (getBits_any a b' k (by omega) (by omega) hk1 hk _).mono ?_); rintro e w' ⟨rfl, rfl⟩)
     go_ret2
     rw [HW.out]
     exact ⟨by show Ending.returned (.tuple #[.int .u64 (bits .or .u64 (steps a b' k : Int) (starBits sb')), .nilIface]) = _; rw [HZ.out], hB4⟩
end Go.Proofs.YtmecbmgfacpecaaGreatDoor.Cron
namespace Go.Proofs.YtmecbmgfacpecaaGreatDoor.Text
open Go Go.Lib
set_option linter.unusedVariables false
theorem splitL_skip {c : UInt8} : ∀ (u r : List UInt8), (∀ x ∈ u, x ≠ c) → splitL c (u ++ r) = consHead u (splitL c r)
 | [], r, _ => (consHead_nil (splitL_ne c r)).symm
 | x :: u, r, h => by
  rw [List.cons_append, splitL_cons_ne _ (h x (by simp)), splitL_skip u r fun y hy => h y (by simp [hy])]
  cases splitL c r with
  | nil => rfl
  | cons a t => rfl
theorem splitL_plain {c : UInt8} (u : List UInt8) (h : ∀ x ∈ u, x ≠ c) : splitL c u = [u] := by
 have := splitL_skip u [] h
 rw [List.append_nil] at this
 rw [this]
 simp [splitL, consHead]
theorem splitL_part {c : UInt8} (u r : List UInt8) (h : ∀ x ∈ u, x ≠ c) : splitL c (u ++ c :: r) = u :: splitL c r := by
 rw [splitL_skip u _ h, splitL_cons_eq]
 simp [consHead]
def partsL (c : UInt8) (l : List UInt8) : List (List UInt8) := (splitL c l).filter (· ≠ [])
theorem u8_eq {x y : UInt8} (h : x.toNat = y.toNat) : x = y := UInt8.toNat_inj.1 h
theorem dec_at (c : UInt8) (hc : c.toNat < 128) (s : ByteArray) (pos : Nat) (h : pos < s.size) :
  (s.data.toList[pos]? = some c → Utf8.decode s pos = (c.toNat, 1)) ∧
  (s.data.toList[pos]? ≠ some c → (Utf8.decode s pos).1 ≠ c.toNat ∧ ∀ x ∈ (s.data.toList.drop pos).take (Utf8.decode s pos).2, x ≠ c) := by
 rw [decode_N]
 have hl : pos < s.data.toList.length := by rw [← size_list]; exact h
 generalize s.data.toList = l at *
 have g0 : l.getD pos 0 = l[pos] := by simp [List.getD, hl]
 constructor
 ·intro e
  rw [List.getElem?_eq_getElem hl] at e
  injection e with e
  rw [g0, e, decodeN_ascii _ _ _ _ _ hc]
 ·intro e
  rw [List.getElem?_eq_getElem hl] at e
  have e' : l[pos] ≠ c := fun h => e (by rw [h])
  have en : (l.getD pos 0).toNat ≠ c.toNat := by rw [g0]; exact fun h => e' (u8_eq h)
  have hw := decodeN_conts (l.length - pos) (l.getD pos 0).toNat (l.getD (pos + 1) 0).toNat (l.getD (pos + 2) 0).toNat (l.getD (pos + 3) 0).toNat
  refine ⟨?_, ?_⟩
  ·rcases decodeN_cases (l.length - pos) (l.getD pos 0).toNat (l.getD (pos + 1) 0).toNat (l.getD (pos + 2) 0).toNat (l.getD (pos + 3) 0).toNat with ⟨_, q⟩ | ⟨_, _, _, _, q⟩ | ⟨_, _, _, _, _, q⟩ | ⟨q, _⟩ | q
   ·rw [q]; exact en
   ·rw [q]; dsimp only; omega
   ·rw [q]; dsimp only; omega
   ·generalize (decodeN (l.length - pos) (l.getD pos 0).toNat (l.getD (pos + 1) 0).toNat (l.getD (pos + 2) 0).toNat (l.getD (pos + 3) 0).toNat).1 = X at q ⊢
    omega
   ·rw [q]; dsimp only; omega
  ·obtain ⟨w2, w3, w4, w5⟩ := hw
   generalize (decodeN (l.length - pos) (l.getD pos 0).toNat (l.getD (pos + 1) 0).toNat (l.getD (pos + 2) 0).toNat (l.getD (pos + 3) 0).toNat).2 = k at w2 w3 w4 w5 ⊢
   intro x hx hxc
   rw [List.mem_take_iff_getElem] at hx
   obtain ⟨j, hj, hjx⟩ := hx
   have hj' : j < k := by omega
   have hx2 : (l.getD (pos + j) 0) = x := by
    rw [List.getElem_drop] at hjx
    rw [← hjx]
    rw [List.length_drop] at hj
    simp only [List.getD]
    rw [List.getElem?_eq_getElem (by omega)]
    rfl
   have hxn : (l.getD (pos + j) 0).toNat = c.toNat := by rw [hx2, hxc]
   match j, hj' with
   | 0, _ => exact en (by simpa using hxn)
   | 1, _ => have := w2 (by omega); omega
   | 2, _ => have := w3 (by omega); omega
   | 3, _ => have := w4 (by omega); omega
   | j + 4, _ => omega
def spanBa (s : ByteArray) (x : Nat × Nat) : ByteArray := s.extract x.1 x.2
theorem drop_at {l : List UInt8} {n : Nat} {c : UInt8} (h : l[n]? = some c) : l.drop n = c :: l.drop (n + 1) := by
 obtain ⟨h1, h2⟩ := List.getElem?_eq_some_iff.1 h
 rw [List.drop_eq_getElem_cons h1, h2]
theorem spans_is (c : UInt8) (hc : c.toNat < 128) (s : ByteArray) : ∀ (f pos : Nat) (st : Option Nat) (acc : List (Nat × Nat)), s.size ≤ f + pos →
  (∀ a, st = some a → a < pos ∧ ∀ x ∈ (s.data.toList.take pos).drop a, x ≠ c) → pos ≤ s.size →
  (closeSpans s (spansFromP (fun r => r == c.toNat) s f pos st acc)).map (spanBa s) = acc.map (spanBa s) ++ (partsL c (s.data.toList.drop (st.getD pos))).map ba
 | f, pos, st, acc, hf, hst, hp => by
  have hsz := size_list s
  by_cases hlt : pos < s.size
  rotate_left
  ·have hpe : pos = s.size := by omega
   rw [spansFromP_end _ _ _ _ _ _ hlt]
   cases st with
   | none =>
    simp only [closeSpans, Option.getD_none]
    rw [List.drop_eq_nil_of_le (by omega)]
    simp [partsL, splitL]
   | some a =>
    obtain ⟨ha, hno⟩ := hst a rfl
    simp only [closeSpans, Option.getD_some]
    have e1 : (s.data.toList.take pos).drop a = s.data.toList.drop a := by rw [List.take_of_length_le (by omega)]
    rw [e1] at hno
    rw [partsL, splitL_plain _ hno]
    have hne : s.data.toList.drop a ≠ [] := by
     intro h0
     have := congrArg List.length h0
     rw [List.length_drop] at this
     simp at this
     omega
    simp only [List.map_append, List.map_cons, List.map_nil, spanBa, extract_ba]
    rw [List.filter_cons_of_pos (by simpa using hne)]
    simp only [List.filter_nil, List.map_cons, List.map_nil]
    rw [List.take_of_length_le (by omega)]
  ·cases f with
   | zero => omega
   | succ f =>
    have hd := dec_at c hc s pos hlt
    have hw := Lib.width_pos s pos
    have hw2 : (Utf8.decode s pos).2 ≤ s.size - pos := by
     rw [decode_N]
     have hx := decodeN_conts (s.data.toList.length - pos) (s.data.toList.getD pos 0).toNat (s.data.toList.getD (pos + 1) 0).toNat (s.data.toList.getD (pos + 2) 0).toNat (s.data.toList.getD (pos + 3) 0).toNat
     obtain ⟨x1, x2, x3, x4⟩ := hx
     generalize (decodeN (s.data.toList.length - pos) (s.data.toList.getD pos 0).toNat (s.data.toList.getD (pos + 1) 0).toNat (s.data.toList.getD (pos + 2) 0).toNat (s.data.toList.getD (pos + 3) 0).toNat).2 = k at *
     by_cases h4 : 4 ≤ k
     ·have := (x3 h4).2; omega
     ·by_cases h3 : 3 ≤ k
      ·have := (x2 h3).2; omega
      ·by_cases h2 : 2 ≤ k
       ·have := (x1 h2).2; omega
       ·omega
    unfold spansFromP
    rw [if_pos hlt]
    by_cases hb : s.data.toList[pos]? = some c
    ·rw [hd.1 hb]
     simp only [beq_self_eq_true, if_true]
     have hdr := drop_at hb
     cases st with
     | none =>
      dsimp only
      rw [spans_is c hc s f (pos + 1) none acc (by omega) (by simp) (by omega)]
      simp only [Option.getD_none]
      rw [hdr, partsL, partsL, splitL_cons_eq, List.filter_cons_of_neg (by simp)]
     | some a =>
      obtain ⟨ha, hno⟩ := hst a rfl
      dsimp only
      rw [spans_is c hc s f (pos + 1) none _ (by omega) (by simp) (by omega)]
      simp only [Option.getD_none, Option.getD_some]
      have e2 : s.data.toList.drop a = (s.data.toList.take pos).drop a ++ c :: s.data.toList.drop (pos + 1) := by
       rw [← hdr, List.drop_take]
       have := (List.take_append_drop (pos - a) (s.data.toList.drop a)).symm
       rw [List.drop_drop, show a + (pos - a) = pos by omega] at this
       exact this
      have hne : (s.data.toList.take pos).drop a ≠ [] := by
       intro h0
       have := congrArg List.length h0
       rw [List.length_drop, List.length_take] at this
       simp at this
       omega
      rw [e2, partsL, partsL, splitL_part _ _ hno, List.filter_cons_of_pos (by simpa using hne)]
      simp only [List.map_append, List.map_cons, List.map_nil, spanBa, extract_ba, List.append_assoc, List.singleton_append]
    ·obtain ⟨h1, h2⟩ := hd.2 hb
     rw [if_neg (by simpa using h1)]
     generalize (Utf8.decode s pos).2 = k at *
     have hrest : ∀ a, a ≤ pos → (∀ x ∈ (s.data.toList.take pos).drop a, x ≠ c) → ∀ x ∈ (s.data.toList.take (pos + k)).drop a, x ≠ c := by
      intro a ha hno x hx
      have e3 : (s.data.toList.take (pos + k)).drop a = (s.data.toList.take pos).drop a ++ (s.data.toList.drop pos).take k := by
       rw [List.take_add, List.drop_append_of_le_length (by rw [List.length_take]; omega)]
      rw [e3, List.mem_append] at hx
      rcases hx with hx | hx
      ·exact hno x hx
      ·exact h2 x hx
     cases st with
     | none =>
      dsimp only
      rw [spans_is c hc s f (pos + k) (some pos) acc (by omega) (by
       intro a ha
       injection ha with ha
       subst ha
       refine ⟨by omega, hrest _ (Nat.le_refl _) fun x hx => ?_⟩
       rw [List.drop_eq_nil_of_le (by rw [List.length_take]; omega)] at hx
       cases hx) (by omega)]
      rfl
     | some a =>
      obtain ⟨ha, hno⟩ := hst a rfl
      dsimp only
      rw [spans_is c hc s f (pos + k) (some a) acc (by omega) (by
       intro a' ha'
       injection ha' with ha'
       subst ha'
       exact ⟨by omega, hrest _ (by omega) hno⟩) (by omega)]
      rfl
theorem goFields_parts (c : UInt8) (hc : c.toNat < 128) (s : ByteArray) : goFieldsP (fun r => r == c.toNat) s = (partsL c s.data.toList).map ba := by
 have := spans_is c hc s s.size 0 none [] (by omega) (by simp) (by omega)
 simp only [List.map_nil, List.nil_append, Option.getD_none, List.drop_zero] at this
 exact this
end Go.Proofs.YtmecbmgfacpecaaGreatDoor.Text
namespace Go.Proofs.YtmecbmgfacpecaaGreatDoor.Cron
open Go Go.RowKit Go.Proofs.YtmecbmgfacpecaaGreatDoor.Text Go.Proofs.YtmecbmgfacpecaaGreatDoor.Bits
set_option linter.unusedVariables false
def fieldGo (r : List UInt8 → Option Nat) : List (List UInt8) → Nat → Option Nat
 | [], b => some b
 | x :: xs, b => match r x with
  | none => none
  | some c => fieldGo r xs (b ||| c)
def fieldS (val : List UInt8 → Option Nat) (lo hi : Nat) (l : List UInt8) : Option Nat := fieldGo (rangeS val lo hi) (partsL 44 l) 0
theorem rangeS_lt {val : List UInt8 → Option Nat} {lo hi : Nat} (h : hi ≤ 62) {l : List UInt8} {b : Nat} (e : rangeS val lo hi l = some b) : b < 2 ^ 64 := by
 unfold rangeS at e
 split at e
 ·cases e
 ·split at e
  ·cases e
  ·unfold rangeFin at e
   split at e
   ·cases e
   ·rename_i k b' st _
    unfold bitsOf at e
    split at e
    ·cases e
    ·split at e
     ·cases e
     ·split at e
      ·cases e
      ·split at e
       ·cases e
       ·injection e with e
        rw [← e]
        exact Nat.or_lt_two_pow (steps_lt _ _ _) (by split <;> decide)
def FieldAnswers (w : World) (r : Option Nat) (e : Ending) (w' : World) : Prop :=
 (match r with
  | some b => e = .returned (.tuple #[.int .u64 b, .nilIface])
  | none => ∃ (n : Int) (t : TypeId) (x : Value), e = .returned (.tuple #[.int .u64 n, .iface t x])) ∧ Below w.heap.size w w'
theorem comma_any (x : Nat) (W : World) : Calls Tryz.prog 151 #[.int .i32 (x : Int)] W fun e w' => e = .returned (.bool (x == 44)) ∧ Below W.heap.size W w' := by
 go_enter Tryz.func151, Tryz.ntmps151
 go_wp2
 go_ret
 refine ⟨?_, Below.refl _ _⟩
 have : ((x : Int) == 44) = (x == 44) := by
  rw [Bool.eq_iff_iff]
  simp
  omega
 simp [this]
theorem comma_pays (w : World) : Go.Proofs.PredGrows Tryz.prog 151 #[] (fun r => r == 44) w := fun W x hx hb => comma_any x W
theorem fieldsFunc_any (s : ByteArray) (hs : s.size ≤ 4294967296) (w : World) :
  Calls Tryz.prog 150 #[.string s, .func (.func 151) #[] #[]] w fun e w' => ∃ g, e = .returned (.slice (some ⟨g, 0, none⟩) (partsL 44 s.data.toList).length (partsL 44 s.data.toList).length) ∧
   Texts w' g (partsL 44 s.data.toList).length (partsL 44 s.data.toList).length ((partsL 44 s.data.toList).map ba) ∧ Below w.heap.size w w' := by
 have hp := goFields_parts 44 (by decide) s
 have hc : (44 : UInt8).toNat = 44 := rfl
 rw [hc] at hp
 have hl : (Lib.goFieldsP (fun r => r == 44) s).length = (partsL 44 s.data.toList).length := by rw [hp, List.length_map]
 refine (Tryz.strings_FieldsFunc_grows 151 #[] (enters_of Tryz.func151 (by kernel_rfl) rfl) (fun r => r == 44) s w hs (comma_pays w)).mono ?_
 rintro e w' ⟨g, rfl, hg, hown, hb⟩
 rw [hl] at hown ⊢
 have hlt := (hown.lt g rfl).2
 refine ⟨g, rfl, ⟨by rw [List.length_map], Nat.le_refl _, hlt, fun i x hx => ?_⟩, hb⟩
 have hi : i < (partsL 44 s.data.toList).length := by
  have := (List.getElem?_eq_some_iff.1 hx).1
  rwa [List.length_map] at this
 rw [hown.cellAt i (by omega), hp, List.getElem?_map, hx]
 rfl
set_option maxRecDepth 100000 in
set_option maxHeartbeats 1000000 in
theorem getFieldA (m : Option Nat) (val : List UInt8 → Option Nat) (Inv : World → Prop) (hR : Reads m val Inv) (lo hi : Nat) (s : ByteArray) (hs : s.size ≤ 4294967296) (h1 : lo ≤ hi) (h2 : hi ≤ 62) (w : World) (hI : Inv w) :
  Calls Tryz.prog 105 #[.string s, .agg #[.int .u64 lo, .int .u64 hi, .map m]] w (FieldAnswers w (fieldS val lo hi s.data.toList)) := by
 unfold fieldS
 have HF := Lib.hid (fun w' => fieldsFunc_any s hs w')
 have hsz : ∀ x ∈ partsL 44 s.data.toList, (ba x).size ≤ 4294967296 := by
  intro x hx
  have := splitL_size 44 _ x (List.mem_filter.1 hx |>.1)
  rw [← size_list] at this
  rw [ba_size]
  omega
 have hlen : (partsL 44 s.data.toList).length ≤ 4294967297 := by
  have := List.length_filter_le (· ≠ []) (splitL 44 s.data.toList)
  have h2 := splitL_len 44 s.data.toList
  rw [← size_list] at h2
  unfold partsL
  omega
 have HSZ := Lib.hid hsz
 clear hsz
 generalize partsL 44 s.data.toList = ps at *
 go_enter Tryz.func105, Tryz.ntmps105
 go_wp2_with (go_at_call 150; go_must (refine (HF.out _).mono ?_); rintro e w1 ⟨g, rfl, ht, hb1⟩)
 have hbx : w1.heap[w.heap.size]? = some (.cells #[.int .u64 lo, .int .u64 hi, .map m] 185 (0, 0)) := (hb1.block w.heap.size (by simp)).trans (heap_alloc_new w _)
 have hB1 : Below w.heap.size w w1 := ((Below.refl _ _).alloc (Nat.le_refl _) _).trans (hb1.mono (by simp))
 have HT := Lib.hid ht
 have HX0 := Lib.hid (show w1.cell? ⟨w.heap.size, 0, none⟩ = some (.int .u64 lo) from cell_of_row _ _ _ _ _ _ hbx)
 have HX1 := Lib.hid (show w1.cell? ⟨w.heap.size, 1, none⟩ = some (.int .u64 hi) from cell_of_row _ _ _ _ _ _ hbx)
 have HX2 := Lib.hid (show w1.cell? ⟨w.heap.size, 2, none⟩ = some (.map m) from cell_of_row _ _ _ _ _ _ hbx)
 have hz1 : w.heap.size < w1.heap.size := by have := hb1.size; simp at this; omega
 have HB1 := Lib.hid hB1
 clear hbx hB1 hb1 ht HF
 go_loopw [6, 16] (fun v6 v16 wr => ∃ i acc : Nat, v16 = .int .i64 i ∧ v6 = .int .u64 acc ∧ i ≤ ps.length ∧ acc < 2 ^ 64 ∧ Hid (fieldGo (rangeS val lo hi) (ps.drop i) acc = fieldGo (rangeS val lo hi) ps 0) ∧ Below w1.heap.size w1 wr) (fun _ v16 _ => ps.length - (intOf v16).toNat)
 case atStart => exact ⟨0, 0, rfl, rfl, by omega, by decide, Lib.hid rfl, Below.refl _ _⟩
 case round =>
  obtain ⟨i, acc, rfl, rfl, hil, hacc, HG, hbr⟩ := hrel
  have hx0 := (hbr.cell (p := ⟨w.heap.size, 0, none⟩) hz1).trans HX0.out
  have hx1 := (hbr.cell (p := ⟨w.heap.size, 1, none⟩) hz1).trans HX1.out
  have hx2 := (hbr.cell (p := ⟨w.heap.size, 2, none⟩) hz1).trans HX2.out
  have hBr := below_of_le HB1.out hbr
  have hIr : Inv wr := hR.keeps hI hBr
  by_cases hlt : i < ps.length
  ·have hc : wr.cell? ⟨g, i, none⟩ = some (.string (ba ps[i])) := (HT.out.below hbr).at_ i _ (by simp [hlt])
   have hdr : ps.drop i = ps[i] :: ps.drop (i + 1) := List.drop_eq_getElem_cons hlt
   have HGo := HG.out
   rw [hdr] at HGo
   have hRA := rangeA m val Inv hR lo hi (ba ps[i]) (HSZ.out _ (List.getElem_mem hlt)) h1 h2 wr hIr
   rw [ba_list] at hRA
   cases hr : rangeS val lo hi ps[i] with
   | none =>
    have HN : Hid (fieldGo (rangeS val lo hi) ps 0 = none) := Lib.hid (by rw [← HGo, fieldGo, hr])
    rw [hr] at hRA
    have HRA := Lib.hid hRA
    clear hRA hr HGo hdr
    go_wp2_with (go_at_call 152; go_must (refine HRA.out.mono ?_); rintro e w2 ⟨⟨t, x, rfl⟩, hb2⟩)
    go_ret2
    refine ⟨?_, below_of_le hBr hb2⟩
    rw [HN.out]
    exact ⟨_, t, x, rfl⟩
   | some b =>
    have hb64 := rangeS_lt h2 hr
    have HN : Hid (fieldGo (rangeS val lo hi) (ps.drop (i + 1)) (acc ||| b) = fieldGo (rangeS val lo hi) ps 0) := Lib.hid (by rw [← HGo, fieldGo, hr])
    rw [hr] at hRA
    have HRA := Lib.hid hRA
    have hor : bits .or .u64 (acc : Int) (b : Int) = ((acc ||| b : Nat) : Int) := or_u64 hacc hb64
    clear hRA hr HGo hdr
    go_wp2_with (go_at_call 152; go_must (refine HRA.out.mono ?_); rintro e w2 ⟨rfl, hb2⟩)
    go_roundw
    case rel => exact ⟨i + 1, acc ||| b, by go_num, by first | rfl | (simp [hor]), by omega, Nat.or_lt_two_pow hacc hb64, HN, below_of_le hbr hb2⟩
    case measure => simp [intOf]; omega
  ·have hie : i = ps.length := by omega
   have HN : Hid (fieldGo (rangeS val lo hi) ps 0 = some acc) := Lib.hid (by rw [← HG.out, hie, List.drop_length]; rfl)
   go_wp2_with fail
   go_ret2
   refine ⟨?_, hBr⟩
   rw [HN.out]
   exact rfl
end Go.Proofs.YtmecbmgfacpecaaGreatDoor.Cron
namespace Go.Proofs.YtmecbmgfacpecaaGreatDoor.Cron
open Go Go.RowKit Go.Proofs.YtmecbmgfacpecaaGreatDoor.Bits
set_option linter.unusedVariables false
def setCells (star : Bool) (p : Nat → Bool) : Array Value := #[.bool star] ++ ((Array.range 63).map fun j => .bool (p j))
theorem setCells_size (star : Bool) (p : Nat → Bool) : (setCells star p).size = 64 := by simp [setCells]
theorem setCells_zero (star : Bool) (p : Nat → Bool) : (setCells star p)[0]? = some (.bool star) := by
 unfold setCells
 rw [Array.getElem?_append_left (by simp)]
 simp
theorem setCells_at (star : Bool) (p : Nat → Bool) (j : Nat) (h : j < 63) : (setCells star p)[j + 1]? = some (.bool (p j)) := by
 unfold setCells
 rw [Array.getElem?_append_right (by simp)]
 simp [h]
theorem setCells_out (star : Bool) (p : Nat → Bool) (j : Nat) (h : 64 ≤ j) : (setCells star p)[j]? = none := by
 rw [Array.getElem?_eq_none]
 rw [setCells_size]; exact h
theorem setCells_one (star : Bool) (p : Nat → Bool) : (setCells star p).all (·.oneCell') = true := by
 rw [Array.all_eq_true_iff_forall_mem]
 intro v hv
 unfold setCells at hv
 rw [Array.mem_append] at hv
 rcases hv with hv | hv
 ·simp at hv; subst hv; rfl
 ·rw [Array.mem_map] at hv
  obtain ⟨j, _, rfl⟩ := hv
  rfl
theorem setCells_star (star b : Bool) (p : Nat → Bool) : (setCells star p).setIfInBounds 0 (.bool b) = setCells b p := by
 apply Array.ext_getElem?
 intro i
 rw [Array.getElem?_setIfInBounds]
 cases i with
 | zero => rw [if_pos rfl, if_pos (by rw [setCells_size]; decide), setCells_zero]
 | succ i =>
  rw [if_neg (by omega)]
  by_cases h : i < 63
  ·rw [setCells_at _ _ _ h, setCells_at _ _ _ h]
  ·rw [setCells_out _ _ _ (by omega), setCells_out _ _ _ (by omega)]
theorem setCells_put (star b : Bool) (p : Nat → Bool) (j : Nat) (hj : j < 63) : (setCells star p).setIfInBounds (j + 1) (.bool b) = setCells star (fun i => if i = j then b else p i) := by
 apply Array.ext_getElem?
 intro i
 rw [Array.getElem?_setIfInBounds]
 cases i with
 | zero => rw [if_neg (by omega), setCells_zero, setCells_zero]
 | succ i =>
  by_cases h : i < 63
  ·rw [setCells_at _ _ _ h, setCells_at _ _ _ h]
   by_cases e : i = j
   ·subst e
    rw [if_pos rfl, if_pos (by rw [setCells_size]; omega), if_pos rfl]
   ·rw [if_neg (by omega), if_neg e]
  ·rw [setCells_out _ _ _ (by omega), setCells_out _ _ _ (by omega), if_neg (by omega)]
theorem setCells_ext {star : Bool} {p q : Nat → Bool} (h : ∀ j, j < 63 → p j = q j) : setCells star p = setCells star q := by
 apply Array.ext_getElem?
 intro i
 cases i with
 | zero => rw [setCells_zero, setCells_zero]
 | succ i =>
  by_cases hi : i < 63
  ·rw [setCells_at _ _ _ hi, setCells_at _ _ _ hi, h i hi]
  ·rw [setCells_out _ _ _ (by omega), setCells_out _ _ _ (by omega)]
def noSet : Nat → Bool := fun _ => false
def IsSet (w : World) (g : Nat) (star : Bool) (p : Nat → Bool) : Prop := w.heap[g]? = some (.cells (setCells star p) 56 (0, 0))
theorem IsSet.lt {w : World} {g : Nat} {star : Bool} {p : Nat → Bool} (h : IsSet w g star p) : g < w.heap.size := (Array.getElem?_eq_some_iff.1 h).1
theorem IsSet.below {w w' : World} {g : Nat} {star : Bool} {p : Nat → Bool} (h : IsSet w g star p) (hb : Below w.heap.size w w') : IsSet w' g star p :=
 (hb.block g h.lt).trans h
theorem IsSet.cell0 {w : World} {g : Nat} {star : Bool} {p : Nat → Bool} (h : IsSet w g star p) : w.cell? ⟨g, 0, none⟩ = some (.bool star) :=
 (cell_of_row w g 0 _ _ _ h).trans (setCells_zero star p)
theorem IsSet.cellAt {w : World} {g : Nat} {star : Bool} {p : Nat → Bool} (h : IsSet w g star p) (j : Nat) (hj : j < 63) : w.cell? ⟨g, j + 1, none⟩ = some (.bool (p j)) :=
 (cell_of_row w g (j + 1) _ _ _ h).trans (setCells_at star p j hj)
theorem IsSet.free {w : World} {g : Nat} {star : Bool} {p : Nat → Bool} (h : IsSet w g star p) (j : Nat) : w.frozen? ⟨g, j, none⟩ = false :=
 frozen_of_row w g j _ _ h
theorem IsSet.put {w : World} {g : Nat} {star : Bool} {p : Nat → Bool} (h : IsSet w g star p) (j : Nat) (hj : j < 63) (b : Bool) : IsSet (w.setCell ⟨g, j + 1, none⟩ (.bool b)) g star (fun i => if i = j then b else p i) := by
 unfold IsSet
 rw [heap_setCell_same w g (j + 1) _ _ _ h, setCells_put star b p j hj]
theorem IsSet.putStar {w : World} {g : Nat} {star : Bool} {p : Nat → Bool} (h : IsSet w g star p) (b : Bool) : IsSet (w.setCell ⟨g, 0, none⟩ (.bool b)) g b p := by
 unfold IsSet
 rw [heap_setCell_same w g 0 _ _ _ h, setCells_star]
theorem IsSet.other {w : World} {g : Nat} {star : Bool} {p : Nat → Bool} (h : IsSet w g star p) {a : Addr} (ha : g ≠ a.block) (v : Value) : IsSet (w.setCell a v) g star p := by
 unfold IsSet
 rw [heap_setCell_other w a g v ha]
 exact h
theorem isSet_new (w : World) (star : Bool) (p : Nat → Bool) : IsSet (w.alloc (.cells (setCells star p) 56 (0, 0))) w.heap.size star p :=
 heap_alloc_new w _
theorem setSize : (Tryz.prog.info? 56).map (·.size) = some 64 := by kernel_rfl
theorem run_alloc_set (w : World) : (Instr.alloc 56 true (.tuple #[])).run Tryz.prog w = .ok (.pointer (some ⟨w.heap.size, 0, none⟩)) (w.alloc (.cells (setCells false noSet) 56 (0, 0))) := by kernel_rfl
theorem built_set : (Tryz.prog.built 56 []) = some (setCells false noSet) := by kernel_rfl
theorem IsSet.store {w : World} {g : Nat} {star : Bool} {p : Nat → Bool} (h : IsSet w g star p) (st : Bool) (q : Nat → Bool) : IsSet (w.setRow g (setCells st q)) g st q :=
 setRow_heap w g _ _ _ _ h
theorem IsSet.row_other {w : World} {g k : Nat} {star : Bool} {p : Nat → Bool} (h : IsSet w g star p) (hk : g ≠ k) (cs : Array Value) : IsSet (w.setRow k cs) g star p :=
 (setRow_other w k g cs hk).trans h
section
variable {ops : Array Oper} {rest : List Oper} {o : Oper} {a : Act} {w : World} {Q : Exit → Act → World → Prop}
theorem wpList_build_set (hg : o.guard = none) (ho : o.op = .build 56 #[])
  (h : wpList Tryz.prog ops Q rest (a.put o.dst (.agg (setCells false noSet))) w) : wpList Tryz.prog ops Q (o :: rest) a w := by
 have e : ((#[] : Array (Nat × Operand)).map fun (i, x) => (i, a.eval x)).toList = [] := by simp
 refine wpList_build hg 56 #[] ho (by rw [e, built_set]; exact Option.isSome_some) ?_
 rw [e, built_set, Option.getD_some]
 exact h
theorem wpList_store_set (hg : o.guard = none) (x y : Operand) (ho : o.op = .store 56 x y) (g : Nat) (st : Bool) (q : Nat → Bool)
  (hx : a.eval x = .pointer (some ⟨g, 0, none⟩)) (hy : a.eval y = .agg (setCells st q)) (st0 : Bool) (q0 : Nat → Bool) (hs : IsSet w g st0 q0)
  (h : wpList Tryz.prog ops Q rest (a.put o.dst undef) (w.setRow g (setCells st q))) : wpList Tryz.prog ops Q (o :: rest) a w :=
 wpList_store_row hg 56 x y ho g _ hx hy _ _ hs (by rw [setSize, setCells_size]) (by rw [setCells_size, setCells_size]) (setCells_one st q) h
theorem wpList_load_set (hg : o.guard = none) (x : Operand) (ho : o.op = .load 56 x) (g : Nat) (st : Bool) (q : Nat → Bool)
  (hx : a.eval x = .pointer (some ⟨g, 0, none⟩)) (hs : IsSet w g st q)
  (h : wpList Tryz.prog ops Q rest (a.put o.dst (.agg (setCells st q))) w) : wpList Tryz.prog ops Q (o :: rest) a w := by
 exact wpList_load_row hg 56 x ho g hx _ _ _ _ hs Tryz.underlying56 rfl (by rw [setSize, setCells_size]) h
end
def inCells (p : Nat → Bool) : Array Value := (Array.range 63).map fun j => .bool (p j)
theorem inCells_size (p : Nat → Bool) : (inCells p).size = 63 := by simp [inCells]
theorem inCells_at (p : Nat → Bool) (j : Nat) (h : j < 63) : (inCells p)[j]? = some (.bool (p j)) := by simp [inCells, h]
theorem sizeIn : (Tryz.prog.info? 54).map (·.size) = some 63 := by kernel_rfl
theorem run_load_in (w : World) (g : Nat) (st : Bool) (q : Nat → Bool) (hs : IsSet w g st q) : (loadVar 54 ⟨g, 1, none⟩).run Tryz.prog w = .ok (.agg (inCells q)) w := by
 have hl : (loadCells ⟨g, 1, none⟩ (inCells q).toList.length).run Tryz.prog w = .ok (inCells q).toList.toArray w :=
  run_loadCells_list (P := Tryz.prog) w ⟨g, 1, none⟩ (inCells q).toList (fun j v hv => by
   have hj : j < 63 := by
    have := (List.getElem?_eq_some_iff.1 hv).1
    rw [Array.length_toList, inCells_size] at this
    exact this
   have hadd : (⟨g, 1, none⟩ : Addr).add j = ⟨g, j + 1, none⟩ := by
    unfold Addr.add
    split
    ·rename_i h; subst h; rfl
    ·simp; omega
   rw [hadd, hs.cellAt j hj]
   have := inCells_at q j hj
   rw [← Array.getElem?_toList] at this
   rw [← this, hv])
 rw [Array.length_toList, inCells_size] at hl
 cases hq : Tryz.prog.info? 54 with
 | none => have := sizeIn; simp [hq] at this
 | some i =>
  have hsz : i.size = 63 := by have := sizeIn; simpa [hq] using this
  have hagg : (isAgg 54).run Tryz.prog w = .ok true w := by
   unfold isAgg
   rw [Sem.run_bind, run_underlying Tryz.underlying54 w]
   rfl
  simp only [Array.toArray_toList] at hl
  simp [loadVar, Sem.run_bind, hagg, sizeOf, typeInfo, hq, hsz, hl]
section
variable {ops : Array Oper} {rest : List Oper} {o : Oper} {a : Act} {w : World} {Q : Exit → Act → World → Prop}
theorem wpList_load_in (hgd : o.guard = none) (x : Operand) (ho : o.op = .load 54 x) (g : Nat) (st : Bool) (q : Nat → Bool)
  (hx : a.eval x = .pointer (some ⟨g, 1, none⟩)) (hs : IsSet w g st q)
  (h : wpList Tryz.prog ops Q rest (a.put o.dst (.agg (inCells q))) w) : wpList Tryz.prog ops Q (o :: rest) a w := by
 refine wpList_plain hgd fun K hK => ?_
 unfold Oper.wp execOp
 simp only [ho, hx, Instr.loadAt, Instr.sureAddr, Sem.run_bind, Sem.run_pure, Result.andThen_ok, run_load_in w g st q hs]
 exact hK _ _ h
end
theorem run_box_set (st : Bool) (p : Nat → Bool) (w : World) : (Instr.box 56 (.agg (setCells st p))).run Tryz.prog w = .ok (.pointer (some ⟨w.heap.size, 0, none⟩)) (w.alloc (.cells (setCells st p) 56 (0, 0))) := by
 rfl
theorem isSet_lit (w : World) : IsSet (w.alloc (.cells #[.bool false, .bool false, .bool false, .bool false, .bool false, .bool false, .bool false, .bool false, .bool false, .bool false, .bool false, .bool false, .bool false, .bool false, .bool false, .bool false, .bool false, .bool false, .bool false, .bool false, .bool false, .bool false, .bool false, .bool false, .bool false, .bool false, .bool false, .bool false, .bool false, .bool false, .bool false, .bool false, .bool false, .bool false, .bool false, .bool false, .bool false, .bool false, .bool false, .bool false, .bool false, .bool false, .bool false, .bool false, .bool false, .bool false, .bool false, .bool false, .bool false, .bool false, .bool false, .bool false, .bool false, .bool false, .bool false, .bool false, .bool false, .bool false, .bool false, .bool false, .bool false, .bool false, .bool false, .bool false] 56)) w.heap.size false noSet :=
 (heap_alloc_new w _).trans (by kernel_rfl)
end Go.Proofs.YtmecbmgfacpecaaGreatDoor.Cron
namespace Go.Proofs.YtmecbmgfacpecaaGreatDoor.Cron
open Go Go.RowKit Go.Proofs.YtmecbmgfacpecaaGreatDoor.Text Go.Proofs.YtmecbmgfacpecaaGreatDoor.Bits
set_option linter.unusedVariables false
theorem reads_nil : Reads none mp G := by
 refine ⟨fun h hb => h.below hb, fun h => h, fun h => mp_le h, fun s w hs hg => ?_⟩
 cases h : mp s.data.toList with
 | none => exact (valueNil_bad s (by omega) h w hg).mono fun e w' ⟨t, x, he, hb⟩ => ⟨⟨t, x, he⟩, hb⟩
 | some n => exact (valueNil_ok s (by omega) n h w).mono fun e w' ⟨he, hb⟩ => ⟨he, hb⟩
end Go.Proofs.YtmecbmgfacpecaaGreatDoor.Cron
