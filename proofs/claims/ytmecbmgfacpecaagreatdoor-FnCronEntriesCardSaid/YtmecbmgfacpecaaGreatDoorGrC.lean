/- Lemmas and walks on the way to the law, merged by wip/tools/pack.py: Range, GetBits, GetRange, FieldsL, GetField, SpecNumber. Conditions: none. -/
import Derived.Test.YtmecbmgfacpecaaGreatDoorGrB
import Derived.Lib.SpaceUEq
set_option linter.unusedVariables false
set_option linter.unusedSimpArgs false
namespace Go.Proofs.YtmecbmgfacpecaaGreatDoor.Cron
open Go Go.Proofs.YtmecbmgfacpecaaGreatDoor.Text Go.Proofs.YtmecbmgfacpecaaGreatDoor.Bits
def endsRest (val : List UInt8 → Option Nat) : Option Nat → List (List UInt8) → Option (Nat × Nat × Bool)
 | none, _ => none
 | some a, [] => some (a, a, false)
 | some a, [e2] => match val e2 with
  | none => none
  | some b => some (a, b, false)
 | some _, _ => none
def ends (val : List UInt8 → Option Nat) (lo hi : Nat) : List (List UInt8) → Option (Nat × Nat × Bool)
 | [] => none
 | e :: r => if e = [42] ∨ e = [63] then some (lo, hi, true) else endsRest val (val e) r
def starBits (b : Bool) : Int := if b then 9223372036854775808 else 0
def StarIs (st : Bool) (q : List UInt8) : Prop := st = true ↔ q = [42] ∨ q = [63]
def stepOf (hi : Nat) (single : Bool) (b : Nat) (star : Bool) : List (List UInt8) → Option (Nat × Nat × Bool)
 | [] => some (1, b, star)
 | [t] => match mp t with
  | none => none
  | some k => some (k, if single then hi else b, if 1 < k then false else star)
 | _ => none
def bitsOf (lo hi a b k : Nat) (star : Bool) : Option Nat :=
 if a < lo then none else if hi < b then none else if b < a then none else if k = 0 then none
 else some (steps a b k ||| (if star then 9223372036854775808 else 0))
def rangeFin (lo hi : Nat) (single : Bool) (a b : Nat) (star : Bool) (ps : List (List UInt8)) : Option Nat :=
 match stepOf hi single b star ps with
 | none => none
 | some (k, b', star') => bitsOf lo hi a b' k star'
def rangeS (val : List UInt8 → Option Nat) (lo hi : Nat) (s : List UInt8) : Option Nat :=
 match splitL 47 s with
 | [] => none
 | p :: ps =>
  match ends val lo hi (splitL 45 p) with
  | none => none
  | some (a, b, star) => rangeFin lo hi ((splitL 45 p).length == 1) a b star ps
theorem rangeS_none {val : List UInt8 → Option Nat} {lo hi : Nat} {s p q : List UInt8} {ps qs : List (List UInt8)} (h1 : splitL 47 s = p :: ps) (h2 : splitL 45 p = q :: qs) (h3 : ends val lo hi (q :: qs) = none) : rangeS val lo hi s = none := by
 unfold rangeS;rw [h1];simp only;rw [h2, h3]
theorem rangeS_some {val : List UInt8 → Option Nat} {lo hi a b : Nat} {st : Bool} {s p q : List UInt8} {ps qs : List (List UInt8)} (h1 : splitL 47 s = p :: ps) (h2 : splitL 45 p = q :: qs) (h3 : ends val lo hi (q :: qs) = some (a, b, st)) : rangeS val lo hi s = rangeFin lo hi ((q :: qs).length == 1) a b st ps := by
 unfold rangeS;rw [h1];simp only;rw [h2, h3]
theorem fin_none {lo hi a b : Nat} {sg st : Bool} {ps : List (List UInt8)} (h : stepOf hi sg b st ps = none) : rangeFin lo hi sg a b st ps = none := by unfold rangeFin; rw [h]
theorem fin_some {lo hi a b k b' : Nat} {sg st st' : Bool} {ps : List (List UInt8)} (h : stepOf hi sg b st ps = some (k, b', st')) : rangeFin lo hi sg a b st ps = bitsOf lo hi a b' k st' := by unfold rangeFin; rw [h]
theorem starBits_nat (b : Bool) : starBits b = ((if b then 9223372036854775808 else 0 : Nat) : Int) := by cases b <;> rfl
theorem or_star {n : Nat} (h : n < 2 ^ 64) (b : Bool) : bits .or .u64 (n : Int) (starBits b) = ((n ||| (if b then 9223372036854775808 else 0) : Nat) : Int) := by
 rw [starBits_nat];exact or_u64 h (by cases b <;> decide)
theorem ends_star {val : List UInt8 → Option Nat} {lo hi : Nat} {q : List UInt8} (qs : List (List UInt8)) (h : q = [42] ∨ q = [63]) : ends val lo hi (q :: qs) = some (lo, hi, true) := by
 simp only [ends]; rw [if_pos h]
theorem ends_else {val : List UInt8 → Option Nat} {lo hi : Nat} {q : List UInt8} (qs : List (List UInt8)) (h : ¬ (q = [42] ∨ q = [63])) : ends val lo hi (q :: qs) = endsRest val (val q) qs := by
 simp only [ends]; rw [if_neg h]
theorem ends_true {val : List UInt8 → Option Nat} {lo hi : Nat} {q : List UInt8} (qs : List (List UInt8)) (h : StarIs true q) : ends val lo hi (q :: qs) = some (lo, hi, true) :=
 ends_star qs (h.1 rfl)
theorem ends_false {val : List UInt8 → Option Nat} {lo hi : Nat} {q : List UInt8} (qs : List (List UInt8)) (h : StarIs false q) : ends val lo hi (q :: qs) = endsRest val (val q) qs :=
 ends_else qs (fun e => by have := h.2 e; cases this)
theorem eq42 {q : List UInt8} : ((ba q).toList == [42]) = decide (q = [42]) := by rw [toList_data, ba_list]; exact Bool.eq_iff_iff.2 ⟨fun h => decide_eq_true (eq_of_beq h), fun h => beq_iff_eq.2 (of_decide_eq_true h)⟩
theorem eq63 {q : List UInt8} : ((ba q).toList == [63]) = decide (q = [63]) := by rw [toList_data, ba_list]; exact Bool.eq_iff_iff.2 ⟨fun h => decide_eq_true (eq_of_beq h), fun h => beq_iff_eq.2 (of_decide_eq_true h)⟩
theorem eq42_true {q : List UInt8} (h : q = [42]) : ((ba q).toList == [42]) = true := by rw [eq42]; exact decide_eq_true h
theorem eq42_false {q : List UInt8} (h : ¬ q = [42]) : ((ba q).toList == [42]) = false := by rw [eq42]; exact decide_eq_false h
theorem eq63_true {q : List UInt8} (h : q = [63]) : ((ba q).toList == [63]) = true := by rw [eq63]; exact decide_eq_true h
theorem eq63_false {q : List UInt8} (h : ¬ q = [63]) : ((ba q).toList == [63]) = false := by rw [eq63]; exact decide_eq_false h
end Go.Proofs.YtmecbmgfacpecaaGreatDoor.Cron
namespace Go.Proofs.YtmecbmgfacpecaaGreatDoor.Cron
open Go Go.RowKit Go.Proofs.YtmecbmgfacpecaaGreatDoor.Bits
theorem int_eq {k : IntKind} {a b : Int} (h : a = b) : Ending.returned (.int k a) = .returned (.int k b) := by rw [h]
theorem getBits_one (lo hi : Nat) (h : lo ≤ hi) (hh : hi ≤ 63) (w : World) :
  Calls Tryz.prog 174 #[.int .u64 lo, .int .u64 hi, .int .u64 1] w fun e w' => e = .returned (.int .u64 (steps lo hi 1)) ∧ w = w' := by
 have hs := Lib.hid (steps_one lo hi hh);go_enter Tryz.func174, Tryz.ntmps174;go_wp2
 go_ret;refine ⟨int_eq ?_, rfl⟩;rcases hs.out with e | e
 ·exact e
 ·omega
theorem getBits_more (lo hi st : Nat) (h : lo ≤ hi) (hh : hi ≤ 63) (h2 : 2 ≤ st) (h3 : st ≤ 9223372036854775807) (w : World) :
  Calls Tryz.prog 174 #[.int .u64 lo, .int .u64 hi, .int .u64 st] w fun e w' => e = .returned (.int .u64 (steps lo hi st)) ∧ w = w' := by
 have hne : ((st : Int) == 1) = false := by simp; omega
 go_enter Tryz.func174, Tryz.ntmps174;go_wp2
 go_loop [7, 8] (fun b i => ∃ n m : Nat, i = .int .u64 n ∧ b = .int .u64 (below lo n st) ∧ Hid (n = lo + m * st) ∧ lo ≤ n ∧ n ≤ hi + st) (fun _ i => hi + st + 1 - (intOf i).toNat)
 case atStart => exact ⟨lo, 0, rfl, by rw [below_start]; rfl, Lib.hid (by simp), by omega, by omega⟩
 case round =>
  obtain ⟨n, m, rfl, rfl, hn, hl, hu⟩ := hrel;have hb := below_lt lo n st;by_cases hle : n ≤ hi
  ·have hstep := Lib.hid (below_step m hn.out (by omega) (show n ≤ 63 by omega))
   have hor : bits .or .u64 (below lo n st : Int) (IntKind.u64.wrap (2 ^ n)) = (below lo (n + st) st : Int) := by
    rw [show IntKind.u64.wrap (2 ^ n) = ((2 ^ n : Nat) : Int) from shl_one (i := (n : Int)) (by omega) (by omega), or_u64 hb (Nat.pow_lt_pow_right (by decide) (by omega)), hstep.out]
   go_wp2
   go_round
   case rel =>
    refine ⟨n + st, m + 1, by go_num, ?_, Lib.hid ?_, by omega, by omega⟩
    ·rfl
    ·have := hn.out; rw [Nat.add_mul]; omega
   case measure => simp [intOf]; omega
  ·have hend := Lib.hid (below_end m hn.out (show hi < n by omega) hu h);go_wp2
   go_ret;exact ⟨int_eq (by rw [hend.out]), rfl⟩
theorem getBits_any (lo hi st : Nat) (h : lo ≤ hi) (hh : hi ≤ 63) (h2 : 1 ≤ st) (h3 : st ≤ 9223372036854775807) (w : World) :
  Calls Tryz.prog 174 #[.int .u64 lo, .int .u64 hi, .int .u64 st] w fun e w' => e = .returned (.int .u64 (steps lo hi st)) ∧ w = w' := by
 by_cases e : st = 1
 ·subst e; exact getBits_one lo hi h hh w
 ·exact getBits_more lo hi st h hh (by omega) h3 w
end Go.Proofs.YtmecbmgfacpecaaGreatDoor.Cron
namespace Go.Proofs.YtmecbmgfacpecaaGreatDoor.Cron
open Go Go.RowKit Go.Proofs.YtmecbmgfacpecaaGreatDoor.Text Go.Proofs.YtmecbmgfacpecaaGreatDoor.Bits
def Answers (w : World) (r : Option Nat) (e : Ending) (w' : World) : Prop :=
 (match r with
  | some b => e = .returned (.tuple #[.int .u64 b, .nilIface])
  | none => ∃ t x, e = .returned (.tuple #[.int .u64 0, .iface t x])) ∧ Below w.heap.size w w'
structure Reads (m : Option Nat) (val : List UInt8 → Option Nat) (Inv : World → Prop) : Prop where
 keeps : ∀ {w w' : World}, Inv w → Below w.heap.size w w' → Inv w'
 g : ∀ {w : World}, Inv w → G w
 le : ∀ {l n}, val l = some n → n ≤ 9223372036854775807
 calls : ∀ (s : ByteArray) (w : World), s.size ≤ 4294967296 → Inv w → Calls Tryz.prog 180 #[.string s, .map m] w (Answers w (val s.data.toList))
def Slots (r : Option Nat) (v e : Value) : Prop :=
 match r with
 | some n => v = .int .u64 n ∧ e = .nilIface
 | none => v = .int .u64 0 ∧ ∃ t x, e = .iface t x
theorem answers_cases {w : World} {r : Option Nat} {e : Ending} {w' : World} (h : Answers w r e w') : ∃ v x, e = .returned (.tuple #[v, x]) ∧ Hid (Slots r v x) ∧ Below w.heap.size w w' := by
 obtain ⟨h, hb⟩ := h;cases r with
 | none => obtain ⟨t, x, rfl⟩ := h; exact ⟨_, _, rfl, Lib.hid ⟨rfl, t, x, rfl⟩, hb⟩
 | some n => subst h; exact ⟨_, _, rfl, Lib.hid ⟨rfl, rfl⟩, hb⟩
set_option maxRecDepth 100000 in
set_option maxHeartbeats 1600000 in
theorem rangeA (m : Option Nat) (val : List UInt8 → Option Nat) (Inv : World → Prop) (hR : Reads m val Inv) (lo hi : Nat) (s : ByteArray) (hs : s.size ≤ 4294967296) (h1 : lo ≤ hi) (h2 : hi ≤ 62) (w : World) (hI : Inv w) :
  Calls Tryz.prog 152 #[.string s, .agg #[.int .u64 lo, .int .u64 hi, .map m]] w (Answers w (rangeS val lo hi s.data.toList)) := by
 obtain ⟨p, ps, hps⟩ : ∃ p ps, splitL 47 s.data.toList = p :: ps := by
  cases h : splitL 47 s.data.toList with
  | nil => exact absurd h (splitL_ne _ _)
  | cons p ps => exact ⟨p, ps, rfl⟩
 obtain ⟨q, qs, hqs⟩ : ∃ q qs, splitL 45 p = q :: qs := by
  cases h : splitL 45 p with
  | nil => exact absurd h (splitL_ne _ _)
  | cons q qs => exact ⟨q, qs, rfl⟩
 have hpl : p.length ≤ 4294967296 := by
  have := splitL_size 47 s.data.toList p (by rw [hps]; simp);rw [← size_list] at this;omega
 have hpsB : splitB 47 s = ba p :: ps.map ba := by rw [splitB, hps]; rfl
 have hqsB : splitB 45 (ba p) = ba q :: qs.map ba := by rw [splitB, ba_list, hqs]; rfl
 have HP := Lib.hid hps;have HQ := Lib.hid hqs;have HPB := Lib.hid hpsB;have HQB := Lib.hid hqsB;clear hps hqs hpsB hqsB;go_enter Tryz.func152, Tryz.ntmps152;go_wp2_with fail
 refine (zzSplit_any 47 s (by omega) _).mono ?_;rintro e w1 ⟨g1, n1, c1, rfl, hg1, ht1, hb1⟩;have hB1 : Below w.heap.size w w1 := ((Below.refl _ _).alloc (Nat.le_refl _) _).trans (hb1.mono (by simp));have hz1 : w.heap.size < w1.heap.size := by have := hb1.size; simp at this; omega
 have hx0 : w1.cell? ⟨w.heap.size, 0, none⟩ = some (.int .u64 lo) := (hb1.cell (p := ⟨w.heap.size, 0, none⟩) (by simp)).trans (by simp [World.cell?_alloc_new]);have hx1 : w1.cell? ⟨w.heap.size, 1, none⟩ = some (.int .u64 hi) := (hb1.cell (p := ⟨w.heap.size, 1, none⟩) (by simp)).trans (by simp [World.cell?_alloc_new]);have hx2 : w1.cell? ⟨w.heap.size, 2, none⟩ = some (.map m) := (hb1.cell (p := ⟨w.heap.size, 2, none⟩) (by simp)).trans (by simp [World.cell?_alloc_new]);have hc0 : w1.cell? ⟨g1, 0, none⟩ = some (.string (ba p)) := ht1.at_ 0 _ (by rw [HPB.out]; rfl);have hn1 : 0 < n1 := by rw [ht1.len, HPB.out]; simp
 clear hb1;go_wp2_with fail
 refine (zzSplit_any 45 (ba p) (by rw [ba_size]; omega) _).mono ?_;rintro e w2 ⟨g2, n2, c2, rfl, hg2, ht2, hb2⟩;have hB2 : Below w.heap.size w w2 := below_of_le hB1 hb2;have hy0 : w2.cell? ⟨w.heap.size, 0, none⟩ = some (.int .u64 lo) := (hb2.cell (p := ⟨w.heap.size, 0, none⟩) hz1).trans hx0;have hy1 : w2.cell? ⟨w.heap.size, 1, none⟩ = some (.int .u64 hi) := (hb2.cell (p := ⟨w.heap.size, 1, none⟩) hz1).trans hx1;have hy2 : w2.cell? ⟨w.heap.size, 2, none⟩ = some (.map m) := (hb2.cell (p := ⟨w.heap.size, 2, none⟩) hz1).trans hx2;have hz2 : w.heap.size < w2.heap.size := Nat.lt_of_lt_of_le hz1 hb2.size;have ht3 : Texts w2 g1 n1 c1 (splitB 47 s) := ht1.below hb2;have hd0 : w2.cell? ⟨g2, 0, none⟩ = some (.string (ba q)) := ht2.at_ 0 _ (by rw [HQB.out]; rfl);have hn2 : 0 < n2 := by rw [ht2.len, HQB.out]; simp
 have hnn : n2 = qs.length + 1 := by rw [ht2.len, HQB.out]; simp
 obtain ⟨sg, hsg⟩ : ∃ sg : Bool, ((n2 : Int) == 1) = sg := ⟨_, rfl⟩
 have HN := Lib.hid hnn;have HSG := Lib.hid (show sg = ((q :: qs).length == 1) by rw [← hsg, hnn]; cases qs <;> simp; omega);clear hb2 hx0 hx1 hx2 hc0 ht1 hB1 hz1 hg1 hg2 hnn;go_upto_region 7 with fail
 go_cut [32] (fun v32 wc => ∃ st : Bool, v32 = .bool st ∧ Hid (StarIs st q) ∧ w2 = wc)
 case first =>
  by_cases c1 : q = [42]
  ·have e1 := eq42_true c1;have HS : Hid (StarIs true q) := Lib.hid (by simp [StarIs, c1]);clear c1;go_wp2_with fail
   go_meet
   exact ⟨true, rfl, HS, rfl⟩
  ·have e1 := eq42_false c1;by_cases c2 : q = [63]
   ·have e2 := eq63_true c2;have HS : Hid (StarIs true q) := Lib.hid (by simp [StarIs, c2]);clear c1 c2;go_wp2_with fail
    go_meet
    exact ⟨true, rfl, HS, rfl⟩
   ·have e2 := eq63_false c2;have HS : Hid (StarIs false q) := Lib.hid (by simp [StarIs, c1, c2]);clear c1 c2;go_wp2_with fail
    go_meet
    exact ⟨false, rfl, HS, rfl⟩
 case rest =>
  obtain ⟨st, rfl, hst, rfl⟩ := hcut;go_upto_if 32 with fail
  go_cut [6, 7, 13] (fun v6 v7 v13 wc => ∃ (a b : Nat) (sb : Bool), Hid (ends val lo hi (q :: qs) = some (a, b, sb)) ∧ v6 = .int .u64 a ∧ v7 = .int .u64 b ∧ v13 = .int .u64 (starBits sb) ∧ Below w2.heap.size w2 wc)
  case first =>
   cases st with
   | true =>
    have HE := Lib.hid (ends_true (val := val) (lo := lo) (hi := hi) qs hst.out);clear hst;go_wp2_with fail
    go_meet
    exact ⟨lo, hi, true, HE, rfl, rfl, rfl, Below.refl _ _⟩
   | false =>
    have HE := Lib.hid (ends_false (val := val) (lo := lo) (hi := hi) qs hst.out);clear hst;have hIq := hR.keeps hI hB2;have H := fun (w' : World) (hw' : Inv w') => (hR.calls (ba q) w' (by rw [ba_size]; have := splitL_size 45 p q (by rw [HQ.out]; simp); omega) hw').mono (fun _ _ => answers_cases)
    simp only [ba_list] at H;have HH := Lib.hid H;clear H;go_upto_region 11 with fail
    go_cut [6, 12] (fun v6 v12 wc => Hid (Slots (val q) v6 v12) ∧ Below w2.heap.size w2 wc)
    case first =>
     go_region_with (go_at_call 180; go_must (refine (HH.out _ ?_).mono ?_); (first | exact hIq | exact hR.keeps hIq (Below.refl _ _).drew); rintro e w3 ⟨v3, x3, rfl, hsl, hb3⟩)
     all_goals (go_wp2_with fail; go_meet; exact ⟨hsl, by first | exact hb3 | exact (Below.refl _ _).drew.trans hb3⟩)
    case rest =>
     obtain ⟨hsl, hb3⟩ := hcut;have hB3 : Below w.heap.size w wc := below_of_le hB2 hb3;cases hv : val q with
     | none =>
      rw [hv] at hsl HE
      obtain ⟨rfl, t3, x3, rfl⟩ := hsl.out;have HE2 := Lib.hid (show ends val lo hi (q :: qs) = none from HE.out);clear HE hsl;go_wp2_with fail
      go_ret2;rw [rangeS_none HP.out HQ.out HE2.out];exact ⟨⟨t3, x3, rfl⟩, hB3⟩
     | some a =>
      rw [hv] at hsl HE
      obtain ⟨rfl, rfl⟩ := hsl.out;clear hsl hv;have hn := HN.out;have hIc := hR.keeps hIq hb3;have ht4 := ht2.below hb3;cases qs with
      | nil =>
       obtain rfl : sg = true := HSG.out;have HE2 := Lib.hid (show ends val lo hi [q] = some (a, a, false) from HE.out);clear HE hn;go_wp2_with fail
       go_meet
       exact ⟨a, a, false, HE2, rfl, rfl, rfl, hb3⟩
      | cons e2 qs =>
       obtain rfl : sg = false := by rw [HSG.out]; simp
       cases qs with
       | cons e3 qs =>
        have hq2 : ((n2 : Int) == 2) = false := by rw [hn]; simp; omega
        have HE2 := Lib.hid (show ends val lo hi (q :: e2 :: e3 :: qs) = none from HE.out);clear HE hn;go_wp2_with (go_at_call 96; refine (errorsNew_any _ _).mono ?_; rintro e w4 ⟨t4, x4, rfl, hb4⟩)
        go_ret2;rw [rangeS_none HP.out HQ.out HE2.out];exact ⟨⟨t4, x4, rfl⟩, below_of_le hB3 hb4⟩
       | nil =>
        have hq2 : ((n2 : Int) == 2) = true := by rw [hn]; rfl
        have hn1 : 1 < n2 := by rw [hn]; simp
        have hl1 : ((1 : Nat) : Int) < n2 := by omega
        have hc1 : wc.cell? ⟨g2, 1, none⟩ = some (.string (ba e2)) := ht4.at_ 1 _ (by rw [HQB.out]; rfl);have hy4 : wc.cell? ⟨w.heap.size, 2, none⟩ = some (.map m) := (hb3.cell (p := ⟨w.heap.size, 2, none⟩) hz2).trans hy2;have H2 := fun (w' : World) (hw' : Inv w') => (hR.calls (ba e2) w' (by rw [ba_size]; have := splitL_size 45 p e2 (by rw [HQ.out]; simp); omega) hw').mono (fun _ _ => answers_cases)
        simp only [ba_list] at H2;have HH2 := Lib.hid H2;clear H2 hn HH hd0 hy0 hy1 hy2;go_upto_region 19 with fail
        go_cut [7, 12] (fun v7 v12 wd => Hid (Slots (val e2) v7 v12) ∧ Below wc.heap.size wc wd)
        case first =>
         go_region_with (go_at_call 180; go_must (refine (HH2.out _ ?_).mono ?_); (first | exact hIc | exact hR.keeps hIc (Below.refl _ _).drew); rintro e w3 ⟨v3, x3, rfl, hsl, hb4⟩)
         all_goals (go_wp2_with fail; go_meet; exact ⟨hsl, by first | exact hb4 | exact (Below.refl _ _).drew.trans hb4⟩)
        case rest =>
         obtain ⟨hsl, hb4⟩ := hcut;cases hv2 : val e2 with
         | none =>
          rw [hv2] at hsl;obtain ⟨rfl, t3, x3, rfl⟩ := hsl.out;have HE2 := Lib.hid (show ends val lo hi [q, e2] = none by rw [HE.out]; simp only [endsRest, hv2]);clear HE hsl hv2;go_wp2_with fail
          go_ret2;rw [rangeS_none HP.out HQ.out HE2.out];exact ⟨⟨t3, x3, rfl⟩, below_of_le hB3 hb4⟩
         | some b =>
          rw [hv2] at hsl;obtain ⟨rfl, rfl⟩ := hsl.out;have HE2 := Lib.hid (show ends val lo hi [q, e2] = some (a, b, false) by rw [HE.out]; simp only [endsRest, hv2]);clear HE hsl hv2;go_wp2_with fail
          go_meet
          exact ⟨a, b, false, HE2, rfl, rfl, rfl, below_of_le hb3 hb4⟩
  case rest =>
   obtain ⟨a, b, sb, HE, rfl, rfl, rfl, hb3⟩ := hcut;have HF := Lib.hid (show rangeS val lo hi s.data.toList = rangeFin lo hi sg a b sb ps by rw [rangeS_some HP.out HQ.out HE.out, HSG.out]);have hB3 : Below w.heap.size w wc := below_of_le hB2 hb3;have hz3 : w.heap.size < wc.heap.size := Nat.lt_of_lt_of_le hz2 hb3.size;have ha0 : wc.cell? ⟨w.heap.size, 0, none⟩ = some (.int .u64 lo) := (hb3.cell (p := ⟨w.heap.size, 0, none⟩) hz2).trans hy0;have ha1 : wc.cell? ⟨w.heap.size, 1, none⟩ = some (.int .u64 hi) := (hb3.cell (p := ⟨w.heap.size, 1, none⟩) hz2).trans hy1;have ht4 := ht3.below hb3;have hg4 : G wc := (hR.g hI).below hB3;have hm1 : n1 = ps.length + 1 := by rw [ht3.len, HPB.out]; simp
   have HM := Lib.hid hm1;clear HE HQ HQB HN HSG ht2 ht3 hd0 hn2 hy0 hy1 hy2 hz2 hb3 hB2 hst hsg hm1;obtain ⟨wo, rfl⟩ : ∃ wo : World, wo = wc := ⟨_, rfl⟩
   go_upto_block 1 with fail
   go_cut [7, 8, 13] (fun v7 v8 v13 wd => ∃ (b' k : Nat) (sb' : Bool), Hid (stepOf hi sg b sb ps = some (k, b', sb')) ∧ k ≤ 9223372036854775807 ∧ v7 = .int .u64 b' ∧ v8 = .int .u64 k ∧ v13 = .int .u64 (starBits sb') ∧ Below wo.heap.size wo wd)
   case first =>
    cases ps with
    | nil =>
     have hq1 : ((n1 : Int) == 1) = true := by rw [HM.out]; rfl
     clear HM;go_wp2_with fail
     go_meet
     exact ⟨b, 1, sb, Lib.hid rfl, by omega, rfl, rfl, rfl, Below.refl _ _⟩
    | cons t ps =>
     have hq1 : ((n1 : Int) == 1) = false := by rw [HM.out]; simp; omega
     cases ps with
     | cons t2 ps =>
      have hq2 : ((n1 : Int) == 2) = false := by rw [HM.out]; simp; omega
      have HX := Lib.hid (fin_none (lo := lo) (a := a) (show stepOf hi sg b sb (t :: t2 :: ps) = none from rfl));clear HM;go_wp2_with (go_at_call 96; refine (errorsNew_any _ _).mono ?_; rintro e w4 ⟨t4, x4, rfl, hb4⟩)
      go_ret2;rw [HF.out, HX.out];exact ⟨⟨t4, x4, rfl⟩, below_of_le hB3 hb4⟩
     | nil =>
      have hq2 : ((n1 : Int) == 2) = true := by rw [HM.out]; rfl
      have hn1' : 1 < n1 := by rw [HM.out]; simp
      have hc1 : wo.cell? ⟨g1, 1, none⟩ = some (.string (ba t)) := ht4.at_ 1 _ (by rw [HPB.out]; rfl)
      have htl : (ba t).size ≤ 281474976710656 := by
       have := splitL_size 47 s.data.toList t (by rw [HP.out]; simp);rw [← size_list] at this;rw [ba_size];omega
      clear HM;cases hv : mp t with
      | none =>
       have hmp := mustParse_bad (ba t) htl (by rw [ba_list]; exact hv) wo hg4;have HX := Lib.hid (fin_none (lo := lo) (a := a) (show stepOf hi sg b sb [t] = none by simp only [stepOf, hv]));have HMP := Lib.hid hmp;clear hv hmp;go_wp2_with (go_at_call 181; go_must (refine HMP.out.mono ?_); rintro e w4 ⟨t4, x4, rfl, hb4⟩)
       go_ret2;rw [HF.out, HX.out];exact ⟨⟨t4, x4, rfl⟩, below_of_le hB3 hb4⟩
      | some k =>
       have hk := mp_le hv;have hmp := mustParse_ok (ba t) htl k (by rw [ba_list]; exact hv) wo;have HX := Lib.hid (show stepOf hi sg b sb [t] = some (k, if sg then hi else b, if 1 < k then false else sb) by simp only [stepOf, hv]);have HMP := Lib.hid hmp;clear hv hmp;by_cases hk1 : 1 < k
       ·cases sg with
        | true =>
         go_wp2_with (go_at_call 181; go_must (refine HMP.out.mono ?_); rintro e w4 ⟨rfl, hb4⟩; obtain ⟨hl1, hl2⟩ := bcell hb4)
         go_meet
         exact ⟨hi, k, false, Lib.hid (by rw [HX.out, if_pos hk1]; rfl), hk, rfl, rfl, rfl, hb4⟩
        | false =>
         go_wp2_with (go_at_call 181; go_must (refine HMP.out.mono ?_); rintro e w4 ⟨rfl, hb4⟩; obtain ⟨hl1, hl2⟩ := bcell hb4)
         go_meet
         exact ⟨b, k, false, Lib.hid (by rw [HX.out, if_pos hk1]; rfl), hk, rfl, rfl, rfl, hb4⟩
       ·cases sg with
        | true =>
         go_wp2_with (go_at_call 181; go_must (refine HMP.out.mono ?_); rintro e w4 ⟨rfl, hb4⟩; obtain ⟨hl1, hl2⟩ := bcell hb4)
         go_meet
         exact ⟨hi, k, sb, Lib.hid (by rw [HX.out, if_neg hk1]; rfl), hk, rfl, rfl, rfl, hb4⟩
        | false =>
         go_wp2_with (go_at_call 181; go_must (refine HMP.out.mono ?_); rintro e w4 ⟨rfl, hb4⟩; obtain ⟨hl1, hl2⟩ := bcell hb4)
         go_meet
         exact ⟨b, k, sb, Lib.hid (by rw [HX.out, if_neg hk1]; rfl), hk, rfl, rfl, rfl, hb4⟩
   case rest =>
    obtain ⟨b', k, sb', HX, hk, rfl, rfl, rfl, hb4⟩ := hcut;have hB4 : Below w.heap.size w wc := below_of_le hB3 hb4;have hd0 : wc.cell? ⟨w.heap.size, 0, none⟩ = some (.int .u64 lo) := (hb4.cell (p := ⟨w.heap.size, 0, none⟩) hz3).trans ha0;have hd1 : wc.cell? ⟨w.heap.size, 1, none⟩ = some (.int .u64 hi) := (hb4.cell (p := ⟨w.heap.size, 1, none⟩) hz3).trans ha1;have HY := Lib.hid (HF.out.trans (fin_some (lo := lo) (a := a) HX.out));clear HF HX HP HPB HM ht4 hg4 hz3 ha0 ha1 hb4 hB3;by_cases x1 : a < lo
    ·go_wp2_with (go_at_call 96; refine (errorsNew_any _ _).mono ?_; rintro e w4 ⟨t4, x4, rfl, hb4⟩)
     go_ret2;rw [HY.out, bitsOf, if_pos x1];exact ⟨⟨t4, x4, rfl⟩, below_of_le hB4 hb4⟩
    by_cases x2 : hi < b'
    ·go_wp2_with (go_at_call 96; refine (errorsNew_any _ _).mono ?_; rintro e w4 ⟨t4, x4, rfl, hb4⟩)
     go_ret2;rw [HY.out, bitsOf, if_neg x1, if_pos x2];exact ⟨⟨t4, x4, rfl⟩, below_of_le hB4 hb4⟩
    by_cases x3 : b' < a
    ·go_wp2_with (go_at_call 96; refine (errorsNew_any _ _).mono ?_; rintro e w4 ⟨t4, x4, rfl, hb4⟩)
     go_ret2;rw [HY.out, bitsOf, if_neg x1, if_neg x2, if_pos x3];exact ⟨⟨t4, x4, rfl⟩, below_of_le hB4 hb4⟩
    by_cases x4 : k = 0
    ·subst x4;go_wp2_with (go_at_call 96; refine (errorsNew_any _ _).mono ?_; rintro e w4 ⟨t4, x4, rfl, hb4⟩)
     go_ret2;rw [HY.out, bitsOf, if_neg x1, if_neg x2, if_neg x3, if_pos rfl];exact ⟨⟨t4, x4, rfl⟩, below_of_le hB4 hb4⟩
    ·have hk1 : 1 ≤ k := by omega
     have hk0 : ((k : Int) == 0) = false := by simp; omega
     have HZ := Lib.hid (or_star (steps_lt a b' k) sb');have HW := Lib.hid (show rangeS val lo hi s.data.toList = some (steps a b' k ||| (if sb' then 9223372036854775808 else 0)) by rw [HY.out, bitsOf, if_neg x1, if_neg x2, if_neg x3, if_neg x4]);clear HY x4;go_wp2_with (go_at_call 174; go_must (refine (getBits_any a b' k (by omega) (by omega) hk1 hk _).mono ?_); rintro e w' ⟨rfl, rfl⟩)
     go_ret2;rw [HW.out];exact ⟨by show Ending.returned (.tuple #[.int .u64 (bits .or .u64 (steps a b' k : Int) (starBits sb')), .nilIface]) = _; rw [HZ.out], hB4⟩
end Go.Proofs.YtmecbmgfacpecaaGreatDoor.Cron
namespace Go.Proofs.YtmecbmgfacpecaaGreatDoor.Text
open Go Go.Lib
theorem splitL_skip {c : UInt8} : ∀ (u r : List UInt8), (∀ x ∈ u, x ≠ c) → splitL c (u ++ r) = consHead u (splitL c r)
 | [], r, _ => (consHead_nil (splitL_ne c r)).symm
 | x :: u, r, h => by
  rw [List.cons_append, splitL_cons_ne _ (h x (by simp)), splitL_skip u r fun y hy => h y (by simp [hy])];cases splitL c r with
  | nil => rfl
  | cons a t => rfl
theorem splitL_plain {c : UInt8} (u : List UInt8) (h : ∀ x ∈ u, x ≠ c) : splitL c u = [u] := by
 have := splitL_skip u [] h;rw [List.append_nil] at this;rw [this];simp [splitL, consHead]
theorem splitL_part {c : UInt8} (u r : List UInt8) (h : ∀ x ∈ u, x ≠ c) : splitL c (u ++ c :: r) = u :: splitL c r := by
 rw [splitL_skip u _ h, splitL_cons_eq];simp [consHead]
def partsL (c : UInt8) (l : List UInt8) : List (List UInt8) := (splitL c l).filter (· ≠ [])
theorem u8_eq {x y : UInt8} (h : x.toNat = y.toNat) : x = y := UInt8.toNat_inj.1 h
theorem dec_at (c : UInt8) (hc : c.toNat < 128) (s : ByteArray) (pos : Nat) (h : pos < s.size) :
  (s.data.toList[pos]? = some c → Utf8.decode s pos = (c.toNat, 1)) ∧
  (s.data.toList[pos]? ≠ some c → (Utf8.decode s pos).1 ≠ c.toNat ∧ ∀ x ∈ (s.data.toList.drop pos).take (Utf8.decode s pos).2, x ≠ c) := by
 rw [decode_N];have hl : pos < s.data.toList.length := by rw [← size_list]; exact h
 generalize s.data.toList = l at *;have g0 : l.getD pos 0 = l[pos] := by simp [List.getD, hl]
 constructor
 ·intro e;rw [List.getElem?_eq_getElem hl] at e;injection e with e
  rw [g0, e, decodeN_ascii _ _ _ _ _ hc]
 ·intro e;rw [List.getElem?_eq_getElem hl] at e;have e' : l[pos] ≠ c := fun h => e (by rw [h])
  have en : (l.getD pos 0).toNat ≠ c.toNat := by rw [g0]; exact fun h => e' (u8_eq h)
  have hw := decodeN_conts (l.length - pos) (l.getD pos 0).toNat (l.getD (pos + 1) 0).toNat (l.getD (pos + 2) 0).toNat (l.getD (pos + 3) 0).toNat;refine ⟨?_, ?_⟩
  ·rcases decodeN_cases (l.length - pos) (l.getD pos 0).toNat (l.getD (pos + 1) 0).toNat (l.getD (pos + 2) 0).toNat (l.getD (pos + 3) 0).toNat with ⟨_, q⟩ | ⟨_, _, _, _, q⟩ | ⟨_, _, _, _, _, q⟩ | ⟨q, _⟩ | q
   ·rw [q]; exact en
   ·rw [q]; dsimp only; omega
   ·rw [q]; dsimp only; omega
   ·generalize (decodeN (l.length - pos) (l.getD pos 0).toNat (l.getD (pos + 1) 0).toNat (l.getD (pos + 2) 0).toNat (l.getD (pos + 3) 0).toNat).1 = X at q ⊢
    omega
   ·rw [q]; dsimp only; omega
  ·obtain ⟨w2, w3, w4, w5⟩ := hw;generalize (decodeN (l.length - pos) (l.getD pos 0).toNat (l.getD (pos + 1) 0).toNat (l.getD (pos + 2) 0).toNat (l.getD (pos + 3) 0).toNat).2 = k at w2 w3 w4 w5 ⊢
   intro x hx hxc;rw [List.mem_take_iff_getElem] at hx;obtain ⟨j, hj, hjx⟩ := hx;have hj' : j < k := by omega
   have hx2 : (l.getD (pos + j) 0) = x := by
    rw [List.getElem_drop] at hjx;rw [← hjx];rw [List.length_drop] at hj;simp only [List.getD];rw [List.getElem?_eq_getElem (by omega)];rfl
   have hxn : (l.getD (pos + j) 0).toNat = c.toNat := by rw [hx2, hxc]
   match j, hj' with
   | 0, _ => exact en (by simpa using hxn)
   | 1, _ => have := w2 (by omega); omega
   | 2, _ => have := w3 (by omega); omega
   | 3, _ => have := w4 (by omega); omega
   | j + 4, _ => omega
def spanBa (s : ByteArray) (x : Nat × Nat) : ByteArray := s.extract x.1 x.2
theorem drop_at {l : List UInt8} {n : Nat} {c : UInt8} (h : l[n]? = some c) : l.drop n = c :: l.drop (n + 1) := by
 obtain ⟨h1, h2⟩ := List.getElem?_eq_some_iff.1 h;rw [List.drop_eq_getElem_cons h1, h2]
theorem spans_is (c : UInt8) (hc : c.toNat < 128) (s : ByteArray) : ∀ (f pos : Nat) (st : Option Nat) (acc : List (Nat × Nat)), s.size ≤ f + pos →
  (∀ a, st = some a → a < pos ∧ ∀ x ∈ (s.data.toList.take pos).drop a, x ≠ c) → pos ≤ s.size →
  (closeSpans s (spansFromP (fun r => r == c.toNat) s f pos st acc)).map (spanBa s) = acc.map (spanBa s) ++ (partsL c (s.data.toList.drop (st.getD pos))).map ba
 | f, pos, st, acc, hf, hst, hp => by
  have hsz := size_list s;by_cases hlt : pos < s.size
  rotate_left
  ·have hpe : pos = s.size := by omega
   rw [spansFromP_end _ _ _ _ _ _ hlt];cases st with
   | none =>
    simp only [closeSpans, Option.getD_none];rw [List.drop_eq_nil_of_le (by omega)];simp [partsL, splitL]
   | some a =>
    obtain ⟨ha, hno⟩ := hst a rfl;simp only [closeSpans, Option.getD_some];have e1 : (s.data.toList.take pos).drop a = s.data.toList.drop a := by rw [List.take_of_length_le (by omega)]
    rw [e1] at hno;rw [partsL, splitL_plain _ hno]
    have hne : s.data.toList.drop a ≠ [] := by
     intro h0;have := congrArg List.length h0;rw [List.length_drop] at this;simp at this;omega
    simp only [List.map_append, List.map_cons, List.map_nil, spanBa, extract_ba];rw [List.filter_cons_of_pos (by simpa using hne)];simp only [List.filter_nil, List.map_cons, List.map_nil];rw [List.take_of_length_le (by omega)]
  ·cases f with
   | zero => omega
   | succ f =>
    have hd := dec_at c hc s pos hlt;have hw := Lib.width_pos s pos
    have hw2 : (Utf8.decode s pos).2 ≤ s.size - pos := by
     rw [decode_N];have hx := decodeN_conts (s.data.toList.length - pos) (s.data.toList.getD pos 0).toNat (s.data.toList.getD (pos + 1) 0).toNat (s.data.toList.getD (pos + 2) 0).toNat (s.data.toList.getD (pos + 3) 0).toNat;obtain ⟨x1, x2, x3, x4⟩ := hx;generalize (decodeN (s.data.toList.length - pos) (s.data.toList.getD pos 0).toNat (s.data.toList.getD (pos + 1) 0).toNat (s.data.toList.getD (pos + 2) 0).toNat (s.data.toList.getD (pos + 3) 0).toNat).2 = k at *;by_cases h4 : 4 ≤ k
     ·have := (x3 h4).2; omega
     ·by_cases h3 : 3 ≤ k
      ·have := (x2 h3).2; omega
      ·by_cases h2 : 2 ≤ k
       ·have := (x1 h2).2; omega
       ·omega
    unfold spansFromP;rw [if_pos hlt];by_cases hb : s.data.toList[pos]? = some c
    ·rw [hd.1 hb];simp only [beq_self_eq_true, if_true];have hdr := drop_at hb;cases st with
     | none =>
      dsimp only;rw [spans_is c hc s f (pos + 1) none acc (by omega) (by simp) (by omega)];simp only [Option.getD_none];rw [hdr, partsL, partsL, splitL_cons_eq, List.filter_cons_of_neg (by simp)]
     | some a =>
      obtain ⟨ha, hno⟩ := hst a rfl;dsimp only;rw [spans_is c hc s f (pos + 1) none _ (by omega) (by simp) (by omega)];simp only [Option.getD_none, Option.getD_some]
      have e2 : s.data.toList.drop a = (s.data.toList.take pos).drop a ++ c :: s.data.toList.drop (pos + 1) := by
       rw [← hdr, List.drop_take];have := (List.take_append_drop (pos - a) (s.data.toList.drop a)).symm;rw [List.drop_drop, show a + (pos - a) = pos by omega] at this;exact this
      have hne : (s.data.toList.take pos).drop a ≠ [] := by
       intro h0;have := congrArg List.length h0;rw [List.length_drop, List.length_take] at this;simp at this;omega
      rw [e2, partsL, partsL, splitL_part _ _ hno, List.filter_cons_of_pos (by simpa using hne)];simp only [List.map_append, List.map_cons, List.map_nil, spanBa, extract_ba, List.append_assoc, List.singleton_append]
    ·obtain ⟨h1, h2⟩ := hd.2 hb;rw [if_neg (by simpa using h1)];generalize (Utf8.decode s pos).2 = k at *
     have hrest : ∀ a, a ≤ pos → (∀ x ∈ (s.data.toList.take pos).drop a, x ≠ c) → ∀ x ∈ (s.data.toList.take (pos + k)).drop a, x ≠ c := by
      intro a ha hno x hx
      have e3 : (s.data.toList.take (pos + k)).drop a = (s.data.toList.take pos).drop a ++ (s.data.toList.drop pos).take k := by
       rw [List.take_add, List.drop_append_of_le_length (by rw [List.length_take]; omega)]
      rw [e3, List.mem_append] at hx;rcases hx with hx | hx
      ·exact hno x hx
      ·exact h2 x hx
     cases st with
     | none =>
      dsimp only
      rw [spans_is c hc s f (pos + k) (some pos) acc (by omega) (by
       intro a ha;injection ha with ha
       subst ha;refine ⟨by omega, hrest _ (Nat.le_refl _) fun x hx => ?_⟩;rw [List.drop_eq_nil_of_le (by rw [List.length_take]; omega)] at hx;cases hx) (by omega)]
      rfl
     | some a =>
      obtain ⟨ha, hno⟩ := hst a rfl;dsimp only
      rw [spans_is c hc s f (pos + k) (some a) acc (by omega) (by
       intro a' ha';injection ha' with ha'
       subst ha';exact ⟨by omega, hrest _ (by omega) hno⟩) (by omega)]
      rfl
theorem goFields_parts (c : UInt8) (hc : c.toNat < 128) (s : ByteArray) : goFieldsP (fun r => r == c.toNat) s = (partsL c s.data.toList).map ba := by
 have := spans_is c hc s s.size 0 none [] (by omega) (by simp) (by omega);simp only [List.map_nil, List.nil_append, Option.getD_none, List.drop_zero] at this;exact this
end Go.Proofs.YtmecbmgfacpecaaGreatDoor.Text
namespace Go.Proofs.YtmecbmgfacpecaaGreatDoor.Cron
open Go Go.RowKit Go.Proofs.YtmecbmgfacpecaaGreatDoor.Text Go.Proofs.YtmecbmgfacpecaaGreatDoor.Bits
def fieldGo (r : List UInt8 → Option Nat) : List (List UInt8) → Nat → Option Nat
 | [], b => some b
 | x :: xs, b => match r x with
  | none => none
  | some c => fieldGo r xs (b ||| c)
def fieldS (val : List UInt8 → Option Nat) (lo hi : Nat) (l : List UInt8) : Option Nat := fieldGo (rangeS val lo hi) (partsL 44 l) 0
theorem rangeS_lt {val : List UInt8 → Option Nat} {lo hi : Nat} (h : hi ≤ 62) {l : List UInt8} {b : Nat} (e : rangeS val lo hi l = some b) : b < 2 ^ 64 := by
 unfold rangeS at e;split at e
 ·cases e
 ·split at e
  ·cases e
  ·unfold rangeFin at e;split at e
   ·cases e
   ·rename_i k b' st _
    unfold bitsOf at e;split at e
    ·cases e
    ·split at e
     ·cases e
     ·split at e
      ·cases e
      ·split at e
       ·cases e
       ·injection e with e
        rw [← e];exact Nat.or_lt_two_pow (steps_lt _ _ _) (by split <;> decide)
def FieldAnswers (w : World) (r : Option Nat) (e : Ending) (w' : World) : Prop :=
 (match r with
  | some b => e = .returned (.tuple #[.int .u64 b, .nilIface])
  | none => ∃ (n : Int) (t : TypeId) (x : Value), e = .returned (.tuple #[.int .u64 n, .iface t x])) ∧ Below w.heap.size w w'
theorem comma_any (x : Nat) (W : World) : Calls Tryz.prog 151 #[.int .i32 (x : Int)] W fun e w' => e = .returned (.bool (x == 44)) ∧ Below W.heap.size W w' := by
 go_enter Tryz.func151, Tryz.ntmps151;go_wp2
 go_ret;refine ⟨?_, Below.refl _ _⟩
 have : ((x : Int) == 44) = (x == 44) := by
  rw [Bool.eq_iff_iff];simp;omega
 simp [this]
theorem comma_pays (w : World) : Go.Proofs.PredGrows Tryz.prog 151 #[] (fun r => r == 44) w := fun W x hx hb => comma_any x W
theorem fieldsFunc_any (s : ByteArray) (hs : s.size ≤ 4294967296) (w : World) :
  Calls Tryz.prog 150 #[.string s, .func (.func 151) #[] #[]] w fun e w' => ∃ g, e = .returned (.slice (some ⟨g, 0, none⟩) (partsL 44 s.data.toList).length (partsL 44 s.data.toList).length) ∧
   Texts w' g (partsL 44 s.data.toList).length (partsL 44 s.data.toList).length ((partsL 44 s.data.toList).map ba) ∧ Below w.heap.size w w' := by
 have hp := goFields_parts 44 (by decide) s;have hc : (44 : UInt8).toNat = 44 := rfl;rw [hc] at hp;have hl : (Lib.goFieldsP (fun r => r == 44) s).length = (partsL 44 s.data.toList).length := by rw [hp, List.length_map]
 refine (Tryz.strings_FieldsFunc_grows 151 #[] (enters_of Tryz.func151 (by kernel_rfl) rfl) (fun r => r == 44) s w hs (comma_pays w)).mono ?_;rintro e w' ⟨g, rfl, hg, hown, hb⟩;rw [hl] at hown ⊢
 have hlt := (hown.lt g rfl).2;refine ⟨g, rfl, ⟨by rw [List.length_map], Nat.le_refl _, hlt, fun i x hx => ?_⟩, hb⟩
 have hi : i < (partsL 44 s.data.toList).length := by
  have := (List.getElem?_eq_some_iff.1 hx).1;rwa [List.length_map] at this
 rw [hown.cellAt i (by omega), hp, List.getElem?_map, hx];rfl
set_option maxRecDepth 100000 in
set_option maxHeartbeats 1000000 in
theorem getFieldA (m : Option Nat) (val : List UInt8 → Option Nat) (Inv : World → Prop) (hR : Reads m val Inv) (lo hi : Nat) (s : ByteArray) (hs : s.size ≤ 4294967296) (h1 : lo ≤ hi) (h2 : hi ≤ 62) (w : World) (hI : Inv w) :
  Calls Tryz.prog 105 #[.string s, .agg #[.int .u64 lo, .int .u64 hi, .map m]] w (FieldAnswers w (fieldS val lo hi s.data.toList)) := by
 unfold fieldS;have HF := Lib.hid (fun w' => fieldsFunc_any s hs w')
 have hsz : ∀ x ∈ partsL 44 s.data.toList, (ba x).size ≤ 4294967296 := by
  intro x hx;have := splitL_size 44 _ x (List.mem_filter.1 hx |>.1);rw [← size_list] at this;rw [ba_size];omega
 have hlen : (partsL 44 s.data.toList).length ≤ 4294967297 := by
  have := List.length_filter_le (· ≠ []) (splitL 44 s.data.toList);have h2 := splitL_len 44 s.data.toList;rw [← size_list] at h2;unfold partsL;omega
 have HSZ := Lib.hid hsz;clear hsz;generalize partsL 44 s.data.toList = ps at *;go_enter Tryz.func105, Tryz.ntmps105;go_wp2_with (go_at_call 150; go_must (refine (HF.out _).mono ?_); rintro e w1 ⟨g, rfl, ht, hb1⟩)
 have hbx : w1.heap[w.heap.size]? = some (.cells #[.int .u64 lo, .int .u64 hi, .map m] 185 (0, 0)) := (hb1.block w.heap.size (by simp)).trans (heap_alloc_new w _);have hB1 : Below w.heap.size w w1 := ((Below.refl _ _).alloc (Nat.le_refl _) _).trans (hb1.mono (by simp));have HT := Lib.hid ht;have HX0 := Lib.hid (show w1.cell? ⟨w.heap.size, 0, none⟩ = some (.int .u64 lo) from cell_of_row _ _ _ _ _ _ hbx);have HX1 := Lib.hid (show w1.cell? ⟨w.heap.size, 1, none⟩ = some (.int .u64 hi) from cell_of_row _ _ _ _ _ _ hbx);have HX2 := Lib.hid (show w1.cell? ⟨w.heap.size, 2, none⟩ = some (.map m) from cell_of_row _ _ _ _ _ _ hbx);have hz1 : w.heap.size < w1.heap.size := by have := hb1.size; simp at this; omega
 have HB1 := Lib.hid hB1;clear hbx hB1 hb1 ht HF;go_loopw [6, 16] (fun v6 v16 wr => ∃ i acc : Nat, v16 = .int .i64 i ∧ v6 = .int .u64 acc ∧ i ≤ ps.length ∧ acc < 2 ^ 64 ∧ Hid (fieldGo (rangeS val lo hi) (ps.drop i) acc = fieldGo (rangeS val lo hi) ps 0) ∧ Below w1.heap.size w1 wr) (fun _ v16 _ => ps.length - (intOf v16).toNat)
 case atStart => exact ⟨0, 0, rfl, rfl, by omega, by decide, Lib.hid rfl, Below.refl _ _⟩
 case round =>
  obtain ⟨i, acc, rfl, rfl, hil, hacc, HG, hbr⟩ := hrel;have hx0 := (hbr.cell (p := ⟨w.heap.size, 0, none⟩) hz1).trans HX0.out;have hx1 := (hbr.cell (p := ⟨w.heap.size, 1, none⟩) hz1).trans HX1.out;have hx2 := (hbr.cell (p := ⟨w.heap.size, 2, none⟩) hz1).trans HX2.out;have hBr := below_of_le HB1.out hbr;have hIr : Inv wr := hR.keeps hI hBr;by_cases hlt : i < ps.length
  ·have hc : wr.cell? ⟨g, i, none⟩ = some (.string (ba ps[i])) := (HT.out.below hbr).at_ i _ (by simp [hlt]);have hdr : ps.drop i = ps[i] :: ps.drop (i + 1) := List.drop_eq_getElem_cons hlt;have HGo := HG.out;rw [hdr] at HGo;have hRA := rangeA m val Inv hR lo hi (ba ps[i]) (HSZ.out _ (List.getElem_mem hlt)) h1 h2 wr hIr;rw [ba_list] at hRA;cases hr : rangeS val lo hi ps[i] with
   | none =>
    have HN : Hid (fieldGo (rangeS val lo hi) ps 0 = none) := Lib.hid (by rw [← HGo, fieldGo, hr]);rw [hr] at hRA;have HRA := Lib.hid hRA;clear hRA hr HGo hdr;go_wp2_with (go_at_call 152; go_must (refine HRA.out.mono ?_); rintro e w2 ⟨⟨t, x, rfl⟩, hb2⟩)
    go_ret2;refine ⟨?_, below_of_le hBr hb2⟩;rw [HN.out];exact ⟨_, t, x, rfl⟩
   | some b =>
    have hb64 := rangeS_lt h2 hr;have HN : Hid (fieldGo (rangeS val lo hi) (ps.drop (i + 1)) (acc ||| b) = fieldGo (rangeS val lo hi) ps 0) := Lib.hid (by rw [← HGo, fieldGo, hr]);rw [hr] at hRA;have HRA := Lib.hid hRA;have hor : bits .or .u64 (acc : Int) (b : Int) = ((acc ||| b : Nat) : Int) := or_u64 hacc hb64;clear hRA hr HGo hdr;go_wp2_with (go_at_call 152; go_must (refine HRA.out.mono ?_); rintro e w2 ⟨rfl, hb2⟩)
    go_roundw
    case rel => exact ⟨i + 1, acc ||| b, by go_num, by first | rfl | (simp [hor]), by omega, Nat.or_lt_two_pow hacc hb64, HN, below_of_le hbr hb2⟩
    case measure => simp [intOf]; omega
  ·have hie : i = ps.length := by omega
   have HN : Hid (fieldGo (rangeS val lo hi) ps 0 = some acc) := Lib.hid (by rw [← HG.out, hie, List.drop_length]; rfl);go_wp2_with fail
   go_ret2;refine ⟨?_, hBr⟩;rw [HN.out];exact rfl
end Go.Proofs.YtmecbmgfacpecaaGreatDoor.Cron
namespace Go.Proofs.YtmecbmgfacpecaaGreatDoor.Cron
open Go Go.RowKit Go.Proofs.YtmecbmgfacpecaaGreatDoorW.PrintWords Go.Proofs.YtmecbmgfacpecaaGreatDoorW.PrintMore Go.Proofs.YtmecbmgfacpecaaGreatDoor.Pr Go.Proofs.YtmecbmgfacpecaaGreatDoor.Text
def Rel (r : Option Nat) (n : Int) : Prop := (∃ m : Nat, r = some m ∧ n = min (m : Int) 1099511627776) ∨ (r = none ∧ n = 1099511627776)
structure ValIs (r : Option Nat) (n v : Int) : Prop where
 lo : 0 ≤ n
 hi : n ≤ 1099511627776
 vs : v = 0 ∨ v = 1 ∨ v = 2
 fine : v = 1 → Rel r n
 bad : v = 0 → r = none ∧ n = 0
 zero : v = 2 → n = 0 → r = some 0
def digitsFold (n : Nat) : List UInt8 → Option Nat
 | [] => some n
 | c :: r => if 48 ≤ c.toNat ∧ c.toNat ≤ 57 then digitsFold (min (10 * n + (c.toNat - 48)) 1099511627776) r else none
theorem digitsFold_le : ∀ (l : List UInt8) (n m : Nat), n ≤ 1099511627776 → digitsFold n l = some m → m ≤ 1099511627776
 | [], n, m, h, e => by injection e with e; omega
 | c :: r, n, m, h, e => by
  unfold digitsFold at e;split at e
  ·exact digitsFold_le r _ m (by omega) e
  ·cases e
theorem digitsFold_top : ∀ (l : List UInt8) (m : Nat), digitsFold 1099511627776 l = some m → m = 1099511627776
 | [], m, e => by injection e with e; omega
 | c :: r, m, e => by
  unfold digitsFold at e;split at e
  ·rw [Nat.min_eq_right (by omega)] at e;exact digitsFold_top r m e
  ·cases e
theorem fold_none : ∀ (l : List UInt8) (acc : Nat), digitsFold (min acc 1099511627776) l = none → ∀ u, Lib.parseUint10 acc l ≠ .ok u
 | [], acc, e, u => by cases e
 | c :: r, acc, e, u => by
  unfold digitsFold at e;unfold Lib.parseUint10;by_cases h : 48 ≤ c.toNat ∧ c.toNat ≤ 57
  ·rw [if_pos h] at e ⊢
   split
   ·intro x; cases x
   ·split
    ·intro x; cases x
    ·apply fold_none r
     rw [← e];congr 1
     omega
  ·rw [if_neg h];intro x; cases x
theorem fold_some : ∀ (l : List UInt8) (acc n : Nat), digitsFold (min acc 1099511627776) l = some n → (∃ u, Lib.parseUint10 acc l = .ok u ∧ n = min u 1099511627776) ∨ (Lib.parseUint10 acc l = .range ∧ n = 1099511627776)
 | [], acc, n, e => by
  left
  injection e with e
  exact ⟨acc, rfl, e.symm⟩
 | c :: r, acc, n, e => by
  unfold digitsFold at e;unfold Lib.parseUint10;by_cases h : 48 ≤ c.toNat ∧ c.toNat ≤ 57
  ·rw [if_pos h] at e ⊢
   split
   ·right
    refine ⟨rfl, digitsFold_top r n ?_⟩;rw [← e];congr 1
    omega
   ·split
    ·right
     refine ⟨rfl, digitsFold_top r n ?_⟩;rw [← e];congr 1
     omega
    ·apply fold_some r
     rw [← e];congr 1
     omega
  ·rw [if_neg h] at e;cases e
theorem parse_zero : ∀ (l : List UInt8) (acc : Nat), Lib.parseUint10 acc l = .ok 0 → acc = 0 ∧ ∀ c ∈ l, c.toNat = 48
 | [], acc, h => by
  unfold Lib.parseUint10 at h;injection h with h
  exact ⟨h, by simp⟩
 | c :: r, acc, h => by
  unfold Lib.parseUint10 at h;split at h
  ·split at h
   ·cases h
   ·split at h
    ·cases h
    ·have := parse_zero r _ h;refine ⟨by omega, ?_⟩;intro x hx;rcases List.mem_cons.1 hx with rfl | hx
     ·omega
     ·exact this.2 x hx
  ·cases h
theorem mp_plain {c : UInt8} {r : List UInt8} (h43 : c.toNat ≠ 43) (h45 : c.toNat ≠ 45) : mp (c :: r) = match Lib.parseUint10 0 (c :: r) with | .ok u => if u < 9223372036854775808 then some u else none | _ => none := by
 have hm : Lib.parseMag (c :: r) = Lib.parseUint10 0 (c :: r) := by unfold Lib.parseMag; rw [if_neg (by simp)]
 unfold mp Lib.atoiAll;simp only [h43, h45, or_self, if_false, hm];rcases e : Lib.parseUint10 0 (c :: r) with u | _ | _
 ·simp only [not_false_eq_true, true_and, false_and, if_false];by_cases hu : 9223372036854775808 ≤ u
  ·rw [if_pos hu, if_neg (by omega)]
  ·rw [if_neg hu, if_pos (by omega)];simp
 ·rfl
 ·rfl
theorem mp_rel {c : UInt8} {r : List UInt8} {n : Nat} (h43 : c.toNat ≠ 43) (h45 : c.toNat ≠ 45) (e : digitsFold 0 (c :: r) = some n) : Rel (mp (c :: r)) n := by
 rw [mp_plain h43 h45];rcases fold_some (c :: r) 0 n (by simpa using e) with ⟨u, hu, hn⟩ | ⟨hu, hn⟩
 ·rw [hu];by_cases h : u < 9223372036854775808
  ·left
   exact ⟨u, by simp only [if_pos h], by omega⟩
  ·right
   exact ⟨by simp only [if_neg h], by omega⟩
 ·rw [hu];exact .inr ⟨rfl, by omega⟩
theorem mp_bad {c : UInt8} {r : List UInt8} (h43 : c.toNat ≠ 43) (h45 : c.toNat ≠ 45) (e : digitsFold 0 (c :: r) = none) : mp (c :: r) = none := by
 rw [mp_plain h43 h45];have := fold_none (c :: r) 0 (by simpa using e);split
 ·rename_i u hu; exact absurd hu (this u)
 ·rfl
theorem parseMag_bad {r : List UInt8} (e : r = [] ∨ digitsFold 0 r = none) : ∀ u, Lib.parseMag r ≠ .ok u := by
 intro u h;unfold Lib.parseMag at h;split at h
 ·cases h
 ·rename_i hne
  rcases e with e | e
  ·exact hne e
  ·exact fold_none r 0 (by simpa using e) u h
theorem mp_plus {r : List UInt8} (e : r = [] ∨ digitsFold 0 r = none) : mp (43 :: r) = none := by
 unfold mp;rw [Lib.atoiAll_plus];have := parseMag_bad e;rcases h : Lib.parseMag r with u | _ | _
 ·exact absurd h (this u)
 ·rfl
 ·rfl
theorem mp_minus {r : List UInt8} (e : r = [] ∨ ¬ ∀ c ∈ r, c.toNat = 48) : mp (45 :: r) = none := by
 unfold mp;rw [Lib.atoiAll_minus];rcases h : Lib.parseMag r with u | _ | _
 rotate_left
 ·rfl
 ·rfl
 ·skip;unfold Lib.signed;split
  ·rename_i v hv
   have hu : u ≠ 0 := by
    rintro rfl;unfold Lib.parseMag at h;split at h
    ·cases h
    ·rename_i hne
     rcases e with e | e
     ·exact hne e
     ·exact e (parse_zero r 0 h).2
   simp only at hv;split at hv
   ·cases hv
   ·injection hv with hv
    rw [if_neg (by omega)]
  ·rfl
theorem parse_of_zero {r : List UInt8} (hr : r ≠ []) (e : digitsFold 0 r = some 0) : Lib.parseMag r = .ok 0 := by
 unfold Lib.parseMag;rw [if_neg hr];rcases fold_some r 0 0 (by simpa using e) with ⟨u, hu, hn⟩ | ⟨_, hn⟩
 ·rw [hu, show u = 0 by omega]
 ·omega
theorem mp_plus_zero {r : List UInt8} (hr : r ≠ []) (e : digitsFold 0 r = some 0) : mp (43 :: r) = some 0 := by
 unfold mp;rw [Lib.atoiAll_plus, parse_of_zero hr e];rfl
theorem mp_minus_zero {r : List UInt8} (hr : r ≠ []) (e : digitsFold 0 r = some 0) : mp (45 :: r) = some 0 := by
 unfold mp;rw [Lib.atoiAll_minus, parse_of_zero hr e];rfl
def pairOf (r : List UInt8) (v : Int) : Int × Int := if r = [] then (0, 0) else match digitsFold 0 r with
 | some m => ((m : Int), v)
 | none => (0, 0)
theorem isDigit_f (x : Int) : spec_isDigit.f x = some (decide (48 ≤ x ∧ x ≤ 57)) := by
 unfold spec_isDigit.f;by_cases h : x ≥ 48
 ·rw [if_pos h]; simp [show 48 ≤ x from h]
 ·rw [if_neg h]; simp [show ¬ 48 ≤ x from h]
theorem number_l0 (s : ByteArray) (hs : s.size ≤ 281474976710655) (v : Int) : ∀ (d k : Nat) (n i : Nat), n ≤ 1099511627776 → i ≤ s.size → s.size - i = d → d < k →
  spec_CronNumber.l0 k s v n (s.size : Int) i = some (match digitsFold n (s.data.toList.drop i) with | some m => ((m : Int), v) | none => (0, 0)) := by
 intro d;induction d with
 | zero =>
  intro k n i hn hi hd hk;obtain ⟨k, rfl⟩ : ∃ m, k = m + 1 := ⟨k - 1, by omega⟩
  simp only [spec_CronNumber.l0];rw [if_neg (by omega), List.drop_eq_nil_of_le (by rw [← size_list]; omega)];rfl
 | succ d ih =>
  intro k n i hn hi hd hk;obtain ⟨k, rfl⟩ : ∃ m, k = m + 1 := ⟨k - 1, by omega⟩
  have hlt : i < s.data.toList.length := by rw [← size_list]; omega
  have hw : wrap64 ((i : Int) + 1) = ((i + 1 : Nat) : Int) := by rw [wrap_in (by omega) (by omega)]; omega
  simp only [spec_CronNumber.l0];rw [if_pos (by omega), if_pos (by omega), if_pos (by omega), bt_list s i hlt, isDigit_f, List.drop_eq_getElem_cons hlt];simp only [Option.bind_some];rw [digitsFold];by_cases h : 48 ≤ (s.data.toList[i]).toNat ∧ (s.data.toList[i]).toNat ≤ 57
  ·rw [if_pos h, if_pos (decide_eq_true ⟨by omega, by omega⟩), hw]
   have hv : mn (wrap64 (wrap64 (10 * (n : Int)) + (((s.data.toList[i]).toNat : Int) - 48) % 256)) 1099511627776 = ((min (10 * n + ((s.data.toList[i]).toNat - 48)) 1099511627776 : Nat) : Int) := by
    have e1 : wrap64 (10 * (n : Int)) = 10 * n := wrap_in (by omega) (by omega);have e2 : (((s.data.toList[i]).toNat : Int) - 48) % 256 = ((s.data.toList[i]).toNat : Int) - 48 := by omega
    rw [e1, e2, wrap_in (by omega) (by omega)];unfold mn;split <;> omega
   rw [hv];exact ih k _ (i + 1) (by omega) (by omega) (by omega) (by omega)
  ·rw [if_neg h, decide_eq_false (by omega), if_neg (by decide)]
theorem zeros_l0 (s : ByteArray) (hs : s.size ≤ 281474976710655) : ∀ (d k : Nat) (i : Nat), i ≤ s.size → s.size - i = d → d < k →
  spec_cronZeros.l0 k s (s.size : Int) i = some (decide (∀ c ∈ s.data.toList.drop i, c.toNat = 48)) := by
 intro d;induction d with
 | zero =>
  intro k i hi hd hk;obtain ⟨k, rfl⟩ : ∃ m, k = m + 1 := ⟨k - 1, by omega⟩
  simp only [spec_cronZeros.l0];rw [if_neg (by omega), List.drop_eq_nil_of_le (by rw [← size_list]; omega)];simp
 | succ d ih =>
  intro k i hi hd hk;obtain ⟨k, rfl⟩ : ∃ m, k = m + 1 := ⟨k - 1, by omega⟩
  have hlt : i < s.data.toList.length := by rw [← size_list]; omega
  have hw : wrap64 ((i : Int) + 1) = ((i + 1 : Nat) : Int) := by rw [wrap_in (by omega) (by omega)]; omega
  simp only [spec_cronZeros.l0];rw [if_pos (by omega), if_pos (by omega), if_pos (by omega), bt_list s i hlt, List.drop_eq_getElem_cons hlt];by_cases h : (s.data.toList[i]).toNat = 48
  ·rw [if_pos (by omega), hw, ih k (i + 1) (by omega) (by omega) (by omega)];congr 1
   simp only [List.forall_mem_cons, h, true_and]
  ·rw [if_neg (by omega)];congr 1
   simp only [List.forall_mem_cons, h, false_and, decide_false]
theorem number_j1 (s : ByteArray) (hs : s.size ≤ 281474976710655) (v : Int) (k : Nat) (hk : s.size + 2 < k) :
  spec_CronNumber.j1 k s v = some (pairOf s.data.toList v) := by
 obtain ⟨k, rfl⟩ : ∃ m, k = m + 1 := ⟨k - 1, by omega⟩
 simp only [spec_CronNumber.j1];rw [toList_data];by_cases h : s.data.toList = []
 ·rw [if_pos h, pairOf, if_pos h]
 ·rw [if_neg h, pairOf, if_neg h];have := number_l0 s hs v s.size k 0 0 (by omega) (by omega) (by omega) (by omega);rw [show ((0 : Nat) : Int) = 0 from rfl, List.drop_zero] at this;exact this
theorem number_is (s : ByteArray) (hs : s.size ≤ 4294967296) : ∃ k n v, spec_CronNumber.f k s = some (n, v) ∧ ValIs (mp s.data.toList) n v := by
 cases hl : s.data.toList with
 | nil =>
  have h0 : s.size = 0 := by rw [size_list, hl]; rfl
  refine ⟨s.size + 5, 0, 0, ?_, ⟨by omega, by omega, .inl rfl, fun h => by omega, fun _ => ⟨rfl, rfl⟩, fun h => by omega⟩⟩;unfold spec_CronNumber.f;rw [if_neg (by omega)];simp only [spec_CronNumber.j0, Bool.false_eq_true, if_false];rw [number_j1 s (by omega) 1 _ (by omega), hl]; rfl
 | cons c r =>
  have h0 : s.size = r.length + 1 := by rw [size_list, hl]; rfl
  have hb : bt s 0 = (c.toNat : Int) := by
   have := bt_list s 0 (by rw [hl]; simp);rw [show ((0 : Nat) : Int) = 0 from rfl] at this;rw [this];simp [hl]
  have he : (s.extract 1 s.size).data.toList = r := by
   rw [extract_list, size_list, List.take_length, hl]; rfl
  have hes : (s.extract 1 s.size).size = r.length := by rw [size_list, he]
  by_cases h43 : c.toNat = 43
  ·have hc : c = 43 := UInt8.toNat_inj.1 h43;subst hc
   have key : ∀ k, s.size + 5 ≤ k → spec_CronNumber.f k s = some (pairOf r 2) := by
    intro k hk;obtain ⟨k, rfl⟩ : ∃ m, k = m + 1 := ⟨k - 1, by omega⟩
    unfold spec_CronNumber.f;rw [if_pos (by omega), if_pos (by omega), hb, if_pos (by rfl)];simp only [spec_CronNumber.j0, if_true];rw [if_pos (by omega), number_j1 _ (by omega) 2 _ (by omega), he]
   by_cases hr : r = []
   ·exact ⟨s.size + 5, 0, 0, by rw [key _ (Nat.le_refl _), pairOf, if_pos hr], ⟨by omega, by omega, .inl rfl, fun h => by omega, fun _ => ⟨mp_plus (.inl hr), rfl⟩, fun h => by omega⟩⟩
   ·cases hd : digitsFold 0 r with
    | none => exact ⟨s.size + 5, 0, 0, by rw [key _ (Nat.le_refl _), pairOf, if_neg hr, hd], ⟨by omega, by omega, .inl rfl, fun h => by omega, fun _ => ⟨mp_plus (.inr hd), rfl⟩, fun h => by omega⟩⟩
    | some m =>
     have := digitsFold_le r 0 m (by omega) hd;refine ⟨s.size + 5, m, 2, by rw [key _ (Nat.le_refl _), pairOf, if_neg hr, hd], ⟨by omega, by omega, .inr (.inr rfl), fun h => by omega, fun h => by omega, fun _ h0 => ?_⟩⟩;obtain rfl : m = 0 := by omega
     exact mp_plus_zero hr hd
  ·by_cases h45 : c.toNat = 45
   ·have hc : c = 45 := UInt8.toNat_inj.1 h45;subst hc
    have hz : ∀ k, s.size + 5 ≤ k → spec_cronZeros.f k (s.extract 1 s.size) = some (decide (∀ c ∈ r, c.toNat = 48)) := by
     intro k hk;unfold spec_cronZeros.f;have := zeros_l0 (s.extract 1 s.size) (by omega) _ k 0 (by omega) rfl (by omega);rw [show ((0 : Nat) : Int) = 0 from rfl, List.drop_zero, he] at this;exact this
    by_cases hall : ∀ c ∈ r, c.toNat = 48
    ·have key : ∀ k, s.size + 5 ≤ k → spec_CronNumber.f k s = some (pairOf r 2) := by
      intro k hk;have hzk := hz k hk;obtain ⟨k, rfl⟩ : ∃ m, k = m + 1 := ⟨k - 1, by omega⟩
      unfold spec_CronNumber.f;rw [if_pos (by omega), if_pos (by omega), hb, if_neg (by omega), if_pos (by rfl), if_pos (by omega), hzk, decide_eq_true hall];simp only [Option.bind_some, spec_CronNumber.j0, if_true];rw [if_pos (by omega), number_j1 _ (by omega) 2 _ (by omega), he]
     by_cases hr : r = []
     ·exact ⟨s.size + 5, 0, 0, by rw [key _ (Nat.le_refl _), pairOf, if_pos hr], ⟨by omega, by omega, .inl rfl, fun h => by omega, fun _ => ⟨mp_minus (.inl hr), rfl⟩, fun h => by omega⟩⟩
     ·cases hd : digitsFold 0 r with
      | none =>
       exfalso
       have : ∀ l : List UInt8, (∀ c ∈ l, c.toNat = 48) → ∀ n, digitsFold n l ≠ none := by
        intro l;induction l with
        | nil => intro _ n h; cases h
        | cons x t ih =>
         intro hx n h;unfold digitsFold at h;have := hx x (by simp);rw [if_pos (by omega)] at h;exact ih (fun c hc => hx c (by simp [hc])) _ h
       exact this r hall 0 hd
      | some m =>
       have := digitsFold_le r 0 m (by omega) hd;refine ⟨s.size + 5, m, 2, by rw [key _ (Nat.le_refl _), pairOf, if_neg hr, hd], ⟨by omega, by omega, .inr (.inr rfl), fun h => by omega, fun h => by omega, fun _ h0 => ?_⟩⟩;obtain rfl : m = 0 := by omega
       exact mp_minus_zero hr hd
    ·have key : ∀ k, s.size + 5 ≤ k → spec_CronNumber.f k s = some (0, 0) := by
      intro k hk;have hzk := hz k hk;obtain ⟨k, rfl⟩ : ∃ m, k = m + 1 := ⟨k - 1, by omega⟩
      unfold spec_CronNumber.f;rw [if_pos (by omega), if_pos (by omega), hb, if_neg (by omega), if_pos (by rfl), if_pos (by omega), hzk, decide_eq_false hall];simp only [Option.bind_some, spec_CronNumber.j0, Bool.false_eq_true, if_false];rw [number_j1 s (by omega) 1 _ (by omega), hl];rfl
     exact ⟨s.size + 5, 0, 0, key _ (Nat.le_refl _), ⟨by omega, by omega, .inl rfl, fun h => by omega, fun _ => ⟨mp_minus (.inr hall), rfl⟩, fun h => by omega⟩⟩
   ·have key : ∀ k, s.size + 5 ≤ k → spec_CronNumber.f k s = some (pairOf (c :: r) 1) := by
     intro k hk;obtain ⟨k, rfl⟩ : ∃ m, k = m + 1 := ⟨k - 1, by omega⟩
     unfold spec_CronNumber.f;rw [if_pos (by omega), if_pos (by omega), hb, if_neg (by omega), if_neg (by omega)];simp only [spec_CronNumber.j0, Bool.false_eq_true, if_false];rw [number_j1 s (by omega) 1 _ (by omega), hl]
    cases hd : digitsFold 0 (c :: r) with
    | none => exact ⟨s.size + 5, 0, 0, by rw [key _ (Nat.le_refl _), pairOf, if_neg (by simp), hd], ⟨by omega, by omega, .inl rfl, fun h => by omega, fun _ => ⟨mp_bad h43 h45 hd, rfl⟩, fun h => by omega⟩⟩
    | some m =>
     have := digitsFold_le (c :: r) 0 m (by omega) hd;exact ⟨s.size + 5, m, 1, by rw [key _ (Nat.le_refl _), pairOf, if_neg (by simp), hd], ⟨by omega, by omega, .inr (.inl rfl), fun _ => mp_rel h43 h45 hd, fun h => by omega, fun h => by omega⟩⟩
theorem step_is (s : ByteArray) (hs : s.size ≤ 4294967296) : ∃ k n v, spec_CronStep.f k s = some (n, v) ∧ (v = 0 ∨ v = 1 ∨ v = 2) ∧
  (v = 1 → ∃ m : Nat, mp s.data.toList = some m ∧ n = m ∧ 1 ≤ m ∧ m < 1099511627776) ∧ (v = 0 → mp s.data.toList = none ∨ mp s.data.toList = some 0) := by
 obtain ⟨k, n, v, hk, hv⟩ := number_is s hs;by_cases h0 : v = 0
 ·subst h0;refine ⟨k + 1, 0, 0, ?_, .inl rfl, fun h => by omega, fun _ => .inl (hv.bad rfl).1⟩;unfold spec_CronStep.f;rw [spec_CronNumber.mono s k _ hk];simp [spec_CronStep.j0]
 ·by_cases hn : n = 0
  ·subst hn;refine ⟨k + 1, 0, 0, ?_, .inl rfl, fun h => by omega, fun _ => ?_⟩
   ·unfold spec_CronStep.f;rw [spec_CronNumber.mono s k _ hk];simp [spec_CronStep.j0, h0]
   ·by_cases h1 : v = 1
    ·rcases hv.fine h1 with ⟨m, hm, he⟩ | ⟨hm, he⟩
     ·right
      rw [hm];congr 1
      omega
     ·omega
    ·right
     rcases hv.vs with h | h | h
     ·exact absurd h h0
     ·exact absurd h h1
     ·exact hv.zero h rfl
  ·by_cases hh : n = 1099511627776
   ·refine ⟨k + 1, 0, 2, ?_, .inr (.inr rfl), fun h => by omega, fun h => by omega⟩;unfold spec_CronStep.f;rw [spec_CronNumber.mono s k _ hk];simp only [Option.bind_some, if_neg h0, spec_CronStep.j0];rw [if_neg (by simpa using hn), if_pos hh]
   ·refine ⟨k + 1, n, v, ?_, hv.vs, fun h1 => ?_, fun h => absurd h h0⟩
    ·unfold spec_CronStep.f;rw [spec_CronNumber.mono s k _ hk];simp only [Option.bind_some, if_neg h0, spec_CronStep.j0];rw [if_neg (by simpa using hn), if_neg hh]
    ·have := hv.lo;rcases hv.fine h1 with ⟨m, hm, he⟩ | ⟨hm, he⟩
     ·exact ⟨m, hm, by omega, by omega, by omega⟩
     ·omega
end Go.Proofs.YtmecbmgfacpecaaGreatDoor.Cron
