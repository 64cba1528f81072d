/- Lemmas and walks on the way to the law, merged by wip/tools/pack.py: Normal, Names, Values, Parse, Takes, FillS. Conditions: none. -/
import Derived.Test.YtmecbmgfacpecaaGreatDoorGrD
import Derived.OwnWalk
import Derived.Laws.MakeOwn
import Derived.Laws.AppendOwnNone
import Derived.Laws.OwnMore
import Derived.Laws.CopyOwn
import Derived.Deep.DeepCutAuto
import Derived.Deep.DeepMust
import Derived.Outline
import Derived.MapKept
import Derived.Test.YtmecbmgfacpecaaGreatDoorShelfT
import Derived.Deep.QuietTactic
import Derived.BigQuiet
import Derived.Lib.Hide
namespace Go.Proofs.YtmecbmgfacpecaaGreatDoor.Cron
open Go Go.RowKit Go.Proofs.YtmecbmgfacpecaaGreatDoor.Text Go.Proofs.YtmecbmgfacpecaaGreatDoor.Bits
set_option linter.unusedVariables false
theorem optS_lt {o : Nat} (h : o < 512) : optS o < 512 := by
 unfold optS
 split
 ·exact Nat.or_lt_two_pow (n := 9) h (by decide)
 ·exact h
theorem optD_lt {o : Nat} (h : o < 512) : optD o < 512 := by
 unfold optD
 split
 ·exact Nat.or_lt_two_pow (n := 9) h (by decide)
 ·exact h
theorem taken_step (q : Nat) (i : Nat) (h : i < 6) : takenN q (placesL.take (i + 1)) = takenN q (placesL.take i) + (if 0 < q &&& placesL[i]'(by simpa [placesL] using h) then 1 else 0) := by
 have hl : i < placesL.length := by simpa [placesL] using h
 unfold takenN;rw [List.take_add_one, List.getElem?_eq_getElem hl];simp only [Option.toList_some, List.filter_append, List.length_append]
 congr 1
 by_cases hp : 0 < q &&& placesL[i]
 ·rw [List.filter_cons_of_pos (by simpa using hp), if_pos hp]; rfl
 ·rw [List.filter_cons_of_neg (by simpa using hp), if_neg hp]; rfl
theorem taken_le (q : Nat) (ps : List Nat) : takenN q ps ≤ ps.length := List.length_filter_le _ _
set_option maxRecDepth 100000 in
theorem opt_bit_all : ∀ o : Fin 512, nOpt o.val = 1 → ¬ 0 < optAll o.val &&& 128 → 0 < optAll o.val &&& 2 := by decide +kernel
set_option maxRecDepth 100000 in
theorem opt_min_all : ∀ o : Fin 512, nOpt o.val ≤ takenN (optAll o.val) placesL := by decide +kernel
theorem opt_bit {o : Nat} (h : o < 512) : nOpt o = 1 → ¬ 0 < optAll o &&& 128 → 0 < optAll o &&& 2 := opt_bit_all ⟨o, h⟩
theorem opt_min {o : Nat} (h : o < 512) : nOpt o ≤ takenN (optAll o) placesL := opt_min_all ⟨o, h⟩
theorem places_lt (i : Nat) (h : i < placesL.length) : placesL[i] < 512 := by
 have : ∀ p ∈ placesL, p < 512 := by decide
 exact this _ (List.getElem_mem h)
theorem own_below {w w' : World} {base : Nat} {e : TypeId} {size n : Nat} {v : Value} {xs : List Value} (h : w.ownsRow base e size v n xs) (hb : Below w.heap.size w w') : w'.ownsRow base e size v n xs := by
 refine ⟨h.1, ?_⟩
 rcases h.2 with h0 | ⟨g, cap, cur, hv, hbg, hg, rest⟩
 ·exact .inl h0
 ·exact .inr ⟨g, cap, cur, hv, hbg, (hb.block g (Array.getElem?_eq_some_iff.1 hg).1).trans hg, rest⟩
theorem own_slice {w : World} {base : Nat} {e : TypeId} {v : Value} {n : Nat} {xs : List Value} (h : w.ownsRow base e 1 v n xs) : ∃ A c, v = .slice A n c := by
 rcases h.2 with ⟨rfl, h0⟩ | ⟨g, cap, cur, rfl, _⟩
 ·exact ⟨none, 0, by rw [h0]⟩
 ·exact ⟨_, cap, rfl⟩
theorem taken_take_le (q : Nat) (ps : List Nat) (i : Nat) : takenN q (ps.take i) ≤ takenN q ps :=
 List.Sublist.length_le (List.Sublist.filter _ (List.take_sublist i ps))
theorem Ints.put {w : World} {g n cap : Nat} {l : List Nat} (h : Ints w g n cap l) {k j : Nat} (hk : g ≠ k) (v : Value) : Ints (w.setCell ⟨k, j, none⟩ v) g n cap l :=
 ⟨h.len, by simpa using h.lt, fun i x hx => by
  have := h.at_ i x hx;unfold World.cell? at this ⊢
  rw [heap_setCell_other w ⟨k, j, none⟩ g v hk];exact this⟩
theorem row_put {w : World} {g i : Nat} {L : List ByteArray} {T : TypeId} (x : ByteArray) (h : w.heap[g]? = some (.cells (L.map Value.string).toArray T (0, 0))) : (w.setCell ⟨g, i, none⟩ (.string x)).heap[g]? = some (.cells ((L.set i x).map Value.string).toArray T (0, 0)) := by
 rw [heap_setCell_same w g i _ _ _ h, List.map_set, List.setIfInBounds_toArray]
def NormAnswer (base ge : Nat) (w : World) (r : Option (List ByteArray)) (e : Ending) (w' : World) : Prop :=
 (match r with
  | some l => ∃ g c, e = .returned (.tuple #[.slice (some ⟨g, 0, none⟩) 6 c, .nilIface]) ∧ w.heap.size ≤ g ∧ Texts w' g 6 c l
  | none => ∃ t x, e = .returned (.tuple #[.slice none 0 0, .iface t x])) ∧ Below base w w' ∧ w'.heap[ge]? = w.heap[ge]?
set_option maxRecDepth 100000 in
set_option maxHeartbeats 4000000 in
theorem normal_any (o : Nat) (ho : o < 512) (fs : List ByteArray) (v : Value) (w : World) (base : Nat) (hown : w.ownsRow base 9 1 v fs.length (fs.map Value.string)) (hfs : fs.length ≤ 4294967296) (hbase : base ≤ w.heap.size) (ge : Nat) (hgeB : ge < w.heap.size) (hrow : v.ownBlock ≠ some ge) :
  Calls Tryz.prog 103 #[v, .int .i64 o] w (NormAnswer base ge w (normF fs o)) := by
 have hS := optS_lt ho
 obtain ⟨A, cv, rfl⟩ : ∃ A cv, v = .slice A fs.length cv := by
  rcases hown.2 with ⟨rfl, h0⟩ | ⟨g, cap, cur, rfl, _⟩
  ·exact ⟨none, 0, by rw [h0]⟩
  ·exact ⟨_, cap, rfl⟩
 have hand1 : bits .and .i64 (o : Int) 2 = ((o &&& 2 : Nat) : Int) := and_i64 (b := 2) (by omega) (by decide);have hor1 : bits .or .i64 (o : Int) 1 = ((o ||| 1 : Nat) : Int) := or_i64 (b := 1) (by omega) (by decide);have hand2 : bits .and .i64 (optS o : Int) 128 = ((optS o &&& 128 : Nat) : Int) := and_i64 (b := 128) (by omega) (by decide);have hor2 : bits .or .i64 (optS o : Int) 64 = ((optS o ||| 64 : Nat) : Int) := or_i64 (b := 64) (by omega) (by decide)
 go_enter Tryz.func103, Tryz.ntmps103
 go_upto_if 18 with fail
 go_cut [1, 6] (fun v1 v6 wc => v1 = .int .i64 (optS o : Nat) ∧ v6 = .int .i64 ((if 0 < o &&& 2 then 1 else 0 : Nat) : Int) ∧ w = wc)
 case first =>
  by_cases h : 0 < o &&& 2
  ·have hs : optS o = o ||| 1 := by unfold optS; rw [if_pos h]
   have HS := Lib.hid hs;have hp : (0 : Int) < ((o &&& 2 : Nat) : Int) := by omega
   clear hs hS hand2 hor2
   go_wp2_with fail
   go_meet
   exact ⟨by rw [HS.out], by rw [if_pos h]; rfl, rfl⟩
  ·have hs : optS o = o := by unfold optS; rw [if_neg h]
   have HS := Lib.hid hs;have hp : ¬ (0 : Int) < ((o &&& 2 : Nat) : Int) := by omega
   clear hs hS hand2 hor2
   go_wp2_with fail
   go_meet
   exact ⟨by rw [HS.out], by rw [if_neg h]; rfl, rfl⟩
 case rest =>
  obtain ⟨rfl, rfl, rfl⟩ := hcut;clear hand1 hor1
  go_upto_if 25 with fail
  go_cut [1, 6] (fun v1 v6 wc => v1 = .int .i64 (optAll o : Nat) ∧ v6 = .int .i64 (nOpt o : Nat) ∧ w = wc)
  case first =>
   by_cases h : 0 < optS o &&& 128
   ·have hs : optAll o = optS o ||| 64 := by unfold optAll optD; rw [if_pos h]
    have hn : nOpt o = (if 0 < o &&& 2 then 1 else 0) + 1 := by unfold nOpt; rw [if_pos h]
    have HS := Lib.hid hs;have HN := Lib.hid hn;have hp : (0 : Int) < ((optS o &&& 128 : Nat) : Int) := by omega
    have hq : (if 0 < o &&& 2 then 1 else 0) ≤ 1 := by split <;> omega
    clear hs hn hS;generalize optS o = o1 at *;generalize (if 0 < o &&& 2 then 1 else 0) = n1 at *
    go_wp2_with fail
    go_meet
    exact ⟨by rw [HS.out], by rw [HN.out]; rfl, rfl⟩
   ·have hs : optAll o = optS o := by unfold optAll optD; rw [if_neg h]
    have hn : nOpt o = (if 0 < o &&& 2 then 1 else 0) := by unfold nOpt; rw [if_neg h]; rfl
    have HS := Lib.hid hs;have HN := Lib.hid hn;have hp : ¬ (0 : Int) < ((optS o &&& 128 : Nat) : Int) := by omega
    clear hs hn hS;generalize optS o = o1 at *;generalize (if 0 < o &&& 2 then 1 else 0) = n1 at *
    go_wp2_with fail
    go_meet
    exact ⟨by rw [HS.out], by rw [HN.out], rfl⟩
  case rest =>
   obtain ⟨rfl, rfl, rfl⟩ := hcut;clear hand2 hor2
   by_cases hmany : 1 < nOpt o
   ·have HX : Hid (normF fs o = none) := Lib.hid (by unfold normF; rw [if_pos hmany])
    go_wp2_with (go_at_call 96; refine (errorsNew_any _ _).mono ?_; rintro e w1 ⟨t, x, rfl, hb1⟩)
    go_ret2
    refine ⟨?_, hb1.mono hbase, hb1.block ge hgeB⟩;rw [HX.out];exact ⟨t, x, rfl⟩
   ·have hq := optD_lt hS;have HN1 : Hid (nOpt o ≤ 1) := Lib.hid (by omega)
    have HNF : Hid (normF fs o = if fs.length < takenN (optAll o) placesL - nOpt o ∨ takenN (optAll o) placesL < fs.length then none
      else some (fillL (optAll o) placesL defaultsL (if 0 < nOpt o ∧ fs.length = takenN (optAll o) placesL - nOpt o then (if 0 < optAll o &&& 128 then fs ++ [⟨#[42]⟩] else ⟨#[48]⟩ :: fs) else fs))) := Lib.hid (by unfold normF; rw [if_neg hmany])
    have HBIT : Hid (nOpt o = 1 → ¬ 0 < optAll o &&& 128 → 0 < optAll o &&& 2) := Lib.hid (opt_bit ho);have HMIN : Hid (nOpt o ≤ takenN (optAll o) placesL) := Lib.hid (opt_min ho)
    change optAll o < 512 at hq
    generalize hR : normF fs o = R at *;clear hR;generalize optAll o = q at *;generalize nOpt o = n1 at *;clear hS ho
    go_wp2_with (go_at_call 148; go_must (refine (places_any _).mono ?_); rintro e w1 ⟨g1, c1, rfl, hg1, hp1, hb1⟩)
    go_loop [7, 35] (fun v7 v35 => ∃ i : Nat, v35 = .int .i64 i ∧ i ≤ 6 ∧ v7 = .int .i64 (takenN q (placesL.take i) : Nat)) (fun _ v35 => 6 - (intOf v35).toNat)
    case atStart => exact ⟨0, rfl, by omega, rfl⟩
    case round =>
     obtain ⟨i, rfl, hi, rfl⟩ := hrel;have htl := taken_le q (placesL.take i);have htl2 : (placesL.take i).length ≤ 6 := by rw [List.length_take]; simp [placesL]; omega
     by_cases h6 : i < 6
     ·have hl : i < placesL.length := by simpa [placesL] using h6
      have hc := hp1.at_ i _ (List.getElem?_eq_getElem hl);have hst := Lib.hid (taken_step q i h6);have hpl := places_lt i hl;generalize placesL[i] = p at *;have hand : bits .and .i64 (q : Int) (p : Int) = ((q &&& p : Nat) : Int) := and_i64 (by omega) (by omega)
      by_cases hpos : 0 < q &&& p
      ·have hpi : (0 : Int) < ((q &&& p : Nat) : Int) := by omega
       have HT : Hid (takenN q (placesL.take (i + 1)) = takenN q (placesL.take i) + 1) := Lib.hid (by rw [hst.out, if_pos hpos]);clear hst;generalize takenN q (placesL.take i) = tn at *
       go_wp2_with fail
       go_round
       case rel => exact ⟨i + 1, by go_num, by omega, by rw [HT.out]; go_num⟩
       case measure => simp [intOf]; omega
      ·have hpi : ¬ (0 : Int) < ((q &&& p : Nat) : Int) := by omega
       have HT : Hid (takenN q (placesL.take (i + 1)) = takenN q (placesL.take i)) := Lib.hid (by rw [hst.out, if_neg hpos]; rfl);clear hst;generalize takenN q (placesL.take i) = tn at *
       go_wp2_with fail
       go_round
       case rel => exact ⟨i + 1, by go_num, by omega, by rw [HT.out]⟩
       case measure => simp [intOf]; omega
     ·have hi6 : i = 6 := by omega
      subst hi6;have htk : takenN q (placesL.take 6) = takenN q placesL := rfl;rw [htk];clear htk htl htl2 h6;have htm := taken_le q placesL;have hpm : placesL.length = 6 := rfl;generalize hmx : takenN q placesL = mx at *;have HMX := Lib.hid hmx;clear hmx;have hnm := HMIN.out;have hn1 := HN1.out
      by_cases hbad : fs.length < mx - n1 ∨ mx < fs.length
      ·have HX : Hid (R = none) := Lib.hid (by rw [HNF.out, if_pos hbad]);clear HNF HBIT
       go_wp2_with (go_at_call 96; refine (errorsNew_any _ _).mono ?_; rintro e w2 ⟨t, x, rfl, hb2⟩)
       all_goals
        go_ret2
        refine ⟨?_, (below_of_le hb1 hb2).mono hbase, (below_of_le hb1 hb2).block ge hgeB⟩;rw [HX.out];exact ⟨t, x, rfl⟩
      ·have HR : Hid (R = some (fillL q placesL defaultsL (if 0 < n1 ∧ fs.length = mx - n1 then (if 0 < q &&& 128 then fs ++ [⟨#[42]⟩] else ⟨#[48]⟩ :: fs) else fs))) := Lib.hid (by rw [HNF.out, if_neg hbad]);have hge : mx - n1 ≤ fs.length := by omega
       have hle : fs.length ≤ mx := by omega
       clear HNF hbad hmany
       go_upto_region 23 with fail
       obtain ⟨wo, rfl⟩ : ∃ wo : World, wo = w1 := ⟨_, rfl⟩
       go_cut [72] (fun v72 wc => ∃ b : Bool, v72 = .bool b ∧ Hid (b = decide (0 < n1 ∧ fs.length = mx - n1)) ∧ wo = wc)
       case first =>
        by_cases hopt : 0 < n1 ∧ fs.length = mx - n1
        ·have hD := Lib.hid (decide_eq_true hopt);obtain ⟨ho1, ho2⟩ := hopt;have h1 : ((mx : Int) - n1 < mx) := by omega
         have h2 : ((fs.length : Int) == (mx : Int) - n1) = true := by simp; omega
         clear ho1 ho2
         go_wp2_with fail
         go_meet
         exact ⟨_, rfl, Lib.hid hD.out.symm, rfl⟩
        ·have hD := Lib.hid (decide_eq_false hopt)
         by_cases h0 : n1 = 0
         ·have h1 : ¬ ((mx : Int) - n1 < mx) := by omega
          clear h0 hopt
          go_wp2_with fail
          go_meet
          exact ⟨_, rfl, Lib.hid hD.out.symm, rfl⟩
         ·have h1 : ((mx : Int) - n1 < mx) := by omega
          have h2 : ((fs.length : Int) == (mx : Int) - n1) = false := by simp; omega
          clear h0 hopt
          go_wp2_with fail
          go_meet
          exact ⟨_, rfl, Lib.hid hD.out.symm, rfl⟩
       case rest =>
       obtain ⟨b72, rfl, HB72, rfl⟩ := hcut
       go_upto_if 72 with fail
       obtain ⟨wo2, rfl⟩ : ∃ wo2 : World, wo2 = wo := ⟨_, rfl⟩
       go_cut [0] (fun v0 wc => ∃ A2 c2, v0 = .slice A2 (if 0 < n1 ∧ fs.length = mx - n1 then (if 0 < q &&& 128 then fs ++ [⟨#[42]⟩] else ⟨#[48]⟩ :: fs) else fs).length c2 ∧
        Hid (wc.ownsRow base 9 1 (.slice A2 (if 0 < n1 ∧ fs.length = mx - n1 then (if 0 < q &&& 128 then fs ++ [⟨#[42]⟩] else ⟨#[48]⟩ :: fs) else fs).length c2) (if 0 < n1 ∧ fs.length = mx - n1 then (if 0 < q &&& 128 then fs ++ [⟨#[42]⟩] else ⟨#[48]⟩ :: fs) else fs).length ((if 0 < n1 ∧ fs.length = mx - n1 then (if 0 < q &&& 128 then fs ++ [⟨#[42]⟩] else ⟨#[48]⟩ :: fs) else fs).map Value.string)) ∧ Below base w wc ∧ w.heap.size ≤ wc.heap.size ∧ wc.heap[ge]? = w.heap[ge]?)
       case first =>
        have hown1 := own_below hown hb1;have hB1 : Below base w wo2 := hb1.mono hbase
        cases b72 with
        | true =>
         have HO : Hid (0 < n1 ∧ fs.length = mx - n1) := Lib.hid (of_decide_eq_true HB72.out.symm);have hflen : fs.length ≤ 6 := by omega
         obtain ⟨i0, hi0, hz0, hz1, hz2⟩ := info_parts info_string
         by_cases h128 : 0 < q &&& 128
         ·have hand : bits .and .i64 (q : Int) 128 = ((q &&& 128 : Nat) : Int) := and_i64 (b := 128) (by omega) (by decide);have hpos : (0 : Int) < ((q &&& 128 : Nat) : Int) := by omega
          go_wp2_with fail
          refine (defaults_any _).mono ?_;rintro e w3 ⟨gd, cd, rfl, hgd, htd, hb3⟩;have hd5 : w3.cell? ⟨gd, 5, none⟩ = some (.string ⟨#[42]⟩) := htd.at_ 5 _ rfl;have hown3 := own_below hown1 hb3;have hbase3 : base ≤ w3.heap.size := by have := hb1.size; have := hb3.size; omega
          have hB3 : Below base w w3 := hB1.trans (hb3.mono (by have := hb1.size; omega));clear htd
          go_wp2_with (at_builtin; refine wpList_append_own _ rfl _ _ 33 rfl base 9 i0 (.string ⟨#[]⟩) 1 16 Tryz.underlying33 hi0 hz0 hz1 hz2 rfl (by decide) (.slice A fs.length cv) fs.length (fs.map Value.string) rfl (hown3.alloc _) ⟨w3.heap.size, 0, none⟩ 1 1 [_] rfl rfl (one_new w3 _ _) (by intro u hu; simp at hu; subst hu; rfl) (by unfold maxLen; omega) (by omega) (by simp; omega) ?_; intro v' w4 hown' hgrow _)
          obtain ⟨A2, c2, rfl⟩ := own_slice hown';have hg13 : ge < w3.heap.size := by have := hb1.size; have := hb3.size; omega
          have hk4 : w4.heap[ge]? = w.heap[ge]? := (hgrow.block ge (by simp; omega) (fun e => hrow e.symm)).trans (((Below.refl w3.heap.size w3).alloc (Nat.le_refl _) _ |>.block ge hg13).trans ((hb3.block ge (by have := hb1.size; omega)).trans (hb1.block ge hgeB)));have hB4 : Below base w w4 := (hB3.alloc hbase3 _).grown hgrow (by simp; omega) (fun k hk => (hown3.lt k hk).1);have hz4 : w.heap.size ≤ w4.heap.size := hB4.size;clear hown3 hgrow hB3 hb3 hd5
          go_wp2_with fail
          go_meet
          refine ⟨A2, c2, ?_, Lib.hid ?_, hB4, hz4, hk4⟩
          ·rw [if_pos HO.out, if_pos h128, List.length_append]; rfl
          ·rw [if_pos HO.out, if_pos h128, List.length_append, List.map_append]; exact hown'
         ·have hand : bits .and .i64 (q : Int) 128 = ((q &&& 128 : Nat) : Int) := and_i64 (b := 128) (by omega) (by decide);have hneg : ¬ (0 : Int) < ((q &&& 128 : Nat) : Int) := by omega
          have hand2 : bits .and .i64 (q : Int) 2 = ((q &&& 2 : Nat) : Int) := and_i64 (b := 2) (by omega) (by decide);have hbit := HBIT.out (by have := HO.out.1; omega) h128;have hpos : (0 : Int) < ((q &&& 2 : Nat) : Int) := by omega
          go_wp2_with fail
          refine (defaults_any _).mono ?_;rintro e w3 ⟨gd, cd, rfl, hgd, htd, hb3⟩;have hd0 : w3.cell? ⟨gd, 0, none⟩ = some (.string ⟨#[48]⟩) := htd.at_ 0 _ rfl;have hown3 := own_below hown1 hb3;have hbase3 : base ≤ w3.heap.size := by have := hb1.size; have := hb3.size; omega
          have hB3 : Below base w w3 := hB1.trans (hb3.mono (by have := hb1.size; omega));have hlit : (w3.alloc (.cells #[.string ⟨#[48]⟩] 9)).ownsRow base 9 1 (.slice (some ⟨w3.heap.size, 0, none⟩) 1 1) 1 [.string ⟨#[48]⟩] := World.ownsRow_lit w3 #[.string ⟨#[48]⟩] 1 hbase3 (by decide) rfl;clear htd;have hnm2 := HO.out
          have hones : ∀ u ∈ fs.map Value.string, u.oneCell' = true := by
           intro u hu;rw [List.mem_map] at hu;obtain ⟨x, _, rfl⟩ := hu;rfl
          rcases hown3.2 with ⟨he, h0⟩ | ⟨g, cap, cur, he, _⟩
          ·injection he with e1 e2 e3
           have hnil : fs = [] := List.length_eq_zero_iff.1 h0;have HNIL := Lib.hid hnil;subst e1;subst e3;rw [h0] at hown3;clear hnil hnm2 h0 e2;have HL0 : Hid (fs.length = 0) := Lib.hid (by rw [HNIL.out]; rfl);have hB4 : Below base w (w3.alloc (.cells #[.string ⟨#[48]⟩] 9)) := hB3.alloc hbase3 _;have hz4 := hB4.size;have hg13 : ge < w3.heap.size := by have := hb1.size; have := hb3.size; omega
           have hk4 : (w3.alloc (.cells #[.string ⟨#[48]⟩] 9)).heap[ge]? = w.heap[ge]? := ((Below.refl w3.heap.size w3).alloc (Nat.le_refl _) _ |>.block ge hg13).trans ((hb3.block ge (by have := hb1.size; omega)).trans (hb1.block ge hgeB))
           go_wp2_with (at_builtin; refine wpList_append_own_none rfl _ _ 33 rfl base 9 i0 1 Tryz.underlying33 hi0 (.slice (some ⟨w3.heap.size, 0, none⟩) 1 1) 1 [.string ⟨#[48]⟩] rfl hlit (congrArg (fun n => Value.slice none n 0) HL0.out) ?_)
           go_meet
           refine ⟨some ⟨w3.heap.size, 0, none⟩, 1, ?_, Lib.hid ?_, hB4, hz4, hk4⟩
           ·rw [if_pos HO.out, if_neg h128, HNIL.out]; rfl
           ·rw [if_pos HO.out, if_neg h128, HNIL.out]; exact hlit
          ·injection he with e1 e2 e3
           subst e1;subst e3;clear hnm2 e2;have hcells := (hown3.alloc (.cells #[.string ⟨#[48]⟩] 9)).cells (g := g) rfl
           go_wp2_with (at_builtin; refine wpList_append_own _ rfl _ _ 33 rfl base 9 i0 (.string ⟨#[]⟩) 1 16 Tryz.underlying33 hi0 hz0 hz1 hz2 rfl (by decide) (.slice (some ⟨w3.heap.size, 0, none⟩) 1 1) 1 [.string ⟨#[48]⟩] rfl hlit ⟨g, 0, none⟩ fs.length cv (fs.map Value.string) rfl (by simp) hcells hones (by unfold maxLen; omega) (by omega) (by simp; omega) ?_; intro v' w4 hown' hgrow _)
           obtain ⟨A2, c2, rfl⟩ := own_slice hown';have hg13 : ge < w3.heap.size := by have := hb1.size; have := hb3.size; omega
           have hk4 : w4.heap[ge]? = w.heap[ge]? := (hgrow.block ge (by simp; omega) (fun e => by simp [Value.ownBlock] at e; omega)).trans (((Below.refl w3.heap.size w3).alloc (Nat.le_refl _) _ |>.block ge hg13).trans ((hb3.block ge (by have := hb1.size; omega)).trans (hb1.block ge hgeB)));have hB4 : Below base w w4 := (hB3.alloc hbase3 _).grown hgrow (by simp; omega) (fun k hk => (hlit.lt k hk).1);have hz4 : w.heap.size ≤ w4.heap.size := hB4.size;clear hown3 hgrow hB3 hb3 hd0 hcells
           go_wp2_with fail
           go_meet
           refine ⟨A2, c2, ?_, Lib.hid ?_, hB4, hz4, hk4⟩
           ·rw [if_pos HO.out, if_neg h128, List.length_cons, Nat.add_comm]
           ·rw [if_pos HO.out, if_neg h128, List.length_cons, List.map_cons, Nat.add_comm]; exact hown'
        | false =>
         have HO : Hid (¬ (0 < n1 ∧ fs.length = mx - n1)) := Lib.hid (of_decide_eq_false HB72.out.symm)
         go_wp2_with fail
         go_meet
         refine ⟨A, cv, ?_, Lib.hid ?_, hB1, hb1.size, hb1.block ge hgeB⟩
         ·rw [if_neg HO.out]
         ·rw [if_neg HO.out]; exact hown1
       case rest =>
        obtain ⟨A2, c2, rfl, HOWN, hB2, hz2w, hk2⟩ := hcut;have HK2 := Lib.hid hk2;clear hk2;obtain ⟨i0, hi0, hz0, hz1, hz2⟩ := info_parts info_string;have hmk := fun w' : World => run_make w' 33 9 i0 (.string ⟨#[]⟩) Tryz.underlying33 hi0 hz0 .i64 .i64 6 6 (by omega) (by omega) (by rw [hz2]; omega) (by omega)
        rw [hz1] at hmk;generalize hf2 : (if 0 < n1 ∧ fs.length = mx - n1 then (if 0 < q &&& 128 then fs ++ [⟨#[42]⟩] else ⟨#[48]⟩ :: fs) else fs) = f2 at *
        have HLEN : Hid (f2.length = mx) := Lib.hid (by
         rw [← hf2]
         split
         ·rename_i hc
          obtain ⟨hc1, hc2⟩ := hc
          split
          ·rw [List.length_append, List.length_singleton]; omega
          ·rw [List.length_cons]; omega
         ·rename_i hc
          omega)
        have HF2 : Hid (∀ (i : Nat) x, f2[i]? = some x → ∃ g2, A2 = some ⟨g2, 0, none⟩ ∧ g2 < wc.heap.size ∧ wc.cell? ⟨g2, i, none⟩ = some (.string x)) := Lib.hid (by
         rcases HOWN.out.2 with ⟨he, h0⟩ | ⟨g, cap, cur, he, hbg, hgc, _⟩
         ·intro i x hx;rw [List.length_eq_zero_iff.1 h0] at hx
          cases hx
         ·intro i x hx
          injection he with e1 e2 e3
          refine ⟨g, e1, (Array.getElem?_eq_some_iff.1 hgc).1, ?_⟩;have := HOWN.out.cells (g := g) (by rw [e1]; rfl) i _ (by rw [List.getElem?_map, hx]; rfl);have hadd : ((⟨g, 0, none⟩ : Addr).add i) = ⟨g, i, none⟩ := by unfold Addr.add; split <;> simp_all
          rw [hadd] at this;exact this)
        clear hf2 HMIN HBIT HB72 hge hle hnm hn1 HN1;have hbase2 : base ≤ wc.heap.size := by omega
        go_wp2_with fail
        refine (places_any _).mono ?_;rintro e w3 ⟨g3, c3, rfl, hg3, hp3, hb3⟩
        go_wp2_with fail
        refine (defaults_any _).mono ?_;rintro e w5 ⟨gd, cd, rfl, hgd, htd, hb5⟩;have hrow : w5.heap[w3.heap.size]? = some (.cells (madeCells #[.string ⟨#[]⟩] 6) 9 (0, 0)) := (hb5.block w3.heap.size (by simp)).trans (heap_alloc_new w3 _)
        have hsrc : ∀ j v, (defaultsL.map Value.string)[j]? = some v → w5.cell? ((⟨gd, 0, none⟩ : Addr).add j) = some v := by
         intro j v hv;rw [List.getElem?_map] at hv;obtain ⟨x, hx, rfl⟩ := Option.map_eq_some_iff.1 hv;have := htd.at_ j x hx;have hadd : ((⟨gd, 0, none⟩ : Addr).add j) = ⟨gd, j, none⟩ := by unfold Addr.add; split <;> simp_all
         rw [hadd];exact this
        have hones : ∀ u ∈ defaultsL.map Value.string, u.oneCell' = true := by
         intro u hu;rw [List.mem_map] at hu;obtain ⟨x, _, rfl⟩ := hu;rfl
        have hge3 : base ≤ w3.heap.size := by have := hb3.size; omega
        have hB3 : Below base w w3 := hB2.trans (hb3.mono hbase2);have hB5 : Below base w w5 := (hB3.alloc hge3 _).trans (hb5.mono (by simp; omega));have HROW := Lib.hid hrow;have HSRC := Lib.hid hsrc;have hsz9 : (Tryz.prog.info? 9).map (·.size) = some 1 := by rw [hi0]; simp [hz1]
        have HOWN5 : Hid (w5.ownsRow base 9 1 (.slice A2 f2.length c2) f2.length (f2.map Value.string)) := Lib.hid (own_below ((own_below HOWN.out hb3).alloc _) hb5);have HB5 := Lib.hid hB5;have hle3 : wc.heap.size ≤ w3.heap.size := hb3.size;have HBW5 : Hid (Below wc.heap.size wc w5) := Lib.hid ((hb3.alloc hb3.size _).trans (hb5.mono (by simp; omega)));clear hrow hsrc hb3 hb5 htd hB3 hB5 HOWN hB2
        go_wp2_with (refine wpList_copy_own rfl _ _ 33 33 rfl 9 Tryz.underlying33 hsz9 w3.heap.size 0 6 6 ⟨gd, 0, none⟩ 6 cd rfl rfl _ 9 HROW.out (defaultsL.map Value.string) rfl HSRC.out (by simp [madeCells, defaultsL]) hones ?_)
        have hdrop : (defaultsL.map Value.string ++ List.drop defaultsL.length (madeCells #[Value.string ⟨#[]⟩] 6).toList).toArray = (defaultsL.map Value.string).toArray := by simp [madeCells, defaultsL]
        have hrow6 : (w5.setRow w3.heap.size (defaultsL.map Value.string ++ List.drop defaultsL.length (madeCells #[Value.string ⟨#[]⟩] 6).toList).toArray).heap[w3.heap.size]? = some (.cells (defaultsL.map Value.string).toArray 9 (0, 0)) := by
         rw [hdrop];exact setRow_heap w5 _ _ _ _ _ HROW.out
        have hB6 : Below base w (w5.setRow w3.heap.size (defaultsL.map Value.string ++ List.drop defaultsL.length (madeCells #[Value.string ⟨#[]⟩] 6).toList).toArray) := below_setRow HB5.out hge3 _;have HROW6 := Lib.hid hrow6;have HB6 := Lib.hid hB6;have HBW6 : Hid (Below wc.heap.size wc (w5.setRow w3.heap.size (defaultsL.map Value.string ++ List.drop defaultsL.length (madeCells #[Value.string ⟨#[]⟩] 6).toList).toArray)) := Lib.hid (below_setRow HBW5.out hle3 _);clear hdrop hrow6 hB6 HROW HSRC HOWN5 HBW5 HB5;generalize w5.setRow w3.heap.size _ = w6 at *;refine (places_any _).mono ?_;rintro e w7 ⟨g7, c7, rfl, hg7, hp7, hb7⟩;have hg3lt : w3.heap.size < w6.heap.size := (Array.getElem?_eq_some_iff.1 HROW6.out).1
        have HROW7 : Hid (w7.heap[w3.heap.size]? = some (.cells ((fillRow (fillL q placesL defaultsL f2) defaultsL 0).map Value.string).toArray 9 (0, 0))) := Lib.hid (by
         rw [fillRow_zero];exact (hb7.block _ hg3lt).trans HROW6.out)
        have HB7 : Hid (Below base w w7) := Lib.hid (HB6.out.trans (hb7.mono (by omega)));have HBW7 : Hid (Below wc.heap.size wc w7) := Lib.hid (HBW6.out.trans (hb7.mono (by omega)));have HP7 := Lib.hid hp7;have hgne : g7 ≠ w3.heap.size := by omega
        clear HROW6 HB6 HBW6 hb7 hp7
        go_wp2_with fail
        go_loopw [12, 102] (fun v12 v102 wr => ∃ i : Nat, v102 = .int .i64 i ∧ i ≤ 6 ∧ v12 = .int .i64 (takenN q (placesL.take i) : Nat) ∧
         Hid (wr.heap[w3.heap.size]? = some (.cells ((fillRow (fillL q placesL defaultsL f2) defaultsL i).map Value.string).toArray 9 (0, 0))) ∧ Hid (Below base w wr) ∧ Hid (Below wc.heap.size wc wr) ∧ Hid (Ints wr g7 6 c7 placesL)) (fun _ v102 _ => 6 - (intOf v102).toNat)
        case atStart => exact ⟨0, rfl, by omega, rfl, HROW7, HB7, HBW7, HP7⟩
        case round =>
         obtain ⟨i, rfl, hi6, rfl, HROWr, HBr, HBWr, HPr⟩ := hrel;clear HROW7 HB7 HBW7 HP7
         by_cases h6 : i < 6
         ·have hl : i < placesL.length := by simpa [placesL] using h6
          have hcp := HPr.out.at_ i _ (List.getElem?_eq_getElem hl);have hst := taken_step q i h6;have hsl := taken_take_le q placesL (i + 1);have hFi := fill_at q placesL defaultsL f2 i hl rfl (by have := HLEN.out; have := HMX.out; omega);have hplt := places_lt i hl;have hdl : i < defaultsL.length := by simpa [defaultsL] using h6
          have htn := taken_le q (placesL.take i);have htn2 : (placesL.take i).length ≤ 6 := by rw [List.length_take]; simp [placesL]; omega
          generalize placesL[i] = p at *;have hand : bits .and .i64 (q : Int) (p : Int) = ((q &&& p : Nat) : Int) := and_i64 (by omega) (by omega)
          by_cases hpos : 0 < q &&& p
          ·rw [if_pos hpos] at hst hFi
           have hlt2 : takenN q (placesL.take i) < f2.length := by have := HLEN.out; have := HMX.out; omega
           have hx := List.getElem?_eq_getElem hlt2;generalize f2[takenN q (placesL.take i)] = x at hx;rw [hx] at hFi;obtain ⟨g2, rfl, hg2, hc2⟩ := HF2.out _ x hx;have hcr : wr.cell? ⟨g2, takenN q (placesL.take i), none⟩ = some (.string x) := (HBWr.out.cell (p := ⟨g2, takenN q (placesL.take i), none⟩) hg2).trans hc2
           have hlen6 : (fillRow (fillL q placesL defaultsL f2) defaultsL i).length = 6 := by
            unfold fillRow;rw [List.length_append, List.length_take, List.length_drop, fill_length _ _ _ _ rfl];simp [placesL, defaultsL]; omega
           have hcd : ∃ d, wr.cell? ⟨w3.heap.size, i, none⟩ = some d := by
            rw [cell_of_row wr w3.heap.size i _ _ _ HROWr.out];exact ⟨_, Array.getElem?_eq_getElem (by simp [hlen6]; omega)⟩
           obtain ⟨d, hcd⟩ := hcd;have hfd : wr.frozen? ⟨w3.heap.size, i, none⟩ = false := frozen_of_row _ _ _ _ _ HROWr.out;have HT : Hid (takenN q (placesL.take (i + 1)) = takenN q (placesL.take i) + 1) := Lib.hid hst;have HFS := Lib.hid (fillRow_set (F := fillL q placesL defaultsL f2) (ds := defaultsL) hFi hdl);have hpi : (0 : Int) < ((q &&& p : Nat) : Int) := by omega
           clear hst hsl hFi hx hc2 hlen6;generalize takenN q (placesL.take i) = tn at *
           go_wp2_with fail
           go_roundw
           case rel =>
            refine ⟨i + 1, by go_num, by omega, by rw [HT.out]; go_num, Lib.hid ?_, Lib.hid (HBr.out.setCell hge3 _), Lib.hid (HBWr.out.setCell hle3 _), Lib.hid (HPr.out.put hgne _)⟩;rw [← HFS.out];exact row_put x HROWr.out
           case measure => simp [intOf]; omega
          ·rw [if_neg hpos] at hst hFi
           have hpi : ¬ (0 : Int) < ((q &&& p : Nat) : Int) := by omega
           have HT : Hid (takenN q (placesL.take (i + 1)) = takenN q (placesL.take i)) := Lib.hid hst;have HFS := Lib.hid (fillRow_same (F := fillL q placesL defaultsL f2) (ds := defaultsL) (hFi.trans (List.getElem?_eq_getElem hdl)) (List.getElem?_eq_getElem hdl));clear hst hsl hFi;generalize takenN q (placesL.take i) = tn at *
           go_wp2_with fail
           go_roundw
           case rel => exact ⟨i + 1, by go_num, by omega, by rw [HT.out], Lib.hid (by rw [HFS.out]; exact HROWr.out), HBr, HBWr, HPr⟩
           case measure => simp [intOf]; omega
         ·have hi : i = 6 := by omega
          subst hi;have hend := fillRow_end (F := fillL q placesL defaultsL f2) (ds := defaultsL) (i := 6) (by rw [fill_length _ _ _ _ rfl]; simp [placesL]) (by simp [defaultsL]);have hrowF := HROWr.out;rw [hend] at hrowF
          have HT : Hid (Texts wr w3.heap.size 6 6 (fillL q placesL defaultsL f2)) := Lib.hid ⟨by rw [fill_length _ _ _ _ rfl]; rfl, Nat.le_refl _, (Array.getElem?_eq_some_iff.1 hrowF).1, fun j x hx => by
           rw [cell_of_row wr w3.heap.size j _ _ _ hrowF];simp [hx]⟩
          clear hend hrowF h6
          go_wp2_with fail
          go_ret2
          refine ⟨?_, HBr.out, (HBWr.out.block ge (by omega)).trans HK2.out⟩;rw [HR.out];exact ⟨w3.heap.size, 6, rfl, by omega, HT.out⟩
end Go.Proofs.YtmecbmgfacpecaaGreatDoor.Cron
namespace Go.Proofs.YtmecbmgfacpecaaGreatDoor.Cron
open Go Go.RowKit Go.Proofs.YtmecbmgfacpecaaGreatDoor.Text Go.Proofs.YtmecbmgfacpecaaGreatDoor.Bits
set_option linter.unusedVariables false
def entsGo : List (ByteArray × Int) → Nat → List MapEntry
 | [], _ => []
 | (k, v) :: t, i => ⟨.string k, .int .u64 v, i⟩ :: entsGo t (i + 1)
def MapAt (w : World) (r : Nat) (L : List (ByteArray × Int)) : Prop := w.heap[r]? = some (.map (entsGo L 0).toArray L.length)
def findL (s : ByteArray) : List (ByteArray × Int) → Nat → Option (Nat × Int)
 | [], _ => none
 | (k, v) :: t, i => if s = k then some (i, v) else findL s t (i + 1)
def lookL (s : ByteArray) : List (ByteArray × Int) → Option Int
 | [] => none
 | (k, v) :: t => if s = k then some v else lookL s t
theorem look_find (s : ByteArray) : ∀ (L : List (ByteArray × Int)) (i : Nat), (findL s L i).map (·.2) = lookL s L
 | [], _ => rfl
 | (k, v) :: t, i => by
  unfold findL lookL
  by_cases h : s = k
  ·rw [if_pos h, if_pos h]; rfl
  ·rw [if_neg h, if_neg h]; exact look_find s t (i + 1)
theorem ba_beq (s k : ByteArray) : (s == k) = decide (s = k) := by
 obtain ⟨a⟩ := s;obtain ⟨b⟩ := k;have h1 : ((⟨a⟩ : ByteArray) == ⟨b⟩) = (a == b) := by first | rfl | kernel_rfl
 rw [h1, Bool.eq_iff_iff];simp
theorem findNow_ents (s : ByteArray) : ∀ (L : List (ByteArray × Int)) (i j : Nat), Instr.findNow .string (.string s) (entsGo L j) i = some ((findL s L i).map fun x => (x.1, Value.int .u64 x.2))
 | [], _, _ => rfl
 | (k, v) :: t, i, j => by
  unfold entsGo Instr.findNow findL
  by_cases h : s = k
  ·subst h;simp [Instr.sameNow, ba_beq]
  ·have : (s == k) = false := by rw [ba_beq]; exact decide_eq_false h
   simp only [Instr.sameNow, this, if_neg h];exact findNow_ents s t (i + 1) (j + 1)
theorem ents_snoc : ∀ (L : List (ByteArray × Int)) (k : ByteArray) (v : Int) (i : Nat), entsGo (L ++ [(k, v)]) i = entsGo L i ++ [⟨.string k, .int .u64 v, i + L.length⟩]
 | [], k, v, i => rfl
 | (a, b) :: t, k, v, i => by
  simp only [List.cons_append, entsGo, List.length_cons];rw [ents_snoc t k v (i + 1)];simp only [Nat.add_assoc, Nat.add_comm 1]
theorem run_insert_name (w : World) (r : Nat) (L : List (ByteArray × Int)) (k : ByteArray) (v : Int) (hM : MapAt w r L) (hne : findL k L 0 = none) :
  ∃ w', (Instr.mapUpdate 183 (.map (some r)) (.string k) (.int .u64 v)).run Tryz.prog w = .ok () w' ∧ MapAt w' r (L ++ [(k, v)]) ∧ Below r w w' := by
 have hM' : w.heap[r]? = some (.map (entsGo L 0).toArray L.length) := hM;refine ⟨{ w with heap := w.heap.setIfInBounds r (.map ((entsGo L 0).toArray.push ⟨.string k, .int .u64 v, L.length⟩) (L.length + 1)) }, ?_, ?_, ?_⟩
 ·have hfk := MapKept.run_findKey (P := Tryz.prog) (w := w) (kt := 9) (k := .string k) Tryz.underlying9 (findNow_ents k L 0 0);rw [hne] at hfk;have hck := MapKept.run_checkKey (P := Tryz.prog) (w := w) (kt := 9) (d := .string) (k := .string k) Tryz.underlying9 (by first | trivial | rfl | simp [MapKept.IsKey]) false 9999;simp [Instr.mapUpdate, Sem.run_bind, run_underlying Tryz.underlying183, MapKept.run_getObj_map hM', hck, hfk, MapKept.run_setObj_map _ hM', Result.andThen]
 ·unfold MapAt;rw [(MapKept.heap_set hM').1, ents_snoc];simp
 ·exact ⟨rfl, rfl, rfl, by simp, fun b hb => (MapKept.heap_set hM').2 b (by omega)⟩
section
variable {ops : Array Oper} {rest : List Oper} {o : Oper} {a : Act} {w : World} {Q : Exit → Act → World → Prop}
theorem wpList_insert_name (hg : o.guard = none) (m x y : Operand) (ho : o.op = .insert 183 m x y) (r : Nat) (k : ByteArray) (v : Int) (hm : a.eval m = .map (some r)) (hx : a.eval x = .string k) (hy : a.eval y = .int .u64 v)
  (L : List (ByteArray × Int)) (hM : MapAt w r L) (hne : findL k L 0 = none)
  (h : ∀ w', MapAt w' r (L ++ [(k, v)]) → Below r w w' → wpList Tryz.prog ops Q rest (a.put o.dst undef) w') : wpList Tryz.prog ops Q (o :: rest) a w := by
 refine wpList_plain hg fun K hK => ?_
 obtain ⟨w', hr, hM', hb⟩ := run_insert_name w r L k v hM hne;unfold Oper.wp execOp;simp only [ho, hm, hx, hy, hr, Sem.run_bind, Sem.run_pure, Result.andThen_ok];exact hK _ _ (h w' hM' hb)
end
theorem run_lookup_name (w : World) (r : Nat) (L : List (ByteArray × Int)) (s : ByteArray) (hM : MapAt w r L) :
  (Instr.lookup 183 (.map (some r)) (.string s) true).run Tryz.prog w = .ok (.tuple #[.int .u64 ((lookL s L).getD 0), .bool (lookL s L).isSome]) w := by
 have hM' : w.heap[r]? = some (.map (entsGo L 0).toArray L.length) := hM;have hfk := MapKept.run_findKey (P := Tryz.prog) (w := w) (kt := 9) (k := .string s) Tryz.underlying9 (findNow_ents s L 0 0);have hck := fun em : Bool => MapKept.run_checkKey (P := Tryz.prog) (w := w) (kt := 9) (d := .string) (k := .string s) Tryz.underlying9 (by first | trivial | rfl | simp [MapKept.IsKey]) em 9999
 have hz : (zeroValue 182).run Tryz.prog w = .ok (.int .u64 0) w := Tryz.zeroValue182 w;rw [← look_find s L 0]
 cases hf : findL s L 0 with
 | none =>
  rw [hf] at hfk;simp [Instr.lookup, Sem.run_bind, run_underlying Tryz.underlying183, MapKept.run_getObj_map hM', hck, hfk, hz, Result.andThen]
 | some x =>
  rw [hf] at hfk;simp [Instr.lookup, Sem.run_bind, run_underlying Tryz.underlying183, MapKept.run_getObj_map hM', hck, hfk, Result.andThen]
theorem row_kept {w w' : World} {cs : Array Value} {T : TypeId} {o : Obj} (h : Below (w.heap.size + 1) ((w.alloc (.cells cs T)).alloc o) w') : w'.heap[w.heap.size]? = some (.cells cs T (0, 0)) :=
 (h.block w.heap.size (by omega)).trans ((heap_alloc_old _ o (by simp)).trans (heap_alloc_new w _))
theorem run_makeMap_names (w : World) : (Instr.makeMap 183 none).run Tryz.prog w = .ok (.map (some w.heap.size)) (w.alloc (.map #[] 0)) := by rfl
theorem mapAt_new (w : World) (o : Obj) : MapAt ((w.alloc o).alloc (.map #[] 0)) (w.heap.size + 1) [] := by
 have := heap_alloc_new (w.alloc o) (.map #[] 0);rw [show (w.alloc o).heap.size = w.heap.size + 1 by simp] at this;exact this
theorem MapAt.lt {w : World} {r : Nat} {L : List (ByteArray × Int)} (h : MapAt w r L) : r < w.heap.size := (Array.getElem?_eq_some_iff.1 h).1
theorem MapAt.below {w w' : World} {r : Nat} {L : List (ByteArray × Int)} (h : MapAt w r L) (hb : Below w.heap.size w w') : MapAt w' r L := (hb.block r h.lt).trans h
theorem MapAt.put {w : World} {r g i : Nat} {L : List (ByteArray × Int)} {v : Value} (h : MapAt w r L) (hg : r ≠ g) : MapAt (w.setCell ⟨g, i, none⟩ v) r L := by
 unfold MapAt;rw [heap_setCell_other w ⟨g, i, none⟩ r v hg];exact h
def monthsL : List (ByteArray × Int) := [(⟨#[106, 97, 110]⟩, 1), (⟨#[102, 101, 98]⟩, 2), (⟨#[109, 97, 114]⟩, 3), (⟨#[97, 112, 114]⟩, 4), (⟨#[109, 97, 121]⟩, 5), (⟨#[106, 117, 110]⟩, 6), (⟨#[106, 117, 108]⟩, 7), (⟨#[97, 117, 103]⟩, 8), (⟨#[115, 101, 112]⟩, 9), (⟨#[111, 99, 116]⟩, 10), (⟨#[110, 111, 118]⟩, 11), (⟨#[100, 101, 99]⟩, 12)]
set_option maxRecDepth 100000 in
set_option maxHeartbeats 1000000 in
theorem months_any (w : World) : Calls Tryz.prog 110 #[] w fun e w' => ∃ r, e = .returned (.agg #[.int .u64 1, .int .u64 12, .map (some r)]) ∧ w.heap.size < r ∧ MapAt w' r monthsL ∧ Below w.heap.size w w' := by
 have hmk := run_makeMap_names
 go_enter Tryz.func110, Tryz.ntmps110
 go_wp2_with (first
  | (refine wpList_insert_name rfl _ _ _ rfl (w.heap.size + 1) ⟨#[106, 97, 110]⟩ 1 rfl rfl rfl [] (mapAt_new _ _) rfl ?_; intro w1 hM1 hb1)
  | (refine wpList_insert_name rfl _ _ _ rfl (w.heap.size + 1) ⟨#[102, 101, 98]⟩ 2 rfl rfl rfl [(⟨#[106, 97, 110]⟩, 1)] hM1 rfl ?_; intro w2 hM2 hb2)
  | (refine wpList_insert_name rfl _ _ _ rfl (w.heap.size + 1) ⟨#[109, 97, 114]⟩ 3 rfl rfl rfl [(⟨#[106, 97, 110]⟩, 1), (⟨#[102, 101, 98]⟩, 2)] hM2 rfl ?_; intro w3 hM3 hb3)
  | (refine wpList_insert_name rfl _ _ _ rfl (w.heap.size + 1) ⟨#[97, 112, 114]⟩ 4 rfl rfl rfl [(⟨#[106, 97, 110]⟩, 1), (⟨#[102, 101, 98]⟩, 2), (⟨#[109, 97, 114]⟩, 3)] hM3 rfl ?_; intro w4 hM4 hb4)
  | (refine wpList_insert_name rfl _ _ _ rfl (w.heap.size + 1) ⟨#[109, 97, 121]⟩ 5 rfl rfl rfl [(⟨#[106, 97, 110]⟩, 1), (⟨#[102, 101, 98]⟩, 2), (⟨#[109, 97, 114]⟩, 3), (⟨#[97, 112, 114]⟩, 4)] hM4 rfl ?_; intro w5 hM5 hb5)
  | (refine wpList_insert_name rfl _ _ _ rfl (w.heap.size + 1) ⟨#[106, 117, 110]⟩ 6 rfl rfl rfl [(⟨#[106, 97, 110]⟩, 1), (⟨#[102, 101, 98]⟩, 2), (⟨#[109, 97, 114]⟩, 3), (⟨#[97, 112, 114]⟩, 4), (⟨#[109, 97, 121]⟩, 5)] hM5 rfl ?_; intro w6 hM6 hb6)
  | (refine wpList_insert_name rfl _ _ _ rfl (w.heap.size + 1) ⟨#[106, 117, 108]⟩ 7 rfl rfl rfl [(⟨#[106, 97, 110]⟩, 1), (⟨#[102, 101, 98]⟩, 2), (⟨#[109, 97, 114]⟩, 3), (⟨#[97, 112, 114]⟩, 4), (⟨#[109, 97, 121]⟩, 5), (⟨#[106, 117, 110]⟩, 6)] hM6 rfl ?_; intro w7 hM7 hb7)
  | (refine wpList_insert_name rfl _ _ _ rfl (w.heap.size + 1) ⟨#[97, 117, 103]⟩ 8 rfl rfl rfl [(⟨#[106, 97, 110]⟩, 1), (⟨#[102, 101, 98]⟩, 2), (⟨#[109, 97, 114]⟩, 3), (⟨#[97, 112, 114]⟩, 4), (⟨#[109, 97, 121]⟩, 5), (⟨#[106, 117, 110]⟩, 6), (⟨#[106, 117, 108]⟩, 7)] hM7 rfl ?_; intro w8 hM8 hb8)
  | (refine wpList_insert_name rfl _ _ _ rfl (w.heap.size + 1) ⟨#[115, 101, 112]⟩ 9 rfl rfl rfl [(⟨#[106, 97, 110]⟩, 1), (⟨#[102, 101, 98]⟩, 2), (⟨#[109, 97, 114]⟩, 3), (⟨#[97, 112, 114]⟩, 4), (⟨#[109, 97, 121]⟩, 5), (⟨#[106, 117, 110]⟩, 6), (⟨#[106, 117, 108]⟩, 7), (⟨#[97, 117, 103]⟩, 8)] hM8 rfl ?_; intro w9 hM9 hb9)
  | (refine wpList_insert_name rfl _ _ _ rfl (w.heap.size + 1) ⟨#[111, 99, 116]⟩ 10 rfl rfl rfl [(⟨#[106, 97, 110]⟩, 1), (⟨#[102, 101, 98]⟩, 2), (⟨#[109, 97, 114]⟩, 3), (⟨#[97, 112, 114]⟩, 4), (⟨#[109, 97, 121]⟩, 5), (⟨#[106, 117, 110]⟩, 6), (⟨#[106, 117, 108]⟩, 7), (⟨#[97, 117, 103]⟩, 8), (⟨#[115, 101, 112]⟩, 9)] hM9 rfl ?_; intro w10 hM10 hb10)
  | (refine wpList_insert_name rfl _ _ _ rfl (w.heap.size + 1) ⟨#[110, 111, 118]⟩ 11 rfl rfl rfl [(⟨#[106, 97, 110]⟩, 1), (⟨#[102, 101, 98]⟩, 2), (⟨#[109, 97, 114]⟩, 3), (⟨#[97, 112, 114]⟩, 4), (⟨#[109, 97, 121]⟩, 5), (⟨#[106, 117, 110]⟩, 6), (⟨#[106, 117, 108]⟩, 7), (⟨#[97, 117, 103]⟩, 8), (⟨#[115, 101, 112]⟩, 9), (⟨#[111, 99, 116]⟩, 10)] hM10 rfl ?_; intro w11 hM11 hb11)
  | (refine wpList_insert_name rfl _ _ _ rfl (w.heap.size + 1) ⟨#[100, 101, 99]⟩ 12 rfl rfl rfl [(⟨#[106, 97, 110]⟩, 1), (⟨#[102, 101, 98]⟩, 2), (⟨#[109, 97, 114]⟩, 3), (⟨#[97, 112, 114]⟩, 4), (⟨#[109, 97, 121]⟩, 5), (⟨#[106, 117, 110]⟩, 6), (⟨#[106, 117, 108]⟩, 7), (⟨#[97, 117, 103]⟩, 8), (⟨#[115, 101, 112]⟩, 9), (⟨#[111, 99, 116]⟩, 10), (⟨#[110, 111, 118]⟩, 11)] hM11 rfl ?_; intro w12 hM12 hb12; go_must (have hrow := row_kept ((((((((((((hb1).trans hb2).trans hb3).trans hb4).trans hb5).trans hb6).trans hb7).trans hb8).trans hb9).trans hb10).trans hb11).trans hb12); have hc0 : _ = some _ := cell_of_row _ _ 0 _ _ _ hrow; have hc1 : _ = some _ := cell_of_row _ _ 1 _ _ _ hrow; have hc2 : _ = some _ := cell_of_row _ _ 2 _ _ _ hrow; have hf0 := frozen_of_row _ _ 0 _ _ hrow; have hf1 := frozen_of_row _ _ 1 _ _ hrow; have hf2 := frozen_of_row _ _ 2 _ _ hrow; have HROW := Lib.hid hrow; clear hrow)))
 have HB : Below w.heap.size w w12 := (((Below.refl _ _).alloc (Nat.le_refl _) _).alloc (by simp) _).trans (((((((((((((hb1.trans hb2).trans hb3).trans hb4).trans hb5).trans hb6).trans hb7).trans hb8).trans hb9).trans hb10).trans hb11).trans hb12)).mono (by omega));have HM : MapAt w12 (w.heap.size + 1) monthsL := hM12;refine bodyPost_ret (v := .agg #[.int .u64 1, .int .u64 12, .map (some (w.heap.size + 1))]) ?_ rfl ?_
 ·exact results_bounds (fn := Tryz.f110) (p := 0) rfl _ _ w.heap.size _ rfl (store3_row HROW.out) rfl
 exact ⟨_, rfl, by omega, ((HM.put (by omega)).put (by omega)).put (by omega), ((HB.setCell (Nat.le_refl _) _).setCell (Nat.le_refl _) _).setCell (Nat.le_refl _) _⟩
def dowL : List (ByteArray × Int) := [(⟨#[115, 117, 110]⟩, 0), (⟨#[109, 111, 110]⟩, 1), (⟨#[116, 117, 101]⟩, 2), (⟨#[119, 101, 100]⟩, 3), (⟨#[116, 104, 117]⟩, 4), (⟨#[102, 114, 105]⟩, 5), (⟨#[115, 97, 116]⟩, 6)]
set_option maxRecDepth 100000 in
set_option maxHeartbeats 1000000 in
theorem dow_any (w : World) : Calls Tryz.prog 111 #[] w fun e w' => ∃ r, e = .returned (.agg #[.int .u64 0, .int .u64 6, .map (some r)]) ∧ w.heap.size < r ∧ MapAt w' r dowL ∧ Below w.heap.size w w' := by
 have hmk := run_makeMap_names
 go_enter Tryz.func111, Tryz.ntmps111
 go_wp2_with (first
  | (refine wpList_insert_name rfl _ _ _ rfl (w.heap.size + 1) ⟨#[115, 117, 110]⟩ 0 rfl rfl rfl [] (mapAt_new _ _) rfl ?_; intro w1 hM1 hb1)
  | (refine wpList_insert_name rfl _ _ _ rfl (w.heap.size + 1) ⟨#[109, 111, 110]⟩ 1 rfl rfl rfl [(⟨#[115, 117, 110]⟩, 0)] hM1 rfl ?_; intro w2 hM2 hb2)
  | (refine wpList_insert_name rfl _ _ _ rfl (w.heap.size + 1) ⟨#[116, 117, 101]⟩ 2 rfl rfl rfl [(⟨#[115, 117, 110]⟩, 0), (⟨#[109, 111, 110]⟩, 1)] hM2 rfl ?_; intro w3 hM3 hb3)
  | (refine wpList_insert_name rfl _ _ _ rfl (w.heap.size + 1) ⟨#[119, 101, 100]⟩ 3 rfl rfl rfl [(⟨#[115, 117, 110]⟩, 0), (⟨#[109, 111, 110]⟩, 1), (⟨#[116, 117, 101]⟩, 2)] hM3 rfl ?_; intro w4 hM4 hb4)
  | (refine wpList_insert_name rfl _ _ _ rfl (w.heap.size + 1) ⟨#[116, 104, 117]⟩ 4 rfl rfl rfl [(⟨#[115, 117, 110]⟩, 0), (⟨#[109, 111, 110]⟩, 1), (⟨#[116, 117, 101]⟩, 2), (⟨#[119, 101, 100]⟩, 3)] hM4 rfl ?_; intro w5 hM5 hb5)
  | (refine wpList_insert_name rfl _ _ _ rfl (w.heap.size + 1) ⟨#[102, 114, 105]⟩ 5 rfl rfl rfl [(⟨#[115, 117, 110]⟩, 0), (⟨#[109, 111, 110]⟩, 1), (⟨#[116, 117, 101]⟩, 2), (⟨#[119, 101, 100]⟩, 3), (⟨#[116, 104, 117]⟩, 4)] hM5 rfl ?_; intro w6 hM6 hb6)
  | (refine wpList_insert_name rfl _ _ _ rfl (w.heap.size + 1) ⟨#[115, 97, 116]⟩ 6 rfl rfl rfl [(⟨#[115, 117, 110]⟩, 0), (⟨#[109, 111, 110]⟩, 1), (⟨#[116, 117, 101]⟩, 2), (⟨#[119, 101, 100]⟩, 3), (⟨#[116, 104, 117]⟩, 4), (⟨#[102, 114, 105]⟩, 5)] hM6 rfl ?_; intro w7 hM7 hb7; go_must (have hrow := row_kept (((((((hb1).trans hb2).trans hb3).trans hb4).trans hb5).trans hb6).trans hb7); have hc0 : _ = some _ := cell_of_row _ _ 0 _ _ _ hrow; have hc1 : _ = some _ := cell_of_row _ _ 1 _ _ _ hrow; have hc2 : _ = some _ := cell_of_row _ _ 2 _ _ _ hrow; have hf0 := frozen_of_row _ _ 0 _ _ hrow; have hf1 := frozen_of_row _ _ 1 _ _ hrow; have hf2 := frozen_of_row _ _ 2 _ _ hrow; have HROW := Lib.hid hrow; clear hrow)))
 have HB : Below w.heap.size w w7 := (((Below.refl _ _).alloc (Nat.le_refl _) _).alloc (by simp) _).trans ((((((((hb1.trans hb2).trans hb3).trans hb4).trans hb5).trans hb6).trans hb7)).mono (by omega));have HM : MapAt w7 (w.heap.size + 1) dowL := hM7;refine bodyPost_ret (v := .agg #[.int .u64 0, .int .u64 6, .map (some (w.heap.size + 1))]) ?_ rfl ?_
 ·exact results_bounds (fn := Tryz.f111) (p := 0) rfl _ _ w.heap.size _ rfl (store3_row HROW.out) rfl
 exact ⟨_, rfl, by omega, ((HM.put (by omega)).put (by omega)).put (by omega), ((HB.setCell (Nat.le_refl _) _).setCell (Nat.le_refl _) _).setCell (Nat.le_refl _) _⟩
end Go.Proofs.YtmecbmgfacpecaaGreatDoor.Cron
namespace Go.Proofs.YtmecbmgfacpecaaGreatDoor.Cron
open Go Go.RowKit Go.Proofs.YtmecbmgfacpecaaGreatDoor.Text Go.Proofs.YtmecbmgfacpecaaGreatDoor.Bits
set_option linter.unusedVariables false
def lowB (s : ByteArray) : ByteArray := ⟨(lowS s).toArray⟩
def valN (L : List (ByteArray × Int)) (l : List UInt8) : Option Nat :=
 match lookL (lowB (ba l)) L with
 | some v => some v.toNat
 | none => mp l
theorem look_mem (s : ByteArray) : ∀ (L : List (ByteArray × Int)) (v : Int), lookL s L = some v → (s, v) ∈ L
 | [], v, h => by cases h
 | (k, x) :: t, v, h => by
  unfold lookL at h
  by_cases e : s = k
  ·rw [if_pos e] at h
   injection h with h
   subst e; subst h;exact List.mem_cons_self ..
  ·rw [if_neg e] at h;exact List.mem_cons_of_mem _ (look_mem s t v h)
def Small (L : List (ByteArray × Int)) : Prop := ∀ p ∈ L, 0 ≤ p.2 ∧ p.2 ≤ 12
theorem months_small : Small monthsL := by
 intro p hp;simp only [monthsL, List.mem_cons, List.not_mem_nil, or_false] at hp
 rcases hp with rfl | rfl | rfl | rfl | rfl | rfl | rfl | rfl | rfl | rfl | rfl | rfl <;> exact ⟨by omega, by omega⟩
theorem dow_small : Small dowL := by
 intro p hp;simp only [dowL, List.mem_cons, List.not_mem_nil, or_false] at hp
 rcases hp with rfl | rfl | rfl | rfl | rfl | rfl | rfl <;> exact ⟨by omega, by omega⟩
theorem lower_any (s : ByteArray) (hs : s.size ≤ 4294967296) (w : World) :
 Calls Tryz.prog 206 #[.string s] w fun e w' => e = .returned (.string (lowB s)) ∧ Below w.heap.size w w' := zzLower_any s hs w
set_option maxRecDepth 100000 in
theorem reads_named (r : Nat) (L : List (ByteArray × Int)) (hL : Small L) : Reads (some r) (valN L) (fun w => G w ∧ MapAt w r L) := by
 refine ⟨fun ⟨h, hM⟩ hb => ⟨h.below hb, hM.below hb⟩, fun h => h.1, fun {l n} h => ?_, fun s w hs hI => ?_⟩
 ·unfold valN at h
  split at h
  ·rename_i v hv
   have := hL _ (look_mem _ _ _ hv)
   injection h with h
   omega
  ·exact mp_le h
 ·obtain ⟨hg, hM⟩ := hI;have hm := fun w : World => run_neq_map_nil (P := Tryz.prog) w 183 _ _ (some r) Tryz.underlying183
  have HLW := Lib.hid (fun w' => lower_any s hs w');unfold valN;rw [ba_of];have hbd : ∀ v, lookL (lowB s) L = some v → 0 ≤ v ∧ v ≤ 12 := fun v hv => hL _ (look_mem _ _ _ hv)
  have hlk := fun (w' : World) (h : MapAt w' r L) => run_lookup_name w' r L (lowB s) h
  generalize lookL (lowB s) L = q at *;generalize lowB s = low at *
  go_enter Tryz.func180, Tryz.ntmps180
  go_wp2_with fail
  refine (HLW.out _).mono ?_;rintro e w1 ⟨rfl, hb1⟩;have hl := hlk w1 (hM.below hb1);have hg1 := hg.below hb1;clear hlk HLW hM hL
  cases q with
  | some v =>
   obtain ⟨n, rfl⟩ : ∃ n : Nat, v = n := ⟨v.toNat, by have := hbd v rfl; omega⟩
   simp only [Option.getD_some, Option.isSome_some] at hl
   go_wp2_with fail
   go_ret2
   exact ⟨rfl, hb1⟩
  | none =>
   simp only [Option.getD_none, Option.isSome_none] at hl
   cases h : mp s.data.toList with
   | some n =>
    go_wp2_with (go_at_call 181; refine (mustParse_ok s (by omega) n h _).mono ?_; rintro e w' ⟨rfl, hb⟩)
    go_ret2
    exact ⟨rfl, below_of_le hb1 hb⟩
   | none =>
    go_wp2_with (go_at_call 181; refine (mustParse_bad s (by omega) h _ hg1).mono ?_; rintro e w' ⟨t, x, rfl, hb⟩)
    go_ret2
    exact ⟨⟨t, x, rfl⟩, below_of_le hb1 hb⟩
def valK (k : Nat) : List UInt8 → Option Nat := if k = 4 then valN monthsL else if k = 5 then valN dowL else mp
end Go.Proofs.YtmecbmgfacpecaaGreatDoor.Cron
namespace Go.Proofs.YtmecbmgfacpecaaGreatDoor.Cron
open Go Go.RowKit Go.Proofs.YtmecbmgfacpecaaGreatDoor.Text Go.Proofs.YtmecbmgfacpecaaGreatDoor.Bits Go.Proofs.YtmecbmgfacpecaaGreatDoorW.PrintWords Go.Proofs.YtmecbmgfacpecaaGreatDoorW.PrintLast Go.Proofs.YtmecbmgfacpecaaGreatDoorW.PrintMore
set_option linter.unusedVariables false
set_option linter.unusedSimpArgs false
section
variable {P : Program} {ops : Array Oper} {Q : Exit → Act → World → Prop}
theorem goesV_ {oi : Oper} {N : Option Tmp} {a : Act} {w : World} {K : Act → World → Prop} {f : FuncId} {fn : Func} {x : Operand} {xs : Array Operand} {ts : Array TypeId} (hf : P.funcs[f]? = some fn) (hname : (fn.name == "runtime.NumGoroutine") = false) (hb : fn.body.isSome = true) (args cap all : Array Value) (hall : args ++ cap = all)
  (hx : a.eval x = .func (.func f) #[] cap)
  (hw : Region.wanted oi (yielded ops a.tmps) = true) (hN : oi.dst = N) (hop : oi.op = .call { callee := .value x, args := xs, argTypes := ts }) (hargs : xs.map a.eval = args)
  (h : Calls P f all w fun e w' => ∃ v, e = .returned v ∧ K (a.put N v) w') : if Region.wanted oi (yielded ops a.tmps) = true then Oper.wp P oi a w K Q else K (a.put N undef) w := by
 subst hall;refine call_ f (args ++ cap) hw hN ?_ h;have he := enters_ hf hname hb (args ++ cap) w;unfold execOp;simp [hop, resolve, Deferred.ofValue, invoke, hx, hargs, he]
end
def ErrSt (v : Value) (ok : Bool) : Prop := if ok = true then v = .nilIface else ∃ t x, v = .iface t x
theorem errSt_ok {v : Value} {ok : Bool} (h : ErrSt v ok) (e : ok = true) : v = .nilIface := by unfold ErrSt at h; rw [if_pos e] at h; exact h
theorem errSt_bad {v : Value} {ok : Bool} (h : ErrSt v ok) (e : ok = false) : ∃ t x, v = .iface t x := by unfold ErrSt at h; rw [if_neg (by rw [e]; decide)] at h; exact h
theorem closureErr_any (s : ByteArray) (b : Value) (lo hi : Nat) (m : Option Nat) (g : Nat) (t : TypeId) (x : Value) (w : World) (hg : g < w.heap.size) (hc : w.cell? ⟨g, 0, none⟩ = some (.iface t x)) :
  Calls Tryz.prog 104 #[.string s, .agg #[.int .u64 lo, .int .u64 hi, .map m], .pointer (some ⟨g, 0, none⟩)] w fun e w' => e = .returned (.int .u64 0) ∧ Below w.heap.size w w' := by
 go_enter Tryz.func104, Tryz.ntmps104
 go_wp2_with fail
 go_ret
 exact ⟨rfl, (Below.refl _ _).alloc (Nat.le_refl _) _⟩
def ErrLeft (w w' : World) (g : Nat) (v : Value) : Prop := w'.cell? ⟨g, 0, none⟩ = some v ∧ w'.frozen? ⟨g, 0, none⟩ = false ∧ w.heap.size ≤ w'.heap.size ∧ (∀ b, b < w.heap.size → b ≠ g → w'.heap[b]? = w.heap[b]?) ∧ Below g w w'
theorem errLeft_of {w w1 : World} {g : Nat} (v v0 : Value) (hb : Below w.heap.size w w1) (hg : g < w.heap.size) (hc : w.cell? ⟨g, 0, none⟩ = some v0) (hf : w.frozen? ⟨g, 0, none⟩ = false) : ErrLeft w (w1.setCell ⟨g, 0, none⟩ v) g v := by
 have hc1 : w1.cell? ⟨g, 0, none⟩ = some v0 := (hb.cell (p := ⟨g, 0, none⟩) hg).trans hc;have hf1 : w1.frozen? ⟨g, 0, none⟩ = false := (hb.frozen (p := ⟨g, 0, none⟩) hg).trans hf;refine ⟨by simp [go_sem, hc1], by simp [go_sem, hf1], by simpa using hb.size, fun b h1 h2 => ?_, (hb.mono (Nat.le_of_lt hg)).setCell (Nat.le_refl _) _⟩;rw [heap_setCell_other w1 ⟨g, 0, none⟩ b v h2];exact hb.block b h1
theorem errLeft_same {w w1 : World} {g : Nat} (v0 : Value) (hb : Below w.heap.size w w1) (hg : g < w.heap.size) (hc : w.cell? ⟨g, 0, none⟩ = some v0) (hf : w.frozen? ⟨g, 0, none⟩ = false) : ErrLeft w w1 g v0 :=
 ⟨(hb.cell (p := ⟨g, 0, none⟩) hg).trans hc, (hb.frozen (p := ⟨g, 0, none⟩) hg).trans hf, hb.size, fun b h1 _ => hb.block b h1, hb.mono (Nat.le_of_lt hg)⟩
def ClosureA (w : World) (g : Nat) (ok : Bool) (r : Option Nat) (e : Ending) (w' : World) : Prop :=
 ∃ (n : Int) (v : Value), e = .returned (.int .u64 n) ∧ ErrLeft w w' g v ∧ ErrSt v (ok && r.isSome) ∧ (ok = true → ∀ b, r = some b → n = b)
theorem closureA (m : Option Nat) (val : List UInt8 → Option Nat) (Inv : World → Prop) (hR : Reads m val Inv) (lo hi : Nat) (s : ByteArray) (hs : s.size ≤ 4294967296) (h1 : lo ≤ hi) (h2 : hi ≤ 62) (g : Nat) (w : World) (hI : Inv w)
  (hg : g < w.heap.size) (v0 : Value) (ok : Bool) (hv : ErrSt v0 ok) (hc : w.cell? ⟨g, 0, none⟩ = some v0) (hf : w.frozen? ⟨g, 0, none⟩ = false) :
  Calls Tryz.prog 104 #[.string s, .agg #[.int .u64 lo, .int .u64 hi, .map m], .pointer (some ⟨g, 0, none⟩)] w (ClosureA w g ok (fieldS val lo hi s.data.toList)) := by
 cases ok with
 | true =>
  have := errSt_ok hv rfl;subst this;refine (closure_any m val Inv hR lo hi s hs h1 h2 g w hI hg hc hf).mono ?_;intro e w' h;generalize fieldS val lo hi s.data.toList = r at *
  cases r with
  | some b =>
   obtain ⟨rfl, w1, hb, rfl⟩ := h;exact ⟨b, .nilIface, rfl, errLeft_of _ _ hb hg hc hf, rfl, fun _ b' e => by injection e with e; rw [e]⟩
  | none =>
   obtain ⟨n, t, x, rfl, w1, hb, rfl⟩ := h;exact ⟨n, .iface t x, rfl, errLeft_of _ _ hb hg hc hf, ⟨t, x, rfl⟩, fun _ b' e => by cases e⟩
 | false =>
  obtain ⟨t, x, rfl⟩ := errSt_bad hv rfl;refine (closureErr_any s .nilIface lo hi m g t x w hg hc).mono ?_;rintro e w' ⟨rfl, hb⟩;exact ⟨0, .iface t x, rfl, errLeft_same _ hb hg hc hf, ⟨t, x, rfl⟩, fun h => by cases h⟩
abbrev BoundsOf (f : FuncId) (k : Nat) : Prop :=
 ∀ w : World, G w → Calls Tryz.prog f #[] w fun e w' => ∃ (m : Option Nat) (Inv : World → Prop), e = .returned (.agg #[.int .u64 (loK k : Nat), .int .u64 (hiK k : Nat), .map m]) ∧ Reads m (valK k) Inv ∧ Inv w' ∧ Below w.heap.size w w'
theorem bounds0 : BoundsOf 106 0 := fun w hg =>
 (seconds_any w).mono fun e w' ⟨he, hb⟩ => ⟨none, G, he, reads_nil, hg.below hb, hb⟩
theorem bounds1 : BoundsOf 107 1 := fun w hg =>
 (minutes_any w).mono fun e w' ⟨he, hb⟩ => ⟨none, G, he, reads_nil, hg.below hb, hb⟩
theorem bounds2 : BoundsOf 108 2 := fun w hg =>
 (hours_any w).mono fun e w' ⟨he, hb⟩ => ⟨none, G, he, reads_nil, hg.below hb, hb⟩
theorem bounds3 : BoundsOf 109 3 := fun w hg =>
 (dom_any w).mono fun e w' ⟨he, hb⟩ => ⟨none, G, he, reads_nil, hg.below hb, hb⟩
theorem bounds4 : BoundsOf 110 4 := fun w hg =>
 (months_any w).mono fun e w' ⟨r, he, _, hM, hb⟩ => ⟨some r, _, he, reads_named r monthsL months_small, ⟨hg.below hb, hM⟩, hb⟩
theorem bounds5 : BoundsOf 111 5 := fun w hg =>
 (dow_any w).mono fun e w' ⟨r, he, _, hM, hb⟩ => ⟨some r, _, he, reads_named r dowL dow_small, ⟨hg.below hb, hM⟩, hb⟩
def bitsAt (l : List ByteArray) (k : Nat) : Option Nat := fieldS (valK k) (loK k) (hiK k) (l.getD k ⟨#[]⟩).data.toList
def sixS (l : List ByteArray) : Option (List Nat) :=
 match bitsAt l 0, bitsAt l 1, bitsAt l 2, bitsAt l 3, bitsAt l 4, bitsAt l 5 with
 | some a, some b, some c, some d, some e, some f => some [a, b, c, d, e, f]
 | _, _, _, _, _, _ => none
def specCells (l : List Nat) (loc : Option Addr) : Array Value := #[.int .u64 (l.getD 0 0 : Nat), .int .u64 (l.getD 1 0 : Nat), .int .u64 (l.getD 2 0 : Nat), .int .u64 (l.getD 3 0 : Nat), .int .u64 (l.getD 4 0 : Nat), .int .u64 (l.getD 5 0 : Nat), .pointer loc]
def stN (st : Option Nat) : Nat := if st.isSome then 1 else 0
theorem spans_count (p : Nat → Bool) (s : ByteArray) : ∀ (f pos : Nat) (st : Option Nat) (acc : List (Nat × Nat)), (Lib.spansFromP p s f pos st acc).1.length + stN (Lib.spansFromP p s f pos st acc).2 ≤ acc.length + stN st + f
 | 0, _, st, acc => by unfold Lib.spansFromP; simp
 | f + 1, pos, st, acc => by
  unfold Lib.spansFromP
  split
  ·split
   ·cases st with
    | some a =>
     have := spans_count p s f (pos + (Utf8.decode s pos).2) none (acc ++ [(a, pos)]);simp only [List.length_append, List.length_singleton] at this;dsimp only;simp only [stN, Option.isSome_some, Option.isSome_none, if_true] at this ⊢
     simp at this;omega
    | none =>
     have := spans_count p s f (pos + (Utf8.decode s pos).2) none acc;dsimp only;omega
   ·cases st with
    | some a =>
     have := spans_count p s f (pos + (Utf8.decode s pos).2) (some a) acc;dsimp only;simp only [stN, Option.isSome_some, if_true] at this ⊢
     omega
    | none =>
     have := spans_count p s f (pos + (Utf8.decode s pos).2) (some pos) acc;dsimp only;simp only [stN, Option.isSome_some, Option.isSome_none, if_true] at this ⊢
     simp;omega
  ·simp
theorem fieldsZ_len (s : ByteArray) : (fieldsZ s).length ≤ s.size := by
 have := spans_count spaceZ s s.size 0 none [];unfold fieldsZ Lib.goFieldsP Lib.spansOfP;rw [List.length_map];generalize Lib.spansFromP spaceZ s s.size 0 none [] = r at *;obtain ⟨acc, st⟩ := r;unfold Lib.closeSpans
 cases st with
 | none => simp [stN] at this ⊢; omega
 | some a =>
  simp only [stN, Option.isSome_some, if_true, Option.isSome_none, List.length_nil] at this;simp at this ⊢
  omega
theorem goZ_len (s : ByteArray) (hs : s.size ≤ 4294967296) : (fieldsZ s).length ≤ 4294967296 := Nat.le_trans (fieldsZ_len s) hs
theorem fieldsZ_size (s : ByteArray) (x : ByteArray) (hx : x ∈ fieldsZ s) : x.size ≤ s.size := by
 unfold fieldsZ Lib.goFieldsP at hx;rw [List.mem_map] at hx;obtain ⟨y, _, rfl⟩ := hx;rw [ByteArray.size_extract];omega
theorem fill_size (q : Nat) (N : Nat) (hN : 1 ≤ N) : ∀ (ps : List Nat) (ds fs : List ByteArray), (∀ x ∈ ds, x.size ≤ N) → (∀ x ∈ fs, x.size ≤ N) → ∀ x ∈ fillL q ps ds fs, x.size ≤ N
 | [], _, _, _, _, x, hx => by unfold fillL at hx; cases hx
 | p :: ps, [], _, _, _, x, hx => by unfold fillL at hx; cases hx
 | p :: ps, d :: ds, fs, hd, hf, x, hx => by
  unfold fillL at hx;have hd' : ∀ y ∈ ds, y.size ≤ N := fun y hy => hd y (List.mem_cons_of_mem _ hy)
  split at hx
  ·cases fs with
   | nil =>
    rcases List.mem_cons.1 hx with rfl | hx
    ·exact hd _ (List.mem_cons_self ..)
    ·exact fill_size q N hN ps ds [] hd' hf x hx
   | cons f fs =>
    rcases List.mem_cons.1 hx with rfl | hx
    ·exact hf _ (List.mem_cons_self ..)
    ·exact fill_size q N hN ps ds fs hd' (fun y hy => hf y (List.mem_cons_of_mem _ hy)) x hx
  ·rcases List.mem_cons.1 hx with rfl | hx
   ·exact hd _ (List.mem_cons_self ..)
   ·exact fill_size q N hN ps ds fs hd' hf x hx
theorem norm_size {fs : List ByteArray} {o N : Nat} (hN : 1 ≤ N) (hf : ∀ x ∈ fs, x.size ≤ N) {l : List ByteArray} (h : normF fs o = some l) : ∀ x ∈ l, x.size ≤ N := by
 unfold normF at h
 split at h
 ·cases h
 ·split at h
  ·cases h
  ·injection h with h
   rw [← h];refine fill_size _ N hN _ _ _ ?_ ?_
   ·intro x hx
    have : x.size = 1 := by
     unfold defaultsL at hx;simp only [List.mem_cons, List.not_mem_nil, or_false] at hx
     rcases hx with rfl | rfl | rfl | rfl | rfl | rfl <;> rfl
    omega
   ·split
    ·split
     ·intro x hx
      rcases List.mem_append.1 hx with hx | hx
      ·exact hf x hx
      ·rw [List.mem_singleton.1 hx]; exact hN
     ·intro x hx
      rcases List.mem_cons.1 hx with rfl | hx
      ·exact hN
      ·exact hf x hx
    ·exact hf
theorem norm_len {fs : List ByteArray} {o : Nat} {l : List ByteArray} (h : normF fs o = some l) : l.length = 6 := by
 unfold normF at h
 split at h
 ·cases h
 ·split at h
  ·cases h
  ·injection h with h
   rw [← h];exact fill_length _ placesL defaultsL _ rfl
structure PSt (w wc : World) (g c ge : Nat) (l : List ByteArray) (x : Value) : Prop where
 txt : Texts wc g 6 c l
 err : wc.cell? ⟨ge, 0, none⟩ = some x
 free : wc.frozen? ⟨ge, 0, none⟩ = false
 lt : ge < wc.heap.size
 ne : g ≠ ge
 bel : Below w.heap.size w wc
 geB : w.heap.size ≤ ge
 gB : w.heap.size ≤ g
theorem PSt.below {w wc w' : World} {g c ge : Nat} {l : List ByteArray} {x : Value} (h : PSt w wc g c ge l x) (hb : Below wc.heap.size wc w') : PSt w w' g c ge l x :=
 ⟨h.txt.below hb, (hb.cell (p := ⟨ge, 0, none⟩) h.lt).trans h.err, (hb.frozen (p := ⟨ge, 0, none⟩) h.lt).trans h.free, Nat.lt_of_lt_of_le h.lt hb.size, h.ne, below_of_le h.bel hb, h.geB, h.gB⟩
theorem PSt.left {w wc w' : World} {g c ge : Nat} {l : List ByteArray} {x v : Value} (h : PSt w wc g c ge l x) (hl : ErrLeft wc w' ge v) : PSt w w' g c ge l v := by
 obtain ⟨h1, h2, h3, h4, h5⟩ := hl;refine ⟨⟨h.txt.len, h.txt.le, Nat.lt_of_lt_of_le h.txt.lt h3, fun i y hy => ?_⟩, h1, h2, Nat.lt_of_lt_of_le h.lt h3, h.ne, h.bel.trans (h5.mono h.geB), h.geB, h.gB⟩;have := h.txt.at_ i y hy;unfold World.cell? at this ⊢
 rw [h4 g h.txt.lt h.ne];exact this
theorem six_some {l : List ByteArray} {a b c d e f : Nat} (h0 : bitsAt l 0 = some a) (h1 : bitsAt l 1 = some b) (h2 : bitsAt l 2 = some c) (h3 : bitsAt l 3 = some d) (h4 : bitsAt l 4 = some e) (h5 : bitsAt l 5 = some f) : sixS l = some [a, b, c, d, e, f] := by
 unfold sixS;rw [h0, h1, h2, h3, h4, h5]
theorem six_none {l : List ByteArray} (h : (((((true && (bitsAt l 0).isSome) && (bitsAt l 1).isSome) && (bitsAt l 2).isSome) && (bitsAt l 3).isSome) && (bitsAt l 4).isSome && (bitsAt l 5).isSome) = false) : sixS l = none := by
 unfold sixS
 split
 ·rename_i h0 h1 h2 h3 h4 h5
  rw [h0, h1, h2, h3, h4, h5] at h
  cases h
 ·rfl
end Go.Proofs.YtmecbmgfacpecaaGreatDoor.Cron
namespace Go.Proofs.YtmecbmgfacpecaaGreatDoor.Cron
open Go Go.RowKit Go.Proofs.YtmecbmgfacpecaaGreatDoor.Text Go.Proofs.YtmecbmgfacpecaaGreatDoor.Bits
set_option linter.unusedVariables false
set_option linter.unusedSimpArgs false
def maskK (k : Nat) : Nat := if k = 0 then 3 else if k = 1 then 4 else if k = 2 then 8 else if k = 3 then 16 else if k = 4 then 32 else 192
def takeB (o k : Nat) : Bool := !decide (o &&& maskK k = 0)
theorem neq_zero (x : Nat) : ((x : Int) != 0) = !decide (x = 0) := by
 by_cases h : x = 0
 ·subst h; rfl
 ·rw [decide_eq_false h]
  simpa using h
theorem takes_any (o : Nat) (ho : o < 512) (k : Nat) (hk : k < 6) (w : World) :
  Calls Tryz.prog 78 #[.int .i64 o, .int .i64 k] w fun e w' => e = .returned (.bool (takeB o k)) ∧ Below w.heap.size w w' := by
 have hk6 : k = 0 ∨ k = 1 ∨ k = 2 ∨ k = 3 ∨ k = 4 ∨ k = 5 := by omega
 rcases hk6 with rfl | rfl | rfl | rfl | rfl | rfl
 ·have hand : bits .and .i64 (o : Int) 3 = ((o &&& 3 : Nat) : Int) := and_i64 (b := 3) (by omega) (by decide);have e : (((o &&& 3 : Nat) : Int) != 0) = takeB o 0 := neq_zero _;have E := Lib.hid e;clear e
  go_enter Tryz.func78, Tryz.ntmps78
  go_wp2_with fail
  go_ret
  refine ⟨?_, (Below.refl _ _).alloc (Nat.le_refl _) _⟩;simp [hand, E.out]
 ·have hand : bits .and .i64 (o : Int) 4 = ((o &&& 4 : Nat) : Int) := and_i64 (b := 4) (by omega) (by decide);have e : (((o &&& 4 : Nat) : Int) != 0) = takeB o 1 := neq_zero _;have E := Lib.hid e;clear e
  go_enter Tryz.func78, Tryz.ntmps78
  go_wp2_with fail
  go_ret
  refine ⟨?_, (Below.refl _ _).alloc (Nat.le_refl _) _⟩;simp [hand, E.out]
 ·have hand : bits .and .i64 (o : Int) 8 = ((o &&& 8 : Nat) : Int) := and_i64 (b := 8) (by omega) (by decide);have e : (((o &&& 8 : Nat) : Int) != 0) = takeB o 2 := neq_zero _;have E := Lib.hid e;clear e
  go_enter Tryz.func78, Tryz.ntmps78
  go_wp2_with fail
  go_ret
  refine ⟨?_, (Below.refl _ _).alloc (Nat.le_refl _) _⟩;simp [hand, E.out]
 ·have hand : bits .and .i64 (o : Int) 16 = ((o &&& 16 : Nat) : Int) := and_i64 (b := 16) (by omega) (by decide);have e : (((o &&& 16 : Nat) : Int) != 0) = takeB o 3 := neq_zero _;have E := Lib.hid e;clear e
  go_enter Tryz.func78, Tryz.ntmps78
  go_wp2_with fail
  go_ret
  refine ⟨?_, (Below.refl _ _).alloc (Nat.le_refl _) _⟩;simp [hand, E.out]
 ·have hand : bits .and .i64 (o : Int) 32 = ((o &&& 32 : Nat) : Int) := and_i64 (b := 32) (by omega) (by decide);have e : (((o &&& 32 : Nat) : Int) != 0) = takeB o 4 := neq_zero _;have E := Lib.hid e;clear e
  go_enter Tryz.func78, Tryz.ntmps78
  go_wp2_with fail
  go_ret
  refine ⟨?_, (Below.refl _ _).alloc (Nat.le_refl _) _⟩;simp [hand, E.out]
 ·have hand : bits .and .i64 (o : Int) 192 = ((o &&& 192 : Nat) : Int) := and_i64 (b := 192) (by omega) (by decide);have e : (((o &&& 192 : Nat) : Int) != 0) = takeB o 5 := neq_zero _;have E := Lib.hid e;clear e
  go_enter Tryz.func78, Tryz.ntmps78
  go_wp2_with fail
  go_ret
  refine ⟨?_, (Below.refl _ _).alloc (Nat.le_refl _) _⟩;simp [hand, E.out]
def takenC (o : Nat) : Nat → Nat
 | 0 => 0
 | k + 1 => takenC o k + (if takeB o k then 1 else 0)
theorem takenC_le (o : Nat) : ∀ k, takenC o k ≤ k
 | 0 => Nat.le_refl _
 | k + 1 => by
  have := takenC_le o k;unfold takenC
  split <;> omega
end Go.Proofs.YtmecbmgfacpecaaGreatDoor.Cron
namespace Go.Proofs.YtmecbmgfacpecaaGreatDoor.Cron
open Go Go.RowKit Go.Proofs.YtmecbmgfacpecaaGreatDoor.Text Go.Proofs.YtmecbmgfacpecaaGreatDoor.Bits
set_option linter.unusedVariables false
set_option linter.unusedSimpArgs false
def fillB : List Bool → List ByteArray → List ByteArray → List ByteArray
 | b :: bs, d :: ds, fs => if b = true then (match fs with | f :: fs => f :: fillB bs ds fs | [] => d :: fillB bs ds []) else d :: fillB bs ds fs
 | _, _, _ => []
theorem fillL_B (q : Nat) : ∀ (ps : List Nat) (ds fs : List ByteArray), fillL q ps ds fs = fillB (ps.map fun p => decide (0 < q &&& p)) ds fs
 | [], _, _ => by unfold fillL fillB; rfl
 | p :: ps, [], _ => by unfold fillL fillB; rfl
 | p :: ps, d :: ds, fs => by
  unfold fillL;rw [List.map_cons];unfold fillB
  by_cases h : 0 < q &&& p
  ·rw [if_pos h, if_pos (decide_eq_true h)]
   cases fs with
   | nil => simp only [fillL_B q ps ds []]
   | cons f fs => simp only [fillL_B q ps ds fs]
  ·rw [if_neg h, if_neg (by rw [decide_eq_false h]; decide), fillL_B q ps ds fs]
def cnt (bs : List Bool) : Nat := (bs.filter id).length
theorem cnt_cons (b : Bool) (bs : List Bool) : cnt (b :: bs) = (if b = true then 1 else 0) + cnt bs := by
 unfold cnt
 cases b <;> simp [Nat.add_comm]
theorem fillB_len : ∀ (bs : List Bool) (ds fs : List ByteArray), bs.length = ds.length → (fillB bs ds fs).length = bs.length
 | [], [], _, _ => rfl
 | b :: bs, d :: ds, fs, h => by
  have h' : bs.length = ds.length := by simpa using h
  unfold fillB
  cases b
  ·simp [fillB_len bs ds fs h']
  ·cases fs with
   | nil => simp [fillB_len bs ds [] h']
   | cons f fs => simp [fillB_len bs ds fs h']
theorem fillB_at : ∀ (bs : List Bool) (ds fs : List ByteArray) (i : Nat) (h : i < bs.length), bs.length = ds.length → cnt bs ≤ fs.length →
  (fillB bs ds fs)[i]? = if bs[i] = true then fs[cnt (bs.take i)]? else ds[i]?
 | b :: bs, d :: ds, fs, i, h, hl, hc => by
  have hl' : bs.length = ds.length := by simpa using hl
  rw [cnt_cons] at hc;unfold fillB
  cases b with
  | true =>
   rw [if_pos rfl] at hc ⊢
   cases fs with
   | nil => exact absurd hc (by simp; try omega)
   | cons f fs =>
    cases i with
    | zero => simp [cnt]
    | succ i =>
     have hi : i < bs.length := by simpa using h
     have ih := fillB_at bs ds fs i hi hl' (by simp at hc; omega);simp only [List.getElem?_cons_succ, List.getElem_cons_succ, List.take_succ_cons, cnt_cons, if_true];rw [ih, Nat.add_comm 1, List.getElem?_cons_succ]
  | false =>
   rw [if_neg (by decide)] at hc ⊢
   cases i with
   | zero => simp
   | succ i =>
    have hi : i < bs.length := by simpa using h
    have ih := fillB_at bs ds fs i hi hl' (by omega);simp only [List.getElem?_cons_succ, List.getElem_cons_succ, List.take_succ_cons, cnt_cons];rw [ih];simp
theorem fillB_last (d x : ByteArray) : ∀ (bs : List Bool) (ds fs : List ByteArray), bs.length = ds.length → cnt bs = fs.length → fillB (bs ++ [true]) (ds ++ [d]) (fs ++ [x]) = fillB bs ds fs ++ [x]
 | [], [], fs, _, h => by
  have : fs = [] := List.length_eq_zero_iff.1 (by simpa [cnt] using h.symm);subst this;rfl
 | b :: bs, e :: ds, fs, hl, h => by
  have hl' : bs.length = ds.length := by simpa using hl
  rw [cnt_cons] at h;simp only [List.cons_append];unfold fillB
  cases b with
  | true =>
   rw [if_pos rfl] at h;rw [if_pos rfl, if_pos rfl]
   cases fs with
   | nil => exact absurd h (by simp; try omega)
   | cons f fs =>
    simp only [List.cons_append];rw [fillB_last d x bs ds fs hl' (by simp at h; omega)]
  | false =>
   rw [if_neg (by decide)] at h;rw [if_neg (by decide), if_neg (by decide), fillB_last d x bs ds fs hl' (by omega)];rfl
theorem fillB_off (d : ByteArray) : ∀ (bs : List Bool) (ds fs : List ByteArray), bs.length = ds.length → cnt bs ≤ fs.length → fillB (bs ++ [false]) (ds ++ [d]) fs = fillB bs ds fs ++ [d]
 | [], [], fs, _, h => rfl
 | b :: bs, e :: ds, fs, hl, h => by
  have hl' : bs.length = ds.length := by simpa using hl
  rw [cnt_cons] at h;simp only [List.cons_append];unfold fillB
  cases b with
  | true =>
   rw [if_pos rfl] at h;rw [if_pos rfl, if_pos rfl]
   cases fs with
   | nil => exact absurd h (by simp; try omega)
   | cons f fs =>
    simp only;rw [fillB_off d bs ds fs hl' (by simp at h; omega)];rfl
  | false =>
   rw [if_neg (by decide)] at h;rw [if_neg (by decide), if_neg (by decide), fillB_off d bs ds fs hl' (by omega)];rfl
def missN (o : Nat) : Nat := if 0 < o &&& 2 then 0 else if 0 < o &&& 128 then 5 else 6
def takesL (o m : Nat) : List Bool := [takeB o 0 && !decide (0 = m), takeB o 1 && !decide (1 = m), takeB o 2 && !decide (2 = m), takeB o 3 && !decide (3 = m), takeB o 4 && !decide (4 = m), takeB o 5 && !decide (5 = m)]
def fillS (fs : List ByteArray) (o : Nat) : Option (List ByteArray) :=
 if fs.length = takenC o 6 then some (fillB (takesL o 6) defaultsL fs)
 else if missN o = 6 ∨ fs.length + 1 ≠ takenC o 6 then none
 else some (fillB (takesL o (missN o)) defaultsL fs)
def optsFit (o : Nat) : Bool :=
 (0 < o &&& 128 && 0 < o &&& 2) || (decide (takenN (optAll o) placesL = takenC o 6) && decide ((placesL.map fun p => decide (0 < optAll o &&& p)) = takesL o 6) && decide (cnt (takesL o 6) = takenC o 6) &&
  decide (nOpt o = if missN o = 6 then 0 else 1) && decide (missN o = 0 ∨ missN o = 5 ∨ missN o = 6) && decide (missN o = 0 → takeB o 0 = true) && decide (missN o = 5 → takeB o 5 = true ∧ 0 < optAll o &&& 128) && decide (missN o = 0 → ¬ 0 < optAll o &&& 128) &&
  decide (missN o ≠ 6 → 1 ≤ takenC o 6))
set_option maxRecDepth 100000 in
theorem opts_all : ∀ o : Fin 512, optsFit o.val = true := by decide +kernel
theorem norm_is (fs : List ByteArray) (o : Nat) (ho : o < 512) (h2 : ¬ (0 < o &&& 128 ∧ 0 < o &&& 2)) : normF fs o = fillS fs o := by
 have hfit := opts_all ⟨o, ho⟩;simp only [optsFit, Bool.or_eq_true, Bool.and_eq_true, decide_eq_true_eq] at hfit
 rcases hfit with hfit | hfit
 ·exact absurd hfit h2
 obtain ⟨⟨⟨⟨⟨⟨⟨⟨a1, a2⟩, a3⟩, a4⟩, a5⟩, a6⟩, a7⟩, a8⟩, a9⟩ := hfit;unfold normF fillS;rw [a1, a4]
 by_cases hm : missN o = 6
 ·rw [if_pos hm, if_neg (show ¬ (1 < 0) by omega)]
  by_cases hl : fs.length = takenC o 6
  ·rw [if_pos hl, if_neg (show ¬ (fs.length < takenC o 6 - 0 ∨ takenC o 6 < fs.length) by omega), if_neg (show ¬ (0 < 0 ∧ fs.length = takenC o 6 - 0) by omega), fillL_B, a2]
  ·rw [if_neg hl, if_pos (show missN o = 6 ∨ fs.length + 1 ≠ takenC o 6 from .inl hm), if_pos (show fs.length < takenC o 6 - 0 ∨ takenC o 6 < fs.length by omega)]
 ·have h1 := a9 hm;rw [if_neg hm, if_neg (show ¬ (1 < 1) by omega)]
  by_cases hl : fs.length = takenC o 6
  ·rw [if_pos hl, if_neg (show ¬ (fs.length < takenC o 6 - 1 ∨ takenC o 6 < fs.length) by omega), if_neg (show ¬ (0 < 1 ∧ fs.length = takenC o 6 - 1) by omega), fillL_B, a2]
  ·rw [if_neg hl]
   by_cases hl1 : fs.length + 1 = takenC o 6
   ·rw [if_neg (show ¬ (fs.length < takenC o 6 - 1 ∨ takenC o 6 < fs.length) by omega), if_neg (show ¬ (missN o = 6 ∨ fs.length + 1 ≠ takenC o 6) from fun h => by rcases h with h | h <;> omega), if_pos (show 0 < 1 ∧ fs.length = takenC o 6 - 1 from ⟨by omega, by omega⟩)]
    congr 1
    rcases a5 with h0 | h5 | h6
    ·rw [if_neg (a8 h0), fillL_B, a2, h0];have ht := a6 h0;unfold takesL;rw [ht];rfl
    ·rw [if_pos (a7 h5).2, fillL_B, a2, h5];have ht := (a7 h5).1
     have hc : cnt (takesL o 6) = cnt [takeB o 0, takeB o 1, takeB o 2, takeB o 3, takeB o 4] + 1 := by
      unfold takesL;rw [ht];generalize takeB o 0 = b0;generalize takeB o 1 = b1;generalize takeB o 2 = b2;generalize takeB o 3 = b3;generalize takeB o 4 = b4
      cases b0 <;> cases b1 <;> cases b2 <;> cases b3 <;> cases b4 <;> rfl
     have e1 : takesL o 6 = [takeB o 0, takeB o 1, takeB o 2, takeB o 3, takeB o 4] ++ [true] := by
      unfold takesL;rw [ht];simp
     have e2 : takesL o 5 = [takeB o 0, takeB o 1, takeB o 2, takeB o 3, takeB o 4] ++ [false] := by
      unfold takesL;rw [ht];simp
     have e3 : defaultsL = [⟨#[48]⟩, ⟨#[48]⟩, ⟨#[48]⟩, ⟨#[42]⟩, ⟨#[42]⟩] ++ [⟨#[42]⟩] := rfl;rw [e1, e2, e3, fillB_last _ _ _ _ _ rfl (by omega), fillB_off _ _ _ _ rfl (by omega)]
    ·exact absurd h6 hm
   ·rw [if_pos (show fs.length < takenC o 6 - 1 ∨ takenC o 6 < fs.length by omega), if_pos (show missN o = 6 ∨ fs.length + 1 ≠ takenC o 6 from .inr hl1)]
end Go.Proofs.YtmecbmgfacpecaaGreatDoor.Cron
