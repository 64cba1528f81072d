/- Lemmas and walks on the way to the law, merged by wip/tools/pack.py: Normal, Parse, Parser. Conditions: none. -/
import Derived.Test.YtmecbmgfacpecaaGreatDoorGrK
import Derived.OwnWalk
import Derived.Laws.MakeOwn
import Derived.Laws.AppendOwnNone
import Derived.Laws.OwnMore
import Derived.Laws.CopyOwn
import Derived.Deep.DeepCutAuto
import Derived.Deep.DeepMust
import Derived.Outline
import Derived.Test.YtmecbmgfacpecaaGreatDoorGrI
import Derived.Test.YtmecbmgfacpecaaGreatDoorShelfT
import Derived.Deep.QuietTactic
import Derived.BigQuiet
import Derived.Defers
import Derived.Recover
import Derived.WalkLawsBesides
import Derived.Lib.Hide
namespace Go.Proofs.YtmecbmgfacpecaaGreatDoor.Cron
open Go Go.RowKit Go.Proofs.YtmecbmgfacpecaaGreatDoor.Text Go.Proofs.YtmecbmgfacpecaaGreatDoor.Bits
set_option linter.unusedVariables false
theorem optS_lt {o : Nat} (h : o < 512) : optS o < 512 := by
 unfold optS
 split
 ·exact Nat.or_lt_two_pow (n := 9) h (by decide)
 ·exact h
theorem optD_lt {o : Nat} (h : o < 512) : optD o < 512 := by
 unfold optD
 split
 ·exact Nat.or_lt_two_pow (n := 9) h (by decide)
 ·exact h
theorem taken_step (q : Nat) (i : Nat) (h : i < 6) : takenN q (placesL.take (i + 1)) = takenN q (placesL.take i) + (if 0 < q &&& placesL[i]'(by simpa [placesL] using h) then 1 else 0) := by
 have hl : i < placesL.length := by simpa [placesL] using h
 unfold takenN
 rw [List.take_add_one, List.getElem?_eq_getElem hl]
 simp only [Option.toList_some, List.filter_append, List.length_append]
 congr 1
 by_cases hp : 0 < q &&& placesL[i]
 ·rw [List.filter_cons_of_pos (by simpa using hp), if_pos hp]; rfl
 ·rw [List.filter_cons_of_neg (by simpa using hp), if_neg hp]; rfl
theorem taken_le (q : Nat) (ps : List Nat) : takenN q ps ≤ ps.length := List.length_filter_le _ _
set_option maxRecDepth 100000 in
theorem opt_bit_all : ∀ o : Fin 512, nOpt o.val = 1 → ¬ 0 < optAll o.val &&& 128 → 0 < optAll o.val &&& 2 := by decide +kernel
set_option maxRecDepth 100000 in
theorem opt_min_all : ∀ o : Fin 512, nOpt o.val ≤ takenN (optAll o.val) placesL := by decide +kernel
theorem opt_bit {o : Nat} (h : o < 512) : nOpt o = 1 → ¬ 0 < optAll o &&& 128 → 0 < optAll o &&& 2 := opt_bit_all ⟨o, h⟩
theorem opt_min {o : Nat} (h : o < 512) : nOpt o ≤ takenN (optAll o) placesL := opt_min_all ⟨o, h⟩
theorem places_lt (i : Nat) (h : i < placesL.length) : placesL[i] < 512 := by
 have : ∀ p ∈ placesL, p < 512 := by decide
 exact this _ (List.getElem_mem h)
theorem own_below {w w' : World} {base : Nat} {e : TypeId} {size n : Nat} {v : Value} {xs : List Value} (h : w.ownsRow base e size v n xs) (hb : Below w.heap.size w w') : w'.ownsRow base e size v n xs := by
 refine ⟨h.1, ?_⟩
 rcases h.2 with h0 | ⟨g, cap, cur, hv, hbg, hg, rest⟩
 ·exact .inl h0
 ·exact .inr ⟨g, cap, cur, hv, hbg, (hb.block g (Array.getElem?_eq_some_iff.1 hg).1).trans hg, rest⟩
theorem own_slice {w : World} {base : Nat} {e : TypeId} {v : Value} {n : Nat} {xs : List Value} (h : w.ownsRow base e 1 v n xs) : ∃ A c, v = .slice A n c := by
 rcases h.2 with ⟨rfl, h0⟩ | ⟨g, cap, cur, rfl, _⟩
 ·exact ⟨none, 0, by rw [h0]⟩
 ·exact ⟨_, cap, rfl⟩
theorem taken_take_le (q : Nat) (ps : List Nat) (i : Nat) : takenN q (ps.take i) ≤ takenN q ps :=
 List.Sublist.length_le (List.Sublist.filter _ (List.take_sublist i ps))
theorem Ints.put {w : World} {g n cap : Nat} {l : List Nat} (h : Ints w g n cap l) {k j : Nat} (hk : g ≠ k) (v : Value) : Ints (w.setCell ⟨k, j, none⟩ v) g n cap l :=
 ⟨h.len, by simpa using h.lt, fun i x hx => by
  have := h.at_ i x hx
  unfold World.cell? at this ⊢
  rw [heap_setCell_other w ⟨k, j, none⟩ g v hk]
  exact this⟩
theorem row_put {w : World} {g i : Nat} {L : List ByteArray} {T : TypeId} (x : ByteArray) (h : w.heap[g]? = some (.cells (L.map Value.string).toArray T (0, 0))) : (w.setCell ⟨g, i, none⟩ (.string x)).heap[g]? = some (.cells ((L.set i x).map Value.string).toArray T (0, 0)) := by
 rw [heap_setCell_same w g i _ _ _ h, List.map_set, List.setIfInBounds_toArray]
def NormAnswer (base ge : Nat) (w : World) (r : Option (List ByteArray)) (e : Ending) (w' : World) : Prop :=
 (match r with
  | some l => ∃ g c, e = .returned (.tuple #[.slice (some ⟨g, 0, none⟩) 6 c, .nilIface]) ∧ w.heap.size ≤ g ∧ Texts w' g 6 c l
  | none => ∃ t x, e = .returned (.tuple #[.slice none 0 0, .iface t x])) ∧ Below base w w' ∧ w'.heap[ge]? = w.heap[ge]?
set_option maxRecDepth 100000 in
set_option maxHeartbeats 4000000 in
theorem normal_any (o : Nat) (ho : o < 512) (fs : List ByteArray) (v : Value) (w : World) (base : Nat) (hown : w.ownsRow base 9 1 v fs.length (fs.map Value.string)) (hfs : fs.length ≤ 4294967296) (hbase : base ≤ w.heap.size) (ge : Nat) (hgeB : ge < w.heap.size) (hrow : v.ownBlock ≠ some ge) :
  Calls Tryz.prog 103 #[v, .int .i64 o] w (NormAnswer base ge w (normF fs o)) := by
 have hS := optS_lt ho
 obtain ⟨A, cv, rfl⟩ : ∃ A cv, v = .slice A fs.length cv := by
  rcases hown.2 with ⟨rfl, h0⟩ | ⟨g, cap, cur, rfl, _⟩
  ·exact ⟨none, 0, by rw [h0]⟩
  ·exact ⟨_, cap, rfl⟩
 have hand1 : bits .and .i64 (o : Int) 2 = ((o &&& 2 : Nat) : Int) := and_i64 (b := 2) (by omega) (by decide)
 have hor1 : bits .or .i64 (o : Int) 1 = ((o ||| 1 : Nat) : Int) := or_i64 (b := 1) (by omega) (by decide)
 have hand2 : bits .and .i64 (optS o : Int) 128 = ((optS o &&& 128 : Nat) : Int) := and_i64 (b := 128) (by omega) (by decide)
 have hor2 : bits .or .i64 (optS o : Int) 64 = ((optS o ||| 64 : Nat) : Int) := or_i64 (b := 64) (by omega) (by decide)
 go_enter Tryz.func103, Tryz.ntmps103
 go_upto_if 18 with fail
 go_cut [1, 6] (fun v1 v6 wc => v1 = .int .i64 (optS o : Nat) ∧ v6 = .int .i64 ((if 0 < o &&& 2 then 1 else 0 : Nat) : Int) ∧ w = wc)
 case first =>
  by_cases h : 0 < o &&& 2
  ·have hs : optS o = o ||| 1 := by unfold optS; rw [if_pos h]
   have HS := Lib.hid hs
   have hp : (0 : Int) < ((o &&& 2 : Nat) : Int) := by omega
   clear hs hS hand2 hor2
   go_wp2_with fail
   go_meet
   exact ⟨by rw [HS.out], by rw [if_pos h]; rfl, rfl⟩
  ·have hs : optS o = o := by unfold optS; rw [if_neg h]
   have HS := Lib.hid hs
   have hp : ¬ (0 : Int) < ((o &&& 2 : Nat) : Int) := by omega
   clear hs hS hand2 hor2
   go_wp2_with fail
   go_meet
   exact ⟨by rw [HS.out], by rw [if_neg h]; rfl, rfl⟩
 case rest =>
  obtain ⟨rfl, rfl, rfl⟩ := hcut
  clear hand1 hor1
  go_upto_if 25 with fail
  go_cut [1, 6] (fun v1 v6 wc => v1 = .int .i64 (optAll o : Nat) ∧ v6 = .int .i64 (nOpt o : Nat) ∧ w = wc)
  case first =>
   by_cases h : 0 < optS o &&& 128
   ·have hs : optAll o = optS o ||| 64 := by unfold optAll optD; rw [if_pos h]
    have hn : nOpt o = (if 0 < o &&& 2 then 1 else 0) + 1 := by unfold nOpt; rw [if_pos h]
    have HS := Lib.hid hs
    have HN := Lib.hid hn
    have hp : (0 : Int) < ((optS o &&& 128 : Nat) : Int) := by omega
    have hq : (if 0 < o &&& 2 then 1 else 0) ≤ 1 := by split <;> omega
    clear hs hn hS
    generalize optS o = o1 at *
    generalize (if 0 < o &&& 2 then 1 else 0) = n1 at *
    go_wp2_with fail
    go_meet
    exact ⟨by rw [HS.out], by rw [HN.out]; rfl, rfl⟩
   ·have hs : optAll o = optS o := by unfold optAll optD; rw [if_neg h]
    have hn : nOpt o = (if 0 < o &&& 2 then 1 else 0) := by unfold nOpt; rw [if_neg h]; rfl
    have HS := Lib.hid hs
    have HN := Lib.hid hn
    have hp : ¬ (0 : Int) < ((optS o &&& 128 : Nat) : Int) := by omega
    clear hs hn hS
    generalize optS o = o1 at *
    generalize (if 0 < o &&& 2 then 1 else 0) = n1 at *
    go_wp2_with fail
    go_meet
    exact ⟨by rw [HS.out], by rw [HN.out], rfl⟩
  case rest =>
   obtain ⟨rfl, rfl, rfl⟩ := hcut
   clear hand2 hor2
   by_cases hmany : 1 < nOpt o
   ·have HX : Hid (normF fs o = none) := Lib.hid (by unfold normF; rw [if_pos hmany])
    go_wp2_with (go_at_call 96; refine (errorsNew_any _ _).mono ?_; rintro e w1 ⟨t, x, rfl, hb1⟩)
    go_ret2
    refine ⟨?_, hb1.mono hbase, hb1.block ge hgeB⟩
    rw [HX.out]
    exact ⟨t, x, rfl⟩
   ·have hq := optD_lt hS
    have HN1 : Hid (nOpt o ≤ 1) := Lib.hid (by omega)
    have HNF : Hid (normF fs o = if fs.length < takenN (optAll o) placesL - nOpt o ∨ takenN (optAll o) placesL < fs.length then none
      else some (fillL (optAll o) placesL defaultsL (if 0 < nOpt o ∧ fs.length = takenN (optAll o) placesL - nOpt o then (if 0 < optAll o &&& 128 then fs ++ [⟨#[42]⟩] else ⟨#[48]⟩ :: fs) else fs))) := Lib.hid (by unfold normF; rw [if_neg hmany])
    have HBIT : Hid (nOpt o = 1 → ¬ 0 < optAll o &&& 128 → 0 < optAll o &&& 2) := Lib.hid (opt_bit ho)
    have HMIN : Hid (nOpt o ≤ takenN (optAll o) placesL) := Lib.hid (opt_min ho)
    change optAll o < 512 at hq
    generalize hR : normF fs o = R at *
    clear hR
    generalize optAll o = q at *
    generalize nOpt o = n1 at *
    clear hS ho
    go_wp2_with (go_at_call 148; go_must (refine (places_any _).mono ?_); rintro e w1 ⟨g1, c1, rfl, hg1, hp1, hb1⟩)
    go_loop [7, 35] (fun v7 v35 => ∃ i : Nat, v35 = .int .i64 i ∧ i ≤ 6 ∧ v7 = .int .i64 (takenN q (placesL.take i) : Nat)) (fun _ v35 => 6 - (intOf v35).toNat)
    case atStart => exact ⟨0, rfl, by omega, rfl⟩
    case round =>
     obtain ⟨i, rfl, hi, rfl⟩ := hrel
     have htl := taken_le q (placesL.take i)
     have htl2 : (placesL.take i).length ≤ 6 := by rw [List.length_take]; simp [placesL]; omega
     by_cases h6 : i < 6
     ·have hl : i < placesL.length := by simpa [placesL] using h6
      have hc := hp1.at_ i _ (List.getElem?_eq_getElem hl)
      have hst := Lib.hid (taken_step q i h6)
      have hpl := places_lt i hl
      generalize placesL[i] = p at *
      have hand : bits .and .i64 (q : Int) (p : Int) = ((q &&& p : Nat) : Int) := and_i64 (by omega) (by omega)
      by_cases hpos : 0 < q &&& p
      ·have hpi : (0 : Int) < ((q &&& p : Nat) : Int) := by omega
       have HT : Hid (takenN q (placesL.take (i + 1)) = takenN q (placesL.take i) + 1) := Lib.hid (by rw [hst.out, if_pos hpos])
       clear hst
       generalize takenN q (placesL.take i) = tn at *
       go_wp2_with fail
       go_round
       case rel => exact ⟨i + 1, by go_num, by omega, by rw [HT.out]; go_num⟩
       case measure => simp [intOf]; omega
      ·have hpi : ¬ (0 : Int) < ((q &&& p : Nat) : Int) := by omega
       have HT : Hid (takenN q (placesL.take (i + 1)) = takenN q (placesL.take i)) := Lib.hid (by rw [hst.out, if_neg hpos]; rfl)
       clear hst
       generalize takenN q (placesL.take i) = tn at *
       go_wp2_with fail
       go_round
       case rel => exact ⟨i + 1, by go_num, by omega, by rw [HT.out]⟩
       case measure => simp [intOf]; omega
     ·have hi6 : i = 6 := by omega
      subst hi6
      have htk : takenN q (placesL.take 6) = takenN q placesL := rfl
      rw [htk]
      clear htk htl htl2 h6
      have htm := taken_le q placesL
      have hpm : placesL.length = 6 := rfl
      generalize hmx : takenN q placesL = mx at *
      have HMX := Lib.hid hmx
      clear hmx
      have hnm := HMIN.out
      have hn1 := HN1.out
      by_cases hbad : fs.length < mx - n1 ∨ mx < fs.length
      ·have HX : Hid (R = none) := Lib.hid (by rw [HNF.out, if_pos hbad])
       clear HNF HBIT
       go_wp2_with (go_at_call 96; refine (errorsNew_any _ _).mono ?_; rintro e w2 ⟨t, x, rfl, hb2⟩)
       all_goals
        go_ret2
        refine ⟨?_, (below_of_le hb1 hb2).mono hbase, (below_of_le hb1 hb2).block ge hgeB⟩
        rw [HX.out]
        exact ⟨t, x, rfl⟩
      ·have HR : Hid (R = some (fillL q placesL defaultsL (if 0 < n1 ∧ fs.length = mx - n1 then (if 0 < q &&& 128 then fs ++ [⟨#[42]⟩] else ⟨#[48]⟩ :: fs) else fs))) := Lib.hid (by rw [HNF.out, if_neg hbad])
       have hge : mx - n1 ≤ fs.length := by omega
       have hle : fs.length ≤ mx := by omega
       clear HNF hbad hmany
       go_upto_region 23 with fail
       obtain ⟨wo, rfl⟩ : ∃ wo : World, wo = w1 := ⟨_, rfl⟩
       go_cut [72] (fun v72 wc => ∃ b : Bool, v72 = .bool b ∧ Hid (b = decide (0 < n1 ∧ fs.length = mx - n1)) ∧ wo = wc)
       case first =>
        by_cases hopt : 0 < n1 ∧ fs.length = mx - n1
        ·have hD := Lib.hid (decide_eq_true hopt)
         obtain ⟨ho1, ho2⟩ := hopt
         have h1 : ((mx : Int) - n1 < mx) := by omega
         have h2 : ((fs.length : Int) == (mx : Int) - n1) = true := by simp; omega
         clear ho1 ho2
         go_wp2_with fail
         go_meet
         exact ⟨_, rfl, Lib.hid hD.out.symm, rfl⟩
        ·have hD := Lib.hid (decide_eq_false hopt)
         by_cases h0 : n1 = 0
         ·have h1 : ¬ ((mx : Int) - n1 < mx) := by omega
          clear h0 hopt
          go_wp2_with fail
          go_meet
          exact ⟨_, rfl, Lib.hid hD.out.symm, rfl⟩
         ·have h1 : ((mx : Int) - n1 < mx) := by omega
          have h2 : ((fs.length : Int) == (mx : Int) - n1) = false := by simp; omega
          clear h0 hopt
          go_wp2_with fail
          go_meet
          exact ⟨_, rfl, Lib.hid hD.out.symm, rfl⟩
       case rest =>
       obtain ⟨b72, rfl, HB72, rfl⟩ := hcut
       go_upto_if 72 with fail
       obtain ⟨wo2, rfl⟩ : ∃ wo2 : World, wo2 = wo := ⟨_, rfl⟩
       go_cut [0] (fun v0 wc => ∃ A2 c2, v0 = .slice A2 (if 0 < n1 ∧ fs.length = mx - n1 then (if 0 < q &&& 128 then fs ++ [⟨#[42]⟩] else ⟨#[48]⟩ :: fs) else fs).length c2 ∧
        Hid (wc.ownsRow base 9 1 (.slice A2 (if 0 < n1 ∧ fs.length = mx - n1 then (if 0 < q &&& 128 then fs ++ [⟨#[42]⟩] else ⟨#[48]⟩ :: fs) else fs).length c2) (if 0 < n1 ∧ fs.length = mx - n1 then (if 0 < q &&& 128 then fs ++ [⟨#[42]⟩] else ⟨#[48]⟩ :: fs) else fs).length ((if 0 < n1 ∧ fs.length = mx - n1 then (if 0 < q &&& 128 then fs ++ [⟨#[42]⟩] else ⟨#[48]⟩ :: fs) else fs).map Value.string)) ∧ Below base w wc ∧ w.heap.size ≤ wc.heap.size ∧ wc.heap[ge]? = w.heap[ge]?)
       case first =>
        have hown1 := own_below hown hb1
        have hB1 : Below base w wo2 := hb1.mono hbase
        cases b72 with
        | true =>
         have HO : Hid (0 < n1 ∧ fs.length = mx - n1) := Lib.hid (of_decide_eq_true HB72.out.symm)
         have hflen : fs.length ≤ 6 := by omega
         obtain ⟨i0, hi0, hz0, hz1, hz2⟩ := info_parts info_string
         by_cases h128 : 0 < q &&& 128
         ·have hand : bits .and .i64 (q : Int) 128 = ((q &&& 128 : Nat) : Int) := and_i64 (b := 128) (by omega) (by decide)
          have hpos : (0 : Int) < ((q &&& 128 : Nat) : Int) := by omega
          go_wp2_with fail
          refine (defaults_any _).mono ?_
          rintro e w3 ⟨gd, cd, rfl, hgd, htd, hb3⟩
          have hd5 : w3.cell? ⟨gd, 5, none⟩ = some (.string ⟨#[42]⟩) := htd.at_ 5 _ rfl
          have hown3 := own_below hown1 hb3
          have hbase3 : base ≤ w3.heap.size := by have := hb1.size; have := hb3.size; omega
          have hB3 : Below base w w3 := hB1.trans (hb3.mono (by have := hb1.size; omega))
          clear htd
          go_wp2_with (at_builtin; refine wpList_append_own _ rfl _ _ 33 rfl base 9 i0 (.string ⟨#[]⟩) 1 16 Tryz.underlying33 hi0 hz0 hz1 hz2 rfl (by decide) (.slice A fs.length cv) fs.length (fs.map Value.string) rfl (hown3.alloc _) ⟨w3.heap.size, 0, none⟩ 1 1 [_] rfl rfl (one_new w3 _ _) (by intro u hu; simp at hu; subst hu; rfl) (by unfold maxLen; omega) (by omega) (by simp; omega) ?_; intro v' w4 hown' hgrow _)
          obtain ⟨A2, c2, rfl⟩ := own_slice hown'
          have hg13 : ge < w3.heap.size := by have := hb1.size; have := hb3.size; omega
          have hk4 : w4.heap[ge]? = w.heap[ge]? := (hgrow.block ge (by simp; omega) (fun e => hrow e.symm)).trans (((Below.refl w3.heap.size w3).alloc (Nat.le_refl _) _ |>.block ge hg13).trans ((hb3.block ge (by have := hb1.size; omega)).trans (hb1.block ge hgeB)))
          have hB4 : Below base w w4 := (hB3.alloc hbase3 _).grown hgrow (by simp; omega) (fun k hk => (hown3.lt k hk).1)
          have hz4 : w.heap.size ≤ w4.heap.size := hB4.size
          clear hown3 hgrow hB3 hb3 hd5
          go_wp2_with fail
          go_meet
          refine ⟨A2, c2, ?_, Lib.hid ?_, hB4, hz4, hk4⟩
          ·rw [if_pos HO.out, if_pos h128, List.length_append]; rfl
          ·rw [if_pos HO.out, if_pos h128, List.length_append, List.map_append]; exact hown'
         ·have hand : bits .and .i64 (q : Int) 128 = ((q &&& 128 : Nat) : Int) := and_i64 (b := 128) (by omega) (by decide)
          have hneg : ¬ (0 : Int) < ((q &&& 128 : Nat) : Int) := by omega
          have hand2 : bits .and .i64 (q : Int) 2 = ((q &&& 2 : Nat) : Int) := and_i64 (b := 2) (by omega) (by decide)
          have hbit := HBIT.out (by have := HO.out.1; omega) h128
          have hpos : (0 : Int) < ((q &&& 2 : Nat) : Int) := by omega
          go_wp2_with fail
          refine (defaults_any _).mono ?_
          rintro e w3 ⟨gd, cd, rfl, hgd, htd, hb3⟩
          have hd0 : w3.cell? ⟨gd, 0, none⟩ = some (.string ⟨#[48]⟩) := htd.at_ 0 _ rfl
          have hown3 := own_below hown1 hb3
          have hbase3 : base ≤ w3.heap.size := by have := hb1.size; have := hb3.size; omega
          have hB3 : Below base w w3 := hB1.trans (hb3.mono (by have := hb1.size; omega))
          have hlit : (w3.alloc (.cells #[.string ⟨#[48]⟩] 9)).ownsRow base 9 1 (.slice (some ⟨w3.heap.size, 0, none⟩) 1 1) 1 [.string ⟨#[48]⟩] := World.ownsRow_lit w3 #[.string ⟨#[48]⟩] 1 hbase3 (by decide) rfl
          clear htd
          have hnm2 := HO.out
          have hones : ∀ u ∈ fs.map Value.string, u.oneCell' = true := by
           intro u hu
           rw [List.mem_map] at hu
           obtain ⟨x, _, rfl⟩ := hu
           rfl
          rcases hown3.2 with ⟨he, h0⟩ | ⟨g, cap, cur, he, _⟩
          ·injection he with e1 e2 e3
           have hnil : fs = [] := List.length_eq_zero_iff.1 h0
           have HNIL := Lib.hid hnil
           subst e1
           subst e3
           rw [h0] at hown3
           clear hnil hnm2 h0 e2
           have HL0 : Hid (fs.length = 0) := Lib.hid (by rw [HNIL.out]; rfl)
           have hB4 : Below base w (w3.alloc (.cells #[.string ⟨#[48]⟩] 9)) := hB3.alloc hbase3 _
           have hz4 := hB4.size
           have hg13 : ge < w3.heap.size := by have := hb1.size; have := hb3.size; omega
           have hk4 : (w3.alloc (.cells #[.string ⟨#[48]⟩] 9)).heap[ge]? = w.heap[ge]? := ((Below.refl w3.heap.size w3).alloc (Nat.le_refl _) _ |>.block ge hg13).trans ((hb3.block ge (by have := hb1.size; omega)).trans (hb1.block ge hgeB))
           go_wp2_with (at_builtin; refine wpList_append_own_none rfl _ _ 33 rfl base 9 i0 1 Tryz.underlying33 hi0 (.slice (some ⟨w3.heap.size, 0, none⟩) 1 1) 1 [.string ⟨#[48]⟩] rfl hlit (congrArg (fun n => Value.slice none n 0) HL0.out) ?_)
           go_meet
           refine ⟨some ⟨w3.heap.size, 0, none⟩, 1, ?_, Lib.hid ?_, hB4, hz4, hk4⟩
           ·rw [if_pos HO.out, if_neg h128, HNIL.out]; rfl
           ·rw [if_pos HO.out, if_neg h128, HNIL.out]; exact hlit
          ·injection he with e1 e2 e3
           subst e1
           subst e3
           clear hnm2 e2
           have hcells := (hown3.alloc (.cells #[.string ⟨#[48]⟩] 9)).cells (g := g) rfl
           go_wp2_with (at_builtin; refine wpList_append_own _ rfl _ _ 33 rfl base 9 i0 (.string ⟨#[]⟩) 1 16 Tryz.underlying33 hi0 hz0 hz1 hz2 rfl (by decide) (.slice (some ⟨w3.heap.size, 0, none⟩) 1 1) 1 [.string ⟨#[48]⟩] rfl hlit ⟨g, 0, none⟩ fs.length cv (fs.map Value.string) rfl (by simp) hcells hones (by unfold maxLen; omega) (by omega) (by simp; omega) ?_; intro v' w4 hown' hgrow _)
           obtain ⟨A2, c2, rfl⟩ := own_slice hown'
           have hg13 : ge < w3.heap.size := by have := hb1.size; have := hb3.size; omega
           have hk4 : w4.heap[ge]? = w.heap[ge]? := (hgrow.block ge (by simp; omega) (fun e => by simp [Value.ownBlock] at e; omega)).trans (((Below.refl w3.heap.size w3).alloc (Nat.le_refl _) _ |>.block ge hg13).trans ((hb3.block ge (by have := hb1.size; omega)).trans (hb1.block ge hgeB)))
           have hB4 : Below base w w4 := (hB3.alloc hbase3 _).grown hgrow (by simp; omega) (fun k hk => (hlit.lt k hk).1)
           have hz4 : w.heap.size ≤ w4.heap.size := hB4.size
           clear hown3 hgrow hB3 hb3 hd0 hcells
           go_wp2_with fail
           go_meet
           refine ⟨A2, c2, ?_, Lib.hid ?_, hB4, hz4, hk4⟩
           ·rw [if_pos HO.out, if_neg h128, List.length_cons, Nat.add_comm]
           ·rw [if_pos HO.out, if_neg h128, List.length_cons, List.map_cons, Nat.add_comm]; exact hown'
        | false =>
         have HO : Hid (¬ (0 < n1 ∧ fs.length = mx - n1)) := Lib.hid (of_decide_eq_false HB72.out.symm)
         go_wp2_with fail
         go_meet
         refine ⟨A, cv, ?_, Lib.hid ?_, hB1, hb1.size, hb1.block ge hgeB⟩
         ·rw [if_neg HO.out]
         ·rw [if_neg HO.out]; exact hown1
       case rest =>
        obtain ⟨A2, c2, rfl, HOWN, hB2, hz2w, hk2⟩ := hcut
        have HK2 := Lib.hid hk2
        clear hk2
        obtain ⟨i0, hi0, hz0, hz1, hz2⟩ := info_parts info_string
        have hmk := fun w' : World => run_make w' 33 9 i0 (.string ⟨#[]⟩) Tryz.underlying33 hi0 hz0 .i64 .i64 6 6 (by omega) (by omega) (by rw [hz2]; omega) (by omega)
        rw [hz1] at hmk
        generalize hf2 : (if 0 < n1 ∧ fs.length = mx - n1 then (if 0 < q &&& 128 then fs ++ [⟨#[42]⟩] else ⟨#[48]⟩ :: fs) else fs) = f2 at *
        have HLEN : Hid (f2.length = mx) := Lib.hid (by
         rw [← hf2]
         split
         ·rename_i hc
          obtain ⟨hc1, hc2⟩ := hc
          split
          ·rw [List.length_append, List.length_singleton]; omega
          ·rw [List.length_cons]; omega
         ·rename_i hc
          omega)
        have HF2 : Hid (∀ (i : Nat) x, f2[i]? = some x → ∃ g2, A2 = some ⟨g2, 0, none⟩ ∧ g2 < wc.heap.size ∧ wc.cell? ⟨g2, i, none⟩ = some (.string x)) := Lib.hid (by
         rcases HOWN.out.2 with ⟨he, h0⟩ | ⟨g, cap, cur, he, hbg, hgc, _⟩
         ·intro i x hx
          rw [List.length_eq_zero_iff.1 h0] at hx
          cases hx
         ·intro i x hx
          injection he with e1 e2 e3
          refine ⟨g, e1, (Array.getElem?_eq_some_iff.1 hgc).1, ?_⟩
          have := HOWN.out.cells (g := g) (by rw [e1]; rfl) i _ (by rw [List.getElem?_map, hx]; rfl)
          have hadd : ((⟨g, 0, none⟩ : Addr).add i) = ⟨g, i, none⟩ := by unfold Addr.add; split <;> simp_all
          rw [hadd] at this
          exact this)
        clear hf2 HMIN HBIT HB72 hge hle hnm hn1 HN1
        have hbase2 : base ≤ wc.heap.size := by omega
        go_wp2_with fail
        refine (places_any _).mono ?_
        rintro e w3 ⟨g3, c3, rfl, hg3, hp3, hb3⟩
        go_wp2_with fail
        refine (defaults_any _).mono ?_
        rintro e w5 ⟨gd, cd, rfl, hgd, htd, hb5⟩
        have hrow : w5.heap[w3.heap.size]? = some (.cells (madeCells #[.string ⟨#[]⟩] 6) 9 (0, 0)) := (hb5.block w3.heap.size (by simp)).trans (heap_alloc_new w3 _)
        have hsrc : ∀ j v, (defaultsL.map Value.string)[j]? = some v → w5.cell? ((⟨gd, 0, none⟩ : Addr).add j) = some v := by
         intro j v hv
         rw [List.getElem?_map] at hv
         obtain ⟨x, hx, rfl⟩ := Option.map_eq_some_iff.1 hv
         have := htd.at_ j x hx
         have hadd : ((⟨gd, 0, none⟩ : Addr).add j) = ⟨gd, j, none⟩ := by unfold Addr.add; split <;> simp_all
         rw [hadd]
         exact this
        have hones : ∀ u ∈ defaultsL.map Value.string, u.oneCell' = true := by
         intro u hu
         rw [List.mem_map] at hu
         obtain ⟨x, _, rfl⟩ := hu
         rfl
        have hge3 : base ≤ w3.heap.size := by have := hb3.size; omega
        have hB3 : Below base w w3 := hB2.trans (hb3.mono hbase2)
        have hB5 : Below base w w5 := (hB3.alloc hge3 _).trans (hb5.mono (by simp; omega))
        have HROW := Lib.hid hrow
        have HSRC := Lib.hid hsrc
        have hsz9 : (Tryz.prog.info? 9).map (·.size) = some 1 := by rw [hi0]; simp [hz1]
        have HOWN5 : Hid (w5.ownsRow base 9 1 (.slice A2 f2.length c2) f2.length (f2.map Value.string)) := Lib.hid (own_below ((own_below HOWN.out hb3).alloc _) hb5)
        have HB5 := Lib.hid hB5
        have hle3 : wc.heap.size ≤ w3.heap.size := hb3.size
        have HBW5 : Hid (Below wc.heap.size wc w5) := Lib.hid ((hb3.alloc hb3.size _).trans (hb5.mono (by simp; omega)))
        clear hrow hsrc hb3 hb5 htd hB3 hB5 HOWN hB2
        go_wp2_with (refine wpList_copy_own rfl _ _ 33 33 rfl 9 Tryz.underlying33 hsz9 w3.heap.size 0 6 6 ⟨gd, 0, none⟩ 6 cd rfl rfl _ 9 HROW.out (defaultsL.map Value.string) rfl HSRC.out (by simp [madeCells, defaultsL]) hones ?_)
        have hdrop : (defaultsL.map Value.string ++ List.drop defaultsL.length (madeCells #[Value.string ⟨#[]⟩] 6).toList).toArray = (defaultsL.map Value.string).toArray := by simp [madeCells, defaultsL]
        have hrow6 : (w5.setRow w3.heap.size (defaultsL.map Value.string ++ List.drop defaultsL.length (madeCells #[Value.string ⟨#[]⟩] 6).toList).toArray).heap[w3.heap.size]? = some (.cells (defaultsL.map Value.string).toArray 9 (0, 0)) := by
         rw [hdrop]
         exact setRow_heap w5 _ _ _ _ _ HROW.out
        have hB6 : Below base w (w5.setRow w3.heap.size (defaultsL.map Value.string ++ List.drop defaultsL.length (madeCells #[Value.string ⟨#[]⟩] 6).toList).toArray) := below_setRow HB5.out hge3 _
        have HROW6 := Lib.hid hrow6
        have HB6 := Lib.hid hB6
        have HBW6 : Hid (Below wc.heap.size wc (w5.setRow w3.heap.size (defaultsL.map Value.string ++ List.drop defaultsL.length (madeCells #[Value.string ⟨#[]⟩] 6).toList).toArray)) := Lib.hid (below_setRow HBW5.out hle3 _)
        clear hdrop hrow6 hB6 HROW HSRC HOWN5 HBW5 HB5
        generalize w5.setRow w3.heap.size _ = w6 at *
        refine (places_any _).mono ?_
        rintro e w7 ⟨g7, c7, rfl, hg7, hp7, hb7⟩
        have hg3lt : w3.heap.size < w6.heap.size := (Array.getElem?_eq_some_iff.1 HROW6.out).1
        have HROW7 : Hid (w7.heap[w3.heap.size]? = some (.cells ((fillRow (fillL q placesL defaultsL f2) defaultsL 0).map Value.string).toArray 9 (0, 0))) := Lib.hid (by
         rw [fillRow_zero]
         exact (hb7.block _ hg3lt).trans HROW6.out)
        have HB7 : Hid (Below base w w7) := Lib.hid (HB6.out.trans (hb7.mono (by omega)))
        have HBW7 : Hid (Below wc.heap.size wc w7) := Lib.hid (HBW6.out.trans (hb7.mono (by omega)))
        have HP7 := Lib.hid hp7
        have hgne : g7 ≠ w3.heap.size := by omega
        clear HROW6 HB6 HBW6 hb7 hp7
        go_wp2_with fail
        go_loopw [12, 102] (fun v12 v102 wr => ∃ i : Nat, v102 = .int .i64 i ∧ i ≤ 6 ∧ v12 = .int .i64 (takenN q (placesL.take i) : Nat) ∧
         Hid (wr.heap[w3.heap.size]? = some (.cells ((fillRow (fillL q placesL defaultsL f2) defaultsL i).map Value.string).toArray 9 (0, 0))) ∧ Hid (Below base w wr) ∧ Hid (Below wc.heap.size wc wr) ∧ Hid (Ints wr g7 6 c7 placesL)) (fun _ v102 _ => 6 - (intOf v102).toNat)
        case atStart => exact ⟨0, rfl, by omega, rfl, HROW7, HB7, HBW7, HP7⟩
        case round =>
         obtain ⟨i, rfl, hi6, rfl, HROWr, HBr, HBWr, HPr⟩ := hrel
         clear HROW7 HB7 HBW7 HP7
         by_cases h6 : i < 6
         ·have hl : i < placesL.length := by simpa [placesL] using h6
          have hcp := HPr.out.at_ i _ (List.getElem?_eq_getElem hl)
          have hst := taken_step q i h6
          have hsl := taken_take_le q placesL (i + 1)
          have hFi := fill_at q placesL defaultsL f2 i hl rfl (by have := HLEN.out; have := HMX.out; omega)
          have hplt := places_lt i hl
          have hdl : i < defaultsL.length := by simpa [defaultsL] using h6
          have htn := taken_le q (placesL.take i)
          have htn2 : (placesL.take i).length ≤ 6 := by rw [List.length_take]; simp [placesL]; omega
          generalize placesL[i] = p at *
          have hand : bits .and .i64 (q : Int) (p : Int) = ((q &&& p : Nat) : Int) := and_i64 (by omega) (by omega)
          by_cases hpos : 0 < q &&& p
          ·rw [if_pos hpos] at hst hFi
           have hlt2 : takenN q (placesL.take i) < f2.length := by have := HLEN.out; have := HMX.out; omega
           have hx := List.getElem?_eq_getElem hlt2
           generalize f2[takenN q (placesL.take i)] = x at hx
           rw [hx] at hFi
           obtain ⟨g2, rfl, hg2, hc2⟩ := HF2.out _ x hx
           have hcr : wr.cell? ⟨g2, takenN q (placesL.take i), none⟩ = some (.string x) := (HBWr.out.cell (p := ⟨g2, takenN q (placesL.take i), none⟩) hg2).trans hc2
           have hlen6 : (fillRow (fillL q placesL defaultsL f2) defaultsL i).length = 6 := by
            unfold fillRow
            rw [List.length_append, List.length_take, List.length_drop, fill_length _ _ _ _ rfl]
            simp [placesL, defaultsL]; omega
           have hcd : ∃ d, wr.cell? ⟨w3.heap.size, i, none⟩ = some d := by
            rw [cell_of_row wr w3.heap.size i _ _ _ HROWr.out]
            exact ⟨_, Array.getElem?_eq_getElem (by simp [hlen6]; omega)⟩
           obtain ⟨d, hcd⟩ := hcd
           have hfd : wr.frozen? ⟨w3.heap.size, i, none⟩ = false := frozen_of_row _ _ _ _ _ HROWr.out
           have HT : Hid (takenN q (placesL.take (i + 1)) = takenN q (placesL.take i) + 1) := Lib.hid hst
           have HFS := Lib.hid (fillRow_set (F := fillL q placesL defaultsL f2) (ds := defaultsL) hFi hdl)
           have hpi : (0 : Int) < ((q &&& p : Nat) : Int) := by omega
           clear hst hsl hFi hx hc2 hlen6
           generalize takenN q (placesL.take i) = tn at *
           go_wp2_with fail
           go_roundw
           case rel =>
            refine ⟨i + 1, by go_num, by omega, by rw [HT.out]; go_num, Lib.hid ?_, Lib.hid (HBr.out.setCell hge3 _), Lib.hid (HBWr.out.setCell hle3 _), Lib.hid (HPr.out.put hgne _)⟩
            rw [← HFS.out]
            exact row_put x HROWr.out
           case measure => simp [intOf]; omega
          ·rw [if_neg hpos] at hst hFi
           have hpi : ¬ (0 : Int) < ((q &&& p : Nat) : Int) := by omega
           have HT : Hid (takenN q (placesL.take (i + 1)) = takenN q (placesL.take i)) := Lib.hid hst
           have HFS := Lib.hid (fillRow_same (F := fillL q placesL defaultsL f2) (ds := defaultsL) (hFi.trans (List.getElem?_eq_getElem hdl)) (List.getElem?_eq_getElem hdl))
           clear hst hsl hFi
           generalize takenN q (placesL.take i) = tn at *
           go_wp2_with fail
           go_roundw
           case rel => exact ⟨i + 1, by go_num, by omega, by rw [HT.out], Lib.hid (by rw [HFS.out]; exact HROWr.out), HBr, HBWr, HPr⟩
           case measure => simp [intOf]; omega
         ·have hi : i = 6 := by omega
          subst hi
          have hend := fillRow_end (F := fillL q placesL defaultsL f2) (ds := defaultsL) (i := 6) (by rw [fill_length _ _ _ _ rfl]; simp [placesL]) (by simp [defaultsL])
          have hrowF := HROWr.out
          rw [hend] at hrowF
          have HT : Hid (Texts wr w3.heap.size 6 6 (fillL q placesL defaultsL f2)) := Lib.hid ⟨by rw [fill_length _ _ _ _ rfl]; rfl, Nat.le_refl _, (Array.getElem?_eq_some_iff.1 hrowF).1, fun j x hx => by
           rw [cell_of_row wr w3.heap.size j _ _ _ hrowF]
           simp [hx]⟩
          clear hend hrowF h6
          go_wp2_with fail
          go_ret2
          refine ⟨?_, HBr.out, (HBWr.out.block ge (by omega)).trans HK2.out⟩
          rw [HR.out]
          exact ⟨w3.heap.size, 6, rfl, by omega, HT.out⟩
end Go.Proofs.YtmecbmgfacpecaaGreatDoor.Cron
namespace Go.Proofs.YtmecbmgfacpecaaGreatDoor.Cron
open Go Go.RowKit Go.Proofs.YtmecbmgfacpecaaGreatDoor.Text Go.Proofs.YtmecbmgfacpecaaGreatDoor.Bits Go.Proofs.YtmecbmgfacpecaaGreatDoorW.PrintWords Go.Proofs.YtmecbmgfacpecaaGreatDoorW.PrintLast Go.Proofs.YtmecbmgfacpecaaGreatDoorW.PrintMore
set_option linter.unusedVariables false
set_option linter.unusedSimpArgs false
section
variable {P : Program} {ops : Array Oper} {Q : Exit → Act → World → Prop}
theorem goesV_ {oi : Oper} {N : Option Tmp} {a : Act} {w : World} {K : Act → World → Prop} {f : FuncId} {fn : Func} {x : Operand} {xs : Array Operand} {ts : Array TypeId} (hf : P.funcs[f]? = some fn) (hname : (fn.name == "runtime.NumGoroutine") = false) (hb : fn.body.isSome = true) (args cap all : Array Value) (hall : args ++ cap = all)
  (hx : a.eval x = .func (.func f) #[] cap)
  (hw : Region.wanted oi (yielded ops a.tmps) = true) (hN : oi.dst = N) (hop : oi.op = .call { callee := .value x, args := xs, argTypes := ts }) (hargs : xs.map a.eval = args)
  (h : Calls P f all w fun e w' => ∃ v, e = .returned v ∧ K (a.put N v) w') : if Region.wanted oi (yielded ops a.tmps) = true then Oper.wp P oi a w K Q else K (a.put N undef) w := by
 subst hall
 refine call_ f (args ++ cap) hw hN ?_ h
 have he := enters_ hf hname hb (args ++ cap) w
 unfold execOp
 simp [hop, resolve, Deferred.ofValue, invoke, hx, hargs, he]
end
def ErrSt (v : Value) (ok : Bool) : Prop := if ok = true then v = .nilIface else ∃ t x, v = .iface t x
theorem errSt_ok {v : Value} {ok : Bool} (h : ErrSt v ok) (e : ok = true) : v = .nilIface := by unfold ErrSt at h; rw [if_pos e] at h; exact h
theorem errSt_bad {v : Value} {ok : Bool} (h : ErrSt v ok) (e : ok = false) : ∃ t x, v = .iface t x := by unfold ErrSt at h; rw [if_neg (by rw [e]; decide)] at h; exact h
theorem closureErr_any (s : ByteArray) (b : Value) (lo hi : Nat) (m : Option Nat) (g : Nat) (t : TypeId) (x : Value) (w : World) (hg : g < w.heap.size) (hc : w.cell? ⟨g, 0, none⟩ = some (.iface t x)) :
  Calls Tryz.prog 104 #[.string s, .agg #[.int .u64 lo, .int .u64 hi, .map m], .pointer (some ⟨g, 0, none⟩)] w fun e w' => e = .returned (.int .u64 0) ∧ Below w.heap.size w w' := by
 go_enter Tryz.func104, Tryz.ntmps104
 go_wp2_with fail
 go_ret
 exact ⟨rfl, (Below.refl _ _).alloc (Nat.le_refl _) _⟩
def ErrLeft (w w' : World) (g : Nat) (v : Value) : Prop := w'.cell? ⟨g, 0, none⟩ = some v ∧ w'.frozen? ⟨g, 0, none⟩ = false ∧ w.heap.size ≤ w'.heap.size ∧ (∀ b, b < w.heap.size → b ≠ g → w'.heap[b]? = w.heap[b]?) ∧ Below g w w'
theorem errLeft_of {w w1 : World} {g : Nat} (v v0 : Value) (hb : Below w.heap.size w w1) (hg : g < w.heap.size) (hc : w.cell? ⟨g, 0, none⟩ = some v0) (hf : w.frozen? ⟨g, 0, none⟩ = false) : ErrLeft w (w1.setCell ⟨g, 0, none⟩ v) g v := by
 have hc1 : w1.cell? ⟨g, 0, none⟩ = some v0 := (hb.cell (p := ⟨g, 0, none⟩) hg).trans hc
 have hf1 : w1.frozen? ⟨g, 0, none⟩ = false := (hb.frozen (p := ⟨g, 0, none⟩) hg).trans hf
 refine ⟨by simp [go_sem, hc1], by simp [go_sem, hf1], by simpa using hb.size, fun b h1 h2 => ?_, (hb.mono (Nat.le_of_lt hg)).setCell (Nat.le_refl _) _⟩
 rw [heap_setCell_other w1 ⟨g, 0, none⟩ b v h2]
 exact hb.block b h1
theorem errLeft_same {w w1 : World} {g : Nat} (v0 : Value) (hb : Below w.heap.size w w1) (hg : g < w.heap.size) (hc : w.cell? ⟨g, 0, none⟩ = some v0) (hf : w.frozen? ⟨g, 0, none⟩ = false) : ErrLeft w w1 g v0 :=
 ⟨(hb.cell (p := ⟨g, 0, none⟩) hg).trans hc, (hb.frozen (p := ⟨g, 0, none⟩) hg).trans hf, hb.size, fun b h1 _ => hb.block b h1, hb.mono (Nat.le_of_lt hg)⟩
def ClosureA (w : World) (g : Nat) (ok : Bool) (r : Option Nat) (e : Ending) (w' : World) : Prop :=
 ∃ (n : Int) (v : Value), e = .returned (.int .u64 n) ∧ ErrLeft w w' g v ∧ ErrSt v (ok && r.isSome) ∧ (ok = true → ∀ b, r = some b → n = b)
theorem closureA (m : Option Nat) (val : List UInt8 → Option Nat) (Inv : World → Prop) (hR : Reads m val Inv) (lo hi : Nat) (s : ByteArray) (hs : s.size ≤ 4294967296) (h1 : lo ≤ hi) (h2 : hi ≤ 62) (g : Nat) (w : World) (hI : Inv w)
  (hg : g < w.heap.size) (v0 : Value) (ok : Bool) (hv : ErrSt v0 ok) (hc : w.cell? ⟨g, 0, none⟩ = some v0) (hf : w.frozen? ⟨g, 0, none⟩ = false) :
  Calls Tryz.prog 104 #[.string s, .agg #[.int .u64 lo, .int .u64 hi, .map m], .pointer (some ⟨g, 0, none⟩)] w (ClosureA w g ok (fieldS val lo hi s.data.toList)) := by
 cases ok with
 | true =>
  have := errSt_ok hv rfl
  subst this
  refine (closure_any m val Inv hR lo hi s hs h1 h2 g w hI hg hc hf).mono ?_
  intro e w' h
  generalize fieldS val lo hi s.data.toList = r at *
  cases r with
  | some b =>
   obtain ⟨rfl, w1, hb, rfl⟩ := h
   exact ⟨b, .nilIface, rfl, errLeft_of _ _ hb hg hc hf, rfl, fun _ b' e => by injection e with e; rw [e]⟩
  | none =>
   obtain ⟨n, t, x, rfl, w1, hb, rfl⟩ := h
   exact ⟨n, .iface t x, rfl, errLeft_of _ _ hb hg hc hf, ⟨t, x, rfl⟩, fun _ b' e => by cases e⟩
 | false =>
  obtain ⟨t, x, rfl⟩ := errSt_bad hv rfl
  refine (closureErr_any s .nilIface lo hi m g t x w hg hc).mono ?_
  rintro e w' ⟨rfl, hb⟩
  exact ⟨0, .iface t x, rfl, errLeft_same _ hb hg hc hf, ⟨t, x, rfl⟩, fun h => by cases h⟩
abbrev BoundsOf (f : FuncId) (k : Nat) : Prop :=
 ∀ w : World, G w → Calls Tryz.prog f #[] w fun e w' => ∃ (m : Option Nat) (Inv : World → Prop), e = .returned (.agg #[.int .u64 (loK k : Nat), .int .u64 (hiK k : Nat), .map m]) ∧ Reads m (valK k) Inv ∧ Inv w' ∧ Below w.heap.size w w'
theorem bounds0 : BoundsOf 106 0 := fun w hg =>
 (seconds_any w).mono fun e w' ⟨he, hb⟩ => ⟨none, G, he, reads_nil, hg.below hb, hb⟩
theorem bounds1 : BoundsOf 107 1 := fun w hg =>
 (minutes_any w).mono fun e w' ⟨he, hb⟩ => ⟨none, G, he, reads_nil, hg.below hb, hb⟩
theorem bounds2 : BoundsOf 108 2 := fun w hg =>
 (hours_any w).mono fun e w' ⟨he, hb⟩ => ⟨none, G, he, reads_nil, hg.below hb, hb⟩
theorem bounds3 : BoundsOf 109 3 := fun w hg =>
 (dom_any w).mono fun e w' ⟨he, hb⟩ => ⟨none, G, he, reads_nil, hg.below hb, hb⟩
theorem bounds4 : BoundsOf 110 4 := fun w hg =>
 (months_any w).mono fun e w' ⟨r, he, _, hM, hb⟩ => ⟨some r, _, he, reads_named r monthsL months_small, ⟨hg.below hb, hM⟩, hb⟩
theorem bounds5 : BoundsOf 111 5 := fun w hg =>
 (dow_any w).mono fun e w' ⟨r, he, _, hM, hb⟩ => ⟨some r, _, he, reads_named r dowL dow_small, ⟨hg.below hb, hM⟩, hb⟩
def bitsAt (l : List ByteArray) (k : Nat) : Option Nat := fieldS (valK k) (loK k) (hiK k) (l.getD k ⟨#[]⟩).data.toList
def sixS (l : List ByteArray) : Option (List Nat) :=
 match bitsAt l 0, bitsAt l 1, bitsAt l 2, bitsAt l 3, bitsAt l 4, bitsAt l 5 with
 | some a, some b, some c, some d, some e, some f => some [a, b, c, d, e, f]
 | _, _, _, _, _, _ => none
def parseS (s : ByteArray) (o : Nat) : Option (List Nat) := if s.size = 0 then none else (normF (fieldsZ s) o).bind sixS
def specCells (l : List Nat) (loc : Option Addr) : Array Value := #[.int .u64 (l.getD 0 0 : Nat), .int .u64 (l.getD 1 0 : Nat), .int .u64 (l.getD 2 0 : Nat), .int .u64 (l.getD 3 0 : Nat), .int .u64 (l.getD 4 0 : Nat), .int .u64 (l.getD 5 0 : Nat), .pointer loc]
def ParseAns (w : World) (r : Option (List Nat)) (e : Ending) (w' : World) : Prop :=
 (match r with
  | some l => ∃ g, e = .returned (.tuple #[.iface 169 (.pointer (some ⟨g, 0, none⟩)), .nilIface]) ∧ w'.heap[g]? = some (.cells (specCells l none) 171 (0, 0))
  | none => ∃ t x, e = .returned (.tuple #[.nilIface, .iface t x])) ∧ Below w.heap.size w w'
def stN (st : Option Nat) : Nat := if st.isSome then 1 else 0
theorem spans_count (p : Nat → Bool) (s : ByteArray) : ∀ (f pos : Nat) (st : Option Nat) (acc : List (Nat × Nat)), (Lib.spansFromP p s f pos st acc).1.length + stN (Lib.spansFromP p s f pos st acc).2 ≤ acc.length + stN st + f
 | 0, _, st, acc => by unfold Lib.spansFromP; simp
 | f + 1, pos, st, acc => by
  unfold Lib.spansFromP
  split
  ·split
   ·cases st with
    | some a =>
     have := spans_count p s f (pos + (Utf8.decode s pos).2) none (acc ++ [(a, pos)])
     simp only [List.length_append, List.length_singleton] at this
     dsimp only
     simp only [stN, Option.isSome_some, Option.isSome_none, if_true] at this ⊢
     simp at this
     omega
    | none =>
     have := spans_count p s f (pos + (Utf8.decode s pos).2) none acc
     dsimp only
     omega
   ·cases st with
    | some a =>
     have := spans_count p s f (pos + (Utf8.decode s pos).2) (some a) acc
     dsimp only
     simp only [stN, Option.isSome_some, if_true] at this ⊢
     omega
    | none =>
     have := spans_count p s f (pos + (Utf8.decode s pos).2) (some pos) acc
     dsimp only
     simp only [stN, Option.isSome_some, Option.isSome_none, if_true] at this ⊢
     simp
     omega
  ·simp
theorem fieldsZ_len (s : ByteArray) : (fieldsZ s).length ≤ s.size := by
 have := spans_count spaceZ s s.size 0 none []
 unfold fieldsZ Lib.goFieldsP Lib.spansOfP
 rw [List.length_map]
 generalize Lib.spansFromP spaceZ s s.size 0 none [] = r at *
 obtain ⟨acc, st⟩ := r
 unfold Lib.closeSpans
 cases st with
 | none => simp [stN] at this ⊢; omega
 | some a =>
  simp only [stN, Option.isSome_some, if_true, Option.isSome_none, List.length_nil] at this
  simp at this ⊢
  omega
theorem goZ_len (s : ByteArray) (hs : s.size ≤ 4294967296) : (fieldsZ s).length ≤ 4294967296 := Nat.le_trans (fieldsZ_len s) hs
theorem fieldsZ_size (s : ByteArray) (x : ByteArray) (hx : x ∈ fieldsZ s) : x.size ≤ s.size := by
 unfold fieldsZ Lib.goFieldsP at hx
 rw [List.mem_map] at hx
 obtain ⟨y, _, rfl⟩ := hx
 rw [ByteArray.size_extract]
 omega
theorem fill_size (q : Nat) (N : Nat) (hN : 1 ≤ N) : ∀ (ps : List Nat) (ds fs : List ByteArray), (∀ x ∈ ds, x.size ≤ N) → (∀ x ∈ fs, x.size ≤ N) → ∀ x ∈ fillL q ps ds fs, x.size ≤ N
 | [], _, _, _, _, x, hx => by unfold fillL at hx; cases hx
 | p :: ps, [], _, _, _, x, hx => by unfold fillL at hx; cases hx
 | p :: ps, d :: ds, fs, hd, hf, x, hx => by
  unfold fillL at hx
  have hd' : ∀ y ∈ ds, y.size ≤ N := fun y hy => hd y (List.mem_cons_of_mem _ hy)
  split at hx
  ·cases fs with
   | nil =>
    rcases List.mem_cons.1 hx with rfl | hx
    ·exact hd _ (List.mem_cons_self ..)
    ·exact fill_size q N hN ps ds [] hd' hf x hx
   | cons f fs =>
    rcases List.mem_cons.1 hx with rfl | hx
    ·exact hf _ (List.mem_cons_self ..)
    ·exact fill_size q N hN ps ds fs hd' (fun y hy => hf y (List.mem_cons_of_mem _ hy)) x hx
  ·rcases List.mem_cons.1 hx with rfl | hx
   ·exact hd _ (List.mem_cons_self ..)
   ·exact fill_size q N hN ps ds fs hd' hf x hx
theorem norm_size {fs : List ByteArray} {o N : Nat} (hN : 1 ≤ N) (hf : ∀ x ∈ fs, x.size ≤ N) {l : List ByteArray} (h : normF fs o = some l) : ∀ x ∈ l, x.size ≤ N := by
 unfold normF at h
 split at h
 ·cases h
 ·split at h
  ·cases h
  ·injection h with h
   rw [← h]
   refine fill_size _ N hN _ _ _ ?_ ?_
   ·intro x hx
    have : x.size = 1 := by
     unfold defaultsL at hx
     simp only [List.mem_cons, List.not_mem_nil, or_false] at hx
     rcases hx with rfl | rfl | rfl | rfl | rfl | rfl <;> rfl
    omega
   ·split
    ·split
     ·intro x hx
      rcases List.mem_append.1 hx with hx | hx
      ·exact hf x hx
      ·rw [List.mem_singleton.1 hx]; exact hN
     ·intro x hx
      rcases List.mem_cons.1 hx with rfl | hx
      ·exact hN
      ·exact hf x hx
    ·exact hf
theorem norm_len {fs : List ByteArray} {o : Nat} {l : List ByteArray} (h : normF fs o = some l) : l.length = 6 := by
 unfold normF at h
 split at h
 ·cases h
 ·split at h
  ·cases h
  ·injection h with h
   rw [← h]
   exact fill_length _ placesL defaultsL _ rfl
structure PSt (w wc : World) (g c ge : Nat) (l : List ByteArray) (x : Value) : Prop where
 txt : Texts wc g 6 c l
 err : wc.cell? ⟨ge, 0, none⟩ = some x
 free : wc.frozen? ⟨ge, 0, none⟩ = false
 lt : ge < wc.heap.size
 ne : g ≠ ge
 bel : Below w.heap.size w wc
 geB : w.heap.size ≤ ge
 gB : w.heap.size ≤ g
theorem PSt.below {w wc w' : World} {g c ge : Nat} {l : List ByteArray} {x : Value} (h : PSt w wc g c ge l x) (hb : Below wc.heap.size wc w') : PSt w w' g c ge l x :=
 ⟨h.txt.below hb, (hb.cell (p := ⟨ge, 0, none⟩) h.lt).trans h.err, (hb.frozen (p := ⟨ge, 0, none⟩) h.lt).trans h.free, Nat.lt_of_lt_of_le h.lt hb.size, h.ne, below_of_le h.bel hb, h.geB, h.gB⟩
theorem PSt.left {w wc w' : World} {g c ge : Nat} {l : List ByteArray} {x v : Value} (h : PSt w wc g c ge l x) (hl : ErrLeft wc w' ge v) : PSt w w' g c ge l v := by
 obtain ⟨h1, h2, h3, h4, h5⟩ := hl
 refine ⟨⟨h.txt.len, h.txt.le, Nat.lt_of_lt_of_le h.txt.lt h3, fun i y hy => ?_⟩, h1, h2, Nat.lt_of_lt_of_le h.lt h3, h.ne, h.bel.trans (h5.mono h.geB), h.geB, h.gB⟩
 have := h.txt.at_ i y hy
 unfold World.cell? at this ⊢
 rw [h4 g h.txt.lt h.ne]
 exact this
theorem six_some {l : List ByteArray} {a b c d e f : Nat} (h0 : bitsAt l 0 = some a) (h1 : bitsAt l 1 = some b) (h2 : bitsAt l 2 = some c) (h3 : bitsAt l 3 = some d) (h4 : bitsAt l 4 = some e) (h5 : bitsAt l 5 = some f) : sixS l = some [a, b, c, d, e, f] := by
 unfold sixS
 rw [h0, h1, h2, h3, h4, h5]
theorem six_none {l : List ByteArray} (h : (((((true && (bitsAt l 0).isSome) && (bitsAt l 1).isSome) && (bitsAt l 2).isSome) && (bitsAt l 3).isSome) && (bitsAt l 4).isSome && (bitsAt l 5).isSome) = false) : sixS l = none := by
 unfold sixS
 split
 ·rename_i h0 h1 h2 h3 h4 h5
  rw [h0, h1, h2, h3, h4, h5] at h
  cases h
 ·rfl
set_option maxRecDepth 100000 in
set_option maxHeartbeats 4000000 in
theorem parsePlain (o : Nat) (ho : o < 512) (s : ByteArray) (hs : s.size ≤ 4294967296) (h1 : Lib.hasPrefix s.data.toList [84, 90, 61] = false) (h2 : Lib.hasPrefix s.data.toList [67, 82, 79, 78, 95, 84, 90, 61] = false)
  (h3 : Lib.hasPrefix s.data.toList [64] = false) (w : World) (hg : G w) :
  Calls Tryz.prog 47 #[.agg #[.int .i64 o], .string s] w (ParseAns w (parseS s o)) := by
 by_cases h0 : s.size = 0
 ·have HR : Hid (parseS s o = none) := Lib.hid (by unfold parseS; rw [if_pos h0])
  have hd0 : ((s.size : Int) == 0) = true := by rw [h0]; rfl
  clear h0
  go_enter Tryz.func47, Tryz.ntmps47
  go_wp2_with fail
  refine (errorsNew_any _ _).mono ?_
  rintro e w1 ⟨t, x, rfl, hb⟩
  go_wp2_with fail
  go_ret2
  rw [HR.out]
  exact ⟨⟨t, x, rfl⟩, ((Below.refl _ _).alloc (Nat.le_refl _) _).trans (hb.mono (by simp))⟩
 ·have HR : Hid (parseS s o = (normF (fieldsZ s) o).bind sixS) := Lib.hid (by unfold parseS; rw [if_neg h0])
  have hd0 : ((s.size : Int) == 0) = false := by
   rw [beq_eq_false_iff_ne]
   omega
  have HZ := Lib.hid (fun w' => zzFields_any s hs w')
  have HZL := Lib.hid (goZ_len s hs)
  have HZS : Hid (∀ x ∈ fieldsZ s, x.size ≤ 4294967296) := Lib.hid fun x hx => Nat.le_trans (fieldsZ_size s x hx) hs
  generalize fieldsZ s = fs at *
  have HP1 : Hid (∀ w' : World, Calls Tryz.prog 97 #[.string s, .string ⟨#[84, 90, 61]⟩] w' fun e w'' => e = .returned (.bool false) ∧ w' = w'') := Lib.hid fun w' => (Tryz.strings_HasPrefix s ⟨#[84, 90, 61]⟩ w').mono fun e w'' hh => ⟨hh.1.trans (by rw [show (⟨#[84, 90, 61]⟩ : ByteArray).data.toList = [84, 90, 61] from rfl, h1]), hh.2.symm⟩
  have HP2 : Hid (∀ w' : World, Calls Tryz.prog 97 #[.string s, .string ⟨#[67, 82, 79, 78, 95, 84, 90, 61]⟩] w' fun e w'' => e = .returned (.bool false) ∧ w' = w'') := Lib.hid fun w' => (Tryz.strings_HasPrefix s ⟨#[67, 82, 79, 78, 95, 84, 90, 61]⟩ w').mono fun e w'' hh => ⟨hh.1.trans (by rw [show (⟨#[67, 82, 79, 78, 95, 84, 90, 61]⟩ : ByteArray).data.toList = [67, 82, 79, 78, 95, 84, 90, 61] from rfl, h2]), hh.2.symm⟩
  have HP3 : Hid (∀ w' : World, Calls Tryz.prog 97 #[.string s, .string ⟨#[64]⟩] w' fun e w'' => e = .returned (.bool false) ∧ w' = w'') := Lib.hid fun w' => (Tryz.strings_HasPrefix s ⟨#[64]⟩ w').mono fun e w'' hh => ⟨hh.1.trans (by rw [show (⟨#[64]⟩ : ByteArray).data.toList = [64] from rfl, h3]), hh.2.symm⟩
  clear h0 h1 h2 h3
  go_enter Tryz.func47, Tryz.ntmps47
  go_wp2_with fail
  refine (HP1.out _).mono ?_
  rintro e w1 ⟨rfl, rfl⟩
  go_wp2_with fail
  refine (HP2.out _).mono ?_
  rintro e w1 ⟨rfl, rfl⟩
  go_wp2_with fail
  refine (HP3.out _).mono ?_
  rintro e w1 ⟨rfl, rfl⟩
  go_wp2_with fail
  refine (HZ.out _).mono ?_
  rintro e w1 ⟨v, rfl, hown, hb1⟩
  have hc0 : w1.cell? ⟨w.heap.size, 0, none⟩ = some (.int .i64 o) := (hb1.cell (p := ⟨w.heap.size, 0, none⟩) (by simp)).trans (by simp [go_sem])
  have hz1 : w.heap.size < w1.heap.size := by have := hb1.size; simp at this; omega
  have HNA : Hid (∀ w' : World, w'.heap.size = w1.heap.size + 1 → Below w1.heap.size w1 w' → Calls Tryz.prog 103 #[v, .int .i64 o] w' (NormAnswer (w.heap.size + 1) w1.heap.size w' (normF fs o))) := Lib.hid fun w' h1 h2 =>
   normal_any o ho fs v w' (w.heap.size + 1) (by
    have := hown
    rw [show (w.alloc (.cells #[.int .i64 o] 105)).heap.size = w.heap.size + 1 by simp] at this
    exact own_below this h2) HZL.out (by omega) w1.heap.size (by omega) (fun e => by
    have := (hown.lt _ e).2
    omega)
  have HB1 := Lib.hid hb1
  generalize hR0 : normF fs o = R0 at *
  clear hown hb1 HP1 HP2 HP3 HZ HZL
  go_wp2_with fail
  have HR0 : Hid (normF fs o = R0) := Lib.hid hR0
  clear hR0
  refine (HNA.out _ (by simp) ((Below.refl _ _).alloc (Nat.le_refl _) _)).mono ?_
  intro e w2 hN
  have HZN : Hid (∀ l, R0 = some l → (∀ x ∈ l, x.size ≤ 4294967296) ∧ l.length = 6) := Lib.hid fun l h => by
   rw [← HR0.out] at h
   exact ⟨norm_size (by decide) HZS.out h, norm_len h⟩
  have hge : (w1.alloc (.cells #[.nilIface] 112)).heap[w1.heap.size]? = some (.cells #[.nilIface] 112 (0, 0)) := heap_alloc_new w1 _
  obtain ⟨hres, hbN, hkN⟩ := hN
  have hcell := hkN.trans hge
  have hB2 : Below w.heap.size w w2 := (((Below.refl _ _).alloc (Nat.le_refl _) _).trans (HB1.out.mono (by simp))).trans ((((Below.refl _ _).alloc (Nat.le_refl w1.heap.size) _).mono (by omega)).trans (hbN.mono (by omega)))
  have hlt2 : w1.heap.size < w2.heap.size := (Array.getElem?_eq_some_iff.1 hcell).1
  have hcE : w2.cell? ⟨w1.heap.size, 0, none⟩ = some .nilIface := cell_of_row _ _ _ _ _ _ hcell
  have hfE : w2.frozen? ⟨w1.heap.size, 0, none⟩ = false := frozen_of_row _ _ _ _ _ hcell
  have hsz12 : (w1.alloc (.cells #[.nilIface] 112)).heap.size = w1.heap.size + 1 := by simp
  clear hge hkN hcell hbN
  have hmf : ∀ (fn : Fn) (first cap : Array Value) (w : World), (Instr.makeFunc fn first cap).run Tryz.prog w = .ok (.func fn first cap) w := fun _ _ _ _ => rfl
  cases R0 with
  | none =>
   obtain ⟨t, x, rfl⟩ := hres
   have HX : Hid (parseS s o = none) := Lib.hid (by rw [HR.out]; rfl)
   have HB := Lib.hid (hB2.setCell (p := ⟨w1.heap.size, 0, none⟩) (show w.heap.size ≤ w1.heap.size by omega) (.iface t x))
   clear hB2
   go_wp2_with fail
   go_quiet (fail)
   go_wp2_with fail
   go_ret2
   rw [HX.out]
   exact ⟨⟨t, x, rfl⟩, below_of_le HB.out (below_drewN _ nq)⟩
  | some l =>
   obtain ⟨g, c, rfl, hgg, hT⟩ := hres
   have HPS : Hid (PSt w (w2.setCell ⟨w1.heap.size, 0, none⟩ .nilIface) g c w1.heap.size l .nilIface) := Lib.hid (PSt.left (x := .nilIface) ⟨hT, hcE, hfE, hlt2, by omega, hB2, by omega, by omega⟩ (errLeft_of .nilIface .nilIface (Below.refl _ _) hlt2 hcE hfE))
   obtain ⟨hsz, hlen⟩ := HZN.out l rfl
   have HGW : Hid (∀ w', Below w.heap.size w w' → G w') := Lib.hid fun w' h => hg.below h
   have HX : Hid (parseS s o = sixS l) := Lib.hid (by rw [HR.out]; rfl)
   have hx : ∀ k, k < 6 → ∃ x, l[k]? = some x ∧ l.getD k ⟨#[]⟩ = x ∧ x.size ≤ 4294967296 := fun k hk => ⟨l[k], List.getElem?_eq_getElem (by omega), by simp [List.getD, show k < l.length by omega], hsz _ (List.getElem_mem _)⟩
   clear hT hB2 hsz hlen HR HR0 HZN HZS hgg hg
   obtain ⟨x0, hx0, hy0, hs0⟩ := hx 0 (by omega)
   have HC0 : Hid (∀ m Inv, Reads m (valK 0) Inv → ∀ w' : World, Inv w' → w1.heap.size < w'.heap.size → ∀ v0 ok, ErrSt v0 ok → w'.cell? ⟨w1.heap.size, 0, none⟩ = some v0 → w'.frozen? ⟨w1.heap.size, 0, none⟩ = false →
     Calls Tryz.prog 104 #[.string x0, .agg #[.int .u64 (loK 0 : Nat), .int .u64 (hiK 0 : Nat), .map m], .pointer (some ⟨w1.heap.size, 0, none⟩)] w' (ClosureA w' w1.heap.size ok (bitsAt l 0))) :=
    Lib.hid fun m Inv hR w' hI hg v0 ok hv hc hf => by
     unfold bitsAt
     rw [hy0]
     exact closureA m (valK 0) Inv hR (loK 0) (hiK 0) x0 hs0 (loK_le 0) (hiK_le 0) w1.heap.size w' hI hg v0 ok hv hc hf
   have HX0 := Lib.hid hx0
   obtain ⟨x1, hx1, hy1, hs1⟩ := hx 1 (by omega)
   have HC1 : Hid (∀ m Inv, Reads m (valK 1) Inv → ∀ w' : World, Inv w' → w1.heap.size < w'.heap.size → ∀ v0 ok, ErrSt v0 ok → w'.cell? ⟨w1.heap.size, 0, none⟩ = some v0 → w'.frozen? ⟨w1.heap.size, 0, none⟩ = false →
     Calls Tryz.prog 104 #[.string x1, .agg #[.int .u64 (loK 1 : Nat), .int .u64 (hiK 1 : Nat), .map m], .pointer (some ⟨w1.heap.size, 0, none⟩)] w' (ClosureA w' w1.heap.size ok (bitsAt l 1))) :=
    Lib.hid fun m Inv hR w' hI hg v0 ok hv hc hf => by
     unfold bitsAt
     rw [hy1]
     exact closureA m (valK 1) Inv hR (loK 1) (hiK 1) x1 hs1 (loK_le 1) (hiK_le 1) w1.heap.size w' hI hg v0 ok hv hc hf
   have HX1 := Lib.hid hx1
   obtain ⟨x2, hx2, hy2, hs2⟩ := hx 2 (by omega)
   have HC2 : Hid (∀ m Inv, Reads m (valK 2) Inv → ∀ w' : World, Inv w' → w1.heap.size < w'.heap.size → ∀ v0 ok, ErrSt v0 ok → w'.cell? ⟨w1.heap.size, 0, none⟩ = some v0 → w'.frozen? ⟨w1.heap.size, 0, none⟩ = false →
     Calls Tryz.prog 104 #[.string x2, .agg #[.int .u64 (loK 2 : Nat), .int .u64 (hiK 2 : Nat), .map m], .pointer (some ⟨w1.heap.size, 0, none⟩)] w' (ClosureA w' w1.heap.size ok (bitsAt l 2))) :=
    Lib.hid fun m Inv hR w' hI hg v0 ok hv hc hf => by
     unfold bitsAt
     rw [hy2]
     exact closureA m (valK 2) Inv hR (loK 2) (hiK 2) x2 hs2 (loK_le 2) (hiK_le 2) w1.heap.size w' hI hg v0 ok hv hc hf
   have HX2 := Lib.hid hx2
   obtain ⟨x3, hx3, hy3, hs3⟩ := hx 3 (by omega)
   have HC3 : Hid (∀ m Inv, Reads m (valK 3) Inv → ∀ w' : World, Inv w' → w1.heap.size < w'.heap.size → ∀ v0 ok, ErrSt v0 ok → w'.cell? ⟨w1.heap.size, 0, none⟩ = some v0 → w'.frozen? ⟨w1.heap.size, 0, none⟩ = false →
     Calls Tryz.prog 104 #[.string x3, .agg #[.int .u64 (loK 3 : Nat), .int .u64 (hiK 3 : Nat), .map m], .pointer (some ⟨w1.heap.size, 0, none⟩)] w' (ClosureA w' w1.heap.size ok (bitsAt l 3))) :=
    Lib.hid fun m Inv hR w' hI hg v0 ok hv hc hf => by
     unfold bitsAt
     rw [hy3]
     exact closureA m (valK 3) Inv hR (loK 3) (hiK 3) x3 hs3 (loK_le 3) (hiK_le 3) w1.heap.size w' hI hg v0 ok hv hc hf
   have HX3 := Lib.hid hx3
   obtain ⟨x4, hx4, hy4, hs4⟩ := hx 4 (by omega)
   have HC4 : Hid (∀ m Inv, Reads m (valK 4) Inv → ∀ w' : World, Inv w' → w1.heap.size < w'.heap.size → ∀ v0 ok, ErrSt v0 ok → w'.cell? ⟨w1.heap.size, 0, none⟩ = some v0 → w'.frozen? ⟨w1.heap.size, 0, none⟩ = false →
     Calls Tryz.prog 104 #[.string x4, .agg #[.int .u64 (loK 4 : Nat), .int .u64 (hiK 4 : Nat), .map m], .pointer (some ⟨w1.heap.size, 0, none⟩)] w' (ClosureA w' w1.heap.size ok (bitsAt l 4))) :=
    Lib.hid fun m Inv hR w' hI hg v0 ok hv hc hf => by
     unfold bitsAt
     rw [hy4]
     exact closureA m (valK 4) Inv hR (loK 4) (hiK 4) x4 hs4 (loK_le 4) (hiK_le 4) w1.heap.size w' hI hg v0 ok hv hc hf
   have HX4 := Lib.hid hx4
   obtain ⟨x5, hx5, hy5, hs5⟩ := hx 5 (by omega)
   have HC5 : Hid (∀ m Inv, Reads m (valK 5) Inv → ∀ w' : World, Inv w' → w1.heap.size < w'.heap.size → ∀ v0 ok, ErrSt v0 ok → w'.cell? ⟨w1.heap.size, 0, none⟩ = some v0 → w'.frozen? ⟨w1.heap.size, 0, none⟩ = false →
     Calls Tryz.prog 104 #[.string x5, .agg #[.int .u64 (loK 5 : Nat), .int .u64 (hiK 5 : Nat), .map m], .pointer (some ⟨w1.heap.size, 0, none⟩)] w' (ClosureA w' w1.heap.size ok (bitsAt l 5))) :=
    Lib.hid fun m Inv hR w' hI hg v0 ok hv hc hf => by
     unfold bitsAt
     rw [hy5]
     exact closureA m (valK 5) Inv hR (loK 5) (hiK 5) x5 hs5 (loK_le 5) (hiK_le 5) w1.heap.size w' hI hg v0 ok hv hc hf
   have HX5 := Lib.hid hx5
   have HS := Lib.hid (fun a b c d e f => six_some (l := l) (a := a) (b := b) (c := c) (d := d) (e := e) (f := f))
   have HN := Lib.hid (six_none (l := l))
   clear hx hy0 hy1 hy2 hy3 hy4 hy5 hx0 hx1 hx2 hx3 hx4 hx5 hs0 hs1 hs2 hs3 hs4 hs5
   generalize sixS l = R6 at *
   generalize bitsAt l 0 = r0 at *
   generalize bitsAt l 1 = r1 at *
   generalize bitsAt l 2 = r2 at *
   generalize bitsAt l 3 = r3 at *
   generalize bitsAt l 4 = r4 at *
   generalize bitsAt l 5 = r5 at *
   go_wp2_with fail
   generalize hW3 : w2.setCell ⟨w1.heap.size, 0, none⟩ .nilIface = w3 at *
   clear hW3 hcE hfE hlt2
   have hE0 : Hid (ErrSt .nilIface true) := Lib.hid rfl
   generalize hge : w1.heap.size = ge at *
   clear hge
   go_upto_region 22 with fail
   go_cut [13] (fun v wc => ∃ (n : Int) (x : Value), v = .int .u64 n ∧ Hid (PSt w wc g c ge l x) ∧ Hid (ErrSt x (true && r0.isSome)) ∧ Hid (true = true → ∀ b, r0 = some b → n = b))
   case first =>
    have hc0 : w3.cell? ⟨g, 0, none⟩ = some (.string x0) := HPS.out.txt.at_ 0 _ HX0.out
    have hgl : g < w3.heap.size := HPS.out.txt.lt
    refine start_ (n := 7) (S := fun w' => w'.cell? ⟨g, 0, none⟩ = some (.string x0)) (ds := [5]) #[false, false, false, false, false, false, false] (by kernel_rfl) rfl rfl (hc0) (fun hHeld => ?_)
    refine pure_ (i := 0) (N := some 74) (v := ?_) (a' := ?_) #[true, false, false, false, false, false, false] rfl rfl (by kernel_rfl) (fun _ _ _ h => h) (Or.inl ⟨by rfl, ?_⟩) ?_ ?_
    rotate_left
    ·intro w'
     go_simp
     with_reducible rfl
    rotate_left
    ·simp only [Act.put, List.setIfInBounds_toArray, List.set_cons_zero, List.set_cons_succ, i64_w, i32_w]
     rfl
    refine pure_ (i := 1) (N := some 75) (v := ?_) (a' := ?_) #[true, true, false, false, false, false, false] rfl rfl (by kernel_rfl) (fun _ _ _ h => h) (Or.inl ⟨by rfl, ?_⟩) ?_ ?_
    rotate_left
    ·intro w'
     go_simp
     with_reducible rfl
    rotate_left
    ·simp only [Act.put, List.setIfInBounds_toArray, List.set_cons_zero, List.set_cons_succ, i64_w, i32_w]
     rfl
    refine pure_ (i := 2) (N := some 76) (v := ?_) (a' := ?_) #[true, true, true, false, false, false, false] rfl rfl (by kernel_rfl) (fun _ _ _ h => h) (Or.inl ⟨by rfl, ?_⟩) ?_ ?_
    rotate_left
    ·intro w'
     go_simp
     with_reducible rfl
    rotate_left
    ·simp only [Act.put, List.setIfInBounds_toArray, List.set_cons_zero, List.set_cons_succ, i64_w, i32_w]
     rfl
    refine take_ (i := 3) (N := some 77) (v := ?_) (a' := ?_) #[true, true, true, true, false, false, false] rfl rfl (by kernel_rfl) (fun _ _ _ h => h) (Or.inl ⟨by rfl, ?_⟩) hHeld ?_ ?_
    rotate_left
    ·intro w' s0
     go_simp
     with_reducible rfl
    rotate_left
    ·simp only [Act.put, List.setIfInBounds_toArray, List.set_cons_zero, List.set_cons_succ, i64_w, i32_w]
     rfl
    refine one_ (i := 4) (N := some 78) #[true, true, true, true, true, false, false] rfl rfl (by kernel_rfl) (by decide) (fun K hK => ?_)
    refine goes_ Tryz.func106 (by kernel_rfl) rfl #[] (by rfl) rfl rfl (by simp only [List.map_toArray, List.map_nil]) ?_
    with_reducible refine (bounds0 _ (HGW.out _ (HPS.out.bel.drew))).mono ?_
    rintro e w4 ⟨m, Inv, rfl, hR, hI, hb4⟩
    refine ⟨_, rfl, ?_⟩
    refine hK.out _ _ ((hb4.cell (p := ⟨g, 0, none⟩) hgl).trans hc0) (fun hHeld => ?_)
    clear hK K
    refine norm_ (a' := ?_) ?_ ?_
    rotate_left
    ·show Act.put _ (some 78) _ = _
     simp only [Act.put, List.setIfInBounds_toArray, List.set_cons_zero, List.set_cons_succ, i64_w, i32_w]
     rfl
    refine last_ (i := 5) (N := some 79) #[true, true, true, true, true, true, false] rfl rfl (by kernel_rfl) (by decide) (fun K hK => ?_)
    have HP4 := Lib.hid ((HPS.out.below ((Below.refl _ _).drew)).below hb4)
    refine goesV_ Tryz.func104 (by kernel_rfl) rfl #[.string x0, .agg #[.int .u64 (loK 0 : Nat), .int .u64 (hiK 0 : Nat), .map m]] #[.pointer (some ⟨ge, 0, none⟩)] #[.string x0, .agg #[.int .u64 (loK 0 : Nat), .int .u64 (hiK 0 : Nat), .map m], .pointer (some ⟨ge, 0, none⟩)] rfl (by rfl) (by rfl) rfl rfl (by simp only [List.map_toArray, List.map_cons, List.map_nil]; rfl) ?_
    with_reducible refine (HC0.out m Inv hR _ hI HP4.out.lt .nilIface true hE0.out HP4.out.err HP4.out.free).mono ?_
    rintro e w5 ⟨n, x, rfl, hl5, he5, hn5⟩
    refine ⟨_, rfl, ?_⟩
    have HP5 := Lib.hid (HP4.out.left hl5)
    have HE5 := Lib.hid he5
    have HN5 := Lib.hid hn5
    clear hl5 he5 hn5
    refine hK.out _ _ ?_
    clear hK K
    refine norm_ (a' := ?_) ?_ ?_
    rotate_left
    ·show Act.put _ (some 79) _ = _
     simp only [Act.put, List.setIfInBounds_toArray, List.set_cons_zero, List.set_cons_succ, i64_w, i32_w]
     rfl
    refine pure_ (i := 6) (N := some 13) (v := ?_) (a' := ?_) #[true, true, true, true, true, true, true] rfl rfl (by kernel_rfl) (fun _ _ _ h => h) (Or.inl ⟨by rfl, ?_⟩) ?_ ?_
    rotate_left
    ·intro w'
     go_simp
     with_reducible rfl
    rotate_left
    ·simp only [Act.put, List.setIfInBounds_toArray, List.set_cons_zero, List.set_cons_succ, i64_w, i32_w]
     rfl
    refine done_ (by kernel_rfl) ?_
    go_wp2_with fail
    go_meet
    exact ⟨n, x, rfl, HP5, HE5, HN5⟩
   case rest =>
   obtain ⟨n0, e0, rfl, HPS0, HE0, HN0⟩ := hcut
   obtain ⟨wk0, rfl⟩ : ∃ wk : World, wk = wc := ⟨_, rfl⟩
   clear HPS hE0 HC0 HX0
   go_upto_region 23 with fail
   go_cut [14] (fun v wc => ∃ (n : Int) (x : Value), v = .int .u64 n ∧ Hid (PSt w wc g c ge l x) ∧ Hid (ErrSt x ((true && r0.isSome) && r1.isSome)) ∧ Hid ((true && r0.isSome) = true → ∀ b, r1 = some b → n = b))
   case first =>
    have hc1 : wk0.cell? ⟨g, 1, none⟩ = some (.string x1) := HPS0.out.txt.at_ 1 _ HX1.out
    have hgl : g < wk0.heap.size := HPS0.out.txt.lt
    refine start_ (n := 7) (S := fun w' => w'.cell? ⟨g, 1, none⟩ = some (.string x1)) (ds := [5]) #[false, false, false, false, false, false, false] (by kernel_rfl) rfl rfl (hc1) (fun hHeld => ?_)
    refine pure_ (i := 0) (N := some 80) (v := ?_) (a' := ?_) #[true, false, false, false, false, false, false] rfl rfl (by kernel_rfl) (fun _ _ _ h => h) (Or.inl ⟨by rfl, ?_⟩) ?_ ?_
    rotate_left
    ·intro w'
     go_simp
     with_reducible rfl
    rotate_left
    ·simp only [Act.put, List.setIfInBounds_toArray, List.set_cons_zero, List.set_cons_succ, i64_w, i32_w]
     rfl
    refine pure_ (i := 1) (N := some 81) (v := ?_) (a' := ?_) #[true, true, false, false, false, false, false] rfl rfl (by kernel_rfl) (fun _ _ _ h => h) (Or.inl ⟨by rfl, ?_⟩) ?_ ?_
    rotate_left
    ·intro w'
     go_simp
     with_reducible rfl
    rotate_left
    ·simp only [Act.put, List.setIfInBounds_toArray, List.set_cons_zero, List.set_cons_succ, i64_w, i32_w]
     rfl
    refine pure_ (i := 2) (N := some 82) (v := ?_) (a' := ?_) #[true, true, true, false, false, false, false] rfl rfl (by kernel_rfl) (fun _ _ _ h => h) (Or.inl ⟨by rfl, ?_⟩) ?_ ?_
    rotate_left
    ·intro w'
     go_simp
     with_reducible rfl
    rotate_left
    ·simp only [Act.put, List.setIfInBounds_toArray, List.set_cons_zero, List.set_cons_succ, i64_w, i32_w]
     rfl
    refine take_ (i := 3) (N := some 83) (v := ?_) (a' := ?_) #[true, true, true, true, false, false, false] rfl rfl (by kernel_rfl) (fun _ _ _ h => h) (Or.inl ⟨by rfl, ?_⟩) hHeld ?_ ?_
    rotate_left
    ·intro w' s0
     go_simp
     with_reducible rfl
    rotate_left
    ·simp only [Act.put, List.setIfInBounds_toArray, List.set_cons_zero, List.set_cons_succ, i64_w, i32_w]
     rfl
    refine one_ (i := 4) (N := some 84) #[true, true, true, true, true, false, false] rfl rfl (by kernel_rfl) (by decide) (fun K hK => ?_)
    refine goes_ Tryz.func107 (by kernel_rfl) rfl #[] (by rfl) rfl rfl (by simp only [List.map_toArray, List.map_nil]) ?_
    with_reducible refine (bounds1 _ (HGW.out _ (HPS0.out.bel.drew))).mono ?_
    rintro e w4 ⟨m, Inv, rfl, hR, hI, hb4⟩
    refine ⟨_, rfl, ?_⟩
    refine hK.out _ _ ((hb4.cell (p := ⟨g, 1, none⟩) hgl).trans hc1) (fun hHeld => ?_)
    clear hK K
    refine norm_ (a' := ?_) ?_ ?_
    rotate_left
    ·show Act.put _ (some 84) _ = _
     simp only [Act.put, List.setIfInBounds_toArray, List.set_cons_zero, List.set_cons_succ, i64_w, i32_w]
     rfl
    refine last_ (i := 5) (N := some 85) #[true, true, true, true, true, true, false] rfl rfl (by kernel_rfl) (by decide) (fun K hK => ?_)
    have HP4 := Lib.hid ((HPS0.out.below ((Below.refl _ _).drew)).below hb4)
    refine goesV_ Tryz.func104 (by kernel_rfl) rfl #[.string x1, .agg #[.int .u64 (loK 1 : Nat), .int .u64 (hiK 1 : Nat), .map m]] #[.pointer (some ⟨ge, 0, none⟩)] #[.string x1, .agg #[.int .u64 (loK 1 : Nat), .int .u64 (hiK 1 : Nat), .map m], .pointer (some ⟨ge, 0, none⟩)] rfl (by rfl) (by rfl) rfl rfl (by simp only [List.map_toArray, List.map_cons, List.map_nil]; rfl) ?_
    with_reducible refine (HC1.out m Inv hR _ hI HP4.out.lt e0 (true && r0.isSome) HE0.out HP4.out.err HP4.out.free).mono ?_
    rintro e w5 ⟨n, x, rfl, hl5, he5, hn5⟩
    refine ⟨_, rfl, ?_⟩
    have HP5 := Lib.hid (HP4.out.left hl5)
    have HE5 := Lib.hid he5
    have HN5 := Lib.hid hn5
    clear hl5 he5 hn5
    refine hK.out _ _ ?_
    clear hK K
    refine norm_ (a' := ?_) ?_ ?_
    rotate_left
    ·show Act.put _ (some 85) _ = _
     simp only [Act.put, List.setIfInBounds_toArray, List.set_cons_zero, List.set_cons_succ, i64_w, i32_w]
     rfl
    refine pure_ (i := 6) (N := some 14) (v := ?_) (a' := ?_) #[true, true, true, true, true, true, true] rfl rfl (by kernel_rfl) (fun _ _ _ h => h) (Or.inl ⟨by rfl, ?_⟩) ?_ ?_
    rotate_left
    ·intro w'
     go_simp
     with_reducible rfl
    rotate_left
    ·simp only [Act.put, List.setIfInBounds_toArray, List.set_cons_zero, List.set_cons_succ, i64_w, i32_w]
     rfl
    refine done_ (by kernel_rfl) ?_
    go_wp2_with fail
    go_meet
    exact ⟨n, x, rfl, HP5, HE5, HN5⟩
   case rest =>
   obtain ⟨n1, e1, rfl, HPS1, HE1, HN1⟩ := hcut
   obtain ⟨wk1, rfl⟩ : ∃ wk : World, wk = wc := ⟨_, rfl⟩
   clear HPS0 HE0 HC1 HX1
   go_upto_region 24 with fail
   go_cut [15] (fun v wc => ∃ (n : Int) (x : Value), v = .int .u64 n ∧ Hid (PSt w wc g c ge l x) ∧ Hid (ErrSt x (((true && r0.isSome) && r1.isSome) && r2.isSome)) ∧ Hid (((true && r0.isSome) && r1.isSome) = true → ∀ b, r2 = some b → n = b))
   case first =>
    have hc2 : wk1.cell? ⟨g, 2, none⟩ = some (.string x2) := HPS1.out.txt.at_ 2 _ HX2.out
    have hgl : g < wk1.heap.size := HPS1.out.txt.lt
    refine start_ (n := 7) (S := fun w' => w'.cell? ⟨g, 2, none⟩ = some (.string x2)) (ds := [5]) #[false, false, false, false, false, false, false] (by kernel_rfl) rfl rfl (hc2) (fun hHeld => ?_)
    refine pure_ (i := 0) (N := some 86) (v := ?_) (a' := ?_) #[true, false, false, false, false, false, false] rfl rfl (by kernel_rfl) (fun _ _ _ h => h) (Or.inl ⟨by rfl, ?_⟩) ?_ ?_
    rotate_left
    ·intro w'
     go_simp
     with_reducible rfl
    rotate_left
    ·simp only [Act.put, List.setIfInBounds_toArray, List.set_cons_zero, List.set_cons_succ, i64_w, i32_w]
     rfl
    refine pure_ (i := 1) (N := some 87) (v := ?_) (a' := ?_) #[true, true, false, false, false, false, false] rfl rfl (by kernel_rfl) (fun _ _ _ h => h) (Or.inl ⟨by rfl, ?_⟩) ?_ ?_
    rotate_left
    ·intro w'
     go_simp
     with_reducible rfl
    rotate_left
    ·simp only [Act.put, List.setIfInBounds_toArray, List.set_cons_zero, List.set_cons_succ, i64_w, i32_w]
     rfl
    refine pure_ (i := 2) (N := some 88) (v := ?_) (a' := ?_) #[true, true, true, false, false, false, false] rfl rfl (by kernel_rfl) (fun _ _ _ h => h) (Or.inl ⟨by rfl, ?_⟩) ?_ ?_
    rotate_left
    ·intro w'
     go_simp
     with_reducible rfl
    rotate_left
    ·simp only [Act.put, List.setIfInBounds_toArray, List.set_cons_zero, List.set_cons_succ, i64_w, i32_w]
     rfl
    refine take_ (i := 3) (N := some 89) (v := ?_) (a' := ?_) #[true, true, true, true, false, false, false] rfl rfl (by kernel_rfl) (fun _ _ _ h => h) (Or.inl ⟨by rfl, ?_⟩) hHeld ?_ ?_
    rotate_left
    ·intro w' s0
     go_simp
     with_reducible rfl
    rotate_left
    ·simp only [Act.put, List.setIfInBounds_toArray, List.set_cons_zero, List.set_cons_succ, i64_w, i32_w]
     rfl
    refine one_ (i := 4) (N := some 90) #[true, true, true, true, true, false, false] rfl rfl (by kernel_rfl) (by decide) (fun K hK => ?_)
    refine goes_ Tryz.func108 (by kernel_rfl) rfl #[] (by rfl) rfl rfl (by simp only [List.map_toArray, List.map_nil]) ?_
    with_reducible refine (bounds2 _ (HGW.out _ (HPS1.out.bel.drew))).mono ?_
    rintro e w4 ⟨m, Inv, rfl, hR, hI, hb4⟩
    refine ⟨_, rfl, ?_⟩
    refine hK.out _ _ ((hb4.cell (p := ⟨g, 2, none⟩) hgl).trans hc2) (fun hHeld => ?_)
    clear hK K
    refine norm_ (a' := ?_) ?_ ?_
    rotate_left
    ·show Act.put _ (some 90) _ = _
     simp only [Act.put, List.setIfInBounds_toArray, List.set_cons_zero, List.set_cons_succ, i64_w, i32_w]
     rfl
    refine last_ (i := 5) (N := some 91) #[true, true, true, true, true, true, false] rfl rfl (by kernel_rfl) (by decide) (fun K hK => ?_)
    have HP4 := Lib.hid ((HPS1.out.below ((Below.refl _ _).drew)).below hb4)
    refine goesV_ Tryz.func104 (by kernel_rfl) rfl #[.string x2, .agg #[.int .u64 (loK 2 : Nat), .int .u64 (hiK 2 : Nat), .map m]] #[.pointer (some ⟨ge, 0, none⟩)] #[.string x2, .agg #[.int .u64 (loK 2 : Nat), .int .u64 (hiK 2 : Nat), .map m], .pointer (some ⟨ge, 0, none⟩)] rfl (by rfl) (by rfl) rfl rfl (by simp only [List.map_toArray, List.map_cons, List.map_nil]; rfl) ?_
    with_reducible refine (HC2.out m Inv hR _ hI HP4.out.lt e1 ((true && r0.isSome) && r1.isSome) HE1.out HP4.out.err HP4.out.free).mono ?_
    rintro e w5 ⟨n, x, rfl, hl5, he5, hn5⟩
    refine ⟨_, rfl, ?_⟩
    have HP5 := Lib.hid (HP4.out.left hl5)
    have HE5 := Lib.hid he5
    have HN5 := Lib.hid hn5
    clear hl5 he5 hn5
    refine hK.out _ _ ?_
    clear hK K
    refine norm_ (a' := ?_) ?_ ?_
    rotate_left
    ·show Act.put _ (some 91) _ = _
     simp only [Act.put, List.setIfInBounds_toArray, List.set_cons_zero, List.set_cons_succ, i64_w, i32_w]
     rfl
    refine pure_ (i := 6) (N := some 15) (v := ?_) (a' := ?_) #[true, true, true, true, true, true, true] rfl rfl (by kernel_rfl) (fun _ _ _ h => h) (Or.inl ⟨by rfl, ?_⟩) ?_ ?_
    rotate_left
    ·intro w'
     go_simp
     with_reducible rfl
    rotate_left
    ·simp only [Act.put, List.setIfInBounds_toArray, List.set_cons_zero, List.set_cons_succ, i64_w, i32_w]
     rfl
    refine done_ (by kernel_rfl) ?_
    go_wp2_with fail
    go_meet
    exact ⟨n, x, rfl, HP5, HE5, HN5⟩
   case rest =>
   obtain ⟨n2, e2, rfl, HPS2, HE2, HN2⟩ := hcut
   obtain ⟨wk2, rfl⟩ : ∃ wk : World, wk = wc := ⟨_, rfl⟩
   clear HPS1 HE1 HC2 HX2
   go_upto_region 25 with fail
   go_cut [16] (fun v wc => ∃ (n : Int) (x : Value), v = .int .u64 n ∧ Hid (PSt w wc g c ge l x) ∧ Hid (ErrSt x ((((true && r0.isSome) && r1.isSome) && r2.isSome) && r3.isSome)) ∧ Hid ((((true && r0.isSome) && r1.isSome) && r2.isSome) = true → ∀ b, r3 = some b → n = b))
   case first =>
    have hc3 : wk2.cell? ⟨g, 3, none⟩ = some (.string x3) := HPS2.out.txt.at_ 3 _ HX3.out
    have hgl : g < wk2.heap.size := HPS2.out.txt.lt
    refine start_ (n := 7) (S := fun w' => w'.cell? ⟨g, 3, none⟩ = some (.string x3)) (ds := [5]) #[false, false, false, false, false, false, false] (by kernel_rfl) rfl rfl (hc3) (fun hHeld => ?_)
    refine pure_ (i := 0) (N := some 92) (v := ?_) (a' := ?_) #[true, false, false, false, false, false, false] rfl rfl (by kernel_rfl) (fun _ _ _ h => h) (Or.inl ⟨by rfl, ?_⟩) ?_ ?_
    rotate_left
    ·intro w'
     go_simp
     with_reducible rfl
    rotate_left
    ·simp only [Act.put, List.setIfInBounds_toArray, List.set_cons_zero, List.set_cons_succ, i64_w, i32_w]
     rfl
    refine pure_ (i := 1) (N := some 93) (v := ?_) (a' := ?_) #[true, true, false, false, false, false, false] rfl rfl (by kernel_rfl) (fun _ _ _ h => h) (Or.inl ⟨by rfl, ?_⟩) ?_ ?_
    rotate_left
    ·intro w'
     go_simp
     with_reducible rfl
    rotate_left
    ·simp only [Act.put, List.setIfInBounds_toArray, List.set_cons_zero, List.set_cons_succ, i64_w, i32_w]
     rfl
    refine pure_ (i := 2) (N := some 94) (v := ?_) (a' := ?_) #[true, true, true, false, false, false, false] rfl rfl (by kernel_rfl) (fun _ _ _ h => h) (Or.inl ⟨by rfl, ?_⟩) ?_ ?_
    rotate_left
    ·intro w'
     go_simp
     with_reducible rfl
    rotate_left
    ·simp only [Act.put, List.setIfInBounds_toArray, List.set_cons_zero, List.set_cons_succ, i64_w, i32_w]
     rfl
    refine take_ (i := 3) (N := some 95) (v := ?_) (a' := ?_) #[true, true, true, true, false, false, false] rfl rfl (by kernel_rfl) (fun _ _ _ h => h) (Or.inl ⟨by rfl, ?_⟩) hHeld ?_ ?_
    rotate_left
    ·intro w' s0
     go_simp
     with_reducible rfl
    rotate_left
    ·simp only [Act.put, List.setIfInBounds_toArray, List.set_cons_zero, List.set_cons_succ, i64_w, i32_w]
     rfl
    refine one_ (i := 4) (N := some 96) #[true, true, true, true, true, false, false] rfl rfl (by kernel_rfl) (by decide) (fun K hK => ?_)
    refine goes_ Tryz.func109 (by kernel_rfl) rfl #[] (by rfl) rfl rfl (by simp only [List.map_toArray, List.map_nil]) ?_
    with_reducible refine (bounds3 _ (HGW.out _ (HPS2.out.bel.drew))).mono ?_
    rintro e w4 ⟨m, Inv, rfl, hR, hI, hb4⟩
    refine ⟨_, rfl, ?_⟩
    refine hK.out _ _ ((hb4.cell (p := ⟨g, 3, none⟩) hgl).trans hc3) (fun hHeld => ?_)
    clear hK K
    refine norm_ (a' := ?_) ?_ ?_
    rotate_left
    ·show Act.put _ (some 96) _ = _
     simp only [Act.put, List.setIfInBounds_toArray, List.set_cons_zero, List.set_cons_succ, i64_w, i32_w]
     rfl
    refine last_ (i := 5) (N := some 97) #[true, true, true, true, true, true, false] rfl rfl (by kernel_rfl) (by decide) (fun K hK => ?_)
    have HP4 := Lib.hid ((HPS2.out.below ((Below.refl _ _).drew)).below hb4)
    refine goesV_ Tryz.func104 (by kernel_rfl) rfl #[.string x3, .agg #[.int .u64 (loK 3 : Nat), .int .u64 (hiK 3 : Nat), .map m]] #[.pointer (some ⟨ge, 0, none⟩)] #[.string x3, .agg #[.int .u64 (loK 3 : Nat), .int .u64 (hiK 3 : Nat), .map m], .pointer (some ⟨ge, 0, none⟩)] rfl (by rfl) (by rfl) rfl rfl (by simp only [List.map_toArray, List.map_cons, List.map_nil]; rfl) ?_
    with_reducible refine (HC3.out m Inv hR _ hI HP4.out.lt e2 (((true && r0.isSome) && r1.isSome) && r2.isSome) HE2.out HP4.out.err HP4.out.free).mono ?_
    rintro e w5 ⟨n, x, rfl, hl5, he5, hn5⟩
    refine ⟨_, rfl, ?_⟩
    have HP5 := Lib.hid (HP4.out.left hl5)
    have HE5 := Lib.hid he5
    have HN5 := Lib.hid hn5
    clear hl5 he5 hn5
    refine hK.out _ _ ?_
    clear hK K
    refine norm_ (a' := ?_) ?_ ?_
    rotate_left
    ·show Act.put _ (some 97) _ = _
     simp only [Act.put, List.setIfInBounds_toArray, List.set_cons_zero, List.set_cons_succ, i64_w, i32_w]
     rfl
    refine pure_ (i := 6) (N := some 16) (v := ?_) (a' := ?_) #[true, true, true, true, true, true, true] rfl rfl (by kernel_rfl) (fun _ _ _ h => h) (Or.inl ⟨by rfl, ?_⟩) ?_ ?_
    rotate_left
    ·intro w'
     go_simp
     with_reducible rfl
    rotate_left
    ·simp only [Act.put, List.setIfInBounds_toArray, List.set_cons_zero, List.set_cons_succ, i64_w, i32_w]
     rfl
    refine done_ (by kernel_rfl) ?_
    go_wp2_with fail
    go_meet
    exact ⟨n, x, rfl, HP5, HE5, HN5⟩
   case rest =>
   obtain ⟨n3, e3, rfl, HPS3, HE3, HN3⟩ := hcut
   obtain ⟨wk3, rfl⟩ : ∃ wk : World, wk = wc := ⟨_, rfl⟩
   clear HPS2 HE2 HC3 HX3
   go_upto_region 26 with fail
   go_cut [17] (fun v wc => ∃ (n : Int) (x : Value), v = .int .u64 n ∧ Hid (PSt w wc g c ge l x) ∧ Hid (ErrSt x (((((true && r0.isSome) && r1.isSome) && r2.isSome) && r3.isSome) && r4.isSome)) ∧ Hid (((((true && r0.isSome) && r1.isSome) && r2.isSome) && r3.isSome) = true → ∀ b, r4 = some b → n = b))
   case first =>
    have hc4 : wk3.cell? ⟨g, 4, none⟩ = some (.string x4) := HPS3.out.txt.at_ 4 _ HX4.out
    have hgl : g < wk3.heap.size := HPS3.out.txt.lt
    refine start_ (n := 7) (S := fun w' => w'.cell? ⟨g, 4, none⟩ = some (.string x4)) (ds := [5]) #[false, false, false, false, false, false, false] (by kernel_rfl) rfl rfl (hc4) (fun hHeld => ?_)
    refine pure_ (i := 0) (N := some 98) (v := ?_) (a' := ?_) #[true, false, false, false, false, false, false] rfl rfl (by kernel_rfl) (fun _ _ _ h => h) (Or.inl ⟨by rfl, ?_⟩) ?_ ?_
    rotate_left
    ·intro w'
     go_simp
     with_reducible rfl
    rotate_left
    ·simp only [Act.put, List.setIfInBounds_toArray, List.set_cons_zero, List.set_cons_succ, i64_w, i32_w]
     rfl
    refine pure_ (i := 1) (N := some 99) (v := ?_) (a' := ?_) #[true, true, false, false, false, false, false] rfl rfl (by kernel_rfl) (fun _ _ _ h => h) (Or.inl ⟨by rfl, ?_⟩) ?_ ?_
    rotate_left
    ·intro w'
     go_simp
     with_reducible rfl
    rotate_left
    ·simp only [Act.put, List.setIfInBounds_toArray, List.set_cons_zero, List.set_cons_succ, i64_w, i32_w]
     rfl
    refine pure_ (i := 2) (N := some 100) (v := ?_) (a' := ?_) #[true, true, true, false, false, false, false] rfl rfl (by kernel_rfl) (fun _ _ _ h => h) (Or.inl ⟨by rfl, ?_⟩) ?_ ?_
    rotate_left
    ·intro w'
     go_simp
     with_reducible rfl
    rotate_left
    ·simp only [Act.put, List.setIfInBounds_toArray, List.set_cons_zero, List.set_cons_succ, i64_w, i32_w]
     rfl
    refine take_ (i := 3) (N := some 101) (v := ?_) (a' := ?_) #[true, true, true, true, false, false, false] rfl rfl (by kernel_rfl) (fun _ _ _ h => h) (Or.inl ⟨by rfl, ?_⟩) hHeld ?_ ?_
    rotate_left
    ·intro w' s0
     go_simp
     with_reducible rfl
    rotate_left
    ·simp only [Act.put, List.setIfInBounds_toArray, List.set_cons_zero, List.set_cons_succ, i64_w, i32_w]
     rfl
    refine one_ (i := 4) (N := some 102) #[true, true, true, true, true, false, false] rfl rfl (by kernel_rfl) (by decide) (fun K hK => ?_)
    refine goes_ Tryz.func110 (by kernel_rfl) rfl #[] (by rfl) rfl rfl (by simp only [List.map_toArray, List.map_nil]) ?_
    with_reducible refine (bounds4 _ (HGW.out _ (HPS3.out.bel.drew))).mono ?_
    rintro e w4 ⟨m, Inv, rfl, hR, hI, hb4⟩
    refine ⟨_, rfl, ?_⟩
    refine hK.out _ _ ((hb4.cell (p := ⟨g, 4, none⟩) hgl).trans hc4) (fun hHeld => ?_)
    clear hK K
    refine norm_ (a' := ?_) ?_ ?_
    rotate_left
    ·show Act.put _ (some 102) _ = _
     simp only [Act.put, List.setIfInBounds_toArray, List.set_cons_zero, List.set_cons_succ, i64_w, i32_w]
     rfl
    refine last_ (i := 5) (N := some 103) #[true, true, true, true, true, true, false] rfl rfl (by kernel_rfl) (by decide) (fun K hK => ?_)
    have HP4 := Lib.hid ((HPS3.out.below ((Below.refl _ _).drew)).below hb4)
    refine goesV_ Tryz.func104 (by kernel_rfl) rfl #[.string x4, .agg #[.int .u64 (loK 4 : Nat), .int .u64 (hiK 4 : Nat), .map m]] #[.pointer (some ⟨ge, 0, none⟩)] #[.string x4, .agg #[.int .u64 (loK 4 : Nat), .int .u64 (hiK 4 : Nat), .map m], .pointer (some ⟨ge, 0, none⟩)] rfl (by rfl) (by rfl) rfl rfl (by simp only [List.map_toArray, List.map_cons, List.map_nil]; rfl) ?_
    with_reducible refine (HC4.out m Inv hR _ hI HP4.out.lt e3 ((((true && r0.isSome) && r1.isSome) && r2.isSome) && r3.isSome) HE3.out HP4.out.err HP4.out.free).mono ?_
    rintro e w5 ⟨n, x, rfl, hl5, he5, hn5⟩
    refine ⟨_, rfl, ?_⟩
    have HP5 := Lib.hid (HP4.out.left hl5)
    have HE5 := Lib.hid he5
    have HN5 := Lib.hid hn5
    clear hl5 he5 hn5
    refine hK.out _ _ ?_
    clear hK K
    refine norm_ (a' := ?_) ?_ ?_
    rotate_left
    ·show Act.put _ (some 103) _ = _
     simp only [Act.put, List.setIfInBounds_toArray, List.set_cons_zero, List.set_cons_succ, i64_w, i32_w]
     rfl
    refine pure_ (i := 6) (N := some 17) (v := ?_) (a' := ?_) #[true, true, true, true, true, true, true] rfl rfl (by kernel_rfl) (fun _ _ _ h => h) (Or.inl ⟨by rfl, ?_⟩) ?_ ?_
    rotate_left
    ·intro w'
     go_simp
     with_reducible rfl
    rotate_left
    ·simp only [Act.put, List.setIfInBounds_toArray, List.set_cons_zero, List.set_cons_succ, i64_w, i32_w]
     rfl
    refine done_ (by kernel_rfl) ?_
    go_wp2_with fail
    go_meet
    exact ⟨n, x, rfl, HP5, HE5, HN5⟩
   case rest =>
   obtain ⟨n4, e4, rfl, HPS4, HE4, HN4⟩ := hcut
   obtain ⟨wk4, rfl⟩ : ∃ wk : World, wk = wc := ⟨_, rfl⟩
   clear HPS3 HE3 HC4 HX4
   go_upto_region 27 with fail
   go_cut [18] (fun v wc => ∃ (n : Int) (x : Value), v = .int .u64 n ∧ Hid (PSt w wc g c ge l x) ∧ Hid (ErrSt x ((((((true && r0.isSome) && r1.isSome) && r2.isSome) && r3.isSome) && r4.isSome) && r5.isSome)) ∧ Hid ((((((true && r0.isSome) && r1.isSome) && r2.isSome) && r3.isSome) && r4.isSome) = true → ∀ b, r5 = some b → n = b))
   case first =>
    have hc5 : wk4.cell? ⟨g, 5, none⟩ = some (.string x5) := HPS4.out.txt.at_ 5 _ HX5.out
    have hgl : g < wk4.heap.size := HPS4.out.txt.lt
    refine start_ (n := 7) (S := fun w' => w'.cell? ⟨g, 5, none⟩ = some (.string x5)) (ds := [5]) #[false, false, false, false, false, false, false] (by kernel_rfl) rfl rfl (hc5) (fun hHeld => ?_)
    refine pure_ (i := 0) (N := some 104) (v := ?_) (a' := ?_) #[true, false, false, false, false, false, false] rfl rfl (by kernel_rfl) (fun _ _ _ h => h) (Or.inl ⟨by rfl, ?_⟩) ?_ ?_
    rotate_left
    ·intro w'
     go_simp
     with_reducible rfl
    rotate_left
    ·simp only [Act.put, List.setIfInBounds_toArray, List.set_cons_zero, List.set_cons_succ, i64_w, i32_w]
     rfl
    refine pure_ (i := 1) (N := some 105) (v := ?_) (a' := ?_) #[true, true, false, false, false, false, false] rfl rfl (by kernel_rfl) (fun _ _ _ h => h) (Or.inl ⟨by rfl, ?_⟩) ?_ ?_
    rotate_left
    ·intro w'
     go_simp
     with_reducible rfl
    rotate_left
    ·simp only [Act.put, List.setIfInBounds_toArray, List.set_cons_zero, List.set_cons_succ, i64_w, i32_w]
     rfl
    refine pure_ (i := 2) (N := some 106) (v := ?_) (a' := ?_) #[true, true, true, false, false, false, false] rfl rfl (by kernel_rfl) (fun _ _ _ h => h) (Or.inl ⟨by rfl, ?_⟩) ?_ ?_
    rotate_left
    ·intro w'
     go_simp
     with_reducible rfl
    rotate_left
    ·simp only [Act.put, List.setIfInBounds_toArray, List.set_cons_zero, List.set_cons_succ, i64_w, i32_w]
     rfl
    refine take_ (i := 3) (N := some 107) (v := ?_) (a' := ?_) #[true, true, true, true, false, false, false] rfl rfl (by kernel_rfl) (fun _ _ _ h => h) (Or.inl ⟨by rfl, ?_⟩) hHeld ?_ ?_
    rotate_left
    ·intro w' s0
     go_simp
     with_reducible rfl
    rotate_left
    ·simp only [Act.put, List.setIfInBounds_toArray, List.set_cons_zero, List.set_cons_succ, i64_w, i32_w]
     rfl
    refine one_ (i := 4) (N := some 108) #[true, true, true, true, true, false, false] rfl rfl (by kernel_rfl) (by decide) (fun K hK => ?_)
    refine goes_ Tryz.func111 (by kernel_rfl) rfl #[] (by rfl) rfl rfl (by simp only [List.map_toArray, List.map_nil]) ?_
    with_reducible refine (bounds5 _ (HGW.out _ (HPS4.out.bel.drew))).mono ?_
    rintro e w4 ⟨m, Inv, rfl, hR, hI, hb4⟩
    refine ⟨_, rfl, ?_⟩
    refine hK.out _ _ ((hb4.cell (p := ⟨g, 5, none⟩) hgl).trans hc5) (fun hHeld => ?_)
    clear hK K
    refine norm_ (a' := ?_) ?_ ?_
    rotate_left
    ·show Act.put _ (some 108) _ = _
     simp only [Act.put, List.setIfInBounds_toArray, List.set_cons_zero, List.set_cons_succ, i64_w, i32_w]
     rfl
    refine last_ (i := 5) (N := some 109) #[true, true, true, true, true, true, false] rfl rfl (by kernel_rfl) (by decide) (fun K hK => ?_)
    have HP4 := Lib.hid ((HPS4.out.below ((Below.refl _ _).drew)).below hb4)
    refine goesV_ Tryz.func104 (by kernel_rfl) rfl #[.string x5, .agg #[.int .u64 (loK 5 : Nat), .int .u64 (hiK 5 : Nat), .map m]] #[.pointer (some ⟨ge, 0, none⟩)] #[.string x5, .agg #[.int .u64 (loK 5 : Nat), .int .u64 (hiK 5 : Nat), .map m], .pointer (some ⟨ge, 0, none⟩)] rfl (by rfl) (by rfl) rfl rfl (by simp only [List.map_toArray, List.map_cons, List.map_nil]; rfl) ?_
    with_reducible refine (HC5.out m Inv hR _ hI HP4.out.lt e4 (((((true && r0.isSome) && r1.isSome) && r2.isSome) && r3.isSome) && r4.isSome) HE4.out HP4.out.err HP4.out.free).mono ?_
    rintro e w5 ⟨n, x, rfl, hl5, he5, hn5⟩
    refine ⟨_, rfl, ?_⟩
    have HP5 := Lib.hid (HP4.out.left hl5)
    have HE5 := Lib.hid he5
    have HN5 := Lib.hid hn5
    clear hl5 he5 hn5
    refine hK.out _ _ ?_
    clear hK K
    refine norm_ (a' := ?_) ?_ ?_
    rotate_left
    ·show Act.put _ (some 109) _ = _
     simp only [Act.put, List.setIfInBounds_toArray, List.set_cons_zero, List.set_cons_succ, i64_w, i32_w]
     rfl
    refine pure_ (i := 6) (N := some 18) (v := ?_) (a' := ?_) #[true, true, true, true, true, true, true] rfl rfl (by kernel_rfl) (fun _ _ _ h => h) (Or.inl ⟨by rfl, ?_⟩) ?_ ?_
    rotate_left
    ·intro w'
     go_simp
     with_reducible rfl
    rotate_left
    ·simp only [Act.put, List.setIfInBounds_toArray, List.set_cons_zero, List.set_cons_succ, i64_w, i32_w]
     rfl
    refine done_ (by kernel_rfl) ?_
    go_wp2_with fail
    go_meet
    exact ⟨n, x, rfl, HP5, HE5, HN5⟩
   case rest =>
   obtain ⟨n5, e5, rfl, HPS5, HE5, HN5⟩ := hcut
   obtain ⟨wk5, rfl⟩ : ∃ wk : World, wk = wc := ⟨_, rfl⟩
   clear HPS4 HE4 HC5 HX5
   have hcE := HPS5.out.err
   have hB6 := Lib.hid HPS5.out.bel
   clear HPS5
   cases hok : (((((true && r0.isSome) && r1.isSome) && r2.isSome) && r3.isSome) && r4.isSome && r5.isSome) with
   | true =>
    have hk : r0.isSome = true ∧ r1.isSome = true ∧ r2.isSome = true ∧ r3.isSome = true ∧ r4.isSome = true ∧ r5.isSome = true := by
     simpa [Bool.and_eq_true, and_assoc] using hok
    obtain ⟨k0, k1, k2, k3, k4, k5⟩ := hk
    obtain ⟨b0, rfl⟩ := Option.isSome_iff_exists.1 k0
    obtain ⟨b1, rfl⟩ := Option.isSome_iff_exists.1 k1
    obtain ⟨b2, rfl⟩ := Option.isSome_iff_exists.1 k2
    obtain ⟨b3, rfl⟩ := Option.isSome_iff_exists.1 k3
    obtain ⟨b4, rfl⟩ := Option.isSome_iff_exists.1 k4
    obtain ⟨b5, rfl⟩ := Option.isSome_iff_exists.1 k5
    obtain rfl := HN0.out rfl b0 rfl
    obtain rfl := HN1.out rfl b1 rfl
    obtain rfl := HN2.out rfl b2 rfl
    obtain rfl := HN3.out rfl b3 rfl
    obtain rfl := HN4.out rfl b4 rfl
    obtain rfl := HN5.out rfl b5 rfl
    have he5 := errSt_ok HE5.out rfl
    subst he5
    have HX6 : Hid (parseS s o = some [b0, b1, b2, b3, b4, b5]) := Lib.hid (by rw [HX.out]; exact HS.out b0 b1 b2 b3 b4 b5 rfl rfl rfl rfl rfl rfl)
    clear hok k0 k1 k2 k3 k4 k5 HN HN0 HN1 HN2 HN3 HN4 HN5 HS HE5
    go_wp2_with fail
    go_ret2
    rw [HX6.out]
    exact ⟨⟨wk5.heap.size, rfl, heap_alloc_new wk5 _⟩, hB6.out.alloc hB6.out.size _⟩
   | false =>
    obtain ⟨t, x, rfl⟩ := errSt_bad HE5.out (by simpa [Bool.and_assoc] using hok)
    have HX6 : Hid (parseS s o = none) := Lib.hid (by rw [HX.out]; exact HN.out hok)
    clear hok
    go_wp2_with fail
    go_quiet (fail)
    go_wp2_with fail
    go_ret2
    rw [HX6.out]
    exact ⟨⟨t, x, rfl⟩, below_of_le hB6.out (below_drewN _ nq)⟩
end Go.Proofs.YtmecbmgfacpecaaGreatDoor.Cron
namespace Go.Proofs.YtmecbmgfacpecaaGreatDoor.Cron
open Go Go.RowKit Go.Proofs.YtmecbmgfacpecaaGreatDoor.Text Go.Proofs.YtmecbmgfacpecaaGreatDoor.Bits
set_option linter.unusedVariables false
set_option linter.unusedSimpArgs false
theorem newParser_ok (o : Nat) (ho : o < 512) (h : ¬ (0 < o &&& 128 ∧ 0 < o &&& 2)) (w : World) :
  Calls Tryz.prog 95 #[.int .i64 o] w fun e w' => e = .returned (.agg #[.int .i64 o]) ∧ Below w.heap.size w w' := by
 have hand1 : bits .and .i64 (o : Int) 2 = ((o &&& 2 : Nat) : Int) := and_i64 (b := 2) (by omega) (by decide)
 have hand2 : bits .and .i64 (o : Int) 128 = ((o &&& 128 : Nat) : Int) := and_i64 (b := 128) (by omega) (by decide)
 generalize o &&& 2 = a at *
 generalize o &&& 128 = b at *
 by_cases h1 : 0 < b
 ·have h2 : ¬ 0 < a := fun h2 => h ⟨h1, h2⟩
  have d1 : decide (0 < (b : Int)) = true := decide_eq_true (by omega)
  have d2 : decide (0 < (a : Int)) = false := decide_eq_false (by omega)
  go_enter Tryz.func95, Tryz.ntmps95
  go_wp2
  exact bodyPost_ret (v := .agg #[.int .i64 o]) (by simp [results, Tryz.results95, go_sem]) rfl ⟨rfl, (Below.refl _ _).alloc (Nat.le_refl _) _⟩
 ·have d1 : decide (0 < (b : Int)) = false := decide_eq_false (by omega)
  by_cases h2 : 0 < a
  ·have d2 : decide (0 < (a : Int)) = true := decide_eq_true (by omega)
   go_enter Tryz.func95, Tryz.ntmps95
   go_wp2
   exact bodyPost_ret (v := .agg #[.int .i64 o]) (by simp [results, Tryz.results95, go_sem]) rfl ⟨rfl, (Below.refl _ _).alloc (Nat.le_refl _) _⟩
  ·have d2 : decide (0 < (a : Int)) = false := decide_eq_false (by omega)
   go_enter Tryz.func95, Tryz.ntmps95
   go_wp2
   exact bodyPost_ret (v := .agg #[.int .i64 o]) (by simp [results, Tryz.results95, go_sem]) rfl ⟨rfl, (Below.refl _ _).alloc (Nat.le_refl _) _⟩
theorem newParser_bad (o : Nat) (ho : o < 512) (h : 0 < o &&& 128 ∧ 0 < o &&& 2) (w : World) :
  Calls Tryz.prog 95 #[.int .i64 o] w fun e w' => (∃ t x, e = .panicked [{ v := .iface t x, recovered := false }]) ∧ Below w.heap.size w w' := by
 have hand1 : bits .and .i64 (o : Int) 2 = ((o &&& 2 : Nat) : Int) := and_i64 (b := 2) (by omega) (by decide)
 have hand2 : bits .and .i64 (o : Int) 128 = ((o &&& 128 : Nat) : Int) := and_i64 (b := 128) (by omega) (by decide)
 generalize o &&& 2 = a at *
 generalize o &&& 128 = b at *
 have d1 : decide (0 < (b : Int)) = true := decide_eq_true (by omega)
 have d2 : decide (0 < (a : Int)) = true := decide_eq_true (by omega)
 go_enter Tryz.func95, Tryz.ntmps95
 go_wp2
 exact ⟨rfl, ⟨_, _, rfl⟩, (Below.refl _ _).alloc (Nat.le_refl _) _⟩
theorem catch_panicking (p : Addr) (x : Bool) (u : TypeId) (pv : Value) (older : List PanicEntry) (w : World) (hc : w.cell? p = some (.bool x)) (hz : w.frozen? p = false) :
  CallsD Tryz.prog 94 #[.pointer (some p)] (.panicking ({ v := .iface u pv, recovered := false } :: older)) w fun e u' w' =>
   e = .returned (.tuple #[]) ∧ u' = .panicking ({ v := .iface u pv, recovered := true } :: older) ∧ w' = w.setCell p (.bool true) := by
 refine callsD_of_wpS Tryz.func94 rfl fun c₀ cs hu => ?_
 apply wpS_seq
 apply wpS_region
 simp [wpOpsS, go_sem, recoverD, hu, Tryz.ntmps94, Exit.thenS]
 refine wpS_cond (t := true) (by simp [Act.eval, Array.replicate]) ?_
 simp only [if_true]
 apply wpS_region
 simp [wpOpsS, go_sem, hc, hz, bodyPostS, results, Tryz.results94]
theorem catch_idle (p : Addr) (w : World) :
  CallsD Tryz.prog 94 #[.pointer (some p)] .returning w fun e u' w' => e = .returned (.tuple #[]) ∧ u' = .returning ∧ w' = w := by
 refine callsD_of_wpS Tryz.func94 rfl fun c₀ cs hu => ?_
 apply wpS_seq
 apply wpS_region
 simp [wpOpsS, go_sem, recoverD, hu, Tryz.ntmps94, Exit.thenS]
 refine wpS_cond (t := false) (by simp [Act.eval, Array.replicate]) ?_
 simp only [Bool.false_eq_true, if_false]
 refine wpS_of_wp (wp_skip ?_)
 cases c₀
 simp_all [bodyPostS, results, Tryz.results94]
theorem parser_ok (o : Nat) (ho : o < 512) (h : ¬ (0 < o &&& 128 ∧ 0 < o &&& 2)) (w : World) :
  Calls Tryz.prog 45 #[.int .i64 o] w fun e w' => e = .returned (.tuple #[.agg #[.int .i64 o], .bool false]) ∧ Below w.heap.size w w' := by
 have hmf : ∀ (fn : Fn) (first cap : Array Value) (w : World), (Instr.makeFunc fn first cap).run Tryz.prog w = .ok (.func fn first cap) w := fun _ _ _ _ => rfl
 go_enter_defers Tryz.func45, Tryz.ntmps45
 go_wp2_with fail
 refine (newParser_ok o ho h _).mono ?_
 rintro e w1 ⟨rfl, hb⟩
 have hB : Below w.heap.size w w1 := (((Below.refl _ _).alloc (Nat.le_refl _) _).alloc (by simp) _).trans (hb.mono (by simp; omega))
 have c1 : w1.cell? ⟨w.heap.size, 0, none⟩ = some (.int .i64 0) := (hb.cell (p := ⟨w.heap.size, 0, none⟩) (by simp; omega)).trans (by simp [go_sem])
 have c2 : w1.cell? ⟨w.heap.size + 1, 0, none⟩ = some (.bool false) := (hb.cell (p := ⟨w.heap.size + 1, 0, none⟩) (by simp)).trans (by simp [go_sem])
 have f1 : w1.frozen? ⟨w.heap.size, 0, none⟩ = false := (hb.frozen (p := ⟨w.heap.size, 0, none⟩) (by simp; omega)).trans (by simp [go_sem])
 have f2 : w1.frozen? ⟨w.heap.size + 1, 0, none⟩ = false := (hb.frozen (p := ⟨w.heap.size + 1, 0, none⟩) (by simp)).trans (by simp [go_sem])
 have hz1 : w.heap.size + 1 < w1.heap.size := by have := hb.size; simp at this; omega
 clear hb
 go_wp2_with fail
 refine leaves_cons (f := 94) (args := #[.pointer (some ⟨w.heap.size + 1, 0, none⟩)]) (by simp) (by simp [go_sem]) ?_
 refine (catch_idle ⟨w.heap.size + 1, 0, none⟩ _).mono ?_
 rintro e u' w'' ⟨rfl, rfl, rfl⟩
 have hB2 := Lib.hid ((hB.setCell (p := ⟨w.heap.size, 0, none⟩) (Nat.le_refl _) (.int .i64 o)).setCell (p := ⟨w.heap.size + 1, 0, none⟩) (by simp) (.bool false))
 simp [Leaves, settle, results, Tryz.results45, go_sem, c1, c2, f1, f2]
 exact hB2.out
theorem parser_bad (o : Nat) (ho : o < 512) (h : 0 < o &&& 128 ∧ 0 < o &&& 2) (w : World) :
  Calls Tryz.prog 45 #[.int .i64 o] w fun e w' => e = .returned (.tuple #[.agg #[.int .i64 0], .bool true]) ∧ Below w.heap.size w w' := by
 have hmf : ∀ (fn : Fn) (first cap : Array Value) (w : World), (Instr.makeFunc fn first cap).run Tryz.prog w = .ok (.func fn first cap) w := fun _ _ _ _ => rfl
 go_enter_defers Tryz.func45, Tryz.ntmps45
 go_wp2_with fail
 refine (newParser_bad o ho h _).mono ?_
 rintro e w1 ⟨⟨t, x, rfl⟩, hb⟩
 have hB : Below w.heap.size w w1 := (((Below.refl _ _).alloc (Nat.le_refl _) _).alloc (by simp) _).trans (hb.mono (by simp; omega))
 have c1 : w1.cell? ⟨w.heap.size, 0, none⟩ = some (.int .i64 0) := (hb.cell (p := ⟨w.heap.size, 0, none⟩) (by simp; omega)).trans (by simp [go_sem])
 have c2 : w1.cell? ⟨w.heap.size + 1, 0, none⟩ = some (.bool false) := (hb.cell (p := ⟨w.heap.size + 1, 0, none⟩) (by simp)).trans (by simp [go_sem])
 have f1 : w1.frozen? ⟨w.heap.size, 0, none⟩ = false := (hb.frozen (p := ⟨w.heap.size, 0, none⟩) (by simp; omega)).trans (by simp [go_sem])
 have f2 : w1.frozen? ⟨w.heap.size + 1, 0, none⟩ = false := (hb.frozen (p := ⟨w.heap.size + 1, 0, none⟩) (by simp)).trans (by simp [go_sem])
 have hz1 : w.heap.size + 1 < w1.heap.size := by have := hb.size; simp at this; omega
 clear hb
 go_wp2_with fail
 refine leaves_cons (f := 94) (args := #[.pointer (some ⟨w.heap.size + 1, 0, none⟩)]) (by simp) (by simp [go_sem]) ?_
 refine (catch_panicking ⟨w.heap.size + 1, 0, none⟩ false t x [] _ c2 f2).mono ?_
 rintro e u' w'' ⟨rfl, rfl, rfl⟩
 have hB2 := Lib.hid (hB.setCell (p := ⟨w.heap.size + 1, 0, none⟩) (by simp) (.bool true))
 simp [Leaves, settle, results, Tryz.results45, go_sem, c1, c2, f1, f2]
 exact hB2.out
def twoB (o : Nat) : Bool := decide (0 < o &&& 128) && decide (0 < o &&& 2)
end Go.Proofs.YtmecbmgfacpecaaGreatDoor.Cron
