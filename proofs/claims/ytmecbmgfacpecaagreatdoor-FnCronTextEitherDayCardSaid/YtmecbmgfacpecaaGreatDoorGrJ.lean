/- Lemmas and walks on the way to the law, merged by wip/tools/pack.py: ZZFields, Normal, Names, Values. Conditions: none. -/
import Derived.Test.YtmecbmgfacpecaaGreatDoorGrI
import Derived.Test.YtmecbmgfacpecaaGreatDoorPrB
import Derived.Lib.FieldsP
import Derived.OwnWalk
import Derived.Laws.MakeOwn
import Derived.Laws.AppendOwnNone
import Derived.Laws.OwnMore
import Derived.Laws.CopyOwn
import Derived.Deep.DeepCutAuto
import Derived.Deep.DeepMust
import Derived.Outline
import Derived.MapKept
namespace Go.Proofs.YtmecbmgfacpecaaGreatDoor.Cron
open Go Go.RowKit Go.Lib Go.Proofs.YtmecbmgfacpecaaGreatDoorW.PrintWords Go.Proofs.YtmecbmgfacpecaaGreatDoorW.PrintLast Go.Proofs.YtmecbmgfacpecaaGreatDoorW.PrintMore Go.Proofs.YtmecbmgfacpecaaGreatDoor.Pr
set_option linter.unusedVariables false
def spaceZ (r : Nat) : Bool :=
 decide (r = 9 ∨ r = 10 ∨ r = 11 ∨ r = 12 ∨ r = 13 ∨ r = 32 ∨ r = 133 ∨ r = 160 ∨ r = 5760 ∨ r = 8232 ∨ r = 8233 ∨ r = 8239 ∨ r = 8287 ∨ r = 12288 ∨ (8192 ≤ r ∧ r ≤ 8202))
theorem space_f (r : Nat) : cron_zzSpace.f (r : Int) = some (spaceZ r) := by
 unfold cron_zzSpace.f
 by_cases h : r = 9 ∨ r = 10 ∨ r = 11 ∨ r = 12 ∨ r = 13 ∨ r = 32 ∨ r = 133 ∨ r = 160 ∨ r = 5760 ∨ r = 8232 ∨ r = 8233 ∨ r = 8239 ∨ r = 8287 ∨ r = 12288
 ·have e : spaceZ r = true := by
   unfold spaceZ
   apply decide_eq_true
   omega
  rw [e]
  rcases h with rfl | rfl | rfl | rfl | rfl | rfl | rfl | rfl | rfl | rfl | rfl | rfl | rfl | rfl <;> rfl
 ·repeat rw [if_neg (by omega)]
  by_cases h2 : 8192 ≤ r
  ·rw [if_pos (by omega)]
   congr 1
   unfold spaceZ
   rw [Bool.eq_iff_iff]
   simp only [decide_eq_true_eq]
   omega
  ·rw [if_neg (by omega)]
   congr 1
   unfold spaceZ
   symm
   apply decide_eq_false
   omega
theorem space_any (r : Nat) (w : World) : Calls Tryz.prog 144 #[.int .i32 r] w fun e w' => e = .returned (.bool (spaceZ r)) ∧ ∃ n, w' = w.drewN n := by
 refine (cron_zzSpace.calls r (spaceZ r) w (space_f r)).mono fun e w' ⟨he, hw⟩ => ⟨he, hw.out⟩
def fieldsZ (s : ByteArray) : List ByteArray := Lib.goFieldsP spaceZ s
theorem info_string : (Tryz.prog.info? 9).map (fun i => (i.zero, i.size, i.bytes)) = some (some (.string ⟨#[]⟩), 1, 16) := by kernel_rfl
def spanS (s : ByteArray) (x : Nat × Nat) : Value := .string (s.extract x.1 x.2)
set_option maxRecDepth 100000 in
set_option maxHeartbeats 4000000 in
theorem zzFields_any (s : ByteArray) (hs : s.size ≤ 4294967296) (w : World) :
  Calls Tryz.prog 102 #[.string s] w fun e w' => ∃ v, e = .returned v ∧ w'.ownsRow w.heap.size 9 1 v (fieldsZ s).length ((fieldsZ s).map Value.string) ∧ Below w.heap.size w w' := by
 have hGF : (fieldsZ s).map Value.string = (Lib.spansOfP spaceZ s).map (spanS s) := by
  unfold fieldsZ Lib.goFieldsP
  rw [List.map_map]
  rfl
 have hGL : (fieldsZ s).length = (Lib.spansOfP spaceZ s).length := by
  unfold fieldsZ Lib.goFieldsP
  rw [List.length_map]
 rw [hGF, hGL]
 clear hGF hGL
 obtain ⟨i0, hi, hz0, hz1, hz2⟩ := info_parts info_string
 go_enter Tryz.func102, Tryz.ntmps102
 go_wp2
 go_loopg [3, 4] s.size (fun gf s3 s4 wx => ∃ (pos : Nat) (st : Option Nat) (acc : List (Nat × Nat)) (z : Int), s4 = .int .i64 z ∧ (st = none → z < 0) ∧ (∀ a, st = some a → z = (a : Int)) ∧ -9223372036854775808 ≤ z ∧
   wx.ownsRow w.heap.size 9 1 s3 acc.length (acc.map (spanS s)) ∧ wx.heap[w.heap.size]? = some (.stringIter s pos) ∧ Below w.heap.size w wx ∧
   Hid (Lib.spansFromP spaceZ s gf pos st acc = Lib.spansFromP spaceZ s s.size 0 none []) ∧ s.size ≤ pos + gf ∧ pos ≤ s.size ∧ acc.length ≤ pos ∧ (∀ a, st = some a → a < pos))
 case atStart =>
  exact ⟨0, none, [], -1, rfl, fun _ => by omega, (fun a h => by cases h), by omega, World.ownsRow_nil _ _ _ _, World.iter_heap w s 0, (Below.refl _ _).alloc (Nat.le_refl _) _, Lib.hid rfl, by omega, Nat.zero_le _, Nat.le_refl _, (fun a h => by cases h)⟩
 case round =>
  obtain ⟨pos, st, acc, z, rfl, hzn, hzs, hzl, hown, hit, hbw, HG, hfu, hps, hal, hst⟩ := hrel
  by_cases hlt : pos < s.size
  ·obtain ⟨g', rfl⟩ : ∃ g', gk = g' + 1 := ⟨gk - 1, by omega⟩
   have hnx : ∀ ty, (Instr.next (.pointer (some ⟨w.heap.size, 0, none⟩)) true ty).run Tryz.prog wr = _ := fun ty => Lib.run_next_any_at wr w.heap.size s pos ty hit hlt
   have hwd := Lib.width_pos s pos
   have hwn : pos + (Utf8.decode s pos).2 ≤ s.size := by
    have := Lib.decodeN_le_n' (s.size - pos) (s.get! pos).toNat (s.get! (pos + 1)).toNat (s.get! (pos + 2)).toNat (s.get! (pos + 3)).toNat (by omega)
    rw [← Lib.decode_at] at this
    omega
   have hrl := Lib.rune_le s pos
   have hG := HG.out
   simp only [Lib.spansFromP, hlt, if_true] at hG
   generalize (Utf8.decode s pos).1 = R at *
   generalize (Utf8.decode s pos).2 = K at *
   have hit2 := Lib.iterAt_heap wr w.heap.size s pos (pos + K) hit
   have hbw2 := Lib.below_iterAt hbw (k := w.heap.size) (Nat.le_refl _) s (pos + K)
   have hown2 := own_iterAt hown hit (pos + K)
   obtain ⟨W, hWd⟩ : ∃ W, wr.iterAt w.heap.size s (pos + K) = W := ⟨_, rfl⟩
   rw [hWd] at hnx hit2 hbw2 hown2
   have HS := Lib.hid (space_any R W)
   cases hsp : spaceZ R
   ·rw [hsp] at hG HS
    simp only [Bool.false_eq_true, if_false] at hG
    have HG2 := Lib.hid hG
    clear hown hit hbw HG hG
    cases st with
    | none =>
     have hz0' : z < 0 := hzn rfl
     go_wp2_with (go_at_call 144; go_must (refine (HS.out).mono ?_); rintro e W' ⟨rfl, q, rfl⟩)
     go_roundg g'
     case measure => omega
     case rel => exact ⟨pos + K, some pos, acc, pos, rfl, (fun h => by cases h), fun a h => by cases h; rfl, by omega, own_drewN hown2 q, hit2, pw_below_drewN hbw2 q, HG2, by omega, hwn, by omega, fun a h => by cases h; omega⟩
    | some a =>
     have hza : z = (a : Int) := hzs a rfl
     subst hza
     go_wp2_with (go_at_call 144; go_must (refine (HS.out).mono ?_); rintro e W' ⟨rfl, q, rfl⟩)
     go_roundg g'
     case measure => omega
     case rel => exact ⟨pos + K, some a, acc, a, rfl, (fun h => by cases h), fun b h => by cases h; rfl, by omega, own_drewN hown2 q, hit2, pw_below_drewN hbw2 q, HG2, by omega, hwn, by omega, fun b h => by cases h; have := hst a rfl; omega⟩
   ·rw [hsp] at hG HS
    simp only [if_true] at hG
    have HG2 := Lib.hid hG
    clear hown hit hbw HG hG
    cases st with
    | none =>
     have hz0' : z < 0 := hzn rfl
     go_wp2_with (go_at_call 144; go_must (refine (HS.out).mono ?_); rintro e W' ⟨rfl, q, rfl⟩)
     go_roundg g'
     case measure => omega
     case rel => exact ⟨pos + K, none, acc, z, rfl, fun _ => hz0', (fun a h => by cases h), hzl, own_drewN hown2 q, hit2, pw_below_drewN hbw2 q, HG2, by omega, hwn, by omega, (fun a h => by cases h)⟩
    | some a =>
     have hza : z = (a : Int) := hzs a rfl
     subst hza
     have hapos := hst a rfl
     have hz : w.heap.size < W.heap.size := (Array.getElem?_eq_some_iff.1 hit2).1
     go_wp2_with fail
     refine (HS.out).mono ?_
     rintro e W' ⟨rfl, q, rfl⟩
     have hown3 := own_drewN hown2 q
     have hbw3 := pw_below_drewN hbw2 q
     have hit3 : (W.drewN q).heap[w.heap.size]? = some (.stringIter s (pos + K)) := hit2
     have hz3 : w.heap.size < (W.drewN q).heap.size := hz
     clear hown2 hbw2 hit2 hz
     generalize W.drewN q = W3 at *
     go_wp2_with (at_builtin; refine wpList_append_own _ rfl _ _ 33 rfl w.heap.size 9 i0 (.string ⟨#[]⟩) 1 16 Tryz.underlying33 hi hz0 hz1 hz2 rfl (by decide) _ _ _ rfl (hown3.alloc _) ⟨W3.heap.size, 0, none⟩ 1 1 [_] rfl rfl (one_new W3 _ _) (by intro u hu; simp at hu; subst hu; rfl) (by unfold maxLen; omega) (by omega) (by simp; omega) ?_; intro v' w1 hown' hgrow _)
     obtain ⟨hit4, hbw4⟩ := low_step _ hbw3 hit3 hown3 hgrow
     have hown4 : w1.ownsRow w.heap.size 9 1 v' (acc ++ [(a, pos)]).length ((acc ++ [(a, pos)]).map (spanS s)) := by
      rw [List.length_append, List.map_append]
      exact hown'
     clear hown' hgrow hown3 hit3 hbw3
     go_roundg g'
     case measure => omega
     case rel => exact ⟨pos + K, none, acc ++ [(a, pos)], -1, rfl, fun _ => by omega, (fun a h => by cases h), by omega, hown4, hit4, hbw4, HG2, by omega, hwn, by simp; omega, (fun a h => by cases h)⟩
  ·have hnx := fun ty => run_next_end_at (P := Tryz.prog) wr w.heap.size s pos ty hit hlt
   have hend : Lib.spansOfP spaceZ s = Lib.closeSpans s (acc, st) := by
    have := HG.out
    rw [Lib.spansFromP_end _ _ _ _ _ _ hlt] at this
    unfold Lib.spansOfP
    rw [← this]
   have hz3 : w.heap.size < wr.heap.size := (Array.getElem?_eq_some_iff.1 hit).1
   cases st with
   | none =>
    have hz0' : z < 0 := hzn rfl
    have hE : Lib.spansOfP spaceZ s = acc := hend
    have HE := Lib.hid hE
    clear HG hend hE
    go_wp2_with fail
    go_ret
    refine ⟨_, rfl, ?_, hbw⟩
    rw [HE.out]
    exact hown
   | some a =>
    have hza : z = (a : Int) := hzs a rfl
    subst hza
    have hapos := hst a rfl
    have hE : Lib.spansOfP spaceZ s = acc ++ [(a, s.size)] := hend
    have HE := Lib.hid hE
    clear HG hend hE
    go_wp2_with (at_builtin; refine wpList_append_own _ rfl _ _ 33 rfl w.heap.size 9 i0 (.string ⟨#[]⟩) 1 16 Tryz.underlying33 hi hz0 hz1 hz2 rfl (by decide) _ _ _ rfl (hown.alloc _) ⟨wr.heap.size, 0, none⟩ 1 1 [_] rfl rfl (one_new wr _ _) (by intro u hu; simp at hu; subst hu; rfl) (by unfold maxLen; omega) (by omega) (by simp; omega) ?_; intro v' w1 hown' hgrow _)
    obtain ⟨hit4, hbw4⟩ := low_step _ hbw hit hown hgrow
    go_ret
    refine ⟨_, rfl, ?_, hbw4⟩
    rw [HE.out, List.length_append, List.map_append]
    exact hown'
end Go.Proofs.YtmecbmgfacpecaaGreatDoor.Cron
namespace Go.Proofs.YtmecbmgfacpecaaGreatDoor.Cron
open Go Go.RowKit Go.Proofs.YtmecbmgfacpecaaGreatDoor.Text Go.Proofs.YtmecbmgfacpecaaGreatDoor.Bits
set_option linter.unusedVariables false
theorem optS_lt {o : Nat} (h : o < 512) : optS o < 512 := by
 unfold optS
 split
 ·exact Nat.or_lt_two_pow (n := 9) h (by decide)
 ·exact h
theorem optD_lt {o : Nat} (h : o < 512) : optD o < 512 := by
 unfold optD
 split
 ·exact Nat.or_lt_two_pow (n := 9) h (by decide)
 ·exact h
theorem taken_step (q : Nat) (i : Nat) (h : i < 6) : takenN q (placesL.take (i + 1)) = takenN q (placesL.take i) + (if 0 < q &&& placesL[i]'(by simpa [placesL] using h) then 1 else 0) := by
 have hl : i < placesL.length := by simpa [placesL] using h
 unfold takenN
 rw [List.take_add_one, List.getElem?_eq_getElem hl]
 simp only [Option.toList_some, List.filter_append, List.length_append]
 congr 1
 by_cases hp : 0 < q &&& placesL[i]
 ·rw [List.filter_cons_of_pos (by simpa using hp), if_pos hp]; rfl
 ·rw [List.filter_cons_of_neg (by simpa using hp), if_neg hp]; rfl
theorem taken_le (q : Nat) (ps : List Nat) : takenN q ps ≤ ps.length := List.length_filter_le _ _
set_option maxRecDepth 100000 in
theorem opt_bit_all : ∀ o : Fin 512, nOpt o.val = 1 → ¬ 0 < optAll o.val &&& 128 → 0 < optAll o.val &&& 2 := by decide +kernel
set_option maxRecDepth 100000 in
theorem opt_min_all : ∀ o : Fin 512, nOpt o.val ≤ takenN (optAll o.val) placesL := by decide +kernel
theorem opt_bit {o : Nat} (h : o < 512) : nOpt o = 1 → ¬ 0 < optAll o &&& 128 → 0 < optAll o &&& 2 := opt_bit_all ⟨o, h⟩
theorem opt_min {o : Nat} (h : o < 512) : nOpt o ≤ takenN (optAll o) placesL := opt_min_all ⟨o, h⟩
theorem places_lt (i : Nat) (h : i < placesL.length) : placesL[i] < 512 := by
 have : ∀ p ∈ placesL, p < 512 := by decide
 exact this _ (List.getElem_mem h)
theorem own_below {w w' : World} {base : Nat} {e : TypeId} {size n : Nat} {v : Value} {xs : List Value} (h : w.ownsRow base e size v n xs) (hb : Below w.heap.size w w') : w'.ownsRow base e size v n xs := by
 refine ⟨h.1, ?_⟩
 rcases h.2 with h0 | ⟨g, cap, cur, hv, hbg, hg, rest⟩
 ·exact .inl h0
 ·exact .inr ⟨g, cap, cur, hv, hbg, (hb.block g (Array.getElem?_eq_some_iff.1 hg).1).trans hg, rest⟩
theorem own_slice {w : World} {base : Nat} {e : TypeId} {v : Value} {n : Nat} {xs : List Value} (h : w.ownsRow base e 1 v n xs) : ∃ A c, v = .slice A n c := by
 rcases h.2 with ⟨rfl, h0⟩ | ⟨g, cap, cur, rfl, _⟩
 ·exact ⟨none, 0, by rw [h0]⟩
 ·exact ⟨_, cap, rfl⟩
theorem taken_take_le (q : Nat) (ps : List Nat) (i : Nat) : takenN q (ps.take i) ≤ takenN q ps :=
 List.Sublist.length_le (List.Sublist.filter _ (List.take_sublist i ps))
theorem Ints.put {w : World} {g n cap : Nat} {l : List Nat} (h : Ints w g n cap l) {k j : Nat} (hk : g ≠ k) (v : Value) : Ints (w.setCell ⟨k, j, none⟩ v) g n cap l :=
 ⟨h.len, by simpa using h.lt, fun i x hx => by
  have := h.at_ i x hx
  unfold World.cell? at this ⊢
  rw [heap_setCell_other w ⟨k, j, none⟩ g v hk]
  exact this⟩
theorem row_put {w : World} {g i : Nat} {L : List ByteArray} {T : TypeId} (x : ByteArray) (h : w.heap[g]? = some (.cells (L.map Value.string).toArray T (0, 0))) : (w.setCell ⟨g, i, none⟩ (.string x)).heap[g]? = some (.cells ((L.set i x).map Value.string).toArray T (0, 0)) := by
 rw [heap_setCell_same w g i _ _ _ h, List.map_set, List.setIfInBounds_toArray]
def NormAnswer (base ge : Nat) (w : World) (r : Option (List ByteArray)) (e : Ending) (w' : World) : Prop :=
 (match r with
  | some l => ∃ g c, e = .returned (.tuple #[.slice (some ⟨g, 0, none⟩) 6 c, .nilIface]) ∧ w.heap.size ≤ g ∧ Texts w' g 6 c l
  | none => ∃ t x, e = .returned (.tuple #[.slice none 0 0, .iface t x])) ∧ Below base w w' ∧ w'.heap[ge]? = w.heap[ge]?
set_option maxRecDepth 100000 in
set_option maxHeartbeats 4000000 in
theorem normal_any (o : Nat) (ho : o < 512) (fs : List ByteArray) (v : Value) (w : World) (base : Nat) (hown : w.ownsRow base 9 1 v fs.length (fs.map Value.string)) (hfs : fs.length ≤ 4294967296) (hbase : base ≤ w.heap.size) (ge : Nat) (hgeB : ge < w.heap.size) (hrow : v.ownBlock ≠ some ge) :
  Calls Tryz.prog 103 #[v, .int .i64 o] w (NormAnswer base ge w (normF fs o)) := by
 have hS := optS_lt ho
 obtain ⟨A, cv, rfl⟩ : ∃ A cv, v = .slice A fs.length cv := by
  rcases hown.2 with ⟨rfl, h0⟩ | ⟨g, cap, cur, rfl, _⟩
  ·exact ⟨none, 0, by rw [h0]⟩
  ·exact ⟨_, cap, rfl⟩
 have hand1 : bits .and .i64 (o : Int) 2 = ((o &&& 2 : Nat) : Int) := and_i64 (b := 2) (by omega) (by decide)
 have hor1 : bits .or .i64 (o : Int) 1 = ((o ||| 1 : Nat) : Int) := or_i64 (b := 1) (by omega) (by decide)
 have hand2 : bits .and .i64 (optS o : Int) 128 = ((optS o &&& 128 : Nat) : Int) := and_i64 (b := 128) (by omega) (by decide)
 have hor2 : bits .or .i64 (optS o : Int) 64 = ((optS o ||| 64 : Nat) : Int) := or_i64 (b := 64) (by omega) (by decide)
 go_enter Tryz.func103, Tryz.ntmps103
 go_upto_if 18 with fail
 go_cut [1, 6] (fun v1 v6 wc => v1 = .int .i64 (optS o : Nat) ∧ v6 = .int .i64 ((if 0 < o &&& 2 then 1 else 0 : Nat) : Int) ∧ w = wc)
 case first =>
  by_cases h : 0 < o &&& 2
  ·have hs : optS o = o ||| 1 := by unfold optS; rw [if_pos h]
   have HS := Lib.hid hs
   have hp : (0 : Int) < ((o &&& 2 : Nat) : Int) := by omega
   clear hs hS hand2 hor2
   go_wp2_with fail
   go_meet
   exact ⟨by rw [HS.out], by rw [if_pos h]; rfl, rfl⟩
  ·have hs : optS o = o := by unfold optS; rw [if_neg h]
   have HS := Lib.hid hs
   have hp : ¬ (0 : Int) < ((o &&& 2 : Nat) : Int) := by omega
   clear hs hS hand2 hor2
   go_wp2_with fail
   go_meet
   exact ⟨by rw [HS.out], by rw [if_neg h]; rfl, rfl⟩
 case rest =>
  obtain ⟨rfl, rfl, rfl⟩ := hcut
  clear hand1 hor1
  go_upto_if 25 with fail
  go_cut [1, 6] (fun v1 v6 wc => v1 = .int .i64 (optAll o : Nat) ∧ v6 = .int .i64 (nOpt o : Nat) ∧ w = wc)
  case first =>
   by_cases h : 0 < optS o &&& 128
   ·have hs : optAll o = optS o ||| 64 := by unfold optAll optD; rw [if_pos h]
    have hn : nOpt o = (if 0 < o &&& 2 then 1 else 0) + 1 := by unfold nOpt; rw [if_pos h]
    have HS := Lib.hid hs
    have HN := Lib.hid hn
    have hp : (0 : Int) < ((optS o &&& 128 : Nat) : Int) := by omega
    have hq : (if 0 < o &&& 2 then 1 else 0) ≤ 1 := by split <;> omega
    clear hs hn hS
    generalize optS o = o1 at *
    generalize (if 0 < o &&& 2 then 1 else 0) = n1 at *
    go_wp2_with fail
    go_meet
    exact ⟨by rw [HS.out], by rw [HN.out]; rfl, rfl⟩
   ·have hs : optAll o = optS o := by unfold optAll optD; rw [if_neg h]
    have hn : nOpt o = (if 0 < o &&& 2 then 1 else 0) := by unfold nOpt; rw [if_neg h]; rfl
    have HS := Lib.hid hs
    have HN := Lib.hid hn
    have hp : ¬ (0 : Int) < ((optS o &&& 128 : Nat) : Int) := by omega
    clear hs hn hS
    generalize optS o = o1 at *
    generalize (if 0 < o &&& 2 then 1 else 0) = n1 at *
    go_wp2_with fail
    go_meet
    exact ⟨by rw [HS.out], by rw [HN.out], rfl⟩
  case rest =>
   obtain ⟨rfl, rfl, rfl⟩ := hcut
   clear hand2 hor2
   by_cases hmany : 1 < nOpt o
   ·have HX : Hid (normF fs o = none) := Lib.hid (by unfold normF; rw [if_pos hmany])
    go_wp2_with (go_at_call 96; refine (errorsNew_any _ _).mono ?_; rintro e w1 ⟨t, x, rfl, hb1⟩)
    go_ret2
    refine ⟨?_, hb1.mono hbase, hb1.block ge hgeB⟩
    rw [HX.out]
    exact ⟨t, x, rfl⟩
   ·have hq := optD_lt hS
    have HN1 : Hid (nOpt o ≤ 1) := Lib.hid (by omega)
    have HNF : Hid (normF fs o = if fs.length < takenN (optAll o) placesL - nOpt o ∨ takenN (optAll o) placesL < fs.length then none
      else some (fillL (optAll o) placesL defaultsL (if 0 < nOpt o ∧ fs.length = takenN (optAll o) placesL - nOpt o then (if 0 < optAll o &&& 128 then fs ++ [⟨#[42]⟩] else ⟨#[48]⟩ :: fs) else fs))) := Lib.hid (by unfold normF; rw [if_neg hmany])
    have HBIT : Hid (nOpt o = 1 → ¬ 0 < optAll o &&& 128 → 0 < optAll o &&& 2) := Lib.hid (opt_bit ho)
    have HMIN : Hid (nOpt o ≤ takenN (optAll o) placesL) := Lib.hid (opt_min ho)
    change optAll o < 512 at hq
    generalize hR : normF fs o = R at *
    clear hR
    generalize optAll o = q at *
    generalize nOpt o = n1 at *
    clear hS ho
    go_wp2_with (go_at_call 148; go_must (refine (places_any _).mono ?_); rintro e w1 ⟨g1, c1, rfl, hg1, hp1, hb1⟩)
    go_loop [7, 35] (fun v7 v35 => ∃ i : Nat, v35 = .int .i64 i ∧ i ≤ 6 ∧ v7 = .int .i64 (takenN q (placesL.take i) : Nat)) (fun _ v35 => 6 - (intOf v35).toNat)
    case atStart => exact ⟨0, rfl, by omega, rfl⟩
    case round =>
     obtain ⟨i, rfl, hi, rfl⟩ := hrel
     have htl := taken_le q (placesL.take i)
     have htl2 : (placesL.take i).length ≤ 6 := by rw [List.length_take]; simp [placesL]; omega
     by_cases h6 : i < 6
     ·have hl : i < placesL.length := by simpa [placesL] using h6
      have hc := hp1.at_ i _ (List.getElem?_eq_getElem hl)
      have hst := Lib.hid (taken_step q i h6)
      have hpl := places_lt i hl
      generalize placesL[i] = p at *
      have hand : bits .and .i64 (q : Int) (p : Int) = ((q &&& p : Nat) : Int) := and_i64 (by omega) (by omega)
      by_cases hpos : 0 < q &&& p
      ·have hpi : (0 : Int) < ((q &&& p : Nat) : Int) := by omega
       have HT : Hid (takenN q (placesL.take (i + 1)) = takenN q (placesL.take i) + 1) := Lib.hid (by rw [hst.out, if_pos hpos])
       clear hst
       generalize takenN q (placesL.take i) = tn at *
       go_wp2_with fail
       go_round
       case rel => exact ⟨i + 1, by go_num, by omega, by rw [HT.out]; go_num⟩
       case measure => simp [intOf]; omega
      ·have hpi : ¬ (0 : Int) < ((q &&& p : Nat) : Int) := by omega
       have HT : Hid (takenN q (placesL.take (i + 1)) = takenN q (placesL.take i)) := Lib.hid (by rw [hst.out, if_neg hpos]; rfl)
       clear hst
       generalize takenN q (placesL.take i) = tn at *
       go_wp2_with fail
       go_round
       case rel => exact ⟨i + 1, by go_num, by omega, by rw [HT.out]⟩
       case measure => simp [intOf]; omega
     ·have hi6 : i = 6 := by omega
      subst hi6
      have htk : takenN q (placesL.take 6) = takenN q placesL := rfl
      rw [htk]
      clear htk htl htl2 h6
      have htm := taken_le q placesL
      have hpm : placesL.length = 6 := rfl
      generalize hmx : takenN q placesL = mx at *
      have HMX := Lib.hid hmx
      clear hmx
      have hnm := HMIN.out
      have hn1 := HN1.out
      by_cases hbad : fs.length < mx - n1 ∨ mx < fs.length
      ·have HX : Hid (R = none) := Lib.hid (by rw [HNF.out, if_pos hbad])
       clear HNF HBIT
       go_wp2_with (go_at_call 96; refine (errorsNew_any _ _).mono ?_; rintro e w2 ⟨t, x, rfl, hb2⟩)
       all_goals
        go_ret2
        refine ⟨?_, (below_of_le hb1 hb2).mono hbase, (below_of_le hb1 hb2).block ge hgeB⟩
        rw [HX.out]
        exact ⟨t, x, rfl⟩
      ·have HR : Hid (R = some (fillL q placesL defaultsL (if 0 < n1 ∧ fs.length = mx - n1 then (if 0 < q &&& 128 then fs ++ [⟨#[42]⟩] else ⟨#[48]⟩ :: fs) else fs))) := Lib.hid (by rw [HNF.out, if_neg hbad])
       have hge : mx - n1 ≤ fs.length := by omega
       have hle : fs.length ≤ mx := by omega
       clear HNF hbad hmany
       go_upto_region 23 with fail
       obtain ⟨wo, rfl⟩ : ∃ wo : World, wo = w1 := ⟨_, rfl⟩
       go_cut [72] (fun v72 wc => ∃ b : Bool, v72 = .bool b ∧ Hid (b = decide (0 < n1 ∧ fs.length = mx - n1)) ∧ wo = wc)
       case first =>
        by_cases hopt : 0 < n1 ∧ fs.length = mx - n1
        ·have hD := Lib.hid (decide_eq_true hopt)
         obtain ⟨ho1, ho2⟩ := hopt
         have h1 : ((mx : Int) - n1 < mx) := by omega
         have h2 : ((fs.length : Int) == (mx : Int) - n1) = true := by simp; omega
         clear ho1 ho2
         go_wp2_with fail
         go_meet
         exact ⟨_, rfl, Lib.hid hD.out.symm, rfl⟩
        ·have hD := Lib.hid (decide_eq_false hopt)
         by_cases h0 : n1 = 0
         ·have h1 : ¬ ((mx : Int) - n1 < mx) := by omega
          clear h0 hopt
          go_wp2_with fail
          go_meet
          exact ⟨_, rfl, Lib.hid hD.out.symm, rfl⟩
         ·have h1 : ((mx : Int) - n1 < mx) := by omega
          have h2 : ((fs.length : Int) == (mx : Int) - n1) = false := by simp; omega
          clear h0 hopt
          go_wp2_with fail
          go_meet
          exact ⟨_, rfl, Lib.hid hD.out.symm, rfl⟩
       case rest =>
       obtain ⟨b72, rfl, HB72, rfl⟩ := hcut
       go_upto_if 72 with fail
       obtain ⟨wo2, rfl⟩ : ∃ wo2 : World, wo2 = wo := ⟨_, rfl⟩
       go_cut [0] (fun v0 wc => ∃ A2 c2, v0 = .slice A2 (if 0 < n1 ∧ fs.length = mx - n1 then (if 0 < q &&& 128 then fs ++ [⟨#[42]⟩] else ⟨#[48]⟩ :: fs) else fs).length c2 ∧
        Hid (wc.ownsRow base 9 1 (.slice A2 (if 0 < n1 ∧ fs.length = mx - n1 then (if 0 < q &&& 128 then fs ++ [⟨#[42]⟩] else ⟨#[48]⟩ :: fs) else fs).length c2) (if 0 < n1 ∧ fs.length = mx - n1 then (if 0 < q &&& 128 then fs ++ [⟨#[42]⟩] else ⟨#[48]⟩ :: fs) else fs).length ((if 0 < n1 ∧ fs.length = mx - n1 then (if 0 < q &&& 128 then fs ++ [⟨#[42]⟩] else ⟨#[48]⟩ :: fs) else fs).map Value.string)) ∧ Below base w wc ∧ w.heap.size ≤ wc.heap.size ∧ wc.heap[ge]? = w.heap[ge]?)
       case first =>
        have hown1 := own_below hown hb1
        have hB1 : Below base w wo2 := hb1.mono hbase
        cases b72 with
        | true =>
         have HO : Hid (0 < n1 ∧ fs.length = mx - n1) := Lib.hid (of_decide_eq_true HB72.out.symm)
         have hflen : fs.length ≤ 6 := by omega
         obtain ⟨i0, hi0, hz0, hz1, hz2⟩ := info_parts info_string
         by_cases h128 : 0 < q &&& 128
         ·have hand : bits .and .i64 (q : Int) 128 = ((q &&& 128 : Nat) : Int) := and_i64 (b := 128) (by omega) (by decide)
          have hpos : (0 : Int) < ((q &&& 128 : Nat) : Int) := by omega
          go_wp2_with fail
          refine (defaults_any _).mono ?_
          rintro e w3 ⟨gd, cd, rfl, hgd, htd, hb3⟩
          have hd5 : w3.cell? ⟨gd, 5, none⟩ = some (.string ⟨#[42]⟩) := htd.at_ 5 _ rfl
          have hown3 := own_below hown1 hb3
          have hbase3 : base ≤ w3.heap.size := by have := hb1.size; have := hb3.size; omega
          have hB3 : Below base w w3 := hB1.trans (hb3.mono (by have := hb1.size; omega))
          clear htd
          go_wp2_with (at_builtin; refine wpList_append_own _ rfl _ _ 33 rfl base 9 i0 (.string ⟨#[]⟩) 1 16 Tryz.underlying33 hi0 hz0 hz1 hz2 rfl (by decide) (.slice A fs.length cv) fs.length (fs.map Value.string) rfl (hown3.alloc _) ⟨w3.heap.size, 0, none⟩ 1 1 [_] rfl rfl (one_new w3 _ _) (by intro u hu; simp at hu; subst hu; rfl) (by unfold maxLen; omega) (by omega) (by simp; omega) ?_; intro v' w4 hown' hgrow _)
          obtain ⟨A2, c2, rfl⟩ := own_slice hown'
          have hg13 : ge < w3.heap.size := by have := hb1.size; have := hb3.size; omega
          have hk4 : w4.heap[ge]? = w.heap[ge]? := (hgrow.block ge (by simp; omega) (fun e => hrow e.symm)).trans (((Below.refl w3.heap.size w3).alloc (Nat.le_refl _) _ |>.block ge hg13).trans ((hb3.block ge (by have := hb1.size; omega)).trans (hb1.block ge hgeB)))
          have hB4 : Below base w w4 := (hB3.alloc hbase3 _).grown hgrow (by simp; omega) (fun k hk => (hown3.lt k hk).1)
          have hz4 : w.heap.size ≤ w4.heap.size := hB4.size
          clear hown3 hgrow hB3 hb3 hd5
          go_wp2_with fail
          go_meet
          refine ⟨A2, c2, ?_, Lib.hid ?_, hB4, hz4, hk4⟩
          ·rw [if_pos HO.out, if_pos h128, List.length_append]; rfl
          ·rw [if_pos HO.out, if_pos h128, List.length_append, List.map_append]; exact hown'
         ·have hand : bits .and .i64 (q : Int) 128 = ((q &&& 128 : Nat) : Int) := and_i64 (b := 128) (by omega) (by decide)
          have hneg : ¬ (0 : Int) < ((q &&& 128 : Nat) : Int) := by omega
          have hand2 : bits .and .i64 (q : Int) 2 = ((q &&& 2 : Nat) : Int) := and_i64 (b := 2) (by omega) (by decide)
          have hbit := HBIT.out (by have := HO.out.1; omega) h128
          have hpos : (0 : Int) < ((q &&& 2 : Nat) : Int) := by omega
          go_wp2_with fail
          refine (defaults_any _).mono ?_
          rintro e w3 ⟨gd, cd, rfl, hgd, htd, hb3⟩
          have hd0 : w3.cell? ⟨gd, 0, none⟩ = some (.string ⟨#[48]⟩) := htd.at_ 0 _ rfl
          have hown3 := own_below hown1 hb3
          have hbase3 : base ≤ w3.heap.size := by have := hb1.size; have := hb3.size; omega
          have hB3 : Below base w w3 := hB1.trans (hb3.mono (by have := hb1.size; omega))
          have hlit : (w3.alloc (.cells #[.string ⟨#[48]⟩] 9)).ownsRow base 9 1 (.slice (some ⟨w3.heap.size, 0, none⟩) 1 1) 1 [.string ⟨#[48]⟩] := World.ownsRow_lit w3 #[.string ⟨#[48]⟩] 1 hbase3 (by decide) rfl
          clear htd
          have hnm2 := HO.out
          have hones : ∀ u ∈ fs.map Value.string, u.oneCell' = true := by
           intro u hu
           rw [List.mem_map] at hu
           obtain ⟨x, _, rfl⟩ := hu
           rfl
          rcases hown3.2 with ⟨he, h0⟩ | ⟨g, cap, cur, he, _⟩
          ·injection he with e1 e2 e3
           have hnil : fs = [] := List.length_eq_zero_iff.1 h0
           have HNIL := Lib.hid hnil
           subst e1
           subst e3
           rw [h0] at hown3
           clear hnil hnm2 h0 e2
           have HL0 : Hid (fs.length = 0) := Lib.hid (by rw [HNIL.out]; rfl)
           have hB4 : Below base w (w3.alloc (.cells #[.string ⟨#[48]⟩] 9)) := hB3.alloc hbase3 _
           have hz4 := hB4.size
           have hg13 : ge < w3.heap.size := by have := hb1.size; have := hb3.size; omega
           have hk4 : (w3.alloc (.cells #[.string ⟨#[48]⟩] 9)).heap[ge]? = w.heap[ge]? := ((Below.refl w3.heap.size w3).alloc (Nat.le_refl _) _ |>.block ge hg13).trans ((hb3.block ge (by have := hb1.size; omega)).trans (hb1.block ge hgeB))
           go_wp2_with (at_builtin; refine wpList_append_own_none rfl _ _ 33 rfl base 9 i0 1 Tryz.underlying33 hi0 (.slice (some ⟨w3.heap.size, 0, none⟩) 1 1) 1 [.string ⟨#[48]⟩] rfl hlit (congrArg (fun n => Value.slice none n 0) HL0.out) ?_)
           go_meet
           refine ⟨some ⟨w3.heap.size, 0, none⟩, 1, ?_, Lib.hid ?_, hB4, hz4, hk4⟩
           ·rw [if_pos HO.out, if_neg h128, HNIL.out]; rfl
           ·rw [if_pos HO.out, if_neg h128, HNIL.out]; exact hlit
          ·injection he with e1 e2 e3
           subst e1
           subst e3
           clear hnm2 e2
           have hcells := (hown3.alloc (.cells #[.string ⟨#[48]⟩] 9)).cells (g := g) rfl
           go_wp2_with (at_builtin; refine wpList_append_own _ rfl _ _ 33 rfl base 9 i0 (.string ⟨#[]⟩) 1 16 Tryz.underlying33 hi0 hz0 hz1 hz2 rfl (by decide) (.slice (some ⟨w3.heap.size, 0, none⟩) 1 1) 1 [.string ⟨#[48]⟩] rfl hlit ⟨g, 0, none⟩ fs.length cv (fs.map Value.string) rfl (by simp) hcells hones (by unfold maxLen; omega) (by omega) (by simp; omega) ?_; intro v' w4 hown' hgrow _)
           obtain ⟨A2, c2, rfl⟩ := own_slice hown'
           have hg13 : ge < w3.heap.size := by have := hb1.size; have := hb3.size; omega
           have hk4 : w4.heap[ge]? = w.heap[ge]? := (hgrow.block ge (by simp; omega) (fun e => by simp [Value.ownBlock] at e; omega)).trans (((Below.refl w3.heap.size w3).alloc (Nat.le_refl _) _ |>.block ge hg13).trans ((hb3.block ge (by have := hb1.size; omega)).trans (hb1.block ge hgeB)))
           have hB4 : Below base w w4 := (hB3.alloc hbase3 _).grown hgrow (by simp; omega) (fun k hk => (hlit.lt k hk).1)
           have hz4 : w.heap.size ≤ w4.heap.size := hB4.size
           clear hown3 hgrow hB3 hb3 hd0 hcells
           go_wp2_with fail
           go_meet
           refine ⟨A2, c2, ?_, Lib.hid ?_, hB4, hz4, hk4⟩
           ·rw [if_pos HO.out, if_neg h128, List.length_cons, Nat.add_comm]
           ·rw [if_pos HO.out, if_neg h128, List.length_cons, List.map_cons, Nat.add_comm]; exact hown'
        | false =>
         have HO : Hid (¬ (0 < n1 ∧ fs.length = mx - n1)) := Lib.hid (of_decide_eq_false HB72.out.symm)
         go_wp2_with fail
         go_meet
         refine ⟨A, cv, ?_, Lib.hid ?_, hB1, hb1.size, hb1.block ge hgeB⟩
         ·rw [if_neg HO.out]
         ·rw [if_neg HO.out]; exact hown1
       case rest =>
        obtain ⟨A2, c2, rfl, HOWN, hB2, hz2w, hk2⟩ := hcut
        have HK2 := Lib.hid hk2
        clear hk2
        obtain ⟨i0, hi0, hz0, hz1, hz2⟩ := info_parts info_string
        have hmk := fun w' : World => run_make w' 33 9 i0 (.string ⟨#[]⟩) Tryz.underlying33 hi0 hz0 .i64 .i64 6 6 (by omega) (by omega) (by rw [hz2]; omega) (by omega)
        rw [hz1] at hmk
        generalize hf2 : (if 0 < n1 ∧ fs.length = mx - n1 then (if 0 < q &&& 128 then fs ++ [⟨#[42]⟩] else ⟨#[48]⟩ :: fs) else fs) = f2 at *
        have HLEN : Hid (f2.length = mx) := Lib.hid (by
         rw [← hf2]
         split
         ·rename_i hc
          obtain ⟨hc1, hc2⟩ := hc
          split
          ·rw [List.length_append, List.length_singleton]; omega
          ·rw [List.length_cons]; omega
         ·rename_i hc
          omega)
        have HF2 : Hid (∀ (i : Nat) x, f2[i]? = some x → ∃ g2, A2 = some ⟨g2, 0, none⟩ ∧ g2 < wc.heap.size ∧ wc.cell? ⟨g2, i, none⟩ = some (.string x)) := Lib.hid (by
         rcases HOWN.out.2 with ⟨he, h0⟩ | ⟨g, cap, cur, he, hbg, hgc, _⟩
         ·intro i x hx
          rw [List.length_eq_zero_iff.1 h0] at hx
          cases hx
         ·intro i x hx
          injection he with e1 e2 e3
          refine ⟨g, e1, (Array.getElem?_eq_some_iff.1 hgc).1, ?_⟩
          have := HOWN.out.cells (g := g) (by rw [e1]; rfl) i _ (by rw [List.getElem?_map, hx]; rfl)
          have hadd : ((⟨g, 0, none⟩ : Addr).add i) = ⟨g, i, none⟩ := by unfold Addr.add; split <;> simp_all
          rw [hadd] at this
          exact this)
        clear hf2 HMIN HBIT HB72 hge hle hnm hn1 HN1
        have hbase2 : base ≤ wc.heap.size := by omega
        go_wp2_with fail
        refine (places_any _).mono ?_
        rintro e w3 ⟨g3, c3, rfl, hg3, hp3, hb3⟩
        go_wp2_with fail
        refine (defaults_any _).mono ?_
        rintro e w5 ⟨gd, cd, rfl, hgd, htd, hb5⟩
        have hrow : w5.heap[w3.heap.size]? = some (.cells (madeCells #[.string ⟨#[]⟩] 6) 9 (0, 0)) := (hb5.block w3.heap.size (by simp)).trans (heap_alloc_new w3 _)
        have hsrc : ∀ j v, (defaultsL.map Value.string)[j]? = some v → w5.cell? ((⟨gd, 0, none⟩ : Addr).add j) = some v := by
         intro j v hv
         rw [List.getElem?_map] at hv
         obtain ⟨x, hx, rfl⟩ := Option.map_eq_some_iff.1 hv
         have := htd.at_ j x hx
         have hadd : ((⟨gd, 0, none⟩ : Addr).add j) = ⟨gd, j, none⟩ := by unfold Addr.add; split <;> simp_all
         rw [hadd]
         exact this
        have hones : ∀ u ∈ defaultsL.map Value.string, u.oneCell' = true := by
         intro u hu
         rw [List.mem_map] at hu
         obtain ⟨x, _, rfl⟩ := hu
         rfl
        have hge3 : base ≤ w3.heap.size := by have := hb3.size; omega
        have hB3 : Below base w w3 := hB2.trans (hb3.mono hbase2)
        have hB5 : Below base w w5 := (hB3.alloc hge3 _).trans (hb5.mono (by simp; omega))
        have HROW := Lib.hid hrow
        have HSRC := Lib.hid hsrc
        have hsz9 : (Tryz.prog.info? 9).map (·.size) = some 1 := by rw [hi0]; simp [hz1]
        have HOWN5 : Hid (w5.ownsRow base 9 1 (.slice A2 f2.length c2) f2.length (f2.map Value.string)) := Lib.hid (own_below ((own_below HOWN.out hb3).alloc _) hb5)
        have HB5 := Lib.hid hB5
        have hle3 : wc.heap.size ≤ w3.heap.size := hb3.size
        have HBW5 : Hid (Below wc.heap.size wc w5) := Lib.hid ((hb3.alloc hb3.size _).trans (hb5.mono (by simp; omega)))
        clear hrow hsrc hb3 hb5 htd hB3 hB5 HOWN hB2
        go_wp2_with (refine wpList_copy_own rfl _ _ 33 33 rfl 9 Tryz.underlying33 hsz9 w3.heap.size 0 6 6 ⟨gd, 0, none⟩ 6 cd rfl rfl _ 9 HROW.out (defaultsL.map Value.string) rfl HSRC.out (by simp [madeCells, defaultsL]) hones ?_)
        have hdrop : (defaultsL.map Value.string ++ List.drop defaultsL.length (madeCells #[Value.string ⟨#[]⟩] 6).toList).toArray = (defaultsL.map Value.string).toArray := by simp [madeCells, defaultsL]
        have hrow6 : (w5.setRow w3.heap.size (defaultsL.map Value.string ++ List.drop defaultsL.length (madeCells #[Value.string ⟨#[]⟩] 6).toList).toArray).heap[w3.heap.size]? = some (.cells (defaultsL.map Value.string).toArray 9 (0, 0)) := by
         rw [hdrop]
         exact setRow_heap w5 _ _ _ _ _ HROW.out
        have hB6 : Below base w (w5.setRow w3.heap.size (defaultsL.map Value.string ++ List.drop defaultsL.length (madeCells #[Value.string ⟨#[]⟩] 6).toList).toArray) := below_setRow HB5.out hge3 _
        have HROW6 := Lib.hid hrow6
        have HB6 := Lib.hid hB6
        have HBW6 : Hid (Below wc.heap.size wc (w5.setRow w3.heap.size (defaultsL.map Value.string ++ List.drop defaultsL.length (madeCells #[Value.string ⟨#[]⟩] 6).toList).toArray)) := Lib.hid (below_setRow HBW5.out hle3 _)
        clear hdrop hrow6 hB6 HROW HSRC HOWN5 HBW5 HB5
        generalize w5.setRow w3.heap.size _ = w6 at *
        refine (places_any _).mono ?_
        rintro e w7 ⟨g7, c7, rfl, hg7, hp7, hb7⟩
        have hg3lt : w3.heap.size < w6.heap.size := (Array.getElem?_eq_some_iff.1 HROW6.out).1
        have HROW7 : Hid (w7.heap[w3.heap.size]? = some (.cells ((fillRow (fillL q placesL defaultsL f2) defaultsL 0).map Value.string).toArray 9 (0, 0))) := Lib.hid (by
         rw [fillRow_zero]
         exact (hb7.block _ hg3lt).trans HROW6.out)
        have HB7 : Hid (Below base w w7) := Lib.hid (HB6.out.trans (hb7.mono (by omega)))
        have HBW7 : Hid (Below wc.heap.size wc w7) := Lib.hid (HBW6.out.trans (hb7.mono (by omega)))
        have HP7 := Lib.hid hp7
        have hgne : g7 ≠ w3.heap.size := by omega
        clear HROW6 HB6 HBW6 hb7 hp7
        go_wp2_with fail
        go_loopw [12, 102] (fun v12 v102 wr => ∃ i : Nat, v102 = .int .i64 i ∧ i ≤ 6 ∧ v12 = .int .i64 (takenN q (placesL.take i) : Nat) ∧
         Hid (wr.heap[w3.heap.size]? = some (.cells ((fillRow (fillL q placesL defaultsL f2) defaultsL i).map Value.string).toArray 9 (0, 0))) ∧ Hid (Below base w wr) ∧ Hid (Below wc.heap.size wc wr) ∧ Hid (Ints wr g7 6 c7 placesL)) (fun _ v102 _ => 6 - (intOf v102).toNat)
        case atStart => exact ⟨0, rfl, by omega, rfl, HROW7, HB7, HBW7, HP7⟩
        case round =>
         obtain ⟨i, rfl, hi6, rfl, HROWr, HBr, HBWr, HPr⟩ := hrel
         clear HROW7 HB7 HBW7 HP7
         by_cases h6 : i < 6
         ·have hl : i < placesL.length := by simpa [placesL] using h6
          have hcp := HPr.out.at_ i _ (List.getElem?_eq_getElem hl)
          have hst := taken_step q i h6
          have hsl := taken_take_le q placesL (i + 1)
          have hFi := fill_at q placesL defaultsL f2 i hl rfl (by have := HLEN.out; have := HMX.out; omega)
          have hplt := places_lt i hl
          have hdl : i < defaultsL.length := by simpa [defaultsL] using h6
          have htn := taken_le q (placesL.take i)
          have htn2 : (placesL.take i).length ≤ 6 := by rw [List.length_take]; simp [placesL]; omega
          generalize placesL[i] = p at *
          have hand : bits .and .i64 (q : Int) (p : Int) = ((q &&& p : Nat) : Int) := and_i64 (by omega) (by omega)
          by_cases hpos : 0 < q &&& p
          ·rw [if_pos hpos] at hst hFi
           have hlt2 : takenN q (placesL.take i) < f2.length := by have := HLEN.out; have := HMX.out; omega
           have hx := List.getElem?_eq_getElem hlt2
           generalize f2[takenN q (placesL.take i)] = x at hx
           rw [hx] at hFi
           obtain ⟨g2, rfl, hg2, hc2⟩ := HF2.out _ x hx
           have hcr : wr.cell? ⟨g2, takenN q (placesL.take i), none⟩ = some (.string x) := (HBWr.out.cell (p := ⟨g2, takenN q (placesL.take i), none⟩) hg2).trans hc2
           have hlen6 : (fillRow (fillL q placesL defaultsL f2) defaultsL i).length = 6 := by
            unfold fillRow
            rw [List.length_append, List.length_take, List.length_drop, fill_length _ _ _ _ rfl]
            simp [placesL, defaultsL]; omega
           have hcd : ∃ d, wr.cell? ⟨w3.heap.size, i, none⟩ = some d := by
            rw [cell_of_row wr w3.heap.size i _ _ _ HROWr.out]
            exact ⟨_, Array.getElem?_eq_getElem (by simp [hlen6]; omega)⟩
           obtain ⟨d, hcd⟩ := hcd
           have hfd : wr.frozen? ⟨w3.heap.size, i, none⟩ = false := frozen_of_row _ _ _ _ _ HROWr.out
           have HT : Hid (takenN q (placesL.take (i + 1)) = takenN q (placesL.take i) + 1) := Lib.hid hst
           have HFS := Lib.hid (fillRow_set (F := fillL q placesL defaultsL f2) (ds := defaultsL) hFi hdl)
           have hpi : (0 : Int) < ((q &&& p : Nat) : Int) := by omega
           clear hst hsl hFi hx hc2 hlen6
           generalize takenN q (placesL.take i) = tn at *
           go_wp2_with fail
           go_roundw
           case rel =>
            refine ⟨i + 1, by go_num, by omega, by rw [HT.out]; go_num, Lib.hid ?_, Lib.hid (HBr.out.setCell hge3 _), Lib.hid (HBWr.out.setCell hle3 _), Lib.hid (HPr.out.put hgne _)⟩
            rw [← HFS.out]
            exact row_put x HROWr.out
           case measure => simp [intOf]; omega
          ·rw [if_neg hpos] at hst hFi
           have hpi : ¬ (0 : Int) < ((q &&& p : Nat) : Int) := by omega
           have HT : Hid (takenN q (placesL.take (i + 1)) = takenN q (placesL.take i)) := Lib.hid hst
           have HFS := Lib.hid (fillRow_same (F := fillL q placesL defaultsL f2) (ds := defaultsL) (hFi.trans (List.getElem?_eq_getElem hdl)) (List.getElem?_eq_getElem hdl))
           clear hst hsl hFi
           generalize takenN q (placesL.take i) = tn at *
           go_wp2_with fail
           go_roundw
           case rel => exact ⟨i + 1, by go_num, by omega, by rw [HT.out], Lib.hid (by rw [HFS.out]; exact HROWr.out), HBr, HBWr, HPr⟩
           case measure => simp [intOf]; omega
         ·have hi : i = 6 := by omega
          subst hi
          have hend := fillRow_end (F := fillL q placesL defaultsL f2) (ds := defaultsL) (i := 6) (by rw [fill_length _ _ _ _ rfl]; simp [placesL]) (by simp [defaultsL])
          have hrowF := HROWr.out
          rw [hend] at hrowF
          have HT : Hid (Texts wr w3.heap.size 6 6 (fillL q placesL defaultsL f2)) := Lib.hid ⟨by rw [fill_length _ _ _ _ rfl]; rfl, Nat.le_refl _, (Array.getElem?_eq_some_iff.1 hrowF).1, fun j x hx => by
           rw [cell_of_row wr w3.heap.size j _ _ _ hrowF]
           simp [hx]⟩
          clear hend hrowF h6
          go_wp2_with fail
          go_ret2
          refine ⟨?_, HBr.out, (HBWr.out.block ge (by omega)).trans HK2.out⟩
          rw [HR.out]
          exact ⟨w3.heap.size, 6, rfl, by omega, HT.out⟩
end Go.Proofs.YtmecbmgfacpecaaGreatDoor.Cron
namespace Go.Proofs.YtmecbmgfacpecaaGreatDoor.Cron
open Go Go.RowKit Go.Proofs.YtmecbmgfacpecaaGreatDoor.Text Go.Proofs.YtmecbmgfacpecaaGreatDoor.Bits
set_option linter.unusedVariables false
def entsGo : List (ByteArray × Int) → Nat → List MapEntry
 | [], _ => []
 | (k, v) :: t, i => ⟨.string k, .int .u64 v, i⟩ :: entsGo t (i + 1)
def MapAt (w : World) (r : Nat) (L : List (ByteArray × Int)) : Prop := w.heap[r]? = some (.map (entsGo L 0).toArray L.length)
def findL (s : ByteArray) : List (ByteArray × Int) → Nat → Option (Nat × Int)
 | [], _ => none
 | (k, v) :: t, i => if s = k then some (i, v) else findL s t (i + 1)
def lookL (s : ByteArray) : List (ByteArray × Int) → Option Int
 | [] => none
 | (k, v) :: t => if s = k then some v else lookL s t
theorem look_find (s : ByteArray) : ∀ (L : List (ByteArray × Int)) (i : Nat), (findL s L i).map (·.2) = lookL s L
 | [], _ => rfl
 | (k, v) :: t, i => by
  unfold findL lookL
  by_cases h : s = k
  ·rw [if_pos h, if_pos h]; rfl
  ·rw [if_neg h, if_neg h]; exact look_find s t (i + 1)
theorem ba_beq (s k : ByteArray) : (s == k) = decide (s = k) := by
 obtain ⟨a⟩ := s
 obtain ⟨b⟩ := k
 have h1 : ((⟨a⟩ : ByteArray) == ⟨b⟩) = (a == b) := by first | rfl | kernel_rfl
 rw [h1, Bool.eq_iff_iff]
 simp
theorem findNow_ents (s : ByteArray) : ∀ (L : List (ByteArray × Int)) (i j : Nat), Instr.findNow .string (.string s) (entsGo L j) i = some ((findL s L i).map fun x => (x.1, Value.int .u64 x.2))
 | [], _, _ => rfl
 | (k, v) :: t, i, j => by
  unfold entsGo Instr.findNow findL
  by_cases h : s = k
  ·subst h
   simp [Instr.sameNow, ba_beq]
  ·have : (s == k) = false := by rw [ba_beq]; exact decide_eq_false h
   simp only [Instr.sameNow, this, if_neg h]
   exact findNow_ents s t (i + 1) (j + 1)
theorem ents_snoc : ∀ (L : List (ByteArray × Int)) (k : ByteArray) (v : Int) (i : Nat), entsGo (L ++ [(k, v)]) i = entsGo L i ++ [⟨.string k, .int .u64 v, i + L.length⟩]
 | [], k, v, i => rfl
 | (a, b) :: t, k, v, i => by
  simp only [List.cons_append, entsGo, List.length_cons]
  rw [ents_snoc t k v (i + 1)]
  simp only [Nat.add_assoc, Nat.add_comm 1]
theorem run_insert_name (w : World) (r : Nat) (L : List (ByteArray × Int)) (k : ByteArray) (v : Int) (hM : MapAt w r L) (hne : findL k L 0 = none) :
  ∃ w', (Instr.mapUpdate 183 (.map (some r)) (.string k) (.int .u64 v)).run Tryz.prog w = .ok () w' ∧ MapAt w' r (L ++ [(k, v)]) ∧ Below r w w' := by
 have hM' : w.heap[r]? = some (.map (entsGo L 0).toArray L.length) := hM
 refine ⟨{ w with heap := w.heap.setIfInBounds r (.map ((entsGo L 0).toArray.push ⟨.string k, .int .u64 v, L.length⟩) (L.length + 1)) }, ?_, ?_, ?_⟩
 ·have hfk := MapKept.run_findKey (P := Tryz.prog) (w := w) (kt := 9) (k := .string k) Tryz.underlying9 (findNow_ents k L 0 0)
  rw [hne] at hfk
  have hck := MapKept.run_checkKey (P := Tryz.prog) (w := w) (kt := 9) (d := .string) (k := .string k) Tryz.underlying9 (by first | trivial | rfl | simp [MapKept.IsKey]) false 9999
  simp [Instr.mapUpdate, Sem.run_bind, run_underlying Tryz.underlying183, MapKept.run_getObj_map hM', hck, hfk, MapKept.run_setObj_map _ hM', Result.andThen]
 ·unfold MapAt
  rw [(MapKept.heap_set hM').1, ents_snoc]
  simp
 ·exact ⟨rfl, rfl, rfl, by simp, fun b hb => (MapKept.heap_set hM').2 b (by omega)⟩
section
variable {ops : Array Oper} {rest : List Oper} {o : Oper} {a : Act} {w : World} {Q : Exit → Act → World → Prop}
theorem wpList_insert_name (hg : o.guard = none) (m x y : Operand) (ho : o.op = .insert 183 m x y) (r : Nat) (k : ByteArray) (v : Int) (hm : a.eval m = .map (some r)) (hx : a.eval x = .string k) (hy : a.eval y = .int .u64 v)
  (L : List (ByteArray × Int)) (hM : MapAt w r L) (hne : findL k L 0 = none)
  (h : ∀ w', MapAt w' r (L ++ [(k, v)]) → Below r w w' → wpList Tryz.prog ops Q rest (a.put o.dst undef) w') : wpList Tryz.prog ops Q (o :: rest) a w := by
 refine wpList_plain hg fun K hK => ?_
 obtain ⟨w', hr, hM', hb⟩ := run_insert_name w r L k v hM hne
 unfold Oper.wp execOp
 simp only [ho, hm, hx, hy, hr, Sem.run_bind, Sem.run_pure, Result.andThen_ok]
 exact hK _ _ (h w' hM' hb)
end
theorem run_lookup_name (w : World) (r : Nat) (L : List (ByteArray × Int)) (s : ByteArray) (hM : MapAt w r L) :
  (Instr.lookup 183 (.map (some r)) (.string s) true).run Tryz.prog w = .ok (.tuple #[.int .u64 ((lookL s L).getD 0), .bool (lookL s L).isSome]) w := by
 have hM' : w.heap[r]? = some (.map (entsGo L 0).toArray L.length) := hM
 have hfk := MapKept.run_findKey (P := Tryz.prog) (w := w) (kt := 9) (k := .string s) Tryz.underlying9 (findNow_ents s L 0 0)
 have hck := fun em : Bool => MapKept.run_checkKey (P := Tryz.prog) (w := w) (kt := 9) (d := .string) (k := .string s) Tryz.underlying9 (by first | trivial | rfl | simp [MapKept.IsKey]) em 9999
 have hz : (zeroValue 182).run Tryz.prog w = .ok (.int .u64 0) w := Tryz.zeroValue182 w
 rw [← look_find s L 0]
 cases hf : findL s L 0 with
 | none =>
  rw [hf] at hfk
  simp [Instr.lookup, Sem.run_bind, run_underlying Tryz.underlying183, MapKept.run_getObj_map hM', hck, hfk, hz, Result.andThen]
 | some x =>
  rw [hf] at hfk
  simp [Instr.lookup, Sem.run_bind, run_underlying Tryz.underlying183, MapKept.run_getObj_map hM', hck, hfk, Result.andThen]
theorem row_kept {w w' : World} {cs : Array Value} {T : TypeId} {o : Obj} (h : Below (w.heap.size + 1) ((w.alloc (.cells cs T)).alloc o) w') : w'.heap[w.heap.size]? = some (.cells cs T (0, 0)) :=
 (h.block w.heap.size (by omega)).trans ((heap_alloc_old _ o (by simp)).trans (heap_alloc_new w _))
theorem run_makeMap_names (w : World) : (Instr.makeMap 183 none).run Tryz.prog w = .ok (.map (some w.heap.size)) (w.alloc (.map #[] 0)) := by rfl
theorem mapAt_new (w : World) (o : Obj) : MapAt ((w.alloc o).alloc (.map #[] 0)) (w.heap.size + 1) [] := by
 have := heap_alloc_new (w.alloc o) (.map #[] 0)
 rw [show (w.alloc o).heap.size = w.heap.size + 1 by simp] at this
 exact this
theorem MapAt.lt {w : World} {r : Nat} {L : List (ByteArray × Int)} (h : MapAt w r L) : r < w.heap.size := (Array.getElem?_eq_some_iff.1 h).1
theorem MapAt.below {w w' : World} {r : Nat} {L : List (ByteArray × Int)} (h : MapAt w r L) (hb : Below w.heap.size w w') : MapAt w' r L := (hb.block r h.lt).trans h
theorem MapAt.put {w : World} {r g i : Nat} {L : List (ByteArray × Int)} {v : Value} (h : MapAt w r L) (hg : r ≠ g) : MapAt (w.setCell ⟨g, i, none⟩ v) r L := by
 unfold MapAt
 rw [heap_setCell_other w ⟨g, i, none⟩ r v hg]
 exact h
def monthsL : List (ByteArray × Int) := [(⟨#[106, 97, 110]⟩, 1), (⟨#[102, 101, 98]⟩, 2), (⟨#[109, 97, 114]⟩, 3), (⟨#[97, 112, 114]⟩, 4), (⟨#[109, 97, 121]⟩, 5), (⟨#[106, 117, 110]⟩, 6), (⟨#[106, 117, 108]⟩, 7), (⟨#[97, 117, 103]⟩, 8), (⟨#[115, 101, 112]⟩, 9), (⟨#[111, 99, 116]⟩, 10), (⟨#[110, 111, 118]⟩, 11), (⟨#[100, 101, 99]⟩, 12)]
set_option maxRecDepth 100000 in
set_option maxHeartbeats 1000000 in
theorem months_any (w : World) : Calls Tryz.prog 110 #[] w fun e w' => ∃ r, e = .returned (.agg #[.int .u64 1, .int .u64 12, .map (some r)]) ∧ w.heap.size < r ∧ MapAt w' r monthsL ∧ Below w.heap.size w w' := by
 have hmk := run_makeMap_names
 go_enter Tryz.func110, Tryz.ntmps110
 go_wp2_with (first
  | (refine wpList_insert_name rfl _ _ _ rfl (w.heap.size + 1) ⟨#[106, 97, 110]⟩ 1 rfl rfl rfl [] (mapAt_new _ _) rfl ?_; intro w1 hM1 hb1)
  | (refine wpList_insert_name rfl _ _ _ rfl (w.heap.size + 1) ⟨#[102, 101, 98]⟩ 2 rfl rfl rfl [(⟨#[106, 97, 110]⟩, 1)] hM1 rfl ?_; intro w2 hM2 hb2)
  | (refine wpList_insert_name rfl _ _ _ rfl (w.heap.size + 1) ⟨#[109, 97, 114]⟩ 3 rfl rfl rfl [(⟨#[106, 97, 110]⟩, 1), (⟨#[102, 101, 98]⟩, 2)] hM2 rfl ?_; intro w3 hM3 hb3)
  | (refine wpList_insert_name rfl _ _ _ rfl (w.heap.size + 1) ⟨#[97, 112, 114]⟩ 4 rfl rfl rfl [(⟨#[106, 97, 110]⟩, 1), (⟨#[102, 101, 98]⟩, 2), (⟨#[109, 97, 114]⟩, 3)] hM3 rfl ?_; intro w4 hM4 hb4)
  | (refine wpList_insert_name rfl _ _ _ rfl (w.heap.size + 1) ⟨#[109, 97, 121]⟩ 5 rfl rfl rfl [(⟨#[106, 97, 110]⟩, 1), (⟨#[102, 101, 98]⟩, 2), (⟨#[109, 97, 114]⟩, 3), (⟨#[97, 112, 114]⟩, 4)] hM4 rfl ?_; intro w5 hM5 hb5)
  | (refine wpList_insert_name rfl _ _ _ rfl (w.heap.size + 1) ⟨#[106, 117, 110]⟩ 6 rfl rfl rfl [(⟨#[106, 97, 110]⟩, 1), (⟨#[102, 101, 98]⟩, 2), (⟨#[109, 97, 114]⟩, 3), (⟨#[97, 112, 114]⟩, 4), (⟨#[109, 97, 121]⟩, 5)] hM5 rfl ?_; intro w6 hM6 hb6)
  | (refine wpList_insert_name rfl _ _ _ rfl (w.heap.size + 1) ⟨#[106, 117, 108]⟩ 7 rfl rfl rfl [(⟨#[106, 97, 110]⟩, 1), (⟨#[102, 101, 98]⟩, 2), (⟨#[109, 97, 114]⟩, 3), (⟨#[97, 112, 114]⟩, 4), (⟨#[109, 97, 121]⟩, 5), (⟨#[106, 117, 110]⟩, 6)] hM6 rfl ?_; intro w7 hM7 hb7)
  | (refine wpList_insert_name rfl _ _ _ rfl (w.heap.size + 1) ⟨#[97, 117, 103]⟩ 8 rfl rfl rfl [(⟨#[106, 97, 110]⟩, 1), (⟨#[102, 101, 98]⟩, 2), (⟨#[109, 97, 114]⟩, 3), (⟨#[97, 112, 114]⟩, 4), (⟨#[109, 97, 121]⟩, 5), (⟨#[106, 117, 110]⟩, 6), (⟨#[106, 117, 108]⟩, 7)] hM7 rfl ?_; intro w8 hM8 hb8)
  | (refine wpList_insert_name rfl _ _ _ rfl (w.heap.size + 1) ⟨#[115, 101, 112]⟩ 9 rfl rfl rfl [(⟨#[106, 97, 110]⟩, 1), (⟨#[102, 101, 98]⟩, 2), (⟨#[109, 97, 114]⟩, 3), (⟨#[97, 112, 114]⟩, 4), (⟨#[109, 97, 121]⟩, 5), (⟨#[106, 117, 110]⟩, 6), (⟨#[106, 117, 108]⟩, 7), (⟨#[97, 117, 103]⟩, 8)] hM8 rfl ?_; intro w9 hM9 hb9)
  | (refine wpList_insert_name rfl _ _ _ rfl (w.heap.size + 1) ⟨#[111, 99, 116]⟩ 10 rfl rfl rfl [(⟨#[106, 97, 110]⟩, 1), (⟨#[102, 101, 98]⟩, 2), (⟨#[109, 97, 114]⟩, 3), (⟨#[97, 112, 114]⟩, 4), (⟨#[109, 97, 121]⟩, 5), (⟨#[106, 117, 110]⟩, 6), (⟨#[106, 117, 108]⟩, 7), (⟨#[97, 117, 103]⟩, 8), (⟨#[115, 101, 112]⟩, 9)] hM9 rfl ?_; intro w10 hM10 hb10)
  | (refine wpList_insert_name rfl _ _ _ rfl (w.heap.size + 1) ⟨#[110, 111, 118]⟩ 11 rfl rfl rfl [(⟨#[106, 97, 110]⟩, 1), (⟨#[102, 101, 98]⟩, 2), (⟨#[109, 97, 114]⟩, 3), (⟨#[97, 112, 114]⟩, 4), (⟨#[109, 97, 121]⟩, 5), (⟨#[106, 117, 110]⟩, 6), (⟨#[106, 117, 108]⟩, 7), (⟨#[97, 117, 103]⟩, 8), (⟨#[115, 101, 112]⟩, 9), (⟨#[111, 99, 116]⟩, 10)] hM10 rfl ?_; intro w11 hM11 hb11)
  | (refine wpList_insert_name rfl _ _ _ rfl (w.heap.size + 1) ⟨#[100, 101, 99]⟩ 12 rfl rfl rfl [(⟨#[106, 97, 110]⟩, 1), (⟨#[102, 101, 98]⟩, 2), (⟨#[109, 97, 114]⟩, 3), (⟨#[97, 112, 114]⟩, 4), (⟨#[109, 97, 121]⟩, 5), (⟨#[106, 117, 110]⟩, 6), (⟨#[106, 117, 108]⟩, 7), (⟨#[97, 117, 103]⟩, 8), (⟨#[115, 101, 112]⟩, 9), (⟨#[111, 99, 116]⟩, 10), (⟨#[110, 111, 118]⟩, 11)] hM11 rfl ?_; intro w12 hM12 hb12; go_must (have hrow := row_kept ((((((((((((hb1).trans hb2).trans hb3).trans hb4).trans hb5).trans hb6).trans hb7).trans hb8).trans hb9).trans hb10).trans hb11).trans hb12); have hc0 : _ = some _ := cell_of_row _ _ 0 _ _ _ hrow; have hc1 : _ = some _ := cell_of_row _ _ 1 _ _ _ hrow; have hc2 : _ = some _ := cell_of_row _ _ 2 _ _ _ hrow; have hf0 := frozen_of_row _ _ 0 _ _ hrow; have hf1 := frozen_of_row _ _ 1 _ _ hrow; have hf2 := frozen_of_row _ _ 2 _ _ hrow; have HROW := Lib.hid hrow; clear hrow)))
 have HB : Below w.heap.size w w12 := (((Below.refl _ _).alloc (Nat.le_refl _) _).alloc (by simp) _).trans (((((((((((((hb1.trans hb2).trans hb3).trans hb4).trans hb5).trans hb6).trans hb7).trans hb8).trans hb9).trans hb10).trans hb11).trans hb12)).mono (by omega))
 have HM : MapAt w12 (w.heap.size + 1) monthsL := hM12
 refine bodyPost_ret (v := .agg #[.int .u64 1, .int .u64 12, .map (some (w.heap.size + 1))]) ?_ rfl ?_
 ·exact results_bounds (fn := Tryz.f110) (p := 0) rfl _ _ w.heap.size _ rfl (store3_row HROW.out) rfl
 exact ⟨_, rfl, by omega, ((HM.put (by omega)).put (by omega)).put (by omega), ((HB.setCell (Nat.le_refl _) _).setCell (Nat.le_refl _) _).setCell (Nat.le_refl _) _⟩
def dowL : List (ByteArray × Int) := [(⟨#[115, 117, 110]⟩, 0), (⟨#[109, 111, 110]⟩, 1), (⟨#[116, 117, 101]⟩, 2), (⟨#[119, 101, 100]⟩, 3), (⟨#[116, 104, 117]⟩, 4), (⟨#[102, 114, 105]⟩, 5), (⟨#[115, 97, 116]⟩, 6)]
set_option maxRecDepth 100000 in
set_option maxHeartbeats 1000000 in
theorem dow_any (w : World) : Calls Tryz.prog 111 #[] w fun e w' => ∃ r, e = .returned (.agg #[.int .u64 0, .int .u64 6, .map (some r)]) ∧ w.heap.size < r ∧ MapAt w' r dowL ∧ Below w.heap.size w w' := by
 have hmk := run_makeMap_names
 go_enter Tryz.func111, Tryz.ntmps111
 go_wp2_with (first
  | (refine wpList_insert_name rfl _ _ _ rfl (w.heap.size + 1) ⟨#[115, 117, 110]⟩ 0 rfl rfl rfl [] (mapAt_new _ _) rfl ?_; intro w1 hM1 hb1)
  | (refine wpList_insert_name rfl _ _ _ rfl (w.heap.size + 1) ⟨#[109, 111, 110]⟩ 1 rfl rfl rfl [(⟨#[115, 117, 110]⟩, 0)] hM1 rfl ?_; intro w2 hM2 hb2)
  | (refine wpList_insert_name rfl _ _ _ rfl (w.heap.size + 1) ⟨#[116, 117, 101]⟩ 2 rfl rfl rfl [(⟨#[115, 117, 110]⟩, 0), (⟨#[109, 111, 110]⟩, 1)] hM2 rfl ?_; intro w3 hM3 hb3)
  | (refine wpList_insert_name rfl _ _ _ rfl (w.heap.size + 1) ⟨#[119, 101, 100]⟩ 3 rfl rfl rfl [(⟨#[115, 117, 110]⟩, 0), (⟨#[109, 111, 110]⟩, 1), (⟨#[116, 117, 101]⟩, 2)] hM3 rfl ?_; intro w4 hM4 hb4)
  | (refine wpList_insert_name rfl _ _ _ rfl (w.heap.size + 1) ⟨#[116, 104, 117]⟩ 4 rfl rfl rfl [(⟨#[115, 117, 110]⟩, 0), (⟨#[109, 111, 110]⟩, 1), (⟨#[116, 117, 101]⟩, 2), (⟨#[119, 101, 100]⟩, 3)] hM4 rfl ?_; intro w5 hM5 hb5)
  | (refine wpList_insert_name rfl _ _ _ rfl (w.heap.size + 1) ⟨#[102, 114, 105]⟩ 5 rfl rfl rfl [(⟨#[115, 117, 110]⟩, 0), (⟨#[109, 111, 110]⟩, 1), (⟨#[116, 117, 101]⟩, 2), (⟨#[119, 101, 100]⟩, 3), (⟨#[116, 104, 117]⟩, 4)] hM5 rfl ?_; intro w6 hM6 hb6)
  | (refine wpList_insert_name rfl _ _ _ rfl (w.heap.size + 1) ⟨#[115, 97, 116]⟩ 6 rfl rfl rfl [(⟨#[115, 117, 110]⟩, 0), (⟨#[109, 111, 110]⟩, 1), (⟨#[116, 117, 101]⟩, 2), (⟨#[119, 101, 100]⟩, 3), (⟨#[116, 104, 117]⟩, 4), (⟨#[102, 114, 105]⟩, 5)] hM6 rfl ?_; intro w7 hM7 hb7; go_must (have hrow := row_kept (((((((hb1).trans hb2).trans hb3).trans hb4).trans hb5).trans hb6).trans hb7); have hc0 : _ = some _ := cell_of_row _ _ 0 _ _ _ hrow; have hc1 : _ = some _ := cell_of_row _ _ 1 _ _ _ hrow; have hc2 : _ = some _ := cell_of_row _ _ 2 _ _ _ hrow; have hf0 := frozen_of_row _ _ 0 _ _ hrow; have hf1 := frozen_of_row _ _ 1 _ _ hrow; have hf2 := frozen_of_row _ _ 2 _ _ hrow; have HROW := Lib.hid hrow; clear hrow)))
 have HB : Below w.heap.size w w7 := (((Below.refl _ _).alloc (Nat.le_refl _) _).alloc (by simp) _).trans ((((((((hb1.trans hb2).trans hb3).trans hb4).trans hb5).trans hb6).trans hb7)).mono (by omega))
 have HM : MapAt w7 (w.heap.size + 1) dowL := hM7
 refine bodyPost_ret (v := .agg #[.int .u64 0, .int .u64 6, .map (some (w.heap.size + 1))]) ?_ rfl ?_
 ·exact results_bounds (fn := Tryz.f111) (p := 0) rfl _ _ w.heap.size _ rfl (store3_row HROW.out) rfl
 exact ⟨_, rfl, by omega, ((HM.put (by omega)).put (by omega)).put (by omega), ((HB.setCell (Nat.le_refl _) _).setCell (Nat.le_refl _) _).setCell (Nat.le_refl _) _⟩
end Go.Proofs.YtmecbmgfacpecaaGreatDoor.Cron
namespace Go.Proofs.YtmecbmgfacpecaaGreatDoor.Cron
open Go Go.RowKit Go.Proofs.YtmecbmgfacpecaaGreatDoor.Text Go.Proofs.YtmecbmgfacpecaaGreatDoor.Bits
set_option linter.unusedVariables false
def lowB (s : ByteArray) : ByteArray := ⟨(lowS s).toArray⟩
def valN (L : List (ByteArray × Int)) (l : List UInt8) : Option Nat :=
 match lookL (lowB (ba l)) L with
 | some v => some v.toNat
 | none => mp l
theorem look_mem (s : ByteArray) : ∀ (L : List (ByteArray × Int)) (v : Int), lookL s L = some v → (s, v) ∈ L
 | [], v, h => by cases h
 | (k, x) :: t, v, h => by
  unfold lookL at h
  by_cases e : s = k
  ·rw [if_pos e] at h
   injection h with h
   subst e; subst h
   exact List.mem_cons_self ..
  ·rw [if_neg e] at h
   exact List.mem_cons_of_mem _ (look_mem s t v h)
def Small (L : List (ByteArray × Int)) : Prop := ∀ p ∈ L, 0 ≤ p.2 ∧ p.2 ≤ 12
theorem months_small : Small monthsL := by
 intro p hp
 simp only [monthsL, List.mem_cons, List.not_mem_nil, or_false] at hp
 rcases hp with rfl | rfl | rfl | rfl | rfl | rfl | rfl | rfl | rfl | rfl | rfl | rfl <;> exact ⟨by omega, by omega⟩
theorem dow_small : Small dowL := by
 intro p hp
 simp only [dowL, List.mem_cons, List.not_mem_nil, or_false] at hp
 rcases hp with rfl | rfl | rfl | rfl | rfl | rfl | rfl <;> exact ⟨by omega, by omega⟩
theorem lower_any (s : ByteArray) (hs : s.size ≤ 4294967296) (w : World) :
  Calls Tryz.prog 206 #[.string s] w fun e w' => e = .returned (.string (lowB s)) ∧ Below w.heap.size w w' := zzLower_any s hs w
set_option maxRecDepth 100000 in
theorem reads_named (r : Nat) (L : List (ByteArray × Int)) (hL : Small L) : Reads (some r) (valN L) (fun w => G w ∧ MapAt w r L) := by
 refine ⟨fun ⟨h, hM⟩ hb => ⟨h.below hb, hM.below hb⟩, fun h => h.1, fun {l n} h => ?_, fun s w hs hI => ?_⟩
 ·unfold valN at h
  split at h
  ·rename_i v hv
   have := hL _ (look_mem _ _ _ hv)
   injection h with h
   omega
  ·exact mp_le h
 ·obtain ⟨hg, hM⟩ := hI
  have hm := fun w : World => run_neq_map_nil (P := Tryz.prog) w 183 _ _ (some r) Tryz.underlying183
  have HLW := Lib.hid (fun w' => lower_any s hs w')
  unfold valN
  rw [ba_of]
  have hbd : ∀ v, lookL (lowB s) L = some v → 0 ≤ v ∧ v ≤ 12 := fun v hv => hL _ (look_mem _ _ _ hv)
  have hlk := fun (w' : World) (h : MapAt w' r L) => run_lookup_name w' r L (lowB s) h
  generalize lookL (lowB s) L = q at *
  generalize lowB s = low at *
  go_enter Tryz.func180, Tryz.ntmps180
  go_wp2_with fail
  refine (HLW.out _).mono ?_
  rintro e w1 ⟨rfl, hb1⟩
  have hl := hlk w1 (hM.below hb1)
  have hg1 := hg.below hb1
  clear hlk HLW hM hL
  cases q with
  | some v =>
   obtain ⟨n, rfl⟩ : ∃ n : Nat, v = n := ⟨v.toNat, by have := hbd v rfl; omega⟩
   simp only [Option.getD_some, Option.isSome_some] at hl
   go_wp2_with fail
   go_ret2
   exact ⟨rfl, hb1⟩
  | none =>
   simp only [Option.getD_none, Option.isSome_none] at hl
   cases h : mp s.data.toList with
   | some n =>
    go_wp2_with (go_at_call 181; refine (mustParse_ok s (by omega) n h _).mono ?_; rintro e w' ⟨rfl, hb⟩)
    go_ret2
    exact ⟨rfl, below_of_le hb1 hb⟩
   | none =>
    go_wp2_with (go_at_call 181; refine (mustParse_bad s (by omega) h _ hg1).mono ?_; rintro e w' ⟨t, x, rfl, hb⟩)
    go_ret2
    exact ⟨⟨t, x, rfl⟩, below_of_le hb1 hb⟩
def valK (k : Nat) : List UInt8 → Option Nat := if k = 4 then valN monthsL else if k = 5 then valN dowL else mp
end Go.Proofs.YtmecbmgfacpecaaGreatDoor.Cron
