/- Lemmas and walks on the way to the law, merged by wip/tools/pack.py: ZZFields, Normal, Values, Parse, Desc, Load. Conditions: none. -/
import Derived.Test.YtmecbmgfacpecaaGreatDoorGrF
import Derived.Laws.AppendOwnNone
import Derived.Test.YtmecbmgfacpecaaGreatDoorPrB
set_option linter.unusedVariables false
set_option linter.unusedSimpArgs false
namespace Go.Proofs.YtmecbmgfacpecaaGreatDoor.Cron
open Go Go.RowKit Go.Lib Go.Proofs.YtmecbmgfacpecaaGreatDoorW.PrintWords Go.Proofs.YtmecbmgfacpecaaGreatDoorW.PrintLast Go.Proofs.YtmecbmgfacpecaaGreatDoorW.PrintMore Go.Proofs.YtmecbmgfacpecaaGreatDoor.Pr
def spaceZ (r : Nat) : Bool :=
 decide (r = 9 ∨ r = 10 ∨ r = 11 ∨ r = 12 ∨ r = 13 ∨ r = 32 ∨ r = 133 ∨ r = 160 ∨ r = 5760 ∨ r = 8232 ∨ r = 8233 ∨ r = 8239 ∨ r = 8287 ∨ r = 12288 ∨ (8192 ≤ r ∧ r ≤ 8202))
theorem space_f (r : Nat) : cron_zzSpace.f (r : Int) = some (spaceZ r) := by
 unfold cron_zzSpace.f;by_cases h : r = 9 ∨ r = 10 ∨ r = 11 ∨ r = 12 ∨ r = 13 ∨ r = 32 ∨ r = 133 ∨ r = 160 ∨ r = 5760 ∨ r = 8232 ∨ r = 8233 ∨ r = 8239 ∨ r = 8287 ∨ r = 12288
 ·have e : spaceZ r = true := by
   unfold spaceZ;apply decide_eq_true
   omega
  rw [e];rcases h with rfl | rfl | rfl | rfl | rfl | rfl | rfl | rfl | rfl | rfl | rfl | rfl | rfl | rfl <;> rfl
 ·repeat rw [if_neg (by omega)]
  by_cases h2 : 8192 ≤ r
  ·rw [if_pos (by omega)];congr 1
   unfold spaceZ;rw [Bool.eq_iff_iff];simp only [decide_eq_true_eq];omega
  ·rw [if_neg (by omega)];congr 1
   unfold spaceZ;symm
   apply decide_eq_false
   omega
theorem space_any (r : Nat) (w : World) : Calls Tryz.prog 144 #[.int .i32 r] w fun e w' => e = .returned (.bool (spaceZ r)) ∧ ∃ n, w' = w.drewN n := by
 refine (cron_zzSpace.calls r (spaceZ r) w (space_f r)).mono fun e w' ⟨he, hw⟩ => ⟨he, hw.out⟩
def fieldsZ (s : ByteArray) : List ByteArray := Lib.goFieldsP spaceZ s
theorem info_string : (Tryz.prog.info? 9).map (fun i => (i.zero, i.size, i.bytes)) = some (some (.string ⟨#[]⟩), 1, 16) := by kernel_rfl
def spanS (s : ByteArray) (x : Nat × Nat) : Value := .string (s.extract x.1 x.2)
set_option maxRecDepth 100000 in
set_option maxHeartbeats 4000000 in
theorem zzFields_any (s : ByteArray) (hs : s.size ≤ 4294967296) (w : World) :
  Calls Tryz.prog 102 #[.string s] w fun e w' => ∃ v, e = .returned v ∧ w'.ownsRow w.heap.size 9 1 v (fieldsZ s).length ((fieldsZ s).map Value.string) ∧ Below w.heap.size w w' := by
 have hGF : (fieldsZ s).map Value.string = (Lib.spansOfP spaceZ s).map (spanS s) := by
  unfold fieldsZ Lib.goFieldsP;rw [List.map_map];rfl
 have hGL : (fieldsZ s).length = (Lib.spansOfP spaceZ s).length := by
  unfold fieldsZ Lib.goFieldsP;rw [List.length_map]
 rw [hGF, hGL];clear hGF hGL;obtain ⟨i0, hi, hz0, hz1, hz2⟩ := info_parts info_string;go_enter Tryz.func102, Tryz.ntmps102;go_wp2
 go_loopg [3, 4] s.size (fun gf s3 s4 wx => ∃ (pos : Nat) (st : Option Nat) (acc : List (Nat × Nat)) (z : Int), s4 = .int .i64 z ∧ (st = none → z < 0) ∧ (∀ a, st = some a → z = (a : Int)) ∧ -9223372036854775808 ≤ z ∧
   wx.ownsRow w.heap.size 9 1 s3 acc.length (acc.map (spanS s)) ∧ wx.heap[w.heap.size]? = some (.stringIter s pos) ∧ Below w.heap.size w wx ∧
   Hid (Lib.spansFromP spaceZ s gf pos st acc = Lib.spansFromP spaceZ s s.size 0 none []) ∧ s.size ≤ pos + gf ∧ pos ≤ s.size ∧ acc.length ≤ pos ∧ (∀ a, st = some a → a < pos))
 case atStart =>
  exact ⟨0, none, [], -1, rfl, fun _ => by omega, (fun a h => by cases h), by omega, World.ownsRow_nil _ _ _ _, World.iter_heap w s 0, (Below.refl _ _).alloc (Nat.le_refl _) _, Lib.hid rfl, by omega, Nat.zero_le _, Nat.le_refl _, (fun a h => by cases h)⟩
 case round =>
  obtain ⟨pos, st, acc, z, rfl, hzn, hzs, hzl, hown, hit, hbw, HG, hfu, hps, hal, hst⟩ := hrel;by_cases hlt : pos < s.size
  ·obtain ⟨g', rfl⟩ : ∃ g', gk = g' + 1 := ⟨gk - 1, by omega⟩
   have hnx : ∀ ty, (Instr.next (.pointer (some ⟨w.heap.size, 0, none⟩)) true ty).run Tryz.prog wr = _ := fun ty => Lib.run_next_any_at wr w.heap.size s pos ty hit hlt
   have hwd := Lib.width_pos s pos
   have hwn : pos + (Utf8.decode s pos).2 ≤ s.size := by
    have := Lib.decodeN_le_n' (s.size - pos) (s.get! pos).toNat (s.get! (pos + 1)).toNat (s.get! (pos + 2)).toNat (s.get! (pos + 3)).toNat (by omega);rw [← Lib.decode_at] at this;omega
   have hrl := Lib.rune_le s pos;have hG := HG.out;simp only [Lib.spansFromP, hlt, if_true] at hG;generalize (Utf8.decode s pos).1 = R at *;generalize (Utf8.decode s pos).2 = K at *;have hit2 := Lib.iterAt_heap wr w.heap.size s pos (pos + K) hit;have hbw2 := Lib.below_iterAt hbw (k := w.heap.size) (Nat.le_refl _) s (pos + K);have hown2 := own_iterAt hown hit (pos + K);obtain ⟨W, hWd⟩ : ∃ W, wr.iterAt w.heap.size s (pos + K) = W := ⟨_, rfl⟩
   rw [hWd] at hnx hit2 hbw2 hown2
   have HS := Lib.hid (space_any R W);cases hsp : spaceZ R
   ·rw [hsp] at hG HS
    simp only [Bool.false_eq_true, if_false] at hG;have HG2 := Lib.hid hG;clear hown hit hbw HG hG;cases st with
    | none =>
     have hz0' : z < 0 := hzn rfl;go_wp2_with (go_at_call 144; go_must (refine (HS.out).mono ?_); rintro e W' ⟨rfl, q, rfl⟩)
     go_roundg g'
     case measure => omega
     case rel => exact ⟨pos + K, some pos, acc, pos, rfl, (fun h => by cases h), fun a h => by cases h; rfl, by omega, own_drewN hown2 q, hit2, pw_below_drewN hbw2 q, HG2, by omega, hwn, by omega, fun a h => by cases h; omega⟩
    | some a =>
     have hza : z = (a : Int) := hzs a rfl;subst hza;go_wp2_with (go_at_call 144; go_must (refine (HS.out).mono ?_); rintro e W' ⟨rfl, q, rfl⟩)
     go_roundg g'
     case measure => omega
     case rel => exact ⟨pos + K, some a, acc, a, rfl, (fun h => by cases h), fun b h => by cases h; rfl, by omega, own_drewN hown2 q, hit2, pw_below_drewN hbw2 q, HG2, by omega, hwn, by omega, fun b h => by cases h; have := hst a rfl; omega⟩
   ·rw [hsp] at hG HS
    simp only [if_true] at hG;have HG2 := Lib.hid hG;clear hown hit hbw HG hG;cases st with
    | none =>
     have hz0' : z < 0 := hzn rfl;go_wp2_with (go_at_call 144; go_must (refine (HS.out).mono ?_); rintro e W' ⟨rfl, q, rfl⟩)
     go_roundg g'
     case measure => omega
     case rel => exact ⟨pos + K, none, acc, z, rfl, fun _ => hz0', (fun a h => by cases h), hzl, own_drewN hown2 q, hit2, pw_below_drewN hbw2 q, HG2, by omega, hwn, by omega, (fun a h => by cases h)⟩
    | some a =>
     have hza : z = (a : Int) := hzs a rfl;subst hza;have hapos := hst a rfl;have hz : w.heap.size < W.heap.size := (Array.getElem?_eq_some_iff.1 hit2).1;go_wp2_with fail
     refine (HS.out).mono ?_;rintro e W' ⟨rfl, q, rfl⟩;have hown3 := own_drewN hown2 q;have hbw3 := pw_below_drewN hbw2 q;have hit3 : (W.drewN q).heap[w.heap.size]? = some (.stringIter s (pos + K)) := hit2;have hz3 : w.heap.size < (W.drewN q).heap.size := hz;clear hown2 hbw2 hit2 hz;generalize W.drewN q = W3 at *;go_wp2_with (at_builtin; refine wpList_append_own _ rfl _ _ 33 rfl w.heap.size 9 i0 (.string ⟨#[]⟩) 1 16 Tryz.underlying33 hi hz0 hz1 hz2 rfl (by decide) _ _ _ rfl (hown3.alloc _) ⟨W3.heap.size, 0, none⟩ 1 1 [_] rfl rfl (one_new W3 _ _) (by intro u hu; simp at hu; subst hu; rfl) (by unfold maxLen; omega) (by omega) (by simp; omega) ?_; intro v' w1 hown' hgrow _)
     obtain ⟨hit4, hbw4⟩ := low_step _ hbw3 hit3 hown3 hgrow
     have hown4 : w1.ownsRow w.heap.size 9 1 v' (acc ++ [(a, pos)]).length ((acc ++ [(a, pos)]).map (spanS s)) := by
      rw [List.length_append, List.map_append];exact hown'
     clear hown' hgrow hown3 hit3 hbw3;go_roundg g'
     case measure => omega
     case rel => exact ⟨pos + K, none, acc ++ [(a, pos)], -1, rfl, fun _ => by omega, (fun a h => by cases h), by omega, hown4, hit4, hbw4, HG2, by omega, hwn, by simp; omega, (fun a h => by cases h)⟩
  ·have hnx := fun ty => run_next_end_at (P := Tryz.prog) wr w.heap.size s pos ty hit hlt
   have hend : Lib.spansOfP spaceZ s = Lib.closeSpans s (acc, st) := by
    have := HG.out;rw [Lib.spansFromP_end _ _ _ _ _ _ hlt] at this;unfold Lib.spansOfP;rw [← this]
   have hz3 : w.heap.size < wr.heap.size := (Array.getElem?_eq_some_iff.1 hit).1;cases st with
   | none =>
    have hz0' : z < 0 := hzn rfl;have hE : Lib.spansOfP spaceZ s = acc := hend;have HE := Lib.hid hE;clear HG hend hE;go_wp2_with fail
    go_ret;refine ⟨_, rfl, ?_, hbw⟩;rw [HE.out];exact hown
   | some a =>
    have hza : z = (a : Int) := hzs a rfl;subst hza;have hapos := hst a rfl;have hE : Lib.spansOfP spaceZ s = acc ++ [(a, s.size)] := hend;have HE := Lib.hid hE;clear HG hend hE;go_wp2_with (at_builtin; refine wpList_append_own _ rfl _ _ 33 rfl w.heap.size 9 i0 (.string ⟨#[]⟩) 1 16 Tryz.underlying33 hi hz0 hz1 hz2 rfl (by decide) _ _ _ rfl (hown.alloc _) ⟨wr.heap.size, 0, none⟩ 1 1 [_] rfl rfl (one_new wr _ _) (by intro u hu; simp at hu; subst hu; rfl) (by unfold maxLen; omega) (by omega) (by simp; omega) ?_; intro v' w1 hown' hgrow _)
    obtain ⟨hit4, hbw4⟩ := low_step _ hbw hit hown hgrow;go_ret;refine ⟨_, rfl, ?_, hbw4⟩;rw [HE.out, List.length_append, List.map_append];exact hown'
end Go.Proofs.YtmecbmgfacpecaaGreatDoor.Cron
namespace Go.Proofs.YtmecbmgfacpecaaGreatDoor.Cron
open Go Go.RowKit Go.Proofs.YtmecbmgfacpecaaGreatDoor.Text Go.Proofs.YtmecbmgfacpecaaGreatDoor.Bits
theorem optS_lt {o : Nat} (h : o < 512) : optS o < 512 := by
 unfold optS;split
 ·exact Nat.or_lt_two_pow (n := 9) h (by decide)
 ·exact h
theorem optD_lt {o : Nat} (h : o < 512) : optD o < 512 := by
 unfold optD;split
 ·exact Nat.or_lt_two_pow (n := 9) h (by decide)
 ·exact h
theorem taken_step (q : Nat) (i : Nat) (h : i < 6) : takenN q (placesL.take (i + 1)) = takenN q (placesL.take i) + (if 0 < q &&& placesL[i]'(by simpa [placesL] using h) then 1 else 0) := by
 have hl : i < placesL.length := by simpa [placesL] using h
 unfold takenN;rw [List.take_add_one, List.getElem?_eq_getElem hl];simp only [Option.toList_some, List.filter_append, List.length_append];congr 1
 by_cases hp : 0 < q &&& placesL[i]
 ·rw [List.filter_cons_of_pos (by simpa using hp), if_pos hp]; rfl
 ·rw [List.filter_cons_of_neg (by simpa using hp), if_neg hp]; rfl
theorem taken_le (q : Nat) (ps : List Nat) : takenN q ps ≤ ps.length := List.length_filter_le _ _
set_option maxRecDepth 100000 in
theorem opt_bit_all : ∀ o : Fin 512, nOpt o.val = 1 → ¬ 0 < optAll o.val &&& 128 → 0 < optAll o.val &&& 2 := by decide +kernel
set_option maxRecDepth 100000 in
theorem opt_min_all : ∀ o : Fin 512, nOpt o.val ≤ takenN (optAll o.val) placesL := by decide +kernel
theorem opt_bit {o : Nat} (h : o < 512) : nOpt o = 1 → ¬ 0 < optAll o &&& 128 → 0 < optAll o &&& 2 := opt_bit_all ⟨o, h⟩
theorem opt_min {o : Nat} (h : o < 512) : nOpt o ≤ takenN (optAll o) placesL := opt_min_all ⟨o, h⟩
theorem places_lt (i : Nat) (h : i < placesL.length) : placesL[i] < 512 := by
 have : ∀ p ∈ placesL, p < 512 := by decide
 exact this _ (List.getElem_mem h)
theorem own_below {w w' : World} {base : Nat} {e : TypeId} {size n : Nat} {v : Value} {xs : List Value} (h : w.ownsRow base e size v n xs) (hb : Below w.heap.size w w') : w'.ownsRow base e size v n xs := by
 refine ⟨h.1, ?_⟩;rcases h.2 with h0 | ⟨g, cap, cur, hv, hbg, hg, rest⟩
 ·exact .inl h0
 ·exact .inr ⟨g, cap, cur, hv, hbg, (hb.block g (Array.getElem?_eq_some_iff.1 hg).1).trans hg, rest⟩
theorem own_slice {w : World} {base : Nat} {e : TypeId} {v : Value} {n : Nat} {xs : List Value} (h : w.ownsRow base e 1 v n xs) : ∃ A c, v = .slice A n c := by
 rcases h.2 with ⟨rfl, h0⟩ | ⟨g, cap, cur, rfl, _⟩
 ·exact ⟨none, 0, by rw [h0]⟩
 ·exact ⟨_, cap, rfl⟩
theorem taken_take_le (q : Nat) (ps : List Nat) (i : Nat) : takenN q (ps.take i) ≤ takenN q ps :=
 List.Sublist.length_le (List.Sublist.filter _ (List.take_sublist i ps))
theorem Ints.put {w : World} {g n cap : Nat} {l : List Nat} (h : Ints w g n cap l) {k j : Nat} (hk : g ≠ k) (v : Value) : Ints (w.setCell ⟨k, j, none⟩ v) g n cap l :=
 ⟨h.len, by simpa using h.lt, fun i x hx => by
  have := h.at_ i x hx;unfold World.cell? at this ⊢
  rw [heap_setCell_other w ⟨k, j, none⟩ g v hk];exact this⟩
theorem row_put {w : World} {g i : Nat} {L : List ByteArray} {T : TypeId} (x : ByteArray) (h : w.heap[g]? = some (.cells (L.map Value.string).toArray T (0, 0))) : (w.setCell ⟨g, i, none⟩ (.string x)).heap[g]? = some (.cells ((L.set i x).map Value.string).toArray T (0, 0)) := by
 rw [heap_setCell_same w g i _ _ _ h, List.map_set, List.setIfInBounds_toArray]
def NormAnswer (base ge : Nat) (w : World) (r : Option (List ByteArray)) (e : Ending) (w' : World) : Prop :=
 (match r with
  | some l => ∃ g c, e = .returned (.tuple #[.slice (some ⟨g, 0, none⟩) 6 c, .nilIface]) ∧ w.heap.size ≤ g ∧ Texts w' g 6 c l
  | none => ∃ t x, e = .returned (.tuple #[.slice none 0 0, .iface t x])) ∧ Below base w w' ∧ w'.heap[ge]? = w.heap[ge]?
set_option maxRecDepth 100000 in
set_option maxHeartbeats 4000000 in
theorem normal_any (o : Nat) (ho : o < 512) (fs : List ByteArray) (v : Value) (w : World) (base : Nat) (hown : w.ownsRow base 9 1 v fs.length (fs.map Value.string)) (hfs : fs.length ≤ 4294967296) (hbase : base ≤ w.heap.size) (ge : Nat) (hgeB : ge < w.heap.size) (hrow : v.ownBlock ≠ some ge) :
  Calls Tryz.prog 103 #[v, .int .i64 o] w (NormAnswer base ge w (normF fs o)) := by
 have hS := optS_lt ho
 obtain ⟨A, cv, rfl⟩ : ∃ A cv, v = .slice A fs.length cv := by
  rcases hown.2 with ⟨rfl, h0⟩ | ⟨g, cap, cur, rfl, _⟩
  ·exact ⟨none, 0, by rw [h0]⟩
  ·exact ⟨_, cap, rfl⟩
 have hand1 : bits .and .i64 (o : Int) 2 = ((o &&& 2 : Nat) : Int) := and_i64 (b := 2) (by omega) (by decide);have hor1 : bits .or .i64 (o : Int) 1 = ((o ||| 1 : Nat) : Int) := or_i64 (b := 1) (by omega) (by decide);have hand2 : bits .and .i64 (optS o : Int) 128 = ((optS o &&& 128 : Nat) : Int) := and_i64 (b := 128) (by omega) (by decide);have hor2 : bits .or .i64 (optS o : Int) 64 = ((optS o ||| 64 : Nat) : Int) := or_i64 (b := 64) (by omega) (by decide);go_enter Tryz.func103, Tryz.ntmps103;go_upto_if 18 with fail
 go_cut [1, 6] (fun v1 v6 wc => v1 = .int .i64 (optS o : Nat) ∧ v6 = .int .i64 ((if 0 < o &&& 2 then 1 else 0 : Nat) : Int) ∧ w = wc)
 case first =>
  by_cases h : 0 < o &&& 2
  ·have hs : optS o = o ||| 1 := by unfold optS; rw [if_pos h]
   have HS := Lib.hid hs;have hp : (0 : Int) < ((o &&& 2 : Nat) : Int) := by omega
   clear hs hS hand2 hor2;go_wp2_with fail
   go_meet
   exact ⟨by rw [HS.out], by rw [if_pos h]; rfl, rfl⟩
  ·have hs : optS o = o := by unfold optS; rw [if_neg h]
   have HS := Lib.hid hs;have hp : ¬ (0 : Int) < ((o &&& 2 : Nat) : Int) := by omega
   clear hs hS hand2 hor2;go_wp2_with fail
   go_meet
   exact ⟨by rw [HS.out], by rw [if_neg h]; rfl, rfl⟩
 case rest =>
  obtain ⟨rfl, rfl, rfl⟩ := hcut;clear hand1 hor1;go_upto_if 25 with fail
  go_cut [1, 6] (fun v1 v6 wc => v1 = .int .i64 (optAll o : Nat) ∧ v6 = .int .i64 (nOpt o : Nat) ∧ w = wc)
  case first =>
   by_cases h : 0 < optS o &&& 128
   ·have hs : optAll o = optS o ||| 64 := by unfold optAll optD; rw [if_pos h]
    have hn : nOpt o = (if 0 < o &&& 2 then 1 else 0) + 1 := by unfold nOpt; rw [if_pos h]
    have HS := Lib.hid hs;have HN := Lib.hid hn;have hp : (0 : Int) < ((optS o &&& 128 : Nat) : Int) := by omega
    have hq : (if 0 < o &&& 2 then 1 else 0) ≤ 1 := by split <;> omega
    clear hs hn hS;generalize optS o = o1 at *;generalize (if 0 < o &&& 2 then 1 else 0) = n1 at *;go_wp2_with fail
    go_meet
    exact ⟨by rw [HS.out], by rw [HN.out]; rfl, rfl⟩
   ·have hs : optAll o = optS o := by unfold optAll optD; rw [if_neg h]
    have hn : nOpt o = (if 0 < o &&& 2 then 1 else 0) := by unfold nOpt; rw [if_neg h]; rfl
    have HS := Lib.hid hs;have HN := Lib.hid hn;have hp : ¬ (0 : Int) < ((optS o &&& 128 : Nat) : Int) := by omega
    clear hs hn hS;generalize optS o = o1 at *;generalize (if 0 < o &&& 2 then 1 else 0) = n1 at *;go_wp2_with fail
    go_meet
    exact ⟨by rw [HS.out], by rw [HN.out], rfl⟩
  case rest =>
   obtain ⟨rfl, rfl, rfl⟩ := hcut;clear hand2 hor2;by_cases hmany : 1 < nOpt o
   ·have HX : Hid (normF fs o = none) := Lib.hid (by unfold normF; rw [if_pos hmany]);go_wp2_with (go_at_call 96; refine (errorsNew_any _ _).mono ?_; rintro e w1 ⟨t, x, rfl, hb1⟩)
    go_ret2;refine ⟨?_, hb1.mono hbase, hb1.block ge hgeB⟩;rw [HX.out];exact ⟨t, x, rfl⟩
   ·have hq := optD_lt hS;have HN1 : Hid (nOpt o ≤ 1) := Lib.hid (by omega)
    have HNF : Hid (normF fs o = if fs.length < takenN (optAll o) placesL - nOpt o ∨ takenN (optAll o) placesL < fs.length then none
      else some (fillL (optAll o) placesL defaultsL (if 0 < nOpt o ∧ fs.length = takenN (optAll o) placesL - nOpt o then (if 0 < optAll o &&& 128 then fs ++ [⟨#[42]⟩] else ⟨#[48]⟩ :: fs) else fs))) := Lib.hid (by unfold normF; rw [if_neg hmany])
    have HBIT : Hid (nOpt o = 1 → ¬ 0 < optAll o &&& 128 → 0 < optAll o &&& 2) := Lib.hid (opt_bit ho);have HMIN : Hid (nOpt o ≤ takenN (optAll o) placesL) := Lib.hid (opt_min ho);change optAll o < 512 at hq
    generalize hR : normF fs o = R at *;clear hR;generalize optAll o = q at *;generalize nOpt o = n1 at *;clear hS ho;go_wp2_with (go_at_call 148; go_must (refine (places_any _).mono ?_); rintro e w1 ⟨g1, c1, rfl, hg1, hp1, hb1⟩)
    go_loop [7, 35] (fun v7 v35 => ∃ i : Nat, v35 = .int .i64 i ∧ i ≤ 6 ∧ v7 = .int .i64 (takenN q (placesL.take i) : Nat)) (fun _ v35 => 6 - (intOf v35).toNat)
    case atStart => exact ⟨0, rfl, by omega, rfl⟩
    case round =>
     obtain ⟨i, rfl, hi, rfl⟩ := hrel;have htl := taken_le q (placesL.take i);have htl2 : (placesL.take i).length ≤ 6 := by rw [List.length_take]; simp [placesL]; omega
     by_cases h6 : i < 6
     ·have hl : i < placesL.length := by simpa [placesL] using h6
      have hc := hp1.at_ i _ (List.getElem?_eq_getElem hl);have hst := Lib.hid (taken_step q i h6);have hpl := places_lt i hl;generalize placesL[i] = p at *;have hand : bits .and .i64 (q : Int) (p : Int) = ((q &&& p : Nat) : Int) := and_i64 (by omega) (by omega);by_cases hpos : 0 < q &&& p
      ·have hpi : (0 : Int) < ((q &&& p : Nat) : Int) := by omega
       have HT : Hid (takenN q (placesL.take (i + 1)) = takenN q (placesL.take i) + 1) := Lib.hid (by rw [hst.out, if_pos hpos]);clear hst;generalize takenN q (placesL.take i) = tn at *;go_wp2_with fail
       go_round
       case rel => exact ⟨i + 1, by go_num, by omega, by rw [HT.out]; go_num⟩
       case measure => simp [intOf]; omega
      ·have hpi : ¬ (0 : Int) < ((q &&& p : Nat) : Int) := by omega
       have HT : Hid (takenN q (placesL.take (i + 1)) = takenN q (placesL.take i)) := Lib.hid (by rw [hst.out, if_neg hpos]; rfl);clear hst;generalize takenN q (placesL.take i) = tn at *;go_wp2_with fail
       go_round
       case rel => exact ⟨i + 1, by go_num, by omega, by rw [HT.out]⟩
       case measure => simp [intOf]; omega
     ·have hi6 : i = 6 := by omega
      subst hi6;have htk : takenN q (placesL.take 6) = takenN q placesL := rfl;rw [htk];clear htk htl htl2 h6;have htm := taken_le q placesL;have hpm : placesL.length = 6 := rfl;generalize hmx : takenN q placesL = mx at *;have HMX := Lib.hid hmx;clear hmx;have hnm := HMIN.out;have hn1 := HN1.out;by_cases hbad : fs.length < mx - n1 ∨ mx < fs.length
      ·have HX : Hid (R = none) := Lib.hid (by rw [HNF.out, if_pos hbad]);clear HNF HBIT;go_wp2_with (go_at_call 96; refine (errorsNew_any _ _).mono ?_; rintro e w2 ⟨t, x, rfl, hb2⟩)
       all_goals
        go_ret2;refine ⟨?_, (below_of_le hb1 hb2).mono hbase, (below_of_le hb1 hb2).block ge hgeB⟩;rw [HX.out];exact ⟨t, x, rfl⟩
      ·have HR : Hid (R = some (fillL q placesL defaultsL (if 0 < n1 ∧ fs.length = mx - n1 then (if 0 < q &&& 128 then fs ++ [⟨#[42]⟩] else ⟨#[48]⟩ :: fs) else fs))) := Lib.hid (by rw [HNF.out, if_neg hbad]);have hge : mx - n1 ≤ fs.length := by omega
       have hle : fs.length ≤ mx := by omega
       clear HNF hbad hmany;go_upto_region 23 with fail
       obtain ⟨wo, rfl⟩ : ∃ wo : World, wo = w1 := ⟨_, rfl⟩
       go_cut [72] (fun v72 wc => ∃ b : Bool, v72 = .bool b ∧ Hid (b = decide (0 < n1 ∧ fs.length = mx - n1)) ∧ wo = wc)
       case first =>
        by_cases hopt : 0 < n1 ∧ fs.length = mx - n1
        ·have hD := Lib.hid (decide_eq_true hopt);obtain ⟨ho1, ho2⟩ := hopt;have h1 : ((mx : Int) - n1 < mx) := by omega
         have h2 : ((fs.length : Int) == (mx : Int) - n1) = true := by simp; omega
         clear ho1 ho2;go_wp2_with fail
         go_meet
         exact ⟨_, rfl, Lib.hid hD.out.symm, rfl⟩
        ·have hD := Lib.hid (decide_eq_false hopt);by_cases h0 : n1 = 0
         ·have h1 : ¬ ((mx : Int) - n1 < mx) := by omega
          clear h0 hopt;go_wp2_with fail
          go_meet
          exact ⟨_, rfl, Lib.hid hD.out.symm, rfl⟩
         ·have h1 : ((mx : Int) - n1 < mx) := by omega
          have h2 : ((fs.length : Int) == (mx : Int) - n1) = false := by simp; omega
          clear h0 hopt;go_wp2_with fail
          go_meet
          exact ⟨_, rfl, Lib.hid hD.out.symm, rfl⟩
       case rest =>
       obtain ⟨b72, rfl, HB72, rfl⟩ := hcut;go_upto_if 72 with fail
       obtain ⟨wo2, rfl⟩ : ∃ wo2 : World, wo2 = wo := ⟨_, rfl⟩
       go_cut [0] (fun v0 wc => ∃ A2 c2, v0 = .slice A2 (if 0 < n1 ∧ fs.length = mx - n1 then (if 0 < q &&& 128 then fs ++ [⟨#[42]⟩] else ⟨#[48]⟩ :: fs) else fs).length c2 ∧
        Hid (wc.ownsRow base 9 1 (.slice A2 (if 0 < n1 ∧ fs.length = mx - n1 then (if 0 < q &&& 128 then fs ++ [⟨#[42]⟩] else ⟨#[48]⟩ :: fs) else fs).length c2) (if 0 < n1 ∧ fs.length = mx - n1 then (if 0 < q &&& 128 then fs ++ [⟨#[42]⟩] else ⟨#[48]⟩ :: fs) else fs).length ((if 0 < n1 ∧ fs.length = mx - n1 then (if 0 < q &&& 128 then fs ++ [⟨#[42]⟩] else ⟨#[48]⟩ :: fs) else fs).map Value.string)) ∧ Below base w wc ∧ w.heap.size ≤ wc.heap.size ∧ wc.heap[ge]? = w.heap[ge]?)
       case first =>
        have hown1 := own_below hown hb1;have hB1 : Below base w wo2 := hb1.mono hbase;cases b72 with
        | true =>
         have HO : Hid (0 < n1 ∧ fs.length = mx - n1) := Lib.hid (of_decide_eq_true HB72.out.symm);have hflen : fs.length ≤ 6 := by omega
         obtain ⟨i0, hi0, hz0, hz1, hz2⟩ := info_parts info_string;by_cases h128 : 0 < q &&& 128
         ·have hand : bits .and .i64 (q : Int) 128 = ((q &&& 128 : Nat) : Int) := and_i64 (b := 128) (by omega) (by decide);have hpos : (0 : Int) < ((q &&& 128 : Nat) : Int) := by omega
          go_wp2_with fail
          refine (defaults_any _).mono ?_;rintro e w3 ⟨gd, cd, rfl, hgd, htd, hb3⟩;have hd5 : w3.cell? ⟨gd, 5, none⟩ = some (.string ⟨#[42]⟩) := htd.at_ 5 _ rfl;have hown3 := own_below hown1 hb3;have hbase3 : base ≤ w3.heap.size := by have := hb1.size; have := hb3.size; omega
          have hB3 : Below base w w3 := hB1.trans (hb3.mono (by have := hb1.size; omega));clear htd;go_wp2_with (at_builtin; refine wpList_append_own _ rfl _ _ 33 rfl base 9 i0 (.string ⟨#[]⟩) 1 16 Tryz.underlying33 hi0 hz0 hz1 hz2 rfl (by decide) (.slice A fs.length cv) fs.length (fs.map Value.string) rfl (hown3.alloc _) ⟨w3.heap.size, 0, none⟩ 1 1 [_] rfl rfl (one_new w3 _ _) (by intro u hu; simp at hu; subst hu; rfl) (by unfold maxLen; omega) (by omega) (by simp; omega) ?_; intro v' w4 hown' hgrow _)
          obtain ⟨A2, c2, rfl⟩ := own_slice hown';have hg13 : ge < w3.heap.size := by have := hb1.size; have := hb3.size; omega
          have hk4 : w4.heap[ge]? = w.heap[ge]? := (hgrow.block ge (by simp; omega) (fun e => hrow e.symm)).trans (((Below.refl w3.heap.size w3).alloc (Nat.le_refl _) _ |>.block ge hg13).trans ((hb3.block ge (by have := hb1.size; omega)).trans (hb1.block ge hgeB)));have hB4 : Below base w w4 := (hB3.alloc hbase3 _).grown hgrow (by simp; omega) (fun k hk => (hown3.lt k hk).1);have hz4 : w.heap.size ≤ w4.heap.size := hB4.size;clear hown3 hgrow hB3 hb3 hd5;go_wp2_with fail
          go_meet
          refine ⟨A2, c2, ?_, Lib.hid ?_, hB4, hz4, hk4⟩
          ·rw [if_pos HO.out, if_pos h128, List.length_append]; rfl
          ·rw [if_pos HO.out, if_pos h128, List.length_append, List.map_append]; exact hown'
         ·have hand : bits .and .i64 (q : Int) 128 = ((q &&& 128 : Nat) : Int) := and_i64 (b := 128) (by omega) (by decide);have hneg : ¬ (0 : Int) < ((q &&& 128 : Nat) : Int) := by omega
          have hand2 : bits .and .i64 (q : Int) 2 = ((q &&& 2 : Nat) : Int) := and_i64 (b := 2) (by omega) (by decide);have hbit := HBIT.out (by have := HO.out.1; omega) h128;have hpos : (0 : Int) < ((q &&& 2 : Nat) : Int) := by omega
          go_wp2_with fail
          refine (defaults_any _).mono ?_;rintro e w3 ⟨gd, cd, rfl, hgd, htd, hb3⟩;have hd0 : w3.cell? ⟨gd, 0, none⟩ = some (.string ⟨#[48]⟩) := htd.at_ 0 _ rfl;have hown3 := own_below hown1 hb3;have hbase3 : base ≤ w3.heap.size := by have := hb1.size; have := hb3.size; omega
          have hB3 : Below base w w3 := hB1.trans (hb3.mono (by have := hb1.size; omega));have hlit : (w3.alloc (.cells #[.string ⟨#[48]⟩] 9)).ownsRow base 9 1 (.slice (some ⟨w3.heap.size, 0, none⟩) 1 1) 1 [.string ⟨#[48]⟩] := World.ownsRow_lit w3 #[.string ⟨#[48]⟩] 1 hbase3 (by decide) rfl;clear htd;have hnm2 := HO.out
          have hones : ∀ u ∈ fs.map Value.string, u.oneCell' = true := by
           intro u hu;rw [List.mem_map] at hu;obtain ⟨x, _, rfl⟩ := hu;rfl
          rcases hown3.2 with ⟨he, h0⟩ | ⟨g, cap, cur, he, _⟩
          ·injection he with e1 e2 e3
           have hnil : fs = [] := List.length_eq_zero_iff.1 h0;have HNIL := Lib.hid hnil;subst e1;subst e3;rw [h0] at hown3;clear hnil hnm2 h0 e2;have HL0 : Hid (fs.length = 0) := Lib.hid (by rw [HNIL.out]; rfl);have hB4 : Below base w (w3.alloc (.cells #[.string ⟨#[48]⟩] 9)) := hB3.alloc hbase3 _;have hz4 := hB4.size;have hg13 : ge < w3.heap.size := by have := hb1.size; have := hb3.size; omega
           have hk4 : (w3.alloc (.cells #[.string ⟨#[48]⟩] 9)).heap[ge]? = w.heap[ge]? := ((Below.refl w3.heap.size w3).alloc (Nat.le_refl _) _ |>.block ge hg13).trans ((hb3.block ge (by have := hb1.size; omega)).trans (hb1.block ge hgeB));go_wp2_with (at_builtin; refine wpList_append_own_none rfl _ _ 33 rfl base 9 i0 1 Tryz.underlying33 hi0 (.slice (some ⟨w3.heap.size, 0, none⟩) 1 1) 1 [.string ⟨#[48]⟩] rfl hlit (congrArg (fun n => Value.slice none n 0) HL0.out) ?_)
           go_meet
           refine ⟨some ⟨w3.heap.size, 0, none⟩, 1, ?_, Lib.hid ?_, hB4, hz4, hk4⟩
           ·rw [if_pos HO.out, if_neg h128, HNIL.out]; rfl
           ·rw [if_pos HO.out, if_neg h128, HNIL.out]; exact hlit
          ·injection he with e1 e2 e3
           subst e1;subst e3;clear hnm2 e2;have hcells := (hown3.alloc (.cells #[.string ⟨#[48]⟩] 9)).cells (g := g) rfl;go_wp2_with (at_builtin; refine wpList_append_own _ rfl _ _ 33 rfl base 9 i0 (.string ⟨#[]⟩) 1 16 Tryz.underlying33 hi0 hz0 hz1 hz2 rfl (by decide) (.slice (some ⟨w3.heap.size, 0, none⟩) 1 1) 1 [.string ⟨#[48]⟩] rfl hlit ⟨g, 0, none⟩ fs.length cv (fs.map Value.string) rfl (by simp) hcells hones (by unfold maxLen; omega) (by omega) (by simp; omega) ?_; intro v' w4 hown' hgrow _)
           obtain ⟨A2, c2, rfl⟩ := own_slice hown';have hg13 : ge < w3.heap.size := by have := hb1.size; have := hb3.size; omega
           have hk4 : w4.heap[ge]? = w.heap[ge]? := (hgrow.block ge (by simp; omega) (fun e => by simp [Value.ownBlock] at e; omega)).trans (((Below.refl w3.heap.size w3).alloc (Nat.le_refl _) _ |>.block ge hg13).trans ((hb3.block ge (by have := hb1.size; omega)).trans (hb1.block ge hgeB)));have hB4 : Below base w w4 := (hB3.alloc hbase3 _).grown hgrow (by simp; omega) (fun k hk => (hlit.lt k hk).1);have hz4 : w.heap.size ≤ w4.heap.size := hB4.size;clear hown3 hgrow hB3 hb3 hd0 hcells;go_wp2_with fail
           go_meet
           refine ⟨A2, c2, ?_, Lib.hid ?_, hB4, hz4, hk4⟩
           ·rw [if_pos HO.out, if_neg h128, List.length_cons, Nat.add_comm]
           ·rw [if_pos HO.out, if_neg h128, List.length_cons, List.map_cons, Nat.add_comm]; exact hown'
        | false =>
         have HO : Hid (¬ (0 < n1 ∧ fs.length = mx - n1)) := Lib.hid (of_decide_eq_false HB72.out.symm);go_wp2_with fail
         go_meet
         refine ⟨A, cv, ?_, Lib.hid ?_, hB1, hb1.size, hb1.block ge hgeB⟩
         ·rw [if_neg HO.out]
         ·rw [if_neg HO.out]; exact hown1
       case rest =>
        obtain ⟨A2, c2, rfl, HOWN, hB2, hz2w, hk2⟩ := hcut;have HK2 := Lib.hid hk2;clear hk2;obtain ⟨i0, hi0, hz0, hz1, hz2⟩ := info_parts info_string;have hmk := fun w' : World => run_make w' 33 9 i0 (.string ⟨#[]⟩) Tryz.underlying33 hi0 hz0 .i64 .i64 6 6 (by omega) (by omega) (by rw [hz2]; omega) (by omega)
        rw [hz1] at hmk;generalize hf2 : (if 0 < n1 ∧ fs.length = mx - n1 then (if 0 < q &&& 128 then fs ++ [⟨#[42]⟩] else ⟨#[48]⟩ :: fs) else fs) = f2 at *
        have HLEN : Hid (f2.length = mx) := Lib.hid (by
         rw [← hf2];split
         ·rename_i hc
          obtain ⟨hc1, hc2⟩ := hc;split
          ·rw [List.length_append, List.length_singleton]; omega
          ·rw [List.length_cons]; omega
         ·rename_i hc
          omega)
        have HF2 : Hid (∀ (i : Nat) x, f2[i]? = some x → ∃ g2, A2 = some ⟨g2, 0, none⟩ ∧ g2 < wc.heap.size ∧ wc.cell? ⟨g2, i, none⟩ = some (.string x)) := Lib.hid (by
         rcases HOWN.out.2 with ⟨he, h0⟩ | ⟨g, cap, cur, he, hbg, hgc, _⟩
         ·intro i x hx;rw [List.length_eq_zero_iff.1 h0] at hx;cases hx
         ·intro i x hx;injection he with e1 e2 e3
          refine ⟨g, e1, (Array.getElem?_eq_some_iff.1 hgc).1, ?_⟩;have := HOWN.out.cells (g := g) (by rw [e1]; rfl) i _ (by rw [List.getElem?_map, hx]; rfl);have hadd : ((⟨g, 0, none⟩ : Addr).add i) = ⟨g, i, none⟩ := by unfold Addr.add; split <;> simp_all
          rw [hadd] at this;exact this)
        clear hf2 HMIN HBIT HB72 hge hle hnm hn1 HN1;have hbase2 : base ≤ wc.heap.size := by omega
        go_wp2_with fail
        refine (places_any _).mono ?_;rintro e w3 ⟨g3, c3, rfl, hg3, hp3, hb3⟩;go_wp2_with fail
        refine (defaults_any _).mono ?_;rintro e w5 ⟨gd, cd, rfl, hgd, htd, hb5⟩;have hrow : w5.heap[w3.heap.size]? = some (.cells (madeCells #[.string ⟨#[]⟩] 6) 9 (0, 0)) := (hb5.block w3.heap.size (by simp)).trans (heap_alloc_new w3 _)
        have hsrc : ∀ j v, (defaultsL.map Value.string)[j]? = some v → w5.cell? ((⟨gd, 0, none⟩ : Addr).add j) = some v := by
         intro j v hv;rw [List.getElem?_map] at hv;obtain ⟨x, hx, rfl⟩ := Option.map_eq_some_iff.1 hv;have := htd.at_ j x hx;have hadd : ((⟨gd, 0, none⟩ : Addr).add j) = ⟨gd, j, none⟩ := by unfold Addr.add; split <;> simp_all
         rw [hadd];exact this
        have hones : ∀ u ∈ defaultsL.map Value.string, u.oneCell' = true := by
         intro u hu;rw [List.mem_map] at hu;obtain ⟨x, _, rfl⟩ := hu;rfl
        have hge3 : base ≤ w3.heap.size := by have := hb3.size; omega
        have hB3 : Below base w w3 := hB2.trans (hb3.mono hbase2);have hB5 : Below base w w5 := (hB3.alloc hge3 _).trans (hb5.mono (by simp; omega));have HROW := Lib.hid hrow;have HSRC := Lib.hid hsrc;have hsz9 : (Tryz.prog.info? 9).map (·.size) = some 1 := by rw [hi0]; simp [hz1]
        have HOWN5 : Hid (w5.ownsRow base 9 1 (.slice A2 f2.length c2) f2.length (f2.map Value.string)) := Lib.hid (own_below ((own_below HOWN.out hb3).alloc _) hb5);have HB5 := Lib.hid hB5;have hle3 : wc.heap.size ≤ w3.heap.size := hb3.size;have HBW5 : Hid (Below wc.heap.size wc w5) := Lib.hid ((hb3.alloc hb3.size _).trans (hb5.mono (by simp; omega)));clear hrow hsrc hb3 hb5 htd hB3 hB5 HOWN hB2;go_wp2_with (refine wpList_copy_own rfl _ _ 33 33 rfl 9 Tryz.underlying33 hsz9 w3.heap.size 0 6 6 ⟨gd, 0, none⟩ 6 cd rfl rfl _ 9 HROW.out (defaultsL.map Value.string) rfl HSRC.out (by simp [madeCells, defaultsL]) hones ?_)
        have hdrop : (defaultsL.map Value.string ++ List.drop defaultsL.length (madeCells #[Value.string ⟨#[]⟩] 6).toList).toArray = (defaultsL.map Value.string).toArray := by simp [madeCells, defaultsL]
        have hrow6 : (w5.setRow w3.heap.size (defaultsL.map Value.string ++ List.drop defaultsL.length (madeCells #[Value.string ⟨#[]⟩] 6).toList).toArray).heap[w3.heap.size]? = some (.cells (defaultsL.map Value.string).toArray 9 (0, 0)) := by
         rw [hdrop];exact setRow_heap w5 _ _ _ _ _ HROW.out
        have hB6 : Below base w (w5.setRow w3.heap.size (defaultsL.map Value.string ++ List.drop defaultsL.length (madeCells #[Value.string ⟨#[]⟩] 6).toList).toArray) := below_setRow HB5.out hge3 _;have HROW6 := Lib.hid hrow6;have HB6 := Lib.hid hB6;have HBW6 : Hid (Below wc.heap.size wc (w5.setRow w3.heap.size (defaultsL.map Value.string ++ List.drop defaultsL.length (madeCells #[Value.string ⟨#[]⟩] 6).toList).toArray)) := Lib.hid (below_setRow HBW5.out hle3 _);clear hdrop hrow6 hB6 HROW HSRC HOWN5 HBW5 HB5;generalize w5.setRow w3.heap.size _ = w6 at *;refine (places_any _).mono ?_;rintro e w7 ⟨g7, c7, rfl, hg7, hp7, hb7⟩;have hg3lt : w3.heap.size < w6.heap.size := (Array.getElem?_eq_some_iff.1 HROW6.out).1
        have HROW7 : Hid (w7.heap[w3.heap.size]? = some (.cells ((fillRow (fillL q placesL defaultsL f2) defaultsL 0).map Value.string).toArray 9 (0, 0))) := Lib.hid (by
         rw [fillRow_zero];exact (hb7.block _ hg3lt).trans HROW6.out)
        have HB7 : Hid (Below base w w7) := Lib.hid (HB6.out.trans (hb7.mono (by omega)));have HBW7 : Hid (Below wc.heap.size wc w7) := Lib.hid (HBW6.out.trans (hb7.mono (by omega)));have HP7 := Lib.hid hp7;have hgne : g7 ≠ w3.heap.size := by omega
        clear HROW6 HB6 HBW6 hb7 hp7;go_wp2_with fail
        go_loopw [12, 102] (fun v12 v102 wr => ∃ i : Nat, v102 = .int .i64 i ∧ i ≤ 6 ∧ v12 = .int .i64 (takenN q (placesL.take i) : Nat) ∧
         Hid (wr.heap[w3.heap.size]? = some (.cells ((fillRow (fillL q placesL defaultsL f2) defaultsL i).map Value.string).toArray 9 (0, 0))) ∧ Hid (Below base w wr) ∧ Hid (Below wc.heap.size wc wr) ∧ Hid (Ints wr g7 6 c7 placesL)) (fun _ v102 _ => 6 - (intOf v102).toNat)
        case atStart => exact ⟨0, rfl, by omega, rfl, HROW7, HB7, HBW7, HP7⟩
        case round =>
         obtain ⟨i, rfl, hi6, rfl, HROWr, HBr, HBWr, HPr⟩ := hrel;clear HROW7 HB7 HBW7 HP7;by_cases h6 : i < 6
         ·have hl : i < placesL.length := by simpa [placesL] using h6
          have hcp := HPr.out.at_ i _ (List.getElem?_eq_getElem hl);have hst := taken_step q i h6;have hsl := taken_take_le q placesL (i + 1);have hFi := fill_at q placesL defaultsL f2 i hl rfl (by have := HLEN.out; have := HMX.out; omega);have hplt := places_lt i hl;have hdl : i < defaultsL.length := by simpa [defaultsL] using h6
          have htn := taken_le q (placesL.take i);have htn2 : (placesL.take i).length ≤ 6 := by rw [List.length_take]; simp [placesL]; omega
          generalize placesL[i] = p at *;have hand : bits .and .i64 (q : Int) (p : Int) = ((q &&& p : Nat) : Int) := and_i64 (by omega) (by omega);by_cases hpos : 0 < q &&& p
          ·rw [if_pos hpos] at hst hFi
           have hlt2 : takenN q (placesL.take i) < f2.length := by have := HLEN.out; have := HMX.out; omega
           have hx := List.getElem?_eq_getElem hlt2;generalize f2[takenN q (placesL.take i)] = x at hx;rw [hx] at hFi;obtain ⟨g2, rfl, hg2, hc2⟩ := HF2.out _ x hx;have hcr : wr.cell? ⟨g2, takenN q (placesL.take i), none⟩ = some (.string x) := (HBWr.out.cell (p := ⟨g2, takenN q (placesL.take i), none⟩) hg2).trans hc2
           have hlen6 : (fillRow (fillL q placesL defaultsL f2) defaultsL i).length = 6 := by
            unfold fillRow;rw [List.length_append, List.length_take, List.length_drop, fill_length _ _ _ _ rfl];simp [placesL, defaultsL]; omega
           have hcd : ∃ d, wr.cell? ⟨w3.heap.size, i, none⟩ = some d := by
            rw [cell_of_row wr w3.heap.size i _ _ _ HROWr.out];exact ⟨_, Array.getElem?_eq_getElem (by simp [hlen6]; omega)⟩
           obtain ⟨d, hcd⟩ := hcd;have hfd : wr.frozen? ⟨w3.heap.size, i, none⟩ = false := frozen_of_row _ _ _ _ _ HROWr.out;have HT : Hid (takenN q (placesL.take (i + 1)) = takenN q (placesL.take i) + 1) := Lib.hid hst;have HFS := Lib.hid (fillRow_set (F := fillL q placesL defaultsL f2) (ds := defaultsL) hFi hdl);have hpi : (0 : Int) < ((q &&& p : Nat) : Int) := by omega
           clear hst hsl hFi hx hc2 hlen6;generalize takenN q (placesL.take i) = tn at *;go_wp2_with fail
           go_roundw
           case rel =>
            refine ⟨i + 1, by go_num, by omega, by rw [HT.out]; go_num, Lib.hid ?_, Lib.hid (HBr.out.setCell hge3 _), Lib.hid (HBWr.out.setCell hle3 _), Lib.hid (HPr.out.put hgne _)⟩;rw [← HFS.out];exact row_put x HROWr.out
           case measure => simp [intOf]; omega
          ·rw [if_neg hpos] at hst hFi
           have hpi : ¬ (0 : Int) < ((q &&& p : Nat) : Int) := by omega
           have HT : Hid (takenN q (placesL.take (i + 1)) = takenN q (placesL.take i)) := Lib.hid hst;have HFS := Lib.hid (fillRow_same (F := fillL q placesL defaultsL f2) (ds := defaultsL) (hFi.trans (List.getElem?_eq_getElem hdl)) (List.getElem?_eq_getElem hdl));clear hst hsl hFi;generalize takenN q (placesL.take i) = tn at *;go_wp2_with fail
           go_roundw
           case rel => exact ⟨i + 1, by go_num, by omega, by rw [HT.out], Lib.hid (by rw [HFS.out]; exact HROWr.out), HBr, HBWr, HPr⟩
           case measure => simp [intOf]; omega
         ·have hi : i = 6 := by omega
          subst hi;have hend := fillRow_end (F := fillL q placesL defaultsL f2) (ds := defaultsL) (i := 6) (by rw [fill_length _ _ _ _ rfl]; simp [placesL]) (by simp [defaultsL]);have hrowF := HROWr.out;rw [hend] at hrowF
          have HT : Hid (Texts wr w3.heap.size 6 6 (fillL q placesL defaultsL f2)) := Lib.hid ⟨by rw [fill_length _ _ _ _ rfl]; rfl, Nat.le_refl _, (Array.getElem?_eq_some_iff.1 hrowF).1, fun j x hx => by
           rw [cell_of_row wr w3.heap.size j _ _ _ hrowF];simp [hx]⟩
          clear hend hrowF h6;go_wp2_with fail
          go_ret2;refine ⟨?_, HBr.out, (HBWr.out.block ge (by omega)).trans HK2.out⟩;rw [HR.out];exact ⟨w3.heap.size, 6, rfl, by omega, HT.out⟩
def lowB (s : ByteArray) : ByteArray := ⟨(lowS s).toArray⟩
def valN (L : List (ByteArray × Int)) (l : List UInt8) : Option Nat :=
 match lookL (lowB (ba l)) L with
 | some v => some v.toNat
 | none => mp l
theorem look_mem (s : ByteArray) : ∀ (L : List (ByteArray × Int)) (v : Int), lookL s L = some v → (s, v) ∈ L
 | [], v, h => by cases h
 | (k, x) :: t, v, h => by
  unfold lookL at h;by_cases e : s = k
  ·rw [if_pos e] at h;injection h with h
   subst e; subst h;exact List.mem_cons_self ..
  ·rw [if_neg e] at h;exact List.mem_cons_of_mem _ (look_mem s t v h)
def Small (L : List (ByteArray × Int)) : Prop := ∀ p ∈ L, 0 ≤ p.2 ∧ p.2 ≤ 12
theorem months_small : Small monthsL := by
 intro p hp;simp only [monthsL, List.mem_cons, List.not_mem_nil, or_false] at hp;rcases hp with rfl | rfl | rfl | rfl | rfl | rfl | rfl | rfl | rfl | rfl | rfl | rfl <;> exact ⟨by omega, by omega⟩
theorem dow_small : Small dowL := by
 intro p hp;simp only [dowL, List.mem_cons, List.not_mem_nil, or_false] at hp;rcases hp with rfl | rfl | rfl | rfl | rfl | rfl | rfl <;> exact ⟨by omega, by omega⟩
theorem lower_any (s : ByteArray) (hs : s.size ≤ 4294967296) (w : World) :
 Calls Tryz.prog 206 #[.string s] w fun e w' => e = .returned (.string (lowB s)) ∧ Below w.heap.size w w' := zzLower_any s hs w
set_option maxRecDepth 100000 in
theorem reads_named (r : Nat) (L : List (ByteArray × Int)) (hL : Small L) : Reads (some r) (valN L) (fun w => G w ∧ MapAt w r L) := by
 refine ⟨fun ⟨h, hM⟩ hb => ⟨h.below hb, hM.below hb⟩, fun h => h.1, fun {l n} h => ?_, fun s w hs hI => ?_⟩
 ·unfold valN at h;split at h
  ·rename_i v hv
   have := hL _ (look_mem _ _ _ hv);injection h with h
   omega
  ·exact mp_le h
 ·obtain ⟨hg, hM⟩ := hI;have hm := fun w : World => run_neq_map_nil (P := Tryz.prog) w 183 _ _ (some r) Tryz.underlying183
  have HLW := Lib.hid (fun w' => lower_any s hs w');unfold valN;rw [ba_of];have hbd : ∀ v, lookL (lowB s) L = some v → 0 ≤ v ∧ v ≤ 12 := fun v hv => hL _ (look_mem _ _ _ hv)
  have hlk := fun (w' : World) (h : MapAt w' r L) => run_lookup_name w' r L (lowB s) h
  generalize lookL (lowB s) L = q at *;generalize lowB s = low at *;go_enter Tryz.func180, Tryz.ntmps180;go_wp2_with fail
  refine (HLW.out _).mono ?_;rintro e w1 ⟨rfl, hb1⟩;have hl := hlk w1 (hM.below hb1);have hg1 := hg.below hb1;clear hlk HLW hM hL;cases q with
  | some v =>
   obtain ⟨n, rfl⟩ : ∃ n : Nat, v = n := ⟨v.toNat, by have := hbd v rfl; omega⟩
   simp only [Option.getD_some, Option.isSome_some] at hl;go_wp2_with fail
   go_ret2;exact ⟨rfl, hb1⟩
  | none =>
   simp only [Option.getD_none, Option.isSome_none] at hl;cases h : mp s.data.toList with
   | some n =>
    go_wp2_with (go_at_call 181; refine (mustParse_ok s (by omega) n h _).mono ?_; rintro e w' ⟨rfl, hb⟩)
    go_ret2;exact ⟨rfl, below_of_le hb1 hb⟩
   | none =>
    go_wp2_with (go_at_call 181; refine (mustParse_bad s (by omega) h _ hg1).mono ?_; rintro e w' ⟨t, x, rfl, hb⟩)
    go_ret2;exact ⟨⟨t, x, rfl⟩, below_of_le hb1 hb⟩
def valK (k : Nat) : List UInt8 → Option Nat := if k = 4 then valN monthsL else if k = 5 then valN dowL else mp
end Go.Proofs.YtmecbmgfacpecaaGreatDoor.Cron
namespace Go.Proofs.YtmecbmgfacpecaaGreatDoor.Cron
open Go Go.RowKit Go.Proofs.YtmecbmgfacpecaaGreatDoor.Text Go.Proofs.YtmecbmgfacpecaaGreatDoor.Bits Go.Proofs.YtmecbmgfacpecaaGreatDoorW.PrintWords Go.Proofs.YtmecbmgfacpecaaGreatDoorW.PrintLast Go.Proofs.YtmecbmgfacpecaaGreatDoorW.PrintMore
section
variable {P : Program} {ops : Array Oper} {Q : Exit → Act → World → Prop}
theorem goesV_ {oi : Oper} {N : Option Tmp} {a : Act} {w : World} {K : Act → World → Prop} {f : FuncId} {fn : Func} {x : Operand} {xs : Array Operand} {ts : Array TypeId} (hf : P.funcs[f]? = some fn) (hname : (fn.name == "runtime.NumGoroutine") = false) (hb : fn.body.isSome = true) (args cap all : Array Value) (hall : args ++ cap = all)
  (hx : a.eval x = .func (.func f) #[] cap)
  (hw : Region.wanted oi (yielded ops a.tmps) = true) (hN : oi.dst = N) (hop : oi.op = .call { callee := .value x, args := xs, argTypes := ts }) (hargs : xs.map a.eval = args)
  (h : Calls P f all w fun e w' => ∃ v, e = .returned v ∧ K (a.put N v) w') : if Region.wanted oi (yielded ops a.tmps) = true then Oper.wp P oi a w K Q else K (a.put N undef) w := by
 subst hall;refine call_ f (args ++ cap) hw hN ?_ h;have he := enters_ hf hname hb (args ++ cap) w;unfold execOp;simp [hop, resolve, Deferred.ofValue, invoke, hx, hargs, he]
end
def ErrSt (v : Value) (ok : Bool) : Prop := if ok = true then v = .nilIface else ∃ t x, v = .iface t x
theorem errSt_ok {v : Value} {ok : Bool} (h : ErrSt v ok) (e : ok = true) : v = .nilIface := by unfold ErrSt at h; rw [if_pos e] at h; exact h
theorem errSt_bad {v : Value} {ok : Bool} (h : ErrSt v ok) (e : ok = false) : ∃ t x, v = .iface t x := by unfold ErrSt at h; rw [if_neg (by rw [e]; decide)] at h; exact h
theorem closureErr_any (s : ByteArray) (b : Value) (lo hi : Nat) (m : Option Nat) (g : Nat) (t : TypeId) (x : Value) (w : World) (hg : g < w.heap.size) (hc : w.cell? ⟨g, 0, none⟩ = some (.iface t x)) :
  Calls Tryz.prog 104 #[.string s, .agg #[.int .u64 lo, .int .u64 hi, .map m], .pointer (some ⟨g, 0, none⟩)] w fun e w' => e = .returned (.int .u64 0) ∧ Below w.heap.size w w' := by
 go_enter Tryz.func104, Tryz.ntmps104;go_wp2_with fail
 go_ret;exact ⟨rfl, (Below.refl _ _).alloc (Nat.le_refl _) _⟩
def ErrLeft (w w' : World) (g : Nat) (v : Value) : Prop := w'.cell? ⟨g, 0, none⟩ = some v ∧ w'.frozen? ⟨g, 0, none⟩ = false ∧ w.heap.size ≤ w'.heap.size ∧ (∀ b, b < w.heap.size → b ≠ g → w'.heap[b]? = w.heap[b]?) ∧ Below g w w'
theorem errLeft_of {w w1 : World} {g : Nat} (v v0 : Value) (hb : Below w.heap.size w w1) (hg : g < w.heap.size) (hc : w.cell? ⟨g, 0, none⟩ = some v0) (hf : w.frozen? ⟨g, 0, none⟩ = false) : ErrLeft w (w1.setCell ⟨g, 0, none⟩ v) g v := by
 have hc1 : w1.cell? ⟨g, 0, none⟩ = some v0 := (hb.cell (p := ⟨g, 0, none⟩) hg).trans hc;have hf1 : w1.frozen? ⟨g, 0, none⟩ = false := (hb.frozen (p := ⟨g, 0, none⟩) hg).trans hf;refine ⟨by simp [go_sem, hc1], by simp [go_sem, hf1], by simpa using hb.size, fun b h1 h2 => ?_, (hb.mono (Nat.le_of_lt hg)).setCell (Nat.le_refl _) _⟩;rw [heap_setCell_other w1 ⟨g, 0, none⟩ b v h2];exact hb.block b h1
theorem errLeft_same {w w1 : World} {g : Nat} (v0 : Value) (hb : Below w.heap.size w w1) (hg : g < w.heap.size) (hc : w.cell? ⟨g, 0, none⟩ = some v0) (hf : w.frozen? ⟨g, 0, none⟩ = false) : ErrLeft w w1 g v0 :=
 ⟨(hb.cell (p := ⟨g, 0, none⟩) hg).trans hc, (hb.frozen (p := ⟨g, 0, none⟩) hg).trans hf, hb.size, fun b h1 _ => hb.block b h1, hb.mono (Nat.le_of_lt hg)⟩
def ClosureA (w : World) (g : Nat) (ok : Bool) (r : Option Nat) (e : Ending) (w' : World) : Prop :=
 ∃ (n : Int) (v : Value), e = .returned (.int .u64 n) ∧ ErrLeft w w' g v ∧ ErrSt v (ok && r.isSome) ∧ (ok = true → ∀ b, r = some b → n = b)
theorem closureA (m : Option Nat) (val : List UInt8 → Option Nat) (Inv : World → Prop) (hR : Reads m val Inv) (lo hi : Nat) (s : ByteArray) (hs : s.size ≤ 4294967296) (h1 : lo ≤ hi) (h2 : hi ≤ 62) (g : Nat) (w : World) (hI : Inv w)
  (hg : g < w.heap.size) (v0 : Value) (ok : Bool) (hv : ErrSt v0 ok) (hc : w.cell? ⟨g, 0, none⟩ = some v0) (hf : w.frozen? ⟨g, 0, none⟩ = false) :
  Calls Tryz.prog 104 #[.string s, .agg #[.int .u64 lo, .int .u64 hi, .map m], .pointer (some ⟨g, 0, none⟩)] w (ClosureA w g ok (fieldS val lo hi s.data.toList)) := by
 cases ok with
 | true =>
  have := errSt_ok hv rfl;subst this;refine (closure_any m val Inv hR lo hi s hs h1 h2 g w hI hg hc hf).mono ?_;intro e w' h;generalize fieldS val lo hi s.data.toList = r at *;cases r with
  | some b =>
   obtain ⟨rfl, w1, hb, rfl⟩ := h;exact ⟨b, .nilIface, rfl, errLeft_of _ _ hb hg hc hf, rfl, fun _ b' e => by injection e with e; rw [e]⟩
  | none =>
   obtain ⟨n, t, x, rfl, w1, hb, rfl⟩ := h;exact ⟨n, .iface t x, rfl, errLeft_of _ _ hb hg hc hf, ⟨t, x, rfl⟩, fun _ b' e => by cases e⟩
 | false =>
  obtain ⟨t, x, rfl⟩ := errSt_bad hv rfl;refine (closureErr_any s .nilIface lo hi m g t x w hg hc).mono ?_;rintro e w' ⟨rfl, hb⟩;exact ⟨0, .iface t x, rfl, errLeft_same _ hb hg hc hf, ⟨t, x, rfl⟩, fun h => by cases h⟩
abbrev BoundsOf (f : FuncId) (k : Nat) : Prop :=
 ∀ w : World, G w → Calls Tryz.prog f #[] w fun e w' => ∃ (m : Option Nat) (Inv : World → Prop), e = .returned (.agg #[.int .u64 (loK k : Nat), .int .u64 (hiK k : Nat), .map m]) ∧ Reads m (valK k) Inv ∧ Inv w' ∧ Below w.heap.size w w'
theorem bounds0 : BoundsOf 106 0 := fun w hg =>
 (seconds_any w).mono fun e w' ⟨he, hb⟩ => ⟨none, G, he, reads_nil, hg.below hb, hb⟩
theorem bounds1 : BoundsOf 107 1 := fun w hg =>
 (minutes_any w).mono fun e w' ⟨he, hb⟩ => ⟨none, G, he, reads_nil, hg.below hb, hb⟩
theorem bounds2 : BoundsOf 108 2 := fun w hg =>
 (hours_any w).mono fun e w' ⟨he, hb⟩ => ⟨none, G, he, reads_nil, hg.below hb, hb⟩
theorem bounds3 : BoundsOf 109 3 := fun w hg =>
 (dom_any w).mono fun e w' ⟨he, hb⟩ => ⟨none, G, he, reads_nil, hg.below hb, hb⟩
theorem bounds4 : BoundsOf 110 4 := fun w hg =>
 (months_any w).mono fun e w' ⟨r, he, _, hM, hb⟩ => ⟨some r, _, he, reads_named r monthsL months_small, ⟨hg.below hb, hM⟩, hb⟩
theorem bounds5 : BoundsOf 111 5 := fun w hg =>
 (dow_any w).mono fun e w' ⟨r, he, _, hM, hb⟩ => ⟨some r, _, he, reads_named r dowL dow_small, ⟨hg.below hb, hM⟩, hb⟩
def bitsAt (l : List ByteArray) (k : Nat) : Option Nat := fieldS (valK k) (loK k) (hiK k) (l.getD k ⟨#[]⟩).data.toList
def sixS (l : List ByteArray) : Option (List Nat) :=
 match bitsAt l 0, bitsAt l 1, bitsAt l 2, bitsAt l 3, bitsAt l 4, bitsAt l 5 with
 | some a, some b, some c, some d, some e, some f => some [a, b, c, d, e, f]
 | _, _, _, _, _, _ => none
def specCells (l : List Nat) (loc : Option Addr) : Array Value := #[.int .u64 (l.getD 0 0 : Nat), .int .u64 (l.getD 1 0 : Nat), .int .u64 (l.getD 2 0 : Nat), .int .u64 (l.getD 3 0 : Nat), .int .u64 (l.getD 4 0 : Nat), .int .u64 (l.getD 5 0 : Nat), .pointer loc]
def stN (st : Option Nat) : Nat := if st.isSome then 1 else 0
theorem spans_count (p : Nat → Bool) (s : ByteArray) : ∀ (f pos : Nat) (st : Option Nat) (acc : List (Nat × Nat)), (Lib.spansFromP p s f pos st acc).1.length + stN (Lib.spansFromP p s f pos st acc).2 ≤ acc.length + stN st + f
 | 0, _, st, acc => by unfold Lib.spansFromP; simp
 | f + 1, pos, st, acc => by
  unfold Lib.spansFromP;split
  ·split
   ·cases st with
    | some a =>
     have := spans_count p s f (pos + (Utf8.decode s pos).2) none (acc ++ [(a, pos)]);simp only [List.length_append, List.length_singleton] at this;dsimp only;simp only [stN, Option.isSome_some, Option.isSome_none, if_true] at this ⊢
     simp at this;omega
    | none =>
     have := spans_count p s f (pos + (Utf8.decode s pos).2) none acc;dsimp only;omega
   ·cases st with
    | some a =>
     have := spans_count p s f (pos + (Utf8.decode s pos).2) (some a) acc;dsimp only;simp only [stN, Option.isSome_some, if_true] at this ⊢
     omega
    | none =>
     have := spans_count p s f (pos + (Utf8.decode s pos).2) (some pos) acc;dsimp only;simp only [stN, Option.isSome_some, Option.isSome_none, if_true] at this ⊢
     simp;omega
  ·simp
theorem fieldsZ_len (s : ByteArray) : (fieldsZ s).length ≤ s.size := by
 have := spans_count spaceZ s s.size 0 none [];unfold fieldsZ Lib.goFieldsP Lib.spansOfP;rw [List.length_map];generalize Lib.spansFromP spaceZ s s.size 0 none [] = r at *;obtain ⟨acc, st⟩ := r;unfold Lib.closeSpans;cases st with
 | none => simp [stN] at this ⊢; omega
 | some a =>
  simp only [stN, Option.isSome_some, if_true, Option.isSome_none, List.length_nil] at this;simp at this ⊢
  omega
theorem goZ_len (s : ByteArray) (hs : s.size ≤ 4294967296) : (fieldsZ s).length ≤ 4294967296 := Nat.le_trans (fieldsZ_len s) hs
theorem fieldsZ_size (s : ByteArray) (x : ByteArray) (hx : x ∈ fieldsZ s) : x.size ≤ s.size := by
 unfold fieldsZ Lib.goFieldsP at hx;rw [List.mem_map] at hx;obtain ⟨y, _, rfl⟩ := hx;rw [ByteArray.size_extract];omega
theorem fill_size (q : Nat) (N : Nat) (hN : 1 ≤ N) : ∀ (ps : List Nat) (ds fs : List ByteArray), (∀ x ∈ ds, x.size ≤ N) → (∀ x ∈ fs, x.size ≤ N) → ∀ x ∈ fillL q ps ds fs, x.size ≤ N
 | [], _, _, _, _, x, hx => by unfold fillL at hx; cases hx
 | p :: ps, [], _, _, _, x, hx => by unfold fillL at hx; cases hx
 | p :: ps, d :: ds, fs, hd, hf, x, hx => by
  unfold fillL at hx;have hd' : ∀ y ∈ ds, y.size ≤ N := fun y hy => hd y (List.mem_cons_of_mem _ hy)
  split at hx
  ·cases fs with
   | nil =>
    rcases List.mem_cons.1 hx with rfl | hx
    ·exact hd _ (List.mem_cons_self ..)
    ·exact fill_size q N hN ps ds [] hd' hf x hx
   | cons f fs =>
    rcases List.mem_cons.1 hx with rfl | hx
    ·exact hf _ (List.mem_cons_self ..)
    ·exact fill_size q N hN ps ds fs hd' (fun y hy => hf y (List.mem_cons_of_mem _ hy)) x hx
  ·rcases List.mem_cons.1 hx with rfl | hx
   ·exact hd _ (List.mem_cons_self ..)
   ·exact fill_size q N hN ps ds fs hd' hf x hx
theorem norm_size {fs : List ByteArray} {o N : Nat} (hN : 1 ≤ N) (hf : ∀ x ∈ fs, x.size ≤ N) {l : List ByteArray} (h : normF fs o = some l) : ∀ x ∈ l, x.size ≤ N := by
 unfold normF at h;split at h
 ·cases h
 ·split at h
  ·cases h
  ·injection h with h
   rw [← h];refine fill_size _ N hN _ _ _ ?_ ?_
   ·intro x hx
    have : x.size = 1 := by
     unfold defaultsL at hx;simp only [List.mem_cons, List.not_mem_nil, or_false] at hx;rcases hx with rfl | rfl | rfl | rfl | rfl | rfl <;> rfl
    omega
   ·split
    ·split
     ·intro x hx;rcases List.mem_append.1 hx with hx | hx
      ·exact hf x hx
      ·rw [List.mem_singleton.1 hx]; exact hN
     ·intro x hx;rcases List.mem_cons.1 hx with rfl | hx
      ·exact hN
      ·exact hf x hx
    ·exact hf
theorem norm_len {fs : List ByteArray} {o : Nat} {l : List ByteArray} (h : normF fs o = some l) : l.length = 6 := by
 unfold normF at h;split at h
 ·cases h
 ·split at h
  ·cases h
  ·injection h with h
   rw [← h];exact fill_length _ placesL defaultsL _ rfl
structure PSt (w wc : World) (g c ge : Nat) (l : List ByteArray) (x : Value) : Prop where
 txt : Texts wc g 6 c l
 err : wc.cell? ⟨ge, 0, none⟩ = some x
 free : wc.frozen? ⟨ge, 0, none⟩ = false
 lt : ge < wc.heap.size
 ne : g ≠ ge
 bel : Below w.heap.size w wc
 geB : w.heap.size ≤ ge
 gB : w.heap.size ≤ g
theorem PSt.below {w wc w' : World} {g c ge : Nat} {l : List ByteArray} {x : Value} (h : PSt w wc g c ge l x) (hb : Below wc.heap.size wc w') : PSt w w' g c ge l x :=
 ⟨h.txt.below hb, (hb.cell (p := ⟨ge, 0, none⟩) h.lt).trans h.err, (hb.frozen (p := ⟨ge, 0, none⟩) h.lt).trans h.free, Nat.lt_of_lt_of_le h.lt hb.size, h.ne, below_of_le h.bel hb, h.geB, h.gB⟩
theorem PSt.left {w wc w' : World} {g c ge : Nat} {l : List ByteArray} {x v : Value} (h : PSt w wc g c ge l x) (hl : ErrLeft wc w' ge v) : PSt w w' g c ge l v := by
 obtain ⟨h1, h2, h3, h4, h5⟩ := hl;refine ⟨⟨h.txt.len, h.txt.le, Nat.lt_of_lt_of_le h.txt.lt h3, fun i y hy => ?_⟩, h1, h2, Nat.lt_of_lt_of_le h.lt h3, h.ne, h.bel.trans (h5.mono h.geB), h.geB, h.gB⟩;have := h.txt.at_ i y hy;unfold World.cell? at this ⊢
 rw [h4 g h.txt.lt h.ne];exact this
theorem six_some {l : List ByteArray} {a b c d e f : Nat} (h0 : bitsAt l 0 = some a) (h1 : bitsAt l 1 = some b) (h2 : bitsAt l 2 = some c) (h3 : bitsAt l 3 = some d) (h4 : bitsAt l 4 = some e) (h5 : bitsAt l 5 = some f) : sixS l = some [a, b, c, d, e, f] := by
 unfold sixS;rw [h0, h1, h2, h3, h4, h5]
theorem six_none {l : List ByteArray} (h : (((((true && (bitsAt l 0).isSome) && (bitsAt l 1).isSome) && (bitsAt l 2).isSome) && (bitsAt l 3).isSome) && (bitsAt l 4).isSome && (bitsAt l 5).isSome) = false) : sixS l = none := by
 unfold sixS;split
 ·rename_i h0 h1 h2 h3 h4 h5
  rw [h0, h1, h2, h3, h4, h5] at h;cases h
 ·rfl
end Go.Proofs.YtmecbmgfacpecaaGreatDoor.Cron
namespace Go.Proofs.YtmecbmgfacpecaaGreatDoor.Cron
open Go Go.RowKit Go.Proofs.YtmecbmgfacpecaaGreatDoor.Text Go.Proofs.YtmecbmgfacpecaaGreatDoor.Bits Go.Proofs.YtmecbmgfacpecaaGreatDoorW.PrintWords Go.Proofs.YtmecbmgfacpecaaGreatDoorW.PrintLast Go.Proofs.YtmecbmgfacpecaaGreatDoorW.PrintMore Go.Proofs.YtmecbmgfacpecaaGreatDoor.Pr
inductive Got where
 | bits (l : List Nat)
 | delay (d : Int)
def GotAns (r : Option Got) (e : Ending) (w' : World) : Prop := match r with
 | some (.bits l) => ∃ g loc, e = .returned (.tuple #[.iface 169 (.pointer (some ⟨g, 0, none⟩)), .nilIface]) ∧ w'.heap[g]? = some (.cells (specCells l loc) 171 (0, 0))
 | some (.delay d) => e = .returned (.tuple #[.iface 174 (.agg #[.int .i64 d]), .nilIface])
 | none => ∃ t x, e = .returned (.tuple #[.nilIface, .iface t x])
def everyD (d : Int) : Int := if d < 1000000000 then 1000000000 else d / 1000000000 * 1000000000
theorem every_f (d : Int) (h : d ≤ 9223372036854775807) : cron_Every.f d = some (everyD d) := by
 unfold cron_Every.f everyD;by_cases h1 : d < 1000000000
 ·rw [if_pos h1, if_pos h1];decide +kernel
 ·rw [if_neg h1, if_neg h1];show some (wrap64 (d - Int.tmod d 1000000000)) = _
  rw [Int.tmod_eq_emod_of_nonneg (by omega)];congr 1
  unfold wrap64;omega
theorem durF_le {l : List UInt8} {d : Int} (h : Dur.durF l = some d) : d ≤ 9223372036854775807 := by
 unfold Dur.durF at h;split at h
 ·cases h; decide
 ·split at h
  ·cases h
  ·unfold Dur.finF at h;split at h
   ·cases h
   ·split at h
    ·cases h
     split <;> omega
    ·split at h
     ·cases h
     ·cases h
      omega
def allN (k : Nat) : Int := if k = 2 then 9223372036871553023 else if k = 3 then 9223372041149743102 else if k = 4 then 9223372036854783998 else 9223372036854775935
theorem allN_bits (k : Nat) (hk : k = 2 ∨ k = 3 ∨ k = 4 ∨ k = 5) : Go.bits .or .u64 (steps (loK k) (hiK k) 1 : Nat) 9223372036854775808 = allN k := by
 rcases hk with rfl | rfl | rfl | rfl <;> decide +kernel
theorem allN_any (k : Nat) (hk : k = 2 ∨ k = 3 ∨ k = 4 ∨ k = 5) (r : Option Nat) (w : World) : Calls Tryz.prog 145 #[.agg #[.int .u64 (loK k : Nat), .int .u64 (hiK k : Nat), .map r]] w fun e w' => e = .returned (.int .u64 (allN k)) ∧ Below w.heap.size w w' := by
 have HG := Lib.hid (fun w' => getBits_any (loK k) (hiK k) 1 (by rcases hk with rfl | rfl | rfl | rfl <;> decide) (by rcases hk with rfl | rfl | rfl | rfl <;> decide) (by omega) (by omega) w');have HA := Lib.hid (allN_bits k hk);go_enter Tryz.func145, Tryz.ntmps145;go_wp2_with fail
 refine (HG.out _).mono ?_;rintro e w1 ⟨rfl, rfl⟩;go_wp2_with fail
 go_ret;exact ⟨by rw [← HA.out]; rfl, (Below.refl _ _).alloc (Nat.le_refl _) _⟩
def descB (l : List UInt8) : Option (List Nat) :=
 if l = [64, 121, 101, 97, 114, 108, 121] ∨ l = [64, 97, 110, 110, 117, 97, 108, 108, 121] then some [1, 1, 1, 2, 2, 9223372036854775935] else
 if l = [64, 109, 111, 110, 116, 104, 108, 121] then some [1, 1, 1, 2, 9223372036854783998, 9223372036854775935] else
 if l = [64, 119, 101, 101, 107, 108, 121] then some [1, 1, 1, 9223372041149743102, 9223372036854783998, 1] else
 if l = [64, 100, 97, 105, 108, 121] ∨ l = [64, 109, 105, 100, 110, 105, 103, 104, 116] then some [1, 1, 1, 9223372041149743102, 9223372036854783998, 9223372036854775935] else
 if l = [64, 104, 111, 117, 114, 108, 121] then some [1, 1, 9223372036871553023, 9223372041149743102, 9223372036854783998, 9223372036854775935] else
 none
def descS (l : List UInt8) : Option Got := match descB l with
 | some b => some (.bits b)
 | none => if Lib.hasPrefix l [64, 101, 118, 101, 114, 121, 32] = true then (Dur.durF (l.drop 7)).map (fun d => .delay (everyD d)) else none
theorem run_field_min (lo hi : Int) (m : Option Nat) (w : World) : (Instr.field 185 (.agg #[.int .u64 lo, .int .u64 hi, .map m]) 0).run Tryz.prog w = .ok (.int .u64 lo) w := by kernel_rfl
theorem prefix_len {l p : List UInt8} (h : Lib.hasPrefix l p = true) : p.length ≤ l.length := by
 unfold Lib.hasPrefix at h;exact (List.isPrefixOf_iff_prefix.1 h).length_le
set_option maxRecDepth 100000 in
set_option maxHeartbeats 4000000 in
theorem desc_any (l : List UInt8) (hl : l.length ≤ 4294967296) (loc : Option Addr) (w : World) (hg : GE w) :
  Calls Tryz.prog 101 #[.string (ba l), .pointer loc] w fun e w' => GotAns (descS l) e w' ∧ Below w.heap.size w w' := by
 have hfm := run_field_min;have C0 := Lib.hid (fun w' => seconds_any w');have C1 := Lib.hid (fun w' => minutes_any w');have C2 := Lib.hid (fun w' => hours_any w');have C3 := Lib.hid (fun w' => dom_any w');have C4 := Lib.hid (fun w' => months_any w');have C5 := Lib.hid (fun w' => dow_any w');have D2 : Hid (∀ (r : Option Nat) (w' : World), Calls Tryz.prog 145 #[.agg #[.int .u64 0, .int .u64 23, .map r]] w' fun e w2 => e = .returned (.int .u64 9223372036871553023) ∧ Below w'.heap.size w' w2) := Lib.hid (fun r w' => allN_any 2 (by omega) r w');have D3 : Hid (∀ (r : Option Nat) (w' : World), Calls Tryz.prog 145 #[.agg #[.int .u64 1, .int .u64 31, .map r]] w' fun e w2 => e = .returned (.int .u64 9223372041149743102) ∧ Below w'.heap.size w' w2) := Lib.hid (fun r w' => allN_any 3 (by omega) r w');have D4 : Hid (∀ (r : Option Nat) (w' : World), Calls Tryz.prog 145 #[.agg #[.int .u64 1, .int .u64 12, .map r]] w' fun e w2 => e = .returned (.int .u64 9223372036854783998) ∧ Below w'.heap.size w' w2) := Lib.hid (fun r w' => allN_any 4 (by omega) r w');have D5 : Hid (∀ (r : Option Nat) (w' : World), Calls Tryz.prog 145 #[.agg #[.int .u64 0, .int .u64 6, .map r]] w' fun e w2 => e = .returned (.int .u64 9223372036854775935) ∧ Below w'.heap.size w' w2) := Lib.hid (fun r w' => allN_any 5 (by omega) r w');by_cases e0 : l = [64, 121, 101, 97, 114, 108, 121]
 ·have q0 : (ba l).toList = [64, 121, 101, 97, 114, 108, 121] := by rw [toList_data, ba_list]; exact e0
  have HT : Hid (descS l = some (.bits [1, 1, 1, 2, 2, 9223372036854775935])) := Lib.hid (by rw [e0]; rfl);clear hl hg e0;go_enter Tryz.func101, Tryz.ntmps101;have HB0 : Hid (Below w.heap.size w w) := Lib.hid (Below.refl _ _);go_wp2_with fail
  refine (C0.out _).mono ?_;rintro e w1 ⟨rfl, hb⟩;have HB1 := Lib.hid (below_of_le HB0.out hb);clear hb HB0;go_wp2_with fail
  refine (C1.out _).mono ?_;rintro e w2 ⟨rfl, hb⟩;have HB2 := Lib.hid (below_of_le HB1.out hb);clear hb HB1;go_wp2_with fail
  refine (C2.out _).mono ?_;rintro e w3 ⟨rfl, hb⟩;have HB3 := Lib.hid (below_of_le HB2.out hb);clear hb HB2;go_wp2_with fail
  refine (C3.out _).mono ?_;rintro e w4 ⟨rfl, hb⟩;have HB4 := Lib.hid (below_of_le HB3.out hb);clear hb HB3;go_wp2_with fail
  refine (C4.out _).mono ?_;rintro e w5 ⟨r4, rfl, -, -, hb⟩;have HB5 := Lib.hid (below_of_le HB4.out hb);clear hb HB4;go_wp2_with fail
  refine (C5.out _).mono ?_;rintro e w6 ⟨r5, rfl, -, -, hb⟩;have HB6 := Lib.hid (below_of_le HB5.out hb);clear hb HB5;go_wp2_with fail
  refine (D5.out (some r5) _).mono ?_;rintro e w7 ⟨rfl, hb⟩;have HB7 := Lib.hid (below_of_le HB6.out hb);clear hb HB6;go_wp2_with fail
  go_ret2;refine ⟨?_, HB7.out.alloc HB7.out.size _⟩;rw [HT.out];exact ⟨w7.heap.size, loc, rfl, heap_alloc_new w7 _⟩
 have n0 : ¬ (ba l).toList = [64, 121, 101, 97, 114, 108, 121] := by rw [toList_data, ba_list]; exact e0
 have m0 : ((ba l).toList == [64, 121, 101, 97, 114, 108, 121]) = false := by rw [beq_eq_false_iff_ne]; exact n0
 by_cases e1 : l = [64, 97, 110, 110, 117, 97, 108, 108, 121]
 ·have q1 : (ba l).toList = [64, 97, 110, 110, 117, 97, 108, 108, 121] := by rw [toList_data, ba_list]; exact e1
  have HT : Hid (descS l = some (.bits [1, 1, 1, 2, 2, 9223372036854775935])) := Lib.hid (by rw [e1]; rfl);clear hl hg e1 e0;go_enter Tryz.func101, Tryz.ntmps101;have HB0 : Hid (Below w.heap.size w w) := Lib.hid (Below.refl _ _);go_wp2_with fail
  refine (C0.out _).mono ?_;rintro e w1 ⟨rfl, hb⟩;have HB1 := Lib.hid (below_of_le HB0.out hb);clear hb HB0;go_wp2_with fail
  refine (C1.out _).mono ?_;rintro e w2 ⟨rfl, hb⟩;have HB2 := Lib.hid (below_of_le HB1.out hb);clear hb HB1;go_wp2_with fail
  refine (C2.out _).mono ?_;rintro e w3 ⟨rfl, hb⟩;have HB3 := Lib.hid (below_of_le HB2.out hb);clear hb HB2;go_wp2_with fail
  refine (C3.out _).mono ?_;rintro e w4 ⟨rfl, hb⟩;have HB4 := Lib.hid (below_of_le HB3.out hb);clear hb HB3;go_wp2_with fail
  refine (C4.out _).mono ?_;rintro e w5 ⟨r4, rfl, -, -, hb⟩;have HB5 := Lib.hid (below_of_le HB4.out hb);clear hb HB4;go_wp2_with fail
  refine (C5.out _).mono ?_;rintro e w6 ⟨r5, rfl, -, -, hb⟩;have HB6 := Lib.hid (below_of_le HB5.out hb);clear hb HB5;go_wp2_with fail
  refine (D5.out (some r5) _).mono ?_;rintro e w7 ⟨rfl, hb⟩;have HB7 := Lib.hid (below_of_le HB6.out hb);clear hb HB6;go_wp2_with fail
  go_ret2;refine ⟨?_, HB7.out.alloc HB7.out.size _⟩;rw [HT.out];exact ⟨w7.heap.size, loc, rfl, heap_alloc_new w7 _⟩
 have n1 : ¬ (ba l).toList = [64, 97, 110, 110, 117, 97, 108, 108, 121] := by rw [toList_data, ba_list]; exact e1
 have m1 : ((ba l).toList == [64, 97, 110, 110, 117, 97, 108, 108, 121]) = false := by rw [beq_eq_false_iff_ne]; exact n1
 by_cases e2 : l = [64, 109, 111, 110, 116, 104, 108, 121]
 ·have q2 : (ba l).toList = [64, 109, 111, 110, 116, 104, 108, 121] := by rw [toList_data, ba_list]; exact e2
  have HT : Hid (descS l = some (.bits [1, 1, 1, 2, 9223372036854783998, 9223372036854775935])) := Lib.hid (by rw [e2]; rfl);clear hl hg e2 e0 e1;go_enter Tryz.func101, Tryz.ntmps101;have HB0 : Hid (Below w.heap.size w w) := Lib.hid (Below.refl _ _);go_wp2_with fail
  refine (C0.out _).mono ?_;rintro e w1 ⟨rfl, hb⟩;have HB1 := Lib.hid (below_of_le HB0.out hb);clear hb HB0;go_wp2_with fail
  refine (C1.out _).mono ?_;rintro e w2 ⟨rfl, hb⟩;have HB2 := Lib.hid (below_of_le HB1.out hb);clear hb HB1;go_wp2_with fail
  refine (C2.out _).mono ?_;rintro e w3 ⟨rfl, hb⟩;have HB3 := Lib.hid (below_of_le HB2.out hb);clear hb HB2;go_wp2_with fail
  refine (C3.out _).mono ?_;rintro e w4 ⟨rfl, hb⟩;have HB4 := Lib.hid (below_of_le HB3.out hb);clear hb HB3;go_wp2_with fail
  refine (C4.out _).mono ?_;rintro e w5 ⟨r4, rfl, -, -, hb⟩;have HB5 := Lib.hid (below_of_le HB4.out hb);clear hb HB4;go_wp2_with fail
  refine (D4.out (some r4) _).mono ?_;rintro e w6 ⟨rfl, hb⟩;have HB6 := Lib.hid (below_of_le HB5.out hb);clear hb HB5;go_wp2_with fail
  refine (C5.out _).mono ?_;rintro e w7 ⟨r5, rfl, -, -, hb⟩;have HB7 := Lib.hid (below_of_le HB6.out hb);clear hb HB6;go_wp2_with fail
  refine (D5.out (some r5) _).mono ?_;rintro e w8 ⟨rfl, hb⟩;have HB8 := Lib.hid (below_of_le HB7.out hb);clear hb HB7;go_wp2_with fail
  go_ret2;refine ⟨?_, HB8.out.alloc HB8.out.size _⟩;rw [HT.out];exact ⟨w8.heap.size, loc, rfl, heap_alloc_new w8 _⟩
 have n2 : ¬ (ba l).toList = [64, 109, 111, 110, 116, 104, 108, 121] := by rw [toList_data, ba_list]; exact e2
 have m2 : ((ba l).toList == [64, 109, 111, 110, 116, 104, 108, 121]) = false := by rw [beq_eq_false_iff_ne]; exact n2
 by_cases e3 : l = [64, 119, 101, 101, 107, 108, 121]
 ·have q3 : (ba l).toList = [64, 119, 101, 101, 107, 108, 121] := by rw [toList_data, ba_list]; exact e3
  have HT : Hid (descS l = some (.bits [1, 1, 1, 9223372041149743102, 9223372036854783998, 1])) := Lib.hid (by rw [e3]; rfl);clear hl hg e3 e0 e1 e2;go_enter Tryz.func101, Tryz.ntmps101;have HB0 : Hid (Below w.heap.size w w) := Lib.hid (Below.refl _ _);go_wp2_with fail
  refine (C0.out _).mono ?_;rintro e w1 ⟨rfl, hb⟩;have HB1 := Lib.hid (below_of_le HB0.out hb);clear hb HB0;go_wp2_with fail
  refine (C1.out _).mono ?_;rintro e w2 ⟨rfl, hb⟩;have HB2 := Lib.hid (below_of_le HB1.out hb);clear hb HB1;go_wp2_with fail
  refine (C2.out _).mono ?_;rintro e w3 ⟨rfl, hb⟩;have HB3 := Lib.hid (below_of_le HB2.out hb);clear hb HB2;go_wp2_with fail
  refine (C3.out _).mono ?_;rintro e w4 ⟨rfl, hb⟩;have HB4 := Lib.hid (below_of_le HB3.out hb);clear hb HB3;go_wp2_with fail
  refine (D3.out none _).mono ?_;rintro e w5 ⟨rfl, hb⟩;have HB5 := Lib.hid (below_of_le HB4.out hb);clear hb HB4;go_wp2_with fail
  refine (C4.out _).mono ?_;rintro e w6 ⟨r4, rfl, -, -, hb⟩;have HB6 := Lib.hid (below_of_le HB5.out hb);clear hb HB5;go_wp2_with fail
  refine (D4.out (some r4) _).mono ?_;rintro e w7 ⟨rfl, hb⟩;have HB7 := Lib.hid (below_of_le HB6.out hb);clear hb HB6;go_wp2_with fail
  refine (C5.out _).mono ?_;rintro e w8 ⟨r5, rfl, -, -, hb⟩;have HB8 := Lib.hid (below_of_le HB7.out hb);clear hb HB7;go_wp2_with fail
  go_ret2;refine ⟨?_, HB8.out.alloc HB8.out.size _⟩;rw [HT.out];exact ⟨w8.heap.size, loc, rfl, heap_alloc_new w8 _⟩
 have n3 : ¬ (ba l).toList = [64, 119, 101, 101, 107, 108, 121] := by rw [toList_data, ba_list]; exact e3
 have m3 : ((ba l).toList == [64, 119, 101, 101, 107, 108, 121]) = false := by rw [beq_eq_false_iff_ne]; exact n3
 by_cases e4 : l = [64, 100, 97, 105, 108, 121]
 ·have q4 : (ba l).toList = [64, 100, 97, 105, 108, 121] := by rw [toList_data, ba_list]; exact e4
  have HT : Hid (descS l = some (.bits [1, 1, 1, 9223372041149743102, 9223372036854783998, 9223372036854775935])) := Lib.hid (by rw [e4]; rfl);clear hl hg e4 e0 e1 e2 e3;go_enter Tryz.func101, Tryz.ntmps101;have HB0 : Hid (Below w.heap.size w w) := Lib.hid (Below.refl _ _);go_wp2_with fail
  refine (C0.out _).mono ?_;rintro e w1 ⟨rfl, hb⟩;have HB1 := Lib.hid (below_of_le HB0.out hb);clear hb HB0;go_wp2_with fail
  refine (C1.out _).mono ?_;rintro e w2 ⟨rfl, hb⟩;have HB2 := Lib.hid (below_of_le HB1.out hb);clear hb HB1;go_wp2_with fail
  refine (C2.out _).mono ?_;rintro e w3 ⟨rfl, hb⟩;have HB3 := Lib.hid (below_of_le HB2.out hb);clear hb HB2;go_wp2_with fail
  refine (C3.out _).mono ?_;rintro e w4 ⟨rfl, hb⟩;have HB4 := Lib.hid (below_of_le HB3.out hb);clear hb HB3;go_wp2_with fail
  refine (D3.out none _).mono ?_;rintro e w5 ⟨rfl, hb⟩;have HB5 := Lib.hid (below_of_le HB4.out hb);clear hb HB4;go_wp2_with fail
  refine (C4.out _).mono ?_;rintro e w6 ⟨r4, rfl, -, -, hb⟩;have HB6 := Lib.hid (below_of_le HB5.out hb);clear hb HB5;go_wp2_with fail
  refine (D4.out (some r4) _).mono ?_;rintro e w7 ⟨rfl, hb⟩;have HB7 := Lib.hid (below_of_le HB6.out hb);clear hb HB6;go_wp2_with fail
  refine (C5.out _).mono ?_;rintro e w8 ⟨r5, rfl, -, -, hb⟩;have HB8 := Lib.hid (below_of_le HB7.out hb);clear hb HB7;go_wp2_with fail
  refine (D5.out (some r5) _).mono ?_;rintro e w9 ⟨rfl, hb⟩;have HB9 := Lib.hid (below_of_le HB8.out hb);clear hb HB8;go_wp2_with fail
  go_ret2;refine ⟨?_, HB9.out.alloc HB9.out.size _⟩;rw [HT.out];exact ⟨w9.heap.size, loc, rfl, heap_alloc_new w9 _⟩
 have n4 : ¬ (ba l).toList = [64, 100, 97, 105, 108, 121] := by rw [toList_data, ba_list]; exact e4
 have m4 : ((ba l).toList == [64, 100, 97, 105, 108, 121]) = false := by rw [beq_eq_false_iff_ne]; exact n4
 by_cases e5 : l = [64, 109, 105, 100, 110, 105, 103, 104, 116]
 ·have q5 : (ba l).toList = [64, 109, 105, 100, 110, 105, 103, 104, 116] := by rw [toList_data, ba_list]; exact e5
  have HT : Hid (descS l = some (.bits [1, 1, 1, 9223372041149743102, 9223372036854783998, 9223372036854775935])) := Lib.hid (by rw [e5]; rfl);clear hl hg e5 e0 e1 e2 e3 e4;go_enter Tryz.func101, Tryz.ntmps101;have HB0 : Hid (Below w.heap.size w w) := Lib.hid (Below.refl _ _);go_wp2_with fail
  refine (C0.out _).mono ?_;rintro e w1 ⟨rfl, hb⟩;have HB1 := Lib.hid (below_of_le HB0.out hb);clear hb HB0;go_wp2_with fail
  refine (C1.out _).mono ?_;rintro e w2 ⟨rfl, hb⟩;have HB2 := Lib.hid (below_of_le HB1.out hb);clear hb HB1;go_wp2_with fail
  refine (C2.out _).mono ?_;rintro e w3 ⟨rfl, hb⟩;have HB3 := Lib.hid (below_of_le HB2.out hb);clear hb HB2;go_wp2_with fail
  refine (C3.out _).mono ?_;rintro e w4 ⟨rfl, hb⟩;have HB4 := Lib.hid (below_of_le HB3.out hb);clear hb HB3;go_wp2_with fail
  refine (D3.out none _).mono ?_;rintro e w5 ⟨rfl, hb⟩;have HB5 := Lib.hid (below_of_le HB4.out hb);clear hb HB4;go_wp2_with fail
  refine (C4.out _).mono ?_;rintro e w6 ⟨r4, rfl, -, -, hb⟩;have HB6 := Lib.hid (below_of_le HB5.out hb);clear hb HB5;go_wp2_with fail
  refine (D4.out (some r4) _).mono ?_;rintro e w7 ⟨rfl, hb⟩;have HB7 := Lib.hid (below_of_le HB6.out hb);clear hb HB6;go_wp2_with fail
  refine (C5.out _).mono ?_;rintro e w8 ⟨r5, rfl, -, -, hb⟩;have HB8 := Lib.hid (below_of_le HB7.out hb);clear hb HB7;go_wp2_with fail
  refine (D5.out (some r5) _).mono ?_;rintro e w9 ⟨rfl, hb⟩;have HB9 := Lib.hid (below_of_le HB8.out hb);clear hb HB8;go_wp2_with fail
  go_ret2;refine ⟨?_, HB9.out.alloc HB9.out.size _⟩;rw [HT.out];exact ⟨w9.heap.size, loc, rfl, heap_alloc_new w9 _⟩
 have n5 : ¬ (ba l).toList = [64, 109, 105, 100, 110, 105, 103, 104, 116] := by rw [toList_data, ba_list]; exact e5
 have m5 : ((ba l).toList == [64, 109, 105, 100, 110, 105, 103, 104, 116]) = false := by rw [beq_eq_false_iff_ne]; exact n5
 by_cases e6 : l = [64, 104, 111, 117, 114, 108, 121]
 ·have q6 : (ba l).toList = [64, 104, 111, 117, 114, 108, 121] := by rw [toList_data, ba_list]; exact e6
  have HT : Hid (descS l = some (.bits [1, 1, 9223372036871553023, 9223372041149743102, 9223372036854783998, 9223372036854775935])) := Lib.hid (by rw [e6]; rfl);clear hl hg e6 e0 e1 e2 e3 e4 e5;go_enter Tryz.func101, Tryz.ntmps101;have HB0 : Hid (Below w.heap.size w w) := Lib.hid (Below.refl _ _);go_wp2_with fail
  refine (C0.out _).mono ?_;rintro e w1 ⟨rfl, hb⟩;have HB1 := Lib.hid (below_of_le HB0.out hb);clear hb HB0;go_wp2_with fail
  refine (C1.out _).mono ?_;rintro e w2 ⟨rfl, hb⟩;have HB2 := Lib.hid (below_of_le HB1.out hb);clear hb HB1;go_wp2_with fail
  refine (C2.out _).mono ?_;rintro e w3 ⟨rfl, hb⟩;have HB3 := Lib.hid (below_of_le HB2.out hb);clear hb HB2;go_wp2_with fail
  refine (D2.out none _).mono ?_;rintro e w4 ⟨rfl, hb⟩;have HB4 := Lib.hid (below_of_le HB3.out hb);clear hb HB3;go_wp2_with fail
  refine (C3.out _).mono ?_;rintro e w5 ⟨rfl, hb⟩;have HB5 := Lib.hid (below_of_le HB4.out hb);clear hb HB4;go_wp2_with fail
  refine (D3.out none _).mono ?_;rintro e w6 ⟨rfl, hb⟩;have HB6 := Lib.hid (below_of_le HB5.out hb);clear hb HB5;go_wp2_with fail
  refine (C4.out _).mono ?_;rintro e w7 ⟨r4, rfl, -, -, hb⟩;have HB7 := Lib.hid (below_of_le HB6.out hb);clear hb HB6;go_wp2_with fail
  refine (D4.out (some r4) _).mono ?_;rintro e w8 ⟨rfl, hb⟩;have HB8 := Lib.hid (below_of_le HB7.out hb);clear hb HB7;go_wp2_with fail
  refine (C5.out _).mono ?_;rintro e w9 ⟨r5, rfl, -, -, hb⟩;have HB9 := Lib.hid (below_of_le HB8.out hb);clear hb HB8;go_wp2_with fail
  refine (D5.out (some r5) _).mono ?_;rintro e w10 ⟨rfl, hb⟩;have HB10 := Lib.hid (below_of_le HB9.out hb);clear hb HB9;go_wp2_with fail
  go_ret2;refine ⟨?_, HB10.out.alloc HB10.out.size _⟩;rw [HT.out];exact ⟨w10.heap.size, loc, rfl, heap_alloc_new w10 _⟩
 have n6 : ¬ (ba l).toList = [64, 104, 111, 117, 114, 108, 121] := by rw [toList_data, ba_list]; exact e6
 have m6 : ((ba l).toList == [64, 104, 111, 117, 114, 108, 121]) = false := by rw [beq_eq_false_iff_ne]; exact n6
 have hdB : descB l = none := by
  unfold descB;rw [if_neg (fun h => h.elim e0 e1), if_neg e2, if_neg e3, if_neg (fun h => h.elim e4 e5), if_neg e6]
 clear C0 C1 C2 C3 C4 C5 D2 D3 D4 D5 e0 e1 e2 e3 e4 e5 e6;cases hpre : Lib.hasPrefix l [64, 101, 118, 101, 114, 121, 32] with
 | false =>
  have HP : Hid (∀ w' : World, Calls Tryz.prog 97 #[.string (ba l), .string ⟨#[64, 101, 118, 101, 114, 121, 32]⟩] w' fun e w'' => e = .returned (.bool false) ∧ w' = w'') := Lib.hid fun w' => (Tryz.strings_HasPrefix (ba l) ⟨#[64, 101, 118, 101, 114, 121, 32]⟩ w').mono fun e w'' hh => ⟨hh.1.trans (by rw [show (⟨#[64, 101, 118, 101, 114, 121, 32]⟩ : ByteArray).data.toList = [64, 101, 118, 101, 114, 121, 32] from rfl, ba_list, hpre]), hh.2.symm⟩
  have HT : Hid (descS l = none) := Lib.hid (by unfold descS; rw [hdB]; simp only [hpre]; rfl);clear hpre hdB hl hg;go_enter Tryz.func101, Tryz.ntmps101;go_wp2_with fail
  refine (HP.out _).mono ?_;rintro e w1 ⟨rfl, rfl⟩;go_wp2_with fail
  refine (errorsNew_any _ _).mono ?_;rintro e w1 ⟨t, x, rfl, hb⟩;go_wp2_with fail
  go_ret2;refine ⟨?_, hb⟩;rw [HT.out];exact ⟨t, x, rfl⟩
 | true =>
  have HP : Hid (∀ w' : World, Calls Tryz.prog 97 #[.string (ba l), .string ⟨#[64, 101, 118, 101, 114, 121, 32]⟩] w' fun e w'' => e = .returned (.bool true) ∧ w' = w'') := Lib.hid fun w' => (Tryz.strings_HasPrefix (ba l) ⟨#[64, 101, 118, 101, 114, 121, 32]⟩ w').mono fun e w'' hh => ⟨hh.1.trans (by rw [show (⟨#[64, 101, 118, 101, 114, 121, 32]⟩ : ByteArray).data.toList = [64, 101, 118, 101, 114, 121, 32] from rfl, ba_list, hpre]), hh.2.symm⟩
  have hle := prefix_len hpre;have hsl : ∀ w' : World, (Instr.slice 9 (.string (ba l)) (some (.int .i64 7)) none none).run Tryz.prog w' = .ok (.string (ba (l.drop 7))) w' := fun w' => str_from l 7 hle w'
  have HPD := Lib.hid (fun w' h => parseDur_any (l.drop 7) (by rw [List.length_drop]; omega) w' h);have HT : Hid (descS l = (Dur.durF (l.drop 7)).map (fun d => .delay (everyD d))) := Lib.hid (by unfold descS; rw [hdB]; simp only [hpre]; rfl);have HE : Hid (∀ d, Dur.durF (l.drop 7) = some d → d ≤ 9223372036854775807) := Lib.hid fun d h => durF_le h
  generalize Dur.durF (l.drop 7) = rd at *;generalize ba (l.drop 7) = sd at *;clear hpre hdB hl hle;go_enter Tryz.func101, Tryz.ntmps101;go_wp2_with fail
  refine (HP.out _).mono ?_;rintro e w1 ⟨rfl, rfl⟩;go_wp2_with fail
  refine (HPD.out _ hg).mono ?_;rintro e w1 ⟨hd, hb1⟩;cases rd with
  | none =>
   obtain ⟨t, x, rfl⟩ := hd;go_wp2_with fail
   refine (errorsNew_any _ _).mono ?_;rintro e w2 ⟨t2, x2, rfl, hb⟩;go_wp2_with fail
   go_ret2;refine ⟨?_, below_of_le hb1 hb⟩;rw [HT.out];exact ⟨t2, x2, rfl⟩
  | some d =>
   obtain rfl := hd;have HEV := Lib.hid (fun w' => cron_Every.calls d _ w' (every_f d (HE.out d rfl)));go_wp2_with fail
   refine (HEV.out _).mono ?_;rintro e w2 ⟨rfl, hb⟩;go_wp2_with fail
   go_ret2;refine ⟨?_, below_of_le hb1 hb⟩;rw [HT.out];exact rfl
end Go.Proofs.YtmecbmgfacpecaaGreatDoor.Cron
namespace Go.Proofs.YtmecbmgfacpecaaGreatDoor.Cron
open Go Go.RowKit Go.Proofs.YtmecbmgfacpecaaGreatDoor.Text Go.Proofs.YtmecbmgfacpecaaGreatDoorW.PrintWords Go.Proofs.YtmecbmgfacpecaaGreatDoorW.PrintLast Go.Proofs.YtmecbmgfacpecaaGreatDoorW.PrintMore Go.Proofs.YtmecbmgfacpecaaGreatDoor.Pr
def GL (w : World) : Prop := ∃ tp p, w.var? Tryz.prog "pub-timebook/pub/gotime.errLocation" = some #[.iface tp p]
theorem gLocation : Tryz.prog.globalNamed "pub-timebook/pub/gotime.errLocation" = some 0 := by kernel_rfl
theorem GL.below {w w' : World} (h : GL w) (hb : Below w.heap.size w w') : GL w' := by
 obtain ⟨t, p, h1⟩ := h;exact ⟨t, p, var?_below hb gLocation (lt_of_var gLocation h1) h1⟩
theorem GL.cell {w : World} (h : GL w) : ∃ tp p, w.cell? ⟨0, 0, none⟩ = some (.iface tp p) := by
 obtain ⟨t, p, h1⟩ := h;exact ⟨t, p, by simpa using World.var?_cell gLocation h1 0⟩
theorem GL.lt {w : World} (h : GL w) : 0 < w.heap.size := by
 obtain ⟨t, p, h1⟩ := h;exact lt_of_var gLocation h1
def dotsFrom : List UInt8 → Bool
 | a :: b :: r => (a == 46 && b == 46) || dotsFrom (b :: r)
 | _ => false
theorem dots_l0 (s : ByteArray) (hs : s.size ≤ 4294967296) (h2 : 2 ≤ s.size) : ∀ (d i k : Nat), s.size - 1 - i = d → i + 1 ≤ s.size → d < k → gotime_containsDotDot.l0 k s (i : Int) = some (dotsFrom (s.data.toList.drop i))
 | 0, i, k, hd, hi, hk => by
  obtain ⟨k, rfl⟩ : ∃ m, k = m + 1 := ⟨k - 1, by omega⟩
  unfold gotime_containsDotDot.l0
  have hw : wrap64 ((s.size : Int) - 1) = ((s.size - 1 : Nat) : Int) := by
   unfold wrap64;omega
  have hl : (s.data.toList.drop i).length = 1 := by rw [List.length_drop, ← size_list]; omega
  obtain ⟨x, hx⟩ := List.length_eq_one_iff.1 hl;rw [hw, if_neg (by omega), hx];rfl
 | d + 1, i, k, hd, hi, hk => by
  obtain ⟨k, rfl⟩ : ∃ m, k = m + 1 := ⟨k - 1, by omega⟩
  have hw : wrap64 ((s.size : Int) - 1) = ((s.size - 1 : Nat) : Int) := by
   unfold wrap64;omega
  have hw1 : wrap64 ((i : Int) + 1) = ((i + 1 : Nat) : Int) := by
   unfold wrap64;omega
  have hl : i < s.data.toList.length := by rw [← size_list]; omega
  have hl1 : i + 1 < s.data.toList.length := by rw [← size_list]; omega
  have e : s.data.toList.drop i = s.data.toList[i] :: s.data.toList[i + 1] :: s.data.toList.drop (i + 2) := by
   rw [List.drop_eq_getElem_cons hl, List.drop_eq_getElem_cons hl1]
  have e1 : s.data.toList.drop (i + 1) = s.data.toList[i + 1] :: s.data.toList.drop (i + 2) := List.drop_eq_getElem_cons hl1;have ih := dots_l0 s hs h2 d (i + 1) k (by omega) (by omega) (by omega);have hbt := bt_list s i hl;have hbt1 := bt_list s (i + 1) hl1;rw [e1] at ih;unfold gotime_containsDotDot.l0;rw [hw, if_pos (by omega), if_pos (by omega), if_pos (by omega), hbt, e];generalize s.data.toList[i] = a at *;generalize s.data.toList[i + 1] = b at *;generalize s.data.toList.drop (i + 2) = r at *
  have key : ∀ x : UInt8, (((x.toNat : Nat) : Int) = 46) = (x = 46) := fun x => by
   apply propext
   constructor
   ·intro h;exact UInt8.toNat_inj.1 (by show x.toNat = 46; omega)
   ·rintro rfl;rfl
  by_cases ha : a = 46
  ·rw [if_pos (by rw [key]; exact ha), hw1, if_pos (by omega), if_pos (by omega), hbt1];by_cases hb : b = 46
   ·rw [if_pos (by rw [key]; exact hb), dotsFrom, ha, hb];rfl
   ·rw [if_neg (by rw [key]; exact hb), ih, dotsFrom];simp [hb]
  ·rw [if_neg (by rw [key]; exact ha), hw1, ih, dotsFrom];simp [ha]
theorem dots_f (s : ByteArray) (hs : s.size ≤ 4294967296) : gotime_containsDotDot.f (s.size + 1) s = some (dotsFrom s.data.toList) := by
 unfold gotime_containsDotDot.f;by_cases h : (s.size : Int) < 2
 ·rw [if_pos h];have := size_list s;generalize s.data.toList = l at *;rcases l with _ | ⟨a, _ | ⟨b, r⟩⟩
  ·rfl
  ·rfl
  ·simp at this;omega
 ·rw [if_neg h];exact dots_l0 s hs (by omega) _ 0 _ rfl (by omega) (by omega)
def zoneOk (l : List UInt8) : Bool := decide (l = []) || decide (l = [85, 84, 67]) || decide (l = [76, 111, 99, 97, 108])
def LoadAns (b : Bool) (e : Ending) : Prop := if b = true then ∃ loc : Option Addr, e = .returned (.tuple #[.pointer loc, .nilIface]) else ∃ t x, e = .returned (.tuple #[.pointer none, .iface t x])
set_option maxRecDepth 100000 in
theorem loadLoc_any (s : ByteArray) (hs : s.size ≤ 4294967296) (w : World) (hg : GL w) :
  Calls Tryz.prog 99 #[.string s] w fun e w' => LoadAns (zoneOk s.data.toList) e ∧ Below w.heap.size w w' := by
 have HU := Lib.hid (fun w' => Cal.utc_any w');have HD := Lib.hid (fun w' => gotime_containsDotDot.calls (s.size + 1) s _ w' (dots_f s hs));by_cases h0 : s.data.toList = []
 ·have hq : s.toList = [] := by rw [toList_data]; exact h0
  have hz : zoneOk s.data.toList = true := by rw [h0]; rfl
  rw [hz];clear hz h0;go_enter Tryz.func99, Tryz.ntmps99;go_wp2_with fail
  refine (HU.out _).mono ?_;rintro e w1 ⟨rfl, _, _, hb, _⟩;go_wp2_with fail
  go_ret2;exact ⟨⟨_, rfl⟩, hb⟩
 by_cases h1 : s.data.toList = [85, 84, 67]
 ·have hq : s.toList = [85, 84, 67] := by rw [toList_data]; exact h1
  have hz : zoneOk s.data.toList = true := by rw [h1]; rfl
  rw [hz];clear hz h1;go_enter Tryz.func99, Tryz.ntmps99;go_wp2_with fail
  refine (HU.out _).mono ?_;rintro e w1 ⟨rfl, _, _, hb, _⟩;go_wp2_with fail
  go_ret2;exact ⟨⟨_, rfl⟩, hb⟩
 have hq0 : ¬ s.toList = [] := by rw [toList_data]; exact h0
 have hq0' : (s.toList == []) = false := by rw [beq_eq_false_iff_ne]; exact hq0
 have hq1 : ¬ s.toList = [85, 84, 67] := by rw [toList_data]; exact h1
 have hq1' : (s.toList == [85, 84, 67]) = false := by rw [beq_eq_false_iff_ne]; exact hq1
 by_cases h2 : s.data.toList = [76, 111, 99, 97, 108]
 ·have hq : s.toList = [76, 111, 99, 97, 108] := by rw [toList_data]; exact h2
  have hz : zoneOk s.data.toList = true := by rw [h2]; rfl
  rw [hz];clear hz h2 h0 h1;go_enter Tryz.func99, Tryz.ntmps99;go_wp2_with fail
  go_ret2;exact ⟨⟨_, rfl⟩, Below.refl _ _⟩
 have hq2 : ¬ s.toList = [76, 111, 99, 97, 108] := by rw [toList_data]; exact h2
 have hq2' : (s.toList == [76, 111, 99, 97, 108]) = false := by rw [beq_eq_false_iff_ne]; exact hq2
 have hz : zoneOk s.data.toList = false := by
  unfold zoneOk;rw [decide_eq_false h0, decide_eq_false h1, decide_eq_false h2];rfl
 obtain ⟨tp, pp, hc⟩ := hg.cell;have hlt := hg.lt
 obtain ⟨c, r, hcr⟩ : ∃ c r, s.data.toList = c :: r := by
  cases h : s.data.toList with
  | nil => exact absurd h h0
  | cons c r => exact ⟨c, r, rfl⟩
 obtain rfl : s = ba (c :: r) := by rw [← hcr]; rfl
 have hix : ∀ w' : World, (Instr.index 9 (.string (ba (c :: r))) (.int .i64 0)).run Tryz.prog w' = .ok (.int .u8 (c.toNat : Nat)) w' := fun w' => str_at (c :: r) 0 (by simp) w'
 generalize dotsFrom (ba (c :: r)).data.toList = dd at *;rw [hz];clear hz h0 h1 h2 hs hcr;go_enter Tryz.func99, Tryz.ntmps99;go_wp2_with fail
 refine (HD.out _).mono ?_;rintro e w1 ⟨rfl, hd1⟩;have hb1 := hd1.below;have hc1 := (hb1.cell (p := ⟨0, 0, none⟩) hlt).trans hc;clear hd1 hc;cases dd with
 | true =>
  go_wp2_with fail
  refine start_ (n := 3) (S := fun w' => w'.cell? ⟨0, 0, none⟩ = some (.iface tp pp) ∧ Below w.heap.size w w') (ds := []) #[nn, nn, nn] (by kernel_rfl) rfl rfl ⟨hc1, hb1.drew⟩ (fun hHeld => ?_);refine pure_ (i := 1) (N := some 2) (v := ?_) (a' := ?_) #[nn, yy, nn] rfl rfl (by kernel_rfl) (fun _ _ _ h => h) (Or.inl ⟨by rfl, ?_⟩) ?_ ?_;rotate_left
  ·intro w';go_simp;with_reducible rfl
  rotate_left
  ·simp only [nrm];rfl
  refine take_ (i := 0) (N := some 25) (v := ?_) (a' := ?_) #[yy, yy, nn] rfl rfl (by kernel_rfl) (fun _ _ _ h => h) (Or.inl ⟨by rfl, ?_⟩) hHeld ?_ ?_;rotate_left
  ·rintro w' ⟨s0, s1⟩;go_simp;with_reducible rfl
  rotate_left
  ·simp only [nrm];rfl
  refine pure_ (i := 2) (N := some 3) (v := ?_) (a' := ?_) #[yy, yy, yy] rfl rfl (by kernel_rfl) (fun _ _ _ h => h) (Or.inl ⟨by rfl, ?_⟩) ?_ ?_;rotate_left
  ·intro w';go_simp;with_reducible rfl
  rotate_left
  ·simp only [nrm];rfl
  refine done_ (by kernel_rfl) ?_;go_wp2_with fail
  have hb := hHeld.2;go_ret2;exact ⟨⟨_, _, rfl⟩, hb⟩
 | false =>
  by_cases h47 : c = 47
  ·subst h47;have hk : ((((47 : UInt8).toNat : Nat) : Int) == 47) = true := rfl;go_wp2_with fail
   refine start_ (n := 3) (S := fun w' => w'.cell? ⟨0, 0, none⟩ = some (.iface tp pp) ∧ Below w.heap.size w w') (ds := []) #[nn, nn, nn] (by kernel_rfl) rfl rfl ⟨hc1, hb1.drew⟩ (fun hHeld => ?_);refine pure_ (i := 1) (N := some 2) (v := ?_) (a' := ?_) #[nn, yy, nn] rfl rfl (by kernel_rfl) (fun _ _ _ h => h) (Or.inl ⟨by rfl, ?_⟩) ?_ ?_;rotate_left
   ·intro w';go_simp;with_reducible rfl
   rotate_left
   ·simp only [nrm];rfl
   refine take_ (i := 0) (N := some 25) (v := ?_) (a' := ?_) #[yy, yy, nn] rfl rfl (by kernel_rfl) (fun _ _ _ h => h) (Or.inl ⟨by rfl, ?_⟩) hHeld ?_ ?_;rotate_left
   ·rintro w' ⟨s0, s1⟩;go_simp;with_reducible rfl
   rotate_left
   ·simp only [nrm];rfl
   refine pure_ (i := 2) (N := some 3) (v := ?_) (a' := ?_) #[yy, yy, yy] rfl rfl (by kernel_rfl) (fun _ _ _ h => h) (Or.inl ⟨by rfl, ?_⟩) ?_ ?_;rotate_left
   ·intro w';go_simp;with_reducible rfl
   rotate_left
   ·simp only [nrm];rfl
   refine done_ (by kernel_rfl) ?_;go_wp2_with fail
   have hb := hHeld.2;go_ret2;exact ⟨⟨_, _, rfl⟩, hb⟩
  ·have hn47 : c.toNat ≠ 47 := fun e => h47 (UInt8.toNat_inj.1 e)
   have hc47 : (((c.toNat : Nat) : Int) == 47) = false := by rw [beq_eq_false_iff_ne]; omega
   by_cases h92 : c = 92
   ·subst h92;have hk : ((((92 : UInt8).toNat : Nat) : Int) == 92) = true := rfl;go_wp2_with fail
    refine start_ (n := 3) (S := fun w' => w'.cell? ⟨0, 0, none⟩ = some (.iface tp pp) ∧ Below w.heap.size w w') (ds := []) #[nn, nn, nn] (by kernel_rfl) rfl rfl ⟨hc1, hb1.drew⟩ (fun hHeld => ?_);refine pure_ (i := 1) (N := some 2) (v := ?_) (a' := ?_) #[nn, yy, nn] rfl rfl (by kernel_rfl) (fun _ _ _ h => h) (Or.inl ⟨by rfl, ?_⟩) ?_ ?_;rotate_left
    ·intro w';go_simp;with_reducible rfl
    rotate_left
    ·simp only [nrm];rfl
    refine take_ (i := 0) (N := some 25) (v := ?_) (a' := ?_) #[yy, yy, nn] rfl rfl (by kernel_rfl) (fun _ _ _ h => h) (Or.inl ⟨by rfl, ?_⟩) hHeld ?_ ?_;rotate_left
    ·rintro w' ⟨s0, s1⟩;go_simp;with_reducible rfl
    rotate_left
    ·simp only [nrm];rfl
    refine pure_ (i := 2) (N := some 3) (v := ?_) (a' := ?_) #[yy, yy, yy] rfl rfl (by kernel_rfl) (fun _ _ _ h => h) (Or.inl ⟨by rfl, ?_⟩) ?_ ?_;rotate_left
    ·intro w';go_simp;with_reducible rfl
    rotate_left
    ·simp only [nrm];rfl
    refine done_ (by kernel_rfl) ?_;go_wp2_with fail
    have hb := hHeld.2;go_ret2;exact ⟨⟨_, _, rfl⟩, hb⟩
   ·have hn92 : c.toNat ≠ 92 := fun e => h92 (UInt8.toNat_inj.1 e)
    have hc92 : (((c.toNat : Nat) : Int) == 92) = false := by rw [beq_eq_false_iff_ne]; omega
    go_wp2_with fail
    refine (errorsNew_any _ _).mono ?_;rintro e w2 ⟨t, x, rfl, hb2⟩;go_wp2_with fail
    go_ret2;exact ⟨⟨_, _, rfl⟩, below_of_le hb1 hb2⟩
end Go.Proofs.YtmecbmgfacpecaaGreatDoor.Cron
