/- Lemmas and walks on the way to the law, merged by wip/tools/pack.py: ParseG, ParseCronG, MeanC, CronSixV. Conditions: none. -/
import Derived.Test.YtmecbmgfacpecaaGreatDoorGrI
import Derived.Test.YtmecbmgfacpecaaGreatDoorGrG
import Derived.Test.YtmecbmgfacpecaaGreatDoorGrC
namespace Go.Proofs.YtmecbmgfacpecaaGreatDoor.Cron
open Go Go.RowKit Go.Proofs.YtmecbmgfacpecaaGreatDoor.Text Go.Proofs.YtmecbmgfacpecaaGreatDoor.Bits Go.Proofs.YtmecbmgfacpecaaGreatDoorW.PrintWords Go.Proofs.YtmecbmgfacpecaaGreatDoorW.PrintLast Go.Proofs.YtmecbmgfacpecaaGreatDoorW.PrintMore Go.Proofs.YtmecbmgfacpecaaGreatDoor.Pr
set_option linter.unusedVariables false
set_option linter.unusedSimpArgs false
def fieldsG (s : ByteArray) (o : Nat) : Option (List Nat) := (normF (fieldsZ s) o).bind sixS
def plainG (o : Nat) (s : ByteArray) : Option Got :=
 if Lib.hasPrefix s.data.toList [64] = true then (if o &&& 256 = 0 then none else descS s.data.toList) else (fieldsG s o).map .bits
def spaceAt (s : ByteArray) : Nat := (s.data.toList.takeWhile (fun c => c != 32)).length
def progS (o : Nat) (s : ByteArray) : Option Got :=
 if s.size = 0 then none else if zoneZ s = 0 then plainG o s
 else if zoneOk (s.extract (zoneZ s) (spaceAt s)).data.toList = true then plainG o (trimZ (s.extract (spaceAt s) s.size)) else none
theorem index_is (c : UInt8) (s : ByteArray) (hs : s.size ≤ 4294967296) (hm : c ∈ s.data.toList) : cron_zzIndex.f (s.size + 1) s (ba [c]) = some (((s.data.toList.takeWhile (fun x => x != c)).length : Nat) : Int) := by
 have h := index_l0 c s (by omega) s.size (s.size + 1) 0 (by omega) (by omega) (by omega);unfold cron_zzIndex.f;rw [List.drop_zero] at h
 rcases h with ⟨_, h⟩ | ⟨j, h1, _, _, p, q, h4, h5, h6⟩
 ·exact absurd hm h
 ·rw [show ((0 : Nat) : Int) = 0 from rfl] at h1;rw [h1, h4]
  have : (p ++ c :: q).takeWhile (fun x => x != c) = p := by
   rw [List.takeWhile_append_of_pos (fun x hx => by
    rw [bne_iff_ne];rintro rfl;exact h5 hx)]
   simp
  rw [this, h6];rfl
theorem tw_le {α : Type} (p : α → Bool) (l : List α) : (l.takeWhile p).length ≤ l.length := (List.takeWhile_prefix p).length_le
theorem list_formP (l : List Value) : ∀ n, l.length = n → l = (List.range n).map (fun i => l.getD i undef) := by
 intro n hn
 apply List.ext_getElem?
 intro i
 by_cases hi : i < n
 ·simp [hn, hi]
 ·simp [hn, hi]
set_option maxRecDepth 100000 in
theorem frame_openP (a : Act) (h : a.tmps.size = 123) (hd : a.defers = []) : ∃ u : Nat → Value, (∀ i, u i = a.tmps.getD i undef) ∧ a = { tmps := #[u 0, u 1, u 2, u 3, u 4, u 5, u 6, u 7, u 8, u 9, u 10, u 11, u 12, u 13, u 14, u 15, u 16, u 17, u 18, u 19, u 20, u 21, u 22, u 23, u 24, u 25, u 26, u 27, u 28, u 29, u 30, u 31, u 32, u 33, u 34, u 35, u 36, u 37, u 38, u 39, u 40, u 41, u 42, u 43, u 44, u 45, u 46, u 47, u 48, u 49, u 50, u 51, u 52, u 53, u 54, u 55, u 56, u 57, u 58, u 59, u 60, u 61, u 62, u 63, u 64, u 65, u 66, u 67, u 68, u 69, u 70, u 71, u 72, u 73, u 74, u 75, u 76, u 77, u 78, u 79, u 80, u 81, u 82, u 83, u 84, u 85, u 86, u 87, u 88, u 89, u 90, u 91, u 92, u 93, u 94, u 95, u 96, u 97, u 98, u 99, u 100, u 101, u 102, u 103, u 104, u 105, u 106, u 107, u 108, u 109, u 110, u 111, u 112, u 113, u 114, u 115, u 116, u 117, u 118, u 119, u 120, u 121, u 122], defers := [] } := by
 obtain ⟨t, d⟩ := a;dsimp only at *;subst hd;refine ⟨fun i => t.getD i undef, fun i => rfl, ?_⟩;have hl := list_formP t.toList 123 (by simpa using h);have he : t = ((List.range 123).map (fun i => t.toList.getD i undef)).toArray := by rw [← hl]
 have hg : ∀ i, t.toList.getD i undef = t.getD i undef := fun i => by simp [List.getD, Array.getD_eq_getD_getElem?]
 simp only [hg] at he;have e2 : ((List.range 123).map (fun i => t.getD i undef)).toArray = #[t.getD 0 undef, t.getD 1 undef, t.getD 2 undef, t.getD 3 undef, t.getD 4 undef, t.getD 5 undef, t.getD 6 undef, t.getD 7 undef, t.getD 8 undef, t.getD 9 undef, t.getD 10 undef, t.getD 11 undef, t.getD 12 undef, t.getD 13 undef, t.getD 14 undef, t.getD 15 undef, t.getD 16 undef, t.getD 17 undef, t.getD 18 undef, t.getD 19 undef, t.getD 20 undef, t.getD 21 undef, t.getD 22 undef, t.getD 23 undef, t.getD 24 undef, t.getD 25 undef, t.getD 26 undef, t.getD 27 undef, t.getD 28 undef, t.getD 29 undef, t.getD 30 undef, t.getD 31 undef, t.getD 32 undef, t.getD 33 undef, t.getD 34 undef, t.getD 35 undef, t.getD 36 undef, t.getD 37 undef, t.getD 38 undef, t.getD 39 undef, t.getD 40 undef, t.getD 41 undef, t.getD 42 undef, t.getD 43 undef, t.getD 44 undef, t.getD 45 undef, t.getD 46 undef, t.getD 47 undef, t.getD 48 undef, t.getD 49 undef, t.getD 50 undef, t.getD 51 undef, t.getD 52 undef, t.getD 53 undef, t.getD 54 undef, t.getD 55 undef, t.getD 56 undef, t.getD 57 undef, t.getD 58 undef, t.getD 59 undef, t.getD 60 undef, t.getD 61 undef, t.getD 62 undef, t.getD 63 undef, t.getD 64 undef, t.getD 65 undef, t.getD 66 undef, t.getD 67 undef, t.getD 68 undef, t.getD 69 undef, t.getD 70 undef, t.getD 71 undef, t.getD 72 undef, t.getD 73 undef, t.getD 74 undef, t.getD 75 undef, t.getD 76 undef, t.getD 77 undef, t.getD 78 undef, t.getD 79 undef, t.getD 80 undef, t.getD 81 undef, t.getD 82 undef, t.getD 83 undef, t.getD 84 undef, t.getD 85 undef, t.getD 86 undef, t.getD 87 undef, t.getD 88 undef, t.getD 89 undef, t.getD 90 undef, t.getD 91 undef, t.getD 92 undef, t.getD 93 undef, t.getD 94 undef, t.getD 95 undef, t.getD 96 undef, t.getD 97 undef, t.getD 98 undef, t.getD 99 undef, t.getD 100 undef, t.getD 101 undef, t.getD 102 undef, t.getD 103 undef, t.getD 104 undef, t.getD 105 undef, t.getD 106 undef, t.getD 107 undef, t.getD 108 undef, t.getD 109 undef, t.getD 110 undef, t.getD 111 undef, t.getD 112 undef, t.getD 113 undef, t.getD 114 undef, t.getD 115 undef, t.getD 116 undef, t.getD 117 undef, t.getD 118 undef, t.getD 119 undef, t.getD 120 undef, t.getD 121 undef, t.getD 122 undef] := by rfl
 rw [← e2, ← he]
structure GA (w : World) : Prop where
 g : G w
 e : GE w
 l : GL w
 u : GU w
theorem GA.below {w w' : World} (h : GA w) (hb : Below w.heap.size w w') : GA w' := ⟨h.g.below hb, h.e.below hb, h.l.below hb, h.u.below hb⟩
set_option maxRecDepth 100000 in
set_option maxHeartbeats 8000000 in
theorem parse_any (o : Nat) (ho : o < 512) (s0 : ByteArray) (hs0 : s0.size ≤ 4294967296) (hsp : zoneZ s0 ≠ 0 → (32 : UInt8) ∈ s0.data.toList) (w : World) (hga : GA w) :
  Calls Tryz.prog 47 #[.agg #[.int .i64 o], .string s0] w fun e w' => GotAns (progS o s0) e w' ∧ Below w.heap.size w w' := by
 by_cases h0 : s0.size = 0
 ·have HR : Hid (progS o s0 = none) := Lib.hid (by unfold progS; rw [if_pos h0]);have hd0 : ((s0.size : Int) == 0) = true := by rw [h0]; rfl
  clear h0
  go_enter Tryz.func47, Tryz.ntmps47
  go_wp2_with fail
  refine (errorsNew_any _ _).mono ?_;rintro e w1 ⟨t, x, rfl, hb⟩
  go_wp2_with fail
  go_ret2
  rw [HR.out];exact ⟨⟨t, x, rfl⟩, ((Below.refl _ _).alloc (Nat.le_refl _) _).trans (hb.mono (by simp))⟩
 ·have hd0 : ((s0.size : Int) == 0) = false := by
   rw [beq_eq_false_iff_ne];omega
  have hq0 : ¬ s0.size = 0 := h0
  go_enter Tryz.func47, Tryz.ntmps47
  go_upto_region 4 with fail
  rename_i K hK Kc hKc
  refine viaThen hK (fun a wt => a.tmps.size = 123 ∧ a.defers = [] ∧ a.tmps.getD 2 undef = .pointer (some ⟨w.heap.size, 0, none⟩) ∧ a.tmps.getD 4 undef = .nilIface ∧ a.tmps.getD 5 undef = .nilIface ∧ ∃ (s : ByteArray) (loc : Option Addr), a.tmps.getD 1 undef = .string s ∧ a.tmps.getD 6 undef = .pointer loc ∧
   s.size ≤ 4294967296 ∧ Hid (progS o s0 = plainG o s) ∧ Below w.heap.size w wt ∧ wt.cell? ⟨w.heap.size, 0, none⟩ = some (.int .i64 o) ∧ w.heap.size < wt.heap.size) ?_ ?_
  ·clear hK hq0 hd0 h0 hsp hs0;rintro a wt ⟨hs', hd, h2, h4, h5, s, loc, h1, h6, hs, HPR, hbj, hcj, hltj⟩;obtain ⟨u, hu, ha⟩ := frame_openP a hs' hd;rw [← hu] at h1 h2 h4 h5 h6
   rw [h1, h2, h4, h5, h6] at ha;clear hu hs' hd h1 h2 h4 h5 h6;subst ha;have hg : G w := hga.g;have hgj : GA wt := hga.below hbj
   cases h3 : Lib.hasPrefix s.data.toList [64] with
   | true =>
    have hand : bits .and .i64 (o : Int) 256 = ((o &&& 256 : Nat) : Int) := and_i64 (b := 256) (by omega) (by decide);have HP3 : Hid (∀ w' : World, Calls Tryz.prog 97 #[.string s, .string ⟨#[64]⟩] w' fun e w'' => e = .returned (.bool true) ∧ w' = w'') := Lib.hid fun w' => (Tryz.strings_HasPrefix s ⟨#[64]⟩ w').mono fun e w'' hh => ⟨hh.1.trans (by rw [show (⟨#[64]⟩ : ByteArray).data.toList = [64] from rfl, h3]), hh.2.symm⟩
    by_cases h256 : o &&& 256 = 0
    ·have HN : Hid (progS o s0 = none) := Lib.hid (by rw [HPR.out]; unfold plainG; rw [if_pos h3, if_pos h256]);have hdz : (((o &&& 256 : Nat) : Int) == 0) = true := by rw [h256]; rfl
     clear h3 HPR
     go_wp2_with fail
     refine (HP3.out _).mono ?_;rintro e w1 ⟨rfl, rfl⟩
     go_wp2_with fail
     refine (errorsNew_any _ _).mono ?_;rintro e w1 ⟨t, x, rfl, hb⟩
     go_wp2_with fail
     go_ret2
     rw [HN.out];exact ⟨⟨t, x, rfl⟩, below_of_le hbj hb⟩
    ·have HN : Hid (progS o s0 = descS s.data.toList) := Lib.hid (by rw [HPR.out]; unfold plainG; rw [if_pos h3, if_neg h256]);have hdz : (((o &&& 256 : Nat) : Int) == 0) = false := by rw [beq_eq_false_iff_ne]; omega
     have HD := Lib.hid (desc_any s.data.toList (by rw [← size_list]; exact hs) loc wt hgj.e);rw [ba_of] at HD;clear h3 HPR
     go_wp2_with fail
     refine (HP3.out _).mono ?_;rintro e w1 ⟨rfl, rfl⟩
     go_wp2_with fail
     refine HD.out.mono ?_;intro e w1 hh;obtain ⟨hd, hb⟩ := hh;have HBB := Lib.hid (below_of_le hbj hb);clear hb HD hbj hcj hltj HP3 hand hdz;generalize descS s.data.toList = rd at *
     cases rd with
     | none =>
      obtain ⟨t, x, rfl⟩ := hd
      go_wp2_with fail
      go_ret2
      rw [HN.out];exact ⟨⟨t, x, rfl⟩, HBB.out⟩
     | some r =>
      cases r with
      | bits l =>
       obtain ⟨g, loc2, rfl, hrow⟩ := hd;have HROW := Lib.hid hrow;clear hrow
       go_wp2_with fail
       go_ret2
       rw [HN.out];exact ⟨⟨g, loc2, rfl, HROW.out⟩, HBB.out⟩
      | delay d =>
       obtain rfl := hd
       go_wp2_with fail
       go_ret2
       rw [HN.out];exact ⟨rfl, HBB.out⟩
   | false =>
    have HP3 : Hid (∀ w' : World, Calls Tryz.prog 97 #[.string s, .string ⟨#[64]⟩] w' fun e w'' => e = .returned (.bool false) ∧ w' = w'') := Lib.hid fun w' => (Tryz.strings_HasPrefix s ⟨#[64]⟩ w').mono fun e w'' hh => ⟨hh.1.trans (by rw [show (⟨#[64]⟩ : ByteArray).data.toList = [64] from rfl, h3]), hh.2.symm⟩
    have HPG : Hid (progS o s0 = (fieldsG s o).map .bits) := Lib.hid (by rw [HPR.out]; unfold plainG; rw [if_neg (by rw [h3]; simp)]);have HR : Hid (fieldsG s o = (normF (fieldsZ s) o).bind sixS) := Lib.hid rfl;have HZ := Lib.hid (fun w' => zzFields_any s hs w');have HZL := Lib.hid (goZ_len s hs);have HZS : Hid (∀ x ∈ fieldsZ s, x.size ≤ 4294967296) := Lib.hid fun x hx => Nat.le_trans (fieldsZ_size s x hx) hs
    clear h3 HPR hga hgj;generalize fieldsZ s = fs at *
    go_wp2_with fail
    refine (HP3.out _).mono ?_;rintro e w1 ⟨rfl, rfl⟩
    go_wp2_with fail
    refine (HZ.out _).mono ?_;rintro e w1 ⟨v, rfl, hown, hb1⟩;have hc0 : w1.cell? ⟨w.heap.size, 0, none⟩ = some (.int .i64 o) := (hb1.cell (p := ⟨w.heap.size, 0, none⟩) hltj).trans hcj;have hz1 : w.heap.size < w1.heap.size := by have := hb1.size; omega
    have hzj : wt.heap.size ≤ w1.heap.size := hb1.size
    have HNA : Hid (∀ w' : World, w'.heap.size = w1.heap.size + 1 → Below w1.heap.size w1 w' → Calls Tryz.prog 103 #[v, .int .i64 o] w' (NormAnswer wt.heap.size w1.heap.size w' (normF fs o))) := Lib.hid fun w' h1 h2 =>
     normal_any o ho fs v w' wt.heap.size (own_below hown h2) HZL.out (by omega) w1.heap.size (by omega) (fun e => by
      have := (hown.lt _ e).2;omega)
    have HB1 := Lib.hid hb1;generalize hR0 : normF fs o = R0 at *;clear hown hb1 HP3 HZ HZL
    go_wp2_with fail
    have HR0 : Hid (normF fs o = R0) := Lib.hid hR0;clear hR0;refine (HNA.out _ (by simp) ((Below.refl _ _).alloc (Nat.le_refl _) _)).mono ?_;intro e w2 hN
    have HZN : Hid (∀ l, R0 = some l → (∀ x ∈ l, x.size ≤ 4294967296) ∧ l.length = 6) := Lib.hid fun l h => by
     rw [← HR0.out] at h;exact ⟨norm_size (by decide) HZS.out h, norm_len h⟩
    have hge : (w1.alloc (.cells #[.nilIface] 112)).heap[w1.heap.size]? = some (.cells #[.nilIface] 112 (0, 0)) := heap_alloc_new w1 _;obtain ⟨hres, hbN, hkN⟩ := hN;have hcell := hkN.trans hge;have hB2 : Below w.heap.size w w2 := (hbj.trans (HB1.out.mono (by omega))).trans ((((Below.refl _ _).alloc (Nat.le_refl w1.heap.size) _).mono (by omega)).trans (hbN.mono (by omega)));have hlt2 : w1.heap.size < w2.heap.size := (Array.getElem?_eq_some_iff.1 hcell).1;have hcE : w2.cell? ⟨w1.heap.size, 0, none⟩ = some .nilIface := cell_of_row _ _ _ _ _ _ hcell;have hfE : w2.frozen? ⟨w1.heap.size, 0, none⟩ = false := frozen_of_row _ _ _ _ _ hcell;have hsz12 : (w1.alloc (.cells #[.nilIface] 112)).heap.size = w1.heap.size + 1 := by simp
    clear hge hkN hcell hbN;have hmf : ∀ (fn : Fn) (first cap : Array Value) (w : World), (Instr.makeFunc fn first cap).run Tryz.prog w = .ok (.func fn first cap) w := fun _ _ _ _ => rfl
    cases R0 with
    | none =>
     obtain ⟨t, x, rfl⟩ := hres;have HX : Hid (fieldsG s o = none) := Lib.hid (by rw [HR.out]; rfl);have HB := Lib.hid (hB2.setCell (p := ⟨w1.heap.size, 0, none⟩) (show w.heap.size ≤ w1.heap.size by omega) (.iface t x));clear hB2
     go_wp2_with fail
     go_quiet (fail)
     go_wp2_with fail
     go_ret2
     rw [HPG.out, HX.out];exact ⟨⟨t, x, rfl⟩, below_of_le HB.out (below_drewN _ nq)⟩
    | some l =>
     obtain ⟨g, c, rfl, hgg, hT⟩ := hres;have HPS : Hid (PSt w (w2.setCell ⟨w1.heap.size, 0, none⟩ .nilIface) g c w1.heap.size l .nilIface) := Lib.hid (PSt.left (x := .nilIface) ⟨hT, hcE, hfE, hlt2, by omega, hB2, by omega, by omega⟩ (errLeft_of .nilIface .nilIface (Below.refl _ _) hlt2 hcE hfE));obtain ⟨hsz, hlen⟩ := HZN.out l rfl;have HGW : Hid (∀ w', Below w.heap.size w w' → G w') := Lib.hid fun w' h => hg.below h
     have HX : Hid (fieldsG s o = sixS l) := Lib.hid (by rw [HR.out]; rfl);have hx : ∀ k, k < 6 → ∃ x, l[k]? = some x ∧ l.getD k ⟨#[]⟩ = x ∧ x.size ≤ 4294967296 := fun k hk => ⟨l[k], List.getElem?_eq_getElem (by omega), by simp [List.getD, show k < l.length by omega], hsz _ (List.getElem_mem _)⟩
     clear hT hB2 hsz hlen HR HR0 HZN HZS hgg hg;obtain ⟨x0, hx0, hy0, hs0⟩ := hx 0 (by omega)
     have HC0 : Hid (∀ m Inv, Reads m (valK 0) Inv → ∀ w' : World, Inv w' → w1.heap.size < w'.heap.size → ∀ v0 ok, ErrSt v0 ok → w'.cell? ⟨w1.heap.size, 0, none⟩ = some v0 → w'.frozen? ⟨w1.heap.size, 0, none⟩ = false →
       Calls Tryz.prog 104 #[.string x0, .agg #[.int .u64 (loK 0 : Nat), .int .u64 (hiK 0 : Nat), .map m], .pointer (some ⟨w1.heap.size, 0, none⟩)] w' (ClosureA w' w1.heap.size ok (bitsAt l 0))) :=
      Lib.hid fun m Inv hR w' hI hg v0 ok hv hc hf => by
       unfold bitsAt;rw [hy0];exact closureA m (valK 0) Inv hR (loK 0) (hiK 0) x0 hs0 (loK_le 0) (hiK_le 0) w1.heap.size w' hI hg v0 ok hv hc hf
     have HX0 := Lib.hid hx0;obtain ⟨x1, hx1, hy1, hs1⟩ := hx 1 (by omega)
     have HC1 : Hid (∀ m Inv, Reads m (valK 1) Inv → ∀ w' : World, Inv w' → w1.heap.size < w'.heap.size → ∀ v0 ok, ErrSt v0 ok → w'.cell? ⟨w1.heap.size, 0, none⟩ = some v0 → w'.frozen? ⟨w1.heap.size, 0, none⟩ = false →
       Calls Tryz.prog 104 #[.string x1, .agg #[.int .u64 (loK 1 : Nat), .int .u64 (hiK 1 : Nat), .map m], .pointer (some ⟨w1.heap.size, 0, none⟩)] w' (ClosureA w' w1.heap.size ok (bitsAt l 1))) :=
      Lib.hid fun m Inv hR w' hI hg v0 ok hv hc hf => by
       unfold bitsAt;rw [hy1];exact closureA m (valK 1) Inv hR (loK 1) (hiK 1) x1 hs1 (loK_le 1) (hiK_le 1) w1.heap.size w' hI hg v0 ok hv hc hf
     have HX1 := Lib.hid hx1;obtain ⟨x2, hx2, hy2, hs2⟩ := hx 2 (by omega)
     have HC2 : Hid (∀ m Inv, Reads m (valK 2) Inv → ∀ w' : World, Inv w' → w1.heap.size < w'.heap.size → ∀ v0 ok, ErrSt v0 ok → w'.cell? ⟨w1.heap.size, 0, none⟩ = some v0 → w'.frozen? ⟨w1.heap.size, 0, none⟩ = false →
       Calls Tryz.prog 104 #[.string x2, .agg #[.int .u64 (loK 2 : Nat), .int .u64 (hiK 2 : Nat), .map m], .pointer (some ⟨w1.heap.size, 0, none⟩)] w' (ClosureA w' w1.heap.size ok (bitsAt l 2))) :=
      Lib.hid fun m Inv hR w' hI hg v0 ok hv hc hf => by
       unfold bitsAt;rw [hy2];exact closureA m (valK 2) Inv hR (loK 2) (hiK 2) x2 hs2 (loK_le 2) (hiK_le 2) w1.heap.size w' hI hg v0 ok hv hc hf
     have HX2 := Lib.hid hx2;obtain ⟨x3, hx3, hy3, hs3⟩ := hx 3 (by omega)
     have HC3 : Hid (∀ m Inv, Reads m (valK 3) Inv → ∀ w' : World, Inv w' → w1.heap.size < w'.heap.size → ∀ v0 ok, ErrSt v0 ok → w'.cell? ⟨w1.heap.size, 0, none⟩ = some v0 → w'.frozen? ⟨w1.heap.size, 0, none⟩ = false →
       Calls Tryz.prog 104 #[.string x3, .agg #[.int .u64 (loK 3 : Nat), .int .u64 (hiK 3 : Nat), .map m], .pointer (some ⟨w1.heap.size, 0, none⟩)] w' (ClosureA w' w1.heap.size ok (bitsAt l 3))) :=
      Lib.hid fun m Inv hR w' hI hg v0 ok hv hc hf => by
       unfold bitsAt;rw [hy3];exact closureA m (valK 3) Inv hR (loK 3) (hiK 3) x3 hs3 (loK_le 3) (hiK_le 3) w1.heap.size w' hI hg v0 ok hv hc hf
     have HX3 := Lib.hid hx3;obtain ⟨x4, hx4, hy4, hs4⟩ := hx 4 (by omega)
     have HC4 : Hid (∀ m Inv, Reads m (valK 4) Inv → ∀ w' : World, Inv w' → w1.heap.size < w'.heap.size → ∀ v0 ok, ErrSt v0 ok → w'.cell? ⟨w1.heap.size, 0, none⟩ = some v0 → w'.frozen? ⟨w1.heap.size, 0, none⟩ = false →
       Calls Tryz.prog 104 #[.string x4, .agg #[.int .u64 (loK 4 : Nat), .int .u64 (hiK 4 : Nat), .map m], .pointer (some ⟨w1.heap.size, 0, none⟩)] w' (ClosureA w' w1.heap.size ok (bitsAt l 4))) :=
      Lib.hid fun m Inv hR w' hI hg v0 ok hv hc hf => by
       unfold bitsAt;rw [hy4];exact closureA m (valK 4) Inv hR (loK 4) (hiK 4) x4 hs4 (loK_le 4) (hiK_le 4) w1.heap.size w' hI hg v0 ok hv hc hf
     have HX4 := Lib.hid hx4;obtain ⟨x5, hx5, hy5, hs5⟩ := hx 5 (by omega)
     have HC5 : Hid (∀ m Inv, Reads m (valK 5) Inv → ∀ w' : World, Inv w' → w1.heap.size < w'.heap.size → ∀ v0 ok, ErrSt v0 ok → w'.cell? ⟨w1.heap.size, 0, none⟩ = some v0 → w'.frozen? ⟨w1.heap.size, 0, none⟩ = false →
       Calls Tryz.prog 104 #[.string x5, .agg #[.int .u64 (loK 5 : Nat), .int .u64 (hiK 5 : Nat), .map m], .pointer (some ⟨w1.heap.size, 0, none⟩)] w' (ClosureA w' w1.heap.size ok (bitsAt l 5))) :=
      Lib.hid fun m Inv hR w' hI hg v0 ok hv hc hf => by
       unfold bitsAt;rw [hy5];exact closureA m (valK 5) Inv hR (loK 5) (hiK 5) x5 hs5 (loK_le 5) (hiK_le 5) w1.heap.size w' hI hg v0 ok hv hc hf
     have HX5 := Lib.hid hx5;have HS := Lib.hid (fun a b c d e f => six_some (l := l) (a := a) (b := b) (c := c) (d := d) (e := e) (f := f));have HN := Lib.hid (six_none (l := l));clear hx hy0 hy1 hy2 hy3 hy4 hy5 hx0 hx1 hx2 hx3 hx4 hx5 hs0 hs1 hs2 hs3 hs4 hs5;generalize sixS l = R6 at *;generalize bitsAt l 0 = r0 at *;generalize bitsAt l 1 = r1 at *;generalize bitsAt l 2 = r2 at *;generalize bitsAt l 3 = r3 at *;generalize bitsAt l 4 = r4 at *;generalize bitsAt l 5 = r5 at *
     go_wp2_with fail
     generalize hW3 : w2.setCell ⟨w1.heap.size, 0, none⟩ .nilIface = w3 at *;clear hW3 hcE hfE hlt2;have hE0 : Hid (ErrSt .nilIface true) := Lib.hid rfl;generalize hge : w1.heap.size = ge at *;clear hge
     go_upto_region 22 with fail
     go_cut [13] (fun v wc => ∃ (n : Int) (x : Value), v = .int .u64 n ∧ Hid (PSt w wc g c ge l x) ∧ Hid (ErrSt x (true && r0.isSome)) ∧ Hid (true = true → ∀ b, r0 = some b → n = b))
     case first =>
      have hc0 : w3.cell? ⟨g, 0, none⟩ = some (.string x0) := HPS.out.txt.at_ 0 _ HX0.out;have hgl : g < w3.heap.size := HPS.out.txt.lt;refine start_ (n := 7) (S := fun w' => w'.cell? ⟨g, 0, none⟩ = some (.string x0)) (ds := [5]) #[false, false, false, false, false, false, false] (by kernel_rfl) rfl rfl (hc0) (fun hHeld => ?_);refine pure_ (i := 0) (N := some 74) (v := ?_) (a' := ?_) #[true, false, false, false, false, false, false] rfl rfl (by kernel_rfl) (fun _ _ _ h => h) (Or.inl ⟨by rfl, ?_⟩) ?_ ?_;rotate_left
      ·intro w'
       go_simp
       with_reducible rfl
      rotate_left
      ·simp only [Act.put, List.setIfInBounds_toArray, List.set_cons_zero, List.set_cons_succ, i64_w, i32_w];rfl
      refine pure_ (i := 1) (N := some 75) (v := ?_) (a' := ?_) #[true, true, false, false, false, false, false] rfl rfl (by kernel_rfl) (fun _ _ _ h => h) (Or.inl ⟨by rfl, ?_⟩) ?_ ?_;rotate_left
      ·intro w'
       go_simp
       with_reducible rfl
      rotate_left
      ·simp only [Act.put, List.setIfInBounds_toArray, List.set_cons_zero, List.set_cons_succ, i64_w, i32_w];rfl
      refine pure_ (i := 2) (N := some 76) (v := ?_) (a' := ?_) #[true, true, true, false, false, false, false] rfl rfl (by kernel_rfl) (fun _ _ _ h => h) (Or.inl ⟨by rfl, ?_⟩) ?_ ?_;rotate_left
      ·intro w'
       go_simp
       with_reducible rfl
      rotate_left
      ·simp only [Act.put, List.setIfInBounds_toArray, List.set_cons_zero, List.set_cons_succ, i64_w, i32_w];rfl
      refine take_ (i := 3) (N := some 77) (v := ?_) (a' := ?_) #[true, true, true, true, false, false, false] rfl rfl (by kernel_rfl) (fun _ _ _ h => h) (Or.inl ⟨by rfl, ?_⟩) hHeld ?_ ?_;rotate_left
      ·intro w' s0
       go_simp
       with_reducible rfl
      rotate_left
      ·simp only [Act.put, List.setIfInBounds_toArray, List.set_cons_zero, List.set_cons_succ, i64_w, i32_w];rfl
      refine one_ (i := 4) (N := some 78) #[true, true, true, true, true, false, false] rfl rfl (by kernel_rfl) (by decide) (fun K hK => ?_);refine goes_ Tryz.func106 (by kernel_rfl) rfl #[] (by rfl) rfl rfl (by simp only [List.map_toArray, List.map_nil]) ?_
      with_reducible refine (bounds0 _ (HGW.out _ (HPS.out.bel.drew))).mono ?_
      rintro e w4 ⟨m, Inv, rfl, hR, hI, hb4⟩;refine ⟨_, rfl, ?_⟩;refine hK.out _ _ ((hb4.cell (p := ⟨g, 0, none⟩) hgl).trans hc0) (fun hHeld => ?_);clear hK K;refine norm_ (a' := ?_) ?_ ?_;rotate_left
      ·show Act.put _ (some 78) _ = _
       simp only [Act.put, List.setIfInBounds_toArray, List.set_cons_zero, List.set_cons_succ, i64_w, i32_w];rfl
      refine last_ (i := 5) (N := some 79) #[true, true, true, true, true, true, false] rfl rfl (by kernel_rfl) (by decide) (fun K hK => ?_);have HP4 := Lib.hid ((HPS.out.below ((Below.refl _ _).drew)).below hb4);refine goesV_ Tryz.func104 (by kernel_rfl) rfl #[.string x0, .agg #[.int .u64 (loK 0 : Nat), .int .u64 (hiK 0 : Nat), .map m]] #[.pointer (some ⟨ge, 0, none⟩)] #[.string x0, .agg #[.int .u64 (loK 0 : Nat), .int .u64 (hiK 0 : Nat), .map m], .pointer (some ⟨ge, 0, none⟩)] rfl (by rfl) (by rfl) rfl rfl (by simp only [List.map_toArray, List.map_cons, List.map_nil]; rfl) ?_
      with_reducible refine (HC0.out m Inv hR _ hI HP4.out.lt .nilIface true hE0.out HP4.out.err HP4.out.free).mono ?_
      rintro e w5 ⟨n, x, rfl, hl5, he5, hn5⟩;refine ⟨_, rfl, ?_⟩;have HP5 := Lib.hid (HP4.out.left hl5);have HE5 := Lib.hid he5;have HN5 := Lib.hid hn5;clear hl5 he5 hn5;refine hK.out _ _ ?_;clear hK K;refine norm_ (a' := ?_) ?_ ?_;rotate_left
      ·show Act.put _ (some 79) _ = _
       simp only [Act.put, List.setIfInBounds_toArray, List.set_cons_zero, List.set_cons_succ, i64_w, i32_w];rfl
      refine pure_ (i := 6) (N := some 13) (v := ?_) (a' := ?_) #[true, true, true, true, true, true, true] rfl rfl (by kernel_rfl) (fun _ _ _ h => h) (Or.inl ⟨by rfl, ?_⟩) ?_ ?_;rotate_left
      ·intro w'
       go_simp
       with_reducible rfl
      rotate_left
      ·simp only [Act.put, List.setIfInBounds_toArray, List.set_cons_zero, List.set_cons_succ, i64_w, i32_w];rfl
      refine done_ (by kernel_rfl) ?_
      go_wp2_with fail
      go_meet
      exact ⟨n, x, rfl, HP5, HE5, HN5⟩
     case rest =>
     obtain ⟨n0, e0, rfl, HPS0, HE0, HN0⟩ := hcut;obtain ⟨wk0, rfl⟩ : ∃ wk : World, wk = wc := ⟨_, rfl⟩
     clear HPS hE0 HC0 HX0
     go_upto_region 23 with fail
     go_cut [14] (fun v wc => ∃ (n : Int) (x : Value), v = .int .u64 n ∧ Hid (PSt w wc g c ge l x) ∧ Hid (ErrSt x ((true && r0.isSome) && r1.isSome)) ∧ Hid ((true && r0.isSome) = true → ∀ b, r1 = some b → n = b))
     case first =>
      have hc1 : wk0.cell? ⟨g, 1, none⟩ = some (.string x1) := HPS0.out.txt.at_ 1 _ HX1.out;have hgl : g < wk0.heap.size := HPS0.out.txt.lt;refine start_ (n := 7) (S := fun w' => w'.cell? ⟨g, 1, none⟩ = some (.string x1)) (ds := [5]) #[false, false, false, false, false, false, false] (by kernel_rfl) rfl rfl (hc1) (fun hHeld => ?_);refine pure_ (i := 0) (N := some 80) (v := ?_) (a' := ?_) #[true, false, false, false, false, false, false] rfl rfl (by kernel_rfl) (fun _ _ _ h => h) (Or.inl ⟨by rfl, ?_⟩) ?_ ?_;rotate_left
      ·intro w'
       go_simp
       with_reducible rfl
      rotate_left
      ·simp only [Act.put, List.setIfInBounds_toArray, List.set_cons_zero, List.set_cons_succ, i64_w, i32_w];rfl
      refine pure_ (i := 1) (N := some 81) (v := ?_) (a' := ?_) #[true, true, false, false, false, false, false] rfl rfl (by kernel_rfl) (fun _ _ _ h => h) (Or.inl ⟨by rfl, ?_⟩) ?_ ?_;rotate_left
      ·intro w'
       go_simp
       with_reducible rfl
      rotate_left
      ·simp only [Act.put, List.setIfInBounds_toArray, List.set_cons_zero, List.set_cons_succ, i64_w, i32_w];rfl
      refine pure_ (i := 2) (N := some 82) (v := ?_) (a' := ?_) #[true, true, true, false, false, false, false] rfl rfl (by kernel_rfl) (fun _ _ _ h => h) (Or.inl ⟨by rfl, ?_⟩) ?_ ?_;rotate_left
      ·intro w'
       go_simp
       with_reducible rfl
      rotate_left
      ·simp only [Act.put, List.setIfInBounds_toArray, List.set_cons_zero, List.set_cons_succ, i64_w, i32_w];rfl
      refine take_ (i := 3) (N := some 83) (v := ?_) (a' := ?_) #[true, true, true, true, false, false, false] rfl rfl (by kernel_rfl) (fun _ _ _ h => h) (Or.inl ⟨by rfl, ?_⟩) hHeld ?_ ?_;rotate_left
      ·intro w' s0
       go_simp
       with_reducible rfl
      rotate_left
      ·simp only [Act.put, List.setIfInBounds_toArray, List.set_cons_zero, List.set_cons_succ, i64_w, i32_w];rfl
      refine one_ (i := 4) (N := some 84) #[true, true, true, true, true, false, false] rfl rfl (by kernel_rfl) (by decide) (fun K hK => ?_);refine goes_ Tryz.func107 (by kernel_rfl) rfl #[] (by rfl) rfl rfl (by simp only [List.map_toArray, List.map_nil]) ?_
      with_reducible refine (bounds1 _ (HGW.out _ (HPS0.out.bel.drew))).mono ?_
      rintro e w4 ⟨m, Inv, rfl, hR, hI, hb4⟩;refine ⟨_, rfl, ?_⟩;refine hK.out _ _ ((hb4.cell (p := ⟨g, 1, none⟩) hgl).trans hc1) (fun hHeld => ?_);clear hK K;refine norm_ (a' := ?_) ?_ ?_;rotate_left
      ·show Act.put _ (some 84) _ = _
       simp only [Act.put, List.setIfInBounds_toArray, List.set_cons_zero, List.set_cons_succ, i64_w, i32_w];rfl
      refine last_ (i := 5) (N := some 85) #[true, true, true, true, true, true, false] rfl rfl (by kernel_rfl) (by decide) (fun K hK => ?_);have HP4 := Lib.hid ((HPS0.out.below ((Below.refl _ _).drew)).below hb4);refine goesV_ Tryz.func104 (by kernel_rfl) rfl #[.string x1, .agg #[.int .u64 (loK 1 : Nat), .int .u64 (hiK 1 : Nat), .map m]] #[.pointer (some ⟨ge, 0, none⟩)] #[.string x1, .agg #[.int .u64 (loK 1 : Nat), .int .u64 (hiK 1 : Nat), .map m], .pointer (some ⟨ge, 0, none⟩)] rfl (by rfl) (by rfl) rfl rfl (by simp only [List.map_toArray, List.map_cons, List.map_nil]; rfl) ?_
      with_reducible refine (HC1.out m Inv hR _ hI HP4.out.lt e0 (true && r0.isSome) HE0.out HP4.out.err HP4.out.free).mono ?_
      rintro e w5 ⟨n, x, rfl, hl5, he5, hn5⟩;refine ⟨_, rfl, ?_⟩;have HP5 := Lib.hid (HP4.out.left hl5);have HE5 := Lib.hid he5;have HN5 := Lib.hid hn5;clear hl5 he5 hn5;refine hK.out _ _ ?_;clear hK K;refine norm_ (a' := ?_) ?_ ?_;rotate_left
      ·show Act.put _ (some 85) _ = _
       simp only [Act.put, List.setIfInBounds_toArray, List.set_cons_zero, List.set_cons_succ, i64_w, i32_w];rfl
      refine pure_ (i := 6) (N := some 14) (v := ?_) (a' := ?_) #[true, true, true, true, true, true, true] rfl rfl (by kernel_rfl) (fun _ _ _ h => h) (Or.inl ⟨by rfl, ?_⟩) ?_ ?_;rotate_left
      ·intro w'
       go_simp
       with_reducible rfl
      rotate_left
      ·simp only [Act.put, List.setIfInBounds_toArray, List.set_cons_zero, List.set_cons_succ, i64_w, i32_w];rfl
      refine done_ (by kernel_rfl) ?_
      go_wp2_with fail
      go_meet
      exact ⟨n, x, rfl, HP5, HE5, HN5⟩
     case rest =>
     obtain ⟨n1, e1, rfl, HPS1, HE1, HN1⟩ := hcut;obtain ⟨wk1, rfl⟩ : ∃ wk : World, wk = wc := ⟨_, rfl⟩
     clear HPS0 HE0 HC1 HX1
     go_upto_region 24 with fail
     go_cut [15] (fun v wc => ∃ (n : Int) (x : Value), v = .int .u64 n ∧ Hid (PSt w wc g c ge l x) ∧ Hid (ErrSt x (((true && r0.isSome) && r1.isSome) && r2.isSome)) ∧ Hid (((true && r0.isSome) && r1.isSome) = true → ∀ b, r2 = some b → n = b))
     case first =>
      have hc2 : wk1.cell? ⟨g, 2, none⟩ = some (.string x2) := HPS1.out.txt.at_ 2 _ HX2.out;have hgl : g < wk1.heap.size := HPS1.out.txt.lt;refine start_ (n := 7) (S := fun w' => w'.cell? ⟨g, 2, none⟩ = some (.string x2)) (ds := [5]) #[false, false, false, false, false, false, false] (by kernel_rfl) rfl rfl (hc2) (fun hHeld => ?_);refine pure_ (i := 0) (N := some 86) (v := ?_) (a' := ?_) #[true, false, false, false, false, false, false] rfl rfl (by kernel_rfl) (fun _ _ _ h => h) (Or.inl ⟨by rfl, ?_⟩) ?_ ?_;rotate_left
      ·intro w'
       go_simp
       with_reducible rfl
      rotate_left
      ·simp only [Act.put, List.setIfInBounds_toArray, List.set_cons_zero, List.set_cons_succ, i64_w, i32_w];rfl
      refine pure_ (i := 1) (N := some 87) (v := ?_) (a' := ?_) #[true, true, false, false, false, false, false] rfl rfl (by kernel_rfl) (fun _ _ _ h => h) (Or.inl ⟨by rfl, ?_⟩) ?_ ?_;rotate_left
      ·intro w'
       go_simp
       with_reducible rfl
      rotate_left
      ·simp only [Act.put, List.setIfInBounds_toArray, List.set_cons_zero, List.set_cons_succ, i64_w, i32_w];rfl
      refine pure_ (i := 2) (N := some 88) (v := ?_) (a' := ?_) #[true, true, true, false, false, false, false] rfl rfl (by kernel_rfl) (fun _ _ _ h => h) (Or.inl ⟨by rfl, ?_⟩) ?_ ?_;rotate_left
      ·intro w'
       go_simp
       with_reducible rfl
      rotate_left
      ·simp only [Act.put, List.setIfInBounds_toArray, List.set_cons_zero, List.set_cons_succ, i64_w, i32_w];rfl
      refine take_ (i := 3) (N := some 89) (v := ?_) (a' := ?_) #[true, true, true, true, false, false, false] rfl rfl (by kernel_rfl) (fun _ _ _ h => h) (Or.inl ⟨by rfl, ?_⟩) hHeld ?_ ?_;rotate_left
      ·intro w' s0
       go_simp
       with_reducible rfl
      rotate_left
      ·simp only [Act.put, List.setIfInBounds_toArray, List.set_cons_zero, List.set_cons_succ, i64_w, i32_w];rfl
      refine one_ (i := 4) (N := some 90) #[true, true, true, true, true, false, false] rfl rfl (by kernel_rfl) (by decide) (fun K hK => ?_);refine goes_ Tryz.func108 (by kernel_rfl) rfl #[] (by rfl) rfl rfl (by simp only [List.map_toArray, List.map_nil]) ?_
      with_reducible refine (bounds2 _ (HGW.out _ (HPS1.out.bel.drew))).mono ?_
      rintro e w4 ⟨m, Inv, rfl, hR, hI, hb4⟩;refine ⟨_, rfl, ?_⟩;refine hK.out _ _ ((hb4.cell (p := ⟨g, 2, none⟩) hgl).trans hc2) (fun hHeld => ?_);clear hK K;refine norm_ (a' := ?_) ?_ ?_;rotate_left
      ·show Act.put _ (some 90) _ = _
       simp only [Act.put, List.setIfInBounds_toArray, List.set_cons_zero, List.set_cons_succ, i64_w, i32_w];rfl
      refine last_ (i := 5) (N := some 91) #[true, true, true, true, true, true, false] rfl rfl (by kernel_rfl) (by decide) (fun K hK => ?_);have HP4 := Lib.hid ((HPS1.out.below ((Below.refl _ _).drew)).below hb4);refine goesV_ Tryz.func104 (by kernel_rfl) rfl #[.string x2, .agg #[.int .u64 (loK 2 : Nat), .int .u64 (hiK 2 : Nat), .map m]] #[.pointer (some ⟨ge, 0, none⟩)] #[.string x2, .agg #[.int .u64 (loK 2 : Nat), .int .u64 (hiK 2 : Nat), .map m], .pointer (some ⟨ge, 0, none⟩)] rfl (by rfl) (by rfl) rfl rfl (by simp only [List.map_toArray, List.map_cons, List.map_nil]; rfl) ?_
      with_reducible refine (HC2.out m Inv hR _ hI HP4.out.lt e1 ((true && r0.isSome) && r1.isSome) HE1.out HP4.out.err HP4.out.free).mono ?_
      rintro e w5 ⟨n, x, rfl, hl5, he5, hn5⟩;refine ⟨_, rfl, ?_⟩;have HP5 := Lib.hid (HP4.out.left hl5);have HE5 := Lib.hid he5;have HN5 := Lib.hid hn5;clear hl5 he5 hn5;refine hK.out _ _ ?_;clear hK K;refine norm_ (a' := ?_) ?_ ?_;rotate_left
      ·show Act.put _ (some 91) _ = _
       simp only [Act.put, List.setIfInBounds_toArray, List.set_cons_zero, List.set_cons_succ, i64_w, i32_w];rfl
      refine pure_ (i := 6) (N := some 15) (v := ?_) (a' := ?_) #[true, true, true, true, true, true, true] rfl rfl (by kernel_rfl) (fun _ _ _ h => h) (Or.inl ⟨by rfl, ?_⟩) ?_ ?_;rotate_left
      ·intro w'
       go_simp
       with_reducible rfl
      rotate_left
      ·simp only [Act.put, List.setIfInBounds_toArray, List.set_cons_zero, List.set_cons_succ, i64_w, i32_w];rfl
      refine done_ (by kernel_rfl) ?_
      go_wp2_with fail
      go_meet
      exact ⟨n, x, rfl, HP5, HE5, HN5⟩
     case rest =>
     obtain ⟨n2, e2, rfl, HPS2, HE2, HN2⟩ := hcut;obtain ⟨wk2, rfl⟩ : ∃ wk : World, wk = wc := ⟨_, rfl⟩
     clear HPS1 HE1 HC2 HX2
     go_upto_region 25 with fail
     go_cut [16] (fun v wc => ∃ (n : Int) (x : Value), v = .int .u64 n ∧ Hid (PSt w wc g c ge l x) ∧ Hid (ErrSt x ((((true && r0.isSome) && r1.isSome) && r2.isSome) && r3.isSome)) ∧ Hid ((((true && r0.isSome) && r1.isSome) && r2.isSome) = true → ∀ b, r3 = some b → n = b))
     case first =>
      have hc3 : wk2.cell? ⟨g, 3, none⟩ = some (.string x3) := HPS2.out.txt.at_ 3 _ HX3.out;have hgl : g < wk2.heap.size := HPS2.out.txt.lt;refine start_ (n := 7) (S := fun w' => w'.cell? ⟨g, 3, none⟩ = some (.string x3)) (ds := [5]) #[false, false, false, false, false, false, false] (by kernel_rfl) rfl rfl (hc3) (fun hHeld => ?_);refine pure_ (i := 0) (N := some 92) (v := ?_) (a' := ?_) #[true, false, false, false, false, false, false] rfl rfl (by kernel_rfl) (fun _ _ _ h => h) (Or.inl ⟨by rfl, ?_⟩) ?_ ?_;rotate_left
      ·intro w'
       go_simp
       with_reducible rfl
      rotate_left
      ·simp only [Act.put, List.setIfInBounds_toArray, List.set_cons_zero, List.set_cons_succ, i64_w, i32_w];rfl
      refine pure_ (i := 1) (N := some 93) (v := ?_) (a' := ?_) #[true, true, false, false, false, false, false] rfl rfl (by kernel_rfl) (fun _ _ _ h => h) (Or.inl ⟨by rfl, ?_⟩) ?_ ?_;rotate_left
      ·intro w'
       go_simp
       with_reducible rfl
      rotate_left
      ·simp only [Act.put, List.setIfInBounds_toArray, List.set_cons_zero, List.set_cons_succ, i64_w, i32_w];rfl
      refine pure_ (i := 2) (N := some 94) (v := ?_) (a' := ?_) #[true, true, true, false, false, false, false] rfl rfl (by kernel_rfl) (fun _ _ _ h => h) (Or.inl ⟨by rfl, ?_⟩) ?_ ?_;rotate_left
      ·intro w'
       go_simp
       with_reducible rfl
      rotate_left
      ·simp only [Act.put, List.setIfInBounds_toArray, List.set_cons_zero, List.set_cons_succ, i64_w, i32_w];rfl
      refine take_ (i := 3) (N := some 95) (v := ?_) (a' := ?_) #[true, true, true, true, false, false, false] rfl rfl (by kernel_rfl) (fun _ _ _ h => h) (Or.inl ⟨by rfl, ?_⟩) hHeld ?_ ?_;rotate_left
      ·intro w' s0
       go_simp
       with_reducible rfl
      rotate_left
      ·simp only [Act.put, List.setIfInBounds_toArray, List.set_cons_zero, List.set_cons_succ, i64_w, i32_w];rfl
      refine one_ (i := 4) (N := some 96) #[true, true, true, true, true, false, false] rfl rfl (by kernel_rfl) (by decide) (fun K hK => ?_);refine goes_ Tryz.func109 (by kernel_rfl) rfl #[] (by rfl) rfl rfl (by simp only [List.map_toArray, List.map_nil]) ?_
      with_reducible refine (bounds3 _ (HGW.out _ (HPS2.out.bel.drew))).mono ?_
      rintro e w4 ⟨m, Inv, rfl, hR, hI, hb4⟩;refine ⟨_, rfl, ?_⟩;refine hK.out _ _ ((hb4.cell (p := ⟨g, 3, none⟩) hgl).trans hc3) (fun hHeld => ?_);clear hK K;refine norm_ (a' := ?_) ?_ ?_;rotate_left
      ·show Act.put _ (some 96) _ = _
       simp only [Act.put, List.setIfInBounds_toArray, List.set_cons_zero, List.set_cons_succ, i64_w, i32_w];rfl
      refine last_ (i := 5) (N := some 97) #[true, true, true, true, true, true, false] rfl rfl (by kernel_rfl) (by decide) (fun K hK => ?_);have HP4 := Lib.hid ((HPS2.out.below ((Below.refl _ _).drew)).below hb4);refine goesV_ Tryz.func104 (by kernel_rfl) rfl #[.string x3, .agg #[.int .u64 (loK 3 : Nat), .int .u64 (hiK 3 : Nat), .map m]] #[.pointer (some ⟨ge, 0, none⟩)] #[.string x3, .agg #[.int .u64 (loK 3 : Nat), .int .u64 (hiK 3 : Nat), .map m], .pointer (some ⟨ge, 0, none⟩)] rfl (by rfl) (by rfl) rfl rfl (by simp only [List.map_toArray, List.map_cons, List.map_nil]; rfl) ?_
      with_reducible refine (HC3.out m Inv hR _ hI HP4.out.lt e2 (((true && r0.isSome) && r1.isSome) && r2.isSome) HE2.out HP4.out.err HP4.out.free).mono ?_
      rintro e w5 ⟨n, x, rfl, hl5, he5, hn5⟩;refine ⟨_, rfl, ?_⟩;have HP5 := Lib.hid (HP4.out.left hl5);have HE5 := Lib.hid he5;have HN5 := Lib.hid hn5;clear hl5 he5 hn5;refine hK.out _ _ ?_;clear hK K;refine norm_ (a' := ?_) ?_ ?_;rotate_left
      ·show Act.put _ (some 97) _ = _
       simp only [Act.put, List.setIfInBounds_toArray, List.set_cons_zero, List.set_cons_succ, i64_w, i32_w];rfl
      refine pure_ (i := 6) (N := some 16) (v := ?_) (a' := ?_) #[true, true, true, true, true, true, true] rfl rfl (by kernel_rfl) (fun _ _ _ h => h) (Or.inl ⟨by rfl, ?_⟩) ?_ ?_;rotate_left
      ·intro w'
       go_simp
       with_reducible rfl
      rotate_left
      ·simp only [Act.put, List.setIfInBounds_toArray, List.set_cons_zero, List.set_cons_succ, i64_w, i32_w];rfl
      refine done_ (by kernel_rfl) ?_
      go_wp2_with fail
      go_meet
      exact ⟨n, x, rfl, HP5, HE5, HN5⟩
     case rest =>
     obtain ⟨n3, e3, rfl, HPS3, HE3, HN3⟩ := hcut;obtain ⟨wk3, rfl⟩ : ∃ wk : World, wk = wc := ⟨_, rfl⟩
     clear HPS2 HE2 HC3 HX3
     go_upto_region 26 with fail
     go_cut [17] (fun v wc => ∃ (n : Int) (x : Value), v = .int .u64 n ∧ Hid (PSt w wc g c ge l x) ∧ Hid (ErrSt x (((((true && r0.isSome) && r1.isSome) && r2.isSome) && r3.isSome) && r4.isSome)) ∧ Hid (((((true && r0.isSome) && r1.isSome) && r2.isSome) && r3.isSome) = true → ∀ b, r4 = some b → n = b))
     case first =>
      have hc4 : wk3.cell? ⟨g, 4, none⟩ = some (.string x4) := HPS3.out.txt.at_ 4 _ HX4.out;have hgl : g < wk3.heap.size := HPS3.out.txt.lt;refine start_ (n := 7) (S := fun w' => w'.cell? ⟨g, 4, none⟩ = some (.string x4)) (ds := [5]) #[false, false, false, false, false, false, false] (by kernel_rfl) rfl rfl (hc4) (fun hHeld => ?_);refine pure_ (i := 0) (N := some 98) (v := ?_) (a' := ?_) #[true, false, false, false, false, false, false] rfl rfl (by kernel_rfl) (fun _ _ _ h => h) (Or.inl ⟨by rfl, ?_⟩) ?_ ?_;rotate_left
      ·intro w'
       go_simp
       with_reducible rfl
      rotate_left
      ·simp only [Act.put, List.setIfInBounds_toArray, List.set_cons_zero, List.set_cons_succ, i64_w, i32_w];rfl
      refine pure_ (i := 1) (N := some 99) (v := ?_) (a' := ?_) #[true, true, false, false, false, false, false] rfl rfl (by kernel_rfl) (fun _ _ _ h => h) (Or.inl ⟨by rfl, ?_⟩) ?_ ?_;rotate_left
      ·intro w'
       go_simp
       with_reducible rfl
      rotate_left
      ·simp only [Act.put, List.setIfInBounds_toArray, List.set_cons_zero, List.set_cons_succ, i64_w, i32_w];rfl
      refine pure_ (i := 2) (N := some 100) (v := ?_) (a' := ?_) #[true, true, true, false, false, false, false] rfl rfl (by kernel_rfl) (fun _ _ _ h => h) (Or.inl ⟨by rfl, ?_⟩) ?_ ?_;rotate_left
      ·intro w'
       go_simp
       with_reducible rfl
      rotate_left
      ·simp only [Act.put, List.setIfInBounds_toArray, List.set_cons_zero, List.set_cons_succ, i64_w, i32_w];rfl
      refine take_ (i := 3) (N := some 101) (v := ?_) (a' := ?_) #[true, true, true, true, false, false, false] rfl rfl (by kernel_rfl) (fun _ _ _ h => h) (Or.inl ⟨by rfl, ?_⟩) hHeld ?_ ?_;rotate_left
      ·intro w' s0
       go_simp
       with_reducible rfl
      rotate_left
      ·simp only [Act.put, List.setIfInBounds_toArray, List.set_cons_zero, List.set_cons_succ, i64_w, i32_w];rfl
      refine one_ (i := 4) (N := some 102) #[true, true, true, true, true, false, false] rfl rfl (by kernel_rfl) (by decide) (fun K hK => ?_);refine goes_ Tryz.func110 (by kernel_rfl) rfl #[] (by rfl) rfl rfl (by simp only [List.map_toArray, List.map_nil]) ?_
      with_reducible refine (bounds4 _ (HGW.out _ (HPS3.out.bel.drew))).mono ?_
      rintro e w4 ⟨m, Inv, rfl, hR, hI, hb4⟩;refine ⟨_, rfl, ?_⟩;refine hK.out _ _ ((hb4.cell (p := ⟨g, 4, none⟩) hgl).trans hc4) (fun hHeld => ?_);clear hK K;refine norm_ (a' := ?_) ?_ ?_;rotate_left
      ·show Act.put _ (some 102) _ = _
       simp only [Act.put, List.setIfInBounds_toArray, List.set_cons_zero, List.set_cons_succ, i64_w, i32_w];rfl
      refine last_ (i := 5) (N := some 103) #[true, true, true, true, true, true, false] rfl rfl (by kernel_rfl) (by decide) (fun K hK => ?_);have HP4 := Lib.hid ((HPS3.out.below ((Below.refl _ _).drew)).below hb4);refine goesV_ Tryz.func104 (by kernel_rfl) rfl #[.string x4, .agg #[.int .u64 (loK 4 : Nat), .int .u64 (hiK 4 : Nat), .map m]] #[.pointer (some ⟨ge, 0, none⟩)] #[.string x4, .agg #[.int .u64 (loK 4 : Nat), .int .u64 (hiK 4 : Nat), .map m], .pointer (some ⟨ge, 0, none⟩)] rfl (by rfl) (by rfl) rfl rfl (by simp only [List.map_toArray, List.map_cons, List.map_nil]; rfl) ?_
      with_reducible refine (HC4.out m Inv hR _ hI HP4.out.lt e3 ((((true && r0.isSome) && r1.isSome) && r2.isSome) && r3.isSome) HE3.out HP4.out.err HP4.out.free).mono ?_
      rintro e w5 ⟨n, x, rfl, hl5, he5, hn5⟩;refine ⟨_, rfl, ?_⟩;have HP5 := Lib.hid (HP4.out.left hl5);have HE5 := Lib.hid he5;have HN5 := Lib.hid hn5;clear hl5 he5 hn5;refine hK.out _ _ ?_;clear hK K;refine norm_ (a' := ?_) ?_ ?_;rotate_left
      ·show Act.put _ (some 103) _ = _
       simp only [Act.put, List.setIfInBounds_toArray, List.set_cons_zero, List.set_cons_succ, i64_w, i32_w];rfl
      refine pure_ (i := 6) (N := some 17) (v := ?_) (a' := ?_) #[true, true, true, true, true, true, true] rfl rfl (by kernel_rfl) (fun _ _ _ h => h) (Or.inl ⟨by rfl, ?_⟩) ?_ ?_;rotate_left
      ·intro w'
       go_simp
       with_reducible rfl
      rotate_left
      ·simp only [Act.put, List.setIfInBounds_toArray, List.set_cons_zero, List.set_cons_succ, i64_w, i32_w];rfl
      refine done_ (by kernel_rfl) ?_
      go_wp2_with fail
      go_meet
      exact ⟨n, x, rfl, HP5, HE5, HN5⟩
     case rest =>
     obtain ⟨n4, e4, rfl, HPS4, HE4, HN4⟩ := hcut;obtain ⟨wk4, rfl⟩ : ∃ wk : World, wk = wc := ⟨_, rfl⟩
     clear HPS3 HE3 HC4 HX4
     go_upto_region 27 with fail
     go_cut [18] (fun v wc => ∃ (n : Int) (x : Value), v = .int .u64 n ∧ Hid (PSt w wc g c ge l x) ∧ Hid (ErrSt x ((((((true && r0.isSome) && r1.isSome) && r2.isSome) && r3.isSome) && r4.isSome) && r5.isSome)) ∧ Hid ((((((true && r0.isSome) && r1.isSome) && r2.isSome) && r3.isSome) && r4.isSome) = true → ∀ b, r5 = some b → n = b))
     case first =>
      have hc5 : wk4.cell? ⟨g, 5, none⟩ = some (.string x5) := HPS4.out.txt.at_ 5 _ HX5.out;have hgl : g < wk4.heap.size := HPS4.out.txt.lt;refine start_ (n := 7) (S := fun w' => w'.cell? ⟨g, 5, none⟩ = some (.string x5)) (ds := [5]) #[false, false, false, false, false, false, false] (by kernel_rfl) rfl rfl (hc5) (fun hHeld => ?_);refine pure_ (i := 0) (N := some 104) (v := ?_) (a' := ?_) #[true, false, false, false, false, false, false] rfl rfl (by kernel_rfl) (fun _ _ _ h => h) (Or.inl ⟨by rfl, ?_⟩) ?_ ?_;rotate_left
      ·intro w'
       go_simp
       with_reducible rfl
      rotate_left
      ·simp only [Act.put, List.setIfInBounds_toArray, List.set_cons_zero, List.set_cons_succ, i64_w, i32_w];rfl
      refine pure_ (i := 1) (N := some 105) (v := ?_) (a' := ?_) #[true, true, false, false, false, false, false] rfl rfl (by kernel_rfl) (fun _ _ _ h => h) (Or.inl ⟨by rfl, ?_⟩) ?_ ?_;rotate_left
      ·intro w'
       go_simp
       with_reducible rfl
      rotate_left
      ·simp only [Act.put, List.setIfInBounds_toArray, List.set_cons_zero, List.set_cons_succ, i64_w, i32_w];rfl
      refine pure_ (i := 2) (N := some 106) (v := ?_) (a' := ?_) #[true, true, true, false, false, false, false] rfl rfl (by kernel_rfl) (fun _ _ _ h => h) (Or.inl ⟨by rfl, ?_⟩) ?_ ?_;rotate_left
      ·intro w'
       go_simp
       with_reducible rfl
      rotate_left
      ·simp only [Act.put, List.setIfInBounds_toArray, List.set_cons_zero, List.set_cons_succ, i64_w, i32_w];rfl
      refine take_ (i := 3) (N := some 107) (v := ?_) (a' := ?_) #[true, true, true, true, false, false, false] rfl rfl (by kernel_rfl) (fun _ _ _ h => h) (Or.inl ⟨by rfl, ?_⟩) hHeld ?_ ?_;rotate_left
      ·intro w' s0
       go_simp
       with_reducible rfl
      rotate_left
      ·simp only [Act.put, List.setIfInBounds_toArray, List.set_cons_zero, List.set_cons_succ, i64_w, i32_w];rfl
      refine one_ (i := 4) (N := some 108) #[true, true, true, true, true, false, false] rfl rfl (by kernel_rfl) (by decide) (fun K hK => ?_);refine goes_ Tryz.func111 (by kernel_rfl) rfl #[] (by rfl) rfl rfl (by simp only [List.map_toArray, List.map_nil]) ?_
      with_reducible refine (bounds5 _ (HGW.out _ (HPS4.out.bel.drew))).mono ?_
      rintro e w4 ⟨m, Inv, rfl, hR, hI, hb4⟩;refine ⟨_, rfl, ?_⟩;refine hK.out _ _ ((hb4.cell (p := ⟨g, 5, none⟩) hgl).trans hc5) (fun hHeld => ?_);clear hK K;refine norm_ (a' := ?_) ?_ ?_;rotate_left
      ·show Act.put _ (some 108) _ = _
       simp only [Act.put, List.setIfInBounds_toArray, List.set_cons_zero, List.set_cons_succ, i64_w, i32_w];rfl
      refine last_ (i := 5) (N := some 109) #[true, true, true, true, true, true, false] rfl rfl (by kernel_rfl) (by decide) (fun K hK => ?_);have HP4 := Lib.hid ((HPS4.out.below ((Below.refl _ _).drew)).below hb4);refine goesV_ Tryz.func104 (by kernel_rfl) rfl #[.string x5, .agg #[.int .u64 (loK 5 : Nat), .int .u64 (hiK 5 : Nat), .map m]] #[.pointer (some ⟨ge, 0, none⟩)] #[.string x5, .agg #[.int .u64 (loK 5 : Nat), .int .u64 (hiK 5 : Nat), .map m], .pointer (some ⟨ge, 0, none⟩)] rfl (by rfl) (by rfl) rfl rfl (by simp only [List.map_toArray, List.map_cons, List.map_nil]; rfl) ?_
      with_reducible refine (HC5.out m Inv hR _ hI HP4.out.lt e4 (((((true && r0.isSome) && r1.isSome) && r2.isSome) && r3.isSome) && r4.isSome) HE4.out HP4.out.err HP4.out.free).mono ?_
      rintro e w5 ⟨n, x, rfl, hl5, he5, hn5⟩;refine ⟨_, rfl, ?_⟩;have HP5 := Lib.hid (HP4.out.left hl5);have HE5 := Lib.hid he5;have HN5 := Lib.hid hn5;clear hl5 he5 hn5;refine hK.out _ _ ?_;clear hK K;refine norm_ (a' := ?_) ?_ ?_;rotate_left
      ·show Act.put _ (some 109) _ = _
       simp only [Act.put, List.setIfInBounds_toArray, List.set_cons_zero, List.set_cons_succ, i64_w, i32_w];rfl
      refine pure_ (i := 6) (N := some 18) (v := ?_) (a' := ?_) #[true, true, true, true, true, true, true] rfl rfl (by kernel_rfl) (fun _ _ _ h => h) (Or.inl ⟨by rfl, ?_⟩) ?_ ?_;rotate_left
      ·intro w'
       go_simp
       with_reducible rfl
      rotate_left
      ·simp only [Act.put, List.setIfInBounds_toArray, List.set_cons_zero, List.set_cons_succ, i64_w, i32_w];rfl
      refine done_ (by kernel_rfl) ?_
      go_wp2_with fail
      go_meet
      exact ⟨n, x, rfl, HP5, HE5, HN5⟩
     case rest =>
     obtain ⟨n5, e5, rfl, HPS5, HE5, HN5⟩ := hcut;obtain ⟨wk5, rfl⟩ : ∃ wk : World, wk = wc := ⟨_, rfl⟩
     clear HPS4 HE4 HC5 HX5;have hcE := HPS5.out.err;have hB6 := Lib.hid HPS5.out.bel;clear HPS5
     cases hok : (((((true && r0.isSome) && r1.isSome) && r2.isSome) && r3.isSome) && r4.isSome && r5.isSome) with
     | true =>
      have hk : r0.isSome = true ∧ r1.isSome = true ∧ r2.isSome = true ∧ r3.isSome = true ∧ r4.isSome = true ∧ r5.isSome = true := by
       simpa [Bool.and_eq_true, and_assoc] using hok
      obtain ⟨k0, k1, k2, k3, k4, k5⟩ := hk;obtain ⟨b0, rfl⟩ := Option.isSome_iff_exists.1 k0;obtain ⟨b1, rfl⟩ := Option.isSome_iff_exists.1 k1;obtain ⟨b2, rfl⟩ := Option.isSome_iff_exists.1 k2;obtain ⟨b3, rfl⟩ := Option.isSome_iff_exists.1 k3;obtain ⟨b4, rfl⟩ := Option.isSome_iff_exists.1 k4;obtain ⟨b5, rfl⟩ := Option.isSome_iff_exists.1 k5;obtain rfl := HN0.out rfl b0 rfl;obtain rfl := HN1.out rfl b1 rfl;obtain rfl := HN2.out rfl b2 rfl;obtain rfl := HN3.out rfl b3 rfl;obtain rfl := HN4.out rfl b4 rfl;obtain rfl := HN5.out rfl b5 rfl;have he5 := errSt_ok HE5.out rfl;subst he5;have HX6 : Hid (fieldsG s o = some [b0, b1, b2, b3, b4, b5]) := Lib.hid (by rw [HX.out]; exact HS.out b0 b1 b2 b3 b4 b5 rfl rfl rfl rfl rfl rfl);clear hok k0 k1 k2 k3 k4 k5 HN HN0 HN1 HN2 HN3 HN4 HN5 HS HE5
      go_wp2_with fail
      go_ret2
      rw [HPG.out, HX6.out];exact ⟨⟨wk5.heap.size, loc, rfl, heap_alloc_new wk5 _⟩, hB6.out.alloc hB6.out.size _⟩
     | false =>
      obtain ⟨t, x, rfl⟩ := errSt_bad HE5.out (by simpa [Bool.and_assoc] using hok);have HX6 : Hid (fieldsG s o = none) := Lib.hid (by rw [HX.out]; exact HN.out hok);clear hok
      go_wp2_with fail
      go_quiet (fail)
      go_wp2_with fail
      go_ret2
      rw [HPG.out, HX6.out];exact ⟨⟨t, x, rfl⟩, below_of_le hB6.out (below_drewN _ nq)⟩
  ·intro HT;clear hK;have hb0 : Below w.heap.size w (w.alloc (.cells #[.int .i64 o] 105)) := (Below.refl _ _).alloc (Nat.le_refl _) _;have hc0 : (w.alloc (.cells #[.int .i64 o] 105)).cell? ⟨w.heap.size, 0, none⟩ = some (.int .i64 o) := by simp [go_sem]
   have hl0 : w.heap.size < (w.alloc (.cells #[.int .i64 o] 105)).heap.size := by simp
   generalize w.alloc (.cells #[.int .i64 o] 105) = w0 at *;have hga0 : GA w0 := hga.below hb0
   by_cases hz : zoneZ s0 = 0
   ·obtain ⟨p1, p2⟩ := zoneZ_zero hz;have HPR : Hid (progS o s0 = plainG o s0) := Lib.hid (by unfold progS; rw [if_neg h0, if_pos hz]);have HP1 : Hid (∀ w' : World, Calls Tryz.prog 97 #[.string s0, .string ⟨#[84, 90, 61]⟩] w' fun e w'' => e = .returned (.bool false) ∧ w' = w'') := Lib.hid fun w' => (Tryz.strings_HasPrefix s0 ⟨#[84, 90, 61]⟩ w').mono fun e w'' hh => ⟨hh.1.trans (by rw [show (⟨#[84, 90, 61]⟩ : ByteArray).data.toList = [84, 90, 61] from rfl, p1]), hh.2.symm⟩
    have HP2 : Hid (∀ w' : World, Calls Tryz.prog 97 #[.string s0, .string ⟨#[67, 82, 79, 78, 95, 84, 90, 61]⟩] w' fun e w'' => e = .returned (.bool false) ∧ w' = w'') := Lib.hid fun w' => (Tryz.strings_HasPrefix s0 ⟨#[67, 82, 79, 78, 95, 84, 90, 61]⟩ w').mono fun e w'' hh => ⟨hh.1.trans (by rw [show (⟨#[67, 82, 79, 78, 95, 84, 90, 61]⟩ : ByteArray).data.toList = [67, 82, 79, 78, 95, 84, 90, 61] from rfl, p2]), hh.2.symm⟩
    go_wp2_with fail
    refine (HP1.out _).mono ?_;rintro e w1 ⟨rfl, rfl⟩
    go_wp2_with fail
    refine (HP2.out _).mono ?_;rintro e w1 ⟨rfl, rfl⟩
    go_wp2_with fail
    refine HT.out _ _ ?_;exact ⟨rfl, rfl, rfl, rfl, rfl, s0, none, rfl, rfl, hs0, HPR, hb0, hc0, hl0⟩
   ·have hm := hsp hz;have hse := tw_le (fun c => c != 32) s0.data.toList;have HI := Lib.hid (fun w' => cron_zzIndex.calls (s0.size + 1) s0 (ba [32]) _ w' (index_is 32 s0 hs0 hm));have hspd : spaceAt s0 = (s0.data.toList.takeWhile (fun c => c != 32)).length := rfl;rw [← hspd] at HI hse
    rw [← size_list] at hse;have HPR : Hid (progS o s0 = if zoneOk (s0.extract (zoneZ s0) (spaceAt s0)).data.toList = true then plainG o (trimZ (s0.extract (spaceAt s0) s0.size)) else none) := Lib.hid (by unfold progS; rw [if_neg h0, if_neg hz]);have hrest := str_from' s0 (spaceAt s0) hse;have htz := trimZ_size (s0.extract (spaceAt s0) s0.size);have hex : (s0.extract (spaceAt s0) s0.size).size ≤ s0.size := by rw [ByteArray.size_extract]; omega
    have HTR := Lib.hid (fun w' h => trim_any (s0.extract (spaceAt s0) s0.size) (by omega) w' h)
    cases p1 : Lib.hasPrefix s0.data.toList [84, 90, 61] with
    | true =>
     have HP1 : Hid (∀ w' : World, Calls Tryz.prog 97 #[.string s0, .string ⟨#[84, 90, 61]⟩] w' fun e w'' => e = .returned (.bool true) ∧ w' = w'') := Lib.hid fun w' => (Tryz.strings_HasPrefix s0 ⟨#[84, 90, 61]⟩ w').mono fun e w'' hh => ⟨hh.1.trans (by rw [show (⟨#[84, 90, 61]⟩ : ByteArray).data.toList = [84, 90, 61] from rfl, p1]), hh.2.symm⟩
     have hzn : zoneZ s0 = 3 := by unfold zoneZ; rw [if_pos p1]
     obtain ⟨t, ht⟩ : ∃ t, s0.data.toList = 84 :: 90 :: 61 :: t := by
      obtain ⟨t, ht⟩ := List.isPrefixOf_iff_prefix.1 p1;exact ⟨t, ht.symm⟩
     clear p1;have HE := Lib.hid (fun w' => cron_zzIndex.calls (s0.size + 1) s0 (ba [61]) _ w' (index_is 61 s0 hs0 (by rw [ht]; simp)));have he : (s0.data.toList.takeWhile (fun x => x != 61)).length = 2 := by rw [ht]; rfl
     have hns : 3 ≤ spaceAt s0 := by rw [hspd, ht]; simp [List.takeWhile]
     rw [he] at HE;rw [hzn] at HPR;have hsub : ∀ w' : World, (Instr.slice 9 (.string s0) (some (.int .i64 3)) (some (.int .i64 (spaceAt s0 : Nat))) none).run Tryz.prog w' = .ok (.string (s0.extract 3 (spaceAt s0))) w' := fun w' => str_sub s0 3 (spaceAt s0) hns hse w'
     have HL := Lib.hid (fun w' h => loadLoc_any (s0.extract 3 (spaceAt s0)) (by rw [ByteArray.size_extract]; omega) w' h);generalize zoneOk (s0.extract 3 (spaceAt s0)).data.toList = zb at *;clear ht he hspd hm hns
     go_wp2_with fail
     refine (HP1.out _).mono ?_;rintro e w1 ⟨rfl, rfl⟩
     go_wp2_with fail
     refine (HI.out _).mono ?_;rintro e w2 ⟨rfl, hd⟩;have hb2 := below_of_le hb0 hd.below;have hc2 := (hd.below.cell (p := ⟨w.heap.size, 0, none⟩) hl0).trans hc0;have hl2 : w.heap.size < w2.heap.size := Nat.lt_of_lt_of_le hl0 hd.below.size;clear hd hb0 hc0 hl0 HI
     go_wp2_with fail
     refine (HE.out _).mono ?_;rintro e w3 ⟨rfl, hd⟩;have hb3 := below_of_le hb2 hd.below;have hc3 := (hd.below.cell (p := ⟨w.heap.size, 0, none⟩) hl2).trans hc2;have hl3 : w.heap.size < w3.heap.size := Nat.lt_of_lt_of_le hl2 hd.below.size;clear hd hb2 hc2 hl2 HE;have HG3 := Lib.hid (hga.below hb3)
     go_wp2_with fail
     refine (HL.out _ HG3.out.l).mono ?_;rintro e w4 ⟨hla, hb⟩;have hb4 := below_of_le hb3 hb;have hc4 := (hb.cell (p := ⟨w.heap.size, 0, none⟩) hl3).trans hc3;have hl4 : w.heap.size < w4.heap.size := Nat.lt_of_lt_of_le hl3 hb.size;clear hb hb3 hc3 hl3 HL HG3;have HG4 := Lib.hid (hga.below hb4)
     cases zb with
     | false =>
      obtain ⟨t, x, rfl⟩ := hla;have HN : Hid (progS o s0 = none) := Lib.hid (by rw [HPR.out]; rfl);clear HPR
      go_wp2_with fail
      refine (errorsNew_any _ _).mono ?_;rintro e w5 ⟨t, x, rfl, hb⟩
      go_wp2_with fail
      go_ret2
      rw [HN.out];exact ⟨⟨t, x, rfl⟩, below_of_le hb4 hb⟩
     | true =>
      obtain ⟨loc, rfl⟩ := hla;have HN : Hid (progS o s0 = plainG o (trimZ (s0.extract (spaceAt s0) s0.size))) := Lib.hid (by rw [HPR.out]; rfl);clear HPR
      go_wp2_with fail
      refine (HTR.out _ HG4.out.u).mono ?_;rintro e w5 ⟨rfl, hb⟩;have hb5 := below_of_le hb4 hb;have hc5 := (hb.cell (p := ⟨w.heap.size, 0, none⟩) hl4).trans hc4;have hl5 : w.heap.size < w5.heap.size := Nat.lt_of_lt_of_le hl4 hb.size;clear hb hb4 hc4 hl4 HTR HG4
      go_wp2_with fail
      refine HT.out _ _ ?_;exact ⟨rfl, rfl, rfl, rfl, rfl, _, loc, rfl, rfl, by omega, HN, hb5, hc5, hl5⟩
    | false =>
     have HP1 : Hid (∀ w' : World, Calls Tryz.prog 97 #[.string s0, .string ⟨#[84, 90, 61]⟩] w' fun e w'' => e = .returned (.bool false) ∧ w' = w'') := Lib.hid fun w' => (Tryz.strings_HasPrefix s0 ⟨#[84, 90, 61]⟩ w').mono fun e w'' hh => ⟨hh.1.trans (by rw [show (⟨#[84, 90, 61]⟩ : ByteArray).data.toList = [84, 90, 61] from rfl, p1]), hh.2.symm⟩
     have p2 : Lib.hasPrefix s0.data.toList [67, 82, 79, 78, 95, 84, 90, 61] = true := by
      cases p2 : Lib.hasPrefix s0.data.toList [67, 82, 79, 78, 95, 84, 90, 61] with
      | true => rfl
      | false => exact absurd (by unfold zoneZ; rw [p1, p2]; rfl) hz
     have HP2 : Hid (∀ w' : World, Calls Tryz.prog 97 #[.string s0, .string ⟨#[67, 82, 79, 78, 95, 84, 90, 61]⟩] w' fun e w'' => e = .returned (.bool true) ∧ w' = w'') := Lib.hid fun w' => (Tryz.strings_HasPrefix s0 ⟨#[67, 82, 79, 78, 95, 84, 90, 61]⟩ w').mono fun e w'' hh => ⟨hh.1.trans (by rw [show (⟨#[67, 82, 79, 78, 95, 84, 90, 61]⟩ : ByteArray).data.toList = [67, 82, 79, 78, 95, 84, 90, 61] from rfl, p2]), hh.2.symm⟩
     have hzn : zoneZ s0 = 8 := by unfold zoneZ; rw [p1, p2]; rfl
     obtain ⟨t, ht⟩ : ∃ t, s0.data.toList = 67 :: 82 :: 79 :: 78 :: 95 :: 84 :: 90 :: 61 :: t := by
      obtain ⟨t, ht⟩ := List.isPrefixOf_iff_prefix.1 p2;exact ⟨t, ht.symm⟩
     clear p2;clear p1;have HE := Lib.hid (fun w' => cron_zzIndex.calls (s0.size + 1) s0 (ba [61]) _ w' (index_is 61 s0 hs0 (by rw [ht]; simp)));have he : (s0.data.toList.takeWhile (fun x => x != 61)).length = 7 := by rw [ht]; rfl
     have hns : 8 ≤ spaceAt s0 := by rw [hspd, ht]; simp [List.takeWhile]
     rw [he] at HE;rw [hzn] at HPR;have hsub : ∀ w' : World, (Instr.slice 9 (.string s0) (some (.int .i64 8)) (some (.int .i64 (spaceAt s0 : Nat))) none).run Tryz.prog w' = .ok (.string (s0.extract 8 (spaceAt s0))) w' := fun w' => str_sub s0 8 (spaceAt s0) hns hse w'
     have HL := Lib.hid (fun w' h => loadLoc_any (s0.extract 8 (spaceAt s0)) (by rw [ByteArray.size_extract]; omega) w' h);generalize zoneOk (s0.extract 8 (spaceAt s0)).data.toList = zb at *;clear ht he hspd hm hns
     go_wp2_with fail
     refine (HP1.out _).mono ?_;rintro e w1 ⟨rfl, rfl⟩
     go_wp2_with fail
     refine (HP2.out _).mono ?_;rintro e w1 ⟨rfl, rfl⟩
     go_wp2_with fail
     refine (HI.out _).mono ?_;rintro e w2 ⟨rfl, hd⟩;have hb2 := below_of_le hb0 hd.below;have hc2 := (hd.below.cell (p := ⟨w.heap.size, 0, none⟩) hl0).trans hc0;have hl2 : w.heap.size < w2.heap.size := Nat.lt_of_lt_of_le hl0 hd.below.size;clear hd hb0 hc0 hl0 HI
     go_wp2_with fail
     refine (HE.out _).mono ?_;rintro e w3 ⟨rfl, hd⟩;have hb3 := below_of_le hb2 hd.below;have hc3 := (hd.below.cell (p := ⟨w.heap.size, 0, none⟩) hl2).trans hc2;have hl3 : w.heap.size < w3.heap.size := Nat.lt_of_lt_of_le hl2 hd.below.size;clear hd hb2 hc2 hl2 HE;have HG3 := Lib.hid (hga.below hb3)
     go_wp2_with fail
     refine (HL.out _ HG3.out.l).mono ?_;rintro e w4 ⟨hla, hb⟩;have hb4 := below_of_le hb3 hb;have hc4 := (hb.cell (p := ⟨w.heap.size, 0, none⟩) hl3).trans hc3;have hl4 : w.heap.size < w4.heap.size := Nat.lt_of_lt_of_le hl3 hb.size;clear hb hb3 hc3 hl3 HL HG3;have HG4 := Lib.hid (hga.below hb4)
     cases zb with
     | false =>
      obtain ⟨t, x, rfl⟩ := hla;have HN : Hid (progS o s0 = none) := Lib.hid (by rw [HPR.out]; rfl);clear HPR
      go_wp2_with fail
      refine (errorsNew_any _ _).mono ?_;rintro e w5 ⟨t, x, rfl, hb⟩
      go_wp2_with fail
      go_ret2
      rw [HN.out];exact ⟨⟨t, x, rfl⟩, below_of_le hb4 hb⟩
     | true =>
      obtain ⟨loc, rfl⟩ := hla;have HN : Hid (progS o s0 = plainG o (trimZ (s0.extract (spaceAt s0) s0.size))) := Lib.hid (by rw [HPR.out]; rfl);clear HPR
      go_wp2_with fail
      refine (HTR.out _ HG4.out.u).mono ?_;rintro e w5 ⟨rfl, hb⟩;have hb5 := below_of_le hb4 hb;have hc5 := (hb.cell (p := ⟨w.heap.size, 0, none⟩) hl4).trans hc4;have hl5 : w.heap.size < w5.heap.size := Nat.lt_of_lt_of_le hl4 hb.size;clear hb hb4 hc4 hl4 HTR HG4
      go_wp2_with fail
      refine HT.out _ _ ?_;exact ⟨rfl, rfl, rfl, rfl, rfl, _, loc, rfl, rfl, by omega, HN, hb5, hc5, hl5⟩
end Go.Proofs.YtmecbmgfacpecaaGreatDoor.Cron
namespace Go.Proofs.YtmecbmgfacpecaaGreatDoor.Cron
open Go Go.RowKit Go.Proofs.YtmecbmgfacpecaaGreatDoor.Text Go.Proofs.YtmecbmgfacpecaaGreatDoor.Bits Go.Proofs.YtmecbmgfacpecaaGreatDoorW.PrintWords Go.Proofs.YtmecbmgfacpecaaGreatDoorW.PrintLast Go.Proofs.YtmecbmgfacpecaaGreatDoorW.PrintMore
set_option linter.unusedVariables false
set_option linter.unusedSimpArgs false
def delayCells (d : Int) : Array Value := #[.bool true, .int .i64 d, .int .u64 0, .int .u64 0, .int .u64 0, .int .u64 0, .int .u64 0, .int .u64 0]
def gotCells (r : Option Got) : Array Value := match r with
 | some (.bits l) => schedCells l
 | some (.delay d) => delayCells d
 | none => noSched
theorem delay_one (d : Int) : (delayCells d).all (·.oneCell') = true := by simp [delayCells, Value.oneCell']
theorem got_one (r : Option Got) : (gotCells r).all (·.oneCell') = true := by
 cases r with
 | none => exact noSched_one
 | some x =>
  cases x with
  | bits l => exact sched_one l
  | delay d => exact delay_one d
theorem got_size (r : Option Got) : (gotCells r).size = 8 := by
 cases r with
 | none => rfl
 | some x => cases x <;> rfl
set_option maxRecDepth 100000 in
theorem plainSched_delay (d : Int) (w : World) :
  Calls Tryz.prog 46 #[.iface 174 (.agg #[.int .i64 d]), .nilIface] w fun e w' => e = .returned (.tuple #[.agg (delayCells d), .bool true]) ∧ Below w.heap.size w w' := by
 have hta : ∀ (v : Value) (w : World), (Instr.typeAssert (.iface 174 v) 110 169 true).run Tryz.prog w = .ok (.tuple #[.pointer none, .bool false]) w := fun v w => by rfl
 have htb : ∀ (v : Value) (w : World), (Instr.typeAssert (.iface 174 v) 110 174 true).run Tryz.prog w = .ok (.tuple #[v, .bool true]) w := fun v w => by rfl
 go_enter Tryz.func46, Tryz.ntmps46
 go_wp2_with fail
 refine bodyPost_ret (v := .tuple #[.agg (delayCells d), .bool true]) ?_ rfl ⟨rfl, ((Below.refl _ _).alloc (Nat.le_refl _) _).alloc (by simp) _⟩;exact results_sched (fn := Tryz.f46) (p := 4) (u := 5) rfl _ _ w.heap.size (delayCells d) rfl rfl (((Below.refl _ _).alloc (Nat.le_refl _) _ |>.block _ (by simp)).trans (heap_alloc_new w _))
def cronS (o : Nat) (s : ByteArray) : Option Got := if twoB o = true then none else progS o s
def CronGAns (w : World) (r : Option Got) (e : Ending) (w' : World) : Prop := e = .returned (.tuple #[.agg (gotCells r), .bool r.isSome]) ∧ Below w.heap.size w w'
set_option maxRecDepth 100000 in
theorem parseCronG_any (o : Nat) (ho : o < 512) (s : ByteArray) (hs : s.size ≤ 4294967296) (hsp : zoneZ s ≠ 0 → (32 : UInt8) ∈ s.data.toList) (w : World) (hga : GA w) :
  Calls Tryz.prog 11 #[.int .i64 o, .string s] w (CronGAns w (cronS o s)) := by
 unfold cronS CronGAns
 by_cases htw : twoB o = true
 ·rw [if_pos htw];have HP := Lib.hid (fun w' => parser_bad o ho ((twoB_iff o).1 htw) w');clear htw hsp
  go_enter Tryz.func11, Tryz.ntmps11
  go_wp2_with fail
  refine (HP.out _).mono ?_;rintro e w1 ⟨rfl, hb1⟩;have hrow : w1.heap[w.heap.size]? = some (.cells noSched 26 (0, 0)) := (hb1.block _ (by simp)).trans (heap_alloc_new w _);have hB1 : Below w.heap.size w w1 := ((Below.refl _ _).alloc (Nat.le_refl _) _).trans (hb1.mono (by simp));have hlt1 : w.heap.size < w1.heap.size := (Array.getElem?_eq_some_iff.1 hrow).1;clear hb1;have hrow2 : (w1.alloc (.cells #[.int .i64 0] 105)).heap[w.heap.size]? = some (.cells noSched 26 (0, 0)) := ((Below.refl w1.heap.size w1).alloc (Nat.le_refl _) _ |>.block _ hlt1).trans hrow
  go_wp2_with (refine wpList_store_sched rfl _ _ rfl w.heap.size noSched noSched rfl rfl rfl noSched_one rfl hrow2 ?_)
  refine bodyPost_ret (v := .tuple #[.agg noSched, .bool false]) ?_ rfl ⟨rfl, ?_⟩
  ·exact results_sched (fn := Tryz.f11) (p := 4) (u := 5) rfl _ _ w.heap.size _ rfl rfl (setRow_heap _ _ _ _ _ _ hrow2)
  ·exact below_setRow (hB1.alloc hB1.size _) (Nat.le_refl _) _
 ·rw [if_neg htw];have HP := Lib.hid (fun w' => parser_ok o ho (fun h => htw ((twoB_iff o).2 h)) w');have HC := Lib.hid (fun w' hg' => parse_any o ho s hs hsp w' hg');have HG := Lib.hid (fun w' (h : Below w.heap.size w w') => hga.below h);clear htw hga hsp;generalize progS o s = r at *
  go_enter Tryz.func11, Tryz.ntmps11
  go_wp2_with fail
  refine (HP.out _).mono ?_;rintro e w1 ⟨rfl, hb1⟩;have hrow : w1.heap[w.heap.size]? = some (.cells noSched 26 (0, 0)) := (hb1.block _ (by simp)).trans (heap_alloc_new w _);have hB1 : Below w.heap.size w w1 := ((Below.refl _ _).alloc (Nat.le_refl _) _).trans (hb1.mono (by simp));have hlt1 : w.heap.size < w1.heap.size := (Array.getElem?_eq_some_iff.1 hrow).1;clear hb1;have HB1 := Lib.hid hB1;have HROW := Lib.hid hrow;clear hB1 hrow
  go_wp2_with fail
  refine (HC.out _ (HG.out _ (HB1.out.alloc HB1.out.size _))).mono ?_;intro e w2 hP;obtain ⟨hres, hb2⟩ := hP;have HB2 := Lib.hid (below_of_le (HB1.out.alloc HB1.out.size _) hb2);have hrow2 : w2.heap[w.heap.size]? = some (.cells noSched 26 (0, 0)) := (hb2.block _ (by simp; omega)).trans (((Below.refl w1.heap.size w1).alloc (Nat.le_refl _) _ |>.block _ hlt1).trans HROW.out);have HROW2 := Lib.hid hrow2;clear hb2 hrow2 HC HG HP HROW HB1
  cases r with
  | none =>
   obtain ⟨t, x, rfl⟩ := hres
   go_wp2_with fail
   refine (plainSched_bad _ _ _ _).mono ?_;rintro e w3 ⟨rfl, hb3⟩;have hrow3 := (hb3.block _ (Array.getElem?_eq_some_iff.1 HROW2.out).1).trans HROW2.out;have HROW3 := Lib.hid hrow3;have HB3 := Lib.hid (below_of_le HB2.out hb3);clear hrow3 hb3
   go_wp2_with (refine wpList_store_sched rfl _ _ rfl w.heap.size noSched noSched rfl rfl rfl noSched_one rfl HROW3.out ?_)
   refine bodyPost_ret (v := .tuple #[.agg noSched, .bool false]) ?_ rfl ⟨rfl, ?_⟩
   ·exact results_sched (fn := Tryz.f11) (p := 4) (u := 5) rfl _ _ w.heap.size _ rfl rfl (setRow_heap _ _ _ _ _ _ HROW3.out)
   ·exact below_setRow HB3.out (Nat.le_refl _) _
  | some y =>
   cases y with
   | bits l =>
    obtain ⟨g, loc, rfl, hg⟩ := hres;have HGG := Lib.hid hg;clear hg
    go_wp2_with fail
    refine (plainSched_ok l g loc _ HGG.out).mono ?_;rintro e w3 ⟨rfl, hb3⟩;have hrow3 := (hb3.block _ (Array.getElem?_eq_some_iff.1 HROW2.out).1).trans HROW2.out;have HROW3 := Lib.hid hrow3;have HB3 := Lib.hid (below_of_le HB2.out hb3);clear hrow3 hb3
    go_wp2_with (refine wpList_store_sched rfl _ _ rfl w.heap.size (schedCells l) noSched rfl rfl rfl (sched_one l) rfl HROW3.out ?_)
    refine bodyPost_ret (v := .tuple #[.agg (schedCells l), .bool true]) ?_ rfl ⟨rfl, ?_⟩
    ·exact results_sched (fn := Tryz.f11) (p := 4) (u := 5) rfl _ _ w.heap.size _ rfl rfl (setRow_heap _ _ _ _ _ _ HROW3.out)
    ·exact below_setRow HB3.out (Nat.le_refl _) _
   | delay d =>
    obtain rfl := hres
    go_wp2_with fail
    refine (plainSched_delay d _).mono ?_;rintro e w3 ⟨rfl, hb3⟩;have hrow3 := (hb3.block _ (Array.getElem?_eq_some_iff.1 HROW2.out).1).trans HROW2.out;have HROW3 := Lib.hid hrow3;have HB3 := Lib.hid (below_of_le HB2.out hb3);clear hrow3 hb3
    go_wp2_with (refine wpList_store_sched rfl _ _ rfl w.heap.size (delayCells d) noSched rfl rfl rfl (delay_one d) rfl HROW3.out ?_)
    refine bodyPost_ret (v := .tuple #[.agg (delayCells d), .bool true]) ?_ rfl ⟨rfl, ?_⟩
    ·exact results_sched (fn := Tryz.f11) (p := 4) (u := 5) rfl _ _ w.heap.size _ rfl rfl (setRow_heap _ _ _ _ _ _ HROW3.out)
    ·exact below_setRow HB3.out (Nat.le_refl _) _
end Go.Proofs.YtmecbmgfacpecaaGreatDoor.Cron
namespace Go.Proofs.YtmecbmgfacpecaaGreatDoor.Cron
open Go Go.RowKit Go.Proofs.YtmecbmgfacpecaaGreatDoor.Text Go.Proofs.YtmecbmgfacpecaaGreatDoor.Bits Go.Proofs.YtmecbmgfacpecaaGreatDoorW.PrintWords Go.Proofs.YtmecbmgfacpecaaGreatDoorW.PrintLast Go.Proofs.YtmecbmgfacpecaaGreatDoorW.PrintMore Go.Proofs.YtmecbmgfacpecaaGreatDoor.Pr
set_option linter.unusedVariables false
set_option linter.unusedSimpArgs false
section
variable {P : Program}
theorem fold_get (off : Nat) : ∀ (l : List Value) (n : Nat) (cells : Array Value) (i : Nat), off + n + l.length ≤ cells.size →
  ((l.zipIdx n).foldl (fun cs (x : Value × Nat) => cs.setIfInBounds (off + x.2) x.1) cells)[i]? = if off + n ≤ i ∧ i < off + n + l.length then l[i - (off + n)]? else cells[i]?
 | [], n, cells, i, h => by
  rw [List.zipIdx_nil, List.foldl_nil, if_neg (by first | (simp; done) | (simp; omega))]
 | v :: l, n, cells, i, h => by
  rw [List.length_cons] at h;rw [List.zipIdx_cons, List.foldl_cons, fold_get off l (n + 1) _ i (by rw [Array.size_setIfInBounds]; omega), List.length_cons]
  by_cases h1 : i = off + n
  ·subst h1;rw [if_neg (by omega), if_pos (by omega), Array.getElem?_setIfInBounds, if_pos rfl, if_pos (by omega), Nat.sub_self];rfl
  ·by_cases h2 : off + n ≤ i ∧ i < off + n + (l.length + 1)
   ·rw [if_pos (by omega), if_pos h2, show i - (off + n) = i - (off + (n + 1)) + 1 by omega, List.getElem?_cons_succ]
   ·rw [if_neg (by omega), if_neg h2];rw [Array.getElem?_setIfInBounds];dsimp only;rw [if_neg (by omega)]
def Put (z : Array Value) (off : Nat) (v r : Array Value) : Prop := ∀ j, r[j]? = if off ≤ j ∧ j < off + v.size then v[j - off]? else z[j]?
theorem fill_off {place : Nat → Option (Nat × Nat)} {z : Array Value} {i : Nat} {v0 : Value} {r0 : Array Value} (h : Instr.fill place z [(i, v0)] = some r0) :
  ∃ off, off + v0.cells.size ≤ z.size ∧ Put z off v0.cells r0 ∧ ∀ v : Value, v.cells.size = v0.cells.size → ∃ r, Instr.fill place z [(i, v)] = some r ∧ Put z off v.cells r := by
 unfold Instr.fill at h
 cases hp : place i with
 | none => simp [hp] at h
 | some q =>
  obtain ⟨off, size⟩ := q;simp only [hp] at h
  by_cases hc : (decide (v0.cells.size ≠ size) || decide (off + v0.cells.size > z.size)) = true
  ·simp only [hc, if_true] at h;simp at h
  ·have hle : off + v0.cells.size ≤ z.size := by
    simp only [Bool.or_eq_true, decide_eq_true_eq, not_or] at hc;omega
   have put : ∀ cs : Array Value, off + cs.size ≤ z.size → Put z off cs (cs.zipIdx.foldl (fun cs (x : Value × Nat) => cs.setIfInBounds (off + x.2) x.1) z) := fun cs hcs j => by
    have := fold_get off cs.toList 0 z j (by simpa using hcs);rw [← Array.foldl_toList, Array.toList_zipIdx]
    simpa using this
   simp only [hc] at h;simp only [Bool.false_eq_true, if_false, Instr.fill, Option.some.injEq] at h;refine ⟨off, hle, ?_, fun v hv => ?_⟩
   ·rw [← h];exact put _ hle
   ·unfold Instr.fill;rw [← hv] at hc;simp only [hp, hc];simp only [Bool.false_eq_true, if_false, Instr.fill];exact ⟨_, rfl, put _ (by omega)⟩
theorem built_off {t : TypeId} {i : Nat} {z0 r0 : Array Value} {v0 : Value} (h0 : P.built t [] = some z0) (hv0 : P.built t [(i, v0)] = some r0) :
  ∃ off, off + v0.cells.size ≤ z0.size ∧ Put z0 off v0.cells r0 ∧ ∀ v : Value, v.cells.size = v0.cells.size → ∃ r, P.built t [(i, v)] = some r ∧ Put z0 off v.cells r := by
 unfold Program.built at h0 hv0 ⊢
 cases hit : P.info? t with
 | none => simp [hit] at h0
 | some it =>
  cases hu : P.underlying t with
  | none => simp [hit, hu] at h0
  | some d =>
   cases hzz : it.zero with
   | none => cases d <;> simp [hit, hu, hzz] at h0
   | some z =>
    cases d <;> try (simp [hit, hu] at h0; done)
    case array n e =>
     cases hie : P.info? e with
     | none => simp [hit, hu, hzz, hie] at h0
     | some ie =>
      simp only [hit, hu, hzz, hie, Instr.fill, Option.some.injEq] at h0;simp only [hit, hu, hzz, hie] at hv0 ⊢
      subst h0;exact fill_off hv0
    case struct fields =>
     cases hp : fields.toList.mapM (fun f => (P.info? f.type).map fun i => (f.offset, i.size)) with
     | none => simp [hit, hu, hzz, hp] at h0
     | some places =>
      simp only [hit, hu, hzz, hp, Instr.fill, Option.some.injEq] at h0;simp only [hit, hu, hzz, hp] at hv0 ⊢
      subst h0;exact fill_off hv0
end
noncomputable def markF : Array Value := zeroF.setIfInBounds 0 (.int .i64 77)
theorem markF_size : markF.size = 384 := by unfold markF; rw [Array.size_setIfInBounds, zeroF_size]
set_option maxRecDepth 100000 in
theorem markF_other : ∀ j : Nat, j ≠ 0 → markF[j]? ≠ some (.int .i64 77) := by
 intro j hj;unfold markF;rw [Array.getElem?_setIfInBounds, if_neg (by omega)];intro h;have := zeroF_one;have hall : zeroF.all (fun v => v matches .bool _) = true := by kernel_rfl
 rw [Array.all_eq_true_iff_forall_mem] at hall;have := hall _ (Array.mem_iff_getElem?.2 ⟨j, h⟩)
 cases this
noncomputable def markM : Array Value := (Tryz.prog.built 99 [(2, .agg markF)]).getD #[]
set_option maxRecDepth 100000 in
theorem markM_is : Tryz.prog.built 99 [(2, .agg markF)] = some markM := by kernel_rfl
set_option maxRecDepth 100000 in
theorem markM_2 : markM[2]? = some (.int .i64 77) := by kernel_rfl
theorem zeroM_2 : zeroM[2]? = some (.bool false) := by kernel_rfl
theorem zeroM_0 : zeroM[0]? = some (.bool false) := by kernel_rfl
set_option maxRecDepth 100000 in
theorem builtMF2 (cs : Array Value) (hn : cs.size = 384) (h1 : cs.all (·.oneCell') = true) :
  ∃ r, Tryz.prog.built 99 [(2, .agg cs)] = some r ∧ r.size = 387 ∧ r.all (·.oneCell') = true ∧ r[0]? = some (.bool false) ∧ ∀ j, j < 384 → r[2 + j]? = cs[j]? := by
 obtain ⟨r, hr, hsz, hone⟩ := builtMF cs hn h1;obtain ⟨off, hle, hp0, hp⟩ := built_off builtM markM_is;have hm : (Value.agg markF).cells.size = 384 := by show markF.size = 384; exact markF_size
 have h2 := hp0 2;rw [markM_2, zeroM_2, hm] at h2
 have hoff : off = 2 := by
  by_cases hc : off ≤ 2 ∧ 2 < off + 384
  ·rw [if_pos hc] at h2
   by_cases h0 : 2 - off = 0
   ·omega
   ·exact absurd h2.symm (markF_other _ h0)
  ·rw [if_neg hc] at h2
   cases h2
 subst hoff;obtain ⟨r', hr', hput⟩ := hp (.agg cs) (by rw [hm]; exact hn);rw [hr] at hr'
 injection hr' with hr'
 subst hr';refine ⟨r, hr, hsz, hone, ?_, fun j hj => ?_⟩
 ·rw [hput 0, if_neg (by omega), zeroM_0]
 ·have hcs : (Value.agg cs).cells = cs := rfl;rw [hput (2 + j), hcs, if_pos (by omega), show 2 + j - 2 = j by omega]
structure IsFields (cs : Array Value) (l : List Nat) : Prop where
 size : cs.size = 384
 one : cs.all (·.oneCell') = true
 at_ : ∀ k, k < 6 → ∃ st p, l.getD k 0 = setBits st p ∧ ∀ t, t < 64 → cs[k * 64 + t]? = (setCells st p)[t]?
def MeanOf (cs : Array Value) (g : Got) : Prop := match g with
 | .bits l => cs[0]? = some (.bool false) ∧ ∃ fs, IsFields fs l ∧ ∀ j, j < 384 → cs[2 + j]? = fs[j]?
 | .delay d => cs[0]? = some (.bool true) ∧ cs[1]? = some (.int .i64 d)
def SaysM (w : World) (r : Option Got) (e : Ending) (w' : World) : Prop :=
 (∃ (cs : Array Value) (v : Int), e = .returned (.tuple #[.agg cs, .int .i64 v]) ∧ cs.size = 387 ∧ cs.all (·.oneCell') = true ∧ (v = 0 ∨ v = 1 ∨ v = 2) ∧ (v = 0 → r = none) ∧ (v = 1 → ∃ g, r = some g ∧ MeanOf cs g)) ∧ Below w.heap.size w w'
end Go.Proofs.YtmecbmgfacpecaaGreatDoor.Cron
namespace Go.Proofs.YtmecbmgfacpecaaGreatDoor.Cron
open Go Go.RowKit Go.Proofs.YtmecbmgfacpecaaGreatDoor.Text Go.Proofs.YtmecbmgfacpecaaGreatDoor.Bits Go.Proofs.YtmecbmgfacpecaaGreatDoorW.PrintWords Go.Proofs.YtmecbmgfacpecaaGreatDoorW.PrintLast Go.Proofs.YtmecbmgfacpecaaGreatDoorW.PrintMore Go.Proofs.YtmecbmgfacpecaaGreatDoor.Pr
set_option linter.unusedVariables false
set_option linter.unusedSimpArgs false
def SixT (l : List ByteArray) (k : Nat) (v : Int) : Prop := (v = 0 ∨ v = 1 ∨ v = 2) ∧ (v = 1 → ∀ j, j < k → (bitsAt l j).isSome = true) ∧ (v = 0 → ∃ j, j < k ∧ bitsAt l j = none)
def FieldAt (cs : Array Value) (l : List ByteArray) (j : Nat) : Prop := ∃ st p, bitsAt l j = some (setBits st p) ∧ ∀ t, t < 64 → cs[j * 64 + t]? = (setCells st p)[t]?
def RowF (w : World) (g : Nat) (l : List ByteArray) (k : Nat) (v : Int) : Prop := ∃ cs : Array Value, w.heap[g]? = some (.cells cs 88 (0, 0)) ∧ cs.size = 384 ∧ cs.all (·.oneCell') = true ∧ (v = 1 → ∀ j, j < k → FieldAt cs l j)
theorem RowF.lt {w : World} {g k : Nat} {l : List ByteArray} {v : Int} (h : RowF w g l k v) : g < w.heap.size := by
 obtain ⟨cs, h1, _⟩ := h;exact (Array.getElem?_eq_some_iff.1 h1).1
theorem RowF.below {w w' : World} {g k : Nat} {l : List ByteArray} {v : Int} (h : RowF w g l k v) (hb : Below w.heap.size w w') : RowF w' g l k v := by
 have hl := h.lt;obtain ⟨cs, h1, h2⟩ := h;exact ⟨cs, (hb.block g hl).trans h1, h2⟩
theorem rowF_put {w : World} {g k : Nat} {l : List ByteArray} {v v3 : Int} {cur : Array Value} {st : Bool} {p : Nat → Bool} (hg : w.heap[g]? = some (.cells cur 88 (0, 0))) (hn : cur.size = 384) (h1 : cur.all (·.oneCell') = true) (hk : k < 6)
  (hF : v = 1 → ∀ j, j < k → FieldAt cur l j) (h3 : v3 = 1 → v = 1 ∧ bitsAt l k = some (setBits st p)) :
  RowF (w.setRow g (cur.toList.take (k * 64) ++ (setCells st p).toList ++ cur.toList.drop (k * 64 + (setCells st p).size)).toArray) g l (k + 1) v3 := by
 have hz := setCells_size st p;obtain ⟨cs, e1, e2, e3⟩ := row_at (o := k * 64) (cells := setCells st p) hg hn h1 (by rw [hz, hn]; omega) (setCells_one _ _);have e0 : (w.setRow g (cur.toList.take (k * 64) ++ (setCells st p).toList ++ cur.toList.drop (k * 64 + (setCells st p).size)).toArray).heap[g]? = some (.cells (cur.toList.take (k * 64) ++ (setCells st p).toList ++ cur.toList.drop (k * 64 + (setCells st p).size)).toArray 88 (0, 0)) := setRow_heap _ _ _ _ _ _ hg;rw [e0] at e1
 injection e1 with e1
 injection e1 with e1
 refine ⟨_, e0, by rw [e1]; exact e2, by rw [e1]; exact e3, fun hv j hj => ?_⟩;obtain ⟨hv1, hbk⟩ := h3 hv;have hl : cur.toList.length = 384 := by rw [Array.length_toList, hn]
 have hcl : (setCells st p).toList.length = 64 := by rw [Array.length_toList, hz]
 by_cases hjk : j < k
 ·obtain ⟨s2, p2, g1, g2⟩ := hF hv1 j hjk;refine ⟨s2, p2, g1, fun t ht => ?_⟩;rw [← g2 t ht, List.getElem?_toArray, List.append_assoc, List.getElem?_append_left (by rw [List.length_take, hl]; omega), List.getElem?_take_of_lt (by omega), Array.getElem?_toList]
 ·obtain rfl : j = k := by omega
  refine ⟨st, p, hbk, fun t ht => ?_⟩;rw [List.getElem?_toArray, List.append_assoc, List.getElem?_append_right (by rw [List.length_take, hl]; omega), List.length_take, hl, List.getElem?_append_left (by rw [hcl]; omega), show j * 64 + t - min (j * 64) 384 = t by omega, Array.getElem?_toList]
theorem six_none_of {l : List ByteArray} {k : Nat} (hk : k < 6) (h : bitsAt l k = none) : sixS l = none := by
 unfold sixS
 match k, hk with
 | 0, _ => rw [h]
 | 1, _ => rw [h]; split <;> first | rfl | (rename_i hh _ _ _ _ _; cases hh) | simp_all
 | 2, _ => rw [h]; split <;> first | rfl | simp_all
 | 3, _ => rw [h]; split <;> first | rfl | simp_all
 | 4, _ => rw [h]; split <;> first | rfl | simp_all
 | 5, _ => rw [h]; split <;> first | rfl | simp_all
theorem six_fields {l : List ByteArray} {cs : Array Value} (hn : cs.size = 384) (h1 : cs.all (·.oneCell') = true) (h : ∀ j, j < 6 → FieldAt cs l j) : ∃ b, sixS l = some b ∧ IsFields cs b := by
 obtain ⟨s0, p0, a0, c0⟩ := h 0 (by omega);obtain ⟨s1, p1, a1, c1⟩ := h 1 (by omega);obtain ⟨s2, p2, a2, c2⟩ := h 2 (by omega);obtain ⟨s3, p3, a3, c3⟩ := h 3 (by omega);obtain ⟨s4, p4, a4, c4⟩ := h 4 (by omega);obtain ⟨s5, p5, a5, c5⟩ := h 5 (by omega);refine ⟨_, six_some a0 a1 a2 a3 a4 a5, hn, h1, fun k hk => ?_⟩
 match k, hk with
 | 0, _ => exact ⟨s0, p0, rfl, c0⟩
 | 1, _ => exact ⟨s1, p1, rfl, c1⟩
 | 2, _ => exact ⟨s2, p2, rfl, c2⟩
 | 3, _ => exact ⟨s3, p3, rfl, c3⟩
 | 4, _ => exact ⟨s4, p4, rfl, c4⟩
 | 5, _ => exact ⟨s5, p5, rfl, c5⟩
def SixSays (w : World) (r : Option (List Nat)) (e : Ending) (w' : World) : Prop :=
 (∃ (cs : Array Value) (v : Int), e = .returned (.tuple #[.agg cs, .int .i64 v]) ∧ cs.size = 384 ∧ cs.all (·.oneCell') = true ∧ (v = 0 ∨ v = 1 ∨ v = 2) ∧ (v = 0 → r = none) ∧ (v = 1 → ∃ b, r = some b ∧ IsFields cs b)) ∧ Below w.heap.size w w'
set_option maxRecDepth 100000 in
set_option maxHeartbeats 4000000 in
theorem cronSixV_any (g c : Nat) (l : List ByteArray) (hl : ∀ x ∈ l, x.size ≤ 4294967296) (w : World) (hT : Texts w g 6 c l) :
  Calls Tryz.prog 139 #[.slice (some ⟨g, 0, none⟩) 6 c] w (SixSays w (sixS l)) := by
 have hal := run_alloc_F;have HT := Lib.hid hT;have hlen : l.length = 6 := hT.len.symm;have hgw := hT.lt;have HNO : Hid (∀ j, j < 6 → bitsAt l j = none → sixS l = none) := Lib.hid fun j hj h => six_none_of hj h
 have HSO : Hid (∀ cs : Array Value, cs.size = 384 → cs.all (·.oneCell') = true → (∀ j, j < 6 → FieldAt cs l j) → ∃ b, sixS l = some b ∧ IsFields cs b) := Lib.hid fun cs a b c => six_fields a b c
 generalize sixS l = r6 at *;clear hT
 go_enter Tryz.func139, Tryz.ntmps139
 go_wp2_with fail
 have HR2 := Lib.hid ((zeroF_row w).below (w' := (w.alloc (.cells zeroF 88)).alloc (.cells zeroF 88)) ((Below.refl _ _).alloc (Nat.le_refl _) _))
 have HR4 : Hid (RowF ((w.alloc (.cells zeroF 88)).alloc (.cells zeroF 88)) (w.heap.size + 1) l 0 1) := Lib.hid ⟨zeroF, by
  have := heap_alloc_new (w.alloc (.cells zeroF 88)) (.cells zeroF 88);rw [show (w.alloc (.cells zeroF 88)).heap.size = w.heap.size + 1 by simp] at this;exact this, zeroF_size, zeroF_one, fun _ j hj => (by omega)⟩
 have HB0 : Hid (Below w.heap.size w ((w.alloc (.cells zeroF 88)).alloc (.cells zeroF 88))) := Lib.hid (((Below.refl _ _).alloc (Nat.le_refl _) _).alloc (by simp) _)
 go_loopw [5, 9] (fun v5 v9 wr => ∃ (k : Nat) (v : Int), v9 = .int .i64 k ∧ k ≤ 6 ∧ v5 = .int .i64 v ∧ Hid (SixT l k v) ∧ Hid (RowN wr w.heap.size 88 384) ∧ Hid (RowF wr (w.heap.size + 1) l k v) ∧ Below w.heap.size w wr) (fun _ v9 _ => 6 - (intOf v9).toNat)
 case atStart => exact ⟨0, 1, rfl, by omega, rfl, Lib.hid ⟨.inr (.inl rfl), fun _ j hj => (by omega), fun h => (by omega)⟩, HR2, HR4, HB0.out⟩
 case round =>
  obtain ⟨k, v, rfl, hk, rfl, HV, HRA, HRB, hbr⟩ := hrel;clear HR2 HR4 HB0
  by_cases h6 : k < 6
  ·have hgx := List.getElem?_eq_getElem (show k < l.length by omega);have hlx := hl _ (List.getElem_mem (show k < l.length by omega));have hgd : l.getD k ⟨#[]⟩ = l[k] := by simp [List.getD, show k < l.length by omega]
   have HBA : Hid (bitsAt l k = fieldS (valK k) (loK k) (hiK k) (l[k]).data.toList) := Lib.hid (by unfold bitsAt; rw [hgd]);generalize l[k] = x at *;have HCF := Lib.hid (fun w' => cronField_any (valK k) k (value_reads k h6) (loK k) (hiK k) x hlx (loK_le k) (hiK_le k) w');have HBO := Lib.hid (fun w' => boundsOf_any k w');have hcx : wr.cell? ⟨g, k, none⟩ = some (.string x) := (HT.out.below hbr).at_ k _ hgx;have hgr : g < wr.heap.size := Nat.lt_of_lt_of_le hgw hbr.size;have HBR := Lib.hid hbr;have hdk : decide ((k : Int) < 6) = true := decide_eq_true (by omega);have hk6i : (k : Int) < 6 := by omega
   clear hgx hgd hbr
   go_upto_region 6 with fail
   obtain ⟨wo, rfl⟩ : ∃ wo : World, wo = wr := ⟨_, rfl⟩
   go_cut [7, 8] (fun v7 v8 wc => ∃ (g7 : Nat) (star : Bool) (p : Nat → Bool) (vx : Int), v7 = .pointer (some ⟨g7, 0, none⟩) ∧ v8 = .int .i64 vx ∧ Hid (ItemIs (bitsAt l k) star p vx) ∧ Hid (IsSet wc g7 star p) ∧ wo.heap.size ≤ g7 ∧ Below wo.heap.size wo wc)
   case first =>
    have halS := run_alloc_set;refine start_ (n := 13) (S := fun w' => w'.cell? ⟨g, k, none⟩ = some (.string x) ∧ g < w'.heap.size ∧ Below wo.heap.size wo w') (ds := [11]) #[false, false, false, false, false, false, false, false, false, false, false, false, false] (by kernel_rfl) rfl rfl ⟨hcx, hgr, (Below.refl _ _).drew⟩ (fun hHeld => ?_);refine pure_ (i := 0) (N := some 13) (v := ?_) (a' := ?_) #[true, false, false, false, false, false, false, false, false, false, false, false, false] rfl rfl (by kernel_rfl) (fun _ _ _ h => h) (Or.inl ⟨by rfl, ?_⟩) ?_ ?_;rotate_left
    ·intro w'
     go_simp
     with_reducible rfl
    rotate_left
    ·simp only [Act.put, List.setIfInBounds_toArray, List.set_cons_zero, List.set_cons_succ, i64_w, i32_w];rfl
    refine pure_ (i := 2) (N := some 15) (v := ?_) (a' := ?_) #[true, false, true, false, false, false, false, false, false, false, false, false, false] rfl rfl (by kernel_rfl) (fun _ _ _ h => h) (Or.inl ⟨by rfl, ?_⟩) ?_ ?_;rotate_left
    ·intro w'
     go_simp
     with_reducible rfl
    rotate_left
    ·simp only [Act.put, List.setIfInBounds_toArray, List.set_cons_zero, List.set_cons_succ, i64_w, i32_w];rfl
    refine pure_ (i := 3) (N := some 16) (v := ?_) (a' := ?_) #[true, false, true, true, false, false, false, false, false, false, false, false, false] rfl rfl (by kernel_rfl) (fun _ _ _ h => h) (Or.inl ⟨by rfl, ?_⟩) ?_ ?_;rotate_left
    ·intro w'
     go_simp
     with_reducible rfl
    rotate_left
    ·simp only [Act.put, List.setIfInBounds_toArray, List.set_cons_zero, List.set_cons_succ, i64_w, i32_w];rfl
    refine pure_ (i := 4) (N := some 17) (v := ?_) (a' := ?_) #[true, false, true, true, true, false, false, false, false, false, false, false, false] rfl rfl (by kernel_rfl) (fun _ _ _ h => h) (Or.inl ⟨by rfl, ?_⟩) ?_ ?_;rotate_left
    ·intro w'
     go_simp
     with_reducible rfl
    rotate_left
    ·simp only [Act.put, List.setIfInBounds_toArray, List.set_cons_zero, List.set_cons_succ, i64_w, i32_w];rfl
    refine take_ (i := 5) (N := some 18) (v := ?_) (a' := ?_) #[true, false, true, true, true, true, false, false, false, false, false, false, false] rfl rfl (by kernel_rfl) (fun _ _ _ h => h) (Or.inl ⟨by rfl, ?_⟩) hHeld ?_ ?_;rotate_left
    ·rintro w' ⟨s0, s1, s2⟩
     go_simp
     with_reducible rfl
    rotate_left
    ·simp only [Act.put, List.setIfInBounds_toArray, List.set_cons_zero, List.set_cons_succ, i64_w, i32_w];rfl
    refine join_ (σ := (Nat × Bool) × (Nat → Bool) × Int) 2 #[true, true, true, true, true, true, true, true, true, true, true, false, false] (fun s => [(14, .agg #[.int .i64 (loK k : Nat), .int .i64 (hiK k : Nat), .int .i64 k]), (19, .tuple #[.agg (setCells s.1.2 s.2.1), .int .i64 s.2.2]), (12, .tuple #[.agg (setCells s.1.2 s.2.1), .int .i64 s.2.2]), (20, .agg (setCells s.1.2 s.2.1)), (21, .int .i64 s.2.2), (7, .pointer (some ⟨s.1.1, 0, none⟩))]) (fun s w' => Hid (ItemIs (bitsAt l k) s.1.2 s.2.1 s.2.2) ∧ IsSet w' s.1.1 false noSet ∧ wo.heap.size ≤ s.1.1 ∧ (w'.cell? ⟨g, k, none⟩ = some (.string x) ∧ g < w'.heap.size ∧ Below wo.heap.size wo w')) ?_ ?_;rotate_left
    ·intro hCont;refine two_ (i := 1) (j := 10) (Ni := some 14) (Nj := some 7) #[true, true, true, true, true, true, false, false, false, false, false, false, false] #[true, false, true, true, true, true, false, false, false, false, true, false, false] rfl rfl rfl rfl (by kernel_rfl) (by decide) (by decide) (fun K hK => ?_) (fun K hK => ?_)
     ·skip
      refine goes_ Tryz.func22 (by kernel_rfl) rfl #[.int .i64 k] (by rfl) rfl rfl (by simp only [List.map_toArray, List.map_cons, List.map_nil]; rfl) ?_
      with_reducible refine (HBO.out _).mono ?_
      rintro e w4 ⟨rfl, hb4⟩;refine ⟨_, rfl, ?_⟩;refine hK.out _ _ ⟨(hb4.cell (p := ⟨g, k, none⟩) hHeld.2.1).trans hHeld.1, Nat.lt_of_lt_of_le hHeld.2.1 hb4.size, below_of_le hHeld.2.2 hb4⟩ (fun hHeld => ?_);clear hK K;refine norm_ (a' := ?_) ?_ ?_;rotate_left
      ·show Act.put _ (some 14) _ = _
       simp only [Act.put, List.setIfInBounds_toArray, List.set_cons_zero, List.set_cons_succ, i64_w, i32_w];rfl
      refine two_ (i := 6) (j := 10) (Ni := some 19) (Nj := some 7) #[true, true, true, true, true, true, true, false, false, false, false, false, false] #[true, true, true, true, true, true, false, false, false, false, true, false, false] rfl rfl rfl rfl (by kernel_rfl) (by decide) (by decide) (fun K hK => ?_) (fun K hK => ?_)
      ·skip
       refine goes_ Tryz.func21 (by kernel_rfl) rfl #[.agg #[.int .i64 (loK k : Nat), .int .i64 (hiK k : Nat), .int .i64 k], .string x] (by rfl) rfl rfl (by simp only [List.map_toArray, List.map_cons, List.map_nil]; rfl) ?_
       with_reducible refine (HCF.out _).mono ?_
       rintro e w5 ⟨star, p, vx, rfl, hi5, hb5⟩;refine ⟨_, rfl, ?_⟩;have HI5 := Lib.hid (show ItemIs (bitsAt l k) star p vx by rw [HBA.out]; exact hi5);clear hi5;refine hK.out _ _ ⟨(hb5.cell (p := ⟨g, k, none⟩) hHeld.2.1).trans hHeld.1, Nat.lt_of_lt_of_le hHeld.2.1 hb5.size, below_of_le hHeld.2.2 hb5⟩ (fun hHeld => ?_);clear hK K;refine norm_ (a' := ?_) ?_ ?_;rotate_left
       ·show Act.put _ (some 19) _ = _
        simp only [Act.put, List.setIfInBounds_toArray, List.set_cons_zero, List.set_cons_succ, i64_w, i32_w];rfl
       refine pure_ (i := 7) (N := some 12) (v := ?_) (a' := ?_) #[true, true, true, true, true, true, true, true, false, false, false, false, false] rfl rfl (by kernel_rfl) (fun _ _ _ h => h) (Or.inl ⟨by rfl, ?_⟩) ?_ ?_;rotate_left
       ·intro w'
        go_simp
        with_reducible rfl
       rotate_left
       ·simp only [Act.put, List.setIfInBounds_toArray, List.set_cons_zero, List.set_cons_succ, i64_w, i32_w];rfl
       refine pure_ (i := 8) (N := some 20) (v := ?_) (a' := ?_) #[true, true, true, true, true, true, true, true, true, false, false, false, false] rfl rfl (by kernel_rfl) (fun _ _ _ h => h) (Or.inl ⟨by rfl, ?_⟩) ?_ ?_;rotate_left
       ·intro w'
        go_simp
        with_reducible rfl
       rotate_left
       ·simp only [Act.put, List.setIfInBounds_toArray, List.set_cons_zero, List.set_cons_succ, i64_w, i32_w];rfl
       refine pure_ (i := 9) (N := some 21) (v := ?_) (a' := ?_) #[true, true, true, true, true, true, true, true, true, true, false, false, false] rfl rfl (by kernel_rfl) (fun _ _ _ h => h) (Or.inl ⟨by rfl, ?_⟩) ?_ ?_;rotate_left
       ·intro w'
        go_simp
        with_reducible rfl
       rotate_left
       ·simp only [Act.put, List.setIfInBounds_toArray, List.set_cons_zero, List.set_cons_succ, i64_w, i32_w];rfl
       refine one_ (i := 10) (N := some 7) #[true, true, true, true, true, true, true, true, true, true, true, false, false] rfl rfl (by kernel_rfl) (by decide) (fun K hK => ?_);have hge7 := hHeld.2.2.size;have hs7 := new_of hHeld.2.2;refine value_ (by rfl) rfl (exec_alloc_set _ _ _ rfl) ?_;refine hK.out _ _ ⟨((Below.refl _ _).alloc (Nat.le_refl _) _ |>.cell (p := ⟨g, k, none⟩) hHeld.2.1).trans hHeld.1, Nat.lt_of_lt_of_le hHeld.2.1 (by simp), hHeld.2.2.alloc hHeld.2.2.size _⟩ (fun hHeld => ?_);clear hK K;refine norm_ (a' := ?_) ?_ ?_;rotate_left
       ·show Act.put _ (some 7) _ = _
        simp only [Act.put, List.setIfInBounds_toArray, List.set_cons_zero, List.set_cons_succ, i64_w, i32_w];rfl
       exact norm_ (by simp only [putAll, Act.put, List.setIfInBounds_toArray, List.set_cons_zero, List.set_cons_succ]) (hCont ((w5.heap.size, star), p, vx) _ ⟨HI5, hs7, hge7, hHeld⟩)
      ·skip
       have hge7 := hHeld.2.2.size;have hs7 := new_of hHeld.2.2;refine value_ (by rfl) rfl (exec_alloc_set _ _ _ rfl) ?_;refine hK.out _ _ ⟨((Below.refl _ _).alloc (Nat.le_refl _) _ |>.cell (p := ⟨g, k, none⟩) hHeld.2.1).trans hHeld.1, Nat.lt_of_lt_of_le hHeld.2.1 (by simp), hHeld.2.2.alloc hHeld.2.2.size _⟩ (fun hHeld => ?_);clear hK K;refine norm_ (a' := ?_) ?_ ?_;rotate_left
       ·show Act.put _ (some 7) _ = _
        simp only [Act.put, List.setIfInBounds_toArray, List.set_cons_zero, List.set_cons_succ, i64_w, i32_w];rfl
       refine one_ (i := 6) (N := some 19) #[true, true, true, true, true, true, true, false, false, false, true, false, false] rfl rfl (by kernel_rfl) (by decide) (fun K hK => ?_);refine goes_ Tryz.func21 (by kernel_rfl) rfl #[.agg #[.int .i64 (loK k : Nat), .int .i64 (hiK k : Nat), .int .i64 k], .string x] (by rfl) rfl rfl (by simp only [List.map_toArray, List.map_cons, List.map_nil]; rfl) ?_
       with_reducible refine (HCF.out _).mono ?_
       rintro e w5 ⟨star, p, vx, rfl, hi5, hb5⟩;refine ⟨_, rfl, ?_⟩;have HI5 := Lib.hid (show ItemIs (bitsAt l k) star p vx by rw [HBA.out]; exact hi5);clear hi5;refine hK.out _ _ ⟨(hb5.cell (p := ⟨g, k, none⟩) hHeld.2.1).trans hHeld.1, Nat.lt_of_lt_of_le hHeld.2.1 hb5.size, below_of_le hHeld.2.2 hb5⟩ (fun hHeld => ?_);clear hK K;refine norm_ (a' := ?_) ?_ ?_;rotate_left
       ·show Act.put _ (some 19) _ = _
        simp only [Act.put, List.setIfInBounds_toArray, List.set_cons_zero, List.set_cons_succ, i64_w, i32_w];rfl
       refine pure_ (i := 7) (N := some 12) (v := ?_) (a' := ?_) #[true, true, true, true, true, true, true, true, false, false, true, false, false] rfl rfl (by kernel_rfl) (fun _ _ _ h => h) (Or.inl ⟨by rfl, ?_⟩) ?_ ?_;rotate_left
       ·intro w'
        go_simp
        with_reducible rfl
       rotate_left
       ·simp only [Act.put, List.setIfInBounds_toArray, List.set_cons_zero, List.set_cons_succ, i64_w, i32_w];rfl
       refine pure_ (i := 8) (N := some 20) (v := ?_) (a' := ?_) #[true, true, true, true, true, true, true, true, true, false, true, false, false] rfl rfl (by kernel_rfl) (fun _ _ _ h => h) (Or.inl ⟨by rfl, ?_⟩) ?_ ?_;rotate_left
       ·intro w'
        go_simp
        with_reducible rfl
       rotate_left
       ·simp only [Act.put, List.setIfInBounds_toArray, List.set_cons_zero, List.set_cons_succ, i64_w, i32_w];rfl
       refine pure_ (i := 9) (N := some 21) (v := ?_) (a' := ?_) #[true, true, true, true, true, true, true, true, true, true, true, false, false] rfl rfl (by kernel_rfl) (fun _ _ _ h => h) (Or.inl ⟨by rfl, ?_⟩) ?_ ?_;rotate_left
       ·intro w'
        go_simp
        with_reducible rfl
       rotate_left
       ·simp only [Act.put, List.setIfInBounds_toArray, List.set_cons_zero, List.set_cons_succ, i64_w, i32_w];rfl
       exact norm_ (by simp only [putAll, Act.put, List.setIfInBounds_toArray, List.set_cons_zero, List.set_cons_succ]) (hCont ((w4.heap.size, star), p, vx) _ ⟨HI5, hs7.below hb5, hge7, hHeld⟩)
     ·skip
      have hge7 := hHeld.2.2.size;have hs7 := new_of hHeld.2.2;refine value_ (by rfl) rfl (exec_alloc_set _ _ _ rfl) ?_;refine hK.out _ _ ⟨((Below.refl _ _).alloc (Nat.le_refl _) _ |>.cell (p := ⟨g, k, none⟩) hHeld.2.1).trans hHeld.1, Nat.lt_of_lt_of_le hHeld.2.1 (by simp), hHeld.2.2.alloc hHeld.2.2.size _⟩ (fun hHeld => ?_);clear hK K;refine norm_ (a' := ?_) ?_ ?_;rotate_left
      ·show Act.put _ (some 7) _ = _
       simp only [Act.put, List.setIfInBounds_toArray, List.set_cons_zero, List.set_cons_succ, i64_w, i32_w];rfl
      refine one_ (i := 1) (N := some 14) #[true, true, true, true, true, true, false, false, false, false, true, false, false] rfl rfl (by kernel_rfl) (by decide) (fun K hK => ?_);refine goes_ Tryz.func22 (by kernel_rfl) rfl #[.int .i64 k] (by rfl) rfl rfl (by simp only [List.map_toArray, List.map_cons, List.map_nil]; rfl) ?_
      with_reducible refine (HBO.out _).mono ?_
      rintro e w4 ⟨rfl, hb4⟩;refine ⟨_, rfl, ?_⟩;refine hK.out _ _ ⟨(hb4.cell (p := ⟨g, k, none⟩) hHeld.2.1).trans hHeld.1, Nat.lt_of_lt_of_le hHeld.2.1 hb4.size, below_of_le hHeld.2.2 hb4⟩ (fun hHeld => ?_);clear hK K;refine norm_ (a' := ?_) ?_ ?_;rotate_left
      ·show Act.put _ (some 14) _ = _
       simp only [Act.put, List.setIfInBounds_toArray, List.set_cons_zero, List.set_cons_succ, i64_w, i32_w];rfl
      refine one_ (i := 6) (N := some 19) #[true, true, true, true, true, true, true, false, false, false, true, false, false] rfl rfl (by kernel_rfl) (by decide) (fun K hK => ?_);refine goes_ Tryz.func21 (by kernel_rfl) rfl #[.agg #[.int .i64 (loK k : Nat), .int .i64 (hiK k : Nat), .int .i64 k], .string x] (by rfl) rfl rfl (by simp only [List.map_toArray, List.map_cons, List.map_nil]; rfl) ?_
      with_reducible refine (HCF.out _).mono ?_
      rintro e w5 ⟨star, p, vx, rfl, hi5, hb5⟩;refine ⟨_, rfl, ?_⟩;have HI5 := Lib.hid (show ItemIs (bitsAt l k) star p vx by rw [HBA.out]; exact hi5);clear hi5;refine hK.out _ _ ⟨(hb5.cell (p := ⟨g, k, none⟩) hHeld.2.1).trans hHeld.1, Nat.lt_of_lt_of_le hHeld.2.1 hb5.size, below_of_le hHeld.2.2 hb5⟩ (fun hHeld => ?_);clear hK K;refine norm_ (a' := ?_) ?_ ?_;rotate_left
      ·show Act.put _ (some 19) _ = _
       simp only [Act.put, List.setIfInBounds_toArray, List.set_cons_zero, List.set_cons_succ, i64_w, i32_w];rfl
      refine pure_ (i := 7) (N := some 12) (v := ?_) (a' := ?_) #[true, true, true, true, true, true, true, true, false, false, true, false, false] rfl rfl (by kernel_rfl) (fun _ _ _ h => h) (Or.inl ⟨by rfl, ?_⟩) ?_ ?_;rotate_left
      ·intro w'
       go_simp
       with_reducible rfl
      rotate_left
      ·simp only [Act.put, List.setIfInBounds_toArray, List.set_cons_zero, List.set_cons_succ, i64_w, i32_w];rfl
      refine pure_ (i := 8) (N := some 20) (v := ?_) (a' := ?_) #[true, true, true, true, true, true, true, true, true, false, true, false, false] rfl rfl (by kernel_rfl) (fun _ _ _ h => h) (Or.inl ⟨by rfl, ?_⟩) ?_ ?_;rotate_left
      ·intro w'
       go_simp
       with_reducible rfl
      rotate_left
      ·simp only [Act.put, List.setIfInBounds_toArray, List.set_cons_zero, List.set_cons_succ, i64_w, i32_w];rfl
      refine pure_ (i := 9) (N := some 21) (v := ?_) (a' := ?_) #[true, true, true, true, true, true, true, true, true, true, true, false, false] rfl rfl (by kernel_rfl) (fun _ _ _ h => h) (Or.inl ⟨by rfl, ?_⟩) ?_ ?_;rotate_left
      ·intro w'
       go_simp
       with_reducible rfl
      rotate_left
      ·simp only [Act.put, List.setIfInBounds_toArray, List.set_cons_zero, List.set_cons_succ, i64_w, i32_w];rfl
      exact norm_ (by simp only [putAll, Act.put, List.setIfInBounds_toArray, List.set_cons_zero, List.set_cons_succ]) (hCont ((wo.drew.heap.size, star), p, vx) _ ⟨HI5, (hs7.below hb4).below hb5, hge7, hHeld⟩)
    rintro ⟨⟨g7, star⟩, p, vx⟩ w5 ⟨HI5, hs7, hge7, hHeld⟩;refine norm_ (a' := ?_) ?_ ?_;rotate_left
    ·simp only [putAll, Act.put, List.setIfInBounds_toArray, List.set_cons_zero, List.set_cons_succ];rfl
    refine last_ (i := 11) (N := none) #[true, true, true, true, true, true, true, true, true, true, true, true, false] rfl rfl (by kernel_rfl) (by decide) (fun K hK => ?_);rw [if_pos (by rfl)];refine wp_store_row 56 _ _ rfl g7 (setCells star p) rfl rfl 56 (setCells false noSet) hs7 (by rw [setSize, setCells_size]) (by rw [setCells_size, setCells_size]) (setCells_one _ _) ?_;refine hK.out _ _ ?_;clear hK K;refine pure_ (i := 12) (N := some 8) (v := ?_) (a' := ?_) #[true, true, true, true, true, true, true, true, true, true, true, true, true] rfl rfl (by kernel_rfl) (fun _ _ _ h => h) (Or.inl ⟨by rfl, ?_⟩) ?_ ?_;rotate_left
    ·intro w'
     go_simp
     with_reducible rfl
    rotate_left
    ·simp only [Act.put, List.setIfInBounds_toArray, List.set_cons_zero, List.set_cons_succ, i64_w, i32_w];rfl
    refine done_ (by kernel_rfl) ?_
    go_wp2_with fail
    go_meet
    exact ⟨g7, star, p, vx, rfl, rfl, HI5, Lib.hid (hs7.store _ _), hge7, below_setRow hHeld.2.2 hge7 _⟩
   case rest =>
   obtain ⟨g7, star, p, vx, rfl, rfl, HI, HIS, hge7, hbc⟩ := hcut;obtain ⟨v3, hw3, hvs3, hw0, hw1, _, _⟩ := worse_f v vx HV.out.1 HI.out.vs
   have HV' : Hid (SixT l (k + 1) v3) := Lib.hid ⟨hvs3, fun h j hj => by
    obtain ⟨h1, h2⟩ := hw1 h
    by_cases hjk : j < k
    ·exact HV.out.2.1 h1 j hjk
    ·obtain rfl : j = k := by omega
     rw [HI.out.fine h2]; rfl, fun h => by
    rcases hw0 h with h1 | h1
    ·obtain ⟨j, hj, hb⟩ := HV.out.2.2 h1;exact ⟨j, by omega, hb⟩
    ·exact ⟨k, by omega, HI.out.bad h1⟩⟩
   have H31 : Hid (v3 = 1 → v = 1 ∧ bitsAt l k = some (setBits star p)) := Lib.hid fun h => ⟨(hw1 h).1, HI.out.fine (hw1 h).2⟩
   have HC := Lib.hid (fun w' => spec_worse.calls v vx v3 w' hw3);obtain ⟨cs, hcs, hn, h1, hFF⟩ := HRB.out.below hbc;have HFF := Lib.hid hFF;clear hFF;have hw1s := HRB.out.lt;have hw1c : w.heap.size + 1 < wc.heap.size := Nat.lt_of_lt_of_le hw1s hbc.size;have HRA1 := Lib.hid (HRA.out.below hbc);have hB2 := below_of_le HBR.out hbc;clear hw3 hw0 hw1 HV HI HRA HRB HBO HCF HBA hcx hgr hvs3
   go_upto_region 7 with fail
   refine start_ (n := 8) (S := fun w' => IsSet w' g7 star p ∧ w'.heap[w.heap.size + 1]? = some (.cells cs 88 (0, 0))) (ds := [6]) #[false, false, false, false, false, false, false, false] (by kernel_rfl) rfl rfl ⟨HIS.out, hcs⟩ (fun hHeld => ?_);refine pure_ (i := 0) (N := some 22) (v := ?_) (a' := ?_) #[true, false, false, false, false, false, false, false] rfl rfl (by kernel_rfl) (fun _ _ _ h => h) (Or.inl ⟨by rfl, ?_⟩) ?_ ?_;rotate_left
   ·intro w'
    go_simp
    with_reducible rfl
   rotate_left
   ·simp only [Act.put, List.setIfInBounds_toArray, List.set_cons_zero, List.set_cons_succ, i64_w, i32_w];rfl
   refine pure_ (i := 2) (N := some 24) (v := ?_) (a' := ?_) #[true, false, true, false, false, false, false, false] rfl rfl (by kernel_rfl) (fun _ _ _ h => h) (Or.inl ⟨by rfl, ?_⟩) ?_ ?_;rotate_left
   ·intro w'
    go_simp
    with_reducible rfl
   rotate_left
   ·simp only [Act.put, List.setIfInBounds_toArray, List.set_cons_zero, List.set_cons_succ, i64_w, i32_w];rfl
   refine pure_ (i := 3) (N := some 25) (v := ?_) (a' := ?_) #[true, false, true, true, false, false, false, false] rfl rfl (by kernel_rfl) (fun _ _ _ h => h) (Or.inl ⟨by rfl, ?_⟩) ?_ ?_;rotate_left
   ·intro w'
    go_simp
    with_reducible rfl
   rotate_left
   ·simp only [Act.put, List.setIfInBounds_toArray, List.set_cons_zero, List.set_cons_succ, i64_w, i32_w];rfl
   refine take_ (i := 1) (N := some 23) (v := ?_) (a' := ?_) #[true, true, true, true, false, false, false, false] rfl rfl (by kernel_rfl) (fun _ _ _ h => h) (Or.inl ⟨by rfl, ?_⟩) hHeld ?_ ?_;rotate_left
   ·rintro w' ⟨s0, s1⟩;refine exec_load_set _ _ _ ?_ g7 star p ?_ ?_ s0;rotate_left
    ·rfl
    ·rfl
   rotate_left
   ·simp only [Act.put, List.setIfInBounds_toArray, List.set_cons_zero, List.set_cons_succ, i64_w, i32_w];rfl
   refine pure_ (i := 5) (N := some 27) (v := ?_) (a' := ?_) #[true, true, true, true, false, true, false, false] rfl rfl (by kernel_rfl) (fun _ _ _ h => h) (Or.inl ⟨by rfl, ?_⟩) ?_ ?_;rotate_left
   ·intro w'
    go_simp
    with_reducible rfl
   rotate_left
   ·simp only [Act.put, List.setIfInBounds_toArray, List.set_cons_zero, List.set_cons_succ, i64_w, i32_w];rfl
   refine one_ (i := 4) (N := some 26) #[true, true, true, true, true, true, false, false] rfl rfl (by kernel_rfl) (by decide) (fun K hK => ?_);refine goes_ Tryz.func57 (by kernel_rfl) rfl #[.int .i64 v, .int .i64 vx] (by rfl) rfl rfl (by simp only [List.map_toArray, List.map_cons, List.map_nil]; rfl) ?_
   with_reducible refine (HC.out _).mono ?_
   rintro e w4 ⟨rfl, hb4⟩;refine ⟨_, rfl, ?_⟩;refine hK.out _ _ ⟨IsSet.below (w := wc.drew) HIS.out hb4, (hb4.block (w.heap.size + 1) hw1c).trans hcs⟩ (fun hHeld => ?_);clear hK K;refine norm_ (a' := ?_) ?_ ?_;rotate_left
   ·show Act.put _ (some 26) _ = _
    simp only [Act.put, List.setIfInBounds_toArray, List.set_cons_zero, List.set_cons_succ, i64_w, i32_w];rfl
   refine last_ (i := 6) (N := none) #[true, true, true, true, true, true, true, false] rfl rfl (by kernel_rfl) (by decide) (fun K hK => ?_);rw [if_pos (by rfl)];refine wp_store_at 56 _ _ rfl (w.heap.size + 1) (k * 64) (setCells star p) rfl rfl 88 cs hHeld.2 (by rw [setSize, setCells_size]) (by rw [setCells_size, hn]; omega) (setCells_one _ _) ?_;refine hK.out _ _ ?_;clear hK K;refine pure_ (i := 7) (N := some 5) (v := ?_) (a' := ?_) #[true, true, true, true, true, true, true, true] rfl rfl (by kernel_rfl) (fun _ _ _ h => h) (Or.inl ⟨by rfl, ?_⟩) ?_ ?_;rotate_left
   ·intro w'
    go_simp
    with_reducible rfl
   rotate_left
   ·simp only [Act.put, List.setIfInBounds_toArray, List.set_cons_zero, List.set_cons_succ, i64_w, i32_w];rfl
   refine done_ (by kernel_rfl) ?_;have hb4 : Below wc.heap.size wc w4 := below_of_le (Below.refl _ _).drew hb4;have hcs4 := (hb4.block (w.heap.size + 1) hw1c).trans hcs;have HRB4 := Lib.hid (rowF_put (st := star) (p := p) hcs4 hn h1 h6 HFF.out H31.out);rw [List.append_assoc] at HRB4;have hB4 := below_of_le hB2 hb4;have HRA4 := Lib.hid (HRA1.out.below hb4)
   go_wp2_with fail
   go_roundw
   case rel =>
    exact ⟨k + 1, v3, by go_num, by omega, rfl, HV', Lib.hid (HRA4.out.other (by omega) _), HRB4, below_setRow hB4 (by omega) _⟩
   case measure => simp [intOf]; omega
  ·obtain rfl : k = 6 := by omega
   obtain ⟨ca, hca, hna, h1a⟩ := HRA.out;obtain ⟨cb, hcb, hnb, h1b, hFb⟩ := HRB.out
   by_cases hv : v = 1
   ·subst hv
    go_wp2_with (first | (refine wpList_load_row rfl 88 _ rfl (w.heap.size + 1) rfl _ _ _ _ hcb Tryz.underlying88 rfl (by rw [sizeF, hnb]) ?_) | (refine wpList_store_row rfl 88 _ _ rfl w.heap.size cb rfl rfl _ _ hca (by rw [sizeF, hnb]) (by rw [hna, hnb]) h1b ?_))
    refine bodyPost_ret (v := .tuple #[.agg cb, .int .i64 1]) ?_ rfl ?_
    ·exact results_F (fn := Tryz.f139) (p := 2) (u := 3) rfl _ _ w.heap.size _ hnb rfl (setRow_heap _ _ _ _ _ _ hca)
    exact ⟨⟨cb, 1, rfl, hnb, h1b, .inr (.inl rfl), fun h => (by omega), fun _ => HSO.out cb hnb h1b (hFb (by first | rfl | trivial))⟩, below_setRow hbr (by omega) _⟩
   ·have hne : (v != 1) = true := by simpa using hv
    have HV1 := Lib.hid hv;clear hv
    go_wp2_with (first | (refine wpList_build_F rfl rfl ?_) | (refine wpList_store_row rfl 88 _ _ rfl w.heap.size zeroF rfl rfl _ _ hca (by rw [sizeF, zeroF_size]) (by rw [hna, zeroF_size]) zeroF_one ?_))
    refine bodyPost_ret (v := .tuple #[.agg zeroF, .int .i64 v]) ?_ rfl ?_
    ·exact results_F (fn := Tryz.f139) (p := 2) (u := 3) rfl _ _ w.heap.size _ zeroF_size rfl (setRow_heap _ _ _ _ _ _ hca)
    exact ⟨⟨zeroF, v, rfl, zeroF_size, zeroF_one, HV.out.1, fun h => (by obtain ⟨j, hj, hb⟩ := HV.out.2.2 h; exact HNO.out j hj hb), fun h => absurd h HV1.out⟩, below_setRow hbr (by omega) _⟩
end Go.Proofs.YtmecbmgfacpecaaGreatDoor.Cron
