/- Lemmas and walks on the way to the law, merged by wip/tools/pack.py: ParseG, ParseCronG, Scr1, Scr2, Scr3. Conditions: none. -/
import Derived.Test.YtmecbmgfacpecaaGreatDoorGrH
set_option linter.unusedVariables false
set_option linter.unusedSimpArgs false
namespace Go.Proofs.YtmecbmgfacpecaaGreatDoor.Cron
open Go Go.RowKit Go.Proofs.YtmecbmgfacpecaaGreatDoor.Text Go.Proofs.YtmecbmgfacpecaaGreatDoor.Bits Go.Proofs.YtmecbmgfacpecaaGreatDoorW.PrintWords Go.Proofs.YtmecbmgfacpecaaGreatDoorW.PrintLast Go.Proofs.YtmecbmgfacpecaaGreatDoorW.PrintMore Go.Proofs.YtmecbmgfacpecaaGreatDoor.Pr
def fieldsG (s : ByteArray) (o : Nat) : Option (List Nat) := (normF (fieldsZ s) o).bind sixS
def plainG (o : Nat) (s : ByteArray) : Option Got :=
 if Lib.hasPrefix s.data.toList [64] = true then (if o &&& 256 = 0 then none else descS s.data.toList) else (fieldsG s o).map .bits
def spaceAt (s : ByteArray) : Nat := (s.data.toList.takeWhile (fun c => c != 32)).length
def progS (o : Nat) (s : ByteArray) : Option Got :=
 if s.size = 0 then none else if zoneZ s = 0 then plainG o s
 else if zoneOk (s.extract (zoneZ s) (spaceAt s)).data.toList = true then plainG o (trimZ (s.extract (spaceAt s) s.size)) else none
theorem index_is (c : UInt8) (s : ByteArray) (hs : s.size ≤ 4294967296) (hm : c ∈ s.data.toList) : cron_zzIndex.f (s.size + 1) s (ba [c]) = some (((s.data.toList.takeWhile (fun x => x != c)).length : Nat) : Int) := by
 have h := index_l0 c s (by omega) s.size (s.size + 1) 0 (by omega) (by omega) (by omega);unfold cron_zzIndex.f;rw [List.drop_zero] at h;rcases h with ⟨_, h⟩ | ⟨j, h1, _, _, p, q, h4, h5, h6⟩
 ·exact absurd hm h
 ·rw [show ((0 : Nat) : Int) = 0 from rfl] at h1;rw [h1, h4]
  have : (p ++ c :: q).takeWhile (fun x => x != c) = p := by
   rw [List.takeWhile_append_of_pos (fun x hx => by
    rw [bne_iff_ne];rintro rfl;exact h5 hx)]
   simp
  rw [this, h6];rfl
theorem tw_le {α : Type} (p : α → Bool) (l : List α) : (l.takeWhile p).length ≤ l.length := (List.takeWhile_prefix p).length_le
theorem list_formP (l : List Value) : ∀ n, l.length = n → l = (List.range n).map (fun i => l.getD i undef) := by
 intro n hn;apply List.ext_getElem?
 intro i;by_cases hi : i < n
 ·simp [hn, hi]
 ·simp [hn, hi]
set_option maxRecDepth 100000 in
theorem frame_openP (a : Act) (h : a.tmps.size = 123) (hd : a.defers = []) : ∃ u : Nat → Value, (∀ i, u i = a.tmps.getD i undef) ∧ a = { tmps := #[u 0, u 1, u 2, u 3, u 4, u 5, u 6, u 7, u 8, u 9, u 10, u 11, u 12, u 13, u 14, u 15, u 16, u 17, u 18, u 19, u 20, u 21, u 22, u 23, u 24, u 25, u 26, u 27, u 28, u 29, u 30, u 31, u 32, u 33, u 34, u 35, u 36, u 37, u 38, u 39, u 40, u 41, u 42, u 43, u 44, u 45, u 46, u 47, u 48, u 49, u 50, u 51, u 52, u 53, u 54, u 55, u 56, u 57, u 58, u 59, u 60, u 61, u 62, u 63, u 64, u 65, u 66, u 67, u 68, u 69, u 70, u 71, u 72, u 73, u 74, u 75, u 76, u 77, u 78, u 79, u 80, u 81, u 82, u 83, u 84, u 85, u 86, u 87, u 88, u 89, u 90, u 91, u 92, u 93, u 94, u 95, u 96, u 97, u 98, u 99, u 100, u 101, u 102, u 103, u 104, u 105, u 106, u 107, u 108, u 109, u 110, u 111, u 112, u 113, u 114, u 115, u 116, u 117, u 118, u 119, u 120, u 121, u 122], defers := [] } := by
 obtain ⟨t, d⟩ := a;dsimp only at *;subst hd;refine ⟨fun i => t.getD i undef, fun i => rfl, ?_⟩;have hl := list_formP t.toList 123 (by simpa using h);have he : t = ((List.range 123).map (fun i => t.toList.getD i undef)).toArray := by rw [← hl]
 have hg : ∀ i, t.toList.getD i undef = t.getD i undef := fun i => by simp [List.getD, Array.getD_eq_getD_getElem?]
 simp only [hg] at he;have e2 : ((List.range 123).map (fun i => t.getD i undef)).toArray = #[t.getD 0 undef, t.getD 1 undef, t.getD 2 undef, t.getD 3 undef, t.getD 4 undef, t.getD 5 undef, t.getD 6 undef, t.getD 7 undef, t.getD 8 undef, t.getD 9 undef, t.getD 10 undef, t.getD 11 undef, t.getD 12 undef, t.getD 13 undef, t.getD 14 undef, t.getD 15 undef, t.getD 16 undef, t.getD 17 undef, t.getD 18 undef, t.getD 19 undef, t.getD 20 undef, t.getD 21 undef, t.getD 22 undef, t.getD 23 undef, t.getD 24 undef, t.getD 25 undef, t.getD 26 undef, t.getD 27 undef, t.getD 28 undef, t.getD 29 undef, t.getD 30 undef, t.getD 31 undef, t.getD 32 undef, t.getD 33 undef, t.getD 34 undef, t.getD 35 undef, t.getD 36 undef, t.getD 37 undef, t.getD 38 undef, t.getD 39 undef, t.getD 40 undef, t.getD 41 undef, t.getD 42 undef, t.getD 43 undef, t.getD 44 undef, t.getD 45 undef, t.getD 46 undef, t.getD 47 undef, t.getD 48 undef, t.getD 49 undef, t.getD 50 undef, t.getD 51 undef, t.getD 52 undef, t.getD 53 undef, t.getD 54 undef, t.getD 55 undef, t.getD 56 undef, t.getD 57 undef, t.getD 58 undef, t.getD 59 undef, t.getD 60 undef, t.getD 61 undef, t.getD 62 undef, t.getD 63 undef, t.getD 64 undef, t.getD 65 undef, t.getD 66 undef, t.getD 67 undef, t.getD 68 undef, t.getD 69 undef, t.getD 70 undef, t.getD 71 undef, t.getD 72 undef, t.getD 73 undef, t.getD 74 undef, t.getD 75 undef, t.getD 76 undef, t.getD 77 undef, t.getD 78 undef, t.getD 79 undef, t.getD 80 undef, t.getD 81 undef, t.getD 82 undef, t.getD 83 undef, t.getD 84 undef, t.getD 85 undef, t.getD 86 undef, t.getD 87 undef, t.getD 88 undef, t.getD 89 undef, t.getD 90 undef, t.getD 91 undef, t.getD 92 undef, t.getD 93 undef, t.getD 94 undef, t.getD 95 undef, t.getD 96 undef, t.getD 97 undef, t.getD 98 undef, t.getD 99 undef, t.getD 100 undef, t.getD 101 undef, t.getD 102 undef, t.getD 103 undef, t.getD 104 undef, t.getD 105 undef, t.getD 106 undef, t.getD 107 undef, t.getD 108 undef, t.getD 109 undef, t.getD 110 undef, t.getD 111 undef, t.getD 112 undef, t.getD 113 undef, t.getD 114 undef, t.getD 115 undef, t.getD 116 undef, t.getD 117 undef, t.getD 118 undef, t.getD 119 undef, t.getD 120 undef, t.getD 121 undef, t.getD 122 undef] := by rfl
 rw [← e2, ← he]
structure GA (w : World) : Prop where
 g : G w
 e : GE w
 l : GL w
 u : GU w
theorem GA.below {w w' : World} (h : GA w) (hb : Below w.heap.size w w') : GA w' := ⟨h.g.below hb, h.e.below hb, h.l.below hb, h.u.below hb⟩
set_option maxRecDepth 100000 in
set_option maxHeartbeats 8000000 in
theorem parse_any (o : Nat) (ho : o < 512) (s0 : ByteArray) (hs0 : s0.size ≤ 4294967296) (hsp : zoneZ s0 ≠ 0 → (32 : UInt8) ∈ s0.data.toList) (w : World) (hga : GA w) :
  Calls Tryz.prog 47 #[.agg #[.int .i64 o], .string s0] w fun e w' => GotAns (progS o s0) e w' ∧ Below w.heap.size w w' := by
 by_cases h0 : s0.size = 0
 ·have HR : Hid (progS o s0 = none) := Lib.hid (by unfold progS; rw [if_pos h0]);have hd0 : ((s0.size : Int) == 0) = true := by rw [h0]; rfl
  clear h0;go_enter Tryz.func47, Tryz.ntmps47;go_wp2_with fail
  refine (errorsNew_any _ _).mono ?_;rintro e w1 ⟨t, x, rfl, hb⟩;go_wp2_with fail
  go_ret2;rw [HR.out];exact ⟨⟨t, x, rfl⟩, ((Below.refl _ _).alloc (Nat.le_refl _) _).trans (hb.mono (by simp))⟩
 ·have hd0 : ((s0.size : Int) == 0) = false := by
   rw [beq_eq_false_iff_ne];omega
  have hq0 : ¬ s0.size = 0 := h0;go_enter Tryz.func47, Tryz.ntmps47;go_upto_region 4 with fail
  rename_i K hK Kc hKc
  refine viaThen hK (fun a wt => a.tmps.size = 123 ∧ a.defers = [] ∧ a.tmps.getD 2 undef = .pointer (some ⟨w.heap.size, 0, none⟩) ∧ a.tmps.getD 4 undef = .nilIface ∧ a.tmps.getD 5 undef = .nilIface ∧ ∃ (s : ByteArray) (loc : Option Addr), a.tmps.getD 1 undef = .string s ∧ a.tmps.getD 6 undef = .pointer loc ∧
   s.size ≤ 4294967296 ∧ Hid (progS o s0 = plainG o s) ∧ Below w.heap.size w wt ∧ wt.cell? ⟨w.heap.size, 0, none⟩ = some (.int .i64 o) ∧ w.heap.size < wt.heap.size) ?_ ?_
  ·clear hK hq0 hd0 h0 hsp hs0;rintro a wt ⟨hs', hd, h2, h4, h5, s, loc, h1, h6, hs, HPR, hbj, hcj, hltj⟩;obtain ⟨u, hu, ha⟩ := frame_openP a hs' hd;rw [← hu] at h1 h2 h4 h5 h6
   rw [h1, h2, h4, h5, h6] at ha;clear hu hs' hd h1 h2 h4 h5 h6;subst ha;have hg : G w := hga.g;have hgj : GA wt := hga.below hbj;cases h3 : Lib.hasPrefix s.data.toList [64] with
   | true =>
    have hand : bits .and .i64 (o : Int) 256 = ((o &&& 256 : Nat) : Int) := and_i64 (b := 256) (by omega) (by decide);have HP3 : Hid (∀ w' : World, Calls Tryz.prog 97 #[.string s, .string ⟨#[64]⟩] w' fun e w'' => e = .returned (.bool true) ∧ w' = w'') := Lib.hid fun w' => (Tryz.strings_HasPrefix s ⟨#[64]⟩ w').mono fun e w'' hh => ⟨hh.1.trans (by rw [show (⟨#[64]⟩ : ByteArray).data.toList = [64] from rfl, h3]), hh.2.symm⟩
    by_cases h256 : o &&& 256 = 0
    ·have HN : Hid (progS o s0 = none) := Lib.hid (by rw [HPR.out]; unfold plainG; rw [if_pos h3, if_pos h256]);have hdz : (((o &&& 256 : Nat) : Int) == 0) = true := by rw [h256]; rfl
     clear h3 HPR;go_wp2_with fail
     refine (HP3.out _).mono ?_;rintro e w1 ⟨rfl, rfl⟩;go_wp2_with fail
     refine (errorsNew_any _ _).mono ?_;rintro e w1 ⟨t, x, rfl, hb⟩;go_wp2_with fail
     go_ret2;rw [HN.out];exact ⟨⟨t, x, rfl⟩, below_of_le hbj hb⟩
    ·have HN : Hid (progS o s0 = descS s.data.toList) := Lib.hid (by rw [HPR.out]; unfold plainG; rw [if_pos h3, if_neg h256]);have hdz : (((o &&& 256 : Nat) : Int) == 0) = false := by rw [beq_eq_false_iff_ne]; omega
     have HD := Lib.hid (desc_any s.data.toList (by rw [← size_list]; exact hs) loc wt hgj.e);rw [ba_of] at HD;clear h3 HPR;go_wp2_with fail
     refine (HP3.out _).mono ?_;rintro e w1 ⟨rfl, rfl⟩;go_wp2_with fail
     refine HD.out.mono ?_;intro e w1 hh;obtain ⟨hd, hb⟩ := hh;have HBB := Lib.hid (below_of_le hbj hb);clear hb HD hbj hcj hltj HP3 hand hdz;generalize descS s.data.toList = rd at *;cases rd with
     | none =>
      obtain ⟨t, x, rfl⟩ := hd;go_wp2_with fail
      go_ret2;rw [HN.out];exact ⟨⟨t, x, rfl⟩, HBB.out⟩
     | some r =>
      cases r with
      | bits l =>
       obtain ⟨g, loc2, rfl, hrow⟩ := hd;have HROW := Lib.hid hrow;clear hrow;go_wp2_with fail
       go_ret2;rw [HN.out];exact ⟨⟨g, loc2, rfl, HROW.out⟩, HBB.out⟩
      | delay d =>
       obtain rfl := hd;go_wp2_with fail
       go_ret2;rw [HN.out];exact ⟨rfl, HBB.out⟩
   | false =>
    have HP3 : Hid (∀ w' : World, Calls Tryz.prog 97 #[.string s, .string ⟨#[64]⟩] w' fun e w'' => e = .returned (.bool false) ∧ w' = w'') := Lib.hid fun w' => (Tryz.strings_HasPrefix s ⟨#[64]⟩ w').mono fun e w'' hh => ⟨hh.1.trans (by rw [show (⟨#[64]⟩ : ByteArray).data.toList = [64] from rfl, h3]), hh.2.symm⟩
    have HPG : Hid (progS o s0 = (fieldsG s o).map .bits) := Lib.hid (by rw [HPR.out]; unfold plainG; rw [if_neg (by rw [h3]; simp)]);have HR : Hid (fieldsG s o = (normF (fieldsZ s) o).bind sixS) := Lib.hid rfl;have HZ := Lib.hid (fun w' => zzFields_any s hs w');have HZL := Lib.hid (goZ_len s hs);have HZS : Hid (∀ x ∈ fieldsZ s, x.size ≤ 4294967296) := Lib.hid fun x hx => Nat.le_trans (fieldsZ_size s x hx) hs
    clear h3 HPR hga hgj;generalize fieldsZ s = fs at *;go_wp2_with fail
    refine (HP3.out _).mono ?_;rintro e w1 ⟨rfl, rfl⟩;go_wp2_with fail
    refine (HZ.out _).mono ?_;rintro e w1 ⟨v, rfl, hown, hb1⟩;have hc0 : w1.cell? ⟨w.heap.size, 0, none⟩ = some (.int .i64 o) := (hb1.cell (p := ⟨w.heap.size, 0, none⟩) hltj).trans hcj;have hz1 : w.heap.size < w1.heap.size := by have := hb1.size; omega
    have hzj : wt.heap.size ≤ w1.heap.size := hb1.size
    have HNA : Hid (∀ w' : World, w'.heap.size = w1.heap.size + 1 → Below w1.heap.size w1 w' → Calls Tryz.prog 103 #[v, .int .i64 o] w' (NormAnswer wt.heap.size w1.heap.size w' (normF fs o))) := Lib.hid fun w' h1 h2 =>
     normal_any o ho fs v w' wt.heap.size (own_below hown h2) HZL.out (by omega) w1.heap.size (by omega) (fun e => by
      have := (hown.lt _ e).2;omega)
    have HB1 := Lib.hid hb1;generalize hR0 : normF fs o = R0 at *;clear hown hb1 HP3 HZ HZL;go_wp2_with fail
    have HR0 : Hid (normF fs o = R0) := Lib.hid hR0;clear hR0;refine (HNA.out _ (by simp) ((Below.refl _ _).alloc (Nat.le_refl _) _)).mono ?_;intro e w2 hN
    have HZN : Hid (∀ l, R0 = some l → (∀ x ∈ l, x.size ≤ 4294967296) ∧ l.length = 6) := Lib.hid fun l h => by
     rw [← HR0.out] at h;exact ⟨norm_size (by decide) HZS.out h, norm_len h⟩
    have hge : (w1.alloc (.cells #[.nilIface] 112)).heap[w1.heap.size]? = some (.cells #[.nilIface] 112 (0, 0)) := heap_alloc_new w1 _;obtain ⟨hres, hbN, hkN⟩ := hN;have hcell := hkN.trans hge;have hB2 : Below w.heap.size w w2 := (hbj.trans (HB1.out.mono (by omega))).trans ((((Below.refl _ _).alloc (Nat.le_refl w1.heap.size) _).mono (by omega)).trans (hbN.mono (by omega)));have hlt2 : w1.heap.size < w2.heap.size := (Array.getElem?_eq_some_iff.1 hcell).1;have hcE : w2.cell? ⟨w1.heap.size, 0, none⟩ = some .nilIface := cell_of_row _ _ _ _ _ _ hcell;have hfE : w2.frozen? ⟨w1.heap.size, 0, none⟩ = false := frozen_of_row _ _ _ _ _ hcell;have hsz12 : (w1.alloc (.cells #[.nilIface] 112)).heap.size = w1.heap.size + 1 := by simp
    clear hge hkN hcell hbN;have hmf : ∀ (fn : Fn) (first cap : Array Value) (w : World), (Instr.makeFunc fn first cap).run Tryz.prog w = .ok (.func fn first cap) w := fun _ _ _ _ => rfl
    cases R0 with
    | none =>
     obtain ⟨t, x, rfl⟩ := hres;have HX : Hid (fieldsG s o = none) := Lib.hid (by rw [HR.out]; rfl);have HB := Lib.hid (hB2.setCell (p := ⟨w1.heap.size, 0, none⟩) (show w.heap.size ≤ w1.heap.size by omega) (.iface t x));clear hB2;go_wp2_with fail
     go_quiet (fail)
     go_wp2_with fail
     go_ret2;rw [HPG.out, HX.out];exact ⟨⟨t, x, rfl⟩, below_of_le HB.out (below_drewN _ nq)⟩
    | some l =>
     obtain ⟨g, c, rfl, hgg, hT⟩ := hres;have HPS : Hid (PSt w (w2.setCell ⟨w1.heap.size, 0, none⟩ .nilIface) g c w1.heap.size l .nilIface) := Lib.hid (PSt.left (x := .nilIface) ⟨hT, hcE, hfE, hlt2, by omega, hB2, by omega, by omega⟩ (errLeft_of .nilIface .nilIface (Below.refl _ _) hlt2 hcE hfE));obtain ⟨hsz, hlen⟩ := HZN.out l rfl;have HGW : Hid (∀ w', Below w.heap.size w w' → G w') := Lib.hid fun w' h => hg.below h
     have HX : Hid (fieldsG s o = sixS l) := Lib.hid (by rw [HR.out]; rfl);have hx : ∀ k, k < 6 → ∃ x, l[k]? = some x ∧ l.getD k ⟨#[]⟩ = x ∧ x.size ≤ 4294967296 := fun k hk => ⟨l[k], List.getElem?_eq_getElem (by omega), by simp [List.getD, show k < l.length by omega], hsz _ (List.getElem_mem _)⟩
     clear hT hB2 hsz hlen HR HR0 HZN HZS hgg hg;obtain ⟨x0, hx0, hy0, hs0⟩ := hx 0 (by omega)
     have HC0 : Hid (∀ m Inv, Reads m (valK 0) Inv → ∀ w' : World, Inv w' → w1.heap.size < w'.heap.size → ∀ v0 ok, ErrSt v0 ok → w'.cell? ⟨w1.heap.size, 0, none⟩ = some v0 → w'.frozen? ⟨w1.heap.size, 0, none⟩ = false →
       Calls Tryz.prog 104 #[.string x0, .agg #[.int .u64 (loK 0 : Nat), .int .u64 (hiK 0 : Nat), .map m], .pointer (some ⟨w1.heap.size, 0, none⟩)] w' (ClosureA w' w1.heap.size ok (bitsAt l 0))) :=
      Lib.hid fun m Inv hR w' hI hg v0 ok hv hc hf => by
       unfold bitsAt;rw [hy0];exact closureA m (valK 0) Inv hR (loK 0) (hiK 0) x0 hs0 (loK_le 0) (hiK_le 0) w1.heap.size w' hI hg v0 ok hv hc hf
     have HX0 := Lib.hid hx0;obtain ⟨x1, hx1, hy1, hs1⟩ := hx 1 (by omega)
     have HC1 : Hid (∀ m Inv, Reads m (valK 1) Inv → ∀ w' : World, Inv w' → w1.heap.size < w'.heap.size → ∀ v0 ok, ErrSt v0 ok → w'.cell? ⟨w1.heap.size, 0, none⟩ = some v0 → w'.frozen? ⟨w1.heap.size, 0, none⟩ = false →
       Calls Tryz.prog 104 #[.string x1, .agg #[.int .u64 (loK 1 : Nat), .int .u64 (hiK 1 : Nat), .map m], .pointer (some ⟨w1.heap.size, 0, none⟩)] w' (ClosureA w' w1.heap.size ok (bitsAt l 1))) :=
      Lib.hid fun m Inv hR w' hI hg v0 ok hv hc hf => by
       unfold bitsAt;rw [hy1];exact closureA m (valK 1) Inv hR (loK 1) (hiK 1) x1 hs1 (loK_le 1) (hiK_le 1) w1.heap.size w' hI hg v0 ok hv hc hf
     have HX1 := Lib.hid hx1;obtain ⟨x2, hx2, hy2, hs2⟩ := hx 2 (by omega)
     have HC2 : Hid (∀ m Inv, Reads m (valK 2) Inv → ∀ w' : World, Inv w' → w1.heap.size < w'.heap.size → ∀ v0 ok, ErrSt v0 ok → w'.cell? ⟨w1.heap.size, 0, none⟩ = some v0 → w'.frozen? ⟨w1.heap.size, 0, none⟩ = false →
       Calls Tryz.prog 104 #[.string x2, .agg #[.int .u64 (loK 2 : Nat), .int .u64 (hiK 2 : Nat), .map m], .pointer (some ⟨w1.heap.size, 0, none⟩)] w' (ClosureA w' w1.heap.size ok (bitsAt l 2))) :=
      Lib.hid fun m Inv hR w' hI hg v0 ok hv hc hf => by
       unfold bitsAt;rw [hy2];exact closureA m (valK 2) Inv hR (loK 2) (hiK 2) x2 hs2 (loK_le 2) (hiK_le 2) w1.heap.size w' hI hg v0 ok hv hc hf
     have HX2 := Lib.hid hx2;obtain ⟨x3, hx3, hy3, hs3⟩ := hx 3 (by omega)
     have HC3 : Hid (∀ m Inv, Reads m (valK 3) Inv → ∀ w' : World, Inv w' → w1.heap.size < w'.heap.size → ∀ v0 ok, ErrSt v0 ok → w'.cell? ⟨w1.heap.size, 0, none⟩ = some v0 → w'.frozen? ⟨w1.heap.size, 0, none⟩ = false →
       Calls Tryz.prog 104 #[.string x3, .agg #[.int .u64 (loK 3 : Nat), .int .u64 (hiK 3 : Nat), .map m], .pointer (some ⟨w1.heap.size, 0, none⟩)] w' (ClosureA w' w1.heap.size ok (bitsAt l 3))) :=
      Lib.hid fun m Inv hR w' hI hg v0 ok hv hc hf => by
       unfold bitsAt;rw [hy3];exact closureA m (valK 3) Inv hR (loK 3) (hiK 3) x3 hs3 (loK_le 3) (hiK_le 3) w1.heap.size w' hI hg v0 ok hv hc hf
     have HX3 := Lib.hid hx3;obtain ⟨x4, hx4, hy4, hs4⟩ := hx 4 (by omega)
     have HC4 : Hid (∀ m Inv, Reads m (valK 4) Inv → ∀ w' : World, Inv w' → w1.heap.size < w'.heap.size → ∀ v0 ok, ErrSt v0 ok → w'.cell? ⟨w1.heap.size, 0, none⟩ = some v0 → w'.frozen? ⟨w1.heap.size, 0, none⟩ = false →
       Calls Tryz.prog 104 #[.string x4, .agg #[.int .u64 (loK 4 : Nat), .int .u64 (hiK 4 : Nat), .map m], .pointer (some ⟨w1.heap.size, 0, none⟩)] w' (ClosureA w' w1.heap.size ok (bitsAt l 4))) :=
      Lib.hid fun m Inv hR w' hI hg v0 ok hv hc hf => by
       unfold bitsAt;rw [hy4];exact closureA m (valK 4) Inv hR (loK 4) (hiK 4) x4 hs4 (loK_le 4) (hiK_le 4) w1.heap.size w' hI hg v0 ok hv hc hf
     have HX4 := Lib.hid hx4;obtain ⟨x5, hx5, hy5, hs5⟩ := hx 5 (by omega)
     have HC5 : Hid (∀ m Inv, Reads m (valK 5) Inv → ∀ w' : World, Inv w' → w1.heap.size < w'.heap.size → ∀ v0 ok, ErrSt v0 ok → w'.cell? ⟨w1.heap.size, 0, none⟩ = some v0 → w'.frozen? ⟨w1.heap.size, 0, none⟩ = false →
       Calls Tryz.prog 104 #[.string x5, .agg #[.int .u64 (loK 5 : Nat), .int .u64 (hiK 5 : Nat), .map m], .pointer (some ⟨w1.heap.size, 0, none⟩)] w' (ClosureA w' w1.heap.size ok (bitsAt l 5))) :=
      Lib.hid fun m Inv hR w' hI hg v0 ok hv hc hf => by
       unfold bitsAt;rw [hy5];exact closureA m (valK 5) Inv hR (loK 5) (hiK 5) x5 hs5 (loK_le 5) (hiK_le 5) w1.heap.size w' hI hg v0 ok hv hc hf
     have HX5 := Lib.hid hx5;have HS := Lib.hid (fun a b c d e f => six_some (l := l) (a := a) (b := b) (c := c) (d := d) (e := e) (f := f));have HN := Lib.hid (six_none (l := l));clear hx hy0 hy1 hy2 hy3 hy4 hy5 hx0 hx1 hx2 hx3 hx4 hx5 hs0 hs1 hs2 hs3 hs4 hs5;generalize sixS l = R6 at *;generalize bitsAt l 0 = r0 at *;generalize bitsAt l 1 = r1 at *;generalize bitsAt l 2 = r2 at *;generalize bitsAt l 3 = r3 at *;generalize bitsAt l 4 = r4 at *;generalize bitsAt l 5 = r5 at *;go_wp2_with fail
     generalize hW3 : w2.setCell ⟨w1.heap.size, 0, none⟩ .nilIface = w3 at *;clear hW3 hcE hfE hlt2;have hE0 : Hid (ErrSt .nilIface true) := Lib.hid rfl;generalize hge : w1.heap.size = ge at *;clear hge;go_upto_region 22 with fail
     go_cut [13] (fun v wc => ∃ (n : Int) (x : Value), v = .int .u64 n ∧ Hid (PSt w wc g c ge l x) ∧ Hid (ErrSt x (true && r0.isSome)) ∧ Hid (true = true → ∀ b, r0 = some b → n = b))
     case first =>
      have hc0 : w3.cell? ⟨g, 0, none⟩ = some (.string x0) := HPS.out.txt.at_ 0 _ HX0.out;have hgl : g < w3.heap.size := HPS.out.txt.lt;refine start_ (n := 7) (S := fun w' => w'.cell? ⟨g, 0, none⟩ = some (.string x0)) (ds := [5]) #[nn, nn, nn, nn, nn, nn, nn] (by kernel_rfl) rfl rfl (hc0) (fun hHeld => ?_);refine pure_ (i := 0) (N := some 74) (v := ?_) (a' := ?_) #[yy, nn, nn, nn, nn, nn, nn] rfl rfl (by kernel_rfl) (fun _ _ _ h => h) (Or.inl ⟨by rfl, ?_⟩) ?_ ?_;rotate_left
      ·intro w';go_simp;with_reducible rfl
      rotate_left
      ·simp only [nrm];rfl
      refine pure_ (i := 1) (N := some 75) (v := ?_) (a' := ?_) #[yy, yy, nn, nn, nn, nn, nn] rfl rfl (by kernel_rfl) (fun _ _ _ h => h) (Or.inl ⟨by rfl, ?_⟩) ?_ ?_;rotate_left
      ·intro w';go_simp;with_reducible rfl
      rotate_left
      ·simp only [nrm];rfl
      refine pure_ (i := 2) (N := some 76) (v := ?_) (a' := ?_) #[yy, yy, yy, nn, nn, nn, nn] rfl rfl (by kernel_rfl) (fun _ _ _ h => h) (Or.inl ⟨by rfl, ?_⟩) ?_ ?_;rotate_left
      ·intro w';go_simp;with_reducible rfl
      rotate_left
      ·simp only [nrm];rfl
      refine take_ (i := 3) (N := some 77) (v := ?_) (a' := ?_) #[yy, yy, yy, yy, nn, nn, nn] rfl rfl (by kernel_rfl) (fun _ _ _ h => h) (Or.inl ⟨by rfl, ?_⟩) hHeld ?_ ?_;rotate_left
      ·intro w' s0;go_simp;with_reducible rfl
      rotate_left
      ·simp only [nrm];rfl
      refine one_ (i := 4) (N := some 78) #[yy, yy, yy, yy, yy, nn, nn] rfl rfl (by kernel_rfl) (by decide) (fun K hK => ?_);refine goes_ Tryz.func106 (by kernel_rfl) rfl #[] (by rfl) rfl rfl (by simp only [List.map_toArray, List.map_nil]) ?_;with_reducible refine (bounds0 _ (HGW.out _ (HPS.out.bel.drew))).mono ?_
      rintro e w4 ⟨m, Inv, rfl, hR, hI, hb4⟩;refine ⟨_, rfl, ?_⟩;refine hK.out _ _ ((hb4.cell (p := ⟨g, 0, none⟩) hgl).trans hc0) (fun hHeld => ?_);clear hK K;refine norm_ (a' := ?_) ?_ ?_;rotate_left
      ·show Act.put _ (some 78) _ = _
       simp only [nrm];rfl
      refine last_ (i := 5) (N := some 79) #[yy, yy, yy, yy, yy, yy, nn] rfl rfl (by kernel_rfl) (by decide) (fun K hK => ?_);have HP4 := Lib.hid ((HPS.out.below ((Below.refl _ _).drew)).below hb4);refine goesV_ Tryz.func104 (by kernel_rfl) rfl #[.string x0, .agg #[.int .u64 (loK 0 : Nat), .int .u64 (hiK 0 : Nat), .map m]] #[.pointer (some ⟨ge, 0, none⟩)] #[.string x0, .agg #[.int .u64 (loK 0 : Nat), .int .u64 (hiK 0 : Nat), .map m], .pointer (some ⟨ge, 0, none⟩)] rfl (by rfl) (by rfl) rfl rfl (by simp only [List.map_toArray, List.map_cons, List.map_nil]; rfl) ?_;with_reducible refine (HC0.out m Inv hR _ hI HP4.out.lt .nilIface true hE0.out HP4.out.err HP4.out.free).mono ?_
      rintro e w5 ⟨n, x, rfl, hl5, he5, hn5⟩;refine ⟨_, rfl, ?_⟩;have HP5 := Lib.hid (HP4.out.left hl5);have HE5 := Lib.hid he5;have HN5 := Lib.hid hn5;clear hl5 he5 hn5;refine hK.out _ _ ?_;clear hK K;refine norm_ (a' := ?_) ?_ ?_;rotate_left
      ·show Act.put _ (some 79) _ = _
       simp only [nrm];rfl
      refine pure_ (i := 6) (N := some 13) (v := ?_) (a' := ?_) #[yy, yy, yy, yy, yy, yy, yy] rfl rfl (by kernel_rfl) (fun _ _ _ h => h) (Or.inl ⟨by rfl, ?_⟩) ?_ ?_;rotate_left
      ·intro w';go_simp;with_reducible rfl
      rotate_left
      ·simp only [nrm];rfl
      refine done_ (by kernel_rfl) ?_;go_wp2_with fail
      go_meet
      exact ⟨n, x, rfl, HP5, HE5, HN5⟩
     case rest =>
     obtain ⟨n0, e0, rfl, HPS0, HE0, HN0⟩ := hcut;obtain ⟨wk0, rfl⟩ : ∃ wk : World, wk = wc := ⟨_, rfl⟩
     clear HPS hE0 HC0 HX0;go_upto_region 23 with fail
     go_cut [14] (fun v wc => ∃ (n : Int) (x : Value), v = .int .u64 n ∧ Hid (PSt w wc g c ge l x) ∧ Hid (ErrSt x ((true && r0.isSome) && r1.isSome)) ∧ Hid ((true && r0.isSome) = true → ∀ b, r1 = some b → n = b))
     case first =>
      have hc1 : wk0.cell? ⟨g, 1, none⟩ = some (.string x1) := HPS0.out.txt.at_ 1 _ HX1.out;have hgl : g < wk0.heap.size := HPS0.out.txt.lt;refine start_ (n := 7) (S := fun w' => w'.cell? ⟨g, 1, none⟩ = some (.string x1)) (ds := [5]) #[nn, nn, nn, nn, nn, nn, nn] (by kernel_rfl) rfl rfl (hc1) (fun hHeld => ?_);refine pure_ (i := 0) (N := some 80) (v := ?_) (a' := ?_) #[yy, nn, nn, nn, nn, nn, nn] rfl rfl (by kernel_rfl) (fun _ _ _ h => h) (Or.inl ⟨by rfl, ?_⟩) ?_ ?_;rotate_left
      ·intro w';go_simp;with_reducible rfl
      rotate_left
      ·simp only [nrm];rfl
      refine pure_ (i := 1) (N := some 81) (v := ?_) (a' := ?_) #[yy, yy, nn, nn, nn, nn, nn] rfl rfl (by kernel_rfl) (fun _ _ _ h => h) (Or.inl ⟨by rfl, ?_⟩) ?_ ?_;rotate_left
      ·intro w';go_simp;with_reducible rfl
      rotate_left
      ·simp only [nrm];rfl
      refine pure_ (i := 2) (N := some 82) (v := ?_) (a' := ?_) #[yy, yy, yy, nn, nn, nn, nn] rfl rfl (by kernel_rfl) (fun _ _ _ h => h) (Or.inl ⟨by rfl, ?_⟩) ?_ ?_;rotate_left
      ·intro w';go_simp;with_reducible rfl
      rotate_left
      ·simp only [nrm];rfl
      refine take_ (i := 3) (N := some 83) (v := ?_) (a' := ?_) #[yy, yy, yy, yy, nn, nn, nn] rfl rfl (by kernel_rfl) (fun _ _ _ h => h) (Or.inl ⟨by rfl, ?_⟩) hHeld ?_ ?_;rotate_left
      ·intro w' s0;go_simp;with_reducible rfl
      rotate_left
      ·simp only [nrm];rfl
      refine one_ (i := 4) (N := some 84) #[yy, yy, yy, yy, yy, nn, nn] rfl rfl (by kernel_rfl) (by decide) (fun K hK => ?_);refine goes_ Tryz.func107 (by kernel_rfl) rfl #[] (by rfl) rfl rfl (by simp only [List.map_toArray, List.map_nil]) ?_;with_reducible refine (bounds1 _ (HGW.out _ (HPS0.out.bel.drew))).mono ?_
      rintro e w4 ⟨m, Inv, rfl, hR, hI, hb4⟩;refine ⟨_, rfl, ?_⟩;refine hK.out _ _ ((hb4.cell (p := ⟨g, 1, none⟩) hgl).trans hc1) (fun hHeld => ?_);clear hK K;refine norm_ (a' := ?_) ?_ ?_;rotate_left
      ·show Act.put _ (some 84) _ = _
       simp only [nrm];rfl
      refine last_ (i := 5) (N := some 85) #[yy, yy, yy, yy, yy, yy, nn] rfl rfl (by kernel_rfl) (by decide) (fun K hK => ?_);have HP4 := Lib.hid ((HPS0.out.below ((Below.refl _ _).drew)).below hb4);refine goesV_ Tryz.func104 (by kernel_rfl) rfl #[.string x1, .agg #[.int .u64 (loK 1 : Nat), .int .u64 (hiK 1 : Nat), .map m]] #[.pointer (some ⟨ge, 0, none⟩)] #[.string x1, .agg #[.int .u64 (loK 1 : Nat), .int .u64 (hiK 1 : Nat), .map m], .pointer (some ⟨ge, 0, none⟩)] rfl (by rfl) (by rfl) rfl rfl (by simp only [List.map_toArray, List.map_cons, List.map_nil]; rfl) ?_;with_reducible refine (HC1.out m Inv hR _ hI HP4.out.lt e0 (true && r0.isSome) HE0.out HP4.out.err HP4.out.free).mono ?_
      rintro e w5 ⟨n, x, rfl, hl5, he5, hn5⟩;refine ⟨_, rfl, ?_⟩;have HP5 := Lib.hid (HP4.out.left hl5);have HE5 := Lib.hid he5;have HN5 := Lib.hid hn5;clear hl5 he5 hn5;refine hK.out _ _ ?_;clear hK K;refine norm_ (a' := ?_) ?_ ?_;rotate_left
      ·show Act.put _ (some 85) _ = _
       simp only [nrm];rfl
      refine pure_ (i := 6) (N := some 14) (v := ?_) (a' := ?_) #[yy, yy, yy, yy, yy, yy, yy] rfl rfl (by kernel_rfl) (fun _ _ _ h => h) (Or.inl ⟨by rfl, ?_⟩) ?_ ?_;rotate_left
      ·intro w';go_simp;with_reducible rfl
      rotate_left
      ·simp only [nrm];rfl
      refine done_ (by kernel_rfl) ?_;go_wp2_with fail
      go_meet
      exact ⟨n, x, rfl, HP5, HE5, HN5⟩
     case rest =>
     obtain ⟨n1, e1, rfl, HPS1, HE1, HN1⟩ := hcut;obtain ⟨wk1, rfl⟩ : ∃ wk : World, wk = wc := ⟨_, rfl⟩
     clear HPS0 HE0 HC1 HX1;go_upto_region 24 with fail
     go_cut [15] (fun v wc => ∃ (n : Int) (x : Value), v = .int .u64 n ∧ Hid (PSt w wc g c ge l x) ∧ Hid (ErrSt x (((true && r0.isSome) && r1.isSome) && r2.isSome)) ∧ Hid (((true && r0.isSome) && r1.isSome) = true → ∀ b, r2 = some b → n = b))
     case first =>
      have hc2 : wk1.cell? ⟨g, 2, none⟩ = some (.string x2) := HPS1.out.txt.at_ 2 _ HX2.out;have hgl : g < wk1.heap.size := HPS1.out.txt.lt;refine start_ (n := 7) (S := fun w' => w'.cell? ⟨g, 2, none⟩ = some (.string x2)) (ds := [5]) #[nn, nn, nn, nn, nn, nn, nn] (by kernel_rfl) rfl rfl (hc2) (fun hHeld => ?_);refine pure_ (i := 0) (N := some 86) (v := ?_) (a' := ?_) #[yy, nn, nn, nn, nn, nn, nn] rfl rfl (by kernel_rfl) (fun _ _ _ h => h) (Or.inl ⟨by rfl, ?_⟩) ?_ ?_;rotate_left
      ·intro w';go_simp;with_reducible rfl
      rotate_left
      ·simp only [nrm];rfl
      refine pure_ (i := 1) (N := some 87) (v := ?_) (a' := ?_) #[yy, yy, nn, nn, nn, nn, nn] rfl rfl (by kernel_rfl) (fun _ _ _ h => h) (Or.inl ⟨by rfl, ?_⟩) ?_ ?_;rotate_left
      ·intro w';go_simp;with_reducible rfl
      rotate_left
      ·simp only [nrm];rfl
      refine pure_ (i := 2) (N := some 88) (v := ?_) (a' := ?_) #[yy, yy, yy, nn, nn, nn, nn] rfl rfl (by kernel_rfl) (fun _ _ _ h => h) (Or.inl ⟨by rfl, ?_⟩) ?_ ?_;rotate_left
      ·intro w';go_simp;with_reducible rfl
      rotate_left
      ·simp only [nrm];rfl
      refine take_ (i := 3) (N := some 89) (v := ?_) (a' := ?_) #[yy, yy, yy, yy, nn, nn, nn] rfl rfl (by kernel_rfl) (fun _ _ _ h => h) (Or.inl ⟨by rfl, ?_⟩) hHeld ?_ ?_;rotate_left
      ·intro w' s0;go_simp;with_reducible rfl
      rotate_left
      ·simp only [nrm];rfl
      refine one_ (i := 4) (N := some 90) #[yy, yy, yy, yy, yy, nn, nn] rfl rfl (by kernel_rfl) (by decide) (fun K hK => ?_);refine goes_ Tryz.func108 (by kernel_rfl) rfl #[] (by rfl) rfl rfl (by simp only [List.map_toArray, List.map_nil]) ?_;with_reducible refine (bounds2 _ (HGW.out _ (HPS1.out.bel.drew))).mono ?_
      rintro e w4 ⟨m, Inv, rfl, hR, hI, hb4⟩;refine ⟨_, rfl, ?_⟩;refine hK.out _ _ ((hb4.cell (p := ⟨g, 2, none⟩) hgl).trans hc2) (fun hHeld => ?_);clear hK K;refine norm_ (a' := ?_) ?_ ?_;rotate_left
      ·show Act.put _ (some 90) _ = _
       simp only [nrm];rfl
      refine last_ (i := 5) (N := some 91) #[yy, yy, yy, yy, yy, yy, nn] rfl rfl (by kernel_rfl) (by decide) (fun K hK => ?_);have HP4 := Lib.hid ((HPS1.out.below ((Below.refl _ _).drew)).below hb4);refine goesV_ Tryz.func104 (by kernel_rfl) rfl #[.string x2, .agg #[.int .u64 (loK 2 : Nat), .int .u64 (hiK 2 : Nat), .map m]] #[.pointer (some ⟨ge, 0, none⟩)] #[.string x2, .agg #[.int .u64 (loK 2 : Nat), .int .u64 (hiK 2 : Nat), .map m], .pointer (some ⟨ge, 0, none⟩)] rfl (by rfl) (by rfl) rfl rfl (by simp only [List.map_toArray, List.map_cons, List.map_nil]; rfl) ?_;with_reducible refine (HC2.out m Inv hR _ hI HP4.out.lt e1 ((true && r0.isSome) && r1.isSome) HE1.out HP4.out.err HP4.out.free).mono ?_
      rintro e w5 ⟨n, x, rfl, hl5, he5, hn5⟩;refine ⟨_, rfl, ?_⟩;have HP5 := Lib.hid (HP4.out.left hl5);have HE5 := Lib.hid he5;have HN5 := Lib.hid hn5;clear hl5 he5 hn5;refine hK.out _ _ ?_;clear hK K;refine norm_ (a' := ?_) ?_ ?_;rotate_left
      ·show Act.put _ (some 91) _ = _
       simp only [nrm];rfl
      refine pure_ (i := 6) (N := some 15) (v := ?_) (a' := ?_) #[yy, yy, yy, yy, yy, yy, yy] rfl rfl (by kernel_rfl) (fun _ _ _ h => h) (Or.inl ⟨by rfl, ?_⟩) ?_ ?_;rotate_left
      ·intro w';go_simp;with_reducible rfl
      rotate_left
      ·simp only [nrm];rfl
      refine done_ (by kernel_rfl) ?_;go_wp2_with fail
      go_meet
      exact ⟨n, x, rfl, HP5, HE5, HN5⟩
     case rest =>
     obtain ⟨n2, e2, rfl, HPS2, HE2, HN2⟩ := hcut;obtain ⟨wk2, rfl⟩ : ∃ wk : World, wk = wc := ⟨_, rfl⟩
     clear HPS1 HE1 HC2 HX2;go_upto_region 25 with fail
     go_cut [16] (fun v wc => ∃ (n : Int) (x : Value), v = .int .u64 n ∧ Hid (PSt w wc g c ge l x) ∧ Hid (ErrSt x ((((true && r0.isSome) && r1.isSome) && r2.isSome) && r3.isSome)) ∧ Hid ((((true && r0.isSome) && r1.isSome) && r2.isSome) = true → ∀ b, r3 = some b → n = b))
     case first =>
      have hc3 : wk2.cell? ⟨g, 3, none⟩ = some (.string x3) := HPS2.out.txt.at_ 3 _ HX3.out;have hgl : g < wk2.heap.size := HPS2.out.txt.lt;refine start_ (n := 7) (S := fun w' => w'.cell? ⟨g, 3, none⟩ = some (.string x3)) (ds := [5]) #[nn, nn, nn, nn, nn, nn, nn] (by kernel_rfl) rfl rfl (hc3) (fun hHeld => ?_);refine pure_ (i := 0) (N := some 92) (v := ?_) (a' := ?_) #[yy, nn, nn, nn, nn, nn, nn] rfl rfl (by kernel_rfl) (fun _ _ _ h => h) (Or.inl ⟨by rfl, ?_⟩) ?_ ?_;rotate_left
      ·intro w';go_simp;with_reducible rfl
      rotate_left
      ·simp only [nrm];rfl
      refine pure_ (i := 1) (N := some 93) (v := ?_) (a' := ?_) #[yy, yy, nn, nn, nn, nn, nn] rfl rfl (by kernel_rfl) (fun _ _ _ h => h) (Or.inl ⟨by rfl, ?_⟩) ?_ ?_;rotate_left
      ·intro w';go_simp;with_reducible rfl
      rotate_left
      ·simp only [nrm];rfl
      refine pure_ (i := 2) (N := some 94) (v := ?_) (a' := ?_) #[yy, yy, yy, nn, nn, nn, nn] rfl rfl (by kernel_rfl) (fun _ _ _ h => h) (Or.inl ⟨by rfl, ?_⟩) ?_ ?_;rotate_left
      ·intro w';go_simp;with_reducible rfl
      rotate_left
      ·simp only [nrm];rfl
      refine take_ (i := 3) (N := some 95) (v := ?_) (a' := ?_) #[yy, yy, yy, yy, nn, nn, nn] rfl rfl (by kernel_rfl) (fun _ _ _ h => h) (Or.inl ⟨by rfl, ?_⟩) hHeld ?_ ?_;rotate_left
      ·intro w' s0;go_simp;with_reducible rfl
      rotate_left
      ·simp only [nrm];rfl
      refine one_ (i := 4) (N := some 96) #[yy, yy, yy, yy, yy, nn, nn] rfl rfl (by kernel_rfl) (by decide) (fun K hK => ?_);refine goes_ Tryz.func109 (by kernel_rfl) rfl #[] (by rfl) rfl rfl (by simp only [List.map_toArray, List.map_nil]) ?_;with_reducible refine (bounds3 _ (HGW.out _ (HPS2.out.bel.drew))).mono ?_
      rintro e w4 ⟨m, Inv, rfl, hR, hI, hb4⟩;refine ⟨_, rfl, ?_⟩;refine hK.out _ _ ((hb4.cell (p := ⟨g, 3, none⟩) hgl).trans hc3) (fun hHeld => ?_);clear hK K;refine norm_ (a' := ?_) ?_ ?_;rotate_left
      ·show Act.put _ (some 96) _ = _
       simp only [nrm];rfl
      refine last_ (i := 5) (N := some 97) #[yy, yy, yy, yy, yy, yy, nn] rfl rfl (by kernel_rfl) (by decide) (fun K hK => ?_);have HP4 := Lib.hid ((HPS2.out.below ((Below.refl _ _).drew)).below hb4);refine goesV_ Tryz.func104 (by kernel_rfl) rfl #[.string x3, .agg #[.int .u64 (loK 3 : Nat), .int .u64 (hiK 3 : Nat), .map m]] #[.pointer (some ⟨ge, 0, none⟩)] #[.string x3, .agg #[.int .u64 (loK 3 : Nat), .int .u64 (hiK 3 : Nat), .map m], .pointer (some ⟨ge, 0, none⟩)] rfl (by rfl) (by rfl) rfl rfl (by simp only [List.map_toArray, List.map_cons, List.map_nil]; rfl) ?_;with_reducible refine (HC3.out m Inv hR _ hI HP4.out.lt e2 (((true && r0.isSome) && r1.isSome) && r2.isSome) HE2.out HP4.out.err HP4.out.free).mono ?_
      rintro e w5 ⟨n, x, rfl, hl5, he5, hn5⟩;refine ⟨_, rfl, ?_⟩;have HP5 := Lib.hid (HP4.out.left hl5);have HE5 := Lib.hid he5;have HN5 := Lib.hid hn5;clear hl5 he5 hn5;refine hK.out _ _ ?_;clear hK K;refine norm_ (a' := ?_) ?_ ?_;rotate_left
      ·show Act.put _ (some 97) _ = _
       simp only [nrm];rfl
      refine pure_ (i := 6) (N := some 16) (v := ?_) (a' := ?_) #[yy, yy, yy, yy, yy, yy, yy] rfl rfl (by kernel_rfl) (fun _ _ _ h => h) (Or.inl ⟨by rfl, ?_⟩) ?_ ?_;rotate_left
      ·intro w';go_simp;with_reducible rfl
      rotate_left
      ·simp only [nrm];rfl
      refine done_ (by kernel_rfl) ?_;go_wp2_with fail
      go_meet
      exact ⟨n, x, rfl, HP5, HE5, HN5⟩
     case rest =>
     obtain ⟨n3, e3, rfl, HPS3, HE3, HN3⟩ := hcut;obtain ⟨wk3, rfl⟩ : ∃ wk : World, wk = wc := ⟨_, rfl⟩
     clear HPS2 HE2 HC3 HX3;go_upto_region 26 with fail
     go_cut [17] (fun v wc => ∃ (n : Int) (x : Value), v = .int .u64 n ∧ Hid (PSt w wc g c ge l x) ∧ Hid (ErrSt x (((((true && r0.isSome) && r1.isSome) && r2.isSome) && r3.isSome) && r4.isSome)) ∧ Hid (((((true && r0.isSome) && r1.isSome) && r2.isSome) && r3.isSome) = true → ∀ b, r4 = some b → n = b))
     case first =>
      have hc4 : wk3.cell? ⟨g, 4, none⟩ = some (.string x4) := HPS3.out.txt.at_ 4 _ HX4.out;have hgl : g < wk3.heap.size := HPS3.out.txt.lt;refine start_ (n := 7) (S := fun w' => w'.cell? ⟨g, 4, none⟩ = some (.string x4)) (ds := [5]) #[nn, nn, nn, nn, nn, nn, nn] (by kernel_rfl) rfl rfl (hc4) (fun hHeld => ?_);refine pure_ (i := 0) (N := some 98) (v := ?_) (a' := ?_) #[yy, nn, nn, nn, nn, nn, nn] rfl rfl (by kernel_rfl) (fun _ _ _ h => h) (Or.inl ⟨by rfl, ?_⟩) ?_ ?_;rotate_left
      ·intro w';go_simp;with_reducible rfl
      rotate_left
      ·simp only [nrm];rfl
      refine pure_ (i := 1) (N := some 99) (v := ?_) (a' := ?_) #[yy, yy, nn, nn, nn, nn, nn] rfl rfl (by kernel_rfl) (fun _ _ _ h => h) (Or.inl ⟨by rfl, ?_⟩) ?_ ?_;rotate_left
      ·intro w';go_simp;with_reducible rfl
      rotate_left
      ·simp only [nrm];rfl
      refine pure_ (i := 2) (N := some 100) (v := ?_) (a' := ?_) #[yy, yy, yy, nn, nn, nn, nn] rfl rfl (by kernel_rfl) (fun _ _ _ h => h) (Or.inl ⟨by rfl, ?_⟩) ?_ ?_;rotate_left
      ·intro w';go_simp;with_reducible rfl
      rotate_left
      ·simp only [nrm];rfl
      refine take_ (i := 3) (N := some 101) (v := ?_) (a' := ?_) #[yy, yy, yy, yy, nn, nn, nn] rfl rfl (by kernel_rfl) (fun _ _ _ h => h) (Or.inl ⟨by rfl, ?_⟩) hHeld ?_ ?_;rotate_left
      ·intro w' s0;go_simp;with_reducible rfl
      rotate_left
      ·simp only [nrm];rfl
      refine one_ (i := 4) (N := some 102) #[yy, yy, yy, yy, yy, nn, nn] rfl rfl (by kernel_rfl) (by decide) (fun K hK => ?_);refine goes_ Tryz.func110 (by kernel_rfl) rfl #[] (by rfl) rfl rfl (by simp only [List.map_toArray, List.map_nil]) ?_;with_reducible refine (bounds4 _ (HGW.out _ (HPS3.out.bel.drew))).mono ?_
      rintro e w4 ⟨m, Inv, rfl, hR, hI, hb4⟩;refine ⟨_, rfl, ?_⟩;refine hK.out _ _ ((hb4.cell (p := ⟨g, 4, none⟩) hgl).trans hc4) (fun hHeld => ?_);clear hK K;refine norm_ (a' := ?_) ?_ ?_;rotate_left
      ·show Act.put _ (some 102) _ = _
       simp only [nrm];rfl
      refine last_ (i := 5) (N := some 103) #[yy, yy, yy, yy, yy, yy, nn] rfl rfl (by kernel_rfl) (by decide) (fun K hK => ?_);have HP4 := Lib.hid ((HPS3.out.below ((Below.refl _ _).drew)).below hb4);refine goesV_ Tryz.func104 (by kernel_rfl) rfl #[.string x4, .agg #[.int .u64 (loK 4 : Nat), .int .u64 (hiK 4 : Nat), .map m]] #[.pointer (some ⟨ge, 0, none⟩)] #[.string x4, .agg #[.int .u64 (loK 4 : Nat), .int .u64 (hiK 4 : Nat), .map m], .pointer (some ⟨ge, 0, none⟩)] rfl (by rfl) (by rfl) rfl rfl (by simp only [List.map_toArray, List.map_cons, List.map_nil]; rfl) ?_;with_reducible refine (HC4.out m Inv hR _ hI HP4.out.lt e3 ((((true && r0.isSome) && r1.isSome) && r2.isSome) && r3.isSome) HE3.out HP4.out.err HP4.out.free).mono ?_
      rintro e w5 ⟨n, x, rfl, hl5, he5, hn5⟩;refine ⟨_, rfl, ?_⟩;have HP5 := Lib.hid (HP4.out.left hl5);have HE5 := Lib.hid he5;have HN5 := Lib.hid hn5;clear hl5 he5 hn5;refine hK.out _ _ ?_;clear hK K;refine norm_ (a' := ?_) ?_ ?_;rotate_left
      ·show Act.put _ (some 103) _ = _
       simp only [nrm];rfl
      refine pure_ (i := 6) (N := some 17) (v := ?_) (a' := ?_) #[yy, yy, yy, yy, yy, yy, yy] rfl rfl (by kernel_rfl) (fun _ _ _ h => h) (Or.inl ⟨by rfl, ?_⟩) ?_ ?_;rotate_left
      ·intro w';go_simp;with_reducible rfl
      rotate_left
      ·simp only [nrm];rfl
      refine done_ (by kernel_rfl) ?_;go_wp2_with fail
      go_meet
      exact ⟨n, x, rfl, HP5, HE5, HN5⟩
     case rest =>
     obtain ⟨n4, e4, rfl, HPS4, HE4, HN4⟩ := hcut;obtain ⟨wk4, rfl⟩ : ∃ wk : World, wk = wc := ⟨_, rfl⟩
     clear HPS3 HE3 HC4 HX4;go_upto_region 27 with fail
     go_cut [18] (fun v wc => ∃ (n : Int) (x : Value), v = .int .u64 n ∧ Hid (PSt w wc g c ge l x) ∧ Hid (ErrSt x ((((((true && r0.isSome) && r1.isSome) && r2.isSome) && r3.isSome) && r4.isSome) && r5.isSome)) ∧ Hid ((((((true && r0.isSome) && r1.isSome) && r2.isSome) && r3.isSome) && r4.isSome) = true → ∀ b, r5 = some b → n = b))
     case first =>
      have hc5 : wk4.cell? ⟨g, 5, none⟩ = some (.string x5) := HPS4.out.txt.at_ 5 _ HX5.out;have hgl : g < wk4.heap.size := HPS4.out.txt.lt;refine start_ (n := 7) (S := fun w' => w'.cell? ⟨g, 5, none⟩ = some (.string x5)) (ds := [5]) #[nn, nn, nn, nn, nn, nn, nn] (by kernel_rfl) rfl rfl (hc5) (fun hHeld => ?_);refine pure_ (i := 0) (N := some 104) (v := ?_) (a' := ?_) #[yy, nn, nn, nn, nn, nn, nn] rfl rfl (by kernel_rfl) (fun _ _ _ h => h) (Or.inl ⟨by rfl, ?_⟩) ?_ ?_;rotate_left
      ·intro w';go_simp;with_reducible rfl
      rotate_left
      ·simp only [nrm];rfl
      refine pure_ (i := 1) (N := some 105) (v := ?_) (a' := ?_) #[yy, yy, nn, nn, nn, nn, nn] rfl rfl (by kernel_rfl) (fun _ _ _ h => h) (Or.inl ⟨by rfl, ?_⟩) ?_ ?_;rotate_left
      ·intro w';go_simp;with_reducible rfl
      rotate_left
      ·simp only [nrm];rfl
      refine pure_ (i := 2) (N := some 106) (v := ?_) (a' := ?_) #[yy, yy, yy, nn, nn, nn, nn] rfl rfl (by kernel_rfl) (fun _ _ _ h => h) (Or.inl ⟨by rfl, ?_⟩) ?_ ?_;rotate_left
      ·intro w';go_simp;with_reducible rfl
      rotate_left
      ·simp only [nrm];rfl
      refine take_ (i := 3) (N := some 107) (v := ?_) (a' := ?_) #[yy, yy, yy, yy, nn, nn, nn] rfl rfl (by kernel_rfl) (fun _ _ _ h => h) (Or.inl ⟨by rfl, ?_⟩) hHeld ?_ ?_;rotate_left
      ·intro w' s0;go_simp;with_reducible rfl
      rotate_left
      ·simp only [nrm];rfl
      refine one_ (i := 4) (N := some 108) #[yy, yy, yy, yy, yy, nn, nn] rfl rfl (by kernel_rfl) (by decide) (fun K hK => ?_);refine goes_ Tryz.func111 (by kernel_rfl) rfl #[] (by rfl) rfl rfl (by simp only [List.map_toArray, List.map_nil]) ?_;with_reducible refine (bounds5 _ (HGW.out _ (HPS4.out.bel.drew))).mono ?_
      rintro e w4 ⟨m, Inv, rfl, hR, hI, hb4⟩;refine ⟨_, rfl, ?_⟩;refine hK.out _ _ ((hb4.cell (p := ⟨g, 5, none⟩) hgl).trans hc5) (fun hHeld => ?_);clear hK K;refine norm_ (a' := ?_) ?_ ?_;rotate_left
      ·show Act.put _ (some 108) _ = _
       simp only [nrm];rfl
      refine last_ (i := 5) (N := some 109) #[yy, yy, yy, yy, yy, yy, nn] rfl rfl (by kernel_rfl) (by decide) (fun K hK => ?_);have HP4 := Lib.hid ((HPS4.out.below ((Below.refl _ _).drew)).below hb4);refine goesV_ Tryz.func104 (by kernel_rfl) rfl #[.string x5, .agg #[.int .u64 (loK 5 : Nat), .int .u64 (hiK 5 : Nat), .map m]] #[.pointer (some ⟨ge, 0, none⟩)] #[.string x5, .agg #[.int .u64 (loK 5 : Nat), .int .u64 (hiK 5 : Nat), .map m], .pointer (some ⟨ge, 0, none⟩)] rfl (by rfl) (by rfl) rfl rfl (by simp only [List.map_toArray, List.map_cons, List.map_nil]; rfl) ?_;with_reducible refine (HC5.out m Inv hR _ hI HP4.out.lt e4 (((((true && r0.isSome) && r1.isSome) && r2.isSome) && r3.isSome) && r4.isSome) HE4.out HP4.out.err HP4.out.free).mono ?_
      rintro e w5 ⟨n, x, rfl, hl5, he5, hn5⟩;refine ⟨_, rfl, ?_⟩;have HP5 := Lib.hid (HP4.out.left hl5);have HE5 := Lib.hid he5;have HN5 := Lib.hid hn5;clear hl5 he5 hn5;refine hK.out _ _ ?_;clear hK K;refine norm_ (a' := ?_) ?_ ?_;rotate_left
      ·show Act.put _ (some 109) _ = _
       simp only [nrm];rfl
      refine pure_ (i := 6) (N := some 18) (v := ?_) (a' := ?_) #[yy, yy, yy, yy, yy, yy, yy] rfl rfl (by kernel_rfl) (fun _ _ _ h => h) (Or.inl ⟨by rfl, ?_⟩) ?_ ?_;rotate_left
      ·intro w';go_simp;with_reducible rfl
      rotate_left
      ·simp only [nrm];rfl
      refine done_ (by kernel_rfl) ?_;go_wp2_with fail
      go_meet
      exact ⟨n, x, rfl, HP5, HE5, HN5⟩
     case rest =>
     obtain ⟨n5, e5, rfl, HPS5, HE5, HN5⟩ := hcut;obtain ⟨wk5, rfl⟩ : ∃ wk : World, wk = wc := ⟨_, rfl⟩
     clear HPS4 HE4 HC5 HX5;have hcE := HPS5.out.err;have hB6 := Lib.hid HPS5.out.bel;clear HPS5;cases hok : (((((true && r0.isSome) && r1.isSome) && r2.isSome) && r3.isSome) && r4.isSome && r5.isSome) with
     | true =>
      have hk : r0.isSome = true ∧ r1.isSome = true ∧ r2.isSome = true ∧ r3.isSome = true ∧ r4.isSome = true ∧ r5.isSome = true := by
       simpa [Bool.and_eq_true, and_assoc] using hok
      obtain ⟨k0, k1, k2, k3, k4, k5⟩ := hk;obtain ⟨b0, rfl⟩ := Option.isSome_iff_exists.1 k0;obtain ⟨b1, rfl⟩ := Option.isSome_iff_exists.1 k1;obtain ⟨b2, rfl⟩ := Option.isSome_iff_exists.1 k2;obtain ⟨b3, rfl⟩ := Option.isSome_iff_exists.1 k3;obtain ⟨b4, rfl⟩ := Option.isSome_iff_exists.1 k4;obtain ⟨b5, rfl⟩ := Option.isSome_iff_exists.1 k5;obtain rfl := HN0.out rfl b0 rfl;obtain rfl := HN1.out rfl b1 rfl;obtain rfl := HN2.out rfl b2 rfl;obtain rfl := HN3.out rfl b3 rfl;obtain rfl := HN4.out rfl b4 rfl;obtain rfl := HN5.out rfl b5 rfl;have he5 := errSt_ok HE5.out rfl;subst he5;have HX6 : Hid (fieldsG s o = some [b0, b1, b2, b3, b4, b5]) := Lib.hid (by rw [HX.out]; exact HS.out b0 b1 b2 b3 b4 b5 rfl rfl rfl rfl rfl rfl);clear hok k0 k1 k2 k3 k4 k5 HN HN0 HN1 HN2 HN3 HN4 HN5 HS HE5;go_wp2_with fail
      go_ret2;rw [HPG.out, HX6.out];exact ⟨⟨wk5.heap.size, loc, rfl, heap_alloc_new wk5 _⟩, hB6.out.alloc hB6.out.size _⟩
     | false =>
      obtain ⟨t, x, rfl⟩ := errSt_bad HE5.out (by simpa [Bool.and_assoc] using hok);have HX6 : Hid (fieldsG s o = none) := Lib.hid (by rw [HX.out]; exact HN.out hok);clear hok;go_wp2_with fail
      go_quiet (fail)
      go_wp2_with fail
      go_ret2;rw [HPG.out, HX6.out];exact ⟨⟨t, x, rfl⟩, below_of_le hB6.out (below_drewN _ nq)⟩
  ·intro HT;clear hK;have hb0 : Below w.heap.size w (w.alloc (.cells #[.int .i64 o] 105)) := (Below.refl _ _).alloc (Nat.le_refl _) _;have hc0 : (w.alloc (.cells #[.int .i64 o] 105)).cell? ⟨w.heap.size, 0, none⟩ = some (.int .i64 o) := by simp [go_sem]
   have hl0 : w.heap.size < (w.alloc (.cells #[.int .i64 o] 105)).heap.size := by simp
   generalize w.alloc (.cells #[.int .i64 o] 105) = w0 at *;have hga0 : GA w0 := hga.below hb0;by_cases hz : zoneZ s0 = 0
   ·obtain ⟨p1, p2⟩ := zoneZ_zero hz;have HPR : Hid (progS o s0 = plainG o s0) := Lib.hid (by unfold progS; rw [if_neg h0, if_pos hz]);have HP1 : Hid (∀ w' : World, Calls Tryz.prog 97 #[.string s0, .string ⟨#[84, 90, 61]⟩] w' fun e w'' => e = .returned (.bool false) ∧ w' = w'') := Lib.hid fun w' => (Tryz.strings_HasPrefix s0 ⟨#[84, 90, 61]⟩ w').mono fun e w'' hh => ⟨hh.1.trans (by rw [show (⟨#[84, 90, 61]⟩ : ByteArray).data.toList = [84, 90, 61] from rfl, p1]), hh.2.symm⟩
    have HP2 : Hid (∀ w' : World, Calls Tryz.prog 97 #[.string s0, .string ⟨#[67, 82, 79, 78, 95, 84, 90, 61]⟩] w' fun e w'' => e = .returned (.bool false) ∧ w' = w'') := Lib.hid fun w' => (Tryz.strings_HasPrefix s0 ⟨#[67, 82, 79, 78, 95, 84, 90, 61]⟩ w').mono fun e w'' hh => ⟨hh.1.trans (by rw [show (⟨#[67, 82, 79, 78, 95, 84, 90, 61]⟩ : ByteArray).data.toList = [67, 82, 79, 78, 95, 84, 90, 61] from rfl, p2]), hh.2.symm⟩
    go_wp2_with fail
    refine (HP1.out _).mono ?_;rintro e w1 ⟨rfl, rfl⟩;go_wp2_with fail
    refine (HP2.out _).mono ?_;rintro e w1 ⟨rfl, rfl⟩;go_wp2_with fail
    refine HT.out _ _ ?_;exact ⟨rfl, rfl, rfl, rfl, rfl, s0, none, rfl, rfl, hs0, HPR, hb0, hc0, hl0⟩
   ·have hm := hsp hz;have hse := tw_le (fun c => c != 32) s0.data.toList;have HI := Lib.hid (fun w' => cron_zzIndex.calls (s0.size + 1) s0 (ba [32]) _ w' (index_is 32 s0 hs0 hm));have hspd : spaceAt s0 = (s0.data.toList.takeWhile (fun c => c != 32)).length := rfl;rw [← hspd] at HI hse
    rw [← size_list] at hse;have HPR : Hid (progS o s0 = if zoneOk (s0.extract (zoneZ s0) (spaceAt s0)).data.toList = true then plainG o (trimZ (s0.extract (spaceAt s0) s0.size)) else none) := Lib.hid (by unfold progS; rw [if_neg h0, if_neg hz]);have hrest := str_from' s0 (spaceAt s0) hse;have htz := trimZ_size (s0.extract (spaceAt s0) s0.size);have hex : (s0.extract (spaceAt s0) s0.size).size ≤ s0.size := by rw [ByteArray.size_extract]; omega
    have HTR := Lib.hid (fun w' h => trim_any (s0.extract (spaceAt s0) s0.size) (by omega) w' h);cases p1 : Lib.hasPrefix s0.data.toList [84, 90, 61] with
    | true =>
     have HP1 : Hid (∀ w' : World, Calls Tryz.prog 97 #[.string s0, .string ⟨#[84, 90, 61]⟩] w' fun e w'' => e = .returned (.bool true) ∧ w' = w'') := Lib.hid fun w' => (Tryz.strings_HasPrefix s0 ⟨#[84, 90, 61]⟩ w').mono fun e w'' hh => ⟨hh.1.trans (by rw [show (⟨#[84, 90, 61]⟩ : ByteArray).data.toList = [84, 90, 61] from rfl, p1]), hh.2.symm⟩
     have hzn : zoneZ s0 = 3 := by unfold zoneZ; rw [if_pos p1]
     obtain ⟨t, ht⟩ : ∃ t, s0.data.toList = 84 :: 90 :: 61 :: t := by
      obtain ⟨t, ht⟩ := List.isPrefixOf_iff_prefix.1 p1;exact ⟨t, ht.symm⟩
     clear p1;have HE := Lib.hid (fun w' => cron_zzIndex.calls (s0.size + 1) s0 (ba [61]) _ w' (index_is 61 s0 hs0 (by rw [ht]; simp)));have he : (s0.data.toList.takeWhile (fun x => x != 61)).length = 2 := by rw [ht]; rfl
     have hns : 3 ≤ spaceAt s0 := by rw [hspd, ht]; simp [List.takeWhile]
     rw [he] at HE;rw [hzn] at HPR;have hsub : ∀ w' : World, (Instr.slice 9 (.string s0) (some (.int .i64 3)) (some (.int .i64 (spaceAt s0 : Nat))) none).run Tryz.prog w' = .ok (.string (s0.extract 3 (spaceAt s0))) w' := fun w' => str_sub s0 3 (spaceAt s0) hns hse w'
     have HL := Lib.hid (fun w' h => loadLoc_any (s0.extract 3 (spaceAt s0)) (by rw [ByteArray.size_extract]; omega) w' h);generalize zoneOk (s0.extract 3 (spaceAt s0)).data.toList = zb at *;clear ht he hspd hm hns;go_wp2_with fail
     refine (HP1.out _).mono ?_;rintro e w1 ⟨rfl, rfl⟩;go_wp2_with fail
     refine (HI.out _).mono ?_;rintro e w2 ⟨rfl, hd⟩;have hb2 := below_of_le hb0 hd.below;have hc2 := (hd.below.cell (p := ⟨w.heap.size, 0, none⟩) hl0).trans hc0;have hl2 : w.heap.size < w2.heap.size := Nat.lt_of_lt_of_le hl0 hd.below.size;clear hd hb0 hc0 hl0 HI;go_wp2_with fail
     refine (HE.out _).mono ?_;rintro e w3 ⟨rfl, hd⟩;have hb3 := below_of_le hb2 hd.below;have hc3 := (hd.below.cell (p := ⟨w.heap.size, 0, none⟩) hl2).trans hc2;have hl3 : w.heap.size < w3.heap.size := Nat.lt_of_lt_of_le hl2 hd.below.size;clear hd hb2 hc2 hl2 HE;have HG3 := Lib.hid (hga.below hb3);go_wp2_with fail
     refine (HL.out _ HG3.out.l).mono ?_;rintro e w4 ⟨hla, hb⟩;have hb4 := below_of_le hb3 hb;have hc4 := (hb.cell (p := ⟨w.heap.size, 0, none⟩) hl3).trans hc3;have hl4 : w.heap.size < w4.heap.size := Nat.lt_of_lt_of_le hl3 hb.size;clear hb hb3 hc3 hl3 HL HG3;have HG4 := Lib.hid (hga.below hb4);cases zb with
     | false =>
      obtain ⟨t, x, rfl⟩ := hla;have HN : Hid (progS o s0 = none) := Lib.hid (by rw [HPR.out]; rfl);clear HPR;go_wp2_with fail
      refine (errorsNew_any _ _).mono ?_;rintro e w5 ⟨t, x, rfl, hb⟩;go_wp2_with fail
      go_ret2;rw [HN.out];exact ⟨⟨t, x, rfl⟩, below_of_le hb4 hb⟩
     | true =>
      obtain ⟨loc, rfl⟩ := hla;have HN : Hid (progS o s0 = plainG o (trimZ (s0.extract (spaceAt s0) s0.size))) := Lib.hid (by rw [HPR.out]; rfl);clear HPR;go_wp2_with fail
      refine (HTR.out _ HG4.out.u).mono ?_;rintro e w5 ⟨rfl, hb⟩;have hb5 := below_of_le hb4 hb;have hc5 := (hb.cell (p := ⟨w.heap.size, 0, none⟩) hl4).trans hc4;have hl5 : w.heap.size < w5.heap.size := Nat.lt_of_lt_of_le hl4 hb.size;clear hb hb4 hc4 hl4 HTR HG4;go_wp2_with fail
      refine HT.out _ _ ?_;exact ⟨rfl, rfl, rfl, rfl, rfl, _, loc, rfl, rfl, by omega, HN, hb5, hc5, hl5⟩
    | false =>
     have HP1 : Hid (∀ w' : World, Calls Tryz.prog 97 #[.string s0, .string ⟨#[84, 90, 61]⟩] w' fun e w'' => e = .returned (.bool false) ∧ w' = w'') := Lib.hid fun w' => (Tryz.strings_HasPrefix s0 ⟨#[84, 90, 61]⟩ w').mono fun e w'' hh => ⟨hh.1.trans (by rw [show (⟨#[84, 90, 61]⟩ : ByteArray).data.toList = [84, 90, 61] from rfl, p1]), hh.2.symm⟩
     have p2 : Lib.hasPrefix s0.data.toList [67, 82, 79, 78, 95, 84, 90, 61] = true := by
      cases p2 : Lib.hasPrefix s0.data.toList [67, 82, 79, 78, 95, 84, 90, 61] with
      | true => rfl
      | false => exact absurd (by unfold zoneZ; rw [p1, p2]; rfl) hz
     have HP2 : Hid (∀ w' : World, Calls Tryz.prog 97 #[.string s0, .string ⟨#[67, 82, 79, 78, 95, 84, 90, 61]⟩] w' fun e w'' => e = .returned (.bool true) ∧ w' = w'') := Lib.hid fun w' => (Tryz.strings_HasPrefix s0 ⟨#[67, 82, 79, 78, 95, 84, 90, 61]⟩ w').mono fun e w'' hh => ⟨hh.1.trans (by rw [show (⟨#[67, 82, 79, 78, 95, 84, 90, 61]⟩ : ByteArray).data.toList = [67, 82, 79, 78, 95, 84, 90, 61] from rfl, p2]), hh.2.symm⟩
     have hzn : zoneZ s0 = 8 := by unfold zoneZ; rw [p1, p2]; rfl
     obtain ⟨t, ht⟩ : ∃ t, s0.data.toList = 67 :: 82 :: 79 :: 78 :: 95 :: 84 :: 90 :: 61 :: t := by
      obtain ⟨t, ht⟩ := List.isPrefixOf_iff_prefix.1 p2;exact ⟨t, ht.symm⟩
     clear p2;clear p1;have HE := Lib.hid (fun w' => cron_zzIndex.calls (s0.size + 1) s0 (ba [61]) _ w' (index_is 61 s0 hs0 (by rw [ht]; simp)));have he : (s0.data.toList.takeWhile (fun x => x != 61)).length = 7 := by rw [ht]; rfl
     have hns : 8 ≤ spaceAt s0 := by rw [hspd, ht]; simp [List.takeWhile]
     rw [he] at HE;rw [hzn] at HPR;have hsub : ∀ w' : World, (Instr.slice 9 (.string s0) (some (.int .i64 8)) (some (.int .i64 (spaceAt s0 : Nat))) none).run Tryz.prog w' = .ok (.string (s0.extract 8 (spaceAt s0))) w' := fun w' => str_sub s0 8 (spaceAt s0) hns hse w'
     have HL := Lib.hid (fun w' h => loadLoc_any (s0.extract 8 (spaceAt s0)) (by rw [ByteArray.size_extract]; omega) w' h);generalize zoneOk (s0.extract 8 (spaceAt s0)).data.toList = zb at *;clear ht he hspd hm hns;go_wp2_with fail
     refine (HP1.out _).mono ?_;rintro e w1 ⟨rfl, rfl⟩;go_wp2_with fail
     refine (HP2.out _).mono ?_;rintro e w1 ⟨rfl, rfl⟩;go_wp2_with fail
     refine (HI.out _).mono ?_;rintro e w2 ⟨rfl, hd⟩;have hb2 := below_of_le hb0 hd.below;have hc2 := (hd.below.cell (p := ⟨w.heap.size, 0, none⟩) hl0).trans hc0;have hl2 : w.heap.size < w2.heap.size := Nat.lt_of_lt_of_le hl0 hd.below.size;clear hd hb0 hc0 hl0 HI;go_wp2_with fail
     refine (HE.out _).mono ?_;rintro e w3 ⟨rfl, hd⟩;have hb3 := below_of_le hb2 hd.below;have hc3 := (hd.below.cell (p := ⟨w.heap.size, 0, none⟩) hl2).trans hc2;have hl3 : w.heap.size < w3.heap.size := Nat.lt_of_lt_of_le hl2 hd.below.size;clear hd hb2 hc2 hl2 HE;have HG3 := Lib.hid (hga.below hb3);go_wp2_with fail
     refine (HL.out _ HG3.out.l).mono ?_;rintro e w4 ⟨hla, hb⟩;have hb4 := below_of_le hb3 hb;have hc4 := (hb.cell (p := ⟨w.heap.size, 0, none⟩) hl3).trans hc3;have hl4 : w.heap.size < w4.heap.size := Nat.lt_of_lt_of_le hl3 hb.size;clear hb hb3 hc3 hl3 HL HG3;have HG4 := Lib.hid (hga.below hb4);cases zb with
     | false =>
      obtain ⟨t, x, rfl⟩ := hla;have HN : Hid (progS o s0 = none) := Lib.hid (by rw [HPR.out]; rfl);clear HPR;go_wp2_with fail
      refine (errorsNew_any _ _).mono ?_;rintro e w5 ⟨t, x, rfl, hb⟩;go_wp2_with fail
      go_ret2;rw [HN.out];exact ⟨⟨t, x, rfl⟩, below_of_le hb4 hb⟩
     | true =>
      obtain ⟨loc, rfl⟩ := hla;have HN : Hid (progS o s0 = plainG o (trimZ (s0.extract (spaceAt s0) s0.size))) := Lib.hid (by rw [HPR.out]; rfl);clear HPR;go_wp2_with fail
      refine (HTR.out _ HG4.out.u).mono ?_;rintro e w5 ⟨rfl, hb⟩;have hb5 := below_of_le hb4 hb;have hc5 := (hb.cell (p := ⟨w.heap.size, 0, none⟩) hl4).trans hc4;have hl5 : w.heap.size < w5.heap.size := Nat.lt_of_lt_of_le hl4 hb.size;clear hb hb4 hc4 hl4 HTR HG4;go_wp2_with fail
      refine HT.out _ _ ?_;exact ⟨rfl, rfl, rfl, rfl, rfl, _, loc, rfl, rfl, by omega, HN, hb5, hc5, hl5⟩
end Go.Proofs.YtmecbmgfacpecaaGreatDoor.Cron
namespace Go.Proofs.YtmecbmgfacpecaaGreatDoor.Cron
open Go Go.RowKit Go.Proofs.YtmecbmgfacpecaaGreatDoor.Text Go.Proofs.YtmecbmgfacpecaaGreatDoor.Bits Go.Proofs.YtmecbmgfacpecaaGreatDoorW.PrintWords Go.Proofs.YtmecbmgfacpecaaGreatDoorW.PrintLast Go.Proofs.YtmecbmgfacpecaaGreatDoorW.PrintMore
def delayCells (d : Int) : Array Value := #[.bool true, .int .i64 d, .int .u64 0, .int .u64 0, .int .u64 0, .int .u64 0, .int .u64 0, .int .u64 0]
def gotCells (r : Option Got) : Array Value := match r with
 | some (.bits l) => schedCells l
 | some (.delay d) => delayCells d
 | none => noSched
theorem delay_one (d : Int) : (delayCells d).all (·.oneCell') = true := by simp [delayCells, Value.oneCell']
theorem got_one (r : Option Got) : (gotCells r).all (·.oneCell') = true := by
 cases r with
 | none => exact noSched_one
 | some x =>
  cases x with
  | bits l => exact sched_one l
  | delay d => exact delay_one d
theorem got_size (r : Option Got) : (gotCells r).size = 8 := by
 cases r with
 | none => rfl
 | some x => cases x <;> rfl
set_option maxRecDepth 100000 in
theorem plainSched_delay (d : Int) (w : World) :
  Calls Tryz.prog 46 #[.iface 174 (.agg #[.int .i64 d]), .nilIface] w fun e w' => e = .returned (.tuple #[.agg (delayCells d), .bool true]) ∧ Below w.heap.size w w' := by
 have hta : ∀ (v : Value) (w : World), (Instr.typeAssert (.iface 174 v) 110 169 true).run Tryz.prog w = .ok (.tuple #[.pointer none, .bool false]) w := fun v w => by rfl
 have htb : ∀ (v : Value) (w : World), (Instr.typeAssert (.iface 174 v) 110 174 true).run Tryz.prog w = .ok (.tuple #[v, .bool true]) w := fun v w => by rfl
 go_enter Tryz.func46, Tryz.ntmps46;go_wp2_with fail
 refine bodyPost_ret (v := .tuple #[.agg (delayCells d), .bool true]) ?_ rfl ⟨rfl, ((Below.refl _ _).alloc (Nat.le_refl _) _).alloc (by simp) _⟩;exact results_sched (fn := Tryz.f46) (p := 4) (u := 5) rfl _ _ w.heap.size (delayCells d) rfl rfl (((Below.refl _ _).alloc (Nat.le_refl _) _ |>.block _ (by simp)).trans (heap_alloc_new w _))
def cronS (o : Nat) (s : ByteArray) : Option Got := if twoB o = true then none else progS o s
def CronGAns (w : World) (r : Option Got) (e : Ending) (w' : World) : Prop := e = .returned (.tuple #[.agg (gotCells r), .bool r.isSome]) ∧ Below w.heap.size w w'
set_option maxRecDepth 100000 in
theorem parseCronG_any (o : Nat) (ho : o < 512) (s : ByteArray) (hs : s.size ≤ 4294967296) (hsp : zoneZ s ≠ 0 → (32 : UInt8) ∈ s.data.toList) (w : World) (hga : GA w) :
  Calls Tryz.prog 11 #[.int .i64 o, .string s] w (CronGAns w (cronS o s)) := by
 unfold cronS CronGAns;by_cases htw : twoB o = true
 ·rw [if_pos htw];have HP := Lib.hid (fun w' => parser_bad o ho ((twoB_iff o).1 htw) w');clear htw hsp;go_enter Tryz.func11, Tryz.ntmps11;go_wp2_with fail
  refine (HP.out _).mono ?_;rintro e w1 ⟨rfl, hb1⟩;have hrow : w1.heap[w.heap.size]? = some (.cells noSched 26 (0, 0)) := (hb1.block _ (by simp)).trans (heap_alloc_new w _);have hB1 : Below w.heap.size w w1 := ((Below.refl _ _).alloc (Nat.le_refl _) _).trans (hb1.mono (by simp));have hlt1 : w.heap.size < w1.heap.size := (Array.getElem?_eq_some_iff.1 hrow).1;clear hb1;have hrow2 : (w1.alloc (.cells #[.int .i64 0] 105)).heap[w.heap.size]? = some (.cells noSched 26 (0, 0)) := ((Below.refl w1.heap.size w1).alloc (Nat.le_refl _) _ |>.block _ hlt1).trans hrow;go_wp2_with (refine wpList_store_sched rfl _ _ rfl w.heap.size noSched noSched rfl rfl rfl noSched_one rfl hrow2 ?_)
  refine bodyPost_ret (v := .tuple #[.agg noSched, .bool false]) ?_ rfl ⟨rfl, ?_⟩
  ·exact results_sched (fn := Tryz.f11) (p := 4) (u := 5) rfl _ _ w.heap.size _ rfl rfl (setRow_heap _ _ _ _ _ _ hrow2)
  ·exact below_setRow (hB1.alloc hB1.size _) (Nat.le_refl _) _
 ·rw [if_neg htw];have HP := Lib.hid (fun w' => parser_ok o ho (fun h => htw ((twoB_iff o).2 h)) w');have HC := Lib.hid (fun w' hg' => parse_any o ho s hs hsp w' hg');have HG := Lib.hid (fun w' (h : Below w.heap.size w w') => hga.below h);clear htw hga hsp;generalize progS o s = r at *;go_enter Tryz.func11, Tryz.ntmps11;go_wp2_with fail
  refine (HP.out _).mono ?_;rintro e w1 ⟨rfl, hb1⟩;have hrow : w1.heap[w.heap.size]? = some (.cells noSched 26 (0, 0)) := (hb1.block _ (by simp)).trans (heap_alloc_new w _);have hB1 : Below w.heap.size w w1 := ((Below.refl _ _).alloc (Nat.le_refl _) _).trans (hb1.mono (by simp));have hlt1 : w.heap.size < w1.heap.size := (Array.getElem?_eq_some_iff.1 hrow).1;clear hb1;have HB1 := Lib.hid hB1;have HROW := Lib.hid hrow;clear hB1 hrow;go_wp2_with fail
  refine (HC.out _ (HG.out _ (HB1.out.alloc HB1.out.size _))).mono ?_;intro e w2 hP;obtain ⟨hres, hb2⟩ := hP;have HB2 := Lib.hid (below_of_le (HB1.out.alloc HB1.out.size _) hb2);have hrow2 : w2.heap[w.heap.size]? = some (.cells noSched 26 (0, 0)) := (hb2.block _ (by simp; omega)).trans (((Below.refl w1.heap.size w1).alloc (Nat.le_refl _) _ |>.block _ hlt1).trans HROW.out);have HROW2 := Lib.hid hrow2;clear hb2 hrow2 HC HG HP HROW HB1;cases r with
  | none =>
   obtain ⟨t, x, rfl⟩ := hres;go_wp2_with fail
   refine (plainSched_bad _ _ _ _).mono ?_;rintro e w3 ⟨rfl, hb3⟩;have hrow3 := (hb3.block _ (Array.getElem?_eq_some_iff.1 HROW2.out).1).trans HROW2.out;have HROW3 := Lib.hid hrow3;have HB3 := Lib.hid (below_of_le HB2.out hb3);clear hrow3 hb3;go_wp2_with (refine wpList_store_sched rfl _ _ rfl w.heap.size noSched noSched rfl rfl rfl noSched_one rfl HROW3.out ?_)
   refine bodyPost_ret (v := .tuple #[.agg noSched, .bool false]) ?_ rfl ⟨rfl, ?_⟩
   ·exact results_sched (fn := Tryz.f11) (p := 4) (u := 5) rfl _ _ w.heap.size _ rfl rfl (setRow_heap _ _ _ _ _ _ HROW3.out)
   ·exact below_setRow HB3.out (Nat.le_refl _) _
  | some y =>
   cases y with
   | bits l =>
    obtain ⟨g, loc, rfl, hg⟩ := hres;have HGG := Lib.hid hg;clear hg;go_wp2_with fail
    refine (plainSched_ok l g loc _ HGG.out).mono ?_;rintro e w3 ⟨rfl, hb3⟩;have hrow3 := (hb3.block _ (Array.getElem?_eq_some_iff.1 HROW2.out).1).trans HROW2.out;have HROW3 := Lib.hid hrow3;have HB3 := Lib.hid (below_of_le HB2.out hb3);clear hrow3 hb3;go_wp2_with (refine wpList_store_sched rfl _ _ rfl w.heap.size (schedCells l) noSched rfl rfl rfl (sched_one l) rfl HROW3.out ?_)
    refine bodyPost_ret (v := .tuple #[.agg (schedCells l), .bool true]) ?_ rfl ⟨rfl, ?_⟩
    ·exact results_sched (fn := Tryz.f11) (p := 4) (u := 5) rfl _ _ w.heap.size _ rfl rfl (setRow_heap _ _ _ _ _ _ HROW3.out)
    ·exact below_setRow HB3.out (Nat.le_refl _) _
   | delay d =>
    obtain rfl := hres;go_wp2_with fail
    refine (plainSched_delay d _).mono ?_;rintro e w3 ⟨rfl, hb3⟩;have hrow3 := (hb3.block _ (Array.getElem?_eq_some_iff.1 HROW2.out).1).trans HROW2.out;have HROW3 := Lib.hid hrow3;have HB3 := Lib.hid (below_of_le HB2.out hb3);clear hrow3 hb3;go_wp2_with (refine wpList_store_sched rfl _ _ rfl w.heap.size (delayCells d) noSched rfl rfl rfl (delay_one d) rfl HROW3.out ?_)
    refine bodyPost_ret (v := .tuple #[.agg (delayCells d), .bool true]) ?_ rfl ⟨rfl, ?_⟩
    ·exact results_sched (fn := Tryz.f11) (p := 4) (u := 5) rfl _ _ w.heap.size _ rfl rfl (setRow_heap _ _ _ _ _ _ HROW3.out)
    ·exact below_setRow HB3.out (Nat.le_refl _) _
end Go.Proofs.YtmecbmgfacpecaaGreatDoor.Cron
namespace Go.Proofs.YtmecbmgfacpecaaGreatDoor.Scr
open Go Go.RowKit Go.Proofs.YtmecbmgfacpecaaGreatDoor.Sched Go.Proofs.YtmecbmgfacpecaaGreatDoor.Cal Go.Proofs.YtmecbmgfacpecaaGreatDoorW.PrintWords Go.Proofs.YtmecbmgfacpecaaGreatDoorW.PrintLast
def SchG (w : World) (v : Value) (s : Cron.Got) : Prop := match s with
 | .bits l => ∃ a loc, v = .iface 169 (.pointer (some ⟨a, 0, none⟩)) ∧ w.heap[a]? = some (.cells (Cron.specCells l loc) 171 (0, 0))
 | .delay d => v = .iface 174 (.agg #[.int .i64 d])
theorem SchG.of_same {w w' : World} {v : Value} {s : Cron.Got} (h : SchG w v s) (hs : ∀ (c : Nat) (cs : Array Value) (fr : Nat × Nat), w.heap[c]? = some (Obj.cells cs 171 fr) → w'.heap[c]? = some (Obj.cells cs 171 fr)) : SchG w' v s := by
 cases s with
 | bits l =>
  obtain ⟨a, loc, h1, h2⟩ := h;exact ⟨a, loc, h1, hs _ _ _ h2⟩
 | delay d => exact h
theorem SchG.below {w w' : World} {v : Value} {s : Cron.Got} (h : SchG w v s) (hb : Below w.heap.size w w') : SchG w' v s :=
 h.of_same fun c cs fr hc => (hb.block c (Array.getElem?_eq_some_iff.1 hc).1).trans hc
theorem SchG.iface {w : World} {v : Value} {s : Cron.Got} (h : SchG w v s) : ∃ t x, v = .iface t x := by
 cases s with
 | bits l =>
  obtain ⟨a, loc, h1, h2⟩ := h;exact ⟨_, _, h1⟩
 | delay d => exact ⟨_, _, h⟩
theorem plainG_any (s : Cron.Got) (v : Value) (w : World) (h : SchG w v s) :
  Calls Tryz.prog 46 #[v, .nilIface] w fun e w' => e = .returned (.tuple #[.agg (Cron.gotCells (some s)), .bool true]) ∧ Below w.heap.size w w' := by
 cases s with
 | bits l =>
  obtain ⟨a, loc, rfl, h2⟩ := h;exact Cron.plainSched_ok l a loc w h2
 | delay d =>
  obtain rfl := h;exact Cron.plainSched_delay d w
theorem entry_none (w : World) :
  Calls Tryz.prog 54 #[.agg (entryCells 0 .nilIface .nilIface .nilIface)] w fun e w' => e = .returned (.agg noAns) ∧ Below w.heap.size w w' := by
 have HV := Lib.hid (fun w' => valid_any 0 .nilIface .nilIface .nilIface w');have hal := run_alloc_ans;unfold entryCells at HV ⊢
 go_enter Tryz.func54, Tryz.ntmps54;go_wp2_with fail
 refine (HV.out _).mono ?_;rintro e w1 ⟨rfl, hb1⟩;have hB1 : Below w.heap.size w w1 := below_of_le (((Below.refl _ _).alloc (Nat.le_refl _) _).alloc (by simp) _) hb1;have hres : AnsRow w1 (w.heap.size + 1) := (hb1.block (w.heap.size + 1) (by simp)).trans (heap_alloc2 w _ _);have hid' : ((0 : Int) != 0) = false := rfl;rw [hid'];go_wp2_with (first | (refine wpList_store_row rfl 44 _ _ rfl (w.heap.size + 1) noAns rfl rfl _ _ hres (by rw [ansSize]; rfl) rfl (by simp [noAns, Value.oneCell']) ?_))
 refine bodyPost_ret (v := .agg noAns) ?_ rfl ⟨rfl, ?_⟩
 ·exact results_ans (fn := Tryz.f54) (p := 2) rfl _ _ (w.heap.size + 1) _ rfl rfl (setRow_heap _ _ _ _ _ _ hres)
 ·exact below_setRow hB1 (by omega) _
set_option maxRecDepth 100000 in
set_option maxHeartbeats 4000000 in
theorem entryG_any (id : Int) (hid : id ≠ 0) (s : Cron.Got) (sch wj job : Value) (w : World) (hs : SchG w sch s) :
  Calls Tryz.prog 54 #[.agg (entryCells id sch wj job)] w fun e w' => e = .returned (.agg (#[.bool true, .int .i64 id, .slice none 0 0] ++ (Cron.gotCells (some s)) ++ #[.bool true])) ∧ Below w.heap.size w w' := by
 have HV := Lib.hid (fun w' => valid_any id sch wj job w');have HZ := Lib.hid (fun w' => isZero_any w');have HS := Lib.hid hs;have hid' : (id != 0) = true := by simpa using hid
 have hal := run_alloc_ans;clear hs hid;unfold entryCells at HV ⊢
 go_enter Tryz.func54, Tryz.ntmps54;go_wp2_with fail
 refine (HV.out _).mono ?_;rintro e w1 ⟨rfl, hb1⟩;have hB1 : Below w.heap.size w w1 := below_of_le (((Below.refl _ _).alloc (Nat.le_refl _) _).alloc (by simp) _) hb1
 have hrow : w1.heap[w.heap.size]? = some (.cells (entryCells id sch wj job) 131 (0, 0)) :=
  (hb1.block w.heap.size (by simp; omega)).trans ((((Below.refl _ _).alloc (Nat.le_refl _) _).block w.heap.size (by simp)).trans (heap_alloc_new w _))
 have hres : AnsRow w1 (w.heap.size + 1) := (hb1.block (w.heap.size + 1) (by simp)).trans (heap_alloc2 w _ _);have HS1 := Lib.hid (HS.out.below hB1);clear hb1 HV HS;rw [hid'];go_upto_region 3 with fail
 obtain ⟨wo, rfl⟩ : ∃ wo : World, wo = w1 := ⟨_, rfl⟩
 refine start_ (n := 13) (S := fun w' => w'.heap[w.heap.size]? = some (.cells (entryCells id sch wj job) 131 (0, 0)) ∧ Below wo.heap.size wo w') (ds := [12]) #[nn, nn, nn, nn, nn, nn, nn, nn, nn, nn, nn, nn, nn] (by kernel_rfl) rfl rfl ⟨hrow, (Below.refl _ _).drew⟩ (fun hHeld => ?_);refine pure_ (i := 0) (N := some 8) (v := ?_) (a' := ?_) #[yy, nn, nn, nn, nn, nn, nn, nn, nn, nn, nn, nn, nn] rfl rfl (by kernel_rfl) (fun _ _ _ h => h) (Or.inl ⟨by rfl, ?_⟩) ?_ ?_;rotate_left
 ·intro w';go_simp;with_reducible rfl
 rotate_left
 ·simp only [nrm];rfl
 refine pure_ (i := 2) (N := some 10) (v := ?_) (a' := ?_) #[yy, nn, yy, nn, nn, nn, nn, nn, nn, nn, nn, nn, nn] rfl rfl (by kernel_rfl) (fun _ _ _ h => h) (Or.inl ⟨by rfl, ?_⟩) ?_ ?_;rotate_left
 ·intro w';go_simp;with_reducible rfl
 rotate_left
 ·simp only [nrm];rfl
 refine take_ (i := 1) (N := some 9) (v := ?_) (a' := ?_) #[yy, yy, yy, nn, nn, nn, nn, nn, nn, nn, nn, nn, nn] rfl rfl (by kernel_rfl) (fun _ _ _ h => h) (Or.inl ⟨by rfl, ?_⟩) hHeld ?_ ?_;rotate_left
 ·rintro w' ⟨s0, s1⟩;have c0 : w'.cell? ⟨w.heap.size, 0, none⟩ = some (.int .i64 id) := cell_of_row _ _ _ _ _ _ s0;go_simp;with_reducible rfl
 rotate_left
 ·simp only [nrm];rfl
 refine take_ (i := 3) (N := some 11) (v := ?_) (a' := ?_) #[yy, yy, yy, yy, nn, nn, nn, nn, nn, nn, nn, nn, nn] rfl rfl (by kernel_rfl) (fun _ _ _ h => h) (Or.inl ⟨by rfl, ?_⟩) hHeld ?_ ?_;rotate_left
 ·rintro w' ⟨s0, s1⟩;have c0 : w'.cell? ⟨w.heap.size, 2, none⟩ = some (.int .u64 0) := cell_of_row _ _ _ _ _ _ s0;have c1 : w'.cell? ⟨w.heap.size, 3, none⟩ = some (.int .i64 0) := cell_of_row _ _ _ _ _ _ s0;have c2 : w'.cell? ⟨w.heap.size, 4, none⟩ = some (.pointer none) := cell_of_row _ _ _ _ _ _ s0;go_simp;with_reducible rfl
 rotate_left
 ·simp only [nrm];rfl
 refine join_ (σ := Nat) 1 #[yy, yy, yy, yy, yy, yy, yy, yy, yy, yy, yy, yy, nn] (fun s => [(12, .bool true), (13, .bool true), (14, .pointer (some ⟨w.heap.size, 5, none⟩)), (15, .agg #[.int .u64 0, .int .i64 0, .pointer none]), (16, .bool true), (17, .bool true), (18, .agg #[.bool true, .int .i64 id, .slice none 0 0, .bool false, .int .i64 0, .int .u64 0, .int .u64 0, .int .u64 0, .int .u64 0, .int .u64 0, .int .u64 0, .bool true]), (3, .pointer (some ⟨s, 0, none⟩))]) (fun s w' => AnsRow w' s ∧ wo.heap.size ≤ s ∧ (w'.heap[w.heap.size]? = some (.cells (entryCells id sch wj job) 131 (0, 0)) ∧ Below wo.heap.size wo w')) ?_ ?_;rotate_left
 ·intro hCont;refine two_ (i := 4) (j := 11) (Ni := some 12) (Nj := some 3) #[yy, yy, yy, yy, yy, nn, nn, nn, nn, nn, nn, nn, nn] #[yy, yy, yy, yy, nn, nn, nn, nn, nn, nn, nn, yy, nn] rfl rfl rfl rfl (by kernel_rfl) (by decide) (by decide) (fun K hK => ?_) (fun K hK => ?_)
  ·skip;refine goes_ Tryz.func119 (by kernel_rfl) rfl #[.agg #[.int .u64 0, .int .i64 0, .pointer none]] (by rfl) rfl rfl (by simp only [List.map_toArray, List.map_cons, List.map_nil]; rfl) ?_;with_reducible refine (HZ.out _).mono ?_
   rintro e w4 ⟨rfl, hb4⟩;refine ⟨_, rfl, ?_⟩;refine hK.out _ _ ⟨(hb4.block _ (Array.getElem?_eq_some_iff.1 hHeld.1).1).trans hHeld.1, below_of_le hHeld.2 hb4⟩ (fun hHeld => ?_);clear hK K;refine norm_ (a' := ?_) ?_ ?_;rotate_left
   ·show Act.put _ (some 12) _ = _
    simp only [nrm];rfl
   refine pure_ (i := 5) (N := some 13) (v := ?_) (a' := ?_) #[yy, yy, yy, yy, yy, yy, nn, nn, nn, nn, nn, nn, nn] rfl rfl (by kernel_rfl) (fun _ _ _ h => h) (Or.inl ⟨by rfl, ?_⟩) ?_ ?_;rotate_left
   ·intro w';go_simp;with_reducible rfl
   rotate_left
   ·simp only [nrm];rfl
   refine pure_ (i := 6) (N := some 14) (v := ?_) (a' := ?_) #[yy, yy, yy, yy, yy, yy, yy, nn, nn, nn, nn, nn, nn] rfl rfl (by kernel_rfl) (fun _ _ _ h => h) (Or.inl ⟨by rfl, ?_⟩) ?_ ?_;rotate_left
   ·intro w';go_simp;with_reducible rfl
   rotate_left
   ·simp only [nrm];rfl
   refine take_ (i := 7) (N := some 15) (v := ?_) (a' := ?_) #[yy, yy, yy, yy, yy, yy, yy, yy, nn, nn, nn, nn, nn] rfl rfl (by kernel_rfl) (fun _ _ _ h => h) (Or.inl ⟨by rfl, ?_⟩) hHeld ?_ ?_;rotate_left
   ·rintro w' ⟨s0, s1⟩;have c0 : w'.cell? ⟨w.heap.size, 5, none⟩ = some (.int .u64 0) := cell_of_row _ _ _ _ _ _ s0;have c1 : w'.cell? ⟨w.heap.size, 6, none⟩ = some (.int .i64 0) := cell_of_row _ _ _ _ _ _ s0;have c2 : w'.cell? ⟨w.heap.size, 7, none⟩ = some (.pointer none) := cell_of_row _ _ _ _ _ _ s0;go_simp;with_reducible rfl
   rotate_left
   ·simp only [nrm];rfl
   refine two_ (i := 8) (j := 11) (Ni := some 16) (Nj := some 3) #[yy, yy, yy, yy, yy, yy, yy, yy, yy, nn, nn, nn, nn] #[yy, yy, yy, yy, yy, yy, yy, yy, nn, nn, nn, yy, nn] rfl rfl rfl rfl (by kernel_rfl) (by decide) (by decide) (fun K hK => ?_) (fun K hK => ?_)
   ·skip;refine goes_ Tryz.func119 (by kernel_rfl) rfl #[.agg #[.int .u64 0, .int .i64 0, .pointer none]] (by rfl) rfl rfl (by simp only [List.map_toArray, List.map_cons, List.map_nil]; rfl) ?_;with_reducible refine (HZ.out _).mono ?_
    rintro e w8 ⟨rfl, hb8⟩;refine ⟨_, rfl, ?_⟩;refine hK.out _ _ ⟨(hb8.block _ (Array.getElem?_eq_some_iff.1 hHeld.1).1).trans hHeld.1, below_of_le hHeld.2 hb8⟩ (fun hHeld => ?_);clear hK K;refine norm_ (a' := ?_) ?_ ?_;rotate_left
    ·show Act.put _ (some 16) _ = _
     simp only [nrm];rfl
    refine pure_ (i := 9) (N := some 17) (v := ?_) (a' := ?_) #[yy, yy, yy, yy, yy, yy, yy, yy, yy, yy, nn, nn, nn] rfl rfl (by kernel_rfl) (fun _ _ _ h => h) (Or.inl ⟨by rfl, ?_⟩) ?_ ?_;rotate_left
    ·intro w';go_simp;with_reducible rfl
    rotate_left
    ·simp only [nrm];rfl
    refine pure_ (i := 10) (N := some 18) (v := ?_) (a' := ?_) #[yy, yy, yy, yy, yy, yy, yy, yy, yy, yy, yy, nn, nn] rfl rfl (by kernel_rfl) (fun _ _ _ h => h) (Or.inl ⟨by rfl, ?_⟩) ?_ ?_;rotate_left
    ·intro w';go_simp;with_reducible rfl
    rotate_left
    ·simp only [nrm];rfl
    refine one_ (i := 11) (N := some 3) #[yy, yy, yy, yy, yy, yy, yy, yy, yy, yy, yy, yy, nn] rfl rfl (by kernel_rfl) (by decide) (fun K hK => ?_);have hge := hHeld.2.size;have hra := ansRow_of hHeld.2;refine value_ (by rfl) rfl (exec_alloc_ans _ _ _ rfl) ?_;refine hK.out _ _ ⟨(((Below.refl _ _).alloc (Nat.le_refl _) _).block _ (Array.getElem?_eq_some_iff.1 hHeld.1).1).trans hHeld.1, hHeld.2.alloc hHeld.2.size _⟩ (fun hHeld => ?_);clear hK K;refine norm_ (a' := ?_) ?_ ?_;rotate_left
    ·show Act.put _ (some 3) _ = _
     simp only [nrm];rfl
    exact norm_ (by simp only [putAll, Act.put, List.setIfInBounds_toArray, List.set_cons_zero, List.set_cons_succ]) (hCont w8.heap.size _ ⟨hra, hge, hHeld⟩)
   ·skip;have hge := hHeld.2.size;have hra := ansRow_of hHeld.2;refine value_ (by rfl) rfl (exec_alloc_ans _ _ _ rfl) ?_;refine hK.out _ _ ⟨(((Below.refl _ _).alloc (Nat.le_refl _) _).block _ (Array.getElem?_eq_some_iff.1 hHeld.1).1).trans hHeld.1, hHeld.2.alloc hHeld.2.size _⟩ (fun hHeld => ?_);clear hK K;refine norm_ (a' := ?_) ?_ ?_;rotate_left
    ·show Act.put _ (some 3) _ = _
     simp only [nrm];rfl
    refine one_ (i := 8) (N := some 16) #[yy, yy, yy, yy, yy, yy, yy, yy, yy, nn, nn, yy, nn] rfl rfl (by kernel_rfl) (by decide) (fun K hK => ?_);refine goes_ Tryz.func119 (by kernel_rfl) rfl #[.agg #[.int .u64 0, .int .i64 0, .pointer none]] (by rfl) rfl rfl (by simp only [List.map_toArray, List.map_cons, List.map_nil]; rfl) ?_;with_reducible refine (HZ.out _).mono ?_
    rintro e w8 ⟨rfl, hb8⟩;refine ⟨_, rfl, ?_⟩;refine hK.out _ _ ⟨(hb8.block _ (Array.getElem?_eq_some_iff.1 hHeld.1).1).trans hHeld.1, below_of_le hHeld.2 hb8⟩ (fun hHeld => ?_);clear hK K;refine norm_ (a' := ?_) ?_ ?_;rotate_left
    ·show Act.put _ (some 16) _ = _
     simp only [nrm];rfl
    refine pure_ (i := 9) (N := some 17) (v := ?_) (a' := ?_) #[yy, yy, yy, yy, yy, yy, yy, yy, yy, yy, nn, yy, nn] rfl rfl (by kernel_rfl) (fun _ _ _ h => h) (Or.inl ⟨by rfl, ?_⟩) ?_ ?_;rotate_left
    ·intro w';go_simp;with_reducible rfl
    rotate_left
    ·simp only [nrm];rfl
    refine pure_ (i := 10) (N := some 18) (v := ?_) (a' := ?_) #[yy, yy, yy, yy, yy, yy, yy, yy, yy, yy, yy, yy, nn] rfl rfl (by kernel_rfl) (fun _ _ _ h => h) (Or.inl ⟨by rfl, ?_⟩) ?_ ?_;rotate_left
    ·intro w';go_simp;with_reducible rfl
    rotate_left
    ·simp only [nrm];rfl
    exact norm_ (by simp only [putAll, Act.put, List.setIfInBounds_toArray, List.set_cons_zero, List.set_cons_succ]) (hCont w4.heap.size _ ⟨hra.below hb8, hge, hHeld⟩)
  ·skip;have hge := hHeld.2.size;have hra := ansRow_of hHeld.2;refine value_ (by rfl) rfl (exec_alloc_ans _ _ _ rfl) ?_;refine hK.out _ _ ⟨(((Below.refl _ _).alloc (Nat.le_refl _) _).block _ (Array.getElem?_eq_some_iff.1 hHeld.1).1).trans hHeld.1, hHeld.2.alloc hHeld.2.size _⟩ (fun hHeld => ?_);clear hK K;refine norm_ (a' := ?_) ?_ ?_;rotate_left
   ·show Act.put _ (some 3) _ = _
    simp only [nrm];rfl
   refine one_ (i := 4) (N := some 12) #[yy, yy, yy, yy, yy, nn, nn, nn, nn, nn, nn, yy, nn] rfl rfl (by kernel_rfl) (by decide) (fun K hK => ?_);refine goes_ Tryz.func119 (by kernel_rfl) rfl #[.agg #[.int .u64 0, .int .i64 0, .pointer none]] (by rfl) rfl rfl (by simp only [List.map_toArray, List.map_cons, List.map_nil]; rfl) ?_;with_reducible refine (HZ.out _).mono ?_
   rintro e w4 ⟨rfl, hb4⟩;refine ⟨_, rfl, ?_⟩;refine hK.out _ _ ⟨(hb4.block _ (Array.getElem?_eq_some_iff.1 hHeld.1).1).trans hHeld.1, below_of_le hHeld.2 hb4⟩ (fun hHeld => ?_);clear hK K;refine norm_ (a' := ?_) ?_ ?_;rotate_left
   ·show Act.put _ (some 12) _ = _
    simp only [nrm];rfl
   refine pure_ (i := 5) (N := some 13) (v := ?_) (a' := ?_) #[yy, yy, yy, yy, yy, yy, nn, nn, nn, nn, nn, yy, nn] rfl rfl (by kernel_rfl) (fun _ _ _ h => h) (Or.inl ⟨by rfl, ?_⟩) ?_ ?_;rotate_left
   ·intro w';go_simp;with_reducible rfl
   rotate_left
   ·simp only [nrm];rfl
   refine pure_ (i := 6) (N := some 14) (v := ?_) (a' := ?_) #[yy, yy, yy, yy, yy, yy, yy, nn, nn, nn, nn, yy, nn] rfl rfl (by kernel_rfl) (fun _ _ _ h => h) (Or.inl ⟨by rfl, ?_⟩) ?_ ?_;rotate_left
   ·intro w';go_simp;with_reducible rfl
   rotate_left
   ·simp only [nrm];rfl
   refine take_ (i := 7) (N := some 15) (v := ?_) (a' := ?_) #[yy, yy, yy, yy, yy, yy, yy, yy, nn, nn, nn, yy, nn] rfl rfl (by kernel_rfl) (fun _ _ _ h => h) (Or.inl ⟨by rfl, ?_⟩) hHeld ?_ ?_;rotate_left
   ·rintro w' ⟨s0, s1⟩;have c0 : w'.cell? ⟨w.heap.size, 5, none⟩ = some (.int .u64 0) := cell_of_row _ _ _ _ _ _ s0;have c1 : w'.cell? ⟨w.heap.size, 6, none⟩ = some (.int .i64 0) := cell_of_row _ _ _ _ _ _ s0;have c2 : w'.cell? ⟨w.heap.size, 7, none⟩ = some (.pointer none) := cell_of_row _ _ _ _ _ _ s0;go_simp;with_reducible rfl
   rotate_left
   ·simp only [nrm];rfl
   refine one_ (i := 8) (N := some 16) #[yy, yy, yy, yy, yy, yy, yy, yy, yy, nn, nn, yy, nn] rfl rfl (by kernel_rfl) (by decide) (fun K hK => ?_);refine goes_ Tryz.func119 (by kernel_rfl) rfl #[.agg #[.int .u64 0, .int .i64 0, .pointer none]] (by rfl) rfl rfl (by simp only [List.map_toArray, List.map_cons, List.map_nil]; rfl) ?_;with_reducible refine (HZ.out _).mono ?_
   rintro e w8 ⟨rfl, hb8⟩;refine ⟨_, rfl, ?_⟩;refine hK.out _ _ ⟨(hb8.block _ (Array.getElem?_eq_some_iff.1 hHeld.1).1).trans hHeld.1, below_of_le hHeld.2 hb8⟩ (fun hHeld => ?_);clear hK K;refine norm_ (a' := ?_) ?_ ?_;rotate_left
   ·show Act.put _ (some 16) _ = _
    simp only [nrm];rfl
   refine pure_ (i := 9) (N := some 17) (v := ?_) (a' := ?_) #[yy, yy, yy, yy, yy, yy, yy, yy, yy, yy, nn, yy, nn] rfl rfl (by kernel_rfl) (fun _ _ _ h => h) (Or.inl ⟨by rfl, ?_⟩) ?_ ?_;rotate_left
   ·intro w';go_simp;with_reducible rfl
   rotate_left
   ·simp only [nrm];rfl
   refine pure_ (i := 10) (N := some 18) (v := ?_) (a' := ?_) #[yy, yy, yy, yy, yy, yy, yy, yy, yy, yy, yy, yy, nn] rfl rfl (by kernel_rfl) (fun _ _ _ h => h) (Or.inl ⟨by rfl, ?_⟩) ?_ ?_;rotate_left
   ·intro w';go_simp;with_reducible rfl
   rotate_left
   ·simp only [nrm];rfl
   exact norm_ (by simp only [putAll, Act.put, List.setIfInBounds_toArray, List.set_cons_zero, List.set_cons_succ]) (hCont wo.drew.heap.size _ ⟨(hra.below hb4).below hb8, hge, hHeld⟩)
 rintro ga w5 ⟨hra, hge, hHeld⟩;refine norm_ (a' := ?_) ?_ ?_;rotate_left
 ·simp only [putAll, Act.put, List.setIfInBounds_toArray, List.set_cons_zero, List.set_cons_succ];rfl
 refine last_ (i := 12) (N := none) #[yy, yy, yy, yy, yy, yy, yy, yy, yy, yy, yy, yy, yy] rfl rfl (by kernel_rfl) (by decide) (fun K hK => ?_);rw [if_pos (by rfl)];refine wp_store_row 44 _ _ rfl ga #[.bool true, .int .i64 id, .slice none 0 0, .bool false, .int .i64 0, .int .u64 0, .int .u64 0, .int .u64 0, .int .u64 0, .int .u64 0, .int .u64 0, .bool true] rfl rfl 44 noAns hra ansSize rfl (by simp [Value.oneCell']) ?_;refine hK.out _ _ ?_;clear hK K;refine done_ (by kernel_rfl) ?_;have hlo : w.heap.size < wo.heap.size := (Array.getElem?_eq_some_iff.1 hrow).1;have hlo1 : w.heap.size + 1 < wo.heap.size := (Array.getElem?_eq_some_iff.1 hres).1;have HRA := Lib.hid (setRow_heap w5 ga _ #[.bool true, .int .i64 id, .slice none 0 0, .bool false, .int .i64 0, .int .u64 0, .int .u64 0, .int .u64 0, .int .u64 0, .int .u64 0, .int .u64 0, .bool true] _ _ hra);have hrow6 := (setRow_other w5 ga w.heap.size #[.bool true, .int .i64 id, .slice none 0 0, .bool false, .int .i64 0, .int .u64 0, .int .u64 0, .int .u64 0, .int .u64 0, .int .u64 0, .int .u64 0, .bool true] (by omega)).trans hHeld.1;have HB6 := Lib.hid (below_setRow hHeld.2 hge #[.bool true, .int .i64 id, .slice none 0 0, .bool false, .int .i64 0, .int .u64 0, .int .u64 0, .int .u64 0, .int .u64 0, .int .u64 0, .int .u64 0, .bool true]);generalize hW6 : w5.setRow ga #[.bool true, .int .i64 id, .slice none 0 0, .bool false, .int .i64 0, .int .u64 0, .int .u64 0, .int .u64 0, .int .u64 0, .int .u64 0, .int .u64 0, .bool true] = w6 at *;have cS : w6.cell? ⟨w.heap.size, 1, none⟩ = some sch := cell_of_row _ _ _ _ _ _ hrow6;have HP := Lib.hid (plainG_any s sch w6 (HS1.out.below HB6.out));have h8 : (Cron.gotCells (some s)).size = 8 := Cron.got_size _;have h1p : (Cron.gotCells (some s)).all (·.oneCell') = true := Cron.got_one _;have HB1 := Lib.hid (below_of_le hB1 HB6.out);have hres6 := (HB6.out.block _ hlo1).trans hres;have hga : w.heap.size + 1 ≠ ga := by omega
 have hgl : w.heap.size ≤ ga := by omega
 have hga6 : ga < w6.heap.size := (Array.getElem?_eq_some_iff.1 HRA.out).1;clear hrow6 hHeld hW6 hra hrow hres HZ hB1 HS1 HB6 hge;obtain ⟨pl, hpl⟩ : ∃ pl, pl = (Cron.gotCells (some s)) := ⟨_, rfl⟩
 rw [← hpl] at h8 h1p HP
 have HPL := Lib.hid hpl;clear hpl;go_wp2_with fail
 refine HP.out.mono ?_;rintro e w7 ⟨rfl, hb7⟩;have hra7 := (hb7.block ga hga6).trans HRA.out;have hres7 := (hb7.block (w.heap.size + 1) (Array.getElem?_eq_some_iff.1 hres6).1).trans hres6;have HB7 := Lib.hid (below_of_le HB1.out hb7);clear hb7 HP HRA HB1 hres6
 have hone : (Value.bool true :: Value.int IntKind.i64 id :: Value.slice none 0 0 :: (pl.toList ++ [Value.bool true])).toArray.all (·.oneCell') = true := by
  rw [Array.all_eq_true_iff_forall_mem] at h1p ⊢
  intro v hv;simp only [List.mem_toArray, List.mem_cons, List.mem_append, List.not_mem_nil, or_false] at hv;rcases hv with rfl | rfl | rfl | hv | rfl
  ·rfl
  ·rfl
  ·rfl
  ·exact h1p v (by simpa using hv)
  ·rfl
 have hsz : (Value.bool true :: Value.int IntKind.i64 id :: Value.slice none 0 0 :: (pl.toList ++ [Value.bool true])).toArray.size = 12 := by simp [h8]
 have heq : (#[Value.bool true, .int .i64 id, .slice none 0 0] ++ (Cron.gotCells (some s)) ++ #[Value.bool true]) = (Value.bool true :: Value.int IntKind.i64 id :: Value.slice none 0 0 :: (pl.toList ++ [Value.bool true])).toArray := by
  rw [← HPL.out];apply Array.ext'
  simp
 have HEQ := Lib.hid heq;have HSZ := Lib.hid hsz;have HONE := Lib.hid hone;clear heq hsz hone;go_wp2_with (first | (refine wpList_store_ans rfl _ _ rfl ga id pl h8 h1p rfl rfl hra7 ?_) | (refine wpList_load_row rfl 44 _ rfl ga rfl _ _ _ _ (setRow_heap _ _ _ _ _ _ hra7) Tryz.underlying44 rfl (by rw [ansSize, HSZ.out]) ?_) | (refine wpList_store_row rfl 44 _ _ rfl (w.heap.size + 1) (Value.bool true :: Value.int IntKind.i64 id :: Value.slice none 0 0 :: (pl.toList ++ [Value.bool true])).toArray rfl rfl _ _ ((setRow_other _ _ _ _ hga).trans hres7) (by rw [ansSize, HSZ.out]) (by rw [HSZ.out]; rfl) HONE.out ?_))
 refine bodyPost_ret (v := .agg (Value.bool true :: Value.int IntKind.i64 id :: Value.slice none 0 0 :: (pl.toList ++ [Value.bool true])).toArray) ?_ rfl ⟨by rw [HEQ.out], ?_⟩
 ·exact results_ans (fn := Tryz.f54) (p := 2) rfl _ _ (w.heap.size + 1) _ HSZ.out rfl (setRow_heap _ _ _ _ _ _ ((setRow_other _ _ _ _ hga).trans hres7))
 ·exact below_setRow (below_setRow HB7.out (by omega) _) (by omega) _
end Go.Proofs.YtmecbmgfacpecaaGreatDoor.Scr
namespace Go.Proofs.YtmecbmgfacpecaaGreatDoor.Scr
open Go Go.RowKit Go.Proofs.YtmecbmgfacpecaaGreatDoor.Sched Go.Proofs.YtmecbmgfacpecaaGreatDoor.Cal Go.Proofs.YtmecbmgfacpecaaGreatDoorW.PrintWords Go.Proofs.YtmecbmgfacpecaaGreatDoorW.PrintLast Go.MuLone
def cronCells (o : Int) (v : Value) (n m : Int) : Array Value := #[v, .slice none 0 0, .chan none, .chan none, .chan none, .chan none, .bool false, .int .i32 m, .int .u32 0, .pointer none, .iface 105 (.agg #[.int .i64 o]), .int .i64 n, .int .u64 0, .int .u32 0]
def optN (b : Bool) : Nat := if b then 381 else 380
theorem newParserC (b : Bool) (w : World) :
  Calls Tryz.prog 95 #[.int .i64 (optN b : Nat)] w fun e w' => e = .returned (.agg #[.int .i64 (optN b : Nat)]) ∧ Below w.heap.size w w' := by
 have hand1 : bits .and .i64 (optN b : Nat) 2 = 0 := by cases b <;> decide
 have hand2 : bits .and .i64 (optN b : Nat) 128 = 0 := by cases b <;> decide
 go_enter Tryz.func95, Tryz.ntmps95;go_wp2
 exact bodyPost_ret (v := .agg #[.int .i64 (optN b : Nat)]) (by simp [results, Tryz.results95, go_sem]) rfl ⟨rfl, (Below.refl _ _).alloc (Nat.le_refl _) _⟩
theorem standardParser_any (w : World) :
  Calls Tryz.prog 112 #[] w fun e w' => e = .returned (.agg #[.int .i64 380]) ∧ Below w.heap.size w w' := by
 go_enter Tryz.func112, Tryz.ntmps112;go_wp2_with fail
 refine (newParserC false _).mono ?_;rintro e w1 ⟨rfl, hb⟩;have hc : w1.cell? ⟨w.heap.size, 0, none⟩ = some (.int .i64 0) := (hb.cell (p := ⟨w.heap.size, 0, none⟩) (by simp)).trans (by simp [go_sem]);have hf : w1.frozen? ⟨w.heap.size, 0, none⟩ = false := (hb.frozen (p := ⟨w.heap.size, 0, none⟩) (by simp)).trans (by simp [go_sem]);have hB := below_of_le ((Below.refl _ _).alloc (Nat.le_refl _) _) hb;rw [show ((optN false : Nat) : Int) = 380 from rfl];go_wp2_with fail
 exact bodyPost_ret (v := .agg #[.int .i64 380]) (by simp [results, Tryz.results112, go_sem, hc]) rfl ⟨rfl, hB.setCell (Nat.le_refl _) _⟩
theorem zzCron_any (b : Bool) (w : World) :
  Calls Tryz.prog 49 #[.bool b] w fun e w' => ∃ g, e = .returned (.pointer (some ⟨g, 0, none⟩)) ∧ w.heap.size ≤ g ∧ w'.heap[g]? = some (.cells (cronCells (optN b : Nat) (.slice none 0 0) 0 0) 214 (0, 0)) ∧ Below w.heap.size w w' := by
 have HN := Lib.hid (fun w' => newParserC true w');rw [show ((optN true : Nat) : Int) = 381 from rfl] at HN;cases b with
 | false =>
  rw [show ((optN false : Nat) : Int) = 380 from rfl];unfold cronCells;go_enter Tryz.func49, Tryz.ntmps49;go_wp2_with fail
  refine (standardParser_any _).mono ?_;rintro e w1 ⟨rfl, hb⟩;go_wp2_with fail
  go_ret;exact ⟨w1.heap.size, rfl, hb.size, heap_alloc_new _ _, hb.alloc hb.size _⟩
 | true =>
  rw [show ((optN true : Nat) : Int) = 381 from rfl];unfold cronCells;go_enter Tryz.func49, Tryz.ntmps49;go_wp2_with fail
  refine (HN.out _).mono ?_;rintro e w1 ⟨rfl, hb⟩;go_wp2_with fail
  go_ret;exact ⟨w1.heap.size, rfl, hb.size, heap_alloc_new _ _, hb.alloc hb.size _⟩
theorem ownsRow_same {w w' : World} {base : Nat} {e : TypeId} {size : Nat} {v : Value} {n : Nat} {xs : List Value} (h : w.ownsRow base e size v n xs) (hb : ∀ b, v.ownBlock = some b → w'.heap[b]? = w.heap[b]?) : w'.ownsRow base e size v n xs := by
 refine ⟨h.1, ?_⟩;rcases h.2 with hn | ⟨g, cap, cur, rfl, hbg, hgg, rest⟩
 ·exact .inl hn
 ·refine .inr ⟨g, cap, cur, rfl, hbg, ?_, rest⟩;rw [hb g rfl];exact hgg
theorem own_ne {w : World} {base : Nat} {e : TypeId} {size : Nat} {v : Value} {n : Nat} {xs : List Value} (h : w.ownsRow base e size v n xs) {g : Nat} {cs : Array Value} {t : TypeId} {fr : Nat × Nat} (hg : w.heap[g]? = some (.cells cs t fr)) (hne : t ≠ e) : v.ownBlock ≠ some g := by
 rcases h.2 with ⟨rfl, _⟩ | ⟨b, cap, cur, rfl, hbg, hgg, rest⟩
 ·intro h; cases h
 ·intro h;simp only [Value.ownBlock, Option.some.injEq] at h;subst h;rw [hg] at hgg;simp only [Option.some.injEq, Obj.cells.injEq] at hgg;exact hne hgg.2.1
theorem info_entryPtr : ∃ i, Tryz.prog.info? 258 = some i ∧ i.zero = some (.pointer none) ∧ i.size = 1 ∧ i.bytes = 8 := by
 have h1 : (Tryz.prog.info? 258).map (fun i => (i.zero, i.size, i.bytes)) = some (some (.pointer none), 1, 8) := by kernel_rfl
 cases h : Tryz.prog.info? 258 with
 | none => rw [h] at h1; cases h1
 | some i =>
  rw [h] at h1;simp only [Option.map_some, Option.some.injEq, Prod.mk.injEq] at h1;exact ⟨i, rfl, h1⟩
def only (K : Act → World → Prop) : Exit → Act → World → Prop
 | .normal, a, w => K a w
 | _, _, _ => False
theorem wp_only {P : Program} {c : Code} {K : Act → World → Prop} {Q : Exit → Act → World → Prop} {a : Act} {w : World} (h : c.wp P (only K) a w) : c.wp P (Exit.then K Q) a w :=
 Code.wp_mono (fun e a w h => by cases e <;> first | exact h | exact h.elim) h
def Added (o : Int) (w w' : World) (g B : Nat) (v : Value) (k : Nat) (ps : List Value) (sch job : Value) : Prop :=
 ∃ v' b, w'.heap[g]? = some (.cells (cronCells o v' (k + 1) 0) 214 (0, 0)) ∧ w'.ownsRow B 258 1 v' (k + 1) (ps ++ [.pointer (some ⟨b, 0, none⟩)]) ∧
  w.heap.size ≤ b ∧ w'.heap[b]? = some (.cells (entryCells (k + 1) sch job job) 131 (0, 0)) ∧ Below B w w' ∧ ∀ c, c < w.heap.size → c ≠ g → v.ownBlock ≠ some c → w'.heap[c]? = w.heap[c]?
set_option maxRecDepth 100000 in
set_option maxHeartbeats 4000000 in
theorem add_any (o : Int) (g B : Nat) (v : Value) (k : Nat) (hk : k < 1000) (ps : List Value) (ts tj : TypeId) (xs xj : Value) (w : World) (hg : w.heap[g]? = some (.cells (cronCells o v k 0) 214 (0, 0)))
  (hown : w.ownsRow B 258 1 v k ps) (hB : B ≤ w.heap.size) (hgB : B ≤ g) :
  Calls Tryz.prog 113 #[.pointer (some ⟨g, 0, none⟩), .iface ts xs, .iface tj xj] w fun e w' => e = .returned (.int .i64 (k + 1)) ∧ Added o w w' g B v k ps (.iface ts xs) (.iface tj xj) := by
 have hg0 := hg;unfold cronCells at hg0;have c7 : w.cell? ⟨g, 7, none⟩ = some (.int .i32 0) := cell_of_row _ _ _ _ _ _ hg0;have c11 : w.cell? ⟨g, 11, none⟩ = some (.int .i64 k) := cell_of_row _ _ _ _ _ _ hg0;have f7 : w.frozen? ⟨g, 7, none⟩ = false := by simp [World.frozen?, hg0]
 have f11 : w.frozen? ⟨g, 11, none⟩ = false := by simp [World.frozen?, hg0]
 have hw1 : wrap64 ((k : Int) + 1) = (k : Int) + 1 := by simp [RowKit.wrap64]; omega
 have HG := Lib.hid hg;have HO := Lib.hid hown;clear hg0 hg hown;go_enter_defers Tryz.func113, Tryz.ntmps113;go_wp2_with (go_at_call 114; refine (lock_free Tryz.muLib ⟨g, 7, none⟩ _ c7 f7).mono ?_; rintro e w' ⟨rfl, rfl⟩)
 generalize hW3 : (w.setCell ⟨g, 7, none⟩ (.int .i32 1)).setCell ⟨g, 11, none⟩ (.int .i64 ((k : Int) + 1)) = w3
 have hg3 : w3.heap[g]? = some (.cells (cronCells o v (k + 1) 1) 214 (0, 0)) := by
  rw [← hW3]; exact heap_setCell_same _ _ _ _ _ _ (heap_setCell_same _ _ _ _ _ _ HG.out)
 have hk3 : ∀ c, c ≠ g → w3.heap[c]? = w.heap[c]? := fun c hc => by rw [← hW3, heap_setCell_other _ _ _ _ hc, heap_setCell_other _ _ _ _ hc]
 have hs3 : w3.heap.size = w.heap.size := by rw [← hW3]; simp
 have hBel3 : Below B w w3 := by rw [← hW3]; exact ((Below.refl _ _).setCell hgB _).setCell hgB _
 have hgl : g < w3.heap.size := (Array.getElem?_eq_some_iff.1 hg3).1;have hogne := own_ne HO.out HG.out (by decide);have hO3 : w3.ownsRow B 258 1 v k ps := ownsRow_same HO.out (fun b hb => hk3 b (fun h => hogne (by rw [← h]; exact hb)));have HO3 := Lib.hid hO3;have HK3 := Lib.hid hk3;clear hW3 c7 c11 f7 f11 hO3 hk3;refine wp_only ?_;refine start_ (n := 15) (S := fun w' => w'.heap[g]? = some (.cells (cronCells o v (k + 1) 1) 214 (0, 0)) ∧ Below w3.heap.size w3 w') (ds := [13]) #[nn, nn, nn, nn, nn, nn, nn, nn, nn, nn, nn, nn, nn, nn, nn] (by kernel_rfl) rfl rfl ⟨hg3, (Below.refl _ _).drew⟩ (fun hHeld => ?_);refine pure_ (i := 0) (N := some 22) (v := ?_) (a' := ?_) #[yy, nn, nn, nn, nn, nn, nn, nn, nn, nn, nn, nn, nn, nn, nn] rfl rfl (by kernel_rfl) (fun _ _ _ h => h) (Or.inl ⟨by rfl, ?_⟩) ?_ ?_;rotate_left
 ·intro w';go_simp;with_reducible rfl
 rotate_left
 ·simp only [nrm];rfl
 refine pure_ (i := 1) (N := some 23) (v := ?_) (a' := ?_) #[yy, yy, nn, nn, nn, nn, nn, nn, nn, nn, nn, nn, nn, nn, nn] rfl rfl (by kernel_rfl) (fun _ _ _ h => h) (Or.inl ⟨by rfl, ?_⟩) ?_ ?_;rotate_left
 ·intro w';go_simp;with_reducible rfl
 rotate_left
 ·simp only [nrm];rfl
 refine pure_ (i := 2) (N := some 24) (v := ?_) (a' := ?_) #[yy, yy, yy, nn, nn, nn, nn, nn, nn, nn, nn, nn, nn, nn, nn] rfl rfl (by kernel_rfl) (fun _ _ _ h => h) (Or.inl ⟨by rfl, ?_⟩) ?_ ?_;rotate_left
 ·intro w';go_simp;with_reducible rfl
 rotate_left
 ·simp only [nrm];rfl
 refine pure_ (i := 4) (N := some 26) (v := ?_) (a' := ?_) #[yy, yy, yy, nn, yy, nn, nn, nn, nn, nn, nn, nn, nn, nn, nn] rfl rfl (by kernel_rfl) (fun _ _ _ h => h) (Or.inl ⟨by rfl, ?_⟩) ?_ ?_;rotate_left
 ·intro w';go_simp;with_reducible rfl
 rotate_left
 ·simp only [nrm];rfl
 refine pure_ (i := 5) (N := some 27) (v := ?_) (a' := ?_) #[yy, yy, yy, nn, yy, yy, nn, nn, nn, nn, nn, nn, nn, nn, nn] rfl rfl (by kernel_rfl) (fun _ _ _ h => h) (Or.inl ⟨by rfl, ?_⟩) ?_ ?_;rotate_left
 ·intro w';go_simp;with_reducible rfl
 rotate_left
 ·simp only [nrm];rfl
 refine pure_ (i := 6) (N := some 28) (v := ?_) (a' := ?_) #[yy, yy, yy, nn, yy, yy, yy, nn, nn, nn, nn, nn, nn, nn, nn] rfl rfl (by kernel_rfl) (fun _ _ _ h => h) (Or.inl ⟨by rfl, ?_⟩) ?_ ?_;rotate_left
 ·intro w';go_simp;with_reducible rfl
 rotate_left
 ·simp only [nrm];rfl
 refine pure_ (i := 7) (N := some 29) (v := ?_) (a' := ?_) #[yy, yy, yy, nn, yy, yy, yy, yy, nn, nn, nn, nn, nn, nn, nn] rfl rfl (by kernel_rfl) (fun _ _ _ h => h) (Or.inl ⟨by rfl, ?_⟩) ?_ ?_;rotate_left
 ·intro w';go_simp;with_reducible rfl
 rotate_left
 ·simp only [nrm];rfl
 refine pure_ (i := 9) (N := some 31) (v := ?_) (a' := ?_) #[yy, yy, yy, nn, yy, yy, yy, yy, nn, yy, nn, nn, nn, nn, nn] rfl rfl (by kernel_rfl) (fun _ _ _ h => h) (Or.inl ⟨by rfl, ?_⟩) ?_ ?_;rotate_left
 ·intro w';go_simp;with_reducible rfl
 rotate_left
 ·simp only [nrm];rfl
 refine pure_ (i := 11) (N := some 33) (v := ?_) (a' := ?_) #[yy, yy, yy, nn, yy, yy, yy, yy, nn, yy, nn, yy, nn, nn, nn] rfl rfl (by kernel_rfl) (fun _ _ _ h => h) (Or.inl ⟨by rfl, ?_⟩) ?_ ?_;rotate_left
 ·intro w';go_simp;with_reducible rfl
 rotate_left
 ·simp only [nrm];rfl
 refine take_ (i := 3) (N := some 25) (v := ?_) (a' := ?_) #[yy, yy, yy, yy, yy, yy, yy, yy, nn, yy, nn, yy, nn, nn, nn] rfl rfl (by kernel_rfl) (fun _ _ _ h => h) (Or.inl ⟨by rfl, ?_⟩) hHeld ?_ ?_;rotate_left
 ·rintro w' ⟨s0, s1⟩;have c0 : w'.cell? ⟨g, 11, none⟩ = some (.int .i64 (k + 1)) := cell_of_row _ _ _ _ _ _ s0;go_simp;with_reducible rfl
 rotate_left
 ·simp only [nrm];rfl
 refine take_ (i := 8) (N := some 30) (v := ?_) (a' := ?_) #[yy, yy, yy, yy, yy, yy, yy, yy, yy, yy, nn, yy, nn, nn, nn] rfl rfl (by kernel_rfl) (fun _ _ _ h => h) (Or.inl ⟨by rfl, ?_⟩) hHeld ?_ ?_;rotate_left
 ·rintro w' ⟨s0, s1⟩;have c0 : w'.cell? ⟨g, 1, none⟩ = some (.slice none 0 0) := cell_of_row _ _ _ _ _ _ s0;go_simp;with_reducible rfl
 rotate_left
 ·simp only [nrm];rfl
 refine one_ (i := 10) (N := some 32) #[yy, yy, yy, yy, yy, yy, yy, yy, yy, yy, yy, yy, nn, nn, nn] rfl rfl (by kernel_rfl) (by decide) (fun K hK => ?_);refine goes_ Tryz.func153 (by kernel_rfl) rfl #[.agg #[.slice none 0 0], .iface tj xj] (by rfl) rfl rfl (by simp only [List.map_toArray, List.map_cons, List.map_nil]; rfl) ?_;with_reducible refine (chainThen_any (.iface tj xj) _).mono ?_
 rintro e w4 ⟨rfl, hb4⟩;refine ⟨_, rfl, ?_⟩;refine hK.out _ _ ⟨(hb4.block _ (Array.getElem?_eq_some_iff.1 hHeld.1).1).trans hHeld.1, below_of_le hHeld.2 hb4⟩ (fun hHeld => ?_);clear hK K;refine norm_ (a' := ?_) ?_ ?_;rotate_left
 ·show Act.put _ (some 32) _ = _
  simp only [nrm];rfl
 refine pure_ (i := 12) (N := some 34) (v := ?_) (a' := ?_) #[yy, yy, yy, yy, yy, yy, yy, yy, yy, yy, yy, yy, yy, nn, nn] rfl rfl (by kernel_rfl) (fun _ _ _ h => h) (Or.inl ⟨by rfl, ?_⟩) ?_ ?_;rotate_left
 ·intro w';go_simp;with_reducible rfl
 rotate_left
 ·simp only [nrm];rfl
 refine last_ (i := 13) (N := some 35) #[yy, yy, yy, yy, yy, yy, yy, yy, yy, yy, yy, yy, yy, yy, nn] rfl rfl (by kernel_rfl) (by decide) (fun K hK => ?_);refine value_ (w1 := ?_) (v := ?_) (by rfl) rfl ?_ ?_;rotate_left 2
 ·go_simp;constructor
  ·rfl
  ·rfl
 refine hK.out _ _ ?_;clear hK K;refine norm_ (a' := ?_) ?_ ?_;rotate_left
 ·show Act.put _ (some 35) _ = _
  simp only [nrm];rfl
 refine pure_ (i := 14) (N := some 7) (v := ?_) (a' := ?_) #[yy, yy, yy, yy, yy, yy, yy, yy, yy, yy, yy, yy, yy, yy, yy] rfl rfl (by kernel_rfl) (fun _ _ _ h => h) (Or.inl ⟨by rfl, ?_⟩) ?_ ?_;rotate_left
 ·intro w';go_simp;with_reducible rfl
 rotate_left
 ·simp only [nrm];rfl
 refine done_ (by kernel_rfl) ?_;dsimp only [only];obtain ⟨hg4, hB4⟩ := hHeld;obtain ⟨b, hb⟩ : ∃ b, b = w4.heap.size := ⟨_, rfl⟩
 have hB5 : Below w3.heap.size w3 (w4.alloc (.cells (entryCells (k + 1) (.iface ts xs) (.iface tj xj) (.iface tj xj)) 131)) := hB4.alloc hB4.size _;have he5 : (w4.alloc (.cells (entryCells (k + 1) (.iface ts xs) (.iface tj xj) (.iface tj xj)) 131)).heap[b]? = some (.cells (entryCells (k + 1) (.iface ts xs) (.iface tj xj) (.iface tj xj)) 131 (0, 0)) := by rw [hb]; exact heap_alloc_new w4 _
 have hg5 : (w4.alloc (.cells (entryCells (k + 1) (.iface ts xs) (.iface tj xj) (.iface tj xj)) 131)).heap[g]? = some (.cells (cronCells o v (k + 1) 1) 214 (0, 0)) := (hB5.block g hgl).trans hg3;have hb3 : w3.heap.size ≤ b := by rw [hb]; exact hB4.size
 have hb5 : b < (w4.alloc (.cells (entryCells (k + 1) (.iface ts xs) (.iface tj xj) (.iface tj xj)) 131)).heap.size := (Array.getElem?_eq_some_iff.1 he5).1;rw [← hb];unfold entryCells at hB5 he5 hg5 hb5
 generalize hW5 : w4.alloc _ = w5 at *;clear hW5 hb hg4 hB4 hb4;have HO5 := Lib.hid (ownsRow_same HO3.out (fun c hc => hB5.block c (HO3.out.lt c hc).2));have c0 : w5.cell? ⟨g, 0, none⟩ = some v := cell_of_row _ _ _ _ _ _ hg5;have c6 : w5.cell? ⟨g, 6, none⟩ = some (.bool false) := cell_of_row _ _ _ _ _ _ hg5;have hne : b ≠ g := by omega
 have hne' : g ≠ b := by omega
 obtain ⟨i, hi, hz, hs, hy⟩ := info_entryPtr;have HI := Lib.hid hi;have HZ := Lib.hid hz;have HS := Lib.hid hs;have HY := Lib.hid hy;have HG5 := Lib.hid hg5;have HE5 := Lib.hid he5;have HB5 := Lib.hid hB5;have HON := Lib.hid hogne;clear hi hz hs hy hg3 hg5 he5 hB5 hogne;have HGL := Lib.hid (show g < w5.heap.size by have := HB5.out.size; omega);have HBN := Lib.hid (show v.ownBlock ≠ some b from fun h => by have := (HO3.out.lt b h).2; omega);go_wp2_with (at_builtin; refine wpList_append_lies _ rfl _ _ _ rfl B 258 i (.pointer none) 1 8 Tryz.underlying190 HI.out HZ.out HS.out HY.out rfl (by omega) v k ps rfl (HO5.out.alloc _) ⟨w5.heap.size, 0, none⟩ 1 1 [.pointer (some ⟨b, 0, none⟩)] rfl rfl (cell_one_new _ _ _) (by simp [Value.oneCell']) (by omega) (by simp only [maxLen]; omega) (by omega) (by simp; omega) (w5.heap.size + 1) (by simp) ?_; intro h cap w7 hown7 hgrow7 hat7 hlt7; have HG7 := Lib.hid ((hgrow7.block g (by simp; have := HGL.out; omega) (fun h => HON.out h.symm)).trans ((Below.heap_alloc w5 _ g HGL.out).trans HG5.out)); have HE7 := Lib.hid ((hgrow7.block b (by simp; omega) (fun h => HBN.out h.symm)).trans ((Below.heap_alloc w5 _ b hb5).trans HE5.out)); have c7 : w7.cell? ⟨g, 0, none⟩ = some v := cell_of_row _ _ _ _ _ _ HG7.out; have f7 : w7.frozen? ⟨g, 0, none⟩ = false := (by simp [World.frozen?, HG7.out]); have e7 : w7.cell? ⟨b, 0, none⟩ = some (.int .i64 ((k : Int) + 1)) := cell_of_row _ _ _ _ _ _ HE7.out; have HO7 := Lib.hid hown7; have HW7 := Lib.hid hgrow7; have HA7 := Lib.hid hat7; clear hown7 hgrow7 hat7)
 obtain ⟨V, hV⟩ : ∃ V, V = Value.slice (some ⟨h, 0, none⟩) (k + 1) cap := ⟨_, rfl⟩
 rw [← hV] at HO7 ⊢
 have hg8 : (w7.setCell ⟨g, 0, none⟩ V).heap[g]? = some (.cells (cronCells o V (k + 1) 1) 214 (0, 0)) := heap_setCell_same _ _ _ _ _ _ HG7.out;have hVg := own_ne HO7.out HG7.out (by decide);have hs5 := HB5.out.size;have hs7 := HW7.out.size;refine leaves_cons (f := 115) (args := #[.pointer (some ⟨g, 7, none⟩)]) (by simp) (by simp [go_sem]) ?_;refine (unlock_deferred Tryz.muLib ⟨g, 7, none⟩ .returning _ (cell_of_row _ _ _ _ _ _ hg8) (by simp [World.frozen?, hg8])).mono ?_;rintro e u' w'' ⟨rfl, rfl, rfl⟩
 have hbel : Below B w (((w7.setCell ⟨g, 0, none⟩ V)).setCell ⟨g, 7, none⟩ (.int .i32 0)) := by
  refine Below.setCell (Below.setCell (Below.grown (Below.alloc (hBel3.trans (HB5.out.mono (by omega))) (by omega) _) HW7.out (by simp; omega) ?_) hgB _) hgB _;intro c hc;exact (HO3.out.lt c hc).1
 refine ⟨_, results_tmp rfl _ _ _, rfl, V, b, heap_setCell_same _ _ _ _ _ _ hg8, ownsRow_same HO7.out ?_, by omega, ?_, hbel, ?_⟩
 ·intro c hc;have hcg : c ≠ g := fun e => hVg (by rw [← e]; exact hc)
  rw [heap_setCell_other _ _ _ _ hcg, heap_setCell_other _ _ _ _ hcg]
 ·rw [heap_setCell_other _ _ _ _ hne, heap_setCell_other _ _ _ _ hne];exact HE7.out
 ·intro c hc hcg hcv;rw [heap_setCell_other _ _ _ _ hcg, heap_setCell_other _ _ _ _ hcg, HW7.out.block c (by simp; omega) (fun e => hcv e.symm), Below.heap_alloc _ _ _ (by omega), HB5.out.block c (by omega), HK3.out c hcg]
end Go.Proofs.YtmecbmgfacpecaaGreatDoor.Scr
