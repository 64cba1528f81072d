/- Lemmas and walks on the way to the law, merged by wip/tools/pack.py: ParseSays, MeanSays, LawParse, ParseWalk. Conditions: none. -/
import Derived.Test.YtmecbmgfacpecaaGreatDoorGrK
import Derived.Deep.MidRow
import Derived.Test.YtmecbmgfacpecaaGreatDoorPrC
import Derived.Test.YtmecbmgfacpecaaGreatDoorGrA
import Derived.Test.YtmecbmgfacpecaaGreatDoorRows
import Derived.Lib.LaidU8T
import Derived.OpenShut
namespace Go.Proofs.YtmecbmgfacpecaaGreatDoor.Cron
open Go Go.RowKit Go.Proofs.YtmecbmgfacpecaaGreatDoor.Text Go.Proofs.YtmecbmgfacpecaaGreatDoor.Bits Go.Proofs.YtmecbmgfacpecaaGreatDoorW.PrintWords Go.Proofs.YtmecbmgfacpecaaGreatDoorW.PrintLast Go.Proofs.YtmecbmgfacpecaaGreatDoorW.PrintMore Go.Proofs.YtmecbmgfacpecaaGreatDoor.Pr
set_option linter.unusedVariables false
set_option linter.unusedSimpArgs false
def spaceIn (s : ByteArray) : Bool := s.data.toList.any (fun c => c == 32)
theorem spaceIn_mem {s : ByteArray} (h : spaceIn s = true) : (32 : UInt8) ∈ s.data.toList := by
 unfold spaceIn at h;rw [List.any_eq_true] at h;obtain ⟨c, hc, he⟩ := h;rw [beq_iff_eq] at he;rw [← he];exact hc
set_option maxRecDepth 100000 in
theorem noAnswer_any (l : List UInt8) (hl : l.length ≤ 4294967296) (w : World) :
  Calls Tryz.prog 9 #[.string (ba l)] w fun e w' => e = .returned (.bool (!spaceIn (ba l) && decide (0 < zoneZ (ba l)))) ∧ Below w.heap.size w w' := by
 have HZ := Lib.hid (fun w' => zoneHead_any (ba l) w')
 have HSP : Hid (∀ j (h : j < l.length), l[j] = 32 → spaceIn (ba l) = true) := Lib.hid fun j h he => by
  unfold spaceIn;rw [ba_list, List.any_eq_true];exact ⟨_, List.getElem_mem h, by rw [he]; rfl⟩
 have HSN : Hid ((∀ j (h : j < l.length), l[j] ≠ 32) → spaceIn (ba l) = false) := Lib.hid fun hn => by
  unfold spaceIn;rw [ba_list, List.any_eq_false];intro c hc;obtain ⟨j, hj, rfl⟩ := List.getElem_of_mem hc
  simpa using hn j hj
 have hsz := ba_size l;generalize spaceIn (ba l) = sp at *;generalize zoneZ (ba l) = z at *
 go_enter Tryz.func9, Tryz.ntmps9
 go_wp2_with fail
 go_loopw [6] (fun v6 wr => ∃ (i : Nat), v6 = .int .i64 i ∧ i ≤ l.length ∧ Hid (∀ j (h : j < l.length), j < i → l[j] ≠ 32) ∧ Below w.heap.size w wr) (fun v6 _ => l.length - (intOf v6).toNat)
 case atStart => exact ⟨0, rfl, by omega, Lib.hid (fun j h h' => by omega), Below.refl _ _⟩
 case round =>
  obtain ⟨i, rfl, hi, HA, hbr⟩ := hrel
  by_cases hlt : i < l.length
  ·have hdl : decide ((i : Int) < (ba l).size) = true := decide_eq_true (by rw [hsz]; omega);have hix := fun w' => str_at l i hlt w'
   by_cases h32 : l[i] = 32
   ·have hq : (((l[i].toNat : Nat) : Int) == 32) = true := by rw [h32]; rfl
    have HT := Lib.hid (HSP.out i hlt h32);clear h32
    go_wp2_with fail
    go_ret
    refine ⟨?_, hbr⟩;rw [HT.out];rfl
   ·have hq : (((l[i].toNat : Nat) : Int) == 32) = false := by
     rw [beq_eq_false_iff_ne];intro h;exact h32 (UInt8.toNat_inj.1 (by show l[i].toNat = 32; omega))
    go_wp2_with fail
    go_roundw
    case rel =>
     refine ⟨i + 1, by go_num, by omega, Lib.hid fun j h h' => ?_, hbr⟩
     by_cases hji : j < i
     ·exact HA.out j h hji
     ·obtain rfl : j = i := by omega
      exact h32
    case measure => simp [intOf]; omega
  ·have HT := Lib.hid (HSN.out (fun j h => HA.out j h (by omega)));obtain rfl : i = l.length := by omega
   have hdl : decide ((l.length : Int) < (ba l).size) = false := decide_eq_false (by rw [hsz]; omega)
   go_wp2_with fail
   refine (HZ.out _).mono ?_;rintro e w1 ⟨rfl, hb1⟩
   go_wp2_with fail
   go_ret
   refine ⟨?_, below_of_le hbr hb1⟩;rw [HT.out]
   show _ = Ending.returned (.bool (decide (0 < z)))
   rw [show decide (0 < z) = decide ((0 : Int) < (z : Nat)) from decide_eq_decide.2 (by omega)];rfl
theorem space_facts (l : List UInt8) (h : (32 : UInt8) ∈ l) : (l.takeWhile (fun c => c != 32)).length < l.length ∧ (∀ j (hj : j < l.length), j < (l.takeWhile (fun c => c != 32)).length → l[j] ≠ 32) ∧ (∀ hj : (l.takeWhile (fun c => c != 32)).length < l.length, l[(l.takeWhile (fun c => c != 32)).length] = 32) := by
 have h1 := List.takeWhile_append_dropWhile (p := fun c : UInt8 => c != 32) (l := l)
 have hm : ∀ c ∈ l.takeWhile (fun c => c != 32), c ≠ 32 := fun c hc => by
  have := Dur.mem_tw (p := fun c => c != 32) c hc
  simpa using this
 rcases Dur.stop_drop (fun c : UInt8 => c != 32) l with hd | ⟨c, t, hd, hc⟩
 ·rw [hd, List.append_nil] at h1;rw [← h1] at h;exact absurd rfl (hm 32 h)
 ·have hc32 : c = 32 := by simpa using hc
  rw [hd] at h1;generalize l.takeWhile (fun c => c != 32) = T at *;subst h1;refine ⟨by simp, fun j hj hjT => ?_, fun hj => ?_⟩
  ·rw [List.getElem_append_left hjT];exact hm _ (List.getElem_mem hjT)
  ·rw [List.getElem_append_right (Nat.le_refl _)];simp [hc32]
theorem zone_le (s : ByteArray) (hz : zoneZ s ≠ 0) (h : (32 : UInt8) ∈ s.data.toList) : zoneZ s ≤ spaceAt s := by
 unfold zoneZ at hz ⊢
 unfold spaceAt
 cases p1 : Lib.hasPrefix s.data.toList [84, 90, 61] with
 | true =>
  rw [if_pos rfl];obtain ⟨t, ht⟩ := List.isPrefixOf_iff_prefix.1 p1;rw [← ht];simp [List.takeWhile]
 | false =>
  cases p2 : Lib.hasPrefix s.data.toList [67, 82, 79, 78, 95, 84, 90, 61] with
  | true =>
   rw [if_neg (by simp), if_pos rfl];obtain ⟨t, ht⟩ := List.isPrefixOf_iff_prefix.1 p2;rw [← ht];simp [List.takeWhile]
  | false =>
   rw [p1, p2] at hz;exact absurd rfl hz
theorem MeanOf.utc {cs : Array Value} {g : Got} (h : MeanOf cs g) (v : Value) (hn : cs.size = 387) : MeanOf (cs.setIfInBounds 386 v) g := by
 cases g with
 | bits l =>
  obtain ⟨h0, fs, hf, hj⟩ := h;refine ⟨?_, fs, hf, fun j hjl => ?_⟩
  ·rw [Array.getElem?_setIfInBounds, if_neg (by omega)];exact h0
  ·rw [Array.getElem?_setIfInBounds, if_neg (by omega)];exact hj j hjl
 | delay d =>
  obtain ⟨h0, h1⟩ := h;refine ⟨?_, ?_⟩
  ·rw [Array.getElem?_setIfInBounds, if_neg (by omega)];exact h0
  ·rw [Array.getElem?_setIfInBounds, if_neg (by omega)];exact h1
theorem MeanOf.every {cs : Array Value} {g : Got} (h : MeanOf cs g) : ∃ b, cs[0]? = some (.bool b) := by
 cases g with
 | bits l => exact ⟨false, h.1⟩
 | delay d => exact ⟨true, h.1⟩
theorem set_one {cs : Array Value} (h : cs.all (·.oneCell') = true) (i : Nat) (b : Bool) : (cs.setIfInBounds i (.bool b)).all (·.oneCell') = true := by
 rw [Array.all_eq_true_iff_forall_mem] at h ⊢
 intro v hv;rw [Array.mem_iff_getElem?] at hv;obtain ⟨j, hj⟩ := hv;rw [Array.getElem?_setIfInBounds] at hj
 split at hj
 ·split at hj
  ·cases hj; rfl
  ·cases hj
 ·exact h v (Array.mem_iff_getElem?.2 ⟨j, hj⟩)
set_option maxRecDepth 100000 in
set_option maxHeartbeats 8000000 in
theorem parseSays_any (o : Nat) (ho : o < 512) (h2 : twoB o = false) (l : List UInt8) (hl : l.length ≤ 4294967296) (hsp : zoneZ (ba l) ≠ 0 → (32 : UInt8) ∈ l) (w : World) :
  Calls Tryz.prog 43 #[.int .i64 o, .string (ba l)] w (SaysM w (progS o (ba l))) := by
 have el : (ba l).toList = l := by rw [toList_data, ba_list]
 have hsz := ba_size l;have HZ := Lib.hid (fun w' => zoneHead_any (ba l) w');have hal := run_alloc_M;have HR0 := Lib.hid (zeroM_row w);have HB0 : Hid (Below w.heap.size w (w.alloc (.cells zeroM 99))) := Lib.hid ((Below.refl _ _).alloc (Nat.le_refl _) _)
 by_cases hz : zoneZ (ba l) = 0
 ·rw [hz] at HZ
  by_cases h0 : l = []
  ·have HT : Hid (progS o (ba l) = none) := Lib.hid (by unfold progS; rw [if_pos (by rw [hsz, h0]; rfl)]);have hq : (ba l).toList = [] := by rw [el, h0]
   generalize progS o (ba l) = RG at *;clear hl hz hsp el hsz h0 h2
   go_enter Tryz.func43, Tryz.ntmps43
   go_wp2_with fail
   refine (HZ.out _).mono ?_;rintro e w1 ⟨rfl, hb1⟩;obtain ⟨ca, hca, hna, h1a⟩ := HR0.out.below hb1;have HB1 := Lib.hid (below_of_le HB0.out hb1);clear HR0 HB0 hb1
   go_wp2_with (first | (refine wpList_build_M rfl rfl ?_) | (refine wpList_store_row rfl 99 _ _ rfl w.heap.size zeroM rfl rfl _ _ hca (by rw [sizeM, zeroM_size]) (by rw [hna, zeroM_size]) zeroM_one ?_))
   refine bodyPost_ret (v := .tuple #[.agg zeroM, .int .i64 0]) ?_ rfl ?_
   ·exact results_M (fn := Tryz.f43) (p := 4) (u := 5) rfl _ _ w.heap.size _ zeroM_size rfl (setRow_heap _ _ _ _ _ _ hca)
   exact ⟨⟨zeroM, 0, rfl, zeroM_size, zeroM_one, .inl rfl, fun _ => HT.out, fun h => (by omega)⟩, below_setRow HB1.out (by omega) _⟩
  ·have HT : Hid (progS o (ba l) = plainG o (ba l)) := Lib.hid (by
    unfold progS;rw [if_neg (by rw [hsz]; intro h; exact h0 (List.length_eq_zero_iff.1 h)), if_pos hz])
   have hq : ¬ (ba l).toList = [] := by rw [el]; exact h0
   have hq2 : ((ba l).toList == []) = false := by rw [beq_eq_false_iff_ne]; exact hq
   have hq3 : (ba l).toList.isEmpty = false := by rw [el]; simpa using h0
   have HP := Lib.hid (fun w' => plainSays_any o ho h2 (ba l) (by rw [hsz]; exact hl) w');generalize progS o (ba l) = RG at *;generalize plainG o (ba l) = RP at *;clear hl hz hsp el hsz h0 h2
   go_enter Tryz.func43, Tryz.ntmps43
   go_wp2_with fail
   refine (HZ.out _).mono ?_;rintro e w1 ⟨rfl, hb1⟩;have HR1 := Lib.hid (HR0.out.below hb1);have HB1 := Lib.hid (below_of_le HB0.out hb1);clear HR0 HB0 hb1
   go_wp2_with fail
   refine (HP.out _).mono ?_;rintro e w2 ⟨⟨cs, v, rfl, hn, h1, hv⟩, hb2⟩;have HB2 := Lib.hid (below_of_le HB1.out hb2);have HV := Lib.hid hv;obtain ⟨ca, hca, hna, h1a⟩ := HR1.out.below hb2;clear HR1 HB1 hb2 hv
   go_wp2_with (refine wpList_store_row rfl 99 _ _ rfl w.heap.size cs rfl rfl _ _ hca (by rw [sizeM, hn]) (by rw [hna, hn]) h1 ?_)
   refine bodyPost_ret (v := .tuple #[.agg cs, .int .i64 v]) ?_ rfl ?_
   ·exact results_M (fn := Tryz.f43) (p := 4) (u := 5) rfl _ _ w.heap.size _ hn rfl (setRow_heap _ _ _ _ _ _ hca)
   rw [HT.out];exact ⟨⟨cs, v, rfl, hn, h1, HV.out⟩, below_setRow HB2.out (by omega) _⟩
 ·have hm := hsp hz;have hzl := zone_le (ba l) hz (by rw [ba_list]; exact hm);have hspd : spaceAt (ba l) = (l.takeWhile (fun c => c != 32)).length := by unfold spaceAt; rw [ba_list]
  obtain ⟨hs1, hs2, hs3⟩ := space_facts l hm;rw [← hspd] at hs1 hs2 hs3
  have hse : spaceAt (ba l) ≤ (ba l).size := by rw [hsz]; omega
  have hne0 : ¬ (ba l).size = 0 := by rw [hsz]; omega
  have hin : spaceIn (ba l) = true := by
   unfold spaceIn;rw [ba_list, List.any_eq_true];exact ⟨32, hm, rfl⟩
  have HNA := Lib.hid (fun w' => noAnswer_any l hl w');rw [hin] at HNA;have hsub := str_sub (ba l) (zoneZ (ba l)) (spaceAt (ba l)) hzl hse;have hrest := str_from' (ba l) (spaceAt (ba l)) hse;have hname : ((ba l).extract (zoneZ (ba l)) (spaceAt (ba l))).size ≤ 4294967296 := by rw [ByteArray.size_extract]; omega
  obtain ⟨KZ, u, vz, z1, z2, z3, z4⟩ := zname_f _ hname;have HZN := Lib.hid (fun w' => spec_CronZoneName.calls KZ _ u vz w' z1)
  have hrl : ((ba l).extract (spaceAt (ba l)) (ba l).size) = ba (l.drop (spaceAt (ba l))) := by
   rw [← ba_of ((ba l).extract _ _), extract_list, ba_list, hsz, List.take_length]
  obtain ⟨KT, ht⟩ := trim_l0 (l.drop (spaceAt (ba l))) (by rw [List.length_drop]; omega);have HTR := Lib.hid (fun w' => spec_CronTrim.calls KT (ba (l.drop (spaceAt (ba l)))) _ w' ht);rw [← hrl] at HTR
  have htl : (ba (trimL (l.drop (spaceAt (ba l))))).size ≤ 4294967296 := by
   have : (trimL (l.drop (spaceAt (ba l)))).length ≤ (l.drop (spaceAt (ba l))).length := by
    unfold trimL trimR;rw [List.length_reverse];have a1 := (List.dropWhile_suffix (l := ((l.drop (spaceAt (ba l))).dropWhile blankB).reverse) blankB).length_le;have a2 := (List.dropWhile_suffix (l := l.drop (spaceAt (ba l))) blankB).length_le;rw [List.length_reverse] at a1;omega
   rw [ba_size];rw [List.length_drop] at this;omega
  have htZ := trim_same (l.drop (spaceAt (ba l)));obtain ⟨bf, hbf, hasc⟩ := foreignB_f _ htl;have HF := Lib.hid (fun w' => spec_cronForeign.calls _ _ bf w' hbf);have HP := Lib.hid (fun w' => plainSays_any o ho h2 (ba (trimL (l.drop (spaceAt (ba l))))) htl w');have HPR : Hid (progS o (ba l) = if zoneOk ((ba l).extract (zoneZ (ba l)) (spaceAt (ba l))).data.toList = true then plainG o (trimZ ((ba l).extract (spaceAt (ba l)) (ba l).size)) else none) := Lib.hid (by unfold progS; rw [if_neg hne0, if_neg hz]);have HTZ : Hid (bf = false → trimZ ((ba l).extract (spaceAt (ba l)) (ba l).size) = ba (trimL (l.drop (spaceAt (ba l))))) := Lib.hid fun h => by rw [hrl]; exact htZ (hasc h)
  have HZ3 : Hid ((vz = 0 ∨ vz = 1 ∨ vz = 2) ∧ (vz = 0 → zoneOk ((ba l).extract (zoneZ (ba l)) (spaceAt (ba l))).data.toList = false) ∧ (vz = 1 → zoneOk ((ba l).extract (zoneZ (ba l)) (spaceAt (ba l))).data.toList = true)) := Lib.hid ⟨z2, z3, z4⟩;have HZpos : Hid (decide (0 < zoneZ (ba l)) = true) := Lib.hid (decide_eq_true (by omega));have hzne : (((zoneZ (ba l) : Nat) : Int) == 0) = false := by rw [beq_eq_false_iff_ne]; omega
  clear htZ hasc hbf htl ht hrl z1 z2 z3 z4 hname hin hm hspd hsp hne0;have HN0 : Hid (vz = 0 → progS o (ba l) = none) := Lib.hid fun h => by rw [HPR.out, HZ3.out.2.1 h]; rfl
  have HN1 : Hid (bf = false → plainG o (ba (trimL (l.drop (spaceAt (ba l))))) = none → progS o (ba l) = none) := Lib.hid fun h h' => by
   rw [HPR.out, HTZ.out h, h']
   split <;> rfl
  have HN2 : Hid (bf = false → vz = 1 → progS o (ba l) = plainG o (ba (trimL (l.drop (spaceAt (ba l)))))) := Lib.hid fun h h' => by
   rw [HPR.out, HZ3.out.2.2 h', HTZ.out h];rfl
  have HZ9 := Lib.hid HZ3.out.1;clear HPR HTZ HZ3;generalize progS o (ba l) = RG at *;generalize plainG o (ba (trimL (l.drop (spaceAt (ba l))))) = RP at *;generalize ba (trimL (l.drop (spaceAt (ba l)))) = tx at *;generalize (ba l).extract (spaceAt (ba l)) (ba l).size = rs at *;generalize (ba l).extract (zoneZ (ba l)) (spaceAt (ba l)) = nm at *;generalize spaceAt (ba l) = m at *;generalize zoneZ (ba l) = z at *;clear hse h2 el
  go_enter Tryz.func43, Tryz.ntmps43
  go_wp2_with fail
  refine (HZ.out _).mono ?_;rintro e w1 ⟨rfl, hb1⟩;have HR1 := Lib.hid (HR0.out.below hb1);have HB1 := Lib.hid (below_of_le HB0.out hb1);clear HR0 HB0 hb1 HZ
  go_wp2_with fail
  refine (HNA.out _).mono ?_;rintro e w2 ⟨rfl, hb2⟩;have HR2 := Lib.hid (HR1.out.below hb2);have HB2 := Lib.hid (below_of_le HB1.out hb2);clear HR1 HB1 hb2 HNA HZpos
  go_wp2_with fail
  go_loopw [7] (fun v7 wr => ∃ (a : Nat), v7 = .int .i64 a ∧ z ≤ a ∧ a ≤ m ∧ Hid (RowN wr w.heap.size 99 387) ∧ Hid (Below w.heap.size w wr)) (fun v7 _ => m - (intOf v7).toNat)
  case atStart => exact ⟨z, rfl, Nat.le_refl _, hzl, HR2, HB2⟩
  case round =>
   obtain ⟨a, rfl, ha1, ha2, HR, HB⟩ := hrel;clear HR2 HB2;have hal2 : a < l.length := by omega
   have hix := fun w' => str_at l a hal2 w'
   by_cases ham : a < m
   ·have h32 := hs2 a hal2 ham
    have hq1 : (((l[a].toNat : Nat) : Int) == 32) = false := by
     rw [beq_eq_false_iff_ne];intro h;exact h32 (UInt8.toNat_inj.1 (by show l[a].toNat = 32; omega))
    have hq2 : (((l[a].toNat : Nat) : Int) != 32) = true := by rw [bne, hq1]; rfl
    go_wp2_with fail
    go_roundw
    case rel => exact ⟨a + 1, by go_num, by omega, by omega, HR, HB⟩
    case measure => simp [intOf]; omega
   ·obtain rfl : a = m := by omega
    have h32 := hs3 hal2;have hq1 : (((l[a].toNat : Nat) : Int) == 32) = true := by rw [h32]; rfl
    have hq2 : (((l[a].toNat : Nat) : Int) != 32) = false := by rw [bne, hq1]; rfl
    clear hs2 hs3 h32
    go_wp2_with fail
    refine (HZN.out _).mono ?_;rintro e w3 ⟨rfl, hb3⟩;have HR3 := Lib.hid (HR.out.below hb3.below);have HB3 := Lib.hid (below_of_le HB.out hb3.below);clear HR HB hb3 HZN hsub
    go_wp2_with fail
    refine (HTR.out _).mono ?_;rintro e w4 ⟨rfl, hb4⟩;have HR4 := Lib.hid (HR3.out.below hb4.below);have HB4 := Lib.hid (below_of_le HB3.out hb4.below);clear HR3 HB3 hb4 HTR hrest
    go_wp2_with fail
    refine (HF.out _).mono ?_;rintro e w5 ⟨rfl, hb5⟩;have HR5 := Lib.hid (HR4.out.below hb5.below);have HB5 := Lib.hid (below_of_le HB4.out hb5.below);clear HR4 HB4 hb5 HF
    by_cases hbf : bf = true
    ·subst hbf;obtain ⟨v3, g1, g2, g3, g4, _, _⟩ := worse_f vz 2 HZ9.out (.inr (.inr rfl));have HWO := Lib.hid (fun w' => spec_worse.calls vz 2 v3 w' g1);have HV3 : Hid ((v3 = 0 ∨ v3 = 1 ∨ v3 = 2) ∧ (v3 = 0 → RG = none) ∧ v3 ≠ 1) := Lib.hid ⟨g2, fun h => HN0.out (by have := g3 h; omega), fun h => by have := (g4 h).2; omega⟩;clear g1 g2 g3 g4
     go_wp2_with fail
     go_wp2_with (first | (refine wpList_build_M rfl rfl ?_))
     refine (HWO.out _).mono ?_;rintro e w6 ⟨rfl, hb6⟩;obtain ⟨ca, hca, hna, h1a⟩ := HR5.out.below hb6;have HB6 := Lib.hid (below_of_le HB5.out hb6);clear HR5 HB5 hb6
     go_wp2_with (first | (refine wpList_build_M rfl rfl ?_) | (refine wpList_store_row rfl 99 _ _ rfl w.heap.size zeroM rfl rfl _ _ hca (by rw [sizeM, zeroM_size]) (by rw [hna, zeroM_size]) zeroM_one ?_))
     refine bodyPost_ret (v := .tuple #[.agg zeroM, .int .i64 v3]) ?_ rfl ?_
     ·exact results_M (fn := Tryz.f43) (p := 4) (u := 5) rfl _ _ w.heap.size _ zeroM_size rfl (setRow_heap _ _ _ _ _ _ hca)
     exact ⟨⟨zeroM, v3, rfl, zeroM_size, zeroM_one, HV3.out.1, HV3.out.2.1, fun h => absurd h HV3.out.2.2⟩, below_setRow HB6.out (by omega) _⟩
    ·obtain rfl : bf = false := by simpa using hbf
     have HM1 := Lib.hid (HN1.out rfl);have HM2 := Lib.hid (HN2.out rfl);clear hbf HN1 HN2
     go_wp2_with fail
     refine (HP.out _).mono ?_;rintro e w6 ⟨⟨cs, v, rfl, hn, h1, hv, hv0, hv1⟩, hb6⟩;have HR6 := Lib.hid (HR5.out.below hb6);have HB6 := Lib.hid (below_of_le HB5.out hb6);clear HR5 HB5 hb6;obtain ⟨v3, g1, g2, g3, g4, _, _⟩ := worse_f vz v HZ9.out hv;have HWO := Lib.hid (fun w' => spec_worse.calls vz v v3 w' g1)
     have HV3 : Hid ((v3 = 0 ∨ v3 = 1 ∨ v3 = 2) ∧ (v3 = 0 → RG = none) ∧ (v3 = 1 → ∃ g, RG = some g ∧ MeanOf cs g)) := Lib.hid ⟨g2, fun h => (by
      rcases g3 h with h | h
      ·exact HN0.out h
      ·exact HM1.out (hv0 h)), fun h => (by
      obtain ⟨a1, a2⟩ := g4 h;obtain ⟨g, e1, e2⟩ := hv1 a2;exact ⟨g, by rw [HM2.out a1, e1], e2⟩)⟩
     clear g1 g2 g3 g4 hv hv0 hv1 HN0 HM1 HM2
     go_wp2_with (first | (refine wpList_store_row rfl 99 _ _ rfl w6.heap.size cs rfl rfl _ _ (heap_alloc_new w6 _) (by rw [sizeM, hn]) (Eq.trans (b := 387) (by kernel_rfl) hn.symm) h1 ?_; generalize hW : World.setRow (World.alloc w6 _) _ _ = wL; have HWL := Lib.hid (show wL.heap[w6.heap.size]? = some (.cells cs 99 (0, 0)) ∧ RowN wL w.heap.size 99 387 ∧ Below w.heap.size w wL ∧ w.heap.size < w6.heap.size by rw [← hW]; exact ⟨setRow_heap _ _ _ _ _ _ (heap_alloc_new w6 _), (HR6.out.below ((Below.refl _ _).alloc (Nat.le_refl _) _)).other (by have := HR6.out.lt; omega) _, below_setRow (HB6.out.alloc HB6.out.size _) HB6.out.size _, HR6.out.lt⟩); clear hW))
     refine (HWO.out _).mono ?_;rintro e w7 ⟨rfl, hb7⟩;have HR7 := Lib.hid (HWL.out.2.1.below hb7);have HB7 := Lib.hid (below_of_le HWL.out.2.2.1 hb7);have HROW := Lib.hid ((hb7.block w6.heap.size (Array.getElem?_eq_some_iff.1 HWL.out.1).1).trans HWL.out.1);have hgm := HWL.out.2.2.2;clear HR6 HB6 HWL hb7;generalize w6.heap.size = gm at *
     by_cases hv3 : v3 = 1
     ·subst hv3;obtain ⟨g, e1, e2⟩ := HV3.out.2.2 rfl;have HME := Lib.hid e2;obtain ⟨be, hbe⟩ := e2.every;have hc0 : w7.cell? ⟨gm, 0, none⟩ = some (.bool be) := (cell_of_row _ _ _ _ _ _ HROW.out).trans hbe;obtain ⟨x3, hx3⟩ : ∃ x, cs[386]? = some x := ⟨cs[386]'(by omega), Array.getElem?_eq_getElem (by omega)⟩
      have hc3 : w7.cell? ⟨gm, 386, none⟩ = some x3 := (cell_of_row _ _ _ _ _ _ HROW.out).trans hx3;have hf3 : w7.frozen? ⟨gm, 386, none⟩ = false := frozen_of_row _ _ _ _ _ HROW.out;obtain ⟨ca, hca, hna, h1a⟩ := HR7.out;have HRG := Lib.hid e1;have HRS : Hid (∀ b, (w7.setCell ⟨gm, 386, none⟩ (.bool b)).heap[gm]? = some (.cells (cs.setIfInBounds 386 (.bool b)) 99 (0, 0))) := Lib.hid fun b => heap_setCell_same w7 gm 386 cs _ _ HROW.out
      have HCA : Hid (∀ b, (w7.setCell ⟨gm, 386, none⟩ (.bool b)).heap[w.heap.size]? = some (.cells ca 99 (0, 0))) := Lib.hid fun b => (heap_setCell_other w7 ⟨gm, 386, none⟩ w.heap.size _ (by show w.heap.size ≠ gm; omega)).trans hca
      clear hbe hx3 e1 e2 HV3 HROW HR7 hca
      cases u with
      | true =>
       go_wp2_with (first | (refine wpList_load_row rfl 99 _ rfl gm rfl _ _ _ _ (HRS.out (!be)) Tryz.underlying99 rfl (by rw [sizeM, Array.size_setIfInBounds, hn]) ?_) | (refine wpList_store_row rfl 99 _ _ rfl w.heap.size (cs.setIfInBounds 386 (.bool (!be))) rfl rfl _ _ (HCA.out (!be)) (by rw [sizeM, Array.size_setIfInBounds, hn]) (by rw [hna, Array.size_setIfInBounds, hn]) (set_one h1 _ _) ?_))
       refine bodyPost_ret (v := .tuple #[.agg (cs.setIfInBounds 386 (.bool (!be))), .int .i64 1]) ?_ rfl ?_
       ·exact results_M (fn := Tryz.f43) (p := 4) (u := 5) rfl _ _ w.heap.size _ (by rw [Array.size_setIfInBounds, hn]) rfl (setRow_heap _ _ _ _ _ _ (HCA.out (!be)))
       exact ⟨⟨cs.setIfInBounds 386 (.bool (!be)), 1, rfl, by rw [Array.size_setIfInBounds, hn], set_one h1 _ _, .inr (.inl rfl), fun h => (by omega), fun _ => ⟨g, HRG.out, HME.out.utc _ hn⟩⟩, below_setRow (HB7.out.setCell (show w.heap.size ≤ gm by omega) _) (by omega) _⟩
      | false =>
       go_wp2_with (first | (refine wpList_load_row rfl 99 _ rfl gm rfl _ _ _ _ (HRS.out false) Tryz.underlying99 rfl (by rw [sizeM, Array.size_setIfInBounds, hn]) ?_) | (refine wpList_store_row rfl 99 _ _ rfl w.heap.size (cs.setIfInBounds 386 (.bool false)) rfl rfl _ _ (HCA.out false) (by rw [sizeM, Array.size_setIfInBounds, hn]) (by rw [hna, Array.size_setIfInBounds, hn]) (set_one h1 _ _) ?_))
       refine bodyPost_ret (v := .tuple #[.agg (cs.setIfInBounds 386 (.bool false)), .int .i64 1]) ?_ rfl ?_
       ·exact results_M (fn := Tryz.f43) (p := 4) (u := 5) rfl _ _ w.heap.size _ (by rw [Array.size_setIfInBounds, hn]) rfl (setRow_heap _ _ _ _ _ _ (HCA.out false))
       exact ⟨⟨cs.setIfInBounds 386 (.bool false), 1, rfl, by rw [Array.size_setIfInBounds, hn], set_one h1 _ _, .inr (.inl rfl), fun h => (by omega), fun _ => ⟨g, HRG.out, HME.out.utc _ hn⟩⟩, below_setRow (HB7.out.setCell (show w.heap.size ≤ gm by omega) _) (by omega) _⟩
     ·have hne : (v3 != 1) = true := by simpa using hv3
      have HV1 := Lib.hid hv3;obtain ⟨ca, hca, hna, h1a⟩ := HR7.out;clear hv3 HROW HR7
      go_wp2_with (first | (refine wpList_build_M rfl rfl ?_) | (refine wpList_store_row rfl 99 _ _ rfl w.heap.size zeroM rfl rfl _ _ hca (by rw [sizeM, zeroM_size]) (by rw [hna, zeroM_size]) zeroM_one ?_))
      refine bodyPost_ret (v := .tuple #[.agg zeroM, .int .i64 v3]) ?_ rfl ?_
      ·exact results_M (fn := Tryz.f43) (p := 4) (u := 5) rfl _ _ w.heap.size _ zeroM_size rfl (setRow_heap _ _ _ _ _ _ hca)
      exact ⟨⟨zeroM, v3, rfl, zeroM_size, zeroM_one, HV3.out.1, HV3.out.2.1, fun h => absurd h HV1.out⟩, below_setRow HB7.out (by omega) _⟩
end Go.Proofs.YtmecbmgfacpecaaGreatDoor.Cron
namespace Go.Proofs.YtmecbmgfacpecaaGreatDoor.Cron
open Go Go.RowKit Go.Proofs.YtmecbmgfacpecaaGreatDoor.Text Go.Proofs.YtmecbmgfacpecaaGreatDoor.Bits Go.Proofs.YtmecbmgfacpecaaGreatDoorW.PrintWords Go.Proofs.YtmecbmgfacpecaaGreatDoorW.PrintLast Go.Proofs.YtmecbmgfacpecaaGreatDoorW.PrintMore Go.Proofs.YtmecbmgfacpecaaGreatDoor.Pr
set_option linter.unusedVariables false
set_option linter.unusedSimpArgs false
theorem exec_load_midP {P : Program} (ev : Operand → Value) (oi : Oper) (w : World) (ty : TypeId) (x : Operand) (ho : oi.op = .load ty x) (b o : Nat) (hx : ev x = .pointer (some ⟨b, o, none⟩)) (cs : List Value) (d : TypeDesc) (hc : w.rangeAt b o cs)
  (hu : P.underlying ty = some d) (hd : d.isRow = true) (hi : (P.info? ty).map (·.size) = some cs.length) : (execOp ev oi).run P w = .ok (.value (.agg cs.toArray)) w := by
 unfold execOp;simp only [ho, hx, Instr.loadAt, Instr.sureAddr, Sem.run_bind, Sem.run_pure, Result.andThen_ok, run_loadVar_mid w b o ty cs d hc hu hd hi]
theorem range_row {w : World} {g : Nat} {fs : Array Value} {T : TypeId} (h : w.heap[g]? = some (.cells fs T (0, 0))) (o : Nat) (cs : List Value) (hc : ∀ j, j < cs.length → fs[o + j]? = cs[j]?) : w.rangeAt g o cs := fun j v hv => by
 have hj : j < cs.length := (List.getElem?_eq_some_iff.1 hv).1;rw [cell_of_row _ _ _ _ _ _ h, hc j hj, hv]
theorem setL (st : Bool) (q : Nat → Bool) : (setCells st q).toList.toArray = setCells st q := by simp
theorem exec_load_setM (ev : Operand → Value) (oi : Oper) (w : World) (x : Operand) (g o : Nat) (st : Bool) (q : Nat → Bool) (ho : oi.op = .load 56 x) (hx : ev x = .pointer (some ⟨g, o, none⟩)) (hs : w.rangeAt g o (setCells st q).toList) :
  (execOp ev oi).run Tryz.prog w = .ok (.value (.agg (setCells st q))) w := by
 have := exec_load_midP (P := Tryz.prog) ev oi w 56 x ho g o hx (setCells st q).toList _ hs Tryz.underlying56 rfl (by rw [setSize, Array.length_toList, setCells_size]);rw [setL] at this;exact this
theorem run_box_F (cs : Array Value) (w : World) : (Instr.box 88 (.agg cs)).run Tryz.prog w = .ok (.pointer (some ⟨w.heap.size, 0, none⟩)) (w.alloc (.cells cs 88 (0, 0))) := by rfl
theorem run_box_M (cs : Array Value) (w : World) : (Instr.box 99 (.agg cs)).run Tryz.prog w = .ok (.pointer (some ⟨w.heap.size, 0, none⟩)) (w.alloc (.cells cs 99 (0, 0))) := by rfl
set_option maxRecDepth 100000 in
set_option maxHeartbeats 8000000 in
theorem cronSchedule_any (fs : Array Value) (l : List Nat) (hF : IsFields fs l) (w : World) :
  Calls Tryz.prog 93 #[.agg fs] w fun e w' => e = .returned (.agg (schedCells l)) ∧ Below w.heap.size w w' := by
 have hbx := run_box_F fs;obtain ⟨q0, p0, n0, c0⟩ := hF.at_ 0 (by omega);obtain ⟨q1, p1, n1, c1⟩ := hF.at_ 1 (by omega);obtain ⟨q2, p2, n2, c2⟩ := hF.at_ 2 (by omega);obtain ⟨q3, p3, n3, c3⟩ := hF.at_ 3 (by omega);obtain ⟨q4, p4, n4, c4⟩ := hF.at_ 4 (by omega);obtain ⟨q5, p5, n5, c5⟩ := hF.at_ 5 (by omega);have B0 := Lib.hid (fun w' => cronBits_of q0 p0 w');have R0 : Hid (∀ w' : World, w'.heap[w.heap.size]? = some (.cells fs 88 (0, 0)) → w'.rangeAt w.heap.size 0 (setCells q0 p0).toList) := Lib.hid fun w' h => range_row h _ _ (fun j hj => by rw [Array.length_toList, setCells_size] at hj; rw [Array.getElem?_toList]; exact c0 j hj)
 have B1 := Lib.hid (fun w' => cronBits_of q1 p1 w');have R1 : Hid (∀ w' : World, w'.heap[w.heap.size]? = some (.cells fs 88 (0, 0)) → w'.rangeAt w.heap.size 64 (setCells q1 p1).toList) := Lib.hid fun w' h => range_row h _ _ (fun j hj => by rw [Array.length_toList, setCells_size] at hj; rw [Array.getElem?_toList]; exact c1 j hj)
 have B2 := Lib.hid (fun w' => cronBits_of q2 p2 w');have R2 : Hid (∀ w' : World, w'.heap[w.heap.size]? = some (.cells fs 88 (0, 0)) → w'.rangeAt w.heap.size 128 (setCells q2 p2).toList) := Lib.hid fun w' h => range_row h _ _ (fun j hj => by rw [Array.length_toList, setCells_size] at hj; rw [Array.getElem?_toList]; exact c2 j hj)
 have B3 := Lib.hid (fun w' => cronBits_of q3 p3 w');have R3 : Hid (∀ w' : World, w'.heap[w.heap.size]? = some (.cells fs 88 (0, 0)) → w'.rangeAt w.heap.size 192 (setCells q3 p3).toList) := Lib.hid fun w' h => range_row h _ _ (fun j hj => by rw [Array.length_toList, setCells_size] at hj; rw [Array.getElem?_toList]; exact c3 j hj)
 have B4 := Lib.hid (fun w' => cronBits_of q4 p4 w');have R4 : Hid (∀ w' : World, w'.heap[w.heap.size]? = some (.cells fs 88 (0, 0)) → w'.rangeAt w.heap.size 256 (setCells q4 p4).toList) := Lib.hid fun w' h => range_row h _ _ (fun j hj => by rw [Array.length_toList, setCells_size] at hj; rw [Array.getElem?_toList]; exact c4 j hj)
 have B5 := Lib.hid (fun w' => cronBits_of q5 p5 w');have R5 : Hid (∀ w' : World, w'.heap[w.heap.size]? = some (.cells fs 88 (0, 0)) → w'.rangeAt w.heap.size 320 (setCells q5 p5).toList) := Lib.hid fun w' h => range_row h _ _ (fun j hj => by rw [Array.length_toList, setCells_size] at hj; rw [Array.getElem?_toList]; exact c5 j hj)
 have HSC : Hid (schedCells l = #[.bool false, .int .i64 0, .int .u64 (setBits q0 p0 : Nat), .int .u64 (setBits q1 p1 : Nat), .int .u64 (setBits q2 p2 : Nat), .int .u64 (setBits q3 p3 : Nat), .int .u64 (setBits q4 p4 : Nat), .int .u64 (setBits q5 p5 : Nat)]) := Lib.hid (by unfold schedCells; rw [n0, n1, n2, n3, n4, n5]);rw [HSC.out];generalize setBits q0 p0 = b0 at *;generalize setBits q1 p1 = b1 at *;generalize setBits q2 p2 = b2 at *;generalize setBits q3 p3 = b3 at *;generalize setBits q4 p4 = b4 at *;generalize setBits q5 p5 = b5 at *;clear hF n0 n1 n2 n3 n4 n5 c0 c1 c2 c3 c4 c5 HSC
 go_enter Tryz.func93, Tryz.ntmps93
 go_wp2_with fail
 have hR1 : ((w.alloc (.cells fs 88)).alloc (.cells noSched 26)).heap[w.heap.size]? = some (.cells fs 88 (0, 0)) := ((Below.refl _ _).alloc (Nat.le_refl _) _ |>.block _ (by simp)).trans (heap_alloc_new w _)
 have hR2 : ((w.alloc (.cells fs 88)).alloc (.cells noSched 26)).heap[w.heap.size + 1]? = some (.cells noSched 26 (0, 0)) := by
  have := heap_alloc_new (w.alloc (.cells fs 88)) (.cells noSched 26);rw [show (w.alloc (.cells fs 88)).heap.size = w.heap.size + 1 by simp] at this;exact this
 have hB : Below w.heap.size w ((w.alloc (.cells fs 88)).alloc (.cells noSched 26)) := ((Below.refl _ _).alloc (Nat.le_refl _) _).alloc (by simp) _;have hN : ((w.alloc (.cells fs 88)).alloc (.cells noSched 26)) = ((w.alloc (.cells fs 88)).alloc (.cells #[.bool false, .int .i64 0, .int .u64 0, .int .u64 0, .int .u64 0, .int .u64 0, .int .u64 0, .int .u64 0] 26)) := rfl;rw [hN] at hR1 hR2 hB
 clear hN;generalize ((w.alloc (.cells fs 88)).alloc (.cells #[.bool false, .int .i64 0, .int .u64 0, .int .u64 0, .int .u64 0, .int .u64 0, .int .u64 0, .int .u64 0] 26)) = w1 at *;refine start_ (n := 20) (S := fun w' => w'.heap[w.heap.size]? = some (.cells fs 88 (0, 0)) ∧ w'.heap[w.heap.size + 1]? = some (.cells noSched 26 (0, 0)) ∧ Below w.heap.size w w') (ds := [19]) #[false, false, false, false, false, false, false, false, false, false, false, false, false, false, false, false, false, false, false, false] (by kernel_rfl) rfl rfl ⟨hR1, hR2, hB.drew⟩ (fun hHeld => ?_);refine pure_ (i := 0) (N := some 3) (v := ?_) (a' := ?_) #[true, false, false, false, false, false, false, false, false, false, false, false, false, false, false, false, false, false, false, false] rfl rfl (by kernel_rfl) (fun _ _ _ h => h) (Or.inl ⟨by rfl, ?_⟩) ?_ ?_;rotate_left
 ·intro w'
  go_simp
  with_reducible rfl
 rotate_left
 ·simp only [Act.put, List.setIfInBounds_toArray, List.set_cons_zero, List.set_cons_succ, i64_w, i32_w];rfl
 refine pure_ (i := 3) (N := some 6) (v := ?_) (a' := ?_) #[true, false, false, true, false, false, false, false, false, false, false, false, false, false, false, false, false, false, false, false] rfl rfl (by kernel_rfl) (fun _ _ _ h => h) (Or.inl ⟨by rfl, ?_⟩) ?_ ?_;rotate_left
 ·intro w'
  go_simp
  with_reducible rfl
 rotate_left
 ·simp only [Act.put, List.setIfInBounds_toArray, List.set_cons_zero, List.set_cons_succ, i64_w, i32_w];rfl
 refine pure_ (i := 6) (N := some 9) (v := ?_) (a' := ?_) #[true, false, false, true, false, false, true, false, false, false, false, false, false, false, false, false, false, false, false, false] rfl rfl (by kernel_rfl) (fun _ _ _ h => h) (Or.inl ⟨by rfl, ?_⟩) ?_ ?_;rotate_left
 ·intro w'
  go_simp
  with_reducible rfl
 rotate_left
 ·simp only [Act.put, List.setIfInBounds_toArray, List.set_cons_zero, List.set_cons_succ, i64_w, i32_w];rfl
 refine pure_ (i := 9) (N := some 12) (v := ?_) (a' := ?_) #[true, false, false, true, false, false, true, false, false, true, false, false, false, false, false, false, false, false, false, false] rfl rfl (by kernel_rfl) (fun _ _ _ h => h) (Or.inl ⟨by rfl, ?_⟩) ?_ ?_;rotate_left
 ·intro w'
  go_simp
  with_reducible rfl
 rotate_left
 ·simp only [Act.put, List.setIfInBounds_toArray, List.set_cons_zero, List.set_cons_succ, i64_w, i32_w];rfl
 refine pure_ (i := 12) (N := some 15) (v := ?_) (a' := ?_) #[true, false, false, true, false, false, true, false, false, true, false, false, true, false, false, false, false, false, false, false] rfl rfl (by kernel_rfl) (fun _ _ _ h => h) (Or.inl ⟨by rfl, ?_⟩) ?_ ?_;rotate_left
 ·intro w'
  go_simp
  with_reducible rfl
 rotate_left
 ·simp only [Act.put, List.setIfInBounds_toArray, List.set_cons_zero, List.set_cons_succ, i64_w, i32_w];rfl
 refine pure_ (i := 15) (N := some 18) (v := ?_) (a' := ?_) #[true, false, false, true, false, false, true, false, false, true, false, false, true, false, false, true, false, false, false, false] rfl rfl (by kernel_rfl) (fun _ _ _ h => h) (Or.inl ⟨by rfl, ?_⟩) ?_ ?_;rotate_left
 ·intro w'
  go_simp
  with_reducible rfl
 rotate_left
 ·simp only [Act.put, List.setIfInBounds_toArray, List.set_cons_zero, List.set_cons_succ, i64_w, i32_w];rfl
 refine take_ (i := 1) (N := some 4) (v := ?_) (a' := ?_) #[true, true, false, true, false, false, true, false, false, true, false, false, true, false, false, true, false, false, false, false] rfl rfl (by kernel_rfl) (fun _ _ _ h => h) (Or.inl ⟨by rfl, ?_⟩) hHeld ?_ ?_;rotate_left
 ·rintro w' ⟨s0, s1, s2⟩;refine exec_load_setM _ _ _ ?_ w.heap.size 0 q0 p0 ?_ ?_ (R0.out _ s0);rotate_left
  ·rfl
  ·rfl
 rotate_left
 ·simp only [Act.put, List.setIfInBounds_toArray, List.set_cons_zero, List.set_cons_succ, i64_w, i32_w];rfl
 refine take_ (i := 4) (N := some 7) (v := ?_) (a' := ?_) #[true, true, false, true, true, false, true, false, false, true, false, false, true, false, false, true, false, false, false, false] rfl rfl (by kernel_rfl) (fun _ _ _ h => h) (Or.inl ⟨by rfl, ?_⟩) hHeld ?_ ?_;rotate_left
 ·rintro w' ⟨s0, s1, s2⟩;refine exec_load_setM _ _ _ ?_ w.heap.size 64 q1 p1 ?_ ?_ (R1.out _ s0);rotate_left
  ·rfl
  ·rfl
 rotate_left
 ·simp only [Act.put, List.setIfInBounds_toArray, List.set_cons_zero, List.set_cons_succ, i64_w, i32_w];rfl
 refine take_ (i := 7) (N := some 10) (v := ?_) (a' := ?_) #[true, true, false, true, true, false, true, true, false, true, false, false, true, false, false, true, false, false, false, false] rfl rfl (by kernel_rfl) (fun _ _ _ h => h) (Or.inl ⟨by rfl, ?_⟩) hHeld ?_ ?_;rotate_left
 ·rintro w' ⟨s0, s1, s2⟩;refine exec_load_setM _ _ _ ?_ w.heap.size 128 q2 p2 ?_ ?_ (R2.out _ s0);rotate_left
  ·rfl
  ·rfl
 rotate_left
 ·simp only [Act.put, List.setIfInBounds_toArray, List.set_cons_zero, List.set_cons_succ, i64_w, i32_w];rfl
 refine take_ (i := 10) (N := some 13) (v := ?_) (a' := ?_) #[true, true, false, true, true, false, true, true, false, true, true, false, true, false, false, true, false, false, false, false] rfl rfl (by kernel_rfl) (fun _ _ _ h => h) (Or.inl ⟨by rfl, ?_⟩) hHeld ?_ ?_;rotate_left
 ·rintro w' ⟨s0, s1, s2⟩;refine exec_load_setM _ _ _ ?_ w.heap.size 192 q3 p3 ?_ ?_ (R3.out _ s0);rotate_left
  ·rfl
  ·rfl
 rotate_left
 ·simp only [Act.put, List.setIfInBounds_toArray, List.set_cons_zero, List.set_cons_succ, i64_w, i32_w];rfl
 refine take_ (i := 13) (N := some 16) (v := ?_) (a' := ?_) #[true, true, false, true, true, false, true, true, false, true, true, false, true, true, false, true, false, false, false, false] rfl rfl (by kernel_rfl) (fun _ _ _ h => h) (Or.inl ⟨by rfl, ?_⟩) hHeld ?_ ?_;rotate_left
 ·rintro w' ⟨s0, s1, s2⟩;refine exec_load_setM _ _ _ ?_ w.heap.size 256 q4 p4 ?_ ?_ (R4.out _ s0);rotate_left
  ·rfl
  ·rfl
 rotate_left
 ·simp only [Act.put, List.setIfInBounds_toArray, List.set_cons_zero, List.set_cons_succ, i64_w, i32_w];rfl
 refine take_ (i := 16) (N := some 19) (v := ?_) (a' := ?_) #[true, true, false, true, true, false, true, true, false, true, true, false, true, true, false, true, true, false, false, false] rfl rfl (by kernel_rfl) (fun _ _ _ h => h) (Or.inl ⟨by rfl, ?_⟩) hHeld ?_ ?_;rotate_left
 ·rintro w' ⟨s0, s1, s2⟩;refine exec_load_setM _ _ _ ?_ w.heap.size 320 q5 p5 ?_ ?_ (R5.out _ s0);rotate_left
  ·rfl
  ·rfl
 rotate_left
 ·simp only [Act.put, List.setIfInBounds_toArray, List.set_cons_zero, List.set_cons_succ, i64_w, i32_w];rfl
 refine one_ (i := 2) (N := some 5) #[true, true, true, true, true, false, true, true, false, true, true, false, true, true, false, true, true, false, false, false] rfl rfl (by kernel_rfl) (by decide) (fun K hK => ?_);refine goes_ Tryz.func140 (by kernel_rfl) rfl #[.agg (setCells q0 p0)] (by rfl) rfl rfl (by simp only [List.map_toArray, List.map_cons, List.map_nil]; rfl) ?_
 with_reducible refine (B0.out _).mono ?_
 rintro e0 x0 ⟨rfl, hb0⟩;refine ⟨_, rfl, ?_⟩;refine hK.out _ _ ⟨(hb0.block _ (Array.getElem?_eq_some_iff.1 hHeld.1).1).trans hHeld.1, (hb0.block _ (Array.getElem?_eq_some_iff.1 hHeld.2.1).1).trans hHeld.2.1, below_of_le hHeld.2.2 hb0⟩ (fun hHeld => ?_);clear hK K;refine norm_ (a' := ?_) ?_ ?_;rotate_left
 ·show Act.put _ (some 5) _ = _
  simp only [Act.put, List.setIfInBounds_toArray, List.set_cons_zero, List.set_cons_succ, i64_w, i32_w];rfl
 refine one_ (i := 5) (N := some 8) #[true, true, true, true, true, true, true, true, false, true, true, false, true, true, false, true, true, false, false, false] rfl rfl (by kernel_rfl) (by decide) (fun K hK => ?_);refine goes_ Tryz.func140 (by kernel_rfl) rfl #[.agg (setCells q1 p1)] (by rfl) rfl rfl (by simp only [List.map_toArray, List.map_cons, List.map_nil]; rfl) ?_
 with_reducible refine (B1.out _).mono ?_
 rintro e1 x1 ⟨rfl, hb1⟩;refine ⟨_, rfl, ?_⟩;refine hK.out _ _ ⟨(hb1.block _ (Array.getElem?_eq_some_iff.1 hHeld.1).1).trans hHeld.1, (hb1.block _ (Array.getElem?_eq_some_iff.1 hHeld.2.1).1).trans hHeld.2.1, below_of_le hHeld.2.2 hb1⟩ (fun hHeld => ?_);clear hK K;refine norm_ (a' := ?_) ?_ ?_;rotate_left
 ·show Act.put _ (some 8) _ = _
  simp only [Act.put, List.setIfInBounds_toArray, List.set_cons_zero, List.set_cons_succ, i64_w, i32_w];rfl
 refine one_ (i := 8) (N := some 11) #[true, true, true, true, true, true, true, true, true, true, true, false, true, true, false, true, true, false, false, false] rfl rfl (by kernel_rfl) (by decide) (fun K hK => ?_);refine goes_ Tryz.func140 (by kernel_rfl) rfl #[.agg (setCells q2 p2)] (by rfl) rfl rfl (by simp only [List.map_toArray, List.map_cons, List.map_nil]; rfl) ?_
 with_reducible refine (B2.out _).mono ?_
 rintro e2 x2 ⟨rfl, hb2⟩;refine ⟨_, rfl, ?_⟩;refine hK.out _ _ ⟨(hb2.block _ (Array.getElem?_eq_some_iff.1 hHeld.1).1).trans hHeld.1, (hb2.block _ (Array.getElem?_eq_some_iff.1 hHeld.2.1).1).trans hHeld.2.1, below_of_le hHeld.2.2 hb2⟩ (fun hHeld => ?_);clear hK K;refine norm_ (a' := ?_) ?_ ?_;rotate_left
 ·show Act.put _ (some 11) _ = _
  simp only [Act.put, List.setIfInBounds_toArray, List.set_cons_zero, List.set_cons_succ, i64_w, i32_w];rfl
 refine one_ (i := 11) (N := some 14) #[true, true, true, true, true, true, true, true, true, true, true, true, true, true, false, true, true, false, false, false] rfl rfl (by kernel_rfl) (by decide) (fun K hK => ?_);refine goes_ Tryz.func140 (by kernel_rfl) rfl #[.agg (setCells q3 p3)] (by rfl) rfl rfl (by simp only [List.map_toArray, List.map_cons, List.map_nil]; rfl) ?_
 with_reducible refine (B3.out _).mono ?_
 rintro e3 x3 ⟨rfl, hb3⟩;refine ⟨_, rfl, ?_⟩;refine hK.out _ _ ⟨(hb3.block _ (Array.getElem?_eq_some_iff.1 hHeld.1).1).trans hHeld.1, (hb3.block _ (Array.getElem?_eq_some_iff.1 hHeld.2.1).1).trans hHeld.2.1, below_of_le hHeld.2.2 hb3⟩ (fun hHeld => ?_);clear hK K;refine norm_ (a' := ?_) ?_ ?_;rotate_left
 ·show Act.put _ (some 14) _ = _
  simp only [Act.put, List.setIfInBounds_toArray, List.set_cons_zero, List.set_cons_succ, i64_w, i32_w];rfl
 refine one_ (i := 14) (N := some 17) #[true, true, true, true, true, true, true, true, true, true, true, true, true, true, true, true, true, false, false, false] rfl rfl (by kernel_rfl) (by decide) (fun K hK => ?_);refine goes_ Tryz.func140 (by kernel_rfl) rfl #[.agg (setCells q4 p4)] (by rfl) rfl rfl (by simp only [List.map_toArray, List.map_cons, List.map_nil]; rfl) ?_
 with_reducible refine (B4.out _).mono ?_
 rintro e4 x4 ⟨rfl, hb4⟩;refine ⟨_, rfl, ?_⟩;refine hK.out _ _ ⟨(hb4.block _ (Array.getElem?_eq_some_iff.1 hHeld.1).1).trans hHeld.1, (hb4.block _ (Array.getElem?_eq_some_iff.1 hHeld.2.1).1).trans hHeld.2.1, below_of_le hHeld.2.2 hb4⟩ (fun hHeld => ?_);clear hK K;refine norm_ (a' := ?_) ?_ ?_;rotate_left
 ·show Act.put _ (some 17) _ = _
  simp only [Act.put, List.setIfInBounds_toArray, List.set_cons_zero, List.set_cons_succ, i64_w, i32_w];rfl
 refine one_ (i := 17) (N := some 20) #[true, true, true, true, true, true, true, true, true, true, true, true, true, true, true, true, true, true, false, false] rfl rfl (by kernel_rfl) (by decide) (fun K hK => ?_);refine goes_ Tryz.func140 (by kernel_rfl) rfl #[.agg (setCells q5 p5)] (by rfl) rfl rfl (by simp only [List.map_toArray, List.map_cons, List.map_nil]; rfl) ?_
 with_reducible refine (B5.out _).mono ?_
 rintro e5 x5 ⟨rfl, hb5⟩;refine ⟨_, rfl, ?_⟩;refine hK.out _ _ ⟨(hb5.block _ (Array.getElem?_eq_some_iff.1 hHeld.1).1).trans hHeld.1, (hb5.block _ (Array.getElem?_eq_some_iff.1 hHeld.2.1).1).trans hHeld.2.1, below_of_le hHeld.2.2 hb5⟩ (fun hHeld => ?_);clear hK K;refine norm_ (a' := ?_) ?_ ?_;rotate_left
 ·show Act.put _ (some 20) _ = _
  simp only [Act.put, List.setIfInBounds_toArray, List.set_cons_zero, List.set_cons_succ, i64_w, i32_w];rfl
 refine pure_ (i := 18) (N := some 21) (v := ?_) (a' := ?_) #[true, true, true, true, true, true, true, true, true, true, true, true, true, true, true, true, true, true, true, false] rfl rfl (by kernel_rfl) (fun _ _ _ h => h) (Or.inl ⟨by rfl, ?_⟩) ?_ ?_;rotate_left
 ·intro w'
  go_simp
  with_reducible rfl
 rotate_left
 ·simp only [Act.put, List.setIfInBounds_toArray, List.set_cons_zero, List.set_cons_succ, i64_w, i32_w];rfl
 refine last_ (i := 19) (N := none) #[true, true, true, true, true, true, true, true, true, true, true, true, true, true, true, true, true, true, true, true] rfl rfl (by kernel_rfl) (by decide) (fun K hK => ?_);rw [if_pos (by rfl)];refine wp_store_row 26 _ _ rfl (w.heap.size + 1) #[.bool false, .int .i64 0, .int .u64 b0, .int .u64 b1, .int .u64 b2, .int .u64 b3, .int .u64 b4, .int .u64 b5] rfl rfl 26 noSched hHeld.2.1 schedSize rfl (by simp [Value.oneCell']) ?_;refine hK.out _ _ ?_;clear hK K;refine done_ (by kernel_rfl) ?_
 go_wp2_with fail
 refine bodyPost_ret (v := .agg #[.bool false, .int .i64 0, .int .u64 b0, .int .u64 b1, .int .u64 b2, .int .u64 b3, .int .u64 b4, .int .u64 b5]) ?_ rfl ⟨rfl, ?_⟩
 ·exact results_cell_row (fn := Tryz.f93) (p := 2) rfl _ _ (w.heap.size + 1) _ _ _ _ rfl (setRow_heap _ _ _ _ _ _ hHeld.2.1) Tryz.underlying26 rfl (by rw [schedSize]; rfl)
 ·exact below_setRow hHeld.2.2 (by omega) _
set_option maxRecDepth 100000 in
theorem scheduleOf_any (cs : Array Value) (g : Got) (hn : cs.size = 387) (hM : MeanOf cs g) (w : World) :
  Calls Tryz.prog 44 #[.agg cs] w fun e w' => e = .returned (.agg (gotCells (some g))) ∧ Below w.heap.size w w' := by
 have hbx := run_box_M cs
 cases g with
 | delay d =>
  obtain ⟨h0, h1⟩ := hM;unfold gotCells
  go_enter Tryz.func44, Tryz.ntmps44
  go_upto_region 1 with fail
  have hR1 : ((w.alloc (.cells cs 99)).alloc (.cells noSched 26)).heap[w.heap.size]? = some (.cells cs 99 (0, 0)) := ((Below.refl _ _).alloc (Nat.le_refl _) _ |>.block _ (by simp)).trans (heap_alloc_new w _)
  have hR2 : ((w.alloc (.cells cs 99)).alloc (.cells noSched 26)).heap[w.heap.size + 1]? = some (.cells noSched 26 (0, 0)) := by
   have := heap_alloc_new (w.alloc (.cells cs 99)) (.cells noSched 26);rw [show (w.alloc (.cells cs 99)).heap.size = w.heap.size + 1 by simp] at this;exact this
  have hB : Below w.heap.size w ((w.alloc (.cells cs 99)).alloc (.cells noSched 26)) := ((Below.refl _ _).alloc (Nat.le_refl _) _).alloc (by simp) _;have hN : ((w.alloc (.cells cs 99)).alloc (.cells noSched 26)) = ((w.alloc (.cells cs 99)).alloc (.cells #[.bool false, .int .i64 0, .int .u64 0, .int .u64 0, .int .u64 0, .int .u64 0, .int .u64 0, .int .u64 0] 26)) := rfl;rw [hN] at hR1 hR2 hB
  clear hN;generalize ((w.alloc (.cells cs 99)).alloc (.cells #[.bool false, .int .i64 0, .int .u64 0, .int .u64 0, .int .u64 0, .int .u64 0, .int .u64 0, .int .u64 0] 26)) = w1 at *;have c0 : w1.cell? ⟨w.heap.size, 0, none⟩ = some (.bool true) := (cell_of_row _ _ _ _ _ _ hR1).trans h0;have c1 : w1.cell? ⟨w.heap.size, 1, none⟩ = some (.int .i64 d) := (cell_of_row _ _ _ _ _ _ hR1).trans h1
  go_wp2_with (refine wpList_store_sched rfl _ _ rfl (w.heap.size + 1) (delayCells d) noSched rfl rfl rfl (delay_one d) rfl hR2 ?_)
  refine bodyPost_ret (v := .agg (delayCells d)) ?_ rfl ⟨rfl, ?_⟩
  ·exact results_cell_row (fn := Tryz.f44) (p := 2) rfl _ _ (w.heap.size + 1) _ _ _ _ rfl (setRow_heap _ _ _ _ _ _ hR2) Tryz.underlying26 rfl (by rw [schedSize]; rfl)
  ·exact below_setRow hB (by omega) _
 | bits l =>
  obtain ⟨h0, fs, hF, hj⟩ := hM;have HS := Lib.hid (fun w' => cronSchedule_any fs l hF w');have hfn := hF.size;have HRG : Hid (∀ w' : World, w'.heap[w.heap.size]? = some (.cells cs 99 (0, 0)) → w'.rangeAt w.heap.size 2 fs.toList) := Lib.hid fun w' h => range_row h _ _ (fun j hjl => by rw [Array.length_toList, hfn] at hjl; rw [Array.getElem?_toList]; exact hj j hjl)
  have hfl : fs.toList.toArray = fs := by simp
  unfold gotCells
  go_enter Tryz.func44, Tryz.ntmps44
  go_upto_region 1 with fail
  have hR1 : ((w.alloc (.cells cs 99)).alloc (.cells noSched 26)).heap[w.heap.size]? = some (.cells cs 99 (0, 0)) := ((Below.refl _ _).alloc (Nat.le_refl _) _ |>.block _ (by simp)).trans (heap_alloc_new w _)
  have hR2 : ((w.alloc (.cells cs 99)).alloc (.cells noSched 26)).heap[w.heap.size + 1]? = some (.cells noSched 26 (0, 0)) := by
   have := heap_alloc_new (w.alloc (.cells cs 99)) (.cells noSched 26);rw [show (w.alloc (.cells cs 99)).heap.size = w.heap.size + 1 by simp] at this;exact this
  have hB : Below w.heap.size w ((w.alloc (.cells cs 99)).alloc (.cells noSched 26)) := ((Below.refl _ _).alloc (Nat.le_refl _) _).alloc (by simp) _;have hN : ((w.alloc (.cells cs 99)).alloc (.cells noSched 26)) = ((w.alloc (.cells cs 99)).alloc (.cells #[.bool false, .int .i64 0, .int .u64 0, .int .u64 0, .int .u64 0, .int .u64 0, .int .u64 0, .int .u64 0] 26)) := rfl;rw [hN] at hR1 hR2 hB
  clear hN;generalize ((w.alloc (.cells cs 99)).alloc (.cells #[.bool false, .int .i64 0, .int .u64 0, .int .u64 0, .int .u64 0, .int .u64 0, .int .u64 0, .int .u64 0] 26)) = w1 at *;have c0 : w1.cell? ⟨w.heap.size, 0, none⟩ = some (.bool false) := (cell_of_row _ _ _ _ _ _ hR1).trans h0;have HR := Lib.hid (HRG.out _ hR1);have HR2 := Lib.hid hR2;have HB := Lib.hid hB;clear h0 hj hF hR1 hR2 hB HRG
  go_wp2_with (refine wpList_load_mid rfl 88 _ rfl w.heap.size 2 rfl fs.toList _ HR.out Tryz.underlying88 rfl (by rw [sizeF, Array.length_toList, hfn]) ?_; rw [hfl])
  refine (HS.out _).mono ?_;rintro e w2 ⟨rfl, hb⟩;have hR3 := (hb.block _ (Array.getElem?_eq_some_iff.1 HR2.out).1).trans HR2.out;have HB2 := Lib.hid (below_of_le HB.out hb);clear hb HB HR HR2
  go_wp2_with (refine wpList_store_sched rfl _ _ rfl (w.heap.size + 1) (schedCells l) noSched rfl rfl rfl (sched_one l) rfl hR3 ?_)
  refine bodyPost_ret (v := .agg (schedCells l)) ?_ rfl ⟨rfl, ?_⟩
  ·exact results_cell_row (fn := Tryz.f44) (p := 2) rfl _ _ (w.heap.size + 1) _ _ _ _ rfl (setRow_heap _ _ _ _ _ _ hR3) Tryz.underlying26 rfl (by rw [schedSize]; rfl)
  ·exact below_setRow HB2.out (by omega) _
def MeanS (w : World) (r : Option Got) (e : Ending) (w' : World) : Prop :=
 (∃ v : Int, e = .returned (.tuple #[.agg (if v = 1 then gotCells r else noSched), .int .i64 v]) ∧ (v = 0 ∨ v = 1 ∨ v = 2) ∧ (v = 0 → r = none) ∧ (v = 1 → r.isSome = true)) ∧ Below w.heap.size w w'
set_option maxRecDepth 100000 in
set_option maxHeartbeats 4000000 in
theorem cronMean_any (o : Nat) (ho : o < 512) (h2 : twoB o = false) (l : List UInt8) (hl : l.length ≤ 4294967296) (hsp : zoneZ (ba l) ≠ 0 → (32 : UInt8) ∈ l) (w : World) :
  Calls Tryz.prog 10 #[.int .i64 o, .string (ba l)] w (MeanS w (progS o (ba l))) := by
 have HP := Lib.hid (fun w' => parseSays_any o ho h2 l hl hsp w');have HSO := Lib.hid (fun cs g hn hM w' => scheduleOf_any cs g hn hM w');generalize progS o (ba l) = RG at *;clear hl hsp h2
 go_enter Tryz.func10, Tryz.ntmps10
 go_wp2_with fail
 have hrow : (w.alloc (.cells noSched 26)).heap[w.heap.size]? = some (.cells noSched 26 (0, 0)) := heap_alloc_new w _;refine (HP.out _).mono ?_;rintro e w1 ⟨⟨cs, v, rfl, hn, h1, hv, hv0, hv1⟩, hb1⟩;have hrow1 := (hb1.block _ (by simp)).trans hrow;have hB1 : Below w.heap.size w w1 := ((Below.refl _ _).alloc (Nat.le_refl _) _).trans (hb1.mono (by simp));have hlt1 : w.heap.size < w1.heap.size := (Array.getElem?_eq_some_iff.1 hrow1).1;have HROW1 := Lib.hid hrow1;have HB1 := Lib.hid hB1;clear hrow hb1 hrow1 hB1 HP
 by_cases h1v : v = 1
 ·subst h1v;obtain ⟨g, e1, e2⟩ := hv1 rfl;have HS := Lib.hid (fun w' => HSO.out cs g hn e2 w');have HRG : Hid (RG = some g) := Lib.hid e1;clear hv hv0 hv1 e1 e2 HSO
  go_wp2_with (first | (refine wpList_store_row rfl 99 _ _ rfl w1.heap.size cs rfl rfl _ _ (heap_alloc_new w1 _) (by rw [sizeM, hn]) (Eq.trans (b := 387) (by kernel_rfl) hn.symm) h1 ?_; generalize hW : World.setRow (World.alloc w1 _) _ _ = wL; have HWL := Lib.hid (show wL.heap[w1.heap.size]? = some (.cells cs 99 (0, 0)) ∧ wL.heap[w.heap.size]? = some (.cells noSched 26 (0, 0)) ∧ Below w.heap.size w wL by rw [← hW]; exact ⟨setRow_heap _ _ _ _ _ _ (heap_alloc_new w1 _), (setRow_other _ _ _ _ (by omega)).trans ((((Below.refl w1.heap.size w1).alloc (Nat.le_refl _) _).block _ hlt1).trans HROW1.out), below_setRow (HB1.out.alloc HB1.out.size _) HB1.out.size _⟩); clear hW) | (refine wpList_load_row rfl 99 _ rfl w1.heap.size rfl _ _ _ _ HWL.out.1 Tryz.underlying99 rfl (by rw [sizeM, hn]) ?_))
  refine (HS.out _).mono ?_;rintro e w3 ⟨rfl, hb3⟩;have hrow3 := (hb3.block _ (Array.getElem?_eq_some_iff.1 HWL.out.2.1).1).trans HWL.out.2.1;have HB3 := Lib.hid (below_of_le HWL.out.2.2 hb3);clear hb3 HWL HB1 HROW1
  go_wp2_with (refine wpList_store_sched rfl _ _ rfl w.heap.size (gotCells (some g)) noSched rfl rfl (got_size _) (got_one _) rfl hrow3 ?_)
  refine bodyPost_ret (v := .tuple #[.agg (gotCells (some g)), .int .i64 1]) ?_ rfl ⟨⟨1, ?_, .inr (.inl rfl), fun h => (by omega), fun _ => by rw [HRG.out]; rfl⟩, below_setRow HB3.out (Nat.le_refl _) _⟩
  ·exact results_sched (fn := Tryz.f10) (p := 4) (u := 5) rfl _ _ w.heap.size _ (got_size _) rfl (setRow_heap _ _ _ _ _ _ hrow3)
  ·rw [HRG.out, if_pos rfl]
 ·have hne : (v != 1) = true := by simpa using h1v
  have HV : Hid ((v = 0 ∨ v = 1 ∨ v = 2) ∧ (v = 0 → RG = none) ∧ v ≠ 1) := Lib.hid ⟨hv, hv0, h1v⟩;clear hv hv0 hv1 h1v HSO
  go_wp2_with (first | (refine wpList_store_row rfl 99 _ _ rfl w1.heap.size cs rfl rfl _ _ (heap_alloc_new w1 _) (by rw [sizeM, hn]) (Eq.trans (b := 387) (by kernel_rfl) hn.symm) h1 ?_; generalize hW : World.setRow (World.alloc w1 _) _ _ = wL; have HWL := Lib.hid (show wL.heap[w1.heap.size]? = some (.cells cs 99 (0, 0)) ∧ wL.heap[w.heap.size]? = some (.cells noSched 26 (0, 0)) ∧ Below w.heap.size w wL by rw [← hW]; exact ⟨setRow_heap _ _ _ _ _ _ (heap_alloc_new w1 _), (setRow_other _ _ _ _ (by omega)).trans ((((Below.refl w1.heap.size w1).alloc (Nat.le_refl _) _).block _ hlt1).trans HROW1.out), below_setRow (HB1.out.alloc HB1.out.size _) HB1.out.size _⟩); clear hW) | (refine wpList_store_sched rfl _ _ rfl w.heap.size noSched noSched rfl rfl rfl noSched_one rfl HWL.out.2.1 ?_))
  refine bodyPost_ret (v := .tuple #[.agg noSched, .int .i64 v]) ?_ rfl ⟨⟨v, ?_, HV.out.1, HV.out.2.1, fun h => absurd h HV.out.2.2⟩, below_setRow HWL.out.2.2 (Nat.le_refl _) _⟩
  ·exact results_sched (fn := Tryz.f10) (p := 4) (u := 5) rfl _ _ w.heap.size _ rfl rfl (setRow_heap _ _ _ _ _ _ HWL.out.2.1)
  ·rw [if_neg HV.out.2.2]
end Go.Proofs.YtmecbmgfacpecaaGreatDoor.Cron
namespace Go.Proofs.YtmecbmgfacpecaaGreatDoor.Cron
open Go Go.RowKit Go.Proofs.YtmecbmgfacpecaaGreatDoor.Text Go.Proofs.YtmecbmgfacpecaaGreatDoor.Bits Go.Proofs.YtmecbmgfacpecaaGreatDoorW.PrintWords Go.Proofs.YtmecbmgfacpecaaGreatDoorW.PrintLast Go.Proofs.YtmecbmgfacpecaaGreatDoorW.PrintMore Go.Proofs.YtmecbmgfacpecaaGreatDoor.Pr
set_option linter.unusedVariables false
set_option linter.unusedSimpArgs false
theorem got_form (r : Option Got) : ∃ (b : Bool) (d c0 c1 c2 c3 c4 c5 : Int), gotCells r = #[.bool b, .int .i64 d, .int .u64 c0, .int .u64 c1, .int .u64 c2, .int .u64 c3, .int .u64 c4, .int .u64 c5] := by
 cases r with
 | none => exact ⟨_, _, _, _, _, _, _, _, rfl⟩
 | some x =>
  cases x with
  | bits l => exact ⟨_, _, _, _, _, _, _, _, rfl⟩
  | delay d => exact ⟨_, _, _, _, _, _, _, _, rfl⟩
def OptAns (o : Int) (w : World) (e : Ending) (w' : World) : Prop := ∃ b, e = .returned (.bool b) ∧ (b = true → ∃ n : Nat, n < 512 ∧ o = n ∧ twoB n = false) ∧ Below w.heap.size w w'
theorem options_any (o : Int) (w : World) :
  Calls Tryz.prog 8 #[.int .i64 o] w (OptAns o w) := by
 by_cases h0 : 0 ≤ o
 ·by_cases h1 : o < 512
  ·obtain ⟨n, rfl⟩ : ∃ n : Nat, o = n := ⟨o.toNat, by omega⟩
   have hn : n < 512 := by omega
   have HT := Lib.hid (fun w' => spec_CronTwoOptional.calls n (twoB n) w' (two_f ⟨n, hn⟩));have HN : Hid (twoB n = false → ∃ m : Nat, m < 512 ∧ (n : Int) = m ∧ twoB m = false) := Lib.hid fun h => ⟨n, hn, rfl, h⟩
   have d0 : decide ((0 : Int) ≤ (n : Int)) = true := decide_eq_true h0;have d1 : decide ((n : Int) < 512) = true := decide_eq_true h1;generalize twoB n = b2 at *
   go_enter Tryz.func8, Tryz.ntmps8
   go_wp2_with fail
   refine (HT.out _).mono ?_;rintro e w1 ⟨rfl, hd⟩
   go_wp2_with fail
   go_ret
   refine ⟨!b2, by first | rfl | (cases b2 <;> rfl), fun h => HN.out (by simpa using h), by first | exact hd | exact hd.below⟩
  ·have d0 : decide ((0 : Int) ≤ o) = true := decide_eq_true h0;have d1 : decide (o < 512) = false := decide_eq_false h1
   go_enter Tryz.func8, Tryz.ntmps8
   go_wp2_with fail
   go_ret
   exact ⟨false, rfl, fun h => (by cases h), Below.refl _ _⟩
 ·have d0 : decide ((0 : Int) ≤ o) = false := decide_eq_false h0
  go_enter Tryz.func8, Tryz.ntmps8
  go_wp2_with fail
  go_ret
  exact ⟨false, rfl, fun h => (by cases h), Below.refl _ _⟩
set_option maxRecDepth 100000 in
set_option maxHeartbeats 4000000 in
theorem lawParse_any (o : Int) (s : ByteArray) (w : World) (hga : GA w) :
  Calls Tryz.prog 3 #[.int .i64 o, .string s] w fun e w' => e = .returned (.bool true) ∧ Below w.heap.size w w' := by
 by_cases hbig : (s.size : Int) > 2147483647
 ·have hd : decide ((s.size : Int) > 2147483647) = true := decide_eq_true hbig
  go_enter Tryz.func3, Tryz.ntmps3
  go_wp2_with fail
  go_ret
  exact ⟨rfl, Below.refl _ _⟩
 have hd : decide ((s.size : Int) > 2147483647) = false := decide_eq_false hbig;have HO := Lib.hid (fun w' => options_any o w');obtain ⟨l, rfl⟩ : ∃ l, s = ba l := ⟨s.data.toList, (ba_of s).symm⟩
 have hsz := ba_size l;have hl : l.length ≤ 4294967296 := by omega
 have HNA := Lib.hid (fun w' => noAnswer_any l hl w');have HGA : Hid (∀ w' : World, Below w.heap.size w w' → GA w') := Lib.hid fun w' h => hga.below h
 go_enter Tryz.func3, Tryz.ntmps3
 go_wp2_with fail
 refine (HO.out _).mono ?_;rintro e w1 ⟨b, rfl, hb, hb1⟩
 cases b with
 | false =>
  go_wp2_with fail
  go_ret
  exact ⟨rfl, hb1⟩
 | true =>
  obtain ⟨n, hn, rfl, h2⟩ := hb rfl
  by_cases h6 : ((ba l).size : Int) > 65536
  ·have hd6 : decide (((ba l).size : Int) > 65536) = true := decide_eq_true h6
   go_wp2_with fail
   go_ret
   exact ⟨rfl, hb1⟩
  have hd6 : decide (((ba l).size : Int) > 65536) = false := decide_eq_false h6
  go_wp2_with fail
  refine (HNA.out _).mono ?_;rintro e w2 ⟨rfl, hb2⟩;have HB2 := Lib.hid (below_of_le hb1 hb2);clear hb1 hb2
  by_cases hno : (!spaceIn (ba l) && decide (0 < zoneZ (ba l))) = true
  ·rw [hno]
   go_wp2_with fail
   go_ret
   exact ⟨rfl, HB2.out⟩
  have hsp : zoneZ (ba l) ≠ 0 → (32 : UInt8) ∈ l := fun hz => by
   have : spaceIn (ba l) = true := by
    cases h : spaceIn (ba l) with
    | true => rfl
    | false =>
     rw [h, decide_eq_true (show 0 < zoneZ (ba l) by omega)] at hno;exact absurd rfl hno
   have := spaceIn_mem this;rw [ba_list] at this;exact this
  have HM := Lib.hid (fun w' => cronMean_any n hn h2 l hl hsp w');have HC := Lib.hid (fun w' h => parseCronG_any n hn (ba l) (by rw [hsz]; exact hl) (fun hz => by rw [ba_list]; exact hsp hz) w' h);have hcs : cronS n (ba l) = progS n (ba l) := by unfold cronS; rw [if_neg (by rw [h2]; simp)]
  rw [hcs] at HC;rw [show (!spaceIn (ba l) && decide (0 < zoneZ (ba l))) = false by simpa using hno];clear hsp hcs hno HNA HO;generalize progS n (ba l) = RG at *;obtain ⟨b0, d0, c0, c1, c2, c3, c4, c5, hg⟩ := got_form RG;unfold CronGAns at HC;unfold MeanS at HM;rw [hg] at HC HM
  have HNG : Hid (RG = none → b0 = false ∧ d0 = 0 ∧ c0 = 0 ∧ c1 = 0 ∧ c2 = 0 ∧ c3 = 0 ∧ c4 = 0 ∧ c5 = 0) := Lib.hid fun h => by
   rw [h] at hg;unfold gotCells noSched at hg;simp only [Array.mk.injEq, List.cons.injEq, Value.bool.injEq, Value.int.injEq, true_and, and_true] at hg;obtain ⟨a1, a2, a3, a4, a5, a6, a7, a8⟩ := hg;exact ⟨a1.symm, a2.symm, a3.symm, a4.symm, a5.symm, a6.symm, a7.symm, a8.symm⟩
  clear hg h2
  go_wp2_with fail
  refine (HM.out _).mono ?_;rintro e w3 ⟨⟨v, rfl, hv, hv0, hv1⟩, hb3⟩;have HB3 := Lib.hid (below_of_le HB2.out hb3);clear hb3 HB2
  by_cases h1 : v = 1
  ·subst h1;have hsome := hv1 rfl;rw [if_pos rfl];have HRD := Lib.hid (fun w' => laws_cronReads.calls b0 d0 c0 c1 c2 c3 c4 c5 true b0 d0 c0 c1 c2 c3 c4 c5 1 true w' (by simp [laws_cronReads.f]));rw [hsome] at HC;clear hv hv0 hv1 HNG hsome
   go_wp2_with fail
   have hw0 : ((w3.alloc (.cells #[.bool b0, .int .i64 d0, .int .u64 c0, .int .u64 c1, .int .u64 c2, .int .u64 c3, .int .u64 c4, .int .u64 c5] 26))).heap[w3.heap.size]? = some (.cells #[.bool b0, .int .i64 d0, .int .u64 c0, .int .u64 c1, .int .u64 c2, .int .u64 c3, .int .u64 c4, .int .u64 c5] 26 (0, 0)) := heap_alloc_new w3 _;refine (HC.out _ (HGA.out _ (HB3.out.alloc HB3.out.size _))).mono ?_;rintro e w4 ⟨rfl, hb4⟩;have hw4 := (hb4.block _ (by simp)).trans hw0;have HW4 : Hid (∀ o : Obj, (w4.alloc o).heap[w3.heap.size]? = some (.cells #[.bool b0, .int .i64 d0, .int .u64 c0, .int .u64 c1, .int .u64 c2, .int .u64 c3, .int .u64 c4, .int .u64 c5] 26 (0, 0))) := Lib.hid fun o => ((Below.refl w4.heap.size w4).alloc (Nat.le_refl _) o |>.block _ (Array.getElem?_eq_some_iff.1 hw4).1).trans hw4
   have HB4 := Lib.hid (below_of_le (HB3.out.alloc HB3.out.size _) hb4);clear hw0 hw4 hb4
   go_wp2_with (first | (refine wpList_load_row rfl 26 _ rfl w3.heap.size rfl _ _ _ _ (HW4.out _) Tryz.underlying26 rfl (by rw [schedSize]; rfl) ?_))
   refine (HRD.out _).mono ?_;rintro e w5 ⟨rfl, hd5⟩
   go_wp2_with fail
   go_ret
   exact ⟨rfl, below_of_le (HB4.out.alloc HB4.out.size _) (by first | exact hd5 | exact hd5.below)⟩
  ·rw [if_neg h1]
   have hf : ∃ r, laws_cronReads.f b0 d0 c0 c1 c2 c3 c4 c5 RG.isSome false 0 0 0 0 0 0 0 v = some r ∧ r = true := by
    rcases hv with rfl | rfl | rfl
    ·have hn := hv0 rfl;obtain ⟨rfl, rfl, rfl, rfl, rfl, rfl, rfl, rfl⟩ := HNG.out hn;rw [hn];exact ⟨_, rfl, rfl⟩
    ·exact absurd rfl h1
    ·refine ⟨true, ?_, rfl⟩;unfold laws_cronReads.f;rw [if_neg (by decide), if_neg (by decide)]
   obtain ⟨r, hr, rfl⟩ := hf;have HRD := Lib.hid (fun w' => laws_cronReads.calls b0 d0 c0 c1 c2 c3 c4 c5 RG.isSome false 0 0 0 0 0 0 0 v true w' hr);unfold noSched;clear hv hv0 hv1 HNG hr h1;generalize RG.isSome = ok at *
   go_wp2_with fail
   have hw0 : ((w3.alloc (.cells #[.bool false, .int .i64 0, .int .u64 0, .int .u64 0, .int .u64 0, .int .u64 0, .int .u64 0, .int .u64 0] 26))).heap[w3.heap.size]? = some (.cells #[.bool false, .int .i64 0, .int .u64 0, .int .u64 0, .int .u64 0, .int .u64 0, .int .u64 0, .int .u64 0] 26 (0, 0)) := heap_alloc_new w3 _;refine (HC.out _ (HGA.out _ (HB3.out.alloc HB3.out.size _))).mono ?_;rintro e w4 ⟨rfl, hb4⟩;have hw4 := (hb4.block _ (by simp)).trans hw0;have HW4 : Hid (∀ o : Obj, (w4.alloc o).heap[w3.heap.size]? = some (.cells #[.bool false, .int .i64 0, .int .u64 0, .int .u64 0, .int .u64 0, .int .u64 0, .int .u64 0, .int .u64 0] 26 (0, 0))) := Lib.hid fun o => ((Below.refl w4.heap.size w4).alloc (Nat.le_refl _) o |>.block _ (Array.getElem?_eq_some_iff.1 hw4).1).trans hw4
   have HB4 := Lib.hid (below_of_le (HB3.out.alloc HB3.out.size _) hb4);clear hw0 hw4 hb4
   go_wp2_with (first | (refine wpList_load_row rfl 26 _ rfl w3.heap.size rfl _ _ _ _ (HW4.out _) Tryz.underlying26 rfl (by rw [schedSize]; rfl) ?_))
   refine (HRD.out _).mono ?_;rintro e w5 ⟨rfl, hd5⟩
   go_wp2_with fail
   go_ret
   exact ⟨rfl, below_of_le (HB4.out.alloc HB4.out.size _) (by first | exact hd5 | exact hd5.below)⟩
end Go.Proofs.YtmecbmgfacpecaaGreatDoor.Cron
namespace Go.Proofs.YtmecbmgfacpecaaGreatDoor.Cron
open Go Go.RowKit Go.Proofs.YtmecbmgfacpecaaGreatDoor.Cal
set_option linter.unusedVariables false
theorem tLead : (Tryz.prog.globals[4]?).map (·.type) = some 112 := by kernel_rfl
theorem tLocation : (Tryz.prog.globals[0]?).map (·.type) = some 112 := by kernel_rfl
def u8ren : Go.Shelf.Ren := ⟨fun n => n, fun | 5 => 5 | 119 => 323 | 138 => 325 | 139 => 326 | n => n, fun | 3 => 2 | 4 => 3 | n => n⟩
theorem u8types : Go.Proofs.U8Types Tryz.prog u8ren := ⟨Tryz.underlying5, Tryz.underlying323, Tryz.underlying325, Tryz.underlying326⟩
theorem u8extra : Go.Proofs.U8Extra Tryz.prog u8ren := ⟨by kernel_rfl, by kernel_rfl, by kernel_rfl, by kernel_rfl, by kernel_rfl, by kernel_rfl, by kernel_rfl⟩
theorem pinned_first : Go.Pinned.utf8First = Lib.firstData := by kernel_rfl
theorem gu_of_met {laid : List (String × DataW Unit)} {w : World} (h : laidMet Tryz.prog laid w) (h1 : ("unicode/utf8.first", Go.Pinned.utf8First) ∈ laid) (h2 : ("unicode/utf8.acceptRanges", Lib.acceptData) ∈ laid) : GU w := by
 rw [pinned_first] at h1;exact Go.Proofs.utf8Tabs_of_readsT u8types u8extra (Lib.laidMet.reads h h1) (Lib.laidMet.reads h h2)
theorem accept_same : (Rows.laid_unicode_utf8_acceptRanges : DataW Unit) = Lib.acceptData := by kernel_rfl
theorem ga_of_met {laid : List (String × DataW Unit)} {w : World} {n1 n2 n3 n4 : String} {d1 d2 d3 d4 : DataW Unit} (h : laidMet Tryz.prog laid w) (h1 : ("strconv.ErrSyntax", DataW.iface n1 d1) ∈ laid) (h2 : ("strconv.ErrRange", DataW.iface n2 d2) ∈ laid)
  (h3 : ("pub-timebook/pub/gotime.errLeadingInt", DataW.iface n3 d3) ∈ laid) (h4 : ("pub-timebook/pub/gotime.errLocation", DataW.iface n4 d4) ∈ laid) (h5 : ("unicode/utf8.first", Go.Pinned.utf8First) ∈ laid) (h6 : ("unicode/utf8.acceptRanges", (Rows.laid_unicode_utf8_acceptRanges : DataW Unit)) ∈ laid) : GA w :=
 ⟨g_of_met h h1 h2, sentinel_reads gLead tLead Tryz.underlying112 (Lib.laidMet.reads h h3), sentinel_reads gLocation tLocation Tryz.underlying112 (Lib.laidMet.reads h h4), gu_of_met h h5 (by rw [← accept_same]; exact h6)⟩
theorem parse_walk (a0 : Int) (a1 : ByteArray) (w0 : (Lit.int .i64 a0).wf = true) (w1 : a1.size ≤ 140737488351232) (W : World) (hL : laidMetH Tryz.prog Rows.fnCronParseRow.laid W) :
  Calls Tryz.prog 3 #[.int .i64 a0, .string a1] W fun e w' => e = .returned (.bool true) ∧ Below W.heap.size W w' := by
 rw [MakeChecks.laidMetH_plain _ _ _ (by kernel_rfl)] at hL;exact lawParse_any a0 a1 W (ga_of_met hL (by first | exact List.mem_of_getElem? (i := 0) rfl | exact List.mem_of_getElem? (i := 1) rfl | exact List.mem_of_getElem? (i := 2) rfl | exact List.mem_of_getElem? (i := 3) rfl | exact List.mem_of_getElem? (i := 4) rfl | exact List.mem_of_getElem? (i := 5) rfl | exact List.mem_of_getElem? (i := 6) rfl | exact List.mem_of_getElem? (i := 7) rfl | exact List.mem_of_getElem? (i := 8) rfl | exact List.mem_of_getElem? (i := 9) rfl) (by first | exact List.mem_of_getElem? (i := 0) rfl | exact List.mem_of_getElem? (i := 1) rfl | exact List.mem_of_getElem? (i := 2) rfl | exact List.mem_of_getElem? (i := 3) rfl | exact List.mem_of_getElem? (i := 4) rfl | exact List.mem_of_getElem? (i := 5) rfl | exact List.mem_of_getElem? (i := 6) rfl | exact List.mem_of_getElem? (i := 7) rfl | exact List.mem_of_getElem? (i := 8) rfl | exact List.mem_of_getElem? (i := 9) rfl) (by first | exact List.mem_of_getElem? (i := 0) rfl | exact List.mem_of_getElem? (i := 1) rfl | exact List.mem_of_getElem? (i := 2) rfl | exact List.mem_of_getElem? (i := 3) rfl | exact List.mem_of_getElem? (i := 4) rfl | exact List.mem_of_getElem? (i := 5) rfl | exact List.mem_of_getElem? (i := 6) rfl | exact List.mem_of_getElem? (i := 7) rfl | exact List.mem_of_getElem? (i := 8) rfl | exact List.mem_of_getElem? (i := 9) rfl) (by first | exact List.mem_of_getElem? (i := 0) rfl | exact List.mem_of_getElem? (i := 1) rfl | exact List.mem_of_getElem? (i := 2) rfl | exact List.mem_of_getElem? (i := 3) rfl | exact List.mem_of_getElem? (i := 4) rfl | exact List.mem_of_getElem? (i := 5) rfl | exact List.mem_of_getElem? (i := 6) rfl | exact List.mem_of_getElem? (i := 7) rfl | exact List.mem_of_getElem? (i := 8) rfl | exact List.mem_of_getElem? (i := 9) rfl) (by first | exact List.mem_of_getElem? (i := 0) rfl | exact List.mem_of_getElem? (i := 1) rfl | exact List.mem_of_getElem? (i := 2) rfl | exact List.mem_of_getElem? (i := 3) rfl | exact List.mem_of_getElem? (i := 4) rfl | exact List.mem_of_getElem? (i := 5) rfl | exact List.mem_of_getElem? (i := 6) rfl | exact List.mem_of_getElem? (i := 7) rfl | exact List.mem_of_getElem? (i := 8) rfl | exact List.mem_of_getElem? (i := 9) rfl) (by first | exact List.mem_of_getElem? (i := 0) rfl | exact List.mem_of_getElem? (i := 1) rfl | exact List.mem_of_getElem? (i := 2) rfl | exact List.mem_of_getElem? (i := 3) rfl | exact List.mem_of_getElem? (i := 4) rfl | exact List.mem_of_getElem? (i := 5) rfl | exact List.mem_of_getElem? (i := 6) rfl | exact List.mem_of_getElem? (i := 7) rfl | exact List.mem_of_getElem? (i := 8) rfl | exact List.mem_of_getElem? (i := 9) rfl))
end Go.Proofs.YtmecbmgfacpecaaGreatDoor.Cron
