/- Lemmas and walks on the way to the law, merged by wip/tools/pack.py: CronField, FineField, Fine, WordsEx. Conditions: none. -/
import Derived.Test.YtmecbmgfacpecaaGreatDoorGrL
import Derived.Test.YtmecbmgfacpecaaGreatDoorPrA
import Derived.Test.YtmecbmgfacpecaaGreatDoorGrK
namespace Go.Proofs.YtmecbmgfacpecaaGreatDoor.Cron
open Go Go.RowKit Go.Proofs.YtmecbmgfacpecaaGreatDoor.Text Go.Proofs.YtmecbmgfacpecaaGreatDoor.Bits Go.Proofs.YtmecbmgfacpecaaGreatDoorW.PrintWords Go.Proofs.YtmecbmgfacpecaaGreatDoorW.PrintLast Go.Proofs.YtmecbmgfacpecaaGreatDoorW.PrintMore Go.Proofs.YtmecbmgfacpecaaGreatDoor.Pr
set_option linter.unusedVariables false
set_option linter.unusedSimpArgs false
theorem eqEmpty {q : List UInt8} : ((ba q).toList == []) = decide (q = []) := by rw [toList_data, ba_list]; exact Bool.eq_iff_iff.2 ⟨fun h => decide_eq_true (eq_of_beq h), fun h => beq_iff_eq.2 (of_decide_eq_true h)⟩
theorem texts_row {w : World} {g n c : Nat} {l : List ByteArray} (h : Texts w g n c l) {k : Nat} (hk : g ≠ k) (cs : Array Value) : Texts (w.setRow k cs) g n c l :=
 ⟨h.len, h.le, by simpa [World.setRow] using h.lt, fun i x hx => by
  have := h.at_ i x hx
  unfold World.cell? at this ⊢
  rw [setRow_other w k g cs hk]
  exact this⟩
theorem isSet_third (w : World) (o1 o2 o3 : Obj) (h : ∀ w' : World, IsSet (w'.alloc o3) w'.heap.size false noSet) : IsSet (((w.alloc o1).alloc o2).alloc o3) (w.heap.size + 2) false noSet := by
 have := h ((w.alloc o1).alloc o2)
 rw [show ((w.alloc o1).alloc o2).heap.size = w.heap.size + 2 by simp] at this
 exact this
end Go.Proofs.YtmecbmgfacpecaaGreatDoor.Cron
namespace Go.Proofs.YtmecbmgfacpecaaGreatDoor.Cron
open Go Go.RowKit Go.Proofs.YtmecbmgfacpecaaGreatDoor.Text Go.Proofs.YtmecbmgfacpecaaGreatDoor.Bits Go.Proofs.YtmecbmgfacpecaaGreatDoorW.PrintWords Go.Proofs.YtmecbmgfacpecaaGreatDoorW.PrintLast Go.Proofs.YtmecbmgfacpecaaGreatDoorW.PrintMore Go.Proofs.YtmecbmgfacpecaaGreatDoor.Pr
set_option linter.unusedVariables false
set_option linter.unusedSimpArgs false
theorem upTo2_all {val : List UInt8 → Option Nat} {lo hi : Nat} {l : List UInt8} {i : Nat} (h : (splitL 44 l).length ≤ i) : upTo (rangeS2 val lo hi) (splitL 44 l) i = fieldS2 val lo hi l := by
 unfold upTo fieldS2 partsL
 rw [List.take_of_length_le h]
set_option maxRecDepth 100000 in
set_option maxHeartbeats 1600000 in
theorem cronField2_any (val : List UInt8 → Option Nat) (kind : Int) (HV : ReadsLike val kind) (lo hi : Nat) (s : ByteArray) (hs : s.size ≤ 4294967296) (h1 : lo ≤ hi) (h2 : hi ≤ 62) (w : World) :
  Calls Tryz.prog 21 #[.agg #[.int .i64 lo, .int .i64 hi, .int .i64 kind], .string s] w (ItemPost w (fieldS2 val lo hi s.data.toList)) := by
 have hal := run_alloc_set
 have hsz : ∀ x ∈ splitL 44 s.data.toList, (ba x).size ≤ 4294967296 := by
  intro x hx
  have := splitL_size 44 _ x hx
  rw [← size_list] at this
  rw [ba_size]
  omega
 have hlen : (splitL 44 s.data.toList).length ≤ 4294967297 := by
  have h2 := splitL_len 44 s.data.toList
  rw [← size_list] at h2
  omega
 have HP := Lib.hid (fun w' => pieces_any 44 s (by omega) w')
 have HALL := Lib.hid (fun i h => upTo2_all (val := val) (lo := lo) (hi := hi) (l := s.data.toList) (i := i) h)
 have HSPL : Hid (splitB 44 s = (splitL 44 s.data.toList).map ba) := Lib.hid rfl
 have HSZ := Lib.hid hsz
 clear hsz
 generalize hF : fieldS2 val lo hi s.data.toList = F at *
 generalize splitL 44 s.data.toList = ps at *
 clear hF
 go_enter Tryz.func21, Tryz.ntmps21
 go_upto_region 3 with fail
 generalize hW : World.alloc (World.alloc (World.alloc w _) _) _ = wL
 have hbx : wL.heap[w.heap.size]? = some (.cells #[.int .i64 lo, .int .i64 hi, .int .i64 kind] 60 (0, 0)) := by
  rw [← hW]
  exact box_row w _ _ _ ((Below.refl _ _).alloc (Nat.le_refl _) _)
 have hR1 : IsSet wL (w.heap.size + 1) false noSet := by
  rw [← hW]
  have := isSet_lit (w.alloc (.cells #[.int .i64 lo, .int .i64 hi, .int .i64 kind] 60))
  rw [show (w.alloc (.cells #[.int .i64 lo, .int .i64 hi, .int .i64 kind] 60)).heap.size = w.heap.size + 1 by simp] at this
  exact this.below ((Below.refl _ _).alloc (by simp) _)
 have hR2 : IsSet wL (w.heap.size + 2) false noSet := by
  rw [← hW]
  exact isSet_third w _ _ _ isSet_lit
 have hBL : Below w.heap.size w wL := by
  rw [← hW]
  exact (((Below.refl _ _).alloc (Nat.le_refl _) _).alloc (by simp) _).alloc (by simp; omega) _
 clear hW
 go_wp2_with (go_at_call 56; go_must (refine (HP.out _).mono ?_); rintro e w1 ⟨g, n, c, rfl, hg, ht, hb1⟩)
 have hz1 : w.heap.size + 2 < w1.heap.size := Nat.lt_of_lt_of_le hR2.lt hb1.size
 have hB1 := below_of_le hBL hb1
 have HBX := Lib.hid ((hb1.block w.heap.size (by have := hR2.lt; omega)).trans hbx)
 have HR1 := Lib.hid (hR1.below hb1)
 have HR2 := Lib.hid (hR2.below hb1)
 rw [HSPL.out] at ht
 have hn : n = ps.length := by rw [ht.len, List.length_map]
 subst hn
 have HT := Lib.hid ht
 have HB1 := Lib.hid hB1
 have hg2 : w.heap.size + 2 < g := Nat.lt_of_lt_of_le hR2.lt hg
 clear hbx hR1 hR2 hBL hb1 ht hB1 hg HP HSPL
 go_loopw [7, 15] (fun v7 v15 wr => ∃ (i : Nat) (v : Int) (star : Bool) (p : Nat → Bool), v15 = .int .i64 i ∧ v7 = .int .i64 v ∧ i ≤ ps.length ∧ Hid (FieldMid (upTo (rangeS2 val lo hi) ps i) star p v) ∧ Hid (IsSet wr (w.heap.size + 2) star p) ∧ Hid (IsSet wr (w.heap.size + 1) false noSet) ∧ Hid (wr.heap[w.heap.size]? = some (.cells #[.int .i64 lo, .int .i64 hi, .int .i64 kind] 60 (0, 0))) ∧ Hid (Texts wr g ps.length c (ps.map ba)) ∧ Below w.heap.size w wr) (fun _ v15 _ => ps.length - (intOf v15).toNat)
 case atStart => exact ⟨0, 1, false, noSet, rfl, rfl, by omega, Lib.hid (mid_start _ _), HR2, HR1, HBX, HT, HB1.out⟩
 case round =>
  obtain ⟨i, v, star, p, rfl, rfl, hil, HM, HS, HS1, HBX', HT', hbr⟩ := hrel
  clear HR1 HR2 HBX HT HB1
  by_cases hlt : i < ps.length
  ·have hxi : ps[i]? = some ps[i] := List.getElem?_eq_getElem hlt
   have hmem := List.getElem_mem hlt
   generalize ps[i] = x at hxi hmem
   have hc : wr.cell? ⟨g, i, none⟩ = some (.string (ba x)) := HT'.out.at_ i _ (by rw [List.getElem?_map, hxi]; rfl)
   by_cases hx : x = []
   ·subst hx
    have he : ((ba []).toList == []) = true := by rw [eqEmpty]; rfl
    obtain ⟨v3, hw3, hvs3, hw0, hw1, _, _⟩ := worse_f v 2 HM.out.vs (by omega)
    have HM2 := Lib.hid (mid_empty HM.out hxi hvs3 hw0 hw1)
    have HC := Lib.hid (fun w' => spec_worse.calls v 2 v3 w' hw3)
    clear hw3 hw0 hw1 hmem
    go_wp2_with (go_at_call 57; go_must (refine (HC.out _).mono ?_); rintro e w5 ⟨rfl, hb5⟩)
    go_roundw
    case rel => exact ⟨i + 1, v3, star, p, by go_num, rfl, by omega, HM2, Lib.hid (HS.out.below hb5), Lib.hid (HS1.out.below hb5), Lib.hid ((hb5.block w.heap.size (by have := HS.out.lt; omega)).trans HBX'.out), Lib.hid (HT'.out.below hb5), below_of_le hbr hb5⟩
    case measure => simp [intOf]; omega
   ·have he : ((ba x).toList == []) = false := by rw [eqEmpty]; exact decide_eq_false hx
    have hd0 : wr.cell? ⟨w.heap.size, 0, none⟩ = some (.int .i64 lo) := cell_of_row _ _ _ _ _ _ HBX'.out
    have hd1 : wr.cell? ⟨w.heap.size, 1, none⟩ = some (.int .i64 hi) := cell_of_row _ _ _ _ _ _ HBX'.out
    have hd2 : wr.cell? ⟨w.heap.size, 2, none⟩ = some (.int .i64 kind) := cell_of_row _ _ _ _ _ _ HBX'.out
    have HCI := Lib.hid (fun w' => cronItem2_any val kind HV lo hi (ba x) (HSZ.out x hmem) h1 h2 w')
    go_wp2_with fail
    refine (HCI.out _).mono ?_
    rintro e w2 ⟨sx, px, vx, rfl, hi2, hb2⟩
    obtain ⟨v3, hw3, hvs3, hw0, hw1, _, _⟩ := worse_f v vx HM.out.vs hi2.vs
    have HM2 := Lib.hid (mid_item HM.out hxi hx hi2 hvs3 hw0 hw1)
    have HC := Lib.hid (fun w' => spec_worse.calls v vx v3 w' hw3)
    have HU := Lib.hid (fun w' => cronUnion_any star sx p px w')
    have HN := Lib.hid (isSet_lit w2)
    have HW := Lib.hid (HN.out.store sx px)
    have hsz2 : w.heap.size + 2 < w2.heap.size := Nat.lt_of_lt_of_le HS.out.lt hb2.size
    have hbig : ∀ o, Below w2.heap.size w2 ((w2.alloc o).setRow w2.heap.size (setCells sx px)) := fun o => below_setRow ((Below.refl _ _).alloc (Nat.le_refl _) _) (Nat.le_refl _) _
    have HBIG := Lib.hid hbig
    have HS2 := Lib.hid (fun o => (HS.out.below hb2).below (HBIG.out o))
    have hB2 := below_of_le hbr hb2
    have HSA := Lib.hid (HS1.out.below hb2)
    have HBXA := Lib.hid ((hb2.block w.heap.size (by have := HS.out.lt; omega)).trans HBX'.out)
    have HTA := Lib.hid (HT'.out.below hb2)
    clear hd0 hd1 hd2 hc hbr hbig HS HS1 HBX' HT' hw3 hw0 hw1 hi2 hb2 hmem HCI
    go_wp2_with (first | (refine wpList_store_set rfl _ _ rfl w2.heap.size sx px rfl rfl false noSet HN.out ?_) | (refine wpList_load_set rfl _ rfl (w.heap.size + 2) star p rfl (HS2.out _) ?_) | (refine wpList_load_set rfl _ rfl w2.heap.size sx px rfl HW.out ?_))
    refine (HU.out _).mono ?_
    rintro e w3 ⟨rfl, hb3⟩
    have hw2s : w2.heap.size + 1 ≤ w3.heap.size := by have := hb3.size; simp [World.setRow] at this; omega
    have hbA := HBIG.out (.cells #[.bool false, .bool false, .bool false, .bool false, .bool false, .bool false, .bool false, .bool false, .bool false, .bool false, .bool false, .bool false, .bool false, .bool false, .bool false, .bool false, .bool false, .bool false, .bool false, .bool false, .bool false, .bool false, .bool false, .bool false, .bool false, .bool false, .bool false, .bool false, .bool false, .bool false, .bool false, .bool false, .bool false, .bool false, .bool false, .bool false, .bool false, .bool false, .bool false, .bool false, .bool false, .bool false, .bool false, .bool false, .bool false, .bool false, .bool false, .bool false, .bool false, .bool false, .bool false, .bool false, .bool false, .bool false, .bool false, .bool false, .bool false, .bool false, .bool false, .bool false, .bool false, .bool false, .bool false, .bool false] 56)
    have hb23 : Below w2.heap.size w2 w3 := below_of_le hbA hb3
    have HS3 := Lib.hid ((HS2.out _).below hb3)
    have HB23 := Lib.hid hb23
    clear hb3 hb23 hbA HN HW HS2 HBIG HU
    go_wp2_with fail
    refine (HC.out _).mono ?_
    rintro e w4 ⟨rfl, hb4⟩
    have HS4 := Lib.hid (HS3.out.below hb4)
    have hb24 := below_of_le HB23.out hb4
    have HB24 := Lib.hid hb24
    have HSA4 := Lib.hid (HSA.out.below hb24)
    have HBX4 := Lib.hid ((hb24.block w.heap.size (by omega)).trans HBXA.out)
    have HT4 := Lib.hid (HTA.out.below hb24)
    have hB4 := below_of_le hB2 hb24
    clear HS3 HB23 HSA HBXA HTA hb4 hb24 HC hB2
    go_wp2_with (refine wpList_store_set rfl _ _ rfl (w.heap.size + 2) (star || sx) (fun j => p j || px j) rfl rfl star p HS4.out ?_)
    go_roundw
    case rel =>
     exact ⟨i + 1, v3, star || sx, _, by go_num, rfl, by omega, HM2, Lib.hid (HS4.out.store _ _), Lib.hid (HSA4.out.row_other (by omega) _), Lib.hid ((setRow_other w4 (w.heap.size + 2) w.heap.size _ (by omega)).trans HBX4.out), Lib.hid (texts_row HT4.out (by omega) _), below_setRow hB4 (by omega) _⟩
    case measure => simp [intOf]; omega
  ·have hie : ps.length ≤ i := by omega
   have HF : Hid (FieldMid F star p v) := Lib.hid (by rw [← HALL.out i hie]; exact HM.out)
   clear HM HBX' HT'
   by_cases hv : v = 1
   ·subst hv
    have HR2 := Lib.hid (HS1.out.store star p)
    go_wp2_with (first | (refine wpList_load_set rfl _ rfl (w.heap.size + 2) star p rfl HS.out ?_) | (refine wpList_store_set rfl _ _ rfl (w.heap.size + 1) star p rfl rfl _ _ HS1.out ?_))
    refine bodyPost_ret (v := .tuple #[.agg (setCells star p), .int .i64 1]) ?_ rfl ?_
    ·exact results_set (fn := Tryz.f21) (p := 4) (u := 5) rfl _ _ (w.heap.size + 1) _ _ rfl HR2.out
    exact ⟨star, p, 1, rfl, ⟨HF.out.vs, HF.out.bad, HF.out.fine, fun h => absurd rfl h⟩, below_setRow hbr (by omega) _⟩
   ·have hne : (v != 1) = true := by simpa using hv
    have HR2 := Lib.hid (HS1.out.store false noSet)
    have hv0 : v = 0 ∨ v = 2 := by rcases HF.out.vs with h | h | h <;> omega
    have HV0 := Lib.hid hv0
    clear hv hv0
    go_wp2_with (first | (refine wpList_build_set rfl rfl ?_) | (refine wpList_store_set rfl _ _ rfl (w.heap.size + 1) false noSet rfl rfl _ _ HS1.out ?_))
    refine bodyPost_ret (v := .tuple #[.agg (setCells false noSet), .int .i64 v]) ?_ rfl ?_
    ·exact results_set (fn := Tryz.f21) (p := 4) (u := 5) rfl _ _ (w.heap.size + 1) _ _ rfl HR2.out
    exact ⟨false, noSet, v, rfl, item_zero HV0.out HF.out.bad, below_setRow hbr (by omega) _⟩
end Go.Proofs.YtmecbmgfacpecaaGreatDoor.Cron
namespace Go.Proofs.YtmecbmgfacpecaaGreatDoor.Cron
open Go Go.RowKit Go.Proofs.YtmecbmgfacpecaaGreatDoor.Text Go.Proofs.YtmecbmgfacpecaaGreatDoor.Bits Go.Proofs.YtmecbmgfacpecaaGreatDoorW.PrintWords Go.Proofs.YtmecbmgfacpecaaGreatDoorW.PrintLast Go.Proofs.YtmecbmgfacpecaaGreatDoorW.PrintMore Go.Proofs.YtmecbmgfacpecaaGreatDoor.Pr
set_option linter.unusedVariables false
set_option linter.unusedSimpArgs false
def okC (c : UInt8) : Prop := c.toNat < 128 ∧ spaceZ c.toNat = false
theorem space_from : ∀ n : Fin 128, 33 ≤ n.val → spaceZ n.val = false := by decide +kernel
theorem okC_of {c : UInt8} (h1 : 33 ≤ c.toNat) (h2 : c.toNat < 128) : okC c := ⟨h2, space_from ⟨c.toNat, h2⟩ h1⟩
theorem parse10_ok : ∀ (l : List UInt8) (acc u : Nat), Lib.parseUint10 acc l = .ok u → ∀ c ∈ l, 48 ≤ c.toNat ∧ c.toNat ≤ 57
 | [], _, _, _, c, hc => by cases hc
 | d :: r, acc, u, h, c, hc => by
  simp only [Lib.parseUint10] at h
  split at h
  ·rename_i hd
   split at h
   ·cases h
   ·split at h
    ·cases h
    ·rcases List.mem_cons.1 hc with rfl | hc
     ·exact hd
     ·exact parse10_ok r _ u h c hc
  ·cases h
theorem mp_chars {l : List UInt8} {n : Nat} (h : mp l = some n) : ∀ c ∈ l, 43 ≤ c.toNat ∧ c.toNat ≤ 57 := by
 unfold mp at h
 split at h
 ·rename_i v hv
  unfold Lib.atoiAll at hv
  cases l with
  | nil => cases hv
  | cons d r =>
   simp only at hv
   split at hv
   ·cases hv
   ·cases hv
   ·rename_i u hu
    have key : ∀ s : List UInt8, Lib.parseMag s = .ok u → ∀ c ∈ s, 48 ≤ c.toNat ∧ c.toNat ≤ 57 := fun s hs => by
     unfold Lib.parseMag at hs
     by_cases h0 : s = []
     ·rw [if_pos h0] at hs; cases hs
     ·rw [if_neg h0] at hs; exact parse10_ok _ _ _ hs
    intro c hc
    by_cases hd : d.toNat = 43 ∨ d.toNat = 45
    ·rw [if_pos hd] at hu
     rcases List.mem_cons.1 hc with rfl | hc
     ·rcases hd with hd | hd <;> omega
     ·have := key r hu c hc; omega
    ·rw [if_neg hd] at hu
     have := key _ hu c hc; omega
 ·cases h
theorem mp_ok {l : List UInt8} {n : Nat} (h : mp l = some n) : ∀ c ∈ l, okC c := fun c hc => by
 have := mp_chars h c hc
 exact okC_of (by omega) (by omega)
theorem mp_low {l : List UInt8} {n : Nat} (h : mp l = some n) : ∀ c ∈ l, c.toNat < 64 := fun c hc => by
 have := mp_chars h c hc
 omega
def valA (k : Nat) (l : List UInt8) : Option Nat := if (∀ c ∈ l, c.toNat < 128) then valK k l else none
theorem monthsL_low : ∀ p ∈ monthsL, ∀ b ∈ p.1.data.toList, 97 ≤ b.toNat ∧ b.toNat ≤ 122 := by decide
theorem dowL_low : ∀ p ∈ dowL, ∀ b ∈ p.1.data.toList, 97 ≤ b.toNat ∧ b.toNat ≤ 122 := by decide
theorem valN_ok {L : List (ByteArray × Int)} (hL : ∀ p ∈ L, ∀ b ∈ p.1.data.toList, 97 ≤ b.toNat ∧ b.toNat ≤ 122) {l : List UInt8} {n : Nat} (ha : ∀ c ∈ l, c.toNat < 128) (h : valN L l = some n) : ∀ c ∈ l, okC c := by
 unfold valN at h
 split at h
 ·rename_i v hv
  have hm := look_mem _ _ _ hv
  have hb := hL _ hm
  rw [low_ascii (ba l) (by rw [ba_list]; exact ha)] at hb
  simp only [ba_list, List.mem_map, forall_exists_index, and_imp, forall_apply_eq_imp_iff₂] at hb
  intro c hc
  have := hb c hc
  unfold low8 at this
  split at this
  ·rename_i hcc
   exact okC_of (by omega) (by omega)
  ·exact okC_of (by omega) (by omega)
 ·exact mp_ok h
theorem valA_ok {k : Nat} {l : List UInt8} {n : Nat} (h : valA k l = some n) : ∀ c ∈ l, okC c := by
 unfold valA at h
 split at h
 ·rename_i ha
  unfold valK at h
  split at h
  ·exact valN_ok monthsL_low ha h
  ·split at h
   ·exact valN_ok dowL_low ha h
   ·exact mp_ok h
 ·cases h
theorem valA_K {k : Nat} {l : List UInt8} {n : Nat} (h : valA k l = some n) : valK k l = some n := by
 unfold valA at h
 split at h
 ·exact h
 ·cases h
theorem value_foreign4 (s : ByteArray) (hs : s.size ≤ 4294967296) (ha : ¬ ∀ c ∈ s.data.toList, c.toNat < 128) : ∃ K, spec_CronValue.f K 4 s = some (0, 2) := by
 have hlow : spec_CronLow.f 4 = some 1 := rfl
 have hhigh : spec_CronHigh.f 4 = some 12 := rfl
 obtain ⟨K2, hF⟩ := foreign_ev s hs
 have hfo : (s.data.toList.any fun c => decide (128 ≤ c.toNat)) = true := by
  rw [List.any_eq_true]
  apply Classical.byContradiction
  intro h
  exact ha fun c hc => Classical.byContradiction fun h2 => h ⟨c, hc, by simp; omega⟩
 rw [hfo] at hF
 have hrest : Ev (fun k => spec_CronValue.j2 k s true) (0, 2) := ⟨K2 + 1, fun k hk => by
  obtain ⟨k, rfl⟩ : ∃ m, k = m + 1 := ⟨k - 1, by omega⟩
  have e2 := hF k (by omega)
  simp only at e2
  simp only [spec_CronValue.j2, if_true, e2, Option.bind_some]⟩
 obtain ⟨K, hK⟩ := value_l0 4 12 s hhigh (0, 2) hrest (by omega) monthsU 1 months_name (by decide) (by omega)
 have e := hK K (Nat.le_refl _)
 rw [first_foreign _ ha _ months_caps] at e
 refine ⟨K + 1, ?_⟩
 unfold spec_CronValue.f
 simp only at e
 simp [spec_CronValue.j0, hlow, e]
theorem value_foreign5 (s : ByteArray) (hs : s.size ≤ 4294967296) (ha : ¬ ∀ c ∈ s.data.toList, c.toNat < 128) : ∃ K, spec_CronValue.f K 5 s = some (0, 2) := by
 have hlow : spec_CronLow.f 5 = some 0 := rfl
 have hhigh : spec_CronHigh.f 5 = some 6 := rfl
 obtain ⟨K2, hF⟩ := foreign_ev s hs
 have hfo : (s.data.toList.any fun c => decide (128 ≤ c.toNat)) = true := by
  rw [List.any_eq_true]
  apply Classical.byContradiction
  intro h
  exact ha fun c hc => Classical.byContradiction fun h2 => h ⟨c, hc, by simp; omega⟩
 rw [hfo] at hF
 have hrest : Ev (fun k => spec_CronValue.j2 k s true) (0, 2) := ⟨K2 + 1, fun k hk => by
  obtain ⟨k, rfl⟩ : ∃ m, k = m + 1 := ⟨k - 1, by omega⟩
  have e2 := hF k (by omega)
  simp only at e2
  simp only [spec_CronValue.j2, if_true, e2, Option.bind_some]⟩
 obtain ⟨K, hK⟩ := value_l0 5 6 s hhigh (0, 2) hrest (by omega) dowU 0 dow_name (by decide) (by omega)
 have e := hK K (Nat.le_refl _)
 rw [first_foreign _ ha _ dow_caps] at e
 refine ⟨K + 1, ?_⟩
 unfold spec_CronValue.f
 simp only at e
 simp [spec_CronValue.j0, hlow, e]
theorem valA_reads (k : Nat) (hk : k < 6) : ReadsLike (valA k) k := fun s hs => by
 by_cases ha : ∀ c ∈ s.data.toList, c.toNat < 128
 ·have : valA k s.data.toList = valK k s.data.toList := by unfold valA; rw [if_pos ha]
  rw [this]
  exact value_reads k hk s hs
 ·have hn : valA k s.data.toList = none := by unfold valA; rw [if_neg ha]
  rw [hn]
  by_cases h4 : k = 4
  ·subst h4
   obtain ⟨K, hK⟩ := value_foreign4 s hs ha
   exact ⟨K, 0, 2, hK, ⟨by omega, by omega, by omega, fun h => by omega, fun h => by omega⟩⟩
  ·by_cases h5 : k = 5
   ·subst h5
    obtain ⟨K, hK⟩ := value_foreign5 s hs ha
    exact ⟨K, 0, 2, hK, ⟨by omega, by omega, by omega, fun h => by omega, fun h => by omega⟩⟩
   ·obtain ⟨K, n, v, hK, hv⟩ := value_reads k hk s hs
    refine ⟨K, n, v, hK, ⟨hv.lo, hv.hi, hv.vs, fun h => ?_, fun h => ⟨rfl, (hv.bad h).2⟩⟩⟩
    have hvk : valK k s.data.toList = mp s.data.toList := by unfold valK; rw [if_neg h4, if_neg h5]
    have hf := hv.fine h
    rw [hvk] at hf
    rcases hf with ⟨m, hm, _⟩ | ⟨_, hn⟩
    ·exact absurd (fun c hc => (mp_ok hm c hc).1) ha
    ·exact .inr ⟨rfl, hn⟩
theorem splitL_where (x : UInt8) : ∀ (l : List UInt8) (c : UInt8), c ∈ l → c = x ∨ ∃ p ∈ splitL x l, c ∈ p := by
 intro l
 induction l with
 | nil => intro c hc; cases hc
 | cons d r ih =>
  intro c hc
  by_cases hd : d = x
  ·subst hd
   rw [splitL_cons_eq]
   rcases List.mem_cons.1 hc with rfl | hc
   ·exact .inl rfl
   ·rcases ih c hc with h | ⟨p, hp, hcp⟩
    ·exact .inl h
    ·exact .inr ⟨p, List.mem_cons_of_mem _ hp, hcp⟩
  ·obtain ⟨q, qs, hq⟩ : ∃ q qs, splitL x r = q :: qs := by
    cases h : splitL x r with
    | nil => exact absurd h (splitL_ne _ _)
    | cons q qs => exact ⟨q, qs, rfl⟩
   have hs : splitL x (d :: r) = (d :: q) :: qs := by
    rw [splitL, if_neg hd, hq]
   rw [hs]
   rcases List.mem_cons.1 hc with rfl | hc
   ·exact .inr ⟨c :: q, List.mem_cons_self .., List.mem_cons_self ..⟩
   ·rcases ih c hc with h | ⟨p, hp, hcp⟩
    ·exact .inl h
    ·rw [hq] at hp
     rcases List.mem_cons.1 hp with rfl | hp
     ·exact .inr ⟨d :: p, List.mem_cons_self .., List.mem_cons_of_mem _ hcp⟩
     ·exact .inr ⟨p, List.mem_cons_of_mem _ hp, hcp⟩
structure Signs (Q : UInt8 → Prop) : Prop where
 star : Q 42
 ask : Q 63
 comma : Q 44
 hyphen : Q 45
 slash : Q 47
 num : ∀ {l : List UInt8} {n : Nat}, mp l = some n → ∀ c ∈ l, Q c
theorem ends2_all {val val' : List UInt8 → Option Nat} {Q : UInt8 → Prop} (hQ : Signs Q) (hV : ∀ {l : List UInt8} {n : Nat}, val l = some n → val' l = some n ∧ ∀ c ∈ l, Q c) {lo hi : Nat} {qs : List (List UInt8)} {r : Nat × Nat × Bool} (h : ends2 val lo hi qs = some r) :
  ends val' lo hi qs = some r ∧ ∀ q ∈ qs, ∀ c ∈ q, Q c := by
 cases qs with
 | nil => cases h
 | cons e rs =>
  by_cases hst : e = [42] ∨ e = [63]
  ·rw [ends2_star rs hst] at h
   split at h
   ·rename_i hn
    subst hn
    refine ⟨by rw [ends_star [] hst]; exact h, fun q hq c hc => ?_⟩
    rw [List.mem_singleton] at hq
    subst hq
    rcases hst with rfl | rfl
    ·obtain rfl : c = 42 := by simpa using hc
     exact hQ.star
    ·obtain rfl : c = 63 := by simpa using hc
     exact hQ.ask
   ·cases h
  ·rw [ends2_else rs hst] at h
   rw [ends_else rs hst]
   cases hv : val e with
   | none => rw [hv] at h; cases h
   | some a =>
    rw [hv] at h
    obtain ⟨hvK, hok⟩ := hV hv
    match rs, h with
    | [], h =>
     refine ⟨by rw [hvK]; exact h, fun q hq c hc => ?_⟩
     rw [List.mem_singleton] at hq
     subst hq
     exact hok c hc
    | [e2], h =>
     simp only [endsRest] at h
     cases hv2 : val e2 with
     | none => rw [hv2] at h; cases h
     | some b =>
      rw [hv2] at h
      obtain ⟨hvK2, hok2⟩ := hV hv2
      refine ⟨by rw [hvK]; simp only [endsRest]; rw [hvK2]; exact h, fun q hq c hc => ?_⟩
      rcases List.mem_cons.1 hq with rfl | hq
      ·exact hok c hc
      ·rw [List.mem_singleton] at hq
       subst hq
       exact hok2 c hc
    | e2 :: e3 :: t, h => cases h
theorem step_all {Q : UInt8 → Prop} (hQ : Signs Q) {hi b : Nat} {sg st : Bool} {ps : List (List UInt8)} {r : Nat × Nat × Bool} (h : stepOf hi sg b st ps = some r) : ∀ p ∈ ps, ∀ c ∈ p, Q c := by
 match ps, h with
 | [], _ => intro p hp; cases hp
 | [t], h =>
  simp only [stepOf] at h
  cases hm : mp t with
  | none => rw [hm] at h; cases h
  | some n =>
   intro p hp c hc
   rw [List.mem_singleton] at hp
   subst hp
   exact hQ.num hm c hc
 | _ :: _ :: _, h => cases h
theorem rangeS2_all {val val' : List UInt8 → Option Nat} {Q : UInt8 → Prop} (hQ : Signs Q) (hV : ∀ {l : List UInt8} {n : Nat}, val l = some n → val' l = some n ∧ ∀ c ∈ l, Q c) {lo hi : Nat} {l : List UInt8} {b : Nat} (h : rangeS2 val lo hi l = some b) :
  rangeS val' lo hi l = some b ∧ ∀ c ∈ l, Q c := by
 obtain ⟨p, ps, hps⟩ : ∃ p ps, splitL 47 l = p :: ps := by
  cases h : splitL 47 l with
  | nil => exact absurd h (splitL_ne _ _)
  | cons p ps => exact ⟨p, ps, rfl⟩
 rw [rangeS2_eq hps] at h
 rw [rangeS_eq hps]
 cases he : ends2 val lo hi (splitL 45 p) with
 | none => rw [he] at h; cases h
 | some r =>
  obtain ⟨a, b', st⟩ := r
  rw [he] at h
  obtain ⟨he1, hok⟩ := ends2_all hQ hV he
  rw [he1]
  refine ⟨h, fun c hc => ?_⟩
  rcases splitL_where 47 l c hc with rfl | ⟨q, hq, hcq⟩
  ·exact hQ.slash
  ·rw [hps] at hq
   rcases List.mem_cons.1 hq with rfl | hq
   ·rcases splitL_where 45 q c hcq with rfl | ⟨t, ht, hct⟩
    ·exact hQ.hyphen
    ·exact hok t ht c hct
   ·simp only [rangeFin] at h
    cases hs : stepOf hi ((splitL 45 p).length == 1) b' st ps with
    | none => rw [hs] at h; cases h
    | some r => exact step_all hQ hs q hq c hcq
theorem fieldGo_all {val val' : List UInt8 → Option Nat} {Q : UInt8 → Prop} (hQ : Signs Q) (hV : ∀ {l : List UInt8} {n : Nat}, val l = some n → val' l = some n ∧ ∀ c ∈ l, Q c) {lo hi : Nat} : ∀ (ps : List (List UInt8)) (a b : Nat), fieldGo (rangeS2 val lo hi) ps a = some b → fieldGo (rangeS val' lo hi) ps a = some b ∧ ∀ p ∈ ps, ∀ c ∈ p, Q c
 | [], a, b, h => ⟨h, fun p hp => by cases hp⟩
 | x :: xs, a, b, h => by
  simp only [fieldGo] at h ⊢
  cases hr : rangeS2 val lo hi x with
  | none => rw [hr] at h; cases h
  | some c =>
   rw [hr] at h
   obtain ⟨h1, h2⟩ := rangeS2_all hQ hV hr
   obtain ⟨h3, h4⟩ := fieldGo_all hQ hV xs _ b h
   rw [h1]
   refine ⟨h3, fun p hp => ?_⟩
   rcases List.mem_cons.1 hp with rfl | hp
   ·exact h2
   ·exact h4 p hp
theorem fieldS2_all {val val' : List UInt8 → Option Nat} {Q : UInt8 → Prop} (hQ : Signs Q) (hV : ∀ {l : List UInt8} {n : Nat}, val l = some n → val' l = some n ∧ ∀ c ∈ l, Q c) {lo hi : Nat} {l : List UInt8} {b : Nat} (h : fieldS2 val lo hi l = some b) :
  fieldS val' lo hi l = some b ∧ ∀ c ∈ l, Q c := by
 obtain ⟨h1, h2⟩ := fieldGo_all hQ hV _ _ _ h
 refine ⟨h1, fun c hc => ?_⟩
 rcases splitL_where 44 l c hc with rfl | ⟨p, hp, hcp⟩
 ·exact hQ.comma
 ·refine h2 p ?_ c hcp
  unfold partsL
  rw [List.mem_filter]
  refine ⟨hp, ?_⟩
  have : p ≠ [] := by rintro rfl; cases hcp
  simpa using this
theorem signs_ok : Signs okC := ⟨okC_of (by decide) (by decide), okC_of (by decide) (by decide), okC_of (by decide) (by decide), okC_of (by decide) (by decide), okC_of (by decide) (by decide), fun h => mp_ok h⟩
theorem fieldS2_ok {k lo hi : Nat} {l : List UInt8} {b : Nat} (h : fieldS2 (valA k) lo hi l = some b) : fieldS (valK k) lo hi l = some b ∧ ∀ c ∈ l, okC c :=
 fieldS2_all signs_ok (fun hv => ⟨valA_K hv, valA_ok hv⟩) h
theorem signs_low : Signs (fun c => c.toNat < 64) := ⟨by decide, by decide, by decide, by decide, by decide, fun h => mp_low h⟩
theorem fieldS2_low {k lo hi : Nat} (h4 : k ≠ 4) (h5 : k ≠ 5) {l : List UInt8} {b : Nat} (h : fieldS2 (valA k) lo hi l = some b) : ∀ c ∈ l, c.toNat < 64 :=
 (fieldS2_all (val' := valK k) signs_low (fun {l n} hv => ⟨valA_K hv, mp_low (by
  have := valA_K hv
  unfold valK at this
  rw [if_neg h4, if_neg h5] at this
  exact this)⟩) h).2
end Go.Proofs.YtmecbmgfacpecaaGreatDoor.Cron
namespace Go.Proofs.YtmecbmgfacpecaaGreatDoor.Cron
open Go Go.RowKit Go.Proofs.YtmecbmgfacpecaaGreatDoor.Text Go.Proofs.YtmecbmgfacpecaaGreatDoor.Bits Go.Proofs.YtmecbmgfacpecaaGreatDoorW.PrintWords Go.Proofs.YtmecbmgfacpecaaGreatDoorW.PrintLast Go.Proofs.YtmecbmgfacpecaaGreatDoorW.PrintMore Go.Proofs.YtmecbmgfacpecaaGreatDoor.Pr
set_option linter.unusedVariables false
set_option linter.unusedSimpArgs false
theorem blank_any (n : Nat) : ∃ b, spec_cronBlank.f (n : Int) = some b := by
 unfold spec_cronBlank.f
 split
 ·exact ⟨_, rfl⟩
 ·split
  ·exact ⟨_, rfl⟩
  ·exact ⟨_, rfl⟩
theorem words_ex0 (s : ByteArray) (hs : s.size ≤ 4294967296) : ∀ (d i : Nat) (st : Option Nat) (acc : List ByteArray) (k : Nat), s.size - i = d → i ≤ s.size → 2 * d < k → (∀ a, st = some a → a < i) → acc.length + (if st.isSome = true then 1 else 0) ≤ i → (∀ x ∈ acc, x.size ≤ s.size) →
  ∃ l, spec_CronWords.l0 k s acc (frm st) (s.size : Int) (i : Int) = some l ∧ l.length ≤ s.size ∧ ∀ x ∈ l, x.size ≤ s.size
 | 0, i, st, acc, k, hd, hi, hk, hst, hac, hx => by
  obtain ⟨k, rfl⟩ : ∃ m, k = m + 1 := ⟨k - 1, by omega⟩
  unfold spec_CronWords.l0
  rw [if_neg (by omega)]
  cases st with
  | none =>
   rw [frm_none, if_neg (by omega)]
   exact ⟨acc, rfl, by simp at hac; omega, hx⟩
  | some a =>
   have := hst a rfl
   have hac' : acc.length + 1 ≤ i := by simpa using hac
   rw [frm_some, if_pos (by omega), if_pos (by omega), if_pos (by omega), if_pos (by omega), Int.toNat_natCast]
   refine ⟨_, rfl, by simp; omega, fun x h => ?_⟩
   rcases List.mem_append.1 h with h | h
   ·exact hx x h
   ·obtain rfl := List.mem_singleton.1 h
    rw [ByteArray.size_extract]; omega
 | d + 1, i, st, acc, k, hd, hi, hk, hst, hac, hx => by
  obtain ⟨k, rfl⟩ : ∃ m, k = m + 2 := ⟨k - 2, by omega⟩
  have hlt : i < s.size := by omega
  have hl : i < s.data.toList.length := by rw [← size_list]; exact hlt
  have hw : wrap64 ((i : Int) + 1) = ((i + 1 : Nat) : Int) := by
   unfold wrap64
   omega
  have hbt := bt_list s i hl
  obtain ⟨b, hb⟩ := blank_any (s.data.toList[i]).toNat
  rw [← hbt] at hb
  unfold spec_CronWords.l0
  rw [if_pos (by omega), if_pos (by omega), if_pos (by omega), hb]
  simp only [Option.bind_some]
  cases b with
  | true =>
   rw [if_pos rfl]
   unfold spec_CronWords.j1
   cases st with
   | none =>
    have hf : decide (frm none ≥ 0) = false := by decide
    rw [hf, if_neg (by decide), if_pos (by omega), if_pos (by omega), hb]
    simp only [Option.bind_some, if_true]
    rw [hw]
    exact words_ex0 s hs d (i + 1) none acc k (by omega) (by omega) (by omega) (fun a h => by cases h) (by simp at hac ⊢; omega) hx
   | some a =>
    have hai := hst a rfl
    have hac' : acc.length + 1 ≤ i := by simpa using hac
    have hf : decide (frm (some a) ≥ 0) = true := decide_eq_true (by rw [frm_some]; omega)
    rw [hf, if_pos rfl]
    rw [frm_some, if_pos (by omega), if_pos (by omega), if_pos (by omega), if_pos (by omega), hw, Int.toNat_natCast, Int.toNat_natCast]
    exact words_ex0 s hs d (i + 1) none (acc ++ [s.extract a i]) k (by omega) (by omega) (by omega) (fun a h => by cases h) (by simp; omega) (fun x h => by
     rcases List.mem_append.1 h with h | h
     ·exact hx x h
     ·obtain rfl := List.mem_singleton.1 h
      rw [ByteArray.size_extract]; omega)
  | false =>
   rw [if_neg (by decide)]
   unfold spec_CronWords.j1
   rw [if_neg (by decide), if_pos (by omega), if_pos (by omega), hb]
   simp only [Option.bind_some]
   rw [if_neg (by decide)]
   cases st with
   | none =>
    rw [frm_none, if_pos (by omega), hw]
    exact words_ex0 s hs d (i + 1) (some i) acc k (by omega) (by omega) (by omega) (fun a h => by injection h with h; omega) (by simp at hac ⊢; omega) hx
   | some a =>
    have hai := hst a rfl
    rw [frm_some, if_neg (by omega), hw]
    exact words_ex0 s hs d (i + 1) (some a) acc k (by omega) (by omega) (by omega) (fun a' h => by injection h with h; omega) (by simp at hac ⊢; omega) hx
theorem words_ex (s : ByteArray) (hs : s.size ≤ 4294967296) : ∃ k l, spec_CronWords.f k s = some l ∧ l.length ≤ s.size ∧ (∀ x ∈ l, x.size ≤ s.size) ∧ (Ascii s → l = fieldsZ s) := by
 by_cases ha : Ascii s
 ·obtain ⟨k, hk⟩ := words_f s hs ha
  exact ⟨k, _, hk, fieldsZ_len s, fieldsZ_size s, fun _ => rfl⟩
 ·obtain ⟨l, h1, h2, h3⟩ := words_ex0 s hs s.size 0 none [] (2 * s.size + 1) (by omega) (by omega) (by omega) (fun a h => by cases h) (by simp) (fun x h => by cases h)
  exact ⟨_, l, h1, h2, h3, fun h => absurd h ha⟩
theorem joinTail_len (N : Nat) : ∀ xs : List ByteArray, (∀ x ∈ xs, x.size ≤ N) → (joinL.joinTail xs).length ≤ xs.length * (N + 1)
 | [], _ => by simp [joinL.joinTail]
 | x :: xs, h => by
  have ih := joinTail_len N xs fun y hy => h y (List.mem_cons_of_mem _ hy)
  have hx := h x List.mem_cons_self
  rw [size_list] at hx
  unfold joinL.joinTail
  rw [List.cons_append, List.length_cons, List.length_append, List.length_cons, Nat.add_mul]
  omega
theorem joinL_len (N : Nat) (xs : List ByteArray) (h : ∀ x ∈ xs, x.size ≤ N) : (joinL xs).length ≤ xs.length * (N + 1) := by
 cases xs with
 | nil => simp [joinL]
 | cons x xs =>
  have ih := joinTail_len N xs fun y hy => h y (List.mem_cons_of_mem _ hy)
  have hx := h x List.mem_cons_self
  rw [size_list] at hx
  unfold joinL
  rw [List.length_append, List.length_cons, Nat.add_mul]
  omega
end Go.Proofs.YtmecbmgfacpecaaGreatDoor.Cron
