/- What the reference's CronField answers, held against the program's 'fieldS'. -/
import Derived.Test.YtikgnpachlgakaaDoorFieldMid
import Derived.Test.YtikgnpachlgakaaDoorPrA
namespace Go.Proofs.YtikgnpachlgakaaDoor.Cron
open Go Go.RowKit Go.Proofs.YtikgnpachlgakaaDoor.Text Go.Proofs.YtikgnpachlgakaaDoor.Bits Go.Proofs.YtikgnpachlgakaaDoorW.PrintWords Go.Proofs.YtikgnpachlgakaaDoorW.PrintLast Go.Proofs.YtikgnpachlgakaaDoorW.PrintMore Go.Proofs.YtikgnpachlgakaaDoor.Pr
set_option linter.unusedVariables false
set_option linter.unusedSimpArgs false

theorem eqEmpty {q : List UInt8} : ((ba q).toList == []) = decide (q = []) := by rw [toList_data, ba_list]; exact Bool.eq_iff_iff.2 ⟨fun h => decide_eq_true (eq_of_beq h), fun h => beq_iff_eq.2 (of_decide_eq_true h)⟩

theorem texts_row {w : World} {g n c : Nat} {l : List ByteArray} (h : Texts w g n c l) {k : Nat} (hk : g ≠ k) (cs : Array Value) : Texts (w.setRow k cs) g n c l :=
  ⟨h.len, h.le, by simpa [World.setRow] using h.lt, fun i x hx => by
    have := h.at_ i x hx
    unfold World.cell? at this ⊢
    rw [setRow_other w k g cs hk]
    exact this⟩

theorem isSet_third (w : World) (o1 o2 o3 : Obj) (h : ∀ w' : World, IsSet (w'.alloc o3) w'.heap.size false noSet) : IsSet (((w.alloc o1).alloc o2).alloc o3) (w.heap.size + 2) false noSet := by
  have := h ((w.alloc o1).alloc o2)
  rw [show ((w.alloc o1).alloc o2).heap.size = w.heap.size + 2 by simp] at this
  exact this

set_option maxRecDepth 100000 in
set_option maxHeartbeats 1600000 in
theorem cronField_any (val : List UInt8 → Option Nat) (kind : Int) (HV : ReadsLike val kind) (lo hi : Nat) (s : ByteArray) (hs : s.size ≤ 4294967296) (h1 : lo ≤ hi) (h2 : hi ≤ 62) (w : World) :
    Calls Tryd.prog 20 #[.agg #[.int .i64 lo, .int .i64 hi, .int .i64 kind], .string s] w (ItemPost w (fieldS val lo hi s.data.toList)) := by
  have hal := run_alloc_set
  have hsz : ∀ x ∈ splitL 44 s.data.toList, (ba x).size ≤ 4294967296 := by
    intro x hx
    have := splitL_size 44 _ x hx
    rw [← size_list] at this
    rw [ba_size]
    omega
  have hlen : (splitL 44 s.data.toList).length ≤ 4294967297 := by
    have h2 := splitL_len 44 s.data.toList
    rw [← size_list] at h2
    omega
  have HP := Lib.hid (fun w' => pieces_any 44 s (by omega) w')
  have HALL := Lib.hid (fun i h => upTo_all (val := val) (lo := lo) (hi := hi) (l := s.data.toList) (i := i) h)
  have HSPL : Hid (splitB 44 s = (splitL 44 s.data.toList).map ba) := Lib.hid rfl
  have HSZ := Lib.hid hsz
  clear hsz
  generalize hF : fieldS val lo hi s.data.toList = F at *
  generalize splitL 44 s.data.toList = ps at *
  clear hF
  go_enter Tryd.func20, Tryd.ntmps20
  go_upto_region 3 with fail
  generalize hW : World.alloc (World.alloc (World.alloc w _) _) _ = wL
  have hbx : wL.heap[w.heap.size]? = some (.cells #[.int .i64 lo, .int .i64 hi, .int .i64 kind] 36 (0, 0)) := by
    rw [← hW]
    exact box_row w _ _ _ ((Below.refl _ _).alloc (Nat.le_refl _) _)
  have hR1 : IsSet wL (w.heap.size + 1) false noSet := by
    rw [← hW]
    have := isSet_lit (w.alloc (.cells #[.int .i64 lo, .int .i64 hi, .int .i64 kind] 36))
    rw [show (w.alloc (.cells #[.int .i64 lo, .int .i64 hi, .int .i64 kind] 36)).heap.size = w.heap.size + 1 by simp] at this
    exact this.below ((Below.refl _ _).alloc (by simp) _)
  have hR2 : IsSet wL (w.heap.size + 2) false noSet := by
    rw [← hW]
    exact isSet_third w _ _ _ isSet_lit
  have hBL : Below w.heap.size w wL := by
    rw [← hW]
    exact (((Below.refl _ _).alloc (Nat.le_refl _) _).alloc (by simp) _).alloc (by simp; omega) _
  clear hW
  go_wp2_with (go_at_call 33; go_must (refine (HP.out _).mono ?_); rintro e w1 ⟨g, n, c, rfl, hg, ht, hb1⟩)
  have hz1 : w.heap.size + 2 < w1.heap.size := Nat.lt_of_lt_of_le hR2.lt hb1.size
  have hB1 := below_of_le hBL hb1
  have HBX := Lib.hid ((hb1.block w.heap.size (by have := hR2.lt; omega)).trans hbx)
  have HR1 := Lib.hid (hR1.below hb1)
  have HR2 := Lib.hid (hR2.below hb1)
  rw [HSPL.out] at ht
  have hn : n = ps.length := by rw [ht.len, List.length_map]
  subst hn
  have HT := Lib.hid ht
  have HB1 := Lib.hid hB1
  have hg2 : w.heap.size + 2 < g := Nat.lt_of_lt_of_le hR2.lt hg
  clear hbx hR1 hR2 hBL hb1 ht hB1 hg HP HSPL
  go_loopw [7, 15] (fun v7 v15 wr => ∃ (i : Nat) (v : Int) (star : Bool) (p : Nat → Bool), v15 = .int .i64 i ∧ v7 = .int .i64 v ∧ i ≤ ps.length ∧ Hid (FieldMid (upTo (rangeS val lo hi) ps i) star p v) ∧ Hid (IsSet wr (w.heap.size + 2) star p) ∧ Hid (IsSet wr (w.heap.size + 1) false noSet) ∧ Hid (wr.heap[w.heap.size]? = some (.cells #[.int .i64 lo, .int .i64 hi, .int .i64 kind] 36 (0, 0))) ∧ Hid (Texts wr g ps.length c (ps.map ba)) ∧ Below w.heap.size w wr) (fun _ v15 _ => ps.length - (intOf v15).toNat)
  case atStart => exact ⟨0, 1, false, noSet, rfl, rfl, by omega, Lib.hid (mid_start _ _), HR2, HR1, HBX, HT, HB1.out⟩
  case round =>
    obtain ⟨i, v, star, p, rfl, rfl, hil, HM, HS, HS1, HBX', HT', hbr⟩ := hrel
    clear HR1 HR2 HBX HT HB1
    by_cases hlt : i < ps.length
    · have hxi : ps[i]? = some ps[i] := List.getElem?_eq_getElem hlt
      have hmem := List.getElem_mem hlt
      generalize ps[i] = x at hxi hmem
      have hc : wr.cell? ⟨g, i, none⟩ = some (.string (ba x)) := HT'.out.at_ i _ (by rw [List.getElem?_map, hxi]; rfl)
      by_cases hx : x = []
      · subst hx
        have he : ((ba []).toList == []) = true := by rw [eqEmpty]; rfl
        obtain ⟨v3, hw3, hvs3, hw0, hw1, _, _⟩ := worse_f v 2 HM.out.vs (by omega)
        have HM2 := Lib.hid (mid_empty HM.out hxi hvs3 hw0 hw1)
        have HC := Lib.hid (fun w' => spec_worse.calls v 2 v3 w' hw3)
        clear hw3 hw0 hw1 hmem
        go_wp2_with (go_at_call 36; go_must (refine (HC.out _).mono ?_); rintro e w5 ⟨rfl, hb5⟩)
        go_roundw
        case rel => exact ⟨i + 1, v3, star, p, by go_num, rfl, by omega, HM2, Lib.hid (HS.out.below hb5), Lib.hid (HS1.out.below hb5), Lib.hid ((hb5.block w.heap.size (by have := HS.out.lt; omega)).trans HBX'.out), Lib.hid (HT'.out.below hb5), below_of_le hbr hb5⟩
        case measure => simp [intOf]; omega
      · have he : ((ba x).toList == []) = false := by rw [eqEmpty]; exact decide_eq_false hx
        have hd0 : wr.cell? ⟨w.heap.size, 0, none⟩ = some (.int .i64 lo) := cell_of_row _ _ _ _ _ _ HBX'.out
        have hd1 : wr.cell? ⟨w.heap.size, 1, none⟩ = some (.int .i64 hi) := cell_of_row _ _ _ _ _ _ HBX'.out
        have hd2 : wr.cell? ⟨w.heap.size, 2, none⟩ = some (.int .i64 kind) := cell_of_row _ _ _ _ _ _ HBX'.out
        have HCI := Lib.hid (fun w' => cronItem_any val kind HV lo hi (ba x) (HSZ.out x hmem) h1 h2 w')
        go_wp2_with fail
        refine (HCI.out _).mono ?_
        rintro e w2 ⟨sx, px, vx, rfl, hi2, hb2⟩
        obtain ⟨v3, hw3, hvs3, hw0, hw1, _, _⟩ := worse_f v vx HM.out.vs hi2.vs
        have HM2 := Lib.hid (mid_item HM.out hxi hx hi2 hvs3 hw0 hw1)
        have HC := Lib.hid (fun w' => spec_worse.calls v vx v3 w' hw3)
        have HU := Lib.hid (fun w' => cronUnion_any star sx p px w')
        have HN := Lib.hid (isSet_lit w2)
        have HW := Lib.hid (HN.out.store sx px)
        have hsz2 : w.heap.size + 2 < w2.heap.size := Nat.lt_of_lt_of_le HS.out.lt hb2.size
        have hbig : ∀ o, Below w2.heap.size w2 ((w2.alloc o).setRow w2.heap.size (setCells sx px)) := fun o => below_setRow ((Below.refl _ _).alloc (Nat.le_refl _) _) (Nat.le_refl _) _
        have HBIG := Lib.hid hbig
        have HS2 := Lib.hid (fun o => (HS.out.below hb2).below (HBIG.out o))
        have hB2 := below_of_le hbr hb2
        have HSA := Lib.hid (HS1.out.below hb2)
        have HBXA := Lib.hid ((hb2.block w.heap.size (by have := HS.out.lt; omega)).trans HBX'.out)
        have HTA := Lib.hid (HT'.out.below hb2)
        clear hd0 hd1 hd2 hc hbr hbig HS HS1 HBX' HT' hw3 hw0 hw1 hi2 hb2 hmem HCI
        go_wp2_with (first | (refine wpList_store_set rfl _ _ rfl w2.heap.size sx px rfl rfl false noSet HN.out ?_) | (refine wpList_load_set rfl _ rfl (w.heap.size + 2) star p rfl (HS2.out _) ?_) | (refine wpList_load_set rfl _ rfl w2.heap.size sx px rfl HW.out ?_))
        refine (HU.out _).mono ?_
        rintro e w3 ⟨rfl, hb3⟩
        have hw2s : w2.heap.size + 1 ≤ w3.heap.size := by have := hb3.size; simp [World.setRow] at this; omega
        have hbA := HBIG.out (.cells #[.bool false, .bool false, .bool false, .bool false, .bool false, .bool false, .bool false, .bool false, .bool false, .bool false, .bool false, .bool false, .bool false, .bool false, .bool false, .bool false, .bool false, .bool false, .bool false, .bool false, .bool false, .bool false, .bool false, .bool false, .bool false, .bool false, .bool false, .bool false, .bool false, .bool false, .bool false, .bool false, .bool false, .bool false, .bool false, .bool false, .bool false, .bool false, .bool false, .bool false, .bool false, .bool false, .bool false, .bool false, .bool false, .bool false, .bool false, .bool false, .bool false, .bool false, .bool false, .bool false, .bool false, .bool false, .bool false, .bool false, .bool false, .bool false, .bool false, .bool false, .bool false, .bool false, .bool false, .bool false] 32)
        have hb23 : Below w2.heap.size w2 w3 := below_of_le hbA hb3
        have HS3 := Lib.hid ((HS2.out _).below hb3)
        have HB23 := Lib.hid hb23
        clear hb3 hb23 hbA HN HW HS2 HBIG HU
        go_wp2_with fail
        refine (HC.out _).mono ?_
        rintro e w4 ⟨rfl, hb4⟩
        have HS4 := Lib.hid (HS3.out.below hb4)
        have hb24 := below_of_le HB23.out hb4
        have HB24 := Lib.hid hb24
        have HSA4 := Lib.hid (HSA.out.below hb24)
        have HBX4 := Lib.hid ((hb24.block w.heap.size (by omega)).trans HBXA.out)
        have HT4 := Lib.hid (HTA.out.below hb24)
        have hB4 := below_of_le hB2 hb24
        clear HS3 HB23 HSA HBXA HTA hb4 hb24 HC hB2
        go_wp2_with (refine wpList_store_set rfl _ _ rfl (w.heap.size + 2) (star || sx) (fun j => p j || px j) rfl rfl star p HS4.out ?_)
        go_roundw
        case rel =>
          exact ⟨i + 1, v3, star || sx, _, by go_num, rfl, by omega, HM2, Lib.hid (HS4.out.store _ _), Lib.hid (HSA4.out.row_other (by omega) _), Lib.hid ((setRow_other w4 (w.heap.size + 2) w.heap.size _ (by omega)).trans HBX4.out), Lib.hid (texts_row HT4.out (by omega) _), below_setRow hB4 (by omega) _⟩
        case measure => simp [intOf]; omega
    · have hie : ps.length ≤ i := by omega
      have HF : Hid (FieldMid F star p v) := Lib.hid (by rw [← HALL.out i hie]; exact HM.out)
      clear HM HBX' HT'
      by_cases hv : v = 1
      · subst hv
        have HR2 := Lib.hid (HS1.out.store star p)
        go_wp2_with (first | (refine wpList_load_set rfl _ rfl (w.heap.size + 2) star p rfl HS.out ?_) | (refine wpList_store_set rfl _ _ rfl (w.heap.size + 1) star p rfl rfl _ _ HS1.out ?_))
        refine bodyPost_ret (v := .tuple #[.agg (setCells star p), .int .i64 1]) ?_ rfl ?_
        · exact results_set (fn := Tryd.f20) (p := 4) (u := 5) rfl _ _ (w.heap.size + 1) _ _ rfl HR2.out
        exact ⟨star, p, 1, rfl, ⟨HF.out.vs, HF.out.bad, HF.out.fine, fun h => absurd rfl h⟩, below_setRow hbr (by omega) _⟩
      · have hne : (v != 1) = true := by simpa using hv
        have HR2 := Lib.hid (HS1.out.store false noSet)
        have hv0 : v = 0 ∨ v = 2 := by rcases HF.out.vs with h | h | h <;> omega
        have HV0 := Lib.hid hv0
        clear hv hv0
        go_wp2_with (first | (refine wpList_build_set rfl rfl ?_) | (refine wpList_store_set rfl _ _ rfl (w.heap.size + 1) false noSet rfl rfl _ _ HS1.out ?_))
        refine bodyPost_ret (v := .tuple #[.agg (setCells false noSet), .int .i64 v]) ?_ rfl ?_
        · exact results_set (fn := Tryd.f20) (p := 4) (u := 5) rfl _ _ (w.heap.size + 1) _ _ rfl HR2.out
        exact ⟨false, noSet, v, rfl, item_zero HV0.out HF.out.bad, below_setRow hbr (by omega) _⟩

end Go.Proofs.YtikgnpachlgakaaDoor.Cron
