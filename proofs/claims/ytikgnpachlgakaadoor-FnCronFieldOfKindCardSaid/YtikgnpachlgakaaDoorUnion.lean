/- What the reference's CronUnion answers: the set of the values of two sets. -/
import Derived.Test.YtikgnpachlgakaaDoorCronBits
import Derived.Outline
namespace Go.Proofs.YtikgnpachlgakaaDoor.Cron
open Go Go.RowKit Go.Proofs.YtikgnpachlgakaaDoor.Text Go.Proofs.YtikgnpachlgakaaDoor.Bits
set_option linter.unusedVariables false

theorem union_start (pa pb : Nat → Bool) : (fun j => if j < 0 then pa j || pb j else pa j) = pa := by
  funext j
  simp

theorem union_next (pa pb : Nat → Bool) (n : Nat) : (fun i => if i = n then (pa n || pb n) else (if i < n then pa i || pb i else pa i)) = (fun i => if i < n + 1 then pa i || pb i else pa i) := by
  funext i
  by_cases h : i = n
  · subst h
    rw [if_pos rfl, if_pos (by omega)]
  · rw [if_neg h]
    by_cases h2 : i < n
    · rw [if_pos h2, if_pos (by omega)]
    · rw [if_neg h2, if_neg (by omega)]

theorem union_end (sa : Bool) (pa pb : Nat → Bool) (n : Nat) (h : 63 ≤ n) : setCells sa (fun j => if j < n then pa j || pb j else pa j) = setCells sa (fun j => pa j || pb j) :=
  setCells_ext fun j hj => by rw [if_pos (by omega)]

theorem results_one {fn : Func} {p : Tmp} (h : fn.results = #[.cell p 32]) (tmps : Array Value) (w : World) (g : Nat) (st : Bool) (q : Nat → Bool)
    (hp : tmps.getD p undef = .pointer (some ⟨g, 0, none⟩)) (hs : IsSet w g st q) :
    (results fn tmps).run Tryd.prog w = .ok (.agg (setCells st q)) w := by
  have hp' : tmps[p]?.getD undef = .pointer (some ⟨g, 0, none⟩) := by simpa using hp
  simp only [results, h]
  simp [asAddr, hp', run_load_set w g st q hs]

set_option maxRecDepth 100000 in
set_option maxHeartbeats 1000000 in
theorem cronUnion_any (sa sb : Bool) (pa pb : Nat → Bool) (w : World) :
    Calls Tryd.prog 43 #[.agg (setCells sa pa), .agg (setCells sb pb)] w fun e w' => e = .returned (.agg (setCells (sa || sb) (fun j => pa j || pb j))) ∧ Below w.heap.size w w' := by
  have hidx := run_index_in pb
  have hboxa := run_box_set sa pa
  have hboxb := run_box_set sb pb
  have hal := run_alloc_set
  go_enter Tryd.func43, Tryd.ntmps43
  go_upto_region 1 with fail
  generalize hW : World.alloc (World.alloc (World.alloc w _) _) _ = wL
  have HA : Hid (IsSet wL w.heap.size sa pa) := Lib.hid (by
    rw [← hW]
    exact (isSet_new w sa pa).below (((Below.refl _ _).alloc (Nat.le_refl _) _).alloc (by simp) _))
  have HB : Hid (IsSet wL (w.heap.size + 1) sb pb) := Lib.hid (by
    rw [← hW]
    have := isSet_new (w.alloc (.cells (setCells sa pa) 32)) sb pb
    rw [show (w.alloc (.cells (setCells sa pa) 32)).heap.size = w.heap.size + 1 by simp] at this
    exact this.below ((Below.refl _ _).alloc (by simp) _))
  have HR : Hid (IsSet wL (w.heap.size + 2) false noSet) := Lib.hid (by
    rw [← hW]
    have := isSet_lit ((w.alloc (.cells (setCells sa pa) 32)).alloc (.cells (setCells sb pb) 32))
    rw [show ((w.alloc (.cells (setCells sa pa) 32)).alloc (.cells (setCells sb pb) 32)).heap.size = w.heap.size + 2 by simp] at this
    exact this)
  have HW : Hid (Below w.heap.size w wL) := Lib.hid (by
    rw [← hW]
    exact (((Below.refl _ _).alloc (Nat.le_refl _) _).alloc (by simp) _).alloc (by simp; omega) _)
  clear hW
  go_wp2_with (refine wpList_load_in rfl _ rfl (w.heap.size + 1) sb pb rfl HB.out ?_)
  go_loopw [9] (fun v9 wr => ∃ n : Nat, v9 = .int .i64 n ∧ n ≤ 63 ∧ Hid (IsSet wr w.heap.size sa (fun j => if j < n then pa j || pb j else pa j)) ∧ Hid (IsSet wr (w.heap.size + 1) sb pb) ∧ Hid (IsSet wr (w.heap.size + 2) false noSet) ∧ Below w.heap.size w wr) (fun v9 _ => 63 - (intOf v9).toNat)
  case atStart => exact ⟨0, rfl, by omega, Lib.hid (by rw [union_start]; exact HA.out), HB, HR, HW.out⟩
  case round =>
    obtain ⟨n, rfl, hn, HA', HB', HR', hbr⟩ := hrel
    clear HA HB HR HW hboxa hboxb hal
    by_cases h : n < 63
    · have hi := hidx n h
      have hc : wr.cell? ⟨w.heap.size, 1 + n, none⟩ = some (.bool (pa n)) := by
        have := HA'.out.cellAt n h
        rw [if_neg (by omega)] at this
        rw [Nat.add_comm]; exact this
      have hf : wr.frozen? ⟨w.heap.size, 1 + n, none⟩ = false := by rw [Nat.add_comm]; exact HA'.out.free (n + 1)
      have HN := Lib.hid (HA'.out.put n h (pa n || pb n))
      have hunion := union_next pa pb n
      have hne1 : w.heap.size + 1 ≠ w.heap.size := by omega
      have hne2 : w.heap.size + 2 ≠ w.heap.size := by omega
      cases hp : pa n
      all_goals
        rw [hp] at hc
        go_wp2_with fail
        go_roundw
        case rel =>
          refine ⟨n + 1, by go_num, by omega, Lib.hid ?_, Lib.hid (HB'.out.other hne1 _), Lib.hid (HR'.out.other hne2 _), hbr.setCell (Nat.le_refl _) _⟩
          have h1 := HN.out
          rw [hunion, Nat.add_comm n 1, hp] at h1
          rw [Nat.add_comm n 1]
          first | exact h1 | (rw [Nat.add_comm 1 n] at *; simpa using h1)
        case measure => simp [intOf]; omega
    · have he : IsSet wr w.heap.size sa (fun j => pa j || pb j) := by
        have := HA'.out
        unfold IsSet at this ⊢
        rw [union_end sa pa pb n (by omega)] at this
        exact this
      have hca := he.cell0
      have hfa := he.free 0
      have hcb := HB'.out.cell0
      have hne2 : w.heap.size + 2 ≠ w.heap.size := by omega
      cases sa
      · have HL := Lib.hid (he.putStar (false || sb))
        have HR2 := Lib.hid (HR'.out.other (a := ⟨w.heap.size, 0, none⟩) hne2 (.bool (false || sb)))
        have HS2 := Lib.hid (HR2.out.store (false || sb) (fun j => pa j || pb j))
        have hb2 : Below w.heap.size w ((wr.setCell ⟨w.heap.size, 0, none⟩ (.bool (false || sb))).setRow (w.heap.size + 2) (setCells (false || sb) (fun j => pa j || pb j))) := below_setRow (hbr.setCell (Nat.le_refl _) _) (by omega) _
        clear he hbr HA' HB'
        go_wp2_with (first | (refine wpList_load_set rfl _ rfl w.heap.size _ (fun j => pa j || pb j) rfl HL.out ?_) | (refine wpList_store_set rfl _ _ rfl (w.heap.size + 2) _ (fun j => pa j || pb j) rfl rfl _ _ HR2.out ?_))
        refine bodyPost_ret (v := .agg (setCells (false || sb) (fun j => pa j || pb j))) ?_ rfl ?_
        · exact results_one (fn := Tryd.f43) (p := 4) rfl _ _ (w.heap.size + 2) _ _ rfl HS2.out
        exact ⟨rfl, hb2⟩
      · have HL := Lib.hid (he.putStar (true || sb))
        have HR2 := Lib.hid (HR'.out.other (a := ⟨w.heap.size, 0, none⟩) hne2 (.bool (true || sb)))
        have HS2 := Lib.hid (HR2.out.store (true || sb) (fun j => pa j || pb j))
        have hb2 : Below w.heap.size w ((wr.setCell ⟨w.heap.size, 0, none⟩ (.bool (true || sb))).setRow (w.heap.size + 2) (setCells (true || sb) (fun j => pa j || pb j))) := below_setRow (hbr.setCell (Nat.le_refl _) _) (by omega) _
        clear he hbr HA' HB'
        go_wp2_with (first | (refine wpList_load_set rfl _ rfl w.heap.size _ (fun j => pa j || pb j) rfl HL.out ?_) | (refine wpList_store_set rfl _ _ rfl (w.heap.size + 2) _ (fun j => pa j || pb j) rfl rfl _ _ HR2.out ?_))
        refine bodyPost_ret (v := .agg (setCells (true || sb) (fun j => pa j || pb j))) ?_ rfl ?_
        · exact results_one (fn := Tryd.f43) (p := 4) rfl _ _ (w.heap.size + 2) _ _ rfl HS2.out
        exact ⟨rfl, hb2⟩
end Go.Proofs.YtikgnpachlgakaaDoor.Cron
