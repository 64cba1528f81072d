/- Lemmas and walks on the way to the law, merged by wip/tools/pack.py: Sched, ImplN, ImplN2, Sched3, SpecF, SpecD. Conditions: none. -/
import Derived.Test.YtmecbmgfacpecaaGreatDoorGrA
import Derived.Test.YtmecbmgfacpecaaGreatDoorProg
import Derived.Conc.RwLib
import Derived.Conc.MuData
import Derived.KernelRfl
import Derived.Conc.MuLone
import Derived.WalkLawsBesides
import Derived.Test.YtmecbmgfacpecaaGreatDoorGrC
import Derived.Test.YtmecbmgfacpecaaGreatDoorWWords
import Derived.Test.YtmecbmgfacpecaaGreatDoorWLast
import Derived.Test.YtmecbmgfacpecaaGreatDoorWTab
import Derived.Test.YtmecbmgfacpecaaGreatDoorWRepsOne
import Derived.Test.YtmecbmgfacpecaaGreatDoorPrGT
import Derived.Deep.DeepCutAuto
import Derived.Laws.CopyOwn
import Derived.Laws.Rows
import Derived.Laws.Tables
import Derived.Laws.ResultCell
import Derived.ChangeKeysEq
import Derived.Test.YtmecbmgfacpecaaGreatDoorPrA
import Derived.BigQuiet
namespace Go.Proofs.YtmecbmgfacpecaaGreatDoor.Sched
open Go Go.RowKit Go.Proofs.YtmecbmgfacpecaaGreatDoor.Cal
set_option linter.unusedVariables false
set_option linter.unusedSimpArgs false

/-- a schedule of the law: every, delay, six sets -/
structure Sch where
  ev : Bool
  d : Int
  a0 : Int
  a1 : Int
  a2 : Int
  a3 : Int
  a4 : Int
  a5 : Int

def Sch.cells (s : Sch) : Array Value := #[.bool s.ev, .int .i64 s.d, .int .u64 s.a0, .int .u64 s.a1, .int .u64 s.a2, .int .u64 s.a3, .int .u64 s.a4, .int .u64 s.a5]
/-- the schedule as it is read back -/
def Sch.plain (s : Sch) : Array Value :=
  if s.ev = true then #[.bool true, .int .i64 s.d, .int .u64 0, .int .u64 0, .int .u64 0, .int .u64 0, .int .u64 0, .int .u64 0]
  else #[.bool false, .int .i64 0, .int .u64 s.a0, .int .u64 s.a1, .int .u64 s.a2, .int .u64 s.a3, .int .u64 s.a4, .int .u64 s.a5]
def Sch.spec (s : Sch) : Array Value := #[.int .u64 s.a0, .int .u64 s.a1, .int .u64 s.a2, .int .u64 s.a3, .int .u64 s.a4, .int .u64 s.a5, .pointer none]

/-- v is the program's schedule of s -/
def SchIs (w : World) (v : Value) (s : Sch) : Prop :=
  if s.ev = true then v = .iface 174 (.agg #[.int .i64 s.d]) else ∃ g, v = .iface 169 (.pointer (some ⟨g, 0, none⟩)) ∧ w.heap[g]? = some (.cells s.spec 171 (0, 0))

theorem SchIs.below {w w' : World} {v : Value} {s : Sch} (h : SchIs w v s) (hb : Below w.heap.size w w') : SchIs w' v s := by
  unfold SchIs at h ⊢
  split at h
  · rename_i he
    rw [if_pos he]
    exact h
  · rename_i he
    rw [if_neg he]
    obtain ⟨g, h1, h2⟩ := h
    exact ⟨g, h1, (hb.block g (Array.getElem?_eq_some_iff.1 h2).1).trans h2⟩

theorem heap_alloc2 (w : World) (o o' : Obj) : ((w.alloc o).alloc o').heap[w.heap.size + 1]? = some o' := by
  have := heap_alloc_new (w.alloc o) o'
  rw [show (w.alloc o).heap.size = w.heap.size + 1 by simp] at this
  exact this

theorem isZero_any (w : World) :
    Calls Tryz.prog 119 #[.agg #[.int .u64 0, .int .i64 0, .pointer none]] w fun e w' => e = .returned (.bool true) ∧ Below w.heap.size w w' := by
  go_enter Tryz.func119, Tryz.ntmps119
  go_wp2_with fail
  go_ret
  exact ⟨rfl, (Below.refl _ _).alloc (Nat.le_refl _) _⟩

theorem schedule_any (s : Sch) (w : World) :
    Calls Tryz.prog 65 #[.agg s.cells, .pointer none] w fun e w' => ∃ v, e = .returned v ∧ SchIs w' v s ∧ Below w.heap.size w w' := by
  obtain ⟨ev, d, a0, a1, a2, a3, a4, a5⟩ := s
  unfold Sch.cells SchIs Sch.spec
  dsimp only
  cases ev with
  | true =>
    go_enter Tryz.func65, Tryz.ntmps65
    go_wp2_with fail
    go_ret
    exact ⟨_, rfl, by simp, (Below.refl _ _).alloc (Nat.le_refl _) _⟩
  | false =>
    go_enter Tryz.func65, Tryz.ntmps65
    go_wp2_with fail
    go_ret
    refine ⟨_, rfl, ?_, ?_⟩
    · simp only [Bool.false_eq_true, if_false]
      exact ⟨_, rfl, heap_alloc2 _ _ _⟩
    exact ((Below.refl _ _).alloc (Nat.le_refl _) _).alloc (by simp) _
end Go.Proofs.YtmecbmgfacpecaaGreatDoor.Sched

namespace Go.Proofs.YtmecbmgfacpecaaGreatDoor.Cal
open Go Go.RowKit Go.Proofs.YtmecbmgfacpecaaGreatDoorW.PrintWords Go.Proofs.YtmecbmgfacpecaaGreatDoorW.PrintLast
set_option linter.unusedVariables false
set_option linter.unusedSimpArgs false

theorem gUnix_any (s n : Int) (h0 : 0 ≤ n) (h1 : n < 1000000000) (hs0 : -1000000000000 ≤ s) (hs1 : s ≤ 1000000000000) (w : World) :
    Calls Tryz.prog 123 #[.int .i64 s, .int .i64 n] w fun e' w' => e' = .returned (tv n (s + 62135596800) none) ∧ Below w.heap.size w w' := by
  have HU := Lib.hid (fun w' => unixTime_any s n h0 h1 hs0 hs1 w')
  have d1 : decide (n < 0) = false := decide_eq_false (by omega)
  have d2 : decide (1000000000 ≤ n) = false := decide_eq_false (by omega)
  have hw : IntKind.i32.wrap n = n := by rw [IntKind.wrap_i32]; omega
  unfold tv at *
  go_enter Tryz.func123, Tryz.ntmps123
  go_wp2_with fail
  refine (HU.out _).mono ?_
  rintro e' w1 ⟨rfl, hb⟩
  have hrow := (hb.block w.heap.size (by simp)).trans (heap_alloc_new w (.cells #[.int .u64 0, .int .i64 0, .pointer none] 127))
  have hB := below_le ((Below.refl w.heap.size w).alloc (Nat.le_refl _) _) hb
  go_wp2_with (refine wpList_store_row rfl 127 _ _ rfl w.heap.size #[.int .u64 n, .int .i64 (s + 62135596800), .pointer none] rfl rfl 127 _ hrow timeSize rfl (by simp [Value.oneCell']) ?_)
  refine bodyPost_ret (v := .agg #[.int .u64 n, .int .i64 (s + 62135596800), .pointer none]) ?_ rfl ⟨rfl, ?_⟩
  · exact results_time rfl _ _ w.heap.size _ rfl rfl (setRow_heap _ _ _ _ _ _ hrow)
  · exact below_setRow hB (Nat.le_refl _) _

theorem moment_any {l : Option Addr} {off : Int} {Inv : World → Prop} {Loc : World → Nat → Prop} (H : Clock l off Inv Loc) (k : Nat) (s n : Int) (h0 : 0 ≤ n) (h1 : n < 1000000000) (hs0 : -1000000000000 ≤ s) (hs1 : s ≤ 1000000000000) (w : World) (hk : Loc w k) :
    Calls Tryz.prog 66 #[.agg #[.int .i64 s, .int .i64 n], .pointer (some ⟨k, 0, none⟩)] w fun e' w' => e' = .returned (tv n (s + 62135596800) l) ∧ Below w.heap.size w w' := by
  have HU := Lib.hid (fun w' => gUnix_any s n h0 h1 hs0 hs1 w')
  have HI := Lib.hid (fun w' hk' => H.inn n (s + 62135596800) none k w' h0 (by omega) hk')
  have HK := Lib.hid (fun w' (hb : Below w.heap.size w w') => H.locK hk hb)
  clear hk
  unfold tv at *
  go_enter Tryz.func66, Tryz.ntmps66
  go_wp2_with fail
  refine (HU.out _).mono ?_
  rintro e' w1 ⟨rfl, hb⟩
  have hrow := (hb.block (w.heap.size + 1) (by simp)).trans (heap_two w (.cells #[.int .i64 s, .int .i64 n] 50) (.cells #[.int .u64 0, .int .i64 0, .pointer none] 127))
  have hB := below_le (((Below.refl w.heap.size w).alloc (Nat.le_refl _) _).alloc (by simp) _) hb
  clear hb
  go_wp2_with fail
  refine (HI.out _ (HK.out _ hB)).mono ?_
  rintro e' w2 ⟨rfl, hb2⟩
  have hrow2 := (hb2.block _ (Array.getElem?_eq_some_iff.1 hrow).1).trans hrow
  have hB2 := below_le hB hb2
  clear hb2 hrow hB
  go_wp2_with (refine wpList_store_row rfl 127 _ _ rfl (w.heap.size + 1) #[.int .u64 n, .int .i64 (s + 62135596800), .pointer l] rfl rfl 127 _ hrow2 timeSize rfl (by simp [Value.oneCell']) ?_)
  refine bodyPost_ret (v := .agg #[.int .u64 n, .int .i64 (s + 62135596800), .pointer l]) ?_ rfl ⟨rfl, ?_⟩
  · exact results_time rfl _ _ (w.heap.size + 1) _ rfl rfl (setRow_heap _ _ _ _ _ _ hrow2)
  · exact below_setRow hB2 (by omega) _

/-- the zone that names no offsets -/
def utcZone : Value := .agg #[.slice none 0 0, .slice none 0 0, .slice none 0 0, .slice none 0 0]
theorem locationUtc_any (w : World) :
    Calls Tryz.prog 67 #[utcZone] w fun e' w' => ∃ k, e' = .returned (.pointer (some ⟨k, 0, none⟩)) ∧ UtcAt w' k ∧ Below w.heap.size w w' := by
  have HU := Lib.hid (fun w' => utc_any w')
  unfold utcZone
  go_enter Tryz.func67, Tryz.ntmps67
  go_wp2_with fail
  refine (HU.out _).mono ?_
  rintro e' w1 ⟨rfl, u0, u2, hb, hlt⟩
  have hB := below_le ((Below.refl w.heap.size w).alloc (Nat.le_refl _) _) hb
  go_wp2_with fail
  go_ret
  exact ⟨_, rfl, ⟨by simpa using u0, by simpa using u2, by simpa using hlt⟩, hB⟩

theorem tUnix_any (n e : Int) (l : Option Addr) (h0 : 0 ≤ n) (h1 : n < 1073741824) (he0 : -1000000 ≤ e) (he1 : e ≤ 1000000000000) (w : World) :
    Calls Tryz.prog 158 #[tv n e l] w fun e' w' => e' = .returned (.int .i64 (e - 62135596800)) ∧ Below w.heap.size w w' := by
  have HU := Lib.hid (fun (g : Nat) w' hc0 hc1 => unixSec_any g n e w' h0 h1 he0 he1 hc0 hc1)
  unfold tv
  go_enter Tryz.func158, Tryz.ntmps158
  go_wp2_with fail
  refine (HU.out w.heap.size _ (by simp [go_sem]) (by simp [go_sem])).mono ?_
  rintro e' w1 ⟨rfl, rfl⟩
  go_wp2_with fail
  go_ret
  exact ⟨rfl, (Below.refl _ _).alloc (Nat.le_refl _) _⟩

theorem isZeroNo_any (e : Int) (l : Option Addr) (he : 0 < e) (w : World) :
    Calls Tryz.prog 119 #[tv 0 e l] w fun e' w' => e' = .returned (.bool false) ∧ Below w.heap.size w w' := by
  have HS := Lib.hid (fun (g : Nat) w' hc hc1 => sec_any g 0 e w' (by omega) (by omega) hc hc1)
  have d : (e == 0) = false := by simp; omega
  unfold tv
  go_enter Tryz.func119, Tryz.ntmps119
  go_wp2_with fail
  go_ret
  exact ⟨rfl, (Below.refl _ _).alloc (Nat.le_refl _) _⟩
theorem isZeroYes_any (w : World) :
    Calls Tryz.prog 119 #[.agg zcells] w fun e' w' => e' = .returned (.bool true) ∧ Below w.heap.size w w' := Sched.isZero_any w

theorem instSize : (Tryz.prog.info? 50).map (·.size) = some 2 := by kernel_rfl
set_option maxRecDepth 100000 in
set_option maxHeartbeats 4000000 in
theorem plainMoment_any (e : Int) (l : Option Addr) (he0 : 0 ≤ e) (he1 : e ≤ 900000000000) (w : World) :
    Calls Tryz.prog 122 #[tv 0 e l] w fun e' w' => e' = .returned (.agg #[.int .i64 (e - 62135596800), .int .i64 0]) ∧ Below w.heap.size w w' := by
  have HU := Lib.hid (fun w' => tUnix_any 0 e l (by omega) (by omega) (by omega) (by omega) w')
  have HN := Lib.hid (fun w' => tNano_any 0 e l w' (by omega) (by omega))
  unfold tv at *
  go_enter Tryz.func122, Tryz.ntmps122
  go_upto_region 1 with fail
  generalize hW : World.alloc (World.alloc w _) _ = wo
  have hrow : wo.heap[w.heap.size]? = some (.cells #[.int .u64 0, .int .i64 e, .pointer l] 127 (0, 0)) := by rw [← hW]; exact (((Below.refl _ _).alloc (Nat.le_refl _) _).block w.heap.size (by simp)).trans (heap_alloc_new w _)
  have hres : wo.heap[w.heap.size + 1]? = some (.cells #[.int .i64 0, .int .i64 0] 50 (0, 0)) := by rw [← hW]; exact heap_two w _ _
  have hB : Below w.heap.size w wo := by rw [← hW]; exact ((Below.refl _ _).alloc (Nat.le_refl _) _).alloc (by simp) _
  clear hW
  refine start_ (n := 6) (S := fun w' => w'.heap[w.heap.size]? = some (.cells #[.int .u64 0, .int .i64 e, .pointer l] 127 (0, 0)) ∧ Below wo.heap.size wo w') (ds := [5]) #[false, false, false, false, false, false] (by kernel_rfl) rfl rfl ⟨hrow, (Below.refl _ _).drew⟩ (fun hHeld => ?_)
  refine take_ (i := 0) (N := some 3) (v := ?_) (a' := ?_) #[true, false, false, false, false, false] rfl rfl (by kernel_rfl) (fun _ _ _ h => h) (Or.inl ⟨by rfl, ?_⟩) hHeld ?_ ?_
  rotate_left
  · rintro w' ⟨s0, s1⟩
    refine exec_load_row _ _ w' 127 (.tmp 1) ?_ w.heap.size ?_ _ _ _ _ s0 Tryz.underlying127 rfl timeSize
    · rfl
    · rfl
  rotate_left
  · simp only [Act.put, List.setIfInBounds_toArray, List.set_cons_zero, List.set_cons_succ, i64_w, i32_w]
    rfl
  refine take_ (i := 2) (N := some 5) (v := ?_) (a' := ?_) #[true, false, true, false, false, false] rfl rfl (by kernel_rfl) (fun _ _ _ h => h) (Or.inl ⟨by rfl, ?_⟩) hHeld ?_ ?_
  rotate_left
  · rintro w' ⟨s0, s1⟩
    refine exec_load_row _ _ w' 127 (.tmp 1) ?_ w.heap.size ?_ _ _ _ _ s0 Tryz.underlying127 rfl timeSize
    · rfl
    · rfl
  rotate_left
  · simp only [Act.put, List.setIfInBounds_toArray, List.set_cons_zero, List.set_cons_succ, i64_w, i32_w]
    rfl
  refine one_ (i := 1) (N := some 4) #[true, true, true, false, false, false] rfl rfl (by kernel_rfl) (by decide) (fun K hK => ?_)
  refine goes_ Tryz.func158 (by kernel_rfl) rfl #[.agg #[.int .u64 0, .int .i64 e, .pointer l]] (by rfl) rfl rfl (by simp only [List.map_toArray, List.map_cons, List.map_nil]; rfl) ?_
  with_reducible refine (HU.out _).mono ?_
  rintro e2 w2 ⟨rfl, hb1⟩
  refine ⟨_, rfl, ?_⟩
  refine hK.out _ _ ⟨(hb1.block _ (Array.getElem?_eq_some_iff.1 hHeld.1).1).trans hHeld.1, below_le hHeld.2 hb1⟩ (fun hHeld => ?_)
  clear hK K
  refine norm_ (a' := ?_) ?_ ?_
  rotate_left
  · show Act.put _ (some 4) _ = _
    simp only [Act.put, List.setIfInBounds_toArray, List.set_cons_zero, List.set_cons_succ, i64_w, i32_w]
    rfl
  refine one_ (i := 3) (N := some 6) #[true, true, true, true, false, false] rfl rfl (by kernel_rfl) (by decide) (fun K hK => ?_)
  refine goes_ Tryz.func159 (by kernel_rfl) rfl #[.agg #[.int .u64 0, .int .i64 e, .pointer l]] (by rfl) rfl rfl (by simp only [List.map_toArray, List.map_cons, List.map_nil]; rfl) ?_
  with_reducible refine (HN.out _).mono ?_
  rintro e5 w5 ⟨rfl, hb3⟩
  refine ⟨_, rfl, ?_⟩
  refine hK.out _ _ ⟨(hb3.block _ (Array.getElem?_eq_some_iff.1 hHeld.1).1).trans hHeld.1, below_le hHeld.2 hb3⟩ (fun hHeld => ?_)
  clear hK K
  refine norm_ (a' := ?_) ?_ ?_
  rotate_left
  · show Act.put _ (some 6) _ = _
    simp only [Act.put, List.setIfInBounds_toArray, List.set_cons_zero, List.set_cons_succ, i64_w, i32_w]
    rfl
  refine pure_ (i := 4) (N := some 7) (v := ?_) (a' := ?_) #[true, true, true, true, true, false] rfl rfl (by kernel_rfl) (fun _ _ _ h => h) (Or.inl ⟨by rfl, ?_⟩) ?_ ?_
  rotate_left
  · intro w'
    go_simp
    with_reducible rfl
  rotate_left
  · simp only [Act.put, List.setIfInBounds_toArray, List.set_cons_zero, List.set_cons_succ, i64_w, i32_w]
    rfl
  refine last_ (i := 5) (N := none) #[true, true, true, true, true, true] rfl rfl (by kernel_rfl) (by decide) (fun K hK => ?_)
  rw [if_pos (by rfl)]
  refine wp_store_row 50 _ _ rfl (w.heap.size + 1) #[.int .i64 (e - 62135596800), .int .i64 0] rfl rfl 50 _ ((hHeld.2.block _ (Array.getElem?_eq_some_iff.1 hres).1).trans hres) instSize rfl (by simp [Value.oneCell']) ?_
  refine hK.out _ _ ?_
  clear hK K
  refine done_ (by kernel_rfl) ?_
  go_wp2_with fail
  have hres6 := (hHeld.2.block _ (Array.getElem?_eq_some_iff.1 hres).1).trans hres
  refine bodyPost_ret (v := .agg #[.int .i64 (e - 62135596800), .int .i64 0]) ?_ rfl ⟨rfl, ?_⟩
  · exact results_cell_row (fn := Tryz.f122) (p := 2) rfl _ _ (w.heap.size + 1) _ _ _ _ rfl (setRow_heap _ _ _ _ _ _ hres6) Tryz.underlying50 rfl instSize
  · exact below_setRow (below_le hB hHeld.2) (by omega) _

/-- what an answer of the search is to the caller -/
def ansI (off : Int) : Option Int → Array Value
  | none => #[.int .i64 0, .int .i64 0]
  | some L => #[.int .i64 (L - off), .int .i64 0]

theorem results_inst {fn : Func} {p u : Tmp} (h : fn.results = #[.cell p 50, .tmp u]) (tmps : Array Value) (w : World) (g : Nat) (cs : Array Value) (h2 : cs.size = 2)
    (hp : tmps.getD p undef = .pointer (some ⟨g, 0, none⟩)) (hs : w.heap[g]? = some (.cells cs 50 (0, 0))) :
    (results fn tmps).run Tryz.prog w = .ok (.tuple #[.agg cs, tmps.getD u undef]) w := by
  rw [results_cell_tmp h, hp]
  simp only [asAddr, Sem.run_pure, Result.andThen_ok, run_loadVar_row w g _ _ _ _ _ hs Tryz.underlying50 rfl (by rw [instSize, h2])]

theorem answer_any (l : Option Addr) (off : Int) (r : Option Int) (hr : ∀ L, r = some L → 0 < L + 62135596800 - off ∧ L + 62135596800 - off ≤ 900000000000) (w : World) :
    Calls Tryz.prog 64 #[ansT l off r] w fun e' w' => e' = .returned (.tuple #[.agg (ansI off r), .bool r.isSome]) ∧ Below w.heap.size w w' := by
  cases r with
  | none =>
    have HZ := Lib.hid (fun w' => isZeroYes_any w')
    unfold ansT ansI zcells at *
    go_enter Tryz.func64, Tryz.ntmps64
    go_wp2_with fail
    refine (HZ.out _).mono ?_
    rintro e' w1 ⟨rfl, hb⟩
    have hres := (hb.block (w.heap.size + 1) (by simp)).trans (heap_two w (.cells #[.int .u64 0, .int .i64 0, .pointer none] 127) (.cells #[.int .i64 0, .int .i64 0] 50))
    have hB := below_le (((Below.refl w.heap.size w).alloc (Nat.le_refl _) _).alloc (by simp) _) hb
    clear hb
    go_wp2_with (refine wpList_store_row rfl 50 _ _ rfl (w.heap.size + 1) #[.int .i64 0, .int .i64 0] rfl rfl 50 _ hres instSize rfl (by simp [Value.oneCell']) ?_)
    refine bodyPost_ret (v := .tuple #[.agg #[.int .i64 0, .int .i64 0], .bool false]) ?_ rfl ⟨rfl, ?_⟩
    · exact results_inst (fn := Tryz.f64) (p := 2) (u := 3) rfl _ _ (w.heap.size + 1) _ rfl rfl (setRow_heap _ _ _ _ _ _ hres)
    · exact below_setRow hB (by omega) _
  | some L =>
    obtain ⟨h0, h1⟩ := hr L rfl
    have HZ := Lib.hid (fun w' => isZeroNo_any (L + 62135596800 - off) l h0 w')
    have HP := Lib.hid (fun w' => plainMoment_any (L + 62135596800 - off) l (by omega) h1 w')
    rw [show L + 62135596800 - off - 62135596800 = L - off by omega] at HP
    unfold ansT ansI tcells tv at *
    dsimp only at *
    generalize L + 62135596800 - off = E at *
    go_enter Tryz.func64, Tryz.ntmps64
    go_wp2_with fail
    refine (HZ.out _).mono ?_
    rintro e' w1 ⟨rfl, hb⟩
    have hrow := (hb.block w.heap.size (by simp; omega)).trans ((((Below.refl _ _).alloc (Nat.le_refl _) _).block w.heap.size (by simp)).trans (heap_alloc_new w (.cells #[.int .u64 0, .int .i64 E, .pointer l] 127)))
    have hres := (hb.block (w.heap.size + 1) (by simp)).trans (heap_two w (.cells #[.int .u64 0, .int .i64 E, .pointer l] 127) (.cells #[.int .i64 0, .int .i64 0] 50))
    have hB := below_le (((Below.refl w.heap.size w).alloc (Nat.le_refl _) _).alloc (by simp) _) hb
    clear hb
    go_wp2_with (refine wpList_load_row rfl 127 _ rfl w.heap.size rfl _ _ _ _ hrow Tryz.underlying127 rfl timeSize ?_)
    refine (HP.out _).mono ?_
    rintro e' w2 ⟨rfl, hb2⟩
    have hres2 := (hb2.block _ (Array.getElem?_eq_some_iff.1 hres).1).trans hres
    have hB2 := below_le hB hb2
    clear hb2 hB
    go_wp2_with (refine wpList_store_row rfl 50 _ _ rfl (w.heap.size + 1) #[.int .i64 (L - off), .int .i64 0] rfl rfl 50 _ hres2 instSize rfl (by simp [Value.oneCell']) ?_)
    refine bodyPost_ret (v := .tuple #[.agg #[.int .i64 (L - off), .int .i64 0], .bool true]) ?_ rfl ⟨rfl, ?_⟩
    · exact results_inst (fn := Tryz.f64) (p := 2) (u := 3) rfl _ _ (w.heap.size + 1) _ rfl rfl (setRow_heap _ _ _ _ _ _ hres2)
    · exact below_setRow hB2 (by omega) _
end Go.Proofs.YtmecbmgfacpecaaGreatDoor.Cal

namespace Go.Proofs.YtmecbmgfacpecaaGreatDoor.Cal
open Go Go.RowKit Go.Proofs.YtmecbmgfacpecaaGreatDoorW.PrintWords Go.Proofs.YtmecbmgfacpecaaGreatDoorW.PrintLast Go.Proofs.YtmecbmgfacpecaaGreatDoor.Sched
set_option linter.unusedVariables false
set_option linter.unusedSimpArgs false

/-- the thin package's zone zv has one offset, off -/
def ZoneGives (zv : Value) (off : Int) : Prop := ∀ w : World, Calls Tryz.prog 67 #[zv] w fun e w2 =>
  ∃ (l : Option Addr) (Inv : World → Prop) (Loc : World → Nat → Prop) (k : Nat), Clock l off Inv Loc ∧ LocS Loc ∧ e = .returned (.pointer (some ⟨k, 0, none⟩)) ∧ Loc w2 k ∧ Inv w2 ∧ Below w.heap.size w w2
theorem zone_utc : ZoneGives utcZone 0 := fun w => (locationUtc_any w).mono fun _ _ ⟨k, h1, h2, h3⟩ => ⟨none, _, _, k, clock_utc, locS_utc, h1, h2, trivial, h3⟩

theorem schedSize : (Tryz.prog.info? 26).map (·.size) = some 8 := by kernel_rfl
theorem zoneSize : (Tryz.prog.info? 71).map (·.size) = some 4 := by kernel_rfl
theorem ansI_size (off : Int) (r : Option Int) : (ansI off r).size = 2 := by cases r <;> rfl
theorem ansI_one (off : Int) (r : Option Int) : (ansI off r).all (·.oneCell') = true := by cases r <;> simp [ansI, Value.oneCell']

/-- a schedule of six sets, as the program is given it -/
def setsCells (d : Int) (S : Sets) : Array Value := #[.bool false, .int .i64 d, .int .u64 (S.sec : Int), .int .u64 (S.min : Int), .int .u64 (S.hour : Int), .int .u64 (S.dom : Int), .int .u64 (S.month : Int), .int .u64 (S.dow : Int)]

theorem schedSets_any (d : Int) (S : Sets) (w : World) :
    Calls Tryz.prog 65 #[.agg (setsCells d S), .pointer none] w fun e w' => ∃ g, e = .returned (.iface 169 (.pointer (some ⟨g, 0, none⟩))) ∧ SpecRow w' g S none ∧ Below w.heap.size w w' := by
  refine (schedule_any ⟨false, d, S.sec, S.min, S.hour, S.dom, S.month, S.dow⟩ w).mono ?_
  rintro e w' ⟨v, rfl, hs, hb⟩
  unfold SchIs at hs
  rw [if_neg (by simp)] at hs
  obtain ⟨g, rfl, hg⟩ := hs
  exact ⟨g, rfl, hg, hb⟩

theorem year_top {L : Int} (h : L ≤ 253402300800 + 86400) : yearL L ≤ 10000 := by
  have := year_mono h
  have e : yearL (253402300800 + 86400) = 10000 := (date_eq (L := 253402300800 + 86400) (y := 10000) (m := 1) (d := 2) ⟨by omega, by omega, by omega, by decide⟩ (by decide)).1
  omega

set_option maxRecDepth 100000 in
set_option maxHeartbeats 4000000 in
theorem implNext_any (z0 z1 z2 z3 : Value) (off : Int) (hz : ZoneGives (.agg #[z0, z1, z2, z3]) off) (d : Int) (S : Sets) (hS : S.ok) (sec nano : Int) (s0 : -62135596800 ≤ sec) (s1 : sec ≤ 253402300799) (n0 : 0 ≤ nano) (n1 : nano < 1000000000)
    (o0 : -86400 ≤ off) (o1 : off ≤ 86400) (o60 : off % 60 = 0) (hy : 0 ≤ off ∨ ∀ x, monthB S x = true) (w : World) :
    Calls Tryz.prog 27 #[.agg (setsCells d S), .agg #[.int .i64 sec, .int .i64 nano], .agg #[z0, z1, z2, z3]] w fun e w' => ∃ r : Option Int, Least S (sec + 1 + off) (yearL (sec + 1 + off) + 5) r ∧ e = .returned (.tuple #[.agg (ansI off r), .bool r.isSome]) ∧ Below w.heap.size w w' := by
  have HSC := Lib.hid (fun w' => schedSets_any d S w')
  have HZ := Lib.hid (fun w' => hz w')
  have hmf : ∀ (fn : Fn) (first cap : Array Value) (w : World), (Instr.makeFunc fn first cap).run Tryz.prog w = .ok (.func fn first cap) w := fun _ _ _ _ => rfl
  have hlim : yearL (sec + 1 + off) + 5 ≤ 10010 := by have := year_top (L := sec + 1 + off) (by omega); omega
  have hy1 : 1 ≤ yearL (sec + 1 + off) ∨ ∀ x, monthB S x = true := by
    rcases hy with h | h
    · exact .inl (year_one (by omega))
    · exact .inr h
  have HPAR : Hid (∀ (Inv : World → Prop) (w' : World) (g : Nat), Inv w' → SpecRow w' g S none → Par off Inv w' g S (sec + 1 + off) (yearL (sec + 1 + off) + 5)) := Lib.hid (fun Inv w' g hI hg => ⟨hI, hg, hS, by omega, o0, o1, by omega, hlim, hy1⟩)
  have HL : Hid (∀ r, Least S (sec + 1 + off) (yearL (sec + 1 + off) + 5) r → ∀ L, r = some L → 0 < L + 62135596800 - off ∧ L + 62135596800 - off ≤ 900000000000) := Lib.hid (by
    rintro r hr L rfl
    obtain ⟨h1, h2, h3, h4⟩ := hr
    have h5 := lim_lt (L := L) (y := 10011) (by omega)
    rw [show ystart (10011 + 1) = 2937280 from by decide] at h5
    exact ⟨by omega, by omega⟩)
  clear hlim hy1 hy hz
  go_enter Tryz.func27, Tryz.ntmps27
  go_upto_region 1 with fail
  generalize hW : World.alloc (World.alloc (World.alloc (World.alloc w _) _) _) _ = wo
  have hr0 : wo.heap[w.heap.size]? = some (.cells (setsCells d S) 26 (0, 0)) := by
    rw [← hW, Below.heap_alloc _ _ _ (by simp; try omega), Below.heap_alloc _ _ _ (by simp; try omega), Below.heap_alloc _ _ _ (by simp)]
    exact heap_alloc_new w _
  have hr1 : wo.heap[w.heap.size + 1]? = some (.cells #[.int .i64 sec, .int .i64 nano] 50 (0, 0)) := by
    rw [← hW, Below.heap_alloc _ _ _ (by simp; try omega), Below.heap_alloc _ _ _ (by simp)]
    exact heap_two w _ _
  have hr2 : wo.heap[w.heap.size + 1 + 1]? = some (.cells #[z0, z1, z2, z3] 71 (0, 0)) := by
    rw [← hW, Below.heap_alloc _ _ _ (by simp)]
    have := heap_two (w.alloc (.cells (setsCells d S) 26)) (.cells #[.int .i64 sec, .int .i64 nano] 50) (.cells #[z0, z1, z2, z3] 71)
    rw [show (w.alloc (.cells (setsCells d S) 26)).heap.size = w.heap.size + 1 by simp] at this
    exact this
  have hres : wo.heap[w.heap.size + 1 + 1 + 1]? = some (.cells #[.int .i64 0, .int .i64 0] 50 (0, 0)) := by
    rw [← hW]
    have := heap_two ((w.alloc (.cells (setsCells d S) 26)).alloc (.cells #[.int .i64 sec, .int .i64 nano] 50)) (.cells #[z0, z1, z2, z3] 71) (.cells #[.int .i64 0, .int .i64 0] 50)
    rw [show ((w.alloc (.cells (setsCells d S) 26)).alloc (.cells #[.int .i64 sec, .int .i64 nano] 50)).heap.size = w.heap.size + 1 + 1 by simp] at this
    exact this
  have hB : Below w.heap.size w wo := by
    rw [← hW]
    exact ((((Below.refl _ _).alloc (Nat.le_refl _) _).alloc (by simp) _).alloc (by simp only [World.alloc]; simp; try omega) _).alloc (by simp; try omega) _
  clear hW
  refine start_ (n := 15) (S := fun w' => w'.heap[w.heap.size]? = some (.cells (setsCells d S) 26 (0, 0)) ∧ w'.heap[w.heap.size + 1]? = some (.cells #[.int .i64 sec, .int .i64 nano] 50 (0, 0)) ∧ w'.heap[w.heap.size + 1 + 1]? = some (.cells #[z0, z1, z2, z3] 71 (0, 0)) ∧ Below wo.heap.size wo w') (ds := [13]) #[false, false, false, false, false, false, false, false, false, false, false, false, false, false, false] (by kernel_rfl) rfl rfl ⟨hr0, hr1, hr2, (Below.refl _ _).drew⟩ (fun hHeld => ?_)
  refine take_ (i := 0) (N := some 8) (v := ?_) (a' := ?_) #[true, false, false, false, false, false, false, false, false, false, false, false, false, false, false] rfl rfl (by kernel_rfl) (fun _ _ _ h => h) (Or.inl ⟨by rfl, ?_⟩) hHeld ?_ ?_
  rotate_left
  · rintro w' ⟨s0, s1, s2, s3⟩
    refine exec_load_row _ _ w' 26 (.tmp 3) ?_ (w.heap.size) ?_ _ _ _ _ s0 Tryz.underlying26 rfl schedSize
    · rfl
    · rfl
  rotate_left
  · simp only [Act.put, List.setIfInBounds_toArray, List.set_cons_zero, List.set_cons_succ, i64_w, i32_w]
    rfl
  refine take_ (i := 2) (N := some 10) (v := ?_) (a' := ?_) #[true, false, true, false, false, false, false, false, false, false, false, false, false, false, false] rfl rfl (by kernel_rfl) (fun _ _ _ h => h) (Or.inl ⟨by rfl, ?_⟩) hHeld ?_ ?_
  rotate_left
  · rintro w' ⟨s0, s1, s2, s3⟩
    refine exec_load_row _ _ w' 50 (.tmp 4) ?_ (w.heap.size + 1) ?_ _ _ _ _ s1 Tryz.underlying50 rfl instSize
    · rfl
    · rfl
  rotate_left
  · simp only [Act.put, List.setIfInBounds_toArray, List.set_cons_zero, List.set_cons_succ, i64_w, i32_w]
    rfl
  refine take_ (i := 3) (N := some 11) (v := ?_) (a' := ?_) #[true, false, true, true, false, false, false, false, false, false, false, false, false, false, false] rfl rfl (by kernel_rfl) (fun _ _ _ h => h) (Or.inl ⟨by rfl, ?_⟩) hHeld ?_ ?_
  rotate_left
  · rintro w' ⟨s0, s1, s2, s3⟩
    refine exec_load_row _ _ w' 71 (.tmp 5) ?_ (w.heap.size + 1 + 1) ?_ _ _ _ _ s2 Tryz.underlying71 rfl zoneSize
    · rfl
    · rfl
  rotate_left
  · simp only [Act.put, List.setIfInBounds_toArray, List.set_cons_zero, List.set_cons_succ, i64_w, i32_w]
    rfl
  refine one_ (i := 1) (N := some 9) #[true, true, true, true, false, false, false, false, false, false, false, false, false, false, false] rfl rfl (by kernel_rfl) (by decide) (fun K hK => ?_)
  refine goes_ Tryz.func65 (by kernel_rfl) rfl #[.agg (setsCells d S), .pointer none] (by rfl) rfl rfl (by simp only [List.map_toArray, List.map_cons, List.map_nil]; rfl) ?_
  with_reducible refine (HSC.out _).mono ?_
  rintro e1 w1 ⟨g, rfl, hg1, hb1⟩
  refine ⟨_, rfl, ?_⟩
  have hna : ∀ w' : World, (nilAhead 498 169 (.pointer (some ⟨g, 0, none⟩)) "Next").run Tryz.prog w' = .ok (some false) w' := fun w' => by rfl
  refine hK.out _ _ ⟨(hb1.block _ (Array.getElem?_eq_some_iff.1 hHeld.1).1).trans hHeld.1, (hb1.block _ (Array.getElem?_eq_some_iff.1 hHeld.2.1).1).trans hHeld.2.1, (hb1.block _ (Array.getElem?_eq_some_iff.1 hHeld.2.2.1).1).trans hHeld.2.2.1, below_le hHeld.2.2.2 hb1⟩ (fun hHeld => ?_)
  clear hK K
  refine norm_ (a' := ?_) ?_ ?_
  rotate_left
  · show Act.put _ (some 9) _ = _
    simp only [Act.put, List.setIfInBounds_toArray, List.set_cons_zero, List.set_cons_succ, i64_w, i32_w]
    rfl
  refine pure_ (i := 6) (N := some 14) (v := ?_) (a' := ?_) #[true, true, true, true, false, false, true, false, false, false, false, false, false, false, false] rfl rfl (by kernel_rfl) (fun _ _ _ h => h) (Or.inl ⟨by rfl, ?_⟩) ?_ ?_
  rotate_left
  · intro w'
    go_simp
    with_reducible rfl
  rotate_left
  · simp only [Act.put, List.setIfInBounds_toArray, List.set_cons_zero, List.set_cons_succ, i64_w, i32_w]
    rfl
  refine pure_ (i := 7) (N := some 15) (v := ?_) (a' := ?_) #[true, true, true, true, false, false, true, true, false, false, false, false, false, false, false] rfl rfl (by kernel_rfl) (fun _ _ _ h => h) (Or.inl ⟨by rfl, ?_⟩) ?_ ?_
  rotate_left
  · intro w'
    go_simp
    with_reducible rfl
  rotate_left
  · simp only [Act.put, List.setIfInBounds_toArray, List.set_cons_zero, List.set_cons_succ, i64_w, i32_w]
    rfl
  refine pure_ (i := 8) (N := some 16) (v := ?_) (a' := ?_) #[true, true, true, true, false, false, true, true, true, false, false, false, false, false, false] rfl rfl (by kernel_rfl) (fun _ _ _ h => h) (Or.inl ⟨by rfl, ?_⟩) ?_ ?_
  rotate_left
  · intro w'
    go_simp
    with_reducible rfl
  rotate_left
  · simp only [Act.put, List.setIfInBounds_toArray, List.set_cons_zero, List.set_cons_succ, i64_w, i32_w]
    rfl
  refine one_ (i := 4) (N := some 12) #[true, true, true, true, true, false, true, true, true, false, false, false, false, false, false] rfl rfl (by kernel_rfl) (by decide) (fun K hK => ?_)
  refine goes_ Tryz.func67 (by kernel_rfl) rfl #[.agg #[z0, z1, z2, z3]] (by rfl) rfl rfl (by simp only [List.map_toArray, List.map_cons, List.map_nil]; rfl) ?_
  with_reducible refine (HZ.out _).mono ?_
  rintro e4 w4 ⟨l, Inv, Loc, k, H, hls, rfl, hk, hI4, hb4⟩
  refine ⟨_, rfl, ?_⟩
  have hg4 := hg1.below hb4
  refine hK.out _ _ ⟨(hb4.block _ (Array.getElem?_eq_some_iff.1 hHeld.1).1).trans hHeld.1, (hb4.block _ (Array.getElem?_eq_some_iff.1 hHeld.2.1).1).trans hHeld.2.1, (hb4.block _ (Array.getElem?_eq_some_iff.1 hHeld.2.2.1).1).trans hHeld.2.2.1, below_le hHeld.2.2.2 hb4⟩ (fun hHeld => ?_)
  clear hK K
  refine norm_ (a' := ?_) ?_ ?_
  rotate_left
  · show Act.put _ (some 12) _ = _
    simp only [Act.put, List.setIfInBounds_toArray, List.set_cons_zero, List.set_cons_succ, i64_w, i32_w]
    rfl
  refine one_ (i := 5) (N := some 13) #[true, true, true, true, true, true, true, true, true, false, false, false, false, false, false] rfl rfl (by kernel_rfl) (by decide) (fun K hK => ?_)
  refine goes_ Tryz.func66 (by kernel_rfl) rfl #[.agg #[.int .i64 sec, .int .i64 nano], .pointer (some ⟨k, 0, none⟩)] (by rfl) rfl rfl (by simp only [List.map_toArray, List.map_cons, List.map_nil]; rfl) ?_
  with_reducible refine (moment_any H k sec nano n0 n1 (by omega) (by omega) _ hk).mono ?_
  rintro e5 w5 ⟨rfl, hb5⟩
  refine ⟨_, rfl, ?_⟩
  have hg5 := hg4.below hb5
  have hI5 := H.abs.keeps hI4 hb5
  refine hK.out _ _ ⟨(hb5.block _ (Array.getElem?_eq_some_iff.1 hHeld.1).1).trans hHeld.1, (hb5.block _ (Array.getElem?_eq_some_iff.1 hHeld.2.1).1).trans hHeld.2.1, (hb5.block _ (Array.getElem?_eq_some_iff.1 hHeld.2.2.1).1).trans hHeld.2.2.1, below_le hHeld.2.2.2 hb5⟩ (fun hHeld => ?_)
  clear hK K
  refine norm_ (a' := ?_) ?_ ?_
  rotate_left
  · show Act.put _ (some 13) _ = _
    simp only [Act.put, List.setIfInBounds_toArray, List.set_cons_zero, List.set_cons_succ, i64_w, i32_w]
    rfl
  refine one_ (i := 9) (N := some 17) #[true, true, true, true, true, true, true, true, true, true, false, false, false, false, false] rfl rfl (by kernel_rfl) (by decide) (fun K hK => ?_)
  refine call_ (f := 249) #[.pointer (some ⟨g, 0, none⟩), .agg #[.int .u64 nano, .int .i64 (sec + 62135596800), .pointer l]] (by rfl) rfl (by go_simp; rfl) ?_
  refine (next_any H hls (HPAR.out Inv _ g hI5 hg5) o60 nano (sec + 62135596800) n0 n1 (by omega) (by omega) (by omega) rfl).mono ?_
  rintro e9 w9 ⟨r, hr, rfl, hb9⟩
  refine ⟨_, rfl, ?_⟩
  refine hK.out _ _ ⟨(hb9.block _ (Array.getElem?_eq_some_iff.1 hHeld.1).1).trans hHeld.1, (hb9.block _ (Array.getElem?_eq_some_iff.1 hHeld.2.1).1).trans hHeld.2.1, (hb9.block _ (Array.getElem?_eq_some_iff.1 hHeld.2.2.1).1).trans hHeld.2.2.1, below_le hHeld.2.2.2 hb9⟩ (fun hHeld => ?_)
  clear hK K
  refine norm_ (a' := ?_) ?_ ?_
  rotate_left
  · show Act.put _ (some 17) _ = _
    simp only [Act.put, List.setIfInBounds_toArray, List.set_cons_zero, List.set_cons_succ, i64_w, i32_w]
    rfl
  refine one_ (i := 10) (N := some 18) #[true, true, true, true, true, true, true, true, true, true, true, false, false, false, false] rfl rfl (by kernel_rfl) (by decide) (fun K hK => ?_)
  refine goes_ Tryz.func64 (by kernel_rfl) rfl #[ansT l off r] (by rfl) rfl rfl (by simp only [List.map_toArray, List.map_cons, List.map_nil]; rfl) ?_
  with_reducible refine (answer_any l off r (HL.out r hr) _).mono ?_
  rintro e10 w10 ⟨rfl, hb10⟩
  refine ⟨_, rfl, ?_⟩
  refine hK.out _ _ ⟨(hb10.block _ (Array.getElem?_eq_some_iff.1 hHeld.1).1).trans hHeld.1, (hb10.block _ (Array.getElem?_eq_some_iff.1 hHeld.2.1).1).trans hHeld.2.1, (hb10.block _ (Array.getElem?_eq_some_iff.1 hHeld.2.2.1).1).trans hHeld.2.2.1, below_le hHeld.2.2.2 hb10⟩ (fun hHeld => ?_)
  clear hK K
  refine norm_ (a' := ?_) ?_ ?_
  rotate_left
  · show Act.put _ (some 18) _ = _
    simp only [Act.put, List.setIfInBounds_toArray, List.set_cons_zero, List.set_cons_succ, i64_w, i32_w]
    rfl
  refine pure_ (i := 11) (N := some 19) (v := ?_) (a' := ?_) #[true, true, true, true, true, true, true, true, true, true, true, true, false, false, false] rfl rfl (by kernel_rfl) (fun _ _ _ h => h) (Or.inl ⟨by rfl, ?_⟩) ?_ ?_
  rotate_left
  · intro w'
    go_simp
    with_reducible rfl
  rotate_left
  · simp only [Act.put, List.setIfInBounds_toArray, List.set_cons_zero, List.set_cons_succ, i64_w, i32_w]
    rfl
  refine pure_ (i := 12) (N := some 20) (v := ?_) (a' := ?_) #[true, true, true, true, true, true, true, true, true, true, true, true, true, false, false] rfl rfl (by kernel_rfl) (fun _ _ _ h => h) (Or.inl ⟨by rfl, ?_⟩) ?_ ?_
  rotate_left
  · intro w'
    go_simp
    with_reducible rfl
  rotate_left
  · simp only [Act.put, List.setIfInBounds_toArray, List.set_cons_zero, List.set_cons_succ, i64_w, i32_w]
    rfl
  refine last_ (i := 13) (N := none) #[true, true, true, true, true, true, true, true, true, true, true, true, true, true, false] rfl rfl (by kernel_rfl) (by decide) (fun K hK => ?_)
  rw [if_pos (by rfl)]
  refine wp_store_row 50 _ _ rfl (w.heap.size + 1 + 1 + 1) (ansI off r) rfl rfl 50 #[.int .i64 0, .int .i64 0] ((hHeld.2.2.2.block _ (Array.getElem?_eq_some_iff.1 hres).1).trans hres) (by rw [ansI_size]; exact instSize) (by rw [ansI_size]; rfl) (ansI_one off r) ?_
  refine hK.out _ _ ?_
  clear hK K
  refine pure_ (i := 14) (N := some 7) (v := ?_) (a' := ?_) #[true, true, true, true, true, true, true, true, true, true, true, true, true, true, true] rfl rfl (by kernel_rfl) (fun _ _ _ h => h) (Or.inl ⟨by rfl, ?_⟩) ?_ ?_
  rotate_left
  · intro w'
    go_simp
    with_reducible rfl
  rotate_left
  · simp only [Act.put, List.setIfInBounds_toArray, List.set_cons_zero, List.set_cons_succ, i64_w, i32_w]
    rfl
  refine done_ (by kernel_rfl) ?_
  go_wp2_with fail
  have hres6 := (hHeld.2.2.2.block _ (Array.getElem?_eq_some_iff.1 hres).1).trans hres
  refine bodyPost_ret (v := .tuple #[.agg (ansI off r), .bool r.isSome]) ?_ rfl ⟨r, hr, rfl, ?_⟩
  · exact results_inst (fn := Tryz.f27) (p := 6) (u := 7) rfl _ _ (w.heap.size + 1 + 1 + 1) _ (ansI_size off r) rfl (setRow_heap _ _ _ _ _ _ hres6)
  · exact below_setRow (below_le hB hHeld.2.2.2) (by omega) _
end Go.Proofs.YtmecbmgfacpecaaGreatDoor.Cal

namespace Go.Proofs.YtmecbmgfacpecaaGreatDoor.Sched
open Go Go.RowKit Go.Proofs.YtmecbmgfacpecaaGreatDoor.Cal Go.Proofs.YtmecbmgfacpecaaGreatDoorW.PrintWords Go.Proofs.YtmecbmgfacpecaaGreatDoorW.PrintLast
set_option linter.unusedVariables false
set_option linter.unusedSimpArgs false

theorem below_of_le {W w1 w2 : World} (h1 : Below W.heap.size W w1) (h2 : Below w1.heap.size w1 w2) : Below W.heap.size W w2 :=
  h1.trans (h2.mono h1.size)

section
variable {P : Program}
end

end Go.Proofs.YtmecbmgfacpecaaGreatDoor.Sched

namespace Go.Proofs.YtmecbmgfacpecaaGreatDoor.CronN
open Go Go.RowKit Go.Proofs.YtmecbmgfacpecaaGreatDoorW.PrintWords Go.Proofs.YtmecbmgfacpecaaGreatDoorW.PrintLast Go.Proofs.YtmecbmgfacpecaaGreatDoor.Cal Go.Proofs.YtmecbmgfacpecaaGreatDoor.Pr
set_option linter.unusedVariables false
set_option linter.unusedSimpArgs false

theorem drawn_below {w w' : World} (h : Drawn0 w w') : Below w.heap.size w w' := by
  first
    | exact h
    | (obtain ⟨n, rfl⟩ := h; exact pw_below_drewN (Below.refl _ _) n)
/-! ### The six fields -/
end Go.Proofs.YtmecbmgfacpecaaGreatDoor.CronN

namespace Go.Proofs.YtmecbmgfacpecaaGreatDoor.CronN
open Go Go.RowKit Go.Proofs.YtmecbmgfacpecaaGreatDoorW.PrintWords Go.Proofs.YtmecbmgfacpecaaGreatDoorW.PrintLast Go.Proofs.YtmecbmgfacpecaaGreatDoor.Cal Go.Proofs.YtmecbmgfacpecaaGreatDoor.Pr
set_option linter.unusedVariables false
set_option linter.unusedSimpArgs false

theorem fd (a b : Int) (hb : 0 < b) : (if Int.tmod a b < 0 then Int.tdiv a b - 1 else Int.tdiv a b) = a / b := by
  by_cases h : 0 ≤ a
  · rw [Int.tdiv_eq_ediv_of_nonneg h, Int.tmod_eq_emod_of_nonneg h]
    have := Int.emod_nonneg a (by omega : b ≠ 0)
    rw [if_neg (by omega)]
  · obtain ⟨n, rfl⟩ : ∃ n, a = -n := ⟨-a, by omega⟩
    have hn : 0 < n := by omega
    rw [Int.neg_tdiv, Int.neg_tmod, Int.tdiv_eq_ediv_of_nonneg (by omega), Int.tmod_eq_emod_of_nonneg (by omega)]
    have h1 := Int.emod_nonneg n (by omega : b ≠ 0)
    have h2 := Int.emod_lt_of_pos n hb
    have h3 := Int.mul_ediv_add_emod n b
    generalize n / b = q at *
    generalize n % b = r at *
    symm
    split
    · refine ((Int.ediv_emod_unique (a := -n) (b := b) (r := b - r) (q := -q - 1) hb).2 ⟨?_, by omega, by omega⟩).1
      rw [Int.mul_sub, Int.mul_neg]
      omega
    · refine ((Int.ediv_emod_unique (a := -n) (b := b) (r := 0) (q := -q) hb).2 ⟨?_, by omega, by omega⟩).1
      rw [Int.mul_neg]
      omega

theorem w64 {x : Int} (h0 : -9223372036854775808 ≤ x) (h1 : x < 9223372036854775808) : wrap64 x = x := by unfold wrap64; omega
/-- for the divisors that the reference uses -/
theorem floorDiv_f (a b : Int) (hb : 0 < b) (hq : -4611686018427387904 ≤ a / b ∧ a / b ≤ 4611686018427387904) : spec_floorDiv.f a b = some (a / b) := by
  have := fd a b hb
  unfold spec_floorDiv.f
  rw [if_neg (by omega)]
  split
  · rename_i h
    rw [if_pos h] at this
    rw [w64 (x := Int.tdiv a b) (by omega) (by omega), w64 (by omega) (by omega), this]
  · rename_i h
    rw [if_neg h] at this
    rw [w64 (by omega) (by omega), this]
theorem yearStart_f (y : Int) (h0 : -1000000 ≤ y) (h1 : y ≤ 1000000) : spec_CronYearStart.f y = some (ystart y) := by
  unfold spec_CronYearStart.f
  rw [w64 (x := y - 1) (by omega) (by omega), floorDiv_f (y - 1) 4 (by omega) (by omega), floorDiv_f (y - 1) 100 (by omega) (by omega), floorDiv_f (y - 1) 400 (by omega) (by omega)]
  simp only [Option.bind_some]
  rw [w64 (x := 365 * (y - 1)) (by omega) (by omega), w64 (x := 365 * (y - 1) + (y - 1) / 4) (by omega) (by omega), w64 (x := 365 * (y - 1) + (y - 1) / 4 - (y - 1) / 100) (by omega) (by omega), w64 (x := 365 * (y - 1) + (y - 1) / 4 - (y - 1) / 100 + (y - 1) / 400) (by omega) (by omega), w64 (by omega) (by omega)]
  rfl
theorem monthDays_f (y m : Int) (h0 : 0 ≤ y) (h1 : y ≤ 1000000) (m0 : 1 ≤ m) (m1 : m ≤ 12) : spec_CronMonthDays.f y m = some (mdays y m) := by
  unfold spec_CronMonthDays.f mdays spec_CronLeap.f lpN
  rw [Int.tmod_eq_emod_of_nonneg h0, Int.tmod_eq_emod_of_nonneg h0, Int.tmod_eq_emod_of_nonneg h0]
  by_cases h2 : m = 2
  · rw [if_pos h2, if_pos h2]
    by_cases a : y % 4 = 0
    · rw [if_pos a]
      by_cases b : y % 100 = 0
      · rw [if_pos b]
        by_cases c : y % 400 = 0
        · simp [a, b, c]
        · simp [a, b, c]
      · rw [if_neg b]
        simp [a, b]
    · rw [if_neg a]
      simp [a]
  · rw [if_neg h2, if_neg h2]
    by_cases a : m = 4
    · simp [a]
    · by_cases b : m = 6
      · simp [b]
      · by_cases c : m = 9
        · simp [c]
        · by_cases d : m = 11
          · simp [d]
          · simp [a, b, c, d]

theorem dateL1 (y D : Int) (h0 : 0 ≤ y) (h1 : y ≤ 100000) (m : Int) (m1 : m ≤ 12) (hc0 : cum y m ≤ D - ystart y) (hc1 : D - ystart y < cum y m + mdays y m) (hD : -1000000 ≤ D ∧ D ≤ 40000000) : ∀ (n k : Nat) (x5 : Int), (m - x5).toNat = n → 1 ≤ x5 → x5 ≤ m → n < k →
    spec_CronDateOf.l1 k y (D - ystart y - cum y x5) x5 = some (y, m, D - ystart y - cum y m + 1) := by
  intro n
  induction n with
  | zero =>
    intro k x5 hn hx hm hk
    obtain ⟨k, rfl⟩ : ∃ j, k = j + 1 := ⟨k - 1, by omega⟩
    obtain rfl : x5 = m := by omega
    have hb := mdays_bd y x5
    unfold spec_CronDateOf.l1
    rw [monthDays_f y x5 h0 (by omega) hx m1]
    simp only [Option.bind_some]
    rw [if_neg (by omega), w64 (by omega) (by omega)]
  | succ n ih =>
    intro k x5 hn hx hm hk
    obtain ⟨k, rfl⟩ : ∃ j, k = j + 1 := ⟨k - 1, by omega⟩
    have hlt : x5 < m := by omega
    have hb := mdays_bd y x5
    have hs := cum_succ y x5 hx (by omega)
    have hle := cum_lt (y := y) hx hlt (by omega)
    have hcn := cum_nonneg (y := y) hx (by omega)
    have hys : -1000000 ≤ ystart y ∧ ystart y ≤ 40000000 := by unfold ystart; omega
    unfold spec_CronDateOf.l1
    rw [monthDays_f y x5 h0 (by omega) hx (by omega)]
    simp only [Option.bind_some]
    rw [if_pos (by omega), w64 (x := x5 + 1) (by omega) (by omega), w64 (x := D - ystart y - cum y x5 - mdays y x5) (by omega) (by omega), show D - ystart y - cum y x5 - mdays y x5 = D - ystart y - cum y (x5 + 1) by omega]
    exact ih k (x5 + 1) (by omega) (by omega) (by omega) (by omega)

theorem dateL0 (y m d D : Int) (h0 : 0 ≤ y) (h1 : y ≤ 100000) (hv : Valid y m d) (hd : dayOf y m d = D) : ∀ (n k : Nat) (x3 : Int), (y - x3).toNat = n → -1000 ≤ x3 → x3 ≤ y → n + 13 < k → spec_CronDateOf.l0 k D x3 = some (y, m, d) := by
  have hys : -1000000 ≤ ystart y ∧ ystart y ≤ 39000000 := by unfold ystart; omega
  have hdy := day_year hv
  have hbd := mdays_bd y m
  obtain ⟨v1, v2, v3, v4⟩ := hv
  have hcn := cum_nonneg (y := y) v1 (by omega)
  have hle := cum_lt (y := y) (m := m) (m' := 13) v1 (by omega) (by omega)
  have hc13 := cum_last y
  have hlp := lp_01 y
  intro n
  induction n with
  | zero =>
    intro k x3 hn hx hm hk
    obtain ⟨k, rfl⟩ : ∃ j, k = j + 1 := ⟨k - 1, by omega⟩
    obtain rfl : x3 = y := by omega
    unfold spec_CronDateOf.l0
    rw [w64 (x := x3 + 1) (by omega) (by omega), yearStart_f (x3 + 1) (by omega) (by omega)]
    simp only [Option.bind_some]
    rw [if_neg (by omega), yearStart_f x3 (by omega) (by omega)]
    simp only [Option.bind_some]
    unfold dayOf at hd
    rw [w64 (x := D - ystart x3) (by omega) (by omega)]
    have := dateL1 x3 D h0 h1 m v2 (by omega) (by omega) (by omega) (m - 1).toNat k 1 rfl (by omega) (by omega) (by omega)
    rw [cum_one, Int.sub_zero] at this
    rw [this]
    congr 3
    omega
  | succ n ih =>
    intro k x3 hn hx hm hk
    obtain ⟨k, rfl⟩ : ∃ j, k = j + 1 := ⟨k - 1, by omega⟩
    have hle2 := ystart_le (a := x3 + 1) (b := y) (by omega)
    unfold spec_CronDateOf.l0
    rw [w64 (x := x3 + 1) (by omega) (by omega), yearStart_f (x3 + 1) (by omega) (by omega)]
    simp only [Option.bind_some]
    rw [if_pos (by omega)]
    exact ih k (x3 + 1) (by omega) (by omega) (by omega) (by omega)

/-- the date of a day -/
theorem dateOf_f (L : Int) (h0 : -62135596800 - 86400 ≤ L) (h1 : L ≤ 320000000000) : spec_CronDateOf.f 200 (L / 86400) = some (yearL L, monthL L, mdayL L) := by
  obtain ⟨hv, hd⟩ := date_L L
  have hy0 : 0 ≤ yearL L := by
    by_cases h : -62135596800 ≤ L
    · have := year_one h; omega
    · have := year_zero h0 (by omega); omega
  have hr := year_range L
  unfold dayL at hd
  have hst := day_year hv
  rw [hd] at hst
  generalize yearL L = y at *
  generalize monthL L = m at *
  generalize mdayL L = d at *
  have hyl : y ≤ 13000 := by unfold ystart at hst; omega
  unfold spec_CronDateOf.f
  rw [floorDiv_f (L / 86400) 366 (by omega) (by omega), floorDiv_f (L / 86400) 365 (by omega) (by omega)]
  simp only [Option.bind_some]
  unfold ystart at hst
  split
  · rw [w64 (x := 1970 + L / 86400 / 365) (by omega) (by omega), w64 (by omega) (by omega)]
    unfold spec_CronDateOf.j0
    exact dateL0 y m d (L / 86400) hy0 (by omega) hv hd _ 199 _ rfl (by omega) (by omega) (by omega)
  · have hy70 : 1970 ≤ y := by omega
    have hle : 1970 + L / 86400 / 366 ≤ y := by omega
    rw [w64 (by omega) (by omega)]
    unfold spec_CronDateOf.j0
    exact dateL0 y m d (L / 86400) hy0 (by omega) hv hd _ 199 _ rfl (by omega) (by omega) (by omega)

theorem weekday_f (day : Int) (h0 : -100000000 ≤ day) (h1 : day ≤ 100000000) : spec_CronWeekday.f day = some ((day + 4) % 7) := by
  unfold spec_CronWeekday.f spec_floorMod.f
  rw [w64 (x := day + 4) (by omega) (by omega), floorDiv_f (day + 4) 7 (by omega) (by omega)]
  simp only [Option.bind_some]
  rw [w64 (x := 7 * ((day + 4) / 7)) (by omega) (by omega), w64 (by omega) (by omega)]
  congr 1
  omega
end Go.Proofs.YtmecbmgfacpecaaGreatDoor.CronN
