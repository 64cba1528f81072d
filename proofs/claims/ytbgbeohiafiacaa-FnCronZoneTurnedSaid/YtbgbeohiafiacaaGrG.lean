/- Lemmas and walks on the way to the law, merged by wip/tools/pack.py: Locks, Sched, ImplN. Conditions: none. -/
import Derived.Test.YtbgbeohiafiacaaProg
import Derived.Conc.RwLib
import Derived.Conc.MuData
import Derived.KernelRfl
import Derived.Test.YtbgbeohiafiacaaGrA
import Derived.Conc.MuLone
import Derived.WalkLawsBesides
import Derived.Test.YtbgbeohiafiacaaGrF
namespace Go.Proofs
abbrev Try.muLink : Go.Conc.Locks.MuLink := { lock := 48, unlock := 49, ilock := 67, iunlock := 68, lockSlow := 80, unlockSlow := 83, disable := 76, enable := 78, acquire := 79, relMerge := 81, cas32 := 77, add32 := 82, tMutex := 115, tIMutex := 113, tPMutex := 148, tPIMutex := 172, tPI32 := 174, tUP := 176, tNoCopy := 110, tU32 := 111 }
theorem Try.muLib : Go.Conc.Locks.MuLib Try.prog Try.muLink :=
  ⟨Try.func48, Try.func49, Try.func67, Try.func68, Try.func76, Try.func78, Try.func79, Try.func81, Try.func77, Try.func82, Try.underlying113, Try.runUnderlying113, Try.sizeOf113, Try.isAgg113, Try.zeroValue113, Try.underlying115, Try.runUnderlying115, Try.sizeOf115, Try.isAgg115, Try.zeroValue115, Try.underlying148, Try.runUnderlying148, Try.sizeOf148, Try.isAgg148, Try.zeroValue148, Try.underlying172, Try.runUnderlying172, Try.sizeOf172, Try.isAgg172, Try.zeroValue172, Try.underlying174, Try.runUnderlying174, Try.sizeOf174, Try.isAgg174, Try.zeroValue174, Try.underlying176, Try.runUnderlying176, Try.sizeOf176, Try.isAgg176, Try.zeroValue176, Try.underlying110, Try.runUnderlying110, Try.sizeOf110, Try.isAgg110, Try.zeroValue110, Try.underlying21, Try.runUnderlying21, Try.sizeOf21, Try.isAgg21, Try.zeroValue21, (by kernel_rfl)⟩
end Go.Proofs

namespace Go.Proofs.Ytbgbeohiafiacaa.Sched
open Go Go.RowKit Go.Proofs.Ytbgbeohiafiacaa.Cal
set_option linter.unusedVariables false
set_option linter.unusedSimpArgs false

/-- a schedule of the law: every, delay, six sets -/
structure Sch where
  ev : Bool
  d : Int
  a0 : Int
  a1 : Int
  a2 : Int
  a3 : Int
  a4 : Int
  a5 : Int

def Sch.cells (s : Sch) : Array Value := #[.bool s.ev, .int .i64 s.d, .int .u64 s.a0, .int .u64 s.a1, .int .u64 s.a2, .int .u64 s.a3, .int .u64 s.a4, .int .u64 s.a5]
/-- the schedule as it is read back -/
def Sch.plain (s : Sch) : Array Value :=
  if s.ev = true then #[.bool true, .int .i64 s.d, .int .u64 0, .int .u64 0, .int .u64 0, .int .u64 0, .int .u64 0, .int .u64 0]
  else #[.bool false, .int .i64 0, .int .u64 s.a0, .int .u64 s.a1, .int .u64 s.a2, .int .u64 s.a3, .int .u64 s.a4, .int .u64 s.a5]
def Sch.spec (s : Sch) : Array Value := #[.int .u64 s.a0, .int .u64 s.a1, .int .u64 s.a2, .int .u64 s.a3, .int .u64 s.a4, .int .u64 s.a5, .pointer none]

/-- v is the program's schedule of s -/
def SchIs (w : World) (v : Value) (s : Sch) : Prop :=
  if s.ev = true then v = .iface 131 (.agg #[.int .i64 s.d]) else ∃ g, v = .iface 132 (.pointer (some ⟨g, 0, none⟩)) ∧ w.heap[g]? = some (.cells s.spec 134 (0, 0))

theorem SchIs.below {w w' : World} {v : Value} {s : Sch} (h : SchIs w v s) (hb : Below w.heap.size w w') : SchIs w' v s := by
  unfold SchIs at h ⊢
  split at h
  · rename_i he
    rw [if_pos he]
    exact h
  · rename_i he
    rw [if_neg he]
    obtain ⟨g, h1, h2⟩ := h
    exact ⟨g, h1, (hb.block g (Array.getElem?_eq_some_iff.1 h2).1).trans h2⟩

theorem heap_alloc2 (w : World) (o o' : Obj) : ((w.alloc o).alloc o').heap[w.heap.size + 1]? = some o' := by
  have := heap_alloc_new (w.alloc o) o'
  rw [show (w.alloc o).heap.size = w.heap.size + 1 by simp] at this
  exact this

theorem chainThen_any (j : Value) (w : World) :
    Calls Try.prog 50 #[.agg #[.slice none 0 0], j] w fun e w' => e = .returned j ∧ Below w.heap.size w w' := by
  go_enter Try.func50, Try.ntmps50
  go_wp2_with fail
  go_loopw [1, 9] (fun v1 v9 wr => v1 = j ∧ v9 = .int .i64 0 ∧ Below w.heap.size w wr) (fun _ _ _ => 0)
  case atStart => exact ⟨rfl, rfl, (Below.refl _ _).alloc (Nat.le_refl _) _⟩
  case round =>
    obtain ⟨rfl, rfl, hbr⟩ := hrel
    go_wp2_with fail
    go_ret
    exact ⟨rfl, hbr⟩

theorem isZero_any (w : World) :
    Calls Try.prog 52 #[.agg #[.int .u64 0, .int .i64 0, .pointer none]] w fun e w' => e = .returned (.bool true) ∧ Below w.heap.size w w' := by
  go_enter Try.func52, Try.ntmps52
  go_wp2_with fail
  go_ret
  exact ⟨rfl, (Below.refl _ _).alloc (Nat.le_refl _) _⟩

def entryCells (id : Int) (sch wj job : Value) : Array Value := #[.int .i64 id, sch, .int .u64 0, .int .i64 0, .pointer none, .int .u64 0, .int .i64 0, .pointer none, wj, job]

theorem valid_any (id : Int) (sch wj job : Value) (w : World) :
    Calls Try.prog 51 #[.agg (entryCells id sch wj job)] w fun e w' => e = .returned (.bool (id != 0)) ∧ Below w.heap.size w w' := by
  unfold entryCells
  go_enter Try.func51, Try.ntmps51
  go_wp2_with fail
  go_ret
  exact ⟨rfl, (Below.refl _ _).alloc (Nat.le_refl _) _⟩

theorem schedule_any (s : Sch) (w : World) :
    Calls Try.prog 29 #[.agg s.cells, .pointer none] w fun e w' => ∃ v, e = .returned v ∧ SchIs w' v s ∧ Below w.heap.size w w' := by
  obtain ⟨ev, d, a0, a1, a2, a3, a4, a5⟩ := s
  unfold Sch.cells SchIs Sch.spec
  dsimp only
  cases ev with
  | true =>
    go_enter Try.func29, Try.ntmps29
    go_wp2_with fail
    go_ret
    exact ⟨_, rfl, by simp, (Below.refl _ _).alloc (Nat.le_refl _) _⟩
  | false =>
    go_enter Try.func29, Try.ntmps29
    go_wp2_with fail
    go_ret
    refine ⟨_, rfl, ?_, ?_⟩
    · simp only [Bool.false_eq_true, if_false]
      exact ⟨_, rfl, heap_alloc2 _ _ _⟩
    exact ((Below.refl _ _).alloc (Nat.le_refl _) _).alloc (by simp) _
end Go.Proofs.Ytbgbeohiafiacaa.Sched

namespace Go.Proofs.Ytbgbeohiafiacaa.Cal
open Go Go.RowKit Go.Proofs.YtbgbeohiafiacaaW.PrintWords Go.Proofs.YtbgbeohiafiacaaW.PrintLast
set_option linter.unusedVariables false
set_option linter.unusedSimpArgs false

theorem gUnix_any (s n : Int) (h0 : 0 ≤ n) (h1 : n < 1000000000) (hs0 : -1000000000000 ≤ s) (hs1 : s ≤ 1000000000000) (w : World) :
    Calls Try.prog 56 #[.int .i64 s, .int .i64 n] w fun e' w' => e' = .returned (tv n (s + 62135596800) none) ∧ Below w.heap.size w w' := by
  have HU := Lib.hid (fun w' => unixTime_any s n h0 h1 hs0 hs1 w')
  have d1 : decide (n < 0) = false := decide_eq_false (by omega)
  have d2 : decide (1000000000 ≤ n) = false := decide_eq_false (by omega)
  have hw : IntKind.i32.wrap n = n := by rw [IntKind.wrap_i32]; omega
  unfold tv at *
  go_enter Try.func56, Try.ntmps56
  go_wp2_with fail
  refine (HU.out _).mono ?_
  rintro e' w1 ⟨rfl, hb⟩
  have hrow := (hb.block w.heap.size (by simp)).trans (heap_alloc_new w (.cells #[.int .u64 0, .int .i64 0, .pointer none] 74))
  have hB := below_le ((Below.refl w.heap.size w).alloc (Nat.le_refl _) _) hb
  go_wp2_with (refine wpList_store_row rfl 74 _ _ rfl w.heap.size #[.int .u64 n, .int .i64 (s + 62135596800), .pointer none] rfl rfl 74 _ hrow timeSize rfl (by simp [Value.oneCell']) ?_)
  refine bodyPost_ret (v := .agg #[.int .u64 n, .int .i64 (s + 62135596800), .pointer none]) ?_ rfl ⟨rfl, ?_⟩
  · exact results_time rfl _ _ w.heap.size _ rfl rfl (setRow_heap _ _ _ _ _ _ hrow)
  · exact below_setRow hB (Nat.le_refl _) _

theorem moment_any {l : Option Addr} {off : Int} {Inv : World → Prop} {Loc : World → Nat → Prop} (H : Clock l off Inv Loc) (k : Nat) (s n : Int) (h0 : 0 ≤ n) (h1 : n < 1000000000) (hs0 : -1000000000000 ≤ s) (hs1 : s ≤ 1000000000000) (w : World) (hk : Loc w k) :
    Calls Try.prog 34 #[.agg #[.int .i64 s, .int .i64 n], .pointer (some ⟨k, 0, none⟩)] w fun e' w' => e' = .returned (tv n (s + 62135596800) l) ∧ Below w.heap.size w w' := by
  have HU := Lib.hid (fun w' => gUnix_any s n h0 h1 hs0 hs1 w')
  have HI := Lib.hid (fun w' hk' => H.inn n (s + 62135596800) none k w' h0 (by omega) hk')
  have HK := Lib.hid (fun w' (hb : Below w.heap.size w w') => H.locK hk hb)
  clear hk
  unfold tv at *
  go_enter Try.func34, Try.ntmps34
  go_wp2_with fail
  refine (HU.out _).mono ?_
  rintro e' w1 ⟨rfl, hb⟩
  have hrow := (hb.block (w.heap.size + 1) (by simp)).trans (heap_two w (.cells #[.int .i64 s, .int .i64 n] 33) (.cells #[.int .u64 0, .int .i64 0, .pointer none] 74))
  have hB := below_le (((Below.refl w.heap.size w).alloc (Nat.le_refl _) _).alloc (by simp) _) hb
  clear hb
  go_wp2_with fail
  refine (HI.out _ (HK.out _ hB)).mono ?_
  rintro e' w2 ⟨rfl, hb2⟩
  have hrow2 := (hb2.block _ (Array.getElem?_eq_some_iff.1 hrow).1).trans hrow
  have hB2 := below_le hB hb2
  clear hb2 hrow hB
  go_wp2_with (refine wpList_store_row rfl 74 _ _ rfl (w.heap.size + 1) #[.int .u64 n, .int .i64 (s + 62135596800), .pointer l] rfl rfl 74 _ hrow2 timeSize rfl (by simp [Value.oneCell']) ?_)
  refine bodyPost_ret (v := .agg #[.int .u64 n, .int .i64 (s + 62135596800), .pointer l]) ?_ rfl ⟨rfl, ?_⟩
  · exact results_time rfl _ _ (w.heap.size + 1) _ rfl rfl (setRow_heap _ _ _ _ _ _ hrow2)
  · exact below_setRow hB2 (by omega) _

/-- the zone that names no offsets -/
def utcZone : Value := .agg #[.slice none 0 0, .slice none 0 0, .slice none 0 0, .slice none 0 0]
theorem locationUtc_any (w : World) :
    Calls Try.prog 35 #[utcZone] w fun e' w' => ∃ k, e' = .returned (.pointer (some ⟨k, 0, none⟩)) ∧ UtcAt w' k ∧ Below w.heap.size w w' := by
  have HU := Lib.hid (fun w' => utc_any w')
  unfold utcZone
  go_enter Try.func35, Try.ntmps35
  go_wp2_with fail
  refine (HU.out _).mono ?_
  rintro e' w1 ⟨rfl, u0, u2, hb, hlt⟩
  have hB := below_le ((Below.refl w.heap.size w).alloc (Nat.le_refl _) _) hb
  go_wp2_with fail
  go_ret
  exact ⟨_, rfl, ⟨by simpa using u0, by simpa using u2, by simpa using hlt⟩, hB⟩

theorem tUnix_any (n e : Int) (l : Option Addr) (h0 : 0 ≤ n) (h1 : n < 1073741824) (he0 : -1000000 ≤ e) (he1 : e ≤ 1000000000000) (w : World) :
    Calls Try.prog 70 #[tv n e l] w fun e' w' => e' = .returned (.int .i64 (e - 62135596800)) ∧ Below w.heap.size w w' := by
  have HU := Lib.hid (fun (g : Nat) w' hc0 hc1 => unixSec_any g n e w' h0 h1 he0 he1 hc0 hc1)
  unfold tv
  go_enter Try.func70, Try.ntmps70
  go_wp2_with fail
  refine (HU.out w.heap.size _ (by simp [go_sem]) (by simp [go_sem])).mono ?_
  rintro e' w1 ⟨rfl, rfl⟩
  go_wp2_with fail
  go_ret
  exact ⟨rfl, (Below.refl _ _).alloc (Nat.le_refl _) _⟩

theorem isZeroNo_any (e : Int) (l : Option Addr) (he : 0 < e) (w : World) :
    Calls Try.prog 52 #[tv 0 e l] w fun e' w' => e' = .returned (.bool false) ∧ Below w.heap.size w w' := by
  have HS := Lib.hid (fun (g : Nat) w' hc hc1 => sec_any g 0 e w' (by omega) (by omega) hc hc1)
  have d : (e == 0) = false := by simp; omega
  unfold tv
  go_enter Try.func52, Try.ntmps52
  go_wp2_with fail
  go_ret
  exact ⟨rfl, (Below.refl _ _).alloc (Nat.le_refl _) _⟩
theorem isZeroYes_any (w : World) :
    Calls Try.prog 52 #[.agg zcells] w fun e' w' => e' = .returned (.bool true) ∧ Below w.heap.size w w' := Sched.isZero_any w

theorem instSize : (Try.prog.info? 33).map (·.size) = some 2 := by kernel_rfl
set_option maxRecDepth 100000 in
set_option maxHeartbeats 4000000 in
theorem plainMoment_any (e : Int) (l : Option Addr) (he0 : 0 ≤ e) (he1 : e ≤ 900000000000) (w : World) :
    Calls Try.prog 55 #[tv 0 e l] w fun e' w' => e' = .returned (.agg #[.int .i64 (e - 62135596800), .int .i64 0]) ∧ Below w.heap.size w w' := by
  have HU := Lib.hid (fun w' => tUnix_any 0 e l (by omega) (by omega) (by omega) (by omega) w')
  have HN := Lib.hid (fun w' => tNano_any 0 e l w' (by omega) (by omega))
  unfold tv at *
  go_enter Try.func55, Try.ntmps55
  go_upto_region 1 with fail
  generalize hW : World.alloc (World.alloc w _) _ = wo
  have hrow : wo.heap[w.heap.size]? = some (.cells #[.int .u64 0, .int .i64 e, .pointer l] 74 (0, 0)) := by rw [← hW]; exact (((Below.refl _ _).alloc (Nat.le_refl _) _).block w.heap.size (by simp)).trans (heap_alloc_new w _)
  have hres : wo.heap[w.heap.size + 1]? = some (.cells #[.int .i64 0, .int .i64 0] 33 (0, 0)) := by rw [← hW]; exact heap_two w _ _
  have hB : Below w.heap.size w wo := by rw [← hW]; exact ((Below.refl _ _).alloc (Nat.le_refl _) _).alloc (by simp) _
  clear hW
  refine start_ (n := 6) (S := fun w' => w'.heap[w.heap.size]? = some (.cells #[.int .u64 0, .int .i64 e, .pointer l] 74 (0, 0)) ∧ Below wo.heap.size wo w') (ds := [5]) #[false, false, false, false, false, false] (by kernel_rfl) rfl rfl ⟨hrow, (Below.refl _ _).drew⟩ (fun hHeld => ?_)
  refine take_ (i := 0) (N := some 3) (v := ?_) (a' := ?_) #[true, false, false, false, false, false] rfl rfl (by kernel_rfl) (fun _ _ _ h => h) (Or.inl ⟨by rfl, ?_⟩) hHeld ?_ ?_
  rotate_left
  · rintro w' ⟨s0, s1⟩
    refine exec_load_row _ _ w' 74 (.tmp 1) ?_ w.heap.size ?_ _ _ _ _ s0 Try.underlying74 rfl timeSize
    · rfl
    · rfl
  rotate_left
  · simp only [Act.put, List.setIfInBounds_toArray, List.set_cons_zero, List.set_cons_succ, i64_w, i32_w]
    rfl
  refine take_ (i := 2) (N := some 5) (v := ?_) (a' := ?_) #[true, false, true, false, false, false] rfl rfl (by kernel_rfl) (fun _ _ _ h => h) (Or.inl ⟨by rfl, ?_⟩) hHeld ?_ ?_
  rotate_left
  · rintro w' ⟨s0, s1⟩
    refine exec_load_row _ _ w' 74 (.tmp 1) ?_ w.heap.size ?_ _ _ _ _ s0 Try.underlying74 rfl timeSize
    · rfl
    · rfl
  rotate_left
  · simp only [Act.put, List.setIfInBounds_toArray, List.set_cons_zero, List.set_cons_succ, i64_w, i32_w]
    rfl
  refine one_ (i := 1) (N := some 4) #[true, true, true, false, false, false] rfl rfl (by kernel_rfl) (by decide) (fun K hK => ?_)
  refine goes_ Try.func70 (by kernel_rfl) rfl #[.agg #[.int .u64 0, .int .i64 e, .pointer l]] (by rfl) rfl rfl (by simp only [List.map_toArray, List.map_cons, List.map_nil]; rfl) ?_
  with_reducible refine (HU.out _).mono ?_
  rintro e2 w2 ⟨rfl, hb1⟩
  refine ⟨_, rfl, ?_⟩
  refine hK.out _ _ ⟨(hb1.block _ (Array.getElem?_eq_some_iff.1 hHeld.1).1).trans hHeld.1, below_le hHeld.2 hb1⟩ (fun hHeld => ?_)
  clear hK K
  refine norm_ (a' := ?_) ?_ ?_
  rotate_left
  · show Act.put _ (some 4) _ = _
    simp only [Act.put, List.setIfInBounds_toArray, List.set_cons_zero, List.set_cons_succ, i64_w, i32_w]
    rfl
  refine one_ (i := 3) (N := some 6) #[true, true, true, true, false, false] rfl rfl (by kernel_rfl) (by decide) (fun K hK => ?_)
  refine goes_ Try.func71 (by kernel_rfl) rfl #[.agg #[.int .u64 0, .int .i64 e, .pointer l]] (by rfl) rfl rfl (by simp only [List.map_toArray, List.map_cons, List.map_nil]; rfl) ?_
  with_reducible refine (HN.out _).mono ?_
  rintro e5 w5 ⟨rfl, hb3⟩
  refine ⟨_, rfl, ?_⟩
  refine hK.out _ _ ⟨(hb3.block _ (Array.getElem?_eq_some_iff.1 hHeld.1).1).trans hHeld.1, below_le hHeld.2 hb3⟩ (fun hHeld => ?_)
  clear hK K
  refine norm_ (a' := ?_) ?_ ?_
  rotate_left
  · show Act.put _ (some 6) _ = _
    simp only [Act.put, List.setIfInBounds_toArray, List.set_cons_zero, List.set_cons_succ, i64_w, i32_w]
    rfl
  refine pure_ (i := 4) (N := some 7) (v := ?_) (a' := ?_) #[true, true, true, true, true, false] rfl rfl (by kernel_rfl) (fun _ _ _ h => h) (Or.inl ⟨by rfl, ?_⟩) ?_ ?_
  rotate_left
  · intro w'
    go_simp
    with_reducible rfl
  rotate_left
  · simp only [Act.put, List.setIfInBounds_toArray, List.set_cons_zero, List.set_cons_succ, i64_w, i32_w]
    rfl
  refine last_ (i := 5) (N := none) #[true, true, true, true, true, true] rfl rfl (by kernel_rfl) (by decide) (fun K hK => ?_)
  rw [if_pos (by rfl)]
  refine wp_store_row 33 _ _ rfl (w.heap.size + 1) #[.int .i64 (e - 62135596800), .int .i64 0] rfl rfl 33 _ ((hHeld.2.block _ (Array.getElem?_eq_some_iff.1 hres).1).trans hres) instSize rfl (by simp [Value.oneCell']) ?_
  refine hK.out _ _ ?_
  clear hK K
  refine done_ (by kernel_rfl) ?_
  go_wp2_with fail
  have hres6 := (hHeld.2.block _ (Array.getElem?_eq_some_iff.1 hres).1).trans hres
  refine bodyPost_ret (v := .agg #[.int .i64 (e - 62135596800), .int .i64 0]) ?_ rfl ⟨rfl, ?_⟩
  · exact results_cell_row (fn := Try.f55) (p := 2) rfl _ _ (w.heap.size + 1) _ _ _ _ rfl (setRow_heap _ _ _ _ _ _ hres6) Try.underlying33 rfl instSize
  · exact below_setRow (below_le hB hHeld.2) (by omega) _

/-- what an answer of the search is to the caller -/
def ansI (off : Int) : Option Int → Array Value
  | none => #[.int .i64 0, .int .i64 0]
  | some L => #[.int .i64 (L - off), .int .i64 0]

theorem results_inst {fn : Func} {p u : Tmp} (h : fn.results = #[.cell p 33, .tmp u]) (tmps : Array Value) (w : World) (g : Nat) (cs : Array Value) (h2 : cs.size = 2)
    (hp : tmps.getD p undef = .pointer (some ⟨g, 0, none⟩)) (hs : w.heap[g]? = some (.cells cs 33 (0, 0))) :
    (results fn tmps).run Try.prog w = .ok (.tuple #[.agg cs, tmps.getD u undef]) w := by
  rw [results_cell_tmp h, hp]
  simp only [asAddr, Sem.run_pure, Result.andThen_ok, run_loadVar_row w g _ _ _ _ _ hs Try.underlying33 rfl (by rw [instSize, h2])]

theorem answer_any (l : Option Addr) (off : Int) (r : Option Int) (hr : ∀ L, r = some L → 0 < L + 62135596800 - off ∧ L + 62135596800 - off ≤ 900000000000) (w : World) :
    Calls Try.prog 33 #[ansT l off r] w fun e' w' => e' = .returned (.tuple #[.agg (ansI off r), .bool r.isSome]) ∧ Below w.heap.size w w' := by
  cases r with
  | none =>
    have HZ := Lib.hid (fun w' => isZeroYes_any w')
    unfold ansT ansI zcells at *
    go_enter Try.func33, Try.ntmps33
    go_wp2_with fail
    refine (HZ.out _).mono ?_
    rintro e' w1 ⟨rfl, hb⟩
    have hres := (hb.block (w.heap.size + 1) (by simp)).trans (heap_two w (.cells #[.int .u64 0, .int .i64 0, .pointer none] 74) (.cells #[.int .i64 0, .int .i64 0] 33))
    have hB := below_le (((Below.refl w.heap.size w).alloc (Nat.le_refl _) _).alloc (by simp) _) hb
    clear hb
    go_wp2_with (refine wpList_store_row rfl 33 _ _ rfl (w.heap.size + 1) #[.int .i64 0, .int .i64 0] rfl rfl 33 _ hres instSize rfl (by simp [Value.oneCell']) ?_)
    refine bodyPost_ret (v := .tuple #[.agg #[.int .i64 0, .int .i64 0], .bool false]) ?_ rfl ⟨rfl, ?_⟩
    · exact results_inst (fn := Try.f33) (p := 2) (u := 3) rfl _ _ (w.heap.size + 1) _ rfl rfl (setRow_heap _ _ _ _ _ _ hres)
    · exact below_setRow hB (by omega) _
  | some L =>
    obtain ⟨h0, h1⟩ := hr L rfl
    have HZ := Lib.hid (fun w' => isZeroNo_any (L + 62135596800 - off) l h0 w')
    have HP := Lib.hid (fun w' => plainMoment_any (L + 62135596800 - off) l (by omega) h1 w')
    rw [show L + 62135596800 - off - 62135596800 = L - off by omega] at HP
    unfold ansT ansI tcells tv at *
    dsimp only at *
    generalize L + 62135596800 - off = E at *
    go_enter Try.func33, Try.ntmps33
    go_wp2_with fail
    refine (HZ.out _).mono ?_
    rintro e' w1 ⟨rfl, hb⟩
    have hrow := (hb.block w.heap.size (by simp; omega)).trans ((((Below.refl _ _).alloc (Nat.le_refl _) _).block w.heap.size (by simp)).trans (heap_alloc_new w (.cells #[.int .u64 0, .int .i64 E, .pointer l] 74)))
    have hres := (hb.block (w.heap.size + 1) (by simp)).trans (heap_two w (.cells #[.int .u64 0, .int .i64 E, .pointer l] 74) (.cells #[.int .i64 0, .int .i64 0] 33))
    have hB := below_le (((Below.refl w.heap.size w).alloc (Nat.le_refl _) _).alloc (by simp) _) hb
    clear hb
    go_wp2_with (refine wpList_load_row rfl 74 _ rfl w.heap.size rfl _ _ _ _ hrow Try.underlying74 rfl timeSize ?_)
    refine (HP.out _).mono ?_
    rintro e' w2 ⟨rfl, hb2⟩
    have hres2 := (hb2.block _ (Array.getElem?_eq_some_iff.1 hres).1).trans hres
    have hB2 := below_le hB hb2
    clear hb2 hB
    go_wp2_with (refine wpList_store_row rfl 33 _ _ rfl (w.heap.size + 1) #[.int .i64 (L - off), .int .i64 0] rfl rfl 33 _ hres2 instSize rfl (by simp [Value.oneCell']) ?_)
    refine bodyPost_ret (v := .tuple #[.agg #[.int .i64 (L - off), .int .i64 0], .bool true]) ?_ rfl ⟨rfl, ?_⟩
    · exact results_inst (fn := Try.f33) (p := 2) (u := 3) rfl _ _ (w.heap.size + 1) _ rfl rfl (setRow_heap _ _ _ _ _ _ hres2)
    · exact below_setRow hB2 (by omega) _
end Go.Proofs.Ytbgbeohiafiacaa.Cal
