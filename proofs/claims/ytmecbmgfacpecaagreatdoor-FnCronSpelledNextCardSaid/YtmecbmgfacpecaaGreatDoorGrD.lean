/- Lemmas and walks on the way to the law, merged by wip/tools/pack.py: Sched, ImplN, ImplN2, SetsN, Sched2, Sched3. Conditions: none. -/
import Derived.Test.YtmecbmgfacpecaaGreatDoorGrA
import Derived.Test.YtmecbmgfacpecaaGreatDoorProg
import Derived.Conc.RwLib
import Derived.Conc.MuData
import Derived.KernelRfl
import Derived.Conc.MuLone
import Derived.WalkLawsBesides
import Derived.Test.YtmecbmgfacpecaaGreatDoorGrC
import Derived.Laws.Rows
import Derived.Laws.Tables
import Derived.Laws.ResultCell
import Derived.Laws.CopyOwn
import Derived.ChangeKeysEq
import Derived.Test.YtmecbmgfacpecaaGreatDoorWWordsT
import Derived.Test.YtmecbmgfacpecaaGreatDoorWLastT
import Derived.Deep.DeepCutAuto
namespace Go.Proofs.YtmecbmgfacpecaaGreatDoor.Sched
open Go Go.RowKit Go.Proofs.YtmecbmgfacpecaaGreatDoor.Cal
set_option linter.unusedVariables false
set_option linter.unusedSimpArgs false
structure Sch where
 ev : Bool
 d : Int
 a0 : Int
 a1 : Int
 a2 : Int
 a3 : Int
 a4 : Int
 a5 : Int
def Sch.cells (s : Sch) : Array Value := #[.bool s.ev, .int .i64 s.d, .int .u64 s.a0, .int .u64 s.a1, .int .u64 s.a2, .int .u64 s.a3, .int .u64 s.a4, .int .u64 s.a5]
def Sch.plain (s : Sch) : Array Value :=
 if s.ev = true then #[.bool true, .int .i64 s.d, .int .u64 0, .int .u64 0, .int .u64 0, .int .u64 0, .int .u64 0, .int .u64 0]
 else #[.bool false, .int .i64 0, .int .u64 s.a0, .int .u64 s.a1, .int .u64 s.a2, .int .u64 s.a3, .int .u64 s.a4, .int .u64 s.a5]
def Sch.spec (s : Sch) : Array Value := #[.int .u64 s.a0, .int .u64 s.a1, .int .u64 s.a2, .int .u64 s.a3, .int .u64 s.a4, .int .u64 s.a5, .pointer none]
def SchIs (w : World) (v : Value) (s : Sch) : Prop :=
 if s.ev = true then v = .iface 174 (.agg #[.int .i64 s.d]) else ∃ g, v = .iface 169 (.pointer (some ⟨g, 0, none⟩)) ∧ w.heap[g]? = some (.cells s.spec 171 (0, 0))
theorem SchIs.below {w w' : World} {v : Value} {s : Sch} (h : SchIs w v s) (hb : Below w.heap.size w w') : SchIs w' v s := by
 unfold SchIs at h ⊢
 split at h
 ·rename_i he
  rw [if_pos he]
  exact h
 ·rename_i he
  rw [if_neg he]
  obtain ⟨g, h1, h2⟩ := h
  exact ⟨g, h1, (hb.block g (Array.getElem?_eq_some_iff.1 h2).1).trans h2⟩
theorem heap_alloc2 (w : World) (o o' : Obj) : ((w.alloc o).alloc o').heap[w.heap.size + 1]? = some o' := by
 have := heap_alloc_new (w.alloc o) o'
 rw [show (w.alloc o).heap.size = w.heap.size + 1 by simp] at this
 exact this
theorem isZero_any (w : World) :
  Calls Tryz.prog 119 #[.agg #[.int .u64 0, .int .i64 0, .pointer none]] w fun e w' => e = .returned (.bool true) ∧ Below w.heap.size w w' := by
 go_enter Tryz.func119, Tryz.ntmps119
 go_wp2_with fail
 go_ret
 exact ⟨rfl, (Below.refl _ _).alloc (Nat.le_refl _) _⟩
theorem schedule_any (s : Sch) (w : World) :
  Calls Tryz.prog 65 #[.agg s.cells, .pointer none] w fun e w' => ∃ v, e = .returned v ∧ SchIs w' v s ∧ Below w.heap.size w w' := by
 obtain ⟨ev, d, a0, a1, a2, a3, a4, a5⟩ := s
 unfold Sch.cells SchIs Sch.spec
 dsimp only
 cases ev with
 | true =>
  go_enter Tryz.func65, Tryz.ntmps65
  go_wp2_with fail
  go_ret
  exact ⟨_, rfl, by simp, (Below.refl _ _).alloc (Nat.le_refl _) _⟩
 | false =>
  go_enter Tryz.func65, Tryz.ntmps65
  go_wp2_with fail
  go_ret
  refine ⟨_, rfl, ?_, ?_⟩
  ·simp only [Bool.false_eq_true, if_false]
   exact ⟨_, rfl, heap_alloc2 _ _ _⟩
  exact ((Below.refl _ _).alloc (Nat.le_refl _) _).alloc (by simp) _
end Go.Proofs.YtmecbmgfacpecaaGreatDoor.Sched
namespace Go.Proofs.YtmecbmgfacpecaaGreatDoor.Cal
open Go Go.RowKit Go.Proofs.YtmecbmgfacpecaaGreatDoorW.PrintWords Go.Proofs.YtmecbmgfacpecaaGreatDoorW.PrintLast
set_option linter.unusedVariables false
set_option linter.unusedSimpArgs false
theorem gUnix_any (s n : Int) (h0 : 0 ≤ n) (h1 : n < 1000000000) (hs0 : -1000000000000 ≤ s) (hs1 : s ≤ 1000000000000) (w : World) :
  Calls Tryz.prog 123 #[.int .i64 s, .int .i64 n] w fun e' w' => e' = .returned (tv n (s + 62135596800) none) ∧ Below w.heap.size w w' := by
 have HU := Lib.hid (fun w' => unixTime_any s n h0 h1 hs0 hs1 w')
 have d1 : decide (n < 0) = false := decide_eq_false (by omega)
 have d2 : decide (1000000000 ≤ n) = false := decide_eq_false (by omega)
 have hw : IntKind.i32.wrap n = n := by rw [IntKind.wrap_i32]; omega
 unfold tv at *
 go_enter Tryz.func123, Tryz.ntmps123
 go_wp2_with fail
 refine (HU.out _).mono ?_
 rintro e' w1 ⟨rfl, hb⟩
 have hrow := (hb.block w.heap.size (by simp)).trans (heap_alloc_new w (.cells #[.int .u64 0, .int .i64 0, .pointer none] 127))
 have hB := below_le ((Below.refl w.heap.size w).alloc (Nat.le_refl _) _) hb
 go_wp2_with (refine wpList_store_row rfl 127 _ _ rfl w.heap.size #[.int .u64 n, .int .i64 (s + 62135596800), .pointer none] rfl rfl 127 _ hrow timeSize rfl (by simp [Value.oneCell']) ?_)
 refine bodyPost_ret (v := .agg #[.int .u64 n, .int .i64 (s + 62135596800), .pointer none]) ?_ rfl ⟨rfl, ?_⟩
 ·exact results_time rfl _ _ w.heap.size _ rfl rfl (setRow_heap _ _ _ _ _ _ hrow)
 ·exact below_setRow hB (Nat.le_refl _) _
theorem moment_any {l : Option Addr} {off : Int} {Inv : World → Prop} {Loc : World → Nat → Prop} (H : Clock l off Inv Loc) (k : Nat) (s n : Int) (h0 : 0 ≤ n) (h1 : n < 1000000000) (hs0 : -1000000000000 ≤ s) (hs1 : s ≤ 1000000000000) (w : World) (hk : Loc w k) :
  Calls Tryz.prog 66 #[.agg #[.int .i64 s, .int .i64 n], .pointer (some ⟨k, 0, none⟩)] w fun e' w' => e' = .returned (tv n (s + 62135596800) l) ∧ Below w.heap.size w w' := by
 have HU := Lib.hid (fun w' => gUnix_any s n h0 h1 hs0 hs1 w')
 have HI := Lib.hid (fun w' hk' => H.inn n (s + 62135596800) none k w' h0 (by omega) hk')
 have HK := Lib.hid (fun w' (hb : Below w.heap.size w w') => H.locK hk hb)
 clear hk
 unfold tv at *
 go_enter Tryz.func66, Tryz.ntmps66
 go_wp2_with fail
 refine (HU.out _).mono ?_
 rintro e' w1 ⟨rfl, hb⟩
 have hrow := (hb.block (w.heap.size + 1) (by simp)).trans (heap_two w (.cells #[.int .i64 s, .int .i64 n] 50) (.cells #[.int .u64 0, .int .i64 0, .pointer none] 127))
 have hB := below_le (((Below.refl w.heap.size w).alloc (Nat.le_refl _) _).alloc (by simp) _) hb
 clear hb
 go_wp2_with fail
 refine (HI.out _ (HK.out _ hB)).mono ?_
 rintro e' w2 ⟨rfl, hb2⟩
 have hrow2 := (hb2.block _ (Array.getElem?_eq_some_iff.1 hrow).1).trans hrow
 have hB2 := below_le hB hb2
 clear hb2 hrow hB
 go_wp2_with (refine wpList_store_row rfl 127 _ _ rfl (w.heap.size + 1) #[.int .u64 n, .int .i64 (s + 62135596800), .pointer l] rfl rfl 127 _ hrow2 timeSize rfl (by simp [Value.oneCell']) ?_)
 refine bodyPost_ret (v := .agg #[.int .u64 n, .int .i64 (s + 62135596800), .pointer l]) ?_ rfl ⟨rfl, ?_⟩
 ·exact results_time rfl _ _ (w.heap.size + 1) _ rfl rfl (setRow_heap _ _ _ _ _ _ hrow2)
 ·exact below_setRow hB2 (by omega) _
def utcZone : Value := .agg #[.slice none 0 0, .slice none 0 0, .slice none 0 0, .slice none 0 0]
theorem locationUtc_any (w : World) :
  Calls Tryz.prog 67 #[utcZone] w fun e' w' => ∃ k, e' = .returned (.pointer (some ⟨k, 0, none⟩)) ∧ UtcAt w' k ∧ Below w.heap.size w w' := by
 have HU := Lib.hid (fun w' => utc_any w')
 unfold utcZone
 go_enter Tryz.func67, Tryz.ntmps67
 go_wp2_with fail
 refine (HU.out _).mono ?_
 rintro e' w1 ⟨rfl, u0, u2, hb, hlt⟩
 have hB := below_le ((Below.refl w.heap.size w).alloc (Nat.le_refl _) _) hb
 go_wp2_with fail
 go_ret
 exact ⟨_, rfl, ⟨by simpa using u0, by simpa using u2, by simpa using hlt⟩, hB⟩
theorem tUnix_any (n e : Int) (l : Option Addr) (h0 : 0 ≤ n) (h1 : n < 1073741824) (he0 : -1000000 ≤ e) (he1 : e ≤ 1000000000000) (w : World) :
  Calls Tryz.prog 158 #[tv n e l] w fun e' w' => e' = .returned (.int .i64 (e - 62135596800)) ∧ Below w.heap.size w w' := by
 have HU := Lib.hid (fun (g : Nat) w' hc0 hc1 => unixSec_any g n e w' h0 h1 he0 he1 hc0 hc1)
 unfold tv
 go_enter Tryz.func158, Tryz.ntmps158
 go_wp2_with fail
 refine (HU.out w.heap.size _ (by simp [go_sem]) (by simp [go_sem])).mono ?_
 rintro e' w1 ⟨rfl, rfl⟩
 go_wp2_with fail
 go_ret
 exact ⟨rfl, (Below.refl _ _).alloc (Nat.le_refl _) _⟩
theorem isZeroNo_any (e : Int) (l : Option Addr) (he : 0 < e) (w : World) :
  Calls Tryz.prog 119 #[tv 0 e l] w fun e' w' => e' = .returned (.bool false) ∧ Below w.heap.size w w' := by
 have HS := Lib.hid (fun (g : Nat) w' hc hc1 => sec_any g 0 e w' (by omega) (by omega) hc hc1)
 have d : (e == 0) = false := by simp; omega
 unfold tv
 go_enter Tryz.func119, Tryz.ntmps119
 go_wp2_with fail
 go_ret
 exact ⟨rfl, (Below.refl _ _).alloc (Nat.le_refl _) _⟩
theorem isZeroYes_any (w : World) :
  Calls Tryz.prog 119 #[.agg zcells] w fun e' w' => e' = .returned (.bool true) ∧ Below w.heap.size w w' := Sched.isZero_any w
theorem instSize : (Tryz.prog.info? 50).map (·.size) = some 2 := by kernel_rfl
set_option maxRecDepth 100000 in
set_option maxHeartbeats 4000000 in
theorem plainMoment_any (e : Int) (l : Option Addr) (he0 : 0 ≤ e) (he1 : e ≤ 900000000000) (w : World) :
  Calls Tryz.prog 122 #[tv 0 e l] w fun e' w' => e' = .returned (.agg #[.int .i64 (e - 62135596800), .int .i64 0]) ∧ Below w.heap.size w w' := by
 have HU := Lib.hid (fun w' => tUnix_any 0 e l (by omega) (by omega) (by omega) (by omega) w')
 have HN := Lib.hid (fun w' => tNano_any 0 e l w' (by omega) (by omega))
 unfold tv at *
 go_enter Tryz.func122, Tryz.ntmps122
 go_upto_region 1 with fail
 generalize hW : World.alloc (World.alloc w _) _ = wo
 have hrow : wo.heap[w.heap.size]? = some (.cells #[.int .u64 0, .int .i64 e, .pointer l] 127 (0, 0)) := by rw [← hW]; exact (((Below.refl _ _).alloc (Nat.le_refl _) _).block w.heap.size (by simp)).trans (heap_alloc_new w _)
 have hres : wo.heap[w.heap.size + 1]? = some (.cells #[.int .i64 0, .int .i64 0] 50 (0, 0)) := by rw [← hW]; exact heap_two w _ _
 have hB : Below w.heap.size w wo := by rw [← hW]; exact ((Below.refl _ _).alloc (Nat.le_refl _) _).alloc (by simp) _
 clear hW
 refine start_ (n := 6) (S := fun w' => w'.heap[w.heap.size]? = some (.cells #[.int .u64 0, .int .i64 e, .pointer l] 127 (0, 0)) ∧ Below wo.heap.size wo w') (ds := [5]) #[false, false, false, false, false, false] (by kernel_rfl) rfl rfl ⟨hrow, (Below.refl _ _).drew⟩ (fun hHeld => ?_)
 refine take_ (i := 0) (N := some 3) (v := ?_) (a' := ?_) #[true, false, false, false, false, false] rfl rfl (by kernel_rfl) (fun _ _ _ h => h) (Or.inl ⟨by rfl, ?_⟩) hHeld ?_ ?_
 rotate_left
 ·rintro w' ⟨s0, s1⟩
  refine exec_load_row _ _ w' 127 (.tmp 1) ?_ w.heap.size ?_ _ _ _ _ s0 Tryz.underlying127 rfl timeSize
  ·rfl
  ·rfl
 rotate_left
 ·simp only [Act.put, List.setIfInBounds_toArray, List.set_cons_zero, List.set_cons_succ, i64_w, i32_w]
  rfl
 refine take_ (i := 2) (N := some 5) (v := ?_) (a' := ?_) #[true, false, true, false, false, false] rfl rfl (by kernel_rfl) (fun _ _ _ h => h) (Or.inl ⟨by rfl, ?_⟩) hHeld ?_ ?_
 rotate_left
 ·rintro w' ⟨s0, s1⟩
  refine exec_load_row _ _ w' 127 (.tmp 1) ?_ w.heap.size ?_ _ _ _ _ s0 Tryz.underlying127 rfl timeSize
  ·rfl
  ·rfl
 rotate_left
 ·simp only [Act.put, List.setIfInBounds_toArray, List.set_cons_zero, List.set_cons_succ, i64_w, i32_w]
  rfl
 refine one_ (i := 1) (N := some 4) #[true, true, true, false, false, false] rfl rfl (by kernel_rfl) (by decide) (fun K hK => ?_)
 refine goes_ Tryz.func158 (by kernel_rfl) rfl #[.agg #[.int .u64 0, .int .i64 e, .pointer l]] (by rfl) rfl rfl (by simp only [List.map_toArray, List.map_cons, List.map_nil]; rfl) ?_
 with_reducible refine (HU.out _).mono ?_
 rintro e2 w2 ⟨rfl, hb1⟩
 refine ⟨_, rfl, ?_⟩
 refine hK.out _ _ ⟨(hb1.block _ (Array.getElem?_eq_some_iff.1 hHeld.1).1).trans hHeld.1, below_le hHeld.2 hb1⟩ (fun hHeld => ?_)
 clear hK K
 refine norm_ (a' := ?_) ?_ ?_
 rotate_left
 ·show Act.put _ (some 4) _ = _
  simp only [Act.put, List.setIfInBounds_toArray, List.set_cons_zero, List.set_cons_succ, i64_w, i32_w]
  rfl
 refine one_ (i := 3) (N := some 6) #[true, true, true, true, false, false] rfl rfl (by kernel_rfl) (by decide) (fun K hK => ?_)
 refine goes_ Tryz.func159 (by kernel_rfl) rfl #[.agg #[.int .u64 0, .int .i64 e, .pointer l]] (by rfl) rfl rfl (by simp only [List.map_toArray, List.map_cons, List.map_nil]; rfl) ?_
 with_reducible refine (HN.out _).mono ?_
 rintro e5 w5 ⟨rfl, hb3⟩
 refine ⟨_, rfl, ?_⟩
 refine hK.out _ _ ⟨(hb3.block _ (Array.getElem?_eq_some_iff.1 hHeld.1).1).trans hHeld.1, below_le hHeld.2 hb3⟩ (fun hHeld => ?_)
 clear hK K
 refine norm_ (a' := ?_) ?_ ?_
 rotate_left
 ·show Act.put _ (some 6) _ = _
  simp only [Act.put, List.setIfInBounds_toArray, List.set_cons_zero, List.set_cons_succ, i64_w, i32_w]
  rfl
 refine pure_ (i := 4) (N := some 7) (v := ?_) (a' := ?_) #[true, true, true, true, true, false] rfl rfl (by kernel_rfl) (fun _ _ _ h => h) (Or.inl ⟨by rfl, ?_⟩) ?_ ?_
 rotate_left
 ·intro w'
  go_simp
  with_reducible rfl
 rotate_left
 ·simp only [Act.put, List.setIfInBounds_toArray, List.set_cons_zero, List.set_cons_succ, i64_w, i32_w]
  rfl
 refine last_ (i := 5) (N := none) #[true, true, true, true, true, true] rfl rfl (by kernel_rfl) (by decide) (fun K hK => ?_)
 rw [if_pos (by rfl)]
 refine wp_store_row 50 _ _ rfl (w.heap.size + 1) #[.int .i64 (e - 62135596800), .int .i64 0] rfl rfl 50 _ ((hHeld.2.block _ (Array.getElem?_eq_some_iff.1 hres).1).trans hres) instSize rfl (by simp [Value.oneCell']) ?_
 refine hK.out _ _ ?_
 clear hK K
 refine done_ (by kernel_rfl) ?_
 go_wp2_with fail
 have hres6 := (hHeld.2.block _ (Array.getElem?_eq_some_iff.1 hres).1).trans hres
 refine bodyPost_ret (v := .agg #[.int .i64 (e - 62135596800), .int .i64 0]) ?_ rfl ⟨rfl, ?_⟩
 ·exact results_cell_row (fn := Tryz.f122) (p := 2) rfl _ _ (w.heap.size + 1) _ _ _ _ rfl (setRow_heap _ _ _ _ _ _ hres6) Tryz.underlying50 rfl instSize
 ·exact below_setRow (below_le hB hHeld.2) (by omega) _
def ansI (off : Int) : Option Int → Array Value
 | none => #[.int .i64 0, .int .i64 0]
 | some L => #[.int .i64 (L - off), .int .i64 0]
theorem results_inst {fn : Func} {p u : Tmp} (h : fn.results = #[.cell p 50, .tmp u]) (tmps : Array Value) (w : World) (g : Nat) (cs : Array Value) (h2 : cs.size = 2)
  (hp : tmps.getD p undef = .pointer (some ⟨g, 0, none⟩)) (hs : w.heap[g]? = some (.cells cs 50 (0, 0))) :
  (results fn tmps).run Tryz.prog w = .ok (.tuple #[.agg cs, tmps.getD u undef]) w := by
 rw [results_cell_tmp h, hp]
 simp only [asAddr, Sem.run_pure, Result.andThen_ok, run_loadVar_row w g _ _ _ _ _ hs Tryz.underlying50 rfl (by rw [instSize, h2])]
theorem answer_any (l : Option Addr) (off : Int) (r : Option Int) (hr : ∀ L, r = some L → 0 < L + 62135596800 - off ∧ L + 62135596800 - off ≤ 900000000000) (w : World) :
  Calls Tryz.prog 64 #[ansT l off r] w fun e' w' => e' = .returned (.tuple #[.agg (ansI off r), .bool r.isSome]) ∧ Below w.heap.size w w' := by
 cases r with
 | none =>
  have HZ := Lib.hid (fun w' => isZeroYes_any w')
  unfold ansT ansI zcells at *
  go_enter Tryz.func64, Tryz.ntmps64
  go_wp2_with fail
  refine (HZ.out _).mono ?_
  rintro e' w1 ⟨rfl, hb⟩
  have hres := (hb.block (w.heap.size + 1) (by simp)).trans (heap_two w (.cells #[.int .u64 0, .int .i64 0, .pointer none] 127) (.cells #[.int .i64 0, .int .i64 0] 50))
  have hB := below_le (((Below.refl w.heap.size w).alloc (Nat.le_refl _) _).alloc (by simp) _) hb
  clear hb
  go_wp2_with (refine wpList_store_row rfl 50 _ _ rfl (w.heap.size + 1) #[.int .i64 0, .int .i64 0] rfl rfl 50 _ hres instSize rfl (by simp [Value.oneCell']) ?_)
  refine bodyPost_ret (v := .tuple #[.agg #[.int .i64 0, .int .i64 0], .bool false]) ?_ rfl ⟨rfl, ?_⟩
  ·exact results_inst (fn := Tryz.f64) (p := 2) (u := 3) rfl _ _ (w.heap.size + 1) _ rfl rfl (setRow_heap _ _ _ _ _ _ hres)
  ·exact below_setRow hB (by omega) _
 | some L =>
  obtain ⟨h0, h1⟩ := hr L rfl
  have HZ := Lib.hid (fun w' => isZeroNo_any (L + 62135596800 - off) l h0 w')
  have HP := Lib.hid (fun w' => plainMoment_any (L + 62135596800 - off) l (by omega) h1 w')
  rw [show L + 62135596800 - off - 62135596800 = L - off by omega] at HP
  unfold ansT ansI tcells tv at *
  dsimp only at *
  generalize L + 62135596800 - off = E at *
  go_enter Tryz.func64, Tryz.ntmps64
  go_wp2_with fail
  refine (HZ.out _).mono ?_
  rintro e' w1 ⟨rfl, hb⟩
  have hrow := (hb.block w.heap.size (by simp; omega)).trans ((((Below.refl _ _).alloc (Nat.le_refl _) _).block w.heap.size (by simp)).trans (heap_alloc_new w (.cells #[.int .u64 0, .int .i64 E, .pointer l] 127)))
  have hres := (hb.block (w.heap.size + 1) (by simp)).trans (heap_two w (.cells #[.int .u64 0, .int .i64 E, .pointer l] 127) (.cells #[.int .i64 0, .int .i64 0] 50))
  have hB := below_le (((Below.refl w.heap.size w).alloc (Nat.le_refl _) _).alloc (by simp) _) hb
  clear hb
  go_wp2_with (refine wpList_load_row rfl 127 _ rfl w.heap.size rfl _ _ _ _ hrow Tryz.underlying127 rfl timeSize ?_)
  refine (HP.out _).mono ?_
  rintro e' w2 ⟨rfl, hb2⟩
  have hres2 := (hb2.block _ (Array.getElem?_eq_some_iff.1 hres).1).trans hres
  have hB2 := below_le hB hb2
  clear hb2 hB
  go_wp2_with (refine wpList_store_row rfl 50 _ _ rfl (w.heap.size + 1) #[.int .i64 (L - off), .int .i64 0] rfl rfl 50 _ hres2 instSize rfl (by simp [Value.oneCell']) ?_)
  refine bodyPost_ret (v := .tuple #[.agg #[.int .i64 (L - off), .int .i64 0], .bool true]) ?_ rfl ⟨rfl, ?_⟩
  ·exact results_inst (fn := Tryz.f64) (p := 2) (u := 3) rfl _ _ (w.heap.size + 1) _ rfl rfl (setRow_heap _ _ _ _ _ _ hres2)
  ·exact below_setRow hB2 (by omega) _
end Go.Proofs.YtmecbmgfacpecaaGreatDoor.Cal
namespace Go.Proofs.YtmecbmgfacpecaaGreatDoor.Cal
open Go Go.RowKit Go.Proofs.YtmecbmgfacpecaaGreatDoorW.PrintWords Go.Proofs.YtmecbmgfacpecaaGreatDoorW.PrintLast Go.Proofs.YtmecbmgfacpecaaGreatDoor.Sched
set_option linter.unusedVariables false
set_option linter.unusedSimpArgs false
theorem schedSize : (Tryz.prog.info? 26).map (·.size) = some 8 := by kernel_rfl
theorem zoneSize : (Tryz.prog.info? 71).map (·.size) = some 4 := by kernel_rfl
def setsCells (d : Int) (S : Sets) : Array Value := #[.bool false, .int .i64 d, .int .u64 (S.sec : Int), .int .u64 (S.min : Int), .int .u64 (S.hour : Int), .int .u64 (S.dom : Int), .int .u64 (S.month : Int), .int .u64 (S.dow : Int)]
theorem schedSets_any (d : Int) (S : Sets) (w : World) :
  Calls Tryz.prog 65 #[.agg (setsCells d S), .pointer none] w fun e w' => ∃ g, e = .returned (.iface 169 (.pointer (some ⟨g, 0, none⟩))) ∧ SpecRow w' g S none ∧ Below w.heap.size w w' := by
 refine (schedule_any ⟨false, d, S.sec, S.min, S.hour, S.dom, S.month, S.dow⟩ w).mono ?_
 rintro e w' ⟨v, rfl, hs, hb⟩
 unfold SchIs at hs
 rw [if_neg (by simp)] at hs
 obtain ⟨g, rfl, hg⟩ := hs
 exact ⟨g, rfl, hg, hb⟩
theorem year_top {L : Int} (h : L ≤ 253402300800 + 86400) : yearL L ≤ 10000 := by
 have := year_mono h
 have e : yearL (253402300800 + 86400) = 10000 := (date_eq (L := 253402300800 + 86400) (y := 10000) (m := 1) (d := 2) ⟨by omega, by omega, by omega, by decide⟩ (by decide)).1
 omega
end Go.Proofs.YtmecbmgfacpecaaGreatDoor.Cal
namespace Go.Proofs.YtmecbmgfacpecaaGreatDoor.CronN
open Go Go.RowKit Go.Proofs.YtmecbmgfacpecaaGreatDoorW.PrintWords Go.Proofs.YtmecbmgfacpecaaGreatDoorW.PrintLast
set_option linter.unusedVariables false
def setCells (star : Bool) (p : Nat → Bool) : Array Value := #[.bool star] ++ ((Array.range 63).map fun j => .bool (p j))
theorem setCells_size (star : Bool) (p : Nat → Bool) : (setCells star p).size = 64 := by simp [setCells]
theorem setCells_zero (star : Bool) (p : Nat → Bool) : (setCells star p)[0]? = some (.bool star) := by
 unfold setCells
 rw [Array.getElem?_append_left (by simp)]
 simp
theorem setCells_at (star : Bool) (p : Nat → Bool) (j : Nat) (h : j < 63) : (setCells star p)[j + 1]? = some (.bool (p j)) := by
 unfold setCells
 rw [Array.getElem?_append_right (by simp)]
 simp [h]
theorem setCells_out (star : Bool) (p : Nat → Bool) (j : Nat) (h : 64 ≤ j) : (setCells star p)[j]? = none := by
 rw [Array.getElem?_eq_none]
 rw [setCells_size]; exact h
theorem setCells_one (star : Bool) (p : Nat → Bool) : (setCells star p).all (·.oneCell') = true := by
 rw [Array.all_eq_true_iff_forall_mem]
 intro v hv
 unfold setCells at hv
 rw [Array.mem_append] at hv
 rcases hv with hv | hv
 ·simp at hv; subst hv; rfl
 ·rw [Array.mem_map] at hv
  obtain ⟨j, _, rfl⟩ := hv
  rfl
theorem setCells_star (star b : Bool) (p : Nat → Bool) : (setCells star p).setIfInBounds 0 (.bool b) = setCells b p := by
 apply Array.ext_getElem?
 intro i
 rw [Array.getElem?_setIfInBounds]
 cases i with
 | zero => rw [if_pos rfl, if_pos (by rw [setCells_size]; decide), setCells_zero]
 | succ i =>
  rw [if_neg (by omega)]
  by_cases h : i < 63
  ·rw [setCells_at _ _ _ h, setCells_at _ _ _ h]
  ·rw [setCells_out _ _ _ (by omega), setCells_out _ _ _ (by omega)]
theorem setCells_put (star b : Bool) (p : Nat → Bool) (j : Nat) (hj : j < 63) : (setCells star p).setIfInBounds (j + 1) (.bool b) = setCells star (fun i => if i = j then b else p i) := by
 apply Array.ext_getElem?
 intro i
 rw [Array.getElem?_setIfInBounds]
 cases i with
 | zero => rw [if_neg (by omega), setCells_zero, setCells_zero]
 | succ i =>
  by_cases h : i < 63
  ·rw [setCells_at _ _ _ h, setCells_at _ _ _ h]
   by_cases e : i = j
   ·subst e
    rw [if_pos rfl, if_pos (by rw [setCells_size]; omega), if_pos rfl]
   ·rw [if_neg (by omega), if_neg e]
  ·rw [setCells_out _ _ _ (by omega), setCells_out _ _ _ (by omega), if_neg (by omega)]
theorem setCells_ext {star : Bool} {p q : Nat → Bool} (h : ∀ j, j < 63 → p j = q j) : setCells star p = setCells star q := by
 apply Array.ext_getElem?
 intro i
 cases i with
 | zero => rw [setCells_zero, setCells_zero]
 | succ i =>
  by_cases hi : i < 63
  ·rw [setCells_at _ _ _ hi, setCells_at _ _ _ hi, h i hi]
  ·rw [setCells_out _ _ _ (by omega), setCells_out _ _ _ (by omega)]
def noSet : Nat → Bool := fun _ => false
def IsSet (w : World) (g : Nat) (star : Bool) (p : Nat → Bool) : Prop := w.heap[g]? = some (.cells (setCells star p) 56 (0, 0))
theorem IsSet.lt {w : World} {g : Nat} {star : Bool} {p : Nat → Bool} (h : IsSet w g star p) : g < w.heap.size := (Array.getElem?_eq_some_iff.1 h).1
theorem IsSet.below {w w' : World} {g : Nat} {star : Bool} {p : Nat → Bool} (h : IsSet w g star p) (hb : Below w.heap.size w w') : IsSet w' g star p :=
 (hb.block g h.lt).trans h
theorem IsSet.cell0 {w : World} {g : Nat} {star : Bool} {p : Nat → Bool} (h : IsSet w g star p) : w.cell? ⟨g, 0, none⟩ = some (.bool star) :=
 (cell_of_row w g 0 _ _ _ h).trans (setCells_zero star p)
theorem IsSet.cellAt {w : World} {g : Nat} {star : Bool} {p : Nat → Bool} (h : IsSet w g star p) (j : Nat) (hj : j < 63) : w.cell? ⟨g, j + 1, none⟩ = some (.bool (p j)) :=
 (cell_of_row w g (j + 1) _ _ _ h).trans (setCells_at star p j hj)
theorem IsSet.free {w : World} {g : Nat} {star : Bool} {p : Nat → Bool} (h : IsSet w g star p) (j : Nat) : w.frozen? ⟨g, j, none⟩ = false :=
 frozen_of_row w g j _ _ h
theorem IsSet.put {w : World} {g : Nat} {star : Bool} {p : Nat → Bool} (h : IsSet w g star p) (j : Nat) (hj : j < 63) (b : Bool) : IsSet (w.setCell ⟨g, j + 1, none⟩ (.bool b)) g star (fun i => if i = j then b else p i) := by
 unfold IsSet
 rw [heap_setCell_same w g (j + 1) _ _ _ h, setCells_put star b p j hj]
theorem IsSet.putStar {w : World} {g : Nat} {star : Bool} {p : Nat → Bool} (h : IsSet w g star p) (b : Bool) : IsSet (w.setCell ⟨g, 0, none⟩ (.bool b)) g b p := by
 unfold IsSet
 rw [heap_setCell_same w g 0 _ _ _ h, setCells_star]
theorem IsSet.other {w : World} {g : Nat} {star : Bool} {p : Nat → Bool} (h : IsSet w g star p) {a : Addr} (ha : g ≠ a.block) (v : Value) : IsSet (w.setCell a v) g star p := by
 unfold IsSet
 rw [heap_setCell_other w a g v ha]
 exact h
theorem isSet_new (w : World) (star : Bool) (p : Nat → Bool) : IsSet (w.alloc (.cells (setCells star p) 56 (0, 0))) w.heap.size star p :=
 heap_alloc_new w _
theorem setSize : (Tryz.prog.info? 56).map (·.size) = some 64 := by kernel_rfl
theorem run_alloc_set (w : World) : (Instr.alloc 56 true (.tuple #[])).run Tryz.prog w = .ok (.pointer (some ⟨w.heap.size, 0, none⟩)) (w.alloc (.cells (setCells false noSet) 56 (0, 0))) := by kernel_rfl
theorem built_set : (Tryz.prog.built 56 []) = some (setCells false noSet) := by kernel_rfl
theorem IsSet.store {w : World} {g : Nat} {star : Bool} {p : Nat → Bool} (h : IsSet w g star p) (st : Bool) (q : Nat → Bool) : IsSet (w.setRow g (setCells st q)) g st q :=
 setRow_heap w g _ _ _ _ h
theorem IsSet.row_other {w : World} {g k : Nat} {star : Bool} {p : Nat → Bool} (h : IsSet w g star p) (hk : g ≠ k) (cs : Array Value) : IsSet (w.setRow k cs) g star p :=
 (setRow_other w k g cs hk).trans h
section
variable {ops : Array Oper} {rest : List Oper} {o : Oper} {a : Act} {w : World} {Q : Exit → Act → World → Prop}
theorem wpList_build_set (hg : o.guard = none) (ho : o.op = .build 56 #[])
  (h : wpList Tryz.prog ops Q rest (a.put o.dst (.agg (setCells false noSet))) w) : wpList Tryz.prog ops Q (o :: rest) a w := by
 have e : ((#[] : Array (Nat × Operand)).map fun (i, x) => (i, a.eval x)).toList = [] := by simp
 refine wpList_build hg 56 #[] ho (by rw [e, built_set]; exact Option.isSome_some) ?_
 rw [e, built_set, Option.getD_some]
 exact h
theorem wpList_store_set (hg : o.guard = none) (x y : Operand) (ho : o.op = .store 56 x y) (g : Nat) (st : Bool) (q : Nat → Bool)
  (hx : a.eval x = .pointer (some ⟨g, 0, none⟩)) (hy : a.eval y = .agg (setCells st q)) (st0 : Bool) (q0 : Nat → Bool) (hs : IsSet w g st0 q0)
  (h : wpList Tryz.prog ops Q rest (a.put o.dst undef) (w.setRow g (setCells st q))) : wpList Tryz.prog ops Q (o :: rest) a w :=
 wpList_store_row hg 56 x y ho g _ hx hy _ _ hs (by rw [setSize, setCells_size]) (by rw [setCells_size, setCells_size]) (setCells_one st q) h
theorem wpList_load_set (hg : o.guard = none) (x : Operand) (ho : o.op = .load 56 x) (g : Nat) (st : Bool) (q : Nat → Bool)
  (hx : a.eval x = .pointer (some ⟨g, 0, none⟩)) (hs : IsSet w g st q)
  (h : wpList Tryz.prog ops Q rest (a.put o.dst (.agg (setCells st q))) w) : wpList Tryz.prog ops Q (o :: rest) a w := by
 exact wpList_load_row hg 56 x ho g hx _ _ _ _ hs Tryz.underlying56 rfl (by rw [setSize, setCells_size]) h
end
def inCells (p : Nat → Bool) : Array Value := (Array.range 63).map fun j => .bool (p j)
theorem inCells_size (p : Nat → Bool) : (inCells p).size = 63 := by simp [inCells]
theorem inCells_at (p : Nat → Bool) (j : Nat) (h : j < 63) : (inCells p)[j]? = some (.bool (p j)) := by simp [inCells, h]
theorem sizeIn : (Tryz.prog.info? 54).map (·.size) = some 63 := by kernel_rfl
theorem run_load_in (w : World) (g : Nat) (st : Bool) (q : Nat → Bool) (hs : IsSet w g st q) : (loadVar 54 ⟨g, 1, none⟩).run Tryz.prog w = .ok (.agg (inCells q)) w := by
 have hl : (loadCells ⟨g, 1, none⟩ (inCells q).toList.length).run Tryz.prog w = .ok (inCells q).toList.toArray w :=
  run_loadCells_list (P := Tryz.prog) w ⟨g, 1, none⟩ (inCells q).toList (fun j v hv => by
   have hj : j < 63 := by
    have := (List.getElem?_eq_some_iff.1 hv).1
    rw [Array.length_toList, inCells_size] at this
    exact this
   have hadd : (⟨g, 1, none⟩ : Addr).add j = ⟨g, j + 1, none⟩ := by
    unfold Addr.add
    split
    ·rename_i h; subst h; rfl
    ·simp; omega
   rw [hadd, hs.cellAt j hj]
   have := inCells_at q j hj
   rw [← Array.getElem?_toList] at this
   rw [← this, hv])
 rw [Array.length_toList, inCells_size] at hl
 cases hq : Tryz.prog.info? 54 with
 | none => have := sizeIn; simp [hq] at this
 | some i =>
  have hsz : i.size = 63 := by have := sizeIn; simpa [hq] using this
  have hagg : (isAgg 54).run Tryz.prog w = .ok true w := by
   unfold isAgg
   rw [Sem.run_bind, run_underlying Tryz.underlying54 w]
   rfl
  simp only [Array.toArray_toList] at hl
  simp [loadVar, Sem.run_bind, hagg, sizeOf, typeInfo, hq, hsz, hl]
section
variable {ops : Array Oper} {rest : List Oper} {o : Oper} {a : Act} {w : World} {Q : Exit → Act → World → Prop}
theorem wpList_load_in (hgd : o.guard = none) (x : Operand) (ho : o.op = .load 54 x) (g : Nat) (st : Bool) (q : Nat → Bool)
  (hx : a.eval x = .pointer (some ⟨g, 1, none⟩)) (hs : IsSet w g st q)
  (h : wpList Tryz.prog ops Q rest (a.put o.dst (.agg (inCells q))) w) : wpList Tryz.prog ops Q (o :: rest) a w := by
 refine wpList_plain hgd fun K hK => ?_
 unfold Oper.wp execOp
 simp only [ho, hx, Instr.loadAt, Instr.sureAddr, Sem.run_bind, Sem.run_pure, Result.andThen_ok, run_load_in w g st q hs]
 exact hK _ _ h
end
theorem run_box_set (st : Bool) (p : Nat → Bool) (w : World) : (Instr.box 56 (.agg (setCells st p))).run Tryz.prog w = .ok (.pointer (some ⟨w.heap.size, 0, none⟩)) (w.alloc (.cells (setCells st p) 56 (0, 0))) := by
 rfl
theorem isSet_lit (w : World) : IsSet (w.alloc (.cells #[.bool false, .bool false, .bool false, .bool false, .bool false, .bool false, .bool false, .bool false, .bool false, .bool false, .bool false, .bool false, .bool false, .bool false, .bool false, .bool false, .bool false, .bool false, .bool false, .bool false, .bool false, .bool false, .bool false, .bool false, .bool false, .bool false, .bool false, .bool false, .bool false, .bool false, .bool false, .bool false, .bool false, .bool false, .bool false, .bool false, .bool false, .bool false, .bool false, .bool false, .bool false, .bool false, .bool false, .bool false, .bool false, .bool false, .bool false, .bool false, .bool false, .bool false, .bool false, .bool false, .bool false, .bool false, .bool false, .bool false, .bool false, .bool false, .bool false, .bool false, .bool false, .bool false, .bool false, .bool false] 56)) w.heap.size false noSet :=
 (heap_alloc_new w _).trans (by kernel_rfl)
end Go.Proofs.YtmecbmgfacpecaaGreatDoor.CronN
namespace Go.Proofs.YtmecbmgfacpecaaGreatDoor.Sched
open Go Go.RowKit Go.Proofs.YtmecbmgfacpecaaGreatDoor.Cal Go.Proofs.YtmecbmgfacpecaaGreatDoorW.PrintWords Go.Proofs.YtmecbmgfacpecaaGreatDoorW.PrintLast
set_option linter.unusedVariables false
set_option linter.unusedSimpArgs false
theorem schSize : (Tryz.prog.info? 26).map (·.size) = some 8 := by kernel_rfl
end Go.Proofs.YtmecbmgfacpecaaGreatDoor.Sched
namespace Go.Proofs.YtmecbmgfacpecaaGreatDoor.Sched
open Go Go.RowKit Go.Proofs.YtmecbmgfacpecaaGreatDoor.Cal Go.Proofs.YtmecbmgfacpecaaGreatDoorW.PrintWords Go.Proofs.YtmecbmgfacpecaaGreatDoorW.PrintLast
set_option linter.unusedVariables false
set_option linter.unusedSimpArgs false
theorem below_of_le {W w1 w2 : World} (h1 : Below W.heap.size W w1) (h2 : Below w1.heap.size w1 w2) : Below W.heap.size W w2 :=
 h1.trans (h2.mono h1.size)
section
variable {P : Program}
theorem run_storeVar_at (w : World) (g o : Nat) (t ty : TypeId) (cur cells : Array Value) (hg : w.heap[g]? = some (.cells cur t (0, 0))) (hfit : o + cells.size ≤ cur.size) (hi : (P.info? ty).map (·.size) = some cells.size)
  (h1 : cells.all (·.oneCell') = true) :
  (storeVar ty ⟨g, o, none⟩ (.agg cells)).run P w = .ok () (w.setRow g (cur.toList.take o ++ cells.toList ++ cur.toList.drop (o + cells.size)).toArray) := by
 have := run_storeCells_at P g o t cells.toList 0 cur w hg (by simpa using hfit) (fun v hv => (Array.all_eq_true_iff_forall_mem.1 h1) v (by simpa using hv))
 cases hq : P.info? ty with
 | none => simp [hq] at hi
 | some i =>
  have hs : cells.size = i.size := by simp [hq] at hi; omega
  simp only [Nat.add_zero, Array.length_toList] at this
  simp [storeVar, sizeOf, typeInfo, hq, Value.cells, hs]
  rw [← hs]
  simpa [List.append_assoc] using this
theorem wp_store_at {o : Oper} {a : Act} {w : World} {K : Act → World → Prop} {Q : Exit → Act → World → Prop} (ty : TypeId) (x y : Operand) (ho : o.op = .store ty x y)
  (g of : Nat) (cells : Array Value) (hx : a.eval x = .pointer (some ⟨g, of, none⟩)) (hy : a.eval y = .agg cells)
  (t : TypeId) (cur : Array Value) (hg : w.heap[g]? = some (.cells cur t (0, 0))) (hi : (P.info? ty).map (·.size) = some cells.size)
  (hfit : of + cells.size ≤ cur.size) (h1 : cells.all (·.oneCell') = true)
  (h : K (a.put o.dst undef) (w.setRow g (cur.toList.take of ++ cells.toList ++ cur.toList.drop (of + cells.size)).toArray)) : o.wp P a w K Q := by
 unfold Oper.wp execOp
 simp only [ho, hx, hy, Instr.storeAt, Instr.sureAddr, Sem.run_bind, Sem.run_pure, Result.andThen_ok, run_storeVar_at w g of t ty cur cells hg hfit hi h1]
 exact h
theorem wpList_store_at {ops : Array Oper} {rest : List Oper} {o : Oper} {a : Act} {w : World} {Q : Exit → Act → World → Prop} (hgd : o.guard = none) (ty : TypeId) (x y : Operand) (ho : o.op = .store ty x y)
  (g of : Nat) (cells : Array Value) (hx : a.eval x = .pointer (some ⟨g, of, none⟩)) (hy : a.eval y = .agg cells)
  (t : TypeId) (cur : Array Value) (hg : w.heap[g]? = some (.cells cur t (0, 0))) (hi : (P.info? ty).map (·.size) = some cells.size)
  (hfit : of + cells.size ≤ cur.size) (h1 : cells.all (·.oneCell') = true)
  (h : wpList P ops Q rest (a.put o.dst undef) (w.setRow g (cur.toList.take of ++ cells.toList ++ cur.toList.drop (of + cells.size)).toArray)) : wpList P ops Q (o :: rest) a w :=
 wpList_plain hgd fun _ hK => wp_store_at ty x y ho g of cells hx hy t cur hg hi hfit h1 (hK _ _ h)
end
end Go.Proofs.YtmecbmgfacpecaaGreatDoor.Sched
