/- Lemmas and walks on the way to the law, merged by wip/tools/pack.py: Sched, ImplN, ImplN2, SetsN, Sched3, SpecF. Conditions: none. -/
import Derived.Test.YtmecbmgfacpecaaGreatDoorGrA
import Derived.Test.YtmecbmgfacpecaaGreatDoorProg
import Derived.Conc.RwLib
import Derived.Conc.MuData
import Derived.KernelRfl
import Derived.Conc.MuLone
import Derived.WalkLawsBesides
import Derived.Test.YtmecbmgfacpecaaGreatDoorGrC
import Derived.Laws.Rows
import Derived.Laws.Tables
import Derived.Laws.ResultCell
import Derived.Laws.CopyOwn
import Derived.ChangeKeysEq
import Derived.Test.YtmecbmgfacpecaaGreatDoorWWordsT
import Derived.Test.YtmecbmgfacpecaaGreatDoorWLastT
import Derived.Deep.DeepCutAuto
import Derived.Test.YtmecbmgfacpecaaGreatDoorPrA
namespace Go.Proofs.YtmecbmgfacpecaaGreatDoor.Sched
open Go Go.RowKit Go.Proofs.YtmecbmgfacpecaaGreatDoor.Cal
set_option linter.unusedVariables false
set_option linter.unusedSimpArgs false
structure Sch where
 ev : Bool
 d : Int
 a0 : Int
 a1 : Int
 a2 : Int
 a3 : Int
 a4 : Int
 a5 : Int
def Sch.cells (s : Sch) : Array Value := #[.bool s.ev, .int .i64 s.d, .int .u64 s.a0, .int .u64 s.a1, .int .u64 s.a2, .int .u64 s.a3, .int .u64 s.a4, .int .u64 s.a5]
def Sch.plain (s : Sch) : Array Value :=
 if s.ev = true then #[.bool true, .int .i64 s.d, .int .u64 0, .int .u64 0, .int .u64 0, .int .u64 0, .int .u64 0, .int .u64 0]
 else #[.bool false, .int .i64 0, .int .u64 s.a0, .int .u64 s.a1, .int .u64 s.a2, .int .u64 s.a3, .int .u64 s.a4, .int .u64 s.a5]
def Sch.spec (s : Sch) : Array Value := #[.int .u64 s.a0, .int .u64 s.a1, .int .u64 s.a2, .int .u64 s.a3, .int .u64 s.a4, .int .u64 s.a5, .pointer none]
def SchIs (w : World) (v : Value) (s : Sch) : Prop :=
 if s.ev = true then v = .iface 174 (.agg #[.int .i64 s.d]) else ∃ g, v = .iface 169 (.pointer (some ⟨g, 0, none⟩)) ∧ w.heap[g]? = some (.cells s.spec 171 (0, 0))
theorem SchIs.below {w w' : World} {v : Value} {s : Sch} (h : SchIs w v s) (hb : Below w.heap.size w w') : SchIs w' v s := by
 unfold SchIs at h ⊢
 split at h
 ·rename_i he
  rw [if_pos he]
  exact h
 ·rename_i he
  rw [if_neg he]
  obtain ⟨g, h1, h2⟩ := h
  exact ⟨g, h1, (hb.block g (Array.getElem?_eq_some_iff.1 h2).1).trans h2⟩
theorem heap_alloc2 (w : World) (o o' : Obj) : ((w.alloc o).alloc o').heap[w.heap.size + 1]? = some o' := by
 have := heap_alloc_new (w.alloc o) o'
 rw [show (w.alloc o).heap.size = w.heap.size + 1 by simp] at this
 exact this
theorem isZero_any (w : World) :
  Calls Tryz.prog 119 #[.agg #[.int .u64 0, .int .i64 0, .pointer none]] w fun e w' => e = .returned (.bool true) ∧ Below w.heap.size w w' := by
 go_enter Tryz.func119, Tryz.ntmps119
 go_wp2_with fail
 go_ret
 exact ⟨rfl, (Below.refl _ _).alloc (Nat.le_refl _) _⟩
theorem schedule_any (s : Sch) (w : World) :
  Calls Tryz.prog 65 #[.agg s.cells, .pointer none] w fun e w' => ∃ v, e = .returned v ∧ SchIs w' v s ∧ Below w.heap.size w w' := by
 obtain ⟨ev, d, a0, a1, a2, a3, a4, a5⟩ := s
 unfold Sch.cells SchIs Sch.spec
 dsimp only
 cases ev with
 | true =>
  go_enter Tryz.func65, Tryz.ntmps65
  go_wp2_with fail
  go_ret
  exact ⟨_, rfl, by simp, (Below.refl _ _).alloc (Nat.le_refl _) _⟩
 | false =>
  go_enter Tryz.func65, Tryz.ntmps65
  go_wp2_with fail
  go_ret
  refine ⟨_, rfl, ?_, ?_⟩
  ·simp only [Bool.false_eq_true, if_false]
   exact ⟨_, rfl, heap_alloc2 _ _ _⟩
  exact ((Below.refl _ _).alloc (Nat.le_refl _) _).alloc (by simp) _
end Go.Proofs.YtmecbmgfacpecaaGreatDoor.Sched
namespace Go.Proofs.YtmecbmgfacpecaaGreatDoor.Cal
open Go Go.RowKit Go.Proofs.YtmecbmgfacpecaaGreatDoorW.PrintWords Go.Proofs.YtmecbmgfacpecaaGreatDoorW.PrintLast
set_option linter.unusedVariables false
set_option linter.unusedSimpArgs false
theorem gUnix_any (s n : Int) (h0 : 0 ≤ n) (h1 : n < 1000000000) (hs0 : -1000000000000 ≤ s) (hs1 : s ≤ 1000000000000) (w : World) :
  Calls Tryz.prog 123 #[.int .i64 s, .int .i64 n] w fun e' w' => e' = .returned (tv n (s + 62135596800) none) ∧ Below w.heap.size w w' := by
 have HU := Lib.hid (fun w' => unixTime_any s n h0 h1 hs0 hs1 w')
 have d1 : decide (n < 0) = false := decide_eq_false (by omega)
 have d2 : decide (1000000000 ≤ n) = false := decide_eq_false (by omega)
 have hw : IntKind.i32.wrap n = n := by rw [IntKind.wrap_i32]; omega
 unfold tv at *
 go_enter Tryz.func123, Tryz.ntmps123
 go_wp2_with fail
 refine (HU.out _).mono ?_
 rintro e' w1 ⟨rfl, hb⟩
 have hrow := (hb.block w.heap.size (by simp)).trans (heap_alloc_new w (.cells #[.int .u64 0, .int .i64 0, .pointer none] 127))
 have hB := below_le ((Below.refl w.heap.size w).alloc (Nat.le_refl _) _) hb
 go_wp2_with (refine wpList_store_row rfl 127 _ _ rfl w.heap.size #[.int .u64 n, .int .i64 (s + 62135596800), .pointer none] rfl rfl 127 _ hrow timeSize rfl (by simp [Value.oneCell']) ?_)
 refine bodyPost_ret (v := .agg #[.int .u64 n, .int .i64 (s + 62135596800), .pointer none]) ?_ rfl ⟨rfl, ?_⟩
 ·exact results_time rfl _ _ w.heap.size _ rfl rfl (setRow_heap _ _ _ _ _ _ hrow)
 ·exact below_setRow hB (Nat.le_refl _) _
theorem moment_any {l : Option Addr} {off : Int} {Inv : World → Prop} {Loc : World → Nat → Prop} (H : Clock l off Inv Loc) (k : Nat) (s n : Int) (h0 : 0 ≤ n) (h1 : n < 1000000000) (hs0 : -1000000000000 ≤ s) (hs1 : s ≤ 1000000000000) (w : World) (hk : Loc w k) :
  Calls Tryz.prog 66 #[.agg #[.int .i64 s, .int .i64 n], .pointer (some ⟨k, 0, none⟩)] w fun e' w' => e' = .returned (tv n (s + 62135596800) l) ∧ Below w.heap.size w w' := by
 have HU := Lib.hid (fun w' => gUnix_any s n h0 h1 hs0 hs1 w')
 have HI := Lib.hid (fun w' hk' => H.inn n (s + 62135596800) none k w' h0 (by omega) hk')
 have HK := Lib.hid (fun w' (hb : Below w.heap.size w w') => H.locK hk hb)
 clear hk
 unfold tv at *
 go_enter Tryz.func66, Tryz.ntmps66
 go_wp2_with fail
 refine (HU.out _).mono ?_
 rintro e' w1 ⟨rfl, hb⟩
 have hrow := (hb.block (w.heap.size + 1) (by simp)).trans (heap_two w (.cells #[.int .i64 s, .int .i64 n] 50) (.cells #[.int .u64 0, .int .i64 0, .pointer none] 127))
 have hB := below_le (((Below.refl w.heap.size w).alloc (Nat.le_refl _) _).alloc (by simp) _) hb
 clear hb
 go_wp2_with fail
 refine (HI.out _ (HK.out _ hB)).mono ?_
 rintro e' w2 ⟨rfl, hb2⟩
 have hrow2 := (hb2.block _ (Array.getElem?_eq_some_iff.1 hrow).1).trans hrow
 have hB2 := below_le hB hb2
 clear hb2 hrow hB
 go_wp2_with (refine wpList_store_row rfl 127 _ _ rfl (w.heap.size + 1) #[.int .u64 n, .int .i64 (s + 62135596800), .pointer l] rfl rfl 127 _ hrow2 timeSize rfl (by simp [Value.oneCell']) ?_)
 refine bodyPost_ret (v := .agg #[.int .u64 n, .int .i64 (s + 62135596800), .pointer l]) ?_ rfl ⟨rfl, ?_⟩
 ·exact results_time rfl _ _ (w.heap.size + 1) _ rfl rfl (setRow_heap _ _ _ _ _ _ hrow2)
 ·exact below_setRow hB2 (by omega) _
def utcZone : Value := .agg #[.slice none 0 0, .slice none 0 0, .slice none 0 0, .slice none 0 0]
theorem locationUtc_any (w : World) :
  Calls Tryz.prog 67 #[utcZone] w fun e' w' => ∃ k, e' = .returned (.pointer (some ⟨k, 0, none⟩)) ∧ UtcAt w' k ∧ Below w.heap.size w w' := by
 have HU := Lib.hid (fun w' => utc_any w')
 unfold utcZone
 go_enter Tryz.func67, Tryz.ntmps67
 go_wp2_with fail
 refine (HU.out _).mono ?_
 rintro e' w1 ⟨rfl, u0, u2, hb, hlt⟩
 have hB := below_le ((Below.refl w.heap.size w).alloc (Nat.le_refl _) _) hb
 go_wp2_with fail
 go_ret
 exact ⟨_, rfl, ⟨by simpa using u0, by simpa using u2, by simpa using hlt⟩, hB⟩
theorem tUnix_any (n e : Int) (l : Option Addr) (h0 : 0 ≤ n) (h1 : n < 1073741824) (he0 : -1000000 ≤ e) (he1 : e ≤ 1000000000000) (w : World) :
  Calls Tryz.prog 158 #[tv n e l] w fun e' w' => e' = .returned (.int .i64 (e - 62135596800)) ∧ Below w.heap.size w w' := by
 have HU := Lib.hid (fun (g : Nat) w' hc0 hc1 => unixSec_any g n e w' h0 h1 he0 he1 hc0 hc1)
 unfold tv
 go_enter Tryz.func158, Tryz.ntmps158
 go_wp2_with fail
 refine (HU.out w.heap.size _ (by simp [go_sem]) (by simp [go_sem])).mono ?_
 rintro e' w1 ⟨rfl, rfl⟩
 go_wp2_with fail
 go_ret
 exact ⟨rfl, (Below.refl _ _).alloc (Nat.le_refl _) _⟩
theorem isZeroNo_any (e : Int) (l : Option Addr) (he : 0 < e) (w : World) :
  Calls Tryz.prog 119 #[tv 0 e l] w fun e' w' => e' = .returned (.bool false) ∧ Below w.heap.size w w' := by
 have HS := Lib.hid (fun (g : Nat) w' hc hc1 => sec_any g 0 e w' (by omega) (by omega) hc hc1)
 have d : (e == 0) = false := by simp; omega
 unfold tv
 go_enter Tryz.func119, Tryz.ntmps119
 go_wp2_with fail
 go_ret
 exact ⟨rfl, (Below.refl _ _).alloc (Nat.le_refl _) _⟩
theorem isZeroYes_any (w : World) :
  Calls Tryz.prog 119 #[.agg zcells] w fun e' w' => e' = .returned (.bool true) ∧ Below w.heap.size w w' := Sched.isZero_any w
theorem instSize : (Tryz.prog.info? 50).map (·.size) = some 2 := by kernel_rfl
set_option maxRecDepth 100000 in
set_option maxHeartbeats 4000000 in
theorem plainMoment_any (e : Int) (l : Option Addr) (he0 : 0 ≤ e) (he1 : e ≤ 900000000000) (w : World) :
  Calls Tryz.prog 122 #[tv 0 e l] w fun e' w' => e' = .returned (.agg #[.int .i64 (e - 62135596800), .int .i64 0]) ∧ Below w.heap.size w w' := by
 have HU := Lib.hid (fun w' => tUnix_any 0 e l (by omega) (by omega) (by omega) (by omega) w')
 have HN := Lib.hid (fun w' => tNano_any 0 e l w' (by omega) (by omega))
 unfold tv at *
 go_enter Tryz.func122, Tryz.ntmps122
 go_upto_region 1 with fail
 generalize hW : World.alloc (World.alloc w _) _ = wo
 have hrow : wo.heap[w.heap.size]? = some (.cells #[.int .u64 0, .int .i64 e, .pointer l] 127 (0, 0)) := by rw [← hW]; exact (((Below.refl _ _).alloc (Nat.le_refl _) _).block w.heap.size (by simp)).trans (heap_alloc_new w _)
 have hres : wo.heap[w.heap.size + 1]? = some (.cells #[.int .i64 0, .int .i64 0] 50 (0, 0)) := by rw [← hW]; exact heap_two w _ _
 have hB : Below w.heap.size w wo := by rw [← hW]; exact ((Below.refl _ _).alloc (Nat.le_refl _) _).alloc (by simp) _
 clear hW
 refine start_ (n := 6) (S := fun w' => w'.heap[w.heap.size]? = some (.cells #[.int .u64 0, .int .i64 e, .pointer l] 127 (0, 0)) ∧ Below wo.heap.size wo w') (ds := [5]) #[false, false, false, false, false, false] (by kernel_rfl) rfl rfl ⟨hrow, (Below.refl _ _).drew⟩ (fun hHeld => ?_)
 refine take_ (i := 0) (N := some 3) (v := ?_) (a' := ?_) #[true, false, false, false, false, false] rfl rfl (by kernel_rfl) (fun _ _ _ h => h) (Or.inl ⟨by rfl, ?_⟩) hHeld ?_ ?_
 rotate_left
 ·rintro w' ⟨s0, s1⟩
  refine exec_load_row _ _ w' 127 (.tmp 1) ?_ w.heap.size ?_ _ _ _ _ s0 Tryz.underlying127 rfl timeSize
  ·rfl
  ·rfl
 rotate_left
 ·simp only [Act.put, List.setIfInBounds_toArray, List.set_cons_zero, List.set_cons_succ, i64_w, i32_w]
  rfl
 refine take_ (i := 2) (N := some 5) (v := ?_) (a' := ?_) #[true, false, true, false, false, false] rfl rfl (by kernel_rfl) (fun _ _ _ h => h) (Or.inl ⟨by rfl, ?_⟩) hHeld ?_ ?_
 rotate_left
 ·rintro w' ⟨s0, s1⟩
  refine exec_load_row _ _ w' 127 (.tmp 1) ?_ w.heap.size ?_ _ _ _ _ s0 Tryz.underlying127 rfl timeSize
  ·rfl
  ·rfl
 rotate_left
 ·simp only [Act.put, List.setIfInBounds_toArray, List.set_cons_zero, List.set_cons_succ, i64_w, i32_w]
  rfl
 refine one_ (i := 1) (N := some 4) #[true, true, true, false, false, false] rfl rfl (by kernel_rfl) (by decide) (fun K hK => ?_)
 refine goes_ Tryz.func158 (by kernel_rfl) rfl #[.agg #[.int .u64 0, .int .i64 e, .pointer l]] (by rfl) rfl rfl (by simp only [List.map_toArray, List.map_cons, List.map_nil]; rfl) ?_
 with_reducible refine (HU.out _).mono ?_
 rintro e2 w2 ⟨rfl, hb1⟩
 refine ⟨_, rfl, ?_⟩
 refine hK.out _ _ ⟨(hb1.block _ (Array.getElem?_eq_some_iff.1 hHeld.1).1).trans hHeld.1, below_le hHeld.2 hb1⟩ (fun hHeld => ?_)
 clear hK K
 refine norm_ (a' := ?_) ?_ ?_
 rotate_left
 ·show Act.put _ (some 4) _ = _
  simp only [Act.put, List.setIfInBounds_toArray, List.set_cons_zero, List.set_cons_succ, i64_w, i32_w]
  rfl
 refine one_ (i := 3) (N := some 6) #[true, true, true, true, false, false] rfl rfl (by kernel_rfl) (by decide) (fun K hK => ?_)
 refine goes_ Tryz.func159 (by kernel_rfl) rfl #[.agg #[.int .u64 0, .int .i64 e, .pointer l]] (by rfl) rfl rfl (by simp only [List.map_toArray, List.map_cons, List.map_nil]; rfl) ?_
 with_reducible refine (HN.out _).mono ?_
 rintro e5 w5 ⟨rfl, hb3⟩
 refine ⟨_, rfl, ?_⟩
 refine hK.out _ _ ⟨(hb3.block _ (Array.getElem?_eq_some_iff.1 hHeld.1).1).trans hHeld.1, below_le hHeld.2 hb3⟩ (fun hHeld => ?_)
 clear hK K
 refine norm_ (a' := ?_) ?_ ?_
 rotate_left
 ·show Act.put _ (some 6) _ = _
  simp only [Act.put, List.setIfInBounds_toArray, List.set_cons_zero, List.set_cons_succ, i64_w, i32_w]
  rfl
 refine pure_ (i := 4) (N := some 7) (v := ?_) (a' := ?_) #[true, true, true, true, true, false] rfl rfl (by kernel_rfl) (fun _ _ _ h => h) (Or.inl ⟨by rfl, ?_⟩) ?_ ?_
 rotate_left
 ·intro w'
  go_simp
  with_reducible rfl
 rotate_left
 ·simp only [Act.put, List.setIfInBounds_toArray, List.set_cons_zero, List.set_cons_succ, i64_w, i32_w]
  rfl
 refine last_ (i := 5) (N := none) #[true, true, true, true, true, true] rfl rfl (by kernel_rfl) (by decide) (fun K hK => ?_)
 rw [if_pos (by rfl)]
 refine wp_store_row 50 _ _ rfl (w.heap.size + 1) #[.int .i64 (e - 62135596800), .int .i64 0] rfl rfl 50 _ ((hHeld.2.block _ (Array.getElem?_eq_some_iff.1 hres).1).trans hres) instSize rfl (by simp [Value.oneCell']) ?_
 refine hK.out _ _ ?_
 clear hK K
 refine done_ (by kernel_rfl) ?_
 go_wp2_with fail
 have hres6 := (hHeld.2.block _ (Array.getElem?_eq_some_iff.1 hres).1).trans hres
 refine bodyPost_ret (v := .agg #[.int .i64 (e - 62135596800), .int .i64 0]) ?_ rfl ⟨rfl, ?_⟩
 ·exact results_cell_row (fn := Tryz.f122) (p := 2) rfl _ _ (w.heap.size + 1) _ _ _ _ rfl (setRow_heap _ _ _ _ _ _ hres6) Tryz.underlying50 rfl instSize
 ·exact below_setRow (below_le hB hHeld.2) (by omega) _
def ansI (off : Int) : Option Int → Array Value
 | none => #[.int .i64 0, .int .i64 0]
 | some L => #[.int .i64 (L - off), .int .i64 0]
theorem results_inst {fn : Func} {p u : Tmp} (h : fn.results = #[.cell p 50, .tmp u]) (tmps : Array Value) (w : World) (g : Nat) (cs : Array Value) (h2 : cs.size = 2)
  (hp : tmps.getD p undef = .pointer (some ⟨g, 0, none⟩)) (hs : w.heap[g]? = some (.cells cs 50 (0, 0))) :
  (results fn tmps).run Tryz.prog w = .ok (.tuple #[.agg cs, tmps.getD u undef]) w := by
 rw [results_cell_tmp h, hp]
 simp only [asAddr, Sem.run_pure, Result.andThen_ok, run_loadVar_row w g _ _ _ _ _ hs Tryz.underlying50 rfl (by rw [instSize, h2])]
theorem answer_any (l : Option Addr) (off : Int) (r : Option Int) (hr : ∀ L, r = some L → 0 < L + 62135596800 - off ∧ L + 62135596800 - off ≤ 900000000000) (w : World) :
  Calls Tryz.prog 64 #[ansT l off r] w fun e' w' => e' = .returned (.tuple #[.agg (ansI off r), .bool r.isSome]) ∧ Below w.heap.size w w' := by
 cases r with
 | none =>
  have HZ := Lib.hid (fun w' => isZeroYes_any w')
  unfold ansT ansI zcells at *
  go_enter Tryz.func64, Tryz.ntmps64
  go_wp2_with fail
  refine (HZ.out _).mono ?_
  rintro e' w1 ⟨rfl, hb⟩
  have hres := (hb.block (w.heap.size + 1) (by simp)).trans (heap_two w (.cells #[.int .u64 0, .int .i64 0, .pointer none] 127) (.cells #[.int .i64 0, .int .i64 0] 50))
  have hB := below_le (((Below.refl w.heap.size w).alloc (Nat.le_refl _) _).alloc (by simp) _) hb
  clear hb
  go_wp2_with (refine wpList_store_row rfl 50 _ _ rfl (w.heap.size + 1) #[.int .i64 0, .int .i64 0] rfl rfl 50 _ hres instSize rfl (by simp [Value.oneCell']) ?_)
  refine bodyPost_ret (v := .tuple #[.agg #[.int .i64 0, .int .i64 0], .bool false]) ?_ rfl ⟨rfl, ?_⟩
  ·exact results_inst (fn := Tryz.f64) (p := 2) (u := 3) rfl _ _ (w.heap.size + 1) _ rfl rfl (setRow_heap _ _ _ _ _ _ hres)
  ·exact below_setRow hB (by omega) _
 | some L =>
  obtain ⟨h0, h1⟩ := hr L rfl
  have HZ := Lib.hid (fun w' => isZeroNo_any (L + 62135596800 - off) l h0 w')
  have HP := Lib.hid (fun w' => plainMoment_any (L + 62135596800 - off) l (by omega) h1 w')
  rw [show L + 62135596800 - off - 62135596800 = L - off by omega] at HP
  unfold ansT ansI tcells tv at *
  dsimp only at *
  generalize L + 62135596800 - off = E at *
  go_enter Tryz.func64, Tryz.ntmps64
  go_wp2_with fail
  refine (HZ.out _).mono ?_
  rintro e' w1 ⟨rfl, hb⟩
  have hrow := (hb.block w.heap.size (by simp; omega)).trans ((((Below.refl _ _).alloc (Nat.le_refl _) _).block w.heap.size (by simp)).trans (heap_alloc_new w (.cells #[.int .u64 0, .int .i64 E, .pointer l] 127)))
  have hres := (hb.block (w.heap.size + 1) (by simp)).trans (heap_two w (.cells #[.int .u64 0, .int .i64 E, .pointer l] 127) (.cells #[.int .i64 0, .int .i64 0] 50))
  have hB := below_le (((Below.refl w.heap.size w).alloc (Nat.le_refl _) _).alloc (by simp) _) hb
  clear hb
  go_wp2_with (refine wpList_load_row rfl 127 _ rfl w.heap.size rfl _ _ _ _ hrow Tryz.underlying127 rfl timeSize ?_)
  refine (HP.out _).mono ?_
  rintro e' w2 ⟨rfl, hb2⟩
  have hres2 := (hb2.block _ (Array.getElem?_eq_some_iff.1 hres).1).trans hres
  have hB2 := below_le hB hb2
  clear hb2 hB
  go_wp2_with (refine wpList_store_row rfl 50 _ _ rfl (w.heap.size + 1) #[.int .i64 (L - off), .int .i64 0] rfl rfl 50 _ hres2 instSize rfl (by simp [Value.oneCell']) ?_)
  refine bodyPost_ret (v := .tuple #[.agg #[.int .i64 (L - off), .int .i64 0], .bool true]) ?_ rfl ⟨rfl, ?_⟩
  ·exact results_inst (fn := Tryz.f64) (p := 2) (u := 3) rfl _ _ (w.heap.size + 1) _ rfl rfl (setRow_heap _ _ _ _ _ _ hres2)
  ·exact below_setRow hB2 (by omega) _
end Go.Proofs.YtmecbmgfacpecaaGreatDoor.Cal
namespace Go.Proofs.YtmecbmgfacpecaaGreatDoor.Cal
open Go Go.RowKit Go.Proofs.YtmecbmgfacpecaaGreatDoorW.PrintWords Go.Proofs.YtmecbmgfacpecaaGreatDoorW.PrintLast Go.Proofs.YtmecbmgfacpecaaGreatDoor.Sched
set_option linter.unusedVariables false
set_option linter.unusedSimpArgs false
def ZoneGives (zv : Value) (off : Int) : Prop := ∀ w : World, Calls Tryz.prog 67 #[zv] w fun e w2 =>
 ∃ (l : Option Addr) (Inv : World → Prop) (Loc : World → Nat → Prop) (k : Nat), Clock l off Inv Loc ∧ LocS Loc ∧ e = .returned (.pointer (some ⟨k, 0, none⟩)) ∧ Loc w2 k ∧ Inv w2 ∧ Below w.heap.size w w2
theorem zone_utc : ZoneGives utcZone 0 := fun w => (locationUtc_any w).mono fun _ _ ⟨k, h1, h2, h3⟩ => ⟨none, _, _, k, clock_utc, locS_utc, h1, h2, trivial, h3⟩
theorem schedSize : (Tryz.prog.info? 26).map (·.size) = some 8 := by kernel_rfl
theorem zoneSize : (Tryz.prog.info? 71).map (·.size) = some 4 := by kernel_rfl
theorem ansI_size (off : Int) (r : Option Int) : (ansI off r).size = 2 := by cases r <;> rfl
theorem ansI_one (off : Int) (r : Option Int) : (ansI off r).all (·.oneCell') = true := by cases r <;> simp [ansI, Value.oneCell']
def setsCells (d : Int) (S : Sets) : Array Value := #[.bool false, .int .i64 d, .int .u64 (S.sec : Int), .int .u64 (S.min : Int), .int .u64 (S.hour : Int), .int .u64 (S.dom : Int), .int .u64 (S.month : Int), .int .u64 (S.dow : Int)]
theorem schedSets_any (d : Int) (S : Sets) (w : World) :
  Calls Tryz.prog 65 #[.agg (setsCells d S), .pointer none] w fun e w' => ∃ g, e = .returned (.iface 169 (.pointer (some ⟨g, 0, none⟩))) ∧ SpecRow w' g S none ∧ Below w.heap.size w w' := by
 refine (schedule_any ⟨false, d, S.sec, S.min, S.hour, S.dom, S.month, S.dow⟩ w).mono ?_
 rintro e w' ⟨v, rfl, hs, hb⟩
 unfold SchIs at hs
 rw [if_neg (by simp)] at hs
 obtain ⟨g, rfl, hg⟩ := hs
 exact ⟨g, rfl, hg, hb⟩
theorem year_top {L : Int} (h : L ≤ 253402300800 + 86400) : yearL L ≤ 10000 := by
 have := year_mono h
 have e : yearL (253402300800 + 86400) = 10000 := (date_eq (L := 253402300800 + 86400) (y := 10000) (m := 1) (d := 2) ⟨by omega, by omega, by omega, by decide⟩ (by decide)).1
 omega
set_option maxRecDepth 100000 in
set_option maxHeartbeats 4000000 in
theorem implNext_any (z0 z1 z2 z3 : Value) (off : Int) (hz : ZoneGives (.agg #[z0, z1, z2, z3]) off) (d : Int) (S : Sets) (hS : S.ok) (sec nano : Int) (s0 : -62135596800 ≤ sec) (s1 : sec ≤ 253402300799) (n0 : 0 ≤ nano) (n1 : nano < 1000000000)
  (o0 : -86400 ≤ off) (o1 : off ≤ 86400) (o60 : off % 60 = 0) (hy : 0 ≤ off ∨ ∀ x, monthB S x = true) (w : World) :
  Calls Tryz.prog 27 #[.agg (setsCells d S), .agg #[.int .i64 sec, .int .i64 nano], .agg #[z0, z1, z2, z3]] w fun e w' => ∃ r : Option Int, Least S (sec + 1 + off) (yearL (sec + 1 + off) + 5) r ∧ e = .returned (.tuple #[.agg (ansI off r), .bool r.isSome]) ∧ Below w.heap.size w w' := by
 have HSC := Lib.hid (fun w' => schedSets_any d S w')
 have HZ := Lib.hid (fun w' => hz w')
 have hmf : ∀ (fn : Fn) (first cap : Array Value) (w : World), (Instr.makeFunc fn first cap).run Tryz.prog w = .ok (.func fn first cap) w := fun _ _ _ _ => rfl
 have hlim : yearL (sec + 1 + off) + 5 ≤ 10010 := by have := year_top (L := sec + 1 + off) (by omega); omega
 have hy1 : 1 ≤ yearL (sec + 1 + off) ∨ ∀ x, monthB S x = true := by
  rcases hy with h | h
  ·exact .inl (year_one (by omega))
  ·exact .inr h
 have HPAR : Hid (∀ (Inv : World → Prop) (w' : World) (g : Nat), Inv w' → SpecRow w' g S none → Par off Inv w' g S (sec + 1 + off) (yearL (sec + 1 + off) + 5)) := Lib.hid (fun Inv w' g hI hg => ⟨hI, hg, hS, by omega, o0, o1, by omega, hlim, hy1⟩)
 have HL : Hid (∀ r, Least S (sec + 1 + off) (yearL (sec + 1 + off) + 5) r → ∀ L, r = some L → 0 < L + 62135596800 - off ∧ L + 62135596800 - off ≤ 900000000000) := Lib.hid (by
  rintro r hr L rfl
  obtain ⟨h1, h2, h3, h4⟩ := hr
  have h5 := lim_lt (L := L) (y := 10011) (by omega)
  rw [show ystart (10011 + 1) = 2937280 from by decide] at h5
  exact ⟨by omega, by omega⟩)
 clear hlim hy1 hy hz
 go_enter Tryz.func27, Tryz.ntmps27
 go_upto_region 1 with fail
 generalize hW : World.alloc (World.alloc (World.alloc (World.alloc w _) _) _) _ = wo
 have hr0 : wo.heap[w.heap.size]? = some (.cells (setsCells d S) 26 (0, 0)) := by
  rw [← hW, Below.heap_alloc _ _ _ (by simp; try omega), Below.heap_alloc _ _ _ (by simp; try omega), Below.heap_alloc _ _ _ (by simp)]
  exact heap_alloc_new w _
 have hr1 : wo.heap[w.heap.size + 1]? = some (.cells #[.int .i64 sec, .int .i64 nano] 50 (0, 0)) := by
  rw [← hW, Below.heap_alloc _ _ _ (by simp; try omega), Below.heap_alloc _ _ _ (by simp)]
  exact heap_two w _ _
 have hr2 : wo.heap[w.heap.size + 1 + 1]? = some (.cells #[z0, z1, z2, z3] 71 (0, 0)) := by
  rw [← hW, Below.heap_alloc _ _ _ (by simp)]
  have := heap_two (w.alloc (.cells (setsCells d S) 26)) (.cells #[.int .i64 sec, .int .i64 nano] 50) (.cells #[z0, z1, z2, z3] 71)
  rw [show (w.alloc (.cells (setsCells d S) 26)).heap.size = w.heap.size + 1 by simp] at this
  exact this
 have hres : wo.heap[w.heap.size + 1 + 1 + 1]? = some (.cells #[.int .i64 0, .int .i64 0] 50 (0, 0)) := by
  rw [← hW]
  have := heap_two ((w.alloc (.cells (setsCells d S) 26)).alloc (.cells #[.int .i64 sec, .int .i64 nano] 50)) (.cells #[z0, z1, z2, z3] 71) (.cells #[.int .i64 0, .int .i64 0] 50)
  rw [show ((w.alloc (.cells (setsCells d S) 26)).alloc (.cells #[.int .i64 sec, .int .i64 nano] 50)).heap.size = w.heap.size + 1 + 1 by simp] at this
  exact this
 have hB : Below w.heap.size w wo := by
  rw [← hW]
  exact ((((Below.refl _ _).alloc (Nat.le_refl _) _).alloc (by simp) _).alloc (by simp only [World.alloc]; simp; try omega) _).alloc (by simp; try omega) _
 clear hW
 refine start_ (n := 15) (S := fun w' => w'.heap[w.heap.size]? = some (.cells (setsCells d S) 26 (0, 0)) ∧ w'.heap[w.heap.size + 1]? = some (.cells #[.int .i64 sec, .int .i64 nano] 50 (0, 0)) ∧ w'.heap[w.heap.size + 1 + 1]? = some (.cells #[z0, z1, z2, z3] 71 (0, 0)) ∧ Below wo.heap.size wo w') (ds := [13]) #[false, false, false, false, false, false, false, false, false, false, false, false, false, false, false] (by kernel_rfl) rfl rfl ⟨hr0, hr1, hr2, (Below.refl _ _).drew⟩ (fun hHeld => ?_)
 refine take_ (i := 0) (N := some 8) (v := ?_) (a' := ?_) #[true, false, false, false, false, false, false, false, false, false, false, false, false, false, false] rfl rfl (by kernel_rfl) (fun _ _ _ h => h) (Or.inl ⟨by rfl, ?_⟩) hHeld ?_ ?_
 rotate_left
 ·rintro w' ⟨s0, s1, s2, s3⟩
  refine exec_load_row _ _ w' 26 (.tmp 3) ?_ (w.heap.size) ?_ _ _ _ _ s0 Tryz.underlying26 rfl schedSize
  ·rfl
  ·rfl
 rotate_left
 ·simp only [Act.put, List.setIfInBounds_toArray, List.set_cons_zero, List.set_cons_succ, i64_w, i32_w]
  rfl
 refine take_ (i := 2) (N := some 10) (v := ?_) (a' := ?_) #[true, false, true, false, false, false, false, false, false, false, false, false, false, false, false] rfl rfl (by kernel_rfl) (fun _ _ _ h => h) (Or.inl ⟨by rfl, ?_⟩) hHeld ?_ ?_
 rotate_left
 ·rintro w' ⟨s0, s1, s2, s3⟩
  refine exec_load_row _ _ w' 50 (.tmp 4) ?_ (w.heap.size + 1) ?_ _ _ _ _ s1 Tryz.underlying50 rfl instSize
  ·rfl
  ·rfl
 rotate_left
 ·simp only [Act.put, List.setIfInBounds_toArray, List.set_cons_zero, List.set_cons_succ, i64_w, i32_w]
  rfl
 refine take_ (i := 3) (N := some 11) (v := ?_) (a' := ?_) #[true, false, true, true, false, false, false, false, false, false, false, false, false, false, false] rfl rfl (by kernel_rfl) (fun _ _ _ h => h) (Or.inl ⟨by rfl, ?_⟩) hHeld ?_ ?_
 rotate_left
 ·rintro w' ⟨s0, s1, s2, s3⟩
  refine exec_load_row _ _ w' 71 (.tmp 5) ?_ (w.heap.size + 1 + 1) ?_ _ _ _ _ s2 Tryz.underlying71 rfl zoneSize
  ·rfl
  ·rfl
 rotate_left
 ·simp only [Act.put, List.setIfInBounds_toArray, List.set_cons_zero, List.set_cons_succ, i64_w, i32_w]
  rfl
 refine one_ (i := 1) (N := some 9) #[true, true, true, true, false, false, false, false, false, false, false, false, false, false, false] rfl rfl (by kernel_rfl) (by decide) (fun K hK => ?_)
 refine goes_ Tryz.func65 (by kernel_rfl) rfl #[.agg (setsCells d S), .pointer none] (by rfl) rfl rfl (by simp only [List.map_toArray, List.map_cons, List.map_nil]; rfl) ?_
 with_reducible refine (HSC.out _).mono ?_
 rintro e1 w1 ⟨g, rfl, hg1, hb1⟩
 refine ⟨_, rfl, ?_⟩
 have hna : ∀ w' : World, (nilAhead 498 169 (.pointer (some ⟨g, 0, none⟩)) "Next").run Tryz.prog w' = .ok (some false) w' := fun w' => by rfl
 refine hK.out _ _ ⟨(hb1.block _ (Array.getElem?_eq_some_iff.1 hHeld.1).1).trans hHeld.1, (hb1.block _ (Array.getElem?_eq_some_iff.1 hHeld.2.1).1).trans hHeld.2.1, (hb1.block _ (Array.getElem?_eq_some_iff.1 hHeld.2.2.1).1).trans hHeld.2.2.1, below_le hHeld.2.2.2 hb1⟩ (fun hHeld => ?_)
 clear hK K
 refine norm_ (a' := ?_) ?_ ?_
 rotate_left
 ·show Act.put _ (some 9) _ = _
  simp only [Act.put, List.setIfInBounds_toArray, List.set_cons_zero, List.set_cons_succ, i64_w, i32_w]
  rfl
 refine pure_ (i := 6) (N := some 14) (v := ?_) (a' := ?_) #[true, true, true, true, false, false, true, false, false, false, false, false, false, false, false] rfl rfl (by kernel_rfl) (fun _ _ _ h => h) (Or.inl ⟨by rfl, ?_⟩) ?_ ?_
 rotate_left
 ·intro w'
  go_simp
  with_reducible rfl
 rotate_left
 ·simp only [Act.put, List.setIfInBounds_toArray, List.set_cons_zero, List.set_cons_succ, i64_w, i32_w]
  rfl
 refine pure_ (i := 7) (N := some 15) (v := ?_) (a' := ?_) #[true, true, true, true, false, false, true, true, false, false, false, false, false, false, false] rfl rfl (by kernel_rfl) (fun _ _ _ h => h) (Or.inl ⟨by rfl, ?_⟩) ?_ ?_
 rotate_left
 ·intro w'
  go_simp
  with_reducible rfl
 rotate_left
 ·simp only [Act.put, List.setIfInBounds_toArray, List.set_cons_zero, List.set_cons_succ, i64_w, i32_w]
  rfl
 refine pure_ (i := 8) (N := some 16) (v := ?_) (a' := ?_) #[true, true, true, true, false, false, true, true, true, false, false, false, false, false, false] rfl rfl (by kernel_rfl) (fun _ _ _ h => h) (Or.inl ⟨by rfl, ?_⟩) ?_ ?_
 rotate_left
 ·intro w'
  go_simp
  with_reducible rfl
 rotate_left
 ·simp only [Act.put, List.setIfInBounds_toArray, List.set_cons_zero, List.set_cons_succ, i64_w, i32_w]
  rfl
 refine one_ (i := 4) (N := some 12) #[true, true, true, true, true, false, true, true, true, false, false, false, false, false, false] rfl rfl (by kernel_rfl) (by decide) (fun K hK => ?_)
 refine goes_ Tryz.func67 (by kernel_rfl) rfl #[.agg #[z0, z1, z2, z3]] (by rfl) rfl rfl (by simp only [List.map_toArray, List.map_cons, List.map_nil]; rfl) ?_
 with_reducible refine (HZ.out _).mono ?_
 rintro e4 w4 ⟨l, Inv, Loc, k, H, hls, rfl, hk, hI4, hb4⟩
 refine ⟨_, rfl, ?_⟩
 have hg4 := hg1.below hb4
 refine hK.out _ _ ⟨(hb4.block _ (Array.getElem?_eq_some_iff.1 hHeld.1).1).trans hHeld.1, (hb4.block _ (Array.getElem?_eq_some_iff.1 hHeld.2.1).1).trans hHeld.2.1, (hb4.block _ (Array.getElem?_eq_some_iff.1 hHeld.2.2.1).1).trans hHeld.2.2.1, below_le hHeld.2.2.2 hb4⟩ (fun hHeld => ?_)
 clear hK K
 refine norm_ (a' := ?_) ?_ ?_
 rotate_left
 ·show Act.put _ (some 12) _ = _
  simp only [Act.put, List.setIfInBounds_toArray, List.set_cons_zero, List.set_cons_succ, i64_w, i32_w]
  rfl
 refine one_ (i := 5) (N := some 13) #[true, true, true, true, true, true, true, true, true, false, false, false, false, false, false] rfl rfl (by kernel_rfl) (by decide) (fun K hK => ?_)
 refine goes_ Tryz.func66 (by kernel_rfl) rfl #[.agg #[.int .i64 sec, .int .i64 nano], .pointer (some ⟨k, 0, none⟩)] (by rfl) rfl rfl (by simp only [List.map_toArray, List.map_cons, List.map_nil]; rfl) ?_
 with_reducible refine (moment_any H k sec nano n0 n1 (by omega) (by omega) _ hk).mono ?_
 rintro e5 w5 ⟨rfl, hb5⟩
 refine ⟨_, rfl, ?_⟩
 have hg5 := hg4.below hb5
 have hI5 := H.abs.keeps hI4 hb5
 refine hK.out _ _ ⟨(hb5.block _ (Array.getElem?_eq_some_iff.1 hHeld.1).1).trans hHeld.1, (hb5.block _ (Array.getElem?_eq_some_iff.1 hHeld.2.1).1).trans hHeld.2.1, (hb5.block _ (Array.getElem?_eq_some_iff.1 hHeld.2.2.1).1).trans hHeld.2.2.1, below_le hHeld.2.2.2 hb5⟩ (fun hHeld => ?_)
 clear hK K
 refine norm_ (a' := ?_) ?_ ?_
 rotate_left
 ·show Act.put _ (some 13) _ = _
  simp only [Act.put, List.setIfInBounds_toArray, List.set_cons_zero, List.set_cons_succ, i64_w, i32_w]
  rfl
 refine one_ (i := 9) (N := some 17) #[true, true, true, true, true, true, true, true, true, true, false, false, false, false, false] rfl rfl (by kernel_rfl) (by decide) (fun K hK => ?_)
 refine call_ (f := 249) #[.pointer (some ⟨g, 0, none⟩), .agg #[.int .u64 nano, .int .i64 (sec + 62135596800), .pointer l]] (by rfl) rfl (by go_simp; rfl) ?_
 refine (next_any H hls (HPAR.out Inv _ g hI5 hg5) o60 nano (sec + 62135596800) n0 n1 (by omega) (by omega) (by omega) rfl).mono ?_
 rintro e9 w9 ⟨r, hr, rfl, hb9⟩
 refine ⟨_, rfl, ?_⟩
 refine hK.out _ _ ⟨(hb9.block _ (Array.getElem?_eq_some_iff.1 hHeld.1).1).trans hHeld.1, (hb9.block _ (Array.getElem?_eq_some_iff.1 hHeld.2.1).1).trans hHeld.2.1, (hb9.block _ (Array.getElem?_eq_some_iff.1 hHeld.2.2.1).1).trans hHeld.2.2.1, below_le hHeld.2.2.2 hb9⟩ (fun hHeld => ?_)
 clear hK K
 refine norm_ (a' := ?_) ?_ ?_
 rotate_left
 ·show Act.put _ (some 17) _ = _
  simp only [Act.put, List.setIfInBounds_toArray, List.set_cons_zero, List.set_cons_succ, i64_w, i32_w]
  rfl
 refine one_ (i := 10) (N := some 18) #[true, true, true, true, true, true, true, true, true, true, true, false, false, false, false] rfl rfl (by kernel_rfl) (by decide) (fun K hK => ?_)
 refine goes_ Tryz.func64 (by kernel_rfl) rfl #[ansT l off r] (by rfl) rfl rfl (by simp only [List.map_toArray, List.map_cons, List.map_nil]; rfl) ?_
 with_reducible refine (answer_any l off r (HL.out r hr) _).mono ?_
 rintro e10 w10 ⟨rfl, hb10⟩
 refine ⟨_, rfl, ?_⟩
 refine hK.out _ _ ⟨(hb10.block _ (Array.getElem?_eq_some_iff.1 hHeld.1).1).trans hHeld.1, (hb10.block _ (Array.getElem?_eq_some_iff.1 hHeld.2.1).1).trans hHeld.2.1, (hb10.block _ (Array.getElem?_eq_some_iff.1 hHeld.2.2.1).1).trans hHeld.2.2.1, below_le hHeld.2.2.2 hb10⟩ (fun hHeld => ?_)
 clear hK K
 refine norm_ (a' := ?_) ?_ ?_
 rotate_left
 ·show Act.put _ (some 18) _ = _
  simp only [Act.put, List.setIfInBounds_toArray, List.set_cons_zero, List.set_cons_succ, i64_w, i32_w]
  rfl
 refine pure_ (i := 11) (N := some 19) (v := ?_) (a' := ?_) #[true, true, true, true, true, true, true, true, true, true, true, true, false, false, false] rfl rfl (by kernel_rfl) (fun _ _ _ h => h) (Or.inl ⟨by rfl, ?_⟩) ?_ ?_
 rotate_left
 ·intro w'
  go_simp
  with_reducible rfl
 rotate_left
 ·simp only [Act.put, List.setIfInBounds_toArray, List.set_cons_zero, List.set_cons_succ, i64_w, i32_w]
  rfl
 refine pure_ (i := 12) (N := some 20) (v := ?_) (a' := ?_) #[true, true, true, true, true, true, true, true, true, true, true, true, true, false, false] rfl rfl (by kernel_rfl) (fun _ _ _ h => h) (Or.inl ⟨by rfl, ?_⟩) ?_ ?_
 rotate_left
 ·intro w'
  go_simp
  with_reducible rfl
 rotate_left
 ·simp only [Act.put, List.setIfInBounds_toArray, List.set_cons_zero, List.set_cons_succ, i64_w, i32_w]
  rfl
 refine last_ (i := 13) (N := none) #[true, true, true, true, true, true, true, true, true, true, true, true, true, true, false] rfl rfl (by kernel_rfl) (by decide) (fun K hK => ?_)
 rw [if_pos (by rfl)]
 refine wp_store_row 50 _ _ rfl (w.heap.size + 1 + 1 + 1) (ansI off r) rfl rfl 50 #[.int .i64 0, .int .i64 0] ((hHeld.2.2.2.block _ (Array.getElem?_eq_some_iff.1 hres).1).trans hres) (by rw [ansI_size]; exact instSize) (by rw [ansI_size]; rfl) (ansI_one off r) ?_
 refine hK.out _ _ ?_
 clear hK K
 refine pure_ (i := 14) (N := some 7) (v := ?_) (a' := ?_) #[true, true, true, true, true, true, true, true, true, true, true, true, true, true, true] rfl rfl (by kernel_rfl) (fun _ _ _ h => h) (Or.inl ⟨by rfl, ?_⟩) ?_ ?_
 rotate_left
 ·intro w'
  go_simp
  with_reducible rfl
 rotate_left
 ·simp only [Act.put, List.setIfInBounds_toArray, List.set_cons_zero, List.set_cons_succ, i64_w, i32_w]
  rfl
 refine done_ (by kernel_rfl) ?_
 go_wp2_with fail
 have hres6 := (hHeld.2.2.2.block _ (Array.getElem?_eq_some_iff.1 hres).1).trans hres
 refine bodyPost_ret (v := .tuple #[.agg (ansI off r), .bool r.isSome]) ?_ rfl ⟨r, hr, rfl, ?_⟩
 ·exact results_inst (fn := Tryz.f27) (p := 6) (u := 7) rfl _ _ (w.heap.size + 1 + 1 + 1) _ (ansI_size off r) rfl (setRow_heap _ _ _ _ _ _ hres6)
 ·exact below_setRow (below_le hB hHeld.2.2.2) (by omega) _
end Go.Proofs.YtmecbmgfacpecaaGreatDoor.Cal
namespace Go.Proofs.YtmecbmgfacpecaaGreatDoor.CronN
open Go Go.RowKit Go.Proofs.YtmecbmgfacpecaaGreatDoorW.PrintWords Go.Proofs.YtmecbmgfacpecaaGreatDoorW.PrintLast
set_option linter.unusedVariables false
def setCells (star : Bool) (p : Nat → Bool) : Array Value := #[.bool star] ++ ((Array.range 63).map fun j => .bool (p j))
theorem setCells_size (star : Bool) (p : Nat → Bool) : (setCells star p).size = 64 := by simp [setCells]
theorem setCells_zero (star : Bool) (p : Nat → Bool) : (setCells star p)[0]? = some (.bool star) := by
 unfold setCells
 rw [Array.getElem?_append_left (by simp)]
 simp
theorem setCells_at (star : Bool) (p : Nat → Bool) (j : Nat) (h : j < 63) : (setCells star p)[j + 1]? = some (.bool (p j)) := by
 unfold setCells
 rw [Array.getElem?_append_right (by simp)]
 simp [h]
theorem setCells_out (star : Bool) (p : Nat → Bool) (j : Nat) (h : 64 ≤ j) : (setCells star p)[j]? = none := by
 rw [Array.getElem?_eq_none]
 rw [setCells_size]; exact h
theorem setCells_one (star : Bool) (p : Nat → Bool) : (setCells star p).all (·.oneCell') = true := by
 rw [Array.all_eq_true_iff_forall_mem]
 intro v hv
 unfold setCells at hv
 rw [Array.mem_append] at hv
 rcases hv with hv | hv
 ·simp at hv; subst hv; rfl
 ·rw [Array.mem_map] at hv
  obtain ⟨j, _, rfl⟩ := hv
  rfl
theorem setCells_star (star b : Bool) (p : Nat → Bool) : (setCells star p).setIfInBounds 0 (.bool b) = setCells b p := by
 apply Array.ext_getElem?
 intro i
 rw [Array.getElem?_setIfInBounds]
 cases i with
 | zero => rw [if_pos rfl, if_pos (by rw [setCells_size]; decide), setCells_zero]
 | succ i =>
  rw [if_neg (by omega)]
  by_cases h : i < 63
  ·rw [setCells_at _ _ _ h, setCells_at _ _ _ h]
  ·rw [setCells_out _ _ _ (by omega), setCells_out _ _ _ (by omega)]
theorem setCells_put (star b : Bool) (p : Nat → Bool) (j : Nat) (hj : j < 63) : (setCells star p).setIfInBounds (j + 1) (.bool b) = setCells star (fun i => if i = j then b else p i) := by
 apply Array.ext_getElem?
 intro i
 rw [Array.getElem?_setIfInBounds]
 cases i with
 | zero => rw [if_neg (by omega), setCells_zero, setCells_zero]
 | succ i =>
  by_cases h : i < 63
  ·rw [setCells_at _ _ _ h, setCells_at _ _ _ h]
   by_cases e : i = j
   ·subst e
    rw [if_pos rfl, if_pos (by rw [setCells_size]; omega), if_pos rfl]
   ·rw [if_neg (by omega), if_neg e]
  ·rw [setCells_out _ _ _ (by omega), setCells_out _ _ _ (by omega), if_neg (by omega)]
theorem setCells_ext {star : Bool} {p q : Nat → Bool} (h : ∀ j, j < 63 → p j = q j) : setCells star p = setCells star q := by
 apply Array.ext_getElem?
 intro i
 cases i with
 | zero => rw [setCells_zero, setCells_zero]
 | succ i =>
  by_cases hi : i < 63
  ·rw [setCells_at _ _ _ hi, setCells_at _ _ _ hi, h i hi]
  ·rw [setCells_out _ _ _ (by omega), setCells_out _ _ _ (by omega)]
def noSet : Nat → Bool := fun _ => false
def IsSet (w : World) (g : Nat) (star : Bool) (p : Nat → Bool) : Prop := w.heap[g]? = some (.cells (setCells star p) 56 (0, 0))
theorem IsSet.lt {w : World} {g : Nat} {star : Bool} {p : Nat → Bool} (h : IsSet w g star p) : g < w.heap.size := (Array.getElem?_eq_some_iff.1 h).1
theorem IsSet.below {w w' : World} {g : Nat} {star : Bool} {p : Nat → Bool} (h : IsSet w g star p) (hb : Below w.heap.size w w') : IsSet w' g star p :=
 (hb.block g h.lt).trans h
theorem IsSet.cell0 {w : World} {g : Nat} {star : Bool} {p : Nat → Bool} (h : IsSet w g star p) : w.cell? ⟨g, 0, none⟩ = some (.bool star) :=
 (cell_of_row w g 0 _ _ _ h).trans (setCells_zero star p)
theorem IsSet.cellAt {w : World} {g : Nat} {star : Bool} {p : Nat → Bool} (h : IsSet w g star p) (j : Nat) (hj : j < 63) : w.cell? ⟨g, j + 1, none⟩ = some (.bool (p j)) :=
 (cell_of_row w g (j + 1) _ _ _ h).trans (setCells_at star p j hj)
theorem IsSet.free {w : World} {g : Nat} {star : Bool} {p : Nat → Bool} (h : IsSet w g star p) (j : Nat) : w.frozen? ⟨g, j, none⟩ = false :=
 frozen_of_row w g j _ _ h
theorem IsSet.put {w : World} {g : Nat} {star : Bool} {p : Nat → Bool} (h : IsSet w g star p) (j : Nat) (hj : j < 63) (b : Bool) : IsSet (w.setCell ⟨g, j + 1, none⟩ (.bool b)) g star (fun i => if i = j then b else p i) := by
 unfold IsSet
 rw [heap_setCell_same w g (j + 1) _ _ _ h, setCells_put star b p j hj]
theorem IsSet.putStar {w : World} {g : Nat} {star : Bool} {p : Nat → Bool} (h : IsSet w g star p) (b : Bool) : IsSet (w.setCell ⟨g, 0, none⟩ (.bool b)) g b p := by
 unfold IsSet
 rw [heap_setCell_same w g 0 _ _ _ h, setCells_star]
theorem IsSet.other {w : World} {g : Nat} {star : Bool} {p : Nat → Bool} (h : IsSet w g star p) {a : Addr} (ha : g ≠ a.block) (v : Value) : IsSet (w.setCell a v) g star p := by
 unfold IsSet
 rw [heap_setCell_other w a g v ha]
 exact h
theorem isSet_new (w : World) (star : Bool) (p : Nat → Bool) : IsSet (w.alloc (.cells (setCells star p) 56 (0, 0))) w.heap.size star p :=
 heap_alloc_new w _
theorem setSize : (Tryz.prog.info? 56).map (·.size) = some 64 := by kernel_rfl
theorem run_alloc_set (w : World) : (Instr.alloc 56 true (.tuple #[])).run Tryz.prog w = .ok (.pointer (some ⟨w.heap.size, 0, none⟩)) (w.alloc (.cells (setCells false noSet) 56 (0, 0))) := by kernel_rfl
theorem built_set : (Tryz.prog.built 56 []) = some (setCells false noSet) := by kernel_rfl
theorem IsSet.store {w : World} {g : Nat} {star : Bool} {p : Nat → Bool} (h : IsSet w g star p) (st : Bool) (q : Nat → Bool) : IsSet (w.setRow g (setCells st q)) g st q :=
 setRow_heap w g _ _ _ _ h
theorem IsSet.row_other {w : World} {g k : Nat} {star : Bool} {p : Nat → Bool} (h : IsSet w g star p) (hk : g ≠ k) (cs : Array Value) : IsSet (w.setRow k cs) g star p :=
 (setRow_other w k g cs hk).trans h
section
variable {ops : Array Oper} {rest : List Oper} {o : Oper} {a : Act} {w : World} {Q : Exit → Act → World → Prop}
theorem wpList_build_set (hg : o.guard = none) (ho : o.op = .build 56 #[])
  (h : wpList Tryz.prog ops Q rest (a.put o.dst (.agg (setCells false noSet))) w) : wpList Tryz.prog ops Q (o :: rest) a w := by
 have e : ((#[] : Array (Nat × Operand)).map fun (i, x) => (i, a.eval x)).toList = [] := by simp
 refine wpList_build hg 56 #[] ho (by rw [e, built_set]; exact Option.isSome_some) ?_
 rw [e, built_set, Option.getD_some]
 exact h
theorem wpList_store_set (hg : o.guard = none) (x y : Operand) (ho : o.op = .store 56 x y) (g : Nat) (st : Bool) (q : Nat → Bool)
  (hx : a.eval x = .pointer (some ⟨g, 0, none⟩)) (hy : a.eval y = .agg (setCells st q)) (st0 : Bool) (q0 : Nat → Bool) (hs : IsSet w g st0 q0)
  (h : wpList Tryz.prog ops Q rest (a.put o.dst undef) (w.setRow g (setCells st q))) : wpList Tryz.prog ops Q (o :: rest) a w :=
 wpList_store_row hg 56 x y ho g _ hx hy _ _ hs (by rw [setSize, setCells_size]) (by rw [setCells_size, setCells_size]) (setCells_one st q) h
theorem wpList_load_set (hg : o.guard = none) (x : Operand) (ho : o.op = .load 56 x) (g : Nat) (st : Bool) (q : Nat → Bool)
  (hx : a.eval x = .pointer (some ⟨g, 0, none⟩)) (hs : IsSet w g st q)
  (h : wpList Tryz.prog ops Q rest (a.put o.dst (.agg (setCells st q))) w) : wpList Tryz.prog ops Q (o :: rest) a w := by
 exact wpList_load_row hg 56 x ho g hx _ _ _ _ hs Tryz.underlying56 rfl (by rw [setSize, setCells_size]) h
end
theorem run_load_set (w : World) (g : Nat) (st : Bool) (q : Nat → Bool) (hs : IsSet w g st q) : (loadVar 56 ⟨g, 0, none⟩).run Tryz.prog w = .ok (.agg (setCells st q)) w := by
 exact run_loadVar_row w g _ _ _ _ _ hs Tryz.underlying56 rfl (by rw [setSize, setCells_size])
theorem results_set {fn : Func} {p u : Tmp} (h : fn.results = #[.cell p 56, .tmp u]) (tmps : Array Value) (w : World) (g : Nat) (st : Bool) (q : Nat → Bool)
  (hp : tmps.getD p undef = .pointer (some ⟨g, 0, none⟩)) (hs : IsSet w g st q) :
  (results fn tmps).run Tryz.prog w = .ok (.tuple #[.agg (setCells st q), tmps.getD u undef]) w := by
 rw [results_cell_tmp h, hp]
 simp only [asAddr, Sem.run_pure, Result.andThen_ok, run_load_set w g st q hs]
def inCells (p : Nat → Bool) : Array Value := (Array.range 63).map fun j => .bool (p j)
theorem inCells_size (p : Nat → Bool) : (inCells p).size = 63 := by simp [inCells]
theorem inCells_at (p : Nat → Bool) (j : Nat) (h : j < 63) : (inCells p)[j]? = some (.bool (p j)) := by simp [inCells, h]
theorem sizeIn : (Tryz.prog.info? 54).map (·.size) = some 63 := by kernel_rfl
theorem sizeBool : (Tryz.prog.info? 4).map (·.size) = some 1 := by kernel_rfl
theorem run_load_in (w : World) (g : Nat) (st : Bool) (q : Nat → Bool) (hs : IsSet w g st q) : (loadVar 54 ⟨g, 1, none⟩).run Tryz.prog w = .ok (.agg (inCells q)) w := by
 have hl : (loadCells ⟨g, 1, none⟩ (inCells q).toList.length).run Tryz.prog w = .ok (inCells q).toList.toArray w :=
  run_loadCells_list (P := Tryz.prog) w ⟨g, 1, none⟩ (inCells q).toList (fun j v hv => by
   have hj : j < 63 := by
    have := (List.getElem?_eq_some_iff.1 hv).1
    rw [Array.length_toList, inCells_size] at this
    exact this
   have hadd : (⟨g, 1, none⟩ : Addr).add j = ⟨g, j + 1, none⟩ := by
    unfold Addr.add
    split
    ·rename_i h; subst h; rfl
    ·simp; omega
   rw [hadd, hs.cellAt j hj]
   have := inCells_at q j hj
   rw [← Array.getElem?_toList] at this
   rw [← this, hv])
 rw [Array.length_toList, inCells_size] at hl
 cases hq : Tryz.prog.info? 54 with
 | none => have := sizeIn; simp [hq] at this
 | some i =>
  have hsz : i.size = 63 := by have := sizeIn; simpa [hq] using this
  have hagg : (isAgg 54).run Tryz.prog w = .ok true w := by
   unfold isAgg
   rw [Sem.run_bind, run_underlying Tryz.underlying54 w]
   rfl
  simp only [Array.toArray_toList] at hl
  simp [loadVar, Sem.run_bind, hagg, sizeOf, typeInfo, hq, hsz, hl]
theorem run_index_in (q : Nat → Bool) (n : Nat) (h : n < 63) (w : World) : (Instr.index 54 (.agg (inCells q)) (.int .i64 n)).run Tryz.prog w = .ok (.bool (q n)) w := by
 cases hq : Tryz.prog.info? 4 with
 | none => have := sizeBool; simp [hq] at this
 | some i =>
  have hsz : i.size = 1 := by have := sizeBool; simpa [hq] using this
  have hp := run_part_plain (P := Tryz.prog) (e := 4) (by kernel_rfl) (w := w) (inCells_at q n h)
  have hlt : (n : Int) < 63 := by omega
  simp [Instr.index, run_underlying Tryz.underlying54, asIntOf, sizeOf, typeInfo, hq, hsz, hp, Sem.run_bind]
  intro h'
  omega
section
variable {ops : Array Oper} {rest : List Oper} {o : Oper} {a : Act} {w : World} {Q : Exit → Act → World → Prop}
theorem wpList_load_in (hgd : o.guard = none) (x : Operand) (ho : o.op = .load 54 x) (g : Nat) (st : Bool) (q : Nat → Bool)
  (hx : a.eval x = .pointer (some ⟨g, 1, none⟩)) (hs : IsSet w g st q)
  (h : wpList Tryz.prog ops Q rest (a.put o.dst (.agg (inCells q))) w) : wpList Tryz.prog ops Q (o :: rest) a w := by
 refine wpList_plain hgd fun K hK => ?_
 unfold Oper.wp execOp
 simp only [ho, hx, Instr.loadAt, Instr.sureAddr, Sem.run_bind, Sem.run_pure, Result.andThen_ok, run_load_in w g st q hs]
 exact hK _ _ h
end
theorem run_box_set (st : Bool) (p : Nat → Bool) (w : World) : (Instr.box 56 (.agg (setCells st p))).run Tryz.prog w = .ok (.pointer (some ⟨w.heap.size, 0, none⟩)) (w.alloc (.cells (setCells st p) 56 (0, 0))) := by
 rfl
theorem isSet_lit (w : World) : IsSet (w.alloc (.cells #[.bool false, .bool false, .bool false, .bool false, .bool false, .bool false, .bool false, .bool false, .bool false, .bool false, .bool false, .bool false, .bool false, .bool false, .bool false, .bool false, .bool false, .bool false, .bool false, .bool false, .bool false, .bool false, .bool false, .bool false, .bool false, .bool false, .bool false, .bool false, .bool false, .bool false, .bool false, .bool false, .bool false, .bool false, .bool false, .bool false, .bool false, .bool false, .bool false, .bool false, .bool false, .bool false, .bool false, .bool false, .bool false, .bool false, .bool false, .bool false, .bool false, .bool false, .bool false, .bool false, .bool false, .bool false, .bool false, .bool false, .bool false, .bool false, .bool false, .bool false, .bool false, .bool false, .bool false, .bool false] 56)) w.heap.size false noSet :=
 (heap_alloc_new w _).trans (by kernel_rfl)
end Go.Proofs.YtmecbmgfacpecaaGreatDoor.CronN
namespace Go.Proofs.YtmecbmgfacpecaaGreatDoor.Sched
open Go Go.RowKit Go.Proofs.YtmecbmgfacpecaaGreatDoor.Cal Go.Proofs.YtmecbmgfacpecaaGreatDoorW.PrintWords Go.Proofs.YtmecbmgfacpecaaGreatDoorW.PrintLast
set_option linter.unusedVariables false
set_option linter.unusedSimpArgs false
theorem below_of_le {W w1 w2 : World} (h1 : Below W.heap.size W w1) (h2 : Below w1.heap.size w1 w2) : Below W.heap.size W w2 :=
 h1.trans (h2.mono h1.size)
section
variable {P : Program}
theorem run_storeVar_at (w : World) (g o : Nat) (t ty : TypeId) (cur cells : Array Value) (hg : w.heap[g]? = some (.cells cur t (0, 0))) (hfit : o + cells.size ≤ cur.size) (hi : (P.info? ty).map (·.size) = some cells.size)
  (h1 : cells.all (·.oneCell') = true) :
  (storeVar ty ⟨g, o, none⟩ (.agg cells)).run P w = .ok () (w.setRow g (cur.toList.take o ++ cells.toList ++ cur.toList.drop (o + cells.size)).toArray) := by
 have := run_storeCells_at P g o t cells.toList 0 cur w hg (by simpa using hfit) (fun v hv => (Array.all_eq_true_iff_forall_mem.1 h1) v (by simpa using hv))
 cases hq : P.info? ty with
 | none => simp [hq] at hi
 | some i =>
  have hs : cells.size = i.size := by simp [hq] at hi; omega
  simp only [Nat.add_zero, Array.length_toList] at this
  simp [storeVar, sizeOf, typeInfo, hq, Value.cells, hs]
  rw [← hs]
  simpa [List.append_assoc] using this
theorem wp_store_at {o : Oper} {a : Act} {w : World} {K : Act → World → Prop} {Q : Exit → Act → World → Prop} (ty : TypeId) (x y : Operand) (ho : o.op = .store ty x y)
  (g of : Nat) (cells : Array Value) (hx : a.eval x = .pointer (some ⟨g, of, none⟩)) (hy : a.eval y = .agg cells)
  (t : TypeId) (cur : Array Value) (hg : w.heap[g]? = some (.cells cur t (0, 0))) (hi : (P.info? ty).map (·.size) = some cells.size)
  (hfit : of + cells.size ≤ cur.size) (h1 : cells.all (·.oneCell') = true)
  (h : K (a.put o.dst undef) (w.setRow g (cur.toList.take of ++ cells.toList ++ cur.toList.drop (of + cells.size)).toArray)) : o.wp P a w K Q := by
 unfold Oper.wp execOp
 simp only [ho, hx, hy, Instr.storeAt, Instr.sureAddr, Sem.run_bind, Sem.run_pure, Result.andThen_ok, run_storeVar_at w g of t ty cur cells hg hfit hi h1]
 exact h
theorem wpList_store_at {ops : Array Oper} {rest : List Oper} {o : Oper} {a : Act} {w : World} {Q : Exit → Act → World → Prop} (hgd : o.guard = none) (ty : TypeId) (x y : Operand) (ho : o.op = .store ty x y)
  (g of : Nat) (cells : Array Value) (hx : a.eval x = .pointer (some ⟨g, of, none⟩)) (hy : a.eval y = .agg cells)
  (t : TypeId) (cur : Array Value) (hg : w.heap[g]? = some (.cells cur t (0, 0))) (hi : (P.info? ty).map (·.size) = some cells.size)
  (hfit : of + cells.size ≤ cur.size) (h1 : cells.all (·.oneCell') = true)
  (h : wpList P ops Q rest (a.put o.dst undef) (w.setRow g (cur.toList.take of ++ cells.toList ++ cur.toList.drop (of + cells.size)).toArray)) : wpList P ops Q (o :: rest) a w :=
 wpList_plain hgd fun _ hK => wp_store_at ty x y ho g of cells hx hy t cur hg hi hfit h1 (hK _ _ h)
end
end Go.Proofs.YtmecbmgfacpecaaGreatDoor.Sched
namespace Go.Proofs.YtmecbmgfacpecaaGreatDoor.CronN
open Go Go.RowKit Go.Proofs.YtmecbmgfacpecaaGreatDoorW.PrintWords Go.Proofs.YtmecbmgfacpecaaGreatDoorW.PrintLast Go.Proofs.YtmecbmgfacpecaaGreatDoor.Cal Go.Proofs.YtmecbmgfacpecaaGreatDoor.Pr
open Go.Proofs.YtmecbmgfacpecaaGreatDoor.Sched (wpList_store_at)
set_option linter.unusedVariables false
set_option linter.unusedSimpArgs false
def bitsK (S : Sets) : Nat → Nat | 0 => S.sec | 1 => S.min | 2 => S.hour | 3 => S.dom | 4 => S.month | _ => S.dow
def loF : Nat → Nat | 3 => 1 | 4 => 1 | _ => 0
def hiF : Nat → Nat | 0 => 59 | 1 => 59 | 2 => 23 | 3 => 31 | 4 => 12 | _ => 6
def memB (lo hi b : Nat) : Nat → Bool := fun v => decide (lo ≤ v) && (decide (v ≤ hi) && b.testBit v)
theorem low_f (k : Nat) (hk : k < 6) : spec_CronLow.f (k : Int) = some (loF k : Int) := by
 match k, hk with
 | 0, _ | 1, _ | 2, _ | 3, _ | 4, _ | 5, _ => decide
theorem high_f (k : Nat) (hk : k < 6) : spec_CronHigh.f (k : Int) = some (hiF k : Int) := by
 match k, hk with
 | 0, _ | 1, _ | 2, _ | 3, _ | 4, _ | 5, _ => decide
theorem drawn_below {w w' : World} (h : Drawn0 w w') : Below w.heap.size w w' := by
 first
  | exact h
  | (obtain ⟨n, rfl⟩ := h; exact pw_below_drewN (Below.refl _ _) n)
theorem shr_bit {b : Nat} (hb : b < 2 ^ 64) (v : Nat) : (bits .and .u64 ((b : Int) / 2 ^ v) 1 == 1) = b.testBit v := by
 have e : ((b : Int) / 2 ^ v) = ((b / 2 ^ v : Nat) : Int) := by push_cast; rfl
 have hl : b / 2 ^ v < 2 ^ 64 := Nat.lt_of_le_of_lt (Nat.div_le_self _ _) hb
 rw [e, show (1 : Int) = ((1 : Nat) : Int) from rfl, and_u64 hl (by omega), Nat.and_one_is_mod, Nat.testBit_eq_decide_div_mod_eq]
 generalize b / 2 ^ v % 2 = x
 by_cases h : x = 1
 ·simp [h]
 ·simp only [h, decide_false, beq_eq_false_iff_ne]
  omega
theorem star_ne {b : Nat} (hb : b < 2 ^ 64) : (bits .and .u64 (b : Int) 9223372036854775808 != 0) = inB b 63 := by
 have := and_u64 hb (show 2 ^ 63 < 2 ^ 64 by omega)
 rw [show ((2 ^ 63 : Nat) : Int) = 9223372036854775808 from rfl, Nat.and_comm, pow_and] at this
 rw [this]
 unfold inB
 rw [show (63 : Int).toNat = 63 from rfl]
 cases h : b.testBit 63 <;> simp
theorem lit64 : (#[.bool false, .bool false, .bool false, .bool false, .bool false, .bool false, .bool false, .bool false, .bool false, .bool false, .bool false, .bool false, .bool false, .bool false, .bool false, .bool false, .bool false, .bool false, .bool false, .bool false, .bool false, .bool false, .bool false, .bool false, .bool false, .bool false, .bool false, .bool false, .bool false, .bool false, .bool false, .bool false, .bool false, .bool false, .bool false, .bool false, .bool false, .bool false, .bool false, .bool false, .bool false, .bool false, .bool false, .bool false, .bool false, .bool false, .bool false, .bool false, .bool false, .bool false, .bool false, .bool false, .bool false, .bool false, .bool false, .bool false, .bool false, .bool false, .bool false, .bool false, .bool false, .bool false, .bool false, .bool false] : Array Value) = setCells false noSet := by kernel_rfl
theorem setCells2 (w : World) : IsSet ((w.alloc (.cells (setCells false noSet) 56)).alloc (.cells (setCells false noSet) 56)) (w.heap.size + 1) false noSet := heap_two w _ _
set_option maxRecDepth 100000 in
set_option maxHeartbeats 4000000 in
theorem setOf_any (k b : Nat) (hk : k < 6) (hb : b < 2 ^ 64) (w : World) :
  Calls Tryz.prog 127 #[.int .i64 k, .int .u64 b] w fun e w' => e = .returned (.agg (setCells (inB b 63) (memB (loF k) (hiF k) b))) ∧ Below w.heap.size w w' := by
 have HL : Hid (∀ w' : World, Calls Tryz.prog 60 #[.int .i64 k] w' fun e w2 => e = .returned (.int .i64 (loF k : Nat)) ∧ Below w'.heap.size w' w2) := Lib.hid (fun w' => (spec_CronLow.calls k (loF k) w' (low_f k hk)).mono (fun _ _ h => ⟨h.1, drawn_below h.2⟩))
 have HH : Hid (∀ w' : World, Calls Tryz.prog 61 #[.int .i64 k] w' fun e w2 => e = .returned (.int .i64 (hiF k : Nat)) ∧ Below w'.heap.size w' w2) := Lib.hid (fun w' => (spec_CronHigh.calls k (hiF k) w' (high_f k hk)).mono (fun _ _ h => ⟨h.1, drawn_below h.2⟩))
 have hlo : loF k ≤ 1 := by match k, hk with | 0, _ | 1, _ | 2, _ | 3, _ | 4, _ | 5, _ => decide
 have hhi : hiF k ≤ 59 ∧ 6 ≤ hiF k := by match k, hk with | 0, _ | 1, _ | 2, _ | 3, _ | 4, _ | 5, _ => decide
 generalize loF k = lo at *
 generalize hiF k = hi at *
 have hal := run_alloc_set
 go_enter Tryz.func127, Tryz.ntmps127
 go_wp2_with fail
 refine (HL.out _).mono ?_
 rintro e w1 ⟨rfl, hb1⟩
 rw [lit64] at hb1
 have HS5 := Lib.hid ((setCells2 w).below hb1)
 have HS4 := Lib.hid (((isSet_new w false noSet).below ((Below.refl _ _).alloc (Nat.le_refl _) (.cells (setCells false noSet) 56))).below hb1)
 have HB1 := Lib.hid (below_le (((Below.refl w.heap.size w).alloc (Nat.le_refl _) _).alloc (by simp) _) hb1)
 clear hb1
 go_wp2_with fail
 go_loopw [6] (fun v6 wr => ∃ v : Nat, v6 = .int .i64 v ∧ lo ≤ v ∧ v ≤ hi + 1 ∧ Hid (IsSet wr (w.heap.size + 1) false (fun i => decide (i < v) && memB lo hi b i)) ∧ Hid (IsSet wr w.heap.size false noSet) ∧ Below w.heap.size w wr) (fun v6 _ => hi + 1 - (intOf v6).toNat)
 case atStart => exact ⟨lo, rfl, by omega, by omega, Lib.hid (by
  have e : setCells false noSet = setCells false (fun i => decide (i < lo) && memB lo hi b i) := setCells_ext (fun j _ => by unfold noSet memB; by_cases h : j < lo <;> simp [h] <;> omega)
  have := HS5.out
  unfold IsSet at *
  rw [← e]
  exact this), HS4, HB1.out⟩
 case round =>
  obtain ⟨v, rfl, hv0, hv1, HS, HS0, hbr⟩ := hrel
  clear HS5 HS4 HB1
  go_wp2_with fail
  refine (HH.out _).mono ?_
  rintro e w2 ⟨rfl, hb2⟩
  have HSb := Lib.hid (HS.out.below hb2)
  have HS0b := Lib.hid (HS0.out.below hb2)
  have hbr2 := below_le hbr hb2
  by_cases hvh : v ≤ hi
  ·have hd : decide ((v : Int) ≤ hi) = true := decide_eq_true (by omega)
   have hv63 : (v : Int) < 63 := by omega
   have hvp : (0 : Int) ≤ v := by omega
   have hc := HSb.out.cellAt v (by omega)
   have hfz := HSb.out.free (v + 1)
   have hc' : w2.cell? ⟨w.heap.size + 1, 1 + v, none⟩ = some (.bool (decide (v < v) && memB lo hi b v)) := by rw [Nat.add_comm 1 v]; exact hc
   have hfz' : w2.frozen? ⟨w.heap.size + 1, 1 + v, none⟩ = false := by rw [Nat.add_comm 1 v]; exact hfz
   go_wp2_with fail
   rw [shr_bit hb, Nat.add_comm 1 v]
   refine ⟨⟨v + 1, by push_cast; rfl, by omega, by omega, Lib.hid ?_, Lib.hid (HS0b.out.other (by show w.heap.size ≠ w.heap.size + 1; omega) _), hbr2.setCell (by show w.heap.size ≤ w.heap.size + 1; omega) _⟩, by simp [intOf]; omega⟩
   have := HSb.out.put v (by omega) (b.testBit v)
   have e := setCells_ext (star := false) (p := fun i => if i = v then b.testBit v else decide (i < v) && memB lo hi b i) (q := fun i => decide (i < v + 1) && memB lo hi b i) (fun j _ => by
    show (if j = v then b.testBit v else decide (j < v) && memB lo hi b j) = (decide (j < v + 1) && memB lo hi b j)
    by_cases hj : j = v
    ·subst hj
     rw [if_pos rfl]
     unfold memB
     simp [hv0, hvh]
    ·rw [if_neg hj]
     by_cases h2 : j < v
     ·simp [h2, show j < v + 1 by omega]
     ·simp [h2, show ¬ j < v + 1 by omega])
   unfold IsSet at *
   rw [← e]
   exact this
  ·have hd : decide ((v : Int) ≤ hi) = false := decide_eq_false (by omega)
   obtain rfl : v = hi + 1 := by omega
   have hc := HSb.out.cell0
   have hfz := HSb.out.free 0
   have hsn := star_ne hb
   have HP := Lib.hid (HSb.out.putStar (inB b 63))
   have HP0 := Lib.hid (HS0b.out.other (a := ⟨w.heap.size + 1, 0, none⟩) (by show w.heap.size ≠ w.heap.size + 1; omega) (.bool (inB b 63)))
   go_wp2_with (first | (refine wpList_load_set rfl _ rfl (w.heap.size + 1) (inB b 63) _ rfl HP.out ?_) | (refine wpList_store_set rfl _ _ rfl w.heap.size (inB b 63) _ rfl rfl false noSet HP0.out ?_))
   have e := setCells_ext (star := inB b 63) (p := fun i => decide (i < hi + 1) && memB lo hi b i) (q := memB lo hi b) (fun j _ => by
    show (decide (j < hi + 1) && memB lo hi b j) = memB lo hi b j
    by_cases h : j < hi + 1
    ·simp [h]
    ·unfold memB
     simp [h, show ¬ j ≤ hi by omega])
   rw [e]
   refine bodyPost_ret (v := .agg (setCells (inB b 63) (memB lo hi b))) ?_ rfl ⟨rfl, ?_⟩
   ·exact results_cell_row (fn := Tryz.f127) (p := 4) rfl _ _ w.heap.size _ _ _ _ rfl (setRow_heap _ _ _ _ _ _ HP0.out) Tryz.underlying56 rfl (by rw [setSize, setCells_size])
   ·exact below_setRow (hbr2.setCell (by show w.heap.size ≤ w.heap.size + 1; omega) _) (Nat.le_refl _) _
def setK (S : Sets) (k : Nat) : Array Value := setCells (inB (bitsK S k) 63) (memB (loF k) (hiF k) (bitsK S k))
def rowsK (S : Sets) (j : Nat) : List Value := (List.range j).flatMap fun k => (setK S k).toList
def fieldsC (S : Sets) : Array Value := (rowsK S 6).toArray
theorem rowsK_len (S : Sets) : ∀ j, (rowsK S j).length = j * 64
 | 0 => rfl
 | j + 1 => by
  have := rowsK_len S j
  unfold rowsK at this ⊢
  rw [List.range_succ, List.flatMap_append, List.length_append, this]
  simp [setK, setCells_size]
  omega
theorem rowsK_succ (S : Sets) (j : Nat) : rowsK S (j + 1) = rowsK S j ++ (setK S j).toList := by
 unfold rowsK
 rw [List.range_succ, List.flatMap_append]
 simp
theorem fieldsC_size (S : Sets) : (fieldsC S).size = 384 := by unfold fieldsC; simp [rowsK_len]
theorem rowsK_at (S : Sets) : ∀ (n k t : Nat), k < n → t < 64 → (rowsK S n)[k * 64 + t]? = (setK S k)[t]?
 | 0, k, t, h, _ => absurd h (by omega)
 | n + 1, k, t, h, ht => by
  have hl := rowsK_len S n
  rw [rowsK_succ]
  by_cases hm : k < n
  ·rw [List.getElem?_append_left (by rw [hl]; omega)]
   exact rowsK_at S n k t hm ht
  ·obtain rfl : k = n := by omega
   rw [List.getElem?_append_right (by rw [hl]; omega), hl, show k * 64 + t - k * 64 = t by omega]
   simp
theorem fieldsC_star (S : Sets) (k : Nat) (hk : k < 6) : (fieldsC S)[k * 64]? = some (.bool (inB (bitsK S k) 63)) := by
 have := rowsK_at S 6 k 0 hk (by omega)
 rw [Nat.add_zero] at this
 unfold fieldsC
 rw [List.getElem?_toArray, this]
 exact setCells_zero _ _
theorem fieldsC_at (S : Sets) (k v : Nat) (hk : k < 6) (hv : v < 63) : (fieldsC S)[k * 64 + (v + 1)]? = some (.bool (memB (loF k) (hiF k) (bitsK S k) v)) := by
 have := rowsK_at S 6 k (v + 1) hk (by omega)
 unfold fieldsC
 rw [List.getElem?_toArray, this]
 exact setCells_at _ _ v hv
theorem fieldsC_one (S : Sets) : (fieldsC S).all (·.oneCell') = true := by
 rw [Array.all_eq_true_iff_forall_mem]
 intro v hv
 unfold fieldsC rowsK at hv
 simp only [List.mem_toArray, List.mem_flatMap] at hv
 obtain ⟨k, _, hv⟩ := hv
 exact (Array.all_eq_true_iff_forall_mem.1 (setCells_one (inB (bitsK S k) 63) (memB (loF k) (hiF k) (bitsK S k)))) v (by simpa [setK] using hv)
theorem zeroC_size : Tryz.zeroCells88.size = 384 := by kernel_rfl
theorem fieldsSize : (Tryz.prog.info? 88).map (·.size) = some 384 := by kernel_rfl
def fillC (Z : Array Value) (S : Sets) (j : Nat) : Array Value := (rowsK S j ++ Z.toList.drop (j * 64)).toArray
theorem fillC_size (Z : Array Value) (hZ : Z.size = 384) (S : Sets) (j : Nat) (hj : j ≤ 6) : (fillC Z S j).size = 384 := by
 unfold fillC
 simp only [List.size_toArray, List.length_append, rowsK_len, List.length_drop, Array.length_toList, hZ]
 omega
theorem fillC_step (Z : Array Value) (S : Sets) (j : Nat) (hj : j < 6) : ((fillC Z S j).toList.take (j * 64) ++ (setK S j).toList ++ (fillC Z S j).toList.drop (j * 64 + (setK S j).size)).toArray = fillC Z S (j + 1) := by
 have hl := rowsK_len S j
 unfold fillC
 congr 1
 rw [rowsK_succ, show (setK S j).size = 64 from setCells_size _ _]
 show List.take (j * 64) (rowsK S j ++ List.drop (j * 64) Z.toList) ++ (setK S j).toList ++ List.drop (j * 64 + 64) (rowsK S j ++ List.drop (j * 64) Z.toList) = _
 rw [← hl, List.take_left, List.drop_append, List.drop_drop, hl]
 have e1 : List.drop (j * 64 + 64) (rowsK S j) = [] := List.drop_eq_nil_of_le (by rw [hl]; omega)
 rw [e1]
 congr 2
 show List.drop _ _ = _
 congr 1
 omega
set_option maxRecDepth 100000 in
set_option maxHeartbeats 4000000 in
theorem fieldsOf_any (d : Int) (S : Sets) (hS : S.ok) (w : World) :
  Calls Tryz.prog 69 #[.agg (setsCells d S)] w fun e w' => e = .returned (.agg (fieldsC S)) ∧ Below w.heap.size w w' := by
 have HSO : Hid (∀ (k : Nat) (w' : World), k < 6 → Calls Tryz.prog 127 #[.int .i64 k, .int .u64 (bitsK S k : Nat)] w' fun e w2 => e = .returned (.agg (setK S k)) ∧ Below w'.heap.size w' w2) := Lib.hid (fun k w' hk => setOf_any k (bitsK S k) hk (by
  obtain ⟨h1, h2, h3, h4, h5, h6⟩ := hS
  match k, hk with
  | 0, _ => exact h1
  | 1, _ => exact h2
  | 2, _ => exact h3
  | 3, _ => exact h4
  | 4, _ => exact h5
  | 5, _ => exact h6) w')
 unfold setsCells
 go_enter Tryz.func69, Tryz.ntmps69
 go_wp2_with fail
 have hr3 : Hid ((((w.alloc (.cells #[.bool false, .int .i64 d, .int .u64 (S.sec : Int), .int .u64 (S.min : Int), .int .u64 (S.hour : Int), .int .u64 (S.dom : Int), .int .u64 (S.month : Int), .int .u64 (S.dow : Int)] 26)).alloc (.cells Tryz.zeroCells88 88)).alloc (.cells Tryz.zeroCells88 88)).heap[w.heap.size + 1 + 1]? = some (.cells (fillC Tryz.zeroCells88 S 0) 88 (0, 0))) := Lib.hid (by
  have e : fillC Tryz.zeroCells88 S 0 = Tryz.zeroCells88 := by simp [fillC, rowsK]
  rw [e]
  have := heap_two (w.alloc (.cells #[.bool false, .int .i64 d, .int .u64 (S.sec : Int), .int .u64 (S.min : Int), .int .u64 (S.hour : Int), .int .u64 (S.dom : Int), .int .u64 (S.month : Int), .int .u64 (S.dow : Int)] 26)) (.cells Tryz.zeroCells88 88) (.cells Tryz.zeroCells88 88)
  simpa using this)
 have hr2 : Hid ((((w.alloc (.cells #[.bool false, .int .i64 d, .int .u64 (S.sec : Int), .int .u64 (S.min : Int), .int .u64 (S.hour : Int), .int .u64 (S.dom : Int), .int .u64 (S.month : Int), .int .u64 (S.dow : Int)] 26)).alloc (.cells Tryz.zeroCells88 88)).alloc (.cells Tryz.zeroCells88 88)).heap[w.heap.size + 1]? = some (.cells Tryz.zeroCells88 88 (0, 0))) := Lib.hid (by
  rw [Below.heap_alloc _ _ _ (by simp)]
  exact heap_two w _ _)
 have hb0 : Below w.heap.size w (((w.alloc (.cells #[.bool false, .int .i64 d, .int .u64 (S.sec : Int), .int .u64 (S.min : Int), .int .u64 (S.hour : Int), .int .u64 (S.dom : Int), .int .u64 (S.month : Int), .int .u64 (S.dow : Int)] 26)).alloc (.cells Tryz.zeroCells88 88)).alloc (.cells Tryz.zeroCells88 88)) := ((((Below.refl _ _).alloc (Nat.le_refl _) _).alloc (by simp) _).alloc (by simp; try omega) _)
 go_loopw [19] (fun v19 wr => ∃ j : Nat, v19 = .int .i64 j ∧ j ≤ 6 ∧ Hid (wr.heap[w.heap.size + 1 + 1]? = some (.cells (fillC Tryz.zeroCells88 S j) 88 (0, 0))) ∧ Hid (wr.heap[w.heap.size + 1]? = some (.cells Tryz.zeroCells88 88 (0, 0))) ∧ Below w.heap.size w wr) (fun v19 _ => 6 - (intOf v19).toNat)
 case atStart => exact ⟨0, rfl, by omega, hr3, hr2, hb0⟩
 case round =>
  obtain ⟨j, rfl, hj, HR, HR2, hbr⟩ := hrel
  clear hr3 hr2 hb0
  by_cases h6 : j < 6
  ·have hix : ∀ w' : World, (Instr.index 228 (.agg #[.int .u64 (S.sec : Int), .int .u64 (S.min : Int), .int .u64 (S.hour : Int), .int .u64 (S.dom : Int), .int .u64 (S.month : Int), .int .u64 (S.dow : Int)]) (.int .i64 (j : Int))).run Tryz.prog w' = .ok (.int .u64 (bitsK S j : Nat)) w' := by
    intro w'
    match j, h6 with
    | 0, _ | 1, _ | 2, _ | 3, _ | 4, _ | 5, _ => rfl
   have hjl : (j : Int) < 6 := by omega
   have hj0 : (0 : Int) ≤ j := by omega
   have hd : decide ((j : Int) < 6) = true := decide_eq_true hjl
   go_wp2_with fail
   refine (HSO.out j _ h6).mono ?_
   rintro e w2 ⟨rfl, hb2⟩
   have hr := (hb2.block _ (Array.getElem?_eq_some_iff.1 HR.out).1).trans HR.out
   have hr2 := Lib.hid ((hb2.block _ (Array.getElem?_eq_some_iff.1 HR2.out).1).trans HR2.out)
   have hbr2 := below_le hbr hb2
   have HST := Lib.hid (fillC_step Tryz.zeroCells88 S j h6)
   have HRR := Lib.hid hr
   clear hb2 hr
   go_wp2_with (refine wpList_store_at rfl 56 _ _ rfl (w.heap.size + 1 + 1) (j * 64) (setK S j) rfl rfl 88 _ HRR.out (by rw [setSize]; exact congrArg some (setCells_size _ _).symm) (by rw [fillC_size _ zeroC_size S j (by omega), show (setK S j).size = 64 from setCells_size _ _]; omega) (setCells_one _ _) ?_)
   refine ⟨⟨j + 1, by push_cast; rfl, by omega, Lib.hid ?_, Lib.hid ((setRow_other _ _ _ _ (by omega)).trans hr2.out), below_setRow hbr2 (by omega) _⟩, by simp [intOf]; omega⟩
   rw [← List.append_assoc, HST.out]
   exact setRow_heap _ _ _ _ _ _ HRR.out
  ·obtain rfl : j = 6 := by omega
   have e : fillC Tryz.zeroCells88 S 6 = fieldsC S := by
    unfold fillC fieldsC
    rw [List.drop_eq_nil_of_le (by rw [Array.length_toList, zeroC_size]; decide), List.append_nil]
   have HRE := Lib.hid (HR.out)
   rw [e] at HRE
   go_wp2_with (first | (refine wpList_load_row rfl 88 _ rfl (w.heap.size + 1 + 1) rfl _ _ _ _ HRE.out Tryz.underlying88 rfl (by rw [fieldsSize, fieldsC_size]) ?_) | (refine wpList_store_row rfl 88 _ _ rfl (w.heap.size + 1) (fieldsC S) rfl rfl 88 _ HR2.out (by rw [fieldsSize, fieldsC_size]) (by rw [fieldsC_size, zeroC_size]) (fieldsC_one S) ?_))
   refine bodyPost_ret (v := .agg (fieldsC S)) ?_ rfl ⟨rfl, ?_⟩
   ·exact results_cell_row (fn := Tryz.f69) (p := 2) rfl _ _ (w.heap.size + 1) _ _ _ _ rfl (setRow_heap _ _ _ _ _ _ HR2.out) Tryz.underlying88 rfl (by rw [fieldsSize, fieldsC_size])
   ·exact below_setRow hbr (by omega) _
end Go.Proofs.YtmecbmgfacpecaaGreatDoor.CronN
