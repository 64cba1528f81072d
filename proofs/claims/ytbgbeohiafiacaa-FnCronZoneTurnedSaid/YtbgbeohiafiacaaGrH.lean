/- Lemmas and walks on the way to the law, merged by wip/tools/pack.py: ImplN2, SetsN, Sched2. Conditions: none. -/
import Derived.Test.YtbgbeohiafiacaaGrG
import Derived.Laws.Rows
import Derived.Laws.Tables
import Derived.Laws.ResultCell
import Derived.Laws.CopyOwn
import Derived.ChangeKeysEq
import Derived.Test.YtbgbeohiafiacaaWWords
import Derived.Test.YtbgbeohiafiacaaWLast
import Derived.Deep.DeepCutAuto
namespace Go.Proofs.Ytbgbeohiafiacaa.Cal
open Go Go.RowKit Go.Proofs.YtbgbeohiafiacaaW.PrintWords Go.Proofs.YtbgbeohiafiacaaW.PrintLast Go.Proofs.Ytbgbeohiafiacaa.Sched
set_option linter.unusedVariables false
set_option linter.unusedSimpArgs false

/-- the thin package's zone zv has one offset, off -/
def ZoneGives (zv : Value) (off : Int) : Prop := ∀ w : World, Calls Try.prog 35 #[zv] w fun e w2 =>
  ∃ (l : Option Addr) (Inv : World → Prop) (Loc : World → Nat → Prop) (k : Nat), Clock l off Inv Loc ∧ LocS Loc ∧ e = .returned (.pointer (some ⟨k, 0, none⟩)) ∧ Loc w2 k ∧ Inv w2 ∧ Below w.heap.size w w2
theorem zone_utc : ZoneGives utcZone 0 := fun w => (locationUtc_any w).mono fun _ _ ⟨k, h1, h2, h3⟩ => ⟨none, _, _, k, clock_utc, locS_utc, h1, h2, trivial, h3⟩

theorem schedSize : (Try.prog.info? 27).map (·.size) = some 8 := by kernel_rfl
theorem zoneSize : (Try.prog.info? 41).map (·.size) = some 4 := by kernel_rfl
theorem ansI_size (off : Int) (r : Option Int) : (ansI off r).size = 2 := by cases r <;> rfl
theorem ansI_one (off : Int) (r : Option Int) : (ansI off r).all (·.oneCell') = true := by cases r <;> simp [ansI, Value.oneCell']

/-- a schedule of six sets, as the program is given it -/
def setsCells (d : Int) (S : Sets) : Array Value := #[.bool false, .int .i64 d, .int .u64 (S.sec : Int), .int .u64 (S.min : Int), .int .u64 (S.hour : Int), .int .u64 (S.dom : Int), .int .u64 (S.month : Int), .int .u64 (S.dow : Int)]

theorem schedSets_any (d : Int) (S : Sets) (w : World) :
    Calls Try.prog 29 #[.agg (setsCells d S), .pointer none] w fun e w' => ∃ g, e = .returned (.iface 132 (.pointer (some ⟨g, 0, none⟩))) ∧ SpecRow w' g S none ∧ Below w.heap.size w w' := by
  refine (schedule_any ⟨false, d, S.sec, S.min, S.hour, S.dom, S.month, S.dow⟩ w).mono ?_
  rintro e w' ⟨v, rfl, hs, hb⟩
  unfold SchIs at hs
  rw [if_neg (by simp)] at hs
  obtain ⟨g, rfl, hg⟩ := hs
  exact ⟨g, rfl, hg, hb⟩

theorem year_top {L : Int} (h : L ≤ 253402300800 + 86400) : yearL L ≤ 10000 := by
  have := year_mono h
  have e : yearL (253402300800 + 86400) = 10000 := (date_eq (L := 253402300800 + 86400) (y := 10000) (m := 1) (d := 2) ⟨by omega, by omega, by omega, by decide⟩ (by decide)).1
  omega

set_option maxRecDepth 100000 in
set_option maxHeartbeats 4000000 in
theorem implNext_any (z0 z1 z2 z3 : Value) (off : Int) (hz : ZoneGives (.agg #[z0, z1, z2, z3]) off) (d : Int) (S : Sets) (hS : S.ok) (sec nano : Int) (s0 : -62135596800 ≤ sec) (s1 : sec ≤ 253402300799) (n0 : 0 ≤ nano) (n1 : nano < 1000000000)
    (o0 : -86400 ≤ off) (o1 : off ≤ 86400) (o60 : off % 60 = 0) (hy : 0 ≤ off ∨ ∀ x, monthB S x = true) (w : World) :
    Calls Try.prog 11 #[.agg (setsCells d S), .agg #[.int .i64 sec, .int .i64 nano], .agg #[z0, z1, z2, z3]] w fun e w' => ∃ r : Option Int, Least S (sec + 1 + off) (yearL (sec + 1 + off) + 5) r ∧ e = .returned (.tuple #[.agg (ansI off r), .bool r.isSome]) ∧ Below w.heap.size w w' := by
  have HSC := Lib.hid (fun w' => schedSets_any d S w')
  have HZ := Lib.hid (fun w' => hz w')
  have hmf : ∀ (fn : Fn) (first cap : Array Value) (w : World), (Instr.makeFunc fn first cap).run Try.prog w = .ok (.func fn first cap) w := fun _ _ _ _ => rfl
  have hlim : yearL (sec + 1 + off) + 5 ≤ 10010 := by have := year_top (L := sec + 1 + off) (by omega); omega
  have hy1 : 1 ≤ yearL (sec + 1 + off) ∨ ∀ x, monthB S x = true := by
    rcases hy with h | h
    · exact .inl (year_one (by omega))
    · exact .inr h
  have HPAR : Hid (∀ (Inv : World → Prop) (w' : World) (g : Nat), Inv w' → SpecRow w' g S none → Par off Inv w' g S (sec + 1 + off) (yearL (sec + 1 + off) + 5)) := Lib.hid (fun Inv w' g hI hg => ⟨hI, hg, hS, by omega, o0, o1, by omega, hlim, hy1⟩)
  have HL : Hid (∀ r, Least S (sec + 1 + off) (yearL (sec + 1 + off) + 5) r → ∀ L, r = some L → 0 < L + 62135596800 - off ∧ L + 62135596800 - off ≤ 900000000000) := Lib.hid (by
    rintro r hr L rfl
    obtain ⟨h1, h2, h3, h4⟩ := hr
    have h5 := lim_lt (L := L) (y := 10011) (by omega)
    rw [show ystart (10011 + 1) = 2937280 from by decide] at h5
    exact ⟨by omega, by omega⟩)
  clear hlim hy1 hy hz
  go_enter Try.func11, Try.ntmps11
  go_upto_region 1 with fail
  generalize hW : World.alloc (World.alloc (World.alloc (World.alloc w _) _) _) _ = wo
  have hr0 : wo.heap[w.heap.size]? = some (.cells (setsCells d S) 27 (0, 0)) := by
    rw [← hW, Below.heap_alloc _ _ _ (by simp; try omega), Below.heap_alloc _ _ _ (by simp; try omega), Below.heap_alloc _ _ _ (by simp)]
    exact heap_alloc_new w _
  have hr1 : wo.heap[w.heap.size + 1]? = some (.cells #[.int .i64 sec, .int .i64 nano] 33 (0, 0)) := by
    rw [← hW, Below.heap_alloc _ _ _ (by simp; try omega), Below.heap_alloc _ _ _ (by simp)]
    exact heap_two w _ _
  have hr2 : wo.heap[w.heap.size + 1 + 1]? = some (.cells #[z0, z1, z2, z3] 41 (0, 0)) := by
    rw [← hW, Below.heap_alloc _ _ _ (by simp)]
    have := heap_two (w.alloc (.cells (setsCells d S) 27)) (.cells #[.int .i64 sec, .int .i64 nano] 33) (.cells #[z0, z1, z2, z3] 41)
    rw [show (w.alloc (.cells (setsCells d S) 27)).heap.size = w.heap.size + 1 by simp] at this
    exact this
  have hres : wo.heap[w.heap.size + 1 + 1 + 1]? = some (.cells #[.int .i64 0, .int .i64 0] 33 (0, 0)) := by
    rw [← hW]
    have := heap_two ((w.alloc (.cells (setsCells d S) 27)).alloc (.cells #[.int .i64 sec, .int .i64 nano] 33)) (.cells #[z0, z1, z2, z3] 41) (.cells #[.int .i64 0, .int .i64 0] 33)
    rw [show ((w.alloc (.cells (setsCells d S) 27)).alloc (.cells #[.int .i64 sec, .int .i64 nano] 33)).heap.size = w.heap.size + 1 + 1 by simp] at this
    exact this
  have hB : Below w.heap.size w wo := by
    rw [← hW]
    exact ((((Below.refl _ _).alloc (Nat.le_refl _) _).alloc (by simp) _).alloc (by simp only [World.alloc]; simp; try omega) _).alloc (by simp; try omega) _
  clear hW
  refine start_ (n := 15) (S := fun w' => w'.heap[w.heap.size]? = some (.cells (setsCells d S) 27 (0, 0)) ∧ w'.heap[w.heap.size + 1]? = some (.cells #[.int .i64 sec, .int .i64 nano] 33 (0, 0)) ∧ w'.heap[w.heap.size + 1 + 1]? = some (.cells #[z0, z1, z2, z3] 41 (0, 0)) ∧ Below wo.heap.size wo w') (ds := [13]) #[false, false, false, false, false, false, false, false, false, false, false, false, false, false, false] (by kernel_rfl) rfl rfl ⟨hr0, hr1, hr2, (Below.refl _ _).drew⟩ (fun hHeld => ?_)
  refine take_ (i := 0) (N := some 8) (v := ?_) (a' := ?_) #[true, false, false, false, false, false, false, false, false, false, false, false, false, false, false] rfl rfl (by kernel_rfl) (fun _ _ _ h => h) (Or.inl ⟨by rfl, ?_⟩) hHeld ?_ ?_
  rotate_left
  · rintro w' ⟨s0, s1, s2, s3⟩
    refine exec_load_row _ _ w' 27 (.tmp 3) ?_ (w.heap.size) ?_ _ _ _ _ s0 Try.underlying27 rfl schedSize
    · rfl
    · rfl
  rotate_left
  · simp only [Act.put, List.setIfInBounds_toArray, List.set_cons_zero, List.set_cons_succ, i64_w, i32_w]
    rfl
  refine take_ (i := 2) (N := some 10) (v := ?_) (a' := ?_) #[true, false, true, false, false, false, false, false, false, false, false, false, false, false, false] rfl rfl (by kernel_rfl) (fun _ _ _ h => h) (Or.inl ⟨by rfl, ?_⟩) hHeld ?_ ?_
  rotate_left
  · rintro w' ⟨s0, s1, s2, s3⟩
    refine exec_load_row _ _ w' 33 (.tmp 4) ?_ (w.heap.size + 1) ?_ _ _ _ _ s1 Try.underlying33 rfl instSize
    · rfl
    · rfl
  rotate_left
  · simp only [Act.put, List.setIfInBounds_toArray, List.set_cons_zero, List.set_cons_succ, i64_w, i32_w]
    rfl
  refine take_ (i := 3) (N := some 11) (v := ?_) (a' := ?_) #[true, false, true, true, false, false, false, false, false, false, false, false, false, false, false] rfl rfl (by kernel_rfl) (fun _ _ _ h => h) (Or.inl ⟨by rfl, ?_⟩) hHeld ?_ ?_
  rotate_left
  · rintro w' ⟨s0, s1, s2, s3⟩
    refine exec_load_row _ _ w' 41 (.tmp 5) ?_ (w.heap.size + 1 + 1) ?_ _ _ _ _ s2 Try.underlying41 rfl zoneSize
    · rfl
    · rfl
  rotate_left
  · simp only [Act.put, List.setIfInBounds_toArray, List.set_cons_zero, List.set_cons_succ, i64_w, i32_w]
    rfl
  refine one_ (i := 1) (N := some 9) #[true, true, true, true, false, false, false, false, false, false, false, false, false, false, false] rfl rfl (by kernel_rfl) (by decide) (fun K hK => ?_)
  refine goes_ Try.func29 (by kernel_rfl) rfl #[.agg (setsCells d S), .pointer none] (by rfl) rfl rfl (by simp only [List.map_toArray, List.map_cons, List.map_nil]; rfl) ?_
  with_reducible refine (HSC.out _).mono ?_
  rintro e1 w1 ⟨g, rfl, hg1, hb1⟩
  refine ⟨_, rfl, ?_⟩
  have hna : ∀ w' : World, (nilAhead 339 132 (.pointer (some ⟨g, 0, none⟩)) "Next").run Try.prog w' = .ok (some false) w' := fun w' => by rfl
  refine hK.out _ _ ⟨(hb1.block _ (Array.getElem?_eq_some_iff.1 hHeld.1).1).trans hHeld.1, (hb1.block _ (Array.getElem?_eq_some_iff.1 hHeld.2.1).1).trans hHeld.2.1, (hb1.block _ (Array.getElem?_eq_some_iff.1 hHeld.2.2.1).1).trans hHeld.2.2.1, below_le hHeld.2.2.2 hb1⟩ (fun hHeld => ?_)
  clear hK K
  refine norm_ (a' := ?_) ?_ ?_
  rotate_left
  · show Act.put _ (some 9) _ = _
    simp only [Act.put, List.setIfInBounds_toArray, List.set_cons_zero, List.set_cons_succ, i64_w, i32_w]
    rfl
  refine pure_ (i := 6) (N := some 14) (v := ?_) (a' := ?_) #[true, true, true, true, false, false, true, false, false, false, false, false, false, false, false] rfl rfl (by kernel_rfl) (fun _ _ _ h => h) (Or.inl ⟨by rfl, ?_⟩) ?_ ?_
  rotate_left
  · intro w'
    go_simp
    with_reducible rfl
  rotate_left
  · simp only [Act.put, List.setIfInBounds_toArray, List.set_cons_zero, List.set_cons_succ, i64_w, i32_w]
    rfl
  refine pure_ (i := 7) (N := some 15) (v := ?_) (a' := ?_) #[true, true, true, true, false, false, true, true, false, false, false, false, false, false, false] rfl rfl (by kernel_rfl) (fun _ _ _ h => h) (Or.inl ⟨by rfl, ?_⟩) ?_ ?_
  rotate_left
  · intro w'
    go_simp
    with_reducible rfl
  rotate_left
  · simp only [Act.put, List.setIfInBounds_toArray, List.set_cons_zero, List.set_cons_succ, i64_w, i32_w]
    rfl
  refine pure_ (i := 8) (N := some 16) (v := ?_) (a' := ?_) #[true, true, true, true, false, false, true, true, true, false, false, false, false, false, false] rfl rfl (by kernel_rfl) (fun _ _ _ h => h) (Or.inl ⟨by rfl, ?_⟩) ?_ ?_
  rotate_left
  · intro w'
    go_simp
    with_reducible rfl
  rotate_left
  · simp only [Act.put, List.setIfInBounds_toArray, List.set_cons_zero, List.set_cons_succ, i64_w, i32_w]
    rfl
  refine one_ (i := 4) (N := some 12) #[true, true, true, true, true, false, true, true, true, false, false, false, false, false, false] rfl rfl (by kernel_rfl) (by decide) (fun K hK => ?_)
  refine goes_ Try.func35 (by kernel_rfl) rfl #[.agg #[z0, z1, z2, z3]] (by rfl) rfl rfl (by simp only [List.map_toArray, List.map_cons, List.map_nil]; rfl) ?_
  with_reducible refine (HZ.out _).mono ?_
  rintro e4 w4 ⟨l, Inv, Loc, k, H, hls, rfl, hk, hI4, hb4⟩
  refine ⟨_, rfl, ?_⟩
  have hg4 := hg1.below hb4
  refine hK.out _ _ ⟨(hb4.block _ (Array.getElem?_eq_some_iff.1 hHeld.1).1).trans hHeld.1, (hb4.block _ (Array.getElem?_eq_some_iff.1 hHeld.2.1).1).trans hHeld.2.1, (hb4.block _ (Array.getElem?_eq_some_iff.1 hHeld.2.2.1).1).trans hHeld.2.2.1, below_le hHeld.2.2.2 hb4⟩ (fun hHeld => ?_)
  clear hK K
  refine norm_ (a' := ?_) ?_ ?_
  rotate_left
  · show Act.put _ (some 12) _ = _
    simp only [Act.put, List.setIfInBounds_toArray, List.set_cons_zero, List.set_cons_succ, i64_w, i32_w]
    rfl
  refine one_ (i := 5) (N := some 13) #[true, true, true, true, true, true, true, true, true, false, false, false, false, false, false] rfl rfl (by kernel_rfl) (by decide) (fun K hK => ?_)
  refine goes_ Try.func34 (by kernel_rfl) rfl #[.agg #[.int .i64 sec, .int .i64 nano], .pointer (some ⟨k, 0, none⟩)] (by rfl) rfl rfl (by simp only [List.map_toArray, List.map_cons, List.map_nil]; rfl) ?_
  with_reducible refine (moment_any H k sec nano n0 n1 (by omega) (by omega) _ hk).mono ?_
  rintro e5 w5 ⟨rfl, hb5⟩
  refine ⟨_, rfl, ?_⟩
  have hg5 := hg4.below hb5
  have hI5 := H.abs.keeps hI4 hb5
  refine hK.out _ _ ⟨(hb5.block _ (Array.getElem?_eq_some_iff.1 hHeld.1).1).trans hHeld.1, (hb5.block _ (Array.getElem?_eq_some_iff.1 hHeld.2.1).1).trans hHeld.2.1, (hb5.block _ (Array.getElem?_eq_some_iff.1 hHeld.2.2.1).1).trans hHeld.2.2.1, below_le hHeld.2.2.2 hb5⟩ (fun hHeld => ?_)
  clear hK K
  refine norm_ (a' := ?_) ?_ ?_
  rotate_left
  · show Act.put _ (some 13) _ = _
    simp only [Act.put, List.setIfInBounds_toArray, List.set_cons_zero, List.set_cons_succ, i64_w, i32_w]
    rfl
  refine one_ (i := 9) (N := some 17) #[true, true, true, true, true, true, true, true, true, true, false, false, false, false, false] rfl rfl (by kernel_rfl) (by decide) (fun K hK => ?_)
  refine call_ (f := 125) #[.pointer (some ⟨g, 0, none⟩), .agg #[.int .u64 nano, .int .i64 (sec + 62135596800), .pointer l]] (by rfl) rfl (by go_simp; rfl) ?_
  refine (next_any H hls (HPAR.out Inv _ g hI5 hg5) o60 nano (sec + 62135596800) n0 n1 (by omega) (by omega) (by omega) rfl).mono ?_
  rintro e9 w9 ⟨r, hr, rfl, hb9⟩
  refine ⟨_, rfl, ?_⟩
  refine hK.out _ _ ⟨(hb9.block _ (Array.getElem?_eq_some_iff.1 hHeld.1).1).trans hHeld.1, (hb9.block _ (Array.getElem?_eq_some_iff.1 hHeld.2.1).1).trans hHeld.2.1, (hb9.block _ (Array.getElem?_eq_some_iff.1 hHeld.2.2.1).1).trans hHeld.2.2.1, below_le hHeld.2.2.2 hb9⟩ (fun hHeld => ?_)
  clear hK K
  refine norm_ (a' := ?_) ?_ ?_
  rotate_left
  · show Act.put _ (some 17) _ = _
    simp only [Act.put, List.setIfInBounds_toArray, List.set_cons_zero, List.set_cons_succ, i64_w, i32_w]
    rfl
  refine one_ (i := 10) (N := some 18) #[true, true, true, true, true, true, true, true, true, true, true, false, false, false, false] rfl rfl (by kernel_rfl) (by decide) (fun K hK => ?_)
  refine goes_ Try.func33 (by kernel_rfl) rfl #[ansT l off r] (by rfl) rfl rfl (by simp only [List.map_toArray, List.map_cons, List.map_nil]; rfl) ?_
  with_reducible refine (answer_any l off r (HL.out r hr) _).mono ?_
  rintro e10 w10 ⟨rfl, hb10⟩
  refine ⟨_, rfl, ?_⟩
  refine hK.out _ _ ⟨(hb10.block _ (Array.getElem?_eq_some_iff.1 hHeld.1).1).trans hHeld.1, (hb10.block _ (Array.getElem?_eq_some_iff.1 hHeld.2.1).1).trans hHeld.2.1, (hb10.block _ (Array.getElem?_eq_some_iff.1 hHeld.2.2.1).1).trans hHeld.2.2.1, below_le hHeld.2.2.2 hb10⟩ (fun hHeld => ?_)
  clear hK K
  refine norm_ (a' := ?_) ?_ ?_
  rotate_left
  · show Act.put _ (some 18) _ = _
    simp only [Act.put, List.setIfInBounds_toArray, List.set_cons_zero, List.set_cons_succ, i64_w, i32_w]
    rfl
  refine pure_ (i := 11) (N := some 19) (v := ?_) (a' := ?_) #[true, true, true, true, true, true, true, true, true, true, true, true, false, false, false] rfl rfl (by kernel_rfl) (fun _ _ _ h => h) (Or.inl ⟨by rfl, ?_⟩) ?_ ?_
  rotate_left
  · intro w'
    go_simp
    with_reducible rfl
  rotate_left
  · simp only [Act.put, List.setIfInBounds_toArray, List.set_cons_zero, List.set_cons_succ, i64_w, i32_w]
    rfl
  refine pure_ (i := 12) (N := some 20) (v := ?_) (a' := ?_) #[true, true, true, true, true, true, true, true, true, true, true, true, true, false, false] rfl rfl (by kernel_rfl) (fun _ _ _ h => h) (Or.inl ⟨by rfl, ?_⟩) ?_ ?_
  rotate_left
  · intro w'
    go_simp
    with_reducible rfl
  rotate_left
  · simp only [Act.put, List.setIfInBounds_toArray, List.set_cons_zero, List.set_cons_succ, i64_w, i32_w]
    rfl
  refine last_ (i := 13) (N := none) #[true, true, true, true, true, true, true, true, true, true, true, true, true, true, false] rfl rfl (by kernel_rfl) (by decide) (fun K hK => ?_)
  rw [if_pos (by rfl)]
  refine wp_store_row 33 _ _ rfl (w.heap.size + 1 + 1 + 1) (ansI off r) rfl rfl 33 #[.int .i64 0, .int .i64 0] ((hHeld.2.2.2.block _ (Array.getElem?_eq_some_iff.1 hres).1).trans hres) (by rw [ansI_size]; exact instSize) (by rw [ansI_size]; rfl) (ansI_one off r) ?_
  refine hK.out _ _ ?_
  clear hK K
  refine pure_ (i := 14) (N := some 7) (v := ?_) (a' := ?_) #[true, true, true, true, true, true, true, true, true, true, true, true, true, true, true] rfl rfl (by kernel_rfl) (fun _ _ _ h => h) (Or.inl ⟨by rfl, ?_⟩) ?_ ?_
  rotate_left
  · intro w'
    go_simp
    with_reducible rfl
  rotate_left
  · simp only [Act.put, List.setIfInBounds_toArray, List.set_cons_zero, List.set_cons_succ, i64_w, i32_w]
    rfl
  refine done_ (by kernel_rfl) ?_
  go_wp2_with fail
  have hres6 := (hHeld.2.2.2.block _ (Array.getElem?_eq_some_iff.1 hres).1).trans hres
  refine bodyPost_ret (v := .tuple #[.agg (ansI off r), .bool r.isSome]) ?_ rfl ⟨r, hr, rfl, ?_⟩
  · exact results_inst (fn := Try.f11) (p := 6) (u := 7) rfl _ _ (w.heap.size + 1 + 1 + 1) _ (ansI_size off r) rfl (setRow_heap _ _ _ _ _ _ hres6)
  · exact below_setRow (below_le hB hHeld.2.2.2) (by omega) _
end Go.Proofs.Ytbgbeohiafiacaa.Cal

namespace Go.Proofs.Ytbgbeohiafiacaa.Cron
open Go Go.RowKit Go.Proofs.YtbgbeohiafiacaaW.PrintWords Go.Proofs.YtbgbeohiafiacaaW.PrintLast
set_option linter.unusedVariables false

/-- the cells of a set -/
def setCells (star : Bool) (p : Nat → Bool) : Array Value := #[.bool star] ++ ((Array.range 63).map fun j => .bool (p j))

theorem setCells_size (star : Bool) (p : Nat → Bool) : (setCells star p).size = 64 := by simp [setCells]

theorem setCells_zero (star : Bool) (p : Nat → Bool) : (setCells star p)[0]? = some (.bool star) := by
  unfold setCells
  rw [Array.getElem?_append_left (by simp)]
  simp

theorem setCells_at (star : Bool) (p : Nat → Bool) (j : Nat) (h : j < 63) : (setCells star p)[j + 1]? = some (.bool (p j)) := by
  unfold setCells
  rw [Array.getElem?_append_right (by simp)]
  simp [h]

theorem setCells_out (star : Bool) (p : Nat → Bool) (j : Nat) (h : 64 ≤ j) : (setCells star p)[j]? = none := by
  rw [Array.getElem?_eq_none]
  rw [setCells_size]; exact h

theorem setCells_one (star : Bool) (p : Nat → Bool) : (setCells star p).all (·.oneCell') = true := by
  rw [Array.all_eq_true_iff_forall_mem]
  intro v hv
  unfold setCells at hv
  rw [Array.mem_append] at hv
  rcases hv with hv | hv
  · simp at hv; subst hv; rfl
  · rw [Array.mem_map] at hv
    obtain ⟨j, _, rfl⟩ := hv
    rfl

theorem setCells_star (star b : Bool) (p : Nat → Bool) : (setCells star p).setIfInBounds 0 (.bool b) = setCells b p := by
  apply Array.ext_getElem?
  intro i
  rw [Array.getElem?_setIfInBounds]
  cases i with
  | zero => rw [if_pos rfl, if_pos (by rw [setCells_size]; decide), setCells_zero]
  | succ i =>
    rw [if_neg (by omega)]
    by_cases h : i < 63
    · rw [setCells_at _ _ _ h, setCells_at _ _ _ h]
    · rw [setCells_out _ _ _ (by omega), setCells_out _ _ _ (by omega)]

theorem setCells_put (star b : Bool) (p : Nat → Bool) (j : Nat) (hj : j < 63) : (setCells star p).setIfInBounds (j + 1) (.bool b) = setCells star (fun i => if i = j then b else p i) := by
  apply Array.ext_getElem?
  intro i
  rw [Array.getElem?_setIfInBounds]
  cases i with
  | zero => rw [if_neg (by omega), setCells_zero, setCells_zero]
  | succ i =>
    by_cases h : i < 63
    · rw [setCells_at _ _ _ h, setCells_at _ _ _ h]
      by_cases e : i = j
      · subst e
        rw [if_pos rfl, if_pos (by rw [setCells_size]; omega), if_pos rfl]
      · rw [if_neg (by omega), if_neg e]
    · rw [setCells_out _ _ _ (by omega), setCells_out _ _ _ (by omega), if_neg (by omega)]

theorem setCells_ext {star : Bool} {p q : Nat → Bool} (h : ∀ j, j < 63 → p j = q j) : setCells star p = setCells star q := by
  apply Array.ext_getElem?
  intro i
  cases i with
  | zero => rw [setCells_zero, setCells_zero]
  | succ i =>
    by_cases hi : i < 63
    · rw [setCells_at _ _ _ hi, setCells_at _ _ _ hi, h i hi]
    · rw [setCells_out _ _ _ (by omega), setCells_out _ _ _ (by omega)]

def noSet : Nat → Bool := fun _ => false

/-- the block of a set -/
def IsSet (w : World) (g : Nat) (star : Bool) (p : Nat → Bool) : Prop := w.heap[g]? = some (.cells (setCells star p) 48 (0, 0))

theorem IsSet.lt {w : World} {g : Nat} {star : Bool} {p : Nat → Bool} (h : IsSet w g star p) : g < w.heap.size := (Array.getElem?_eq_some_iff.1 h).1

theorem IsSet.below {w w' : World} {g : Nat} {star : Bool} {p : Nat → Bool} (h : IsSet w g star p) (hb : Below w.heap.size w w') : IsSet w' g star p :=
  (hb.block g h.lt).trans h

theorem IsSet.cell0 {w : World} {g : Nat} {star : Bool} {p : Nat → Bool} (h : IsSet w g star p) : w.cell? ⟨g, 0, none⟩ = some (.bool star) :=
  (cell_of_row w g 0 _ _ _ h).trans (setCells_zero star p)

theorem IsSet.cellAt {w : World} {g : Nat} {star : Bool} {p : Nat → Bool} (h : IsSet w g star p) (j : Nat) (hj : j < 63) : w.cell? ⟨g, j + 1, none⟩ = some (.bool (p j)) :=
  (cell_of_row w g (j + 1) _ _ _ h).trans (setCells_at star p j hj)

theorem IsSet.free {w : World} {g : Nat} {star : Bool} {p : Nat → Bool} (h : IsSet w g star p) (j : Nat) : w.frozen? ⟨g, j, none⟩ = false :=
  frozen_of_row w g j _ _ h

theorem IsSet.put {w : World} {g : Nat} {star : Bool} {p : Nat → Bool} (h : IsSet w g star p) (j : Nat) (hj : j < 63) (b : Bool) : IsSet (w.setCell ⟨g, j + 1, none⟩ (.bool b)) g star (fun i => if i = j then b else p i) := by
  unfold IsSet
  rw [heap_setCell_same w g (j + 1) _ _ _ h, setCells_put star b p j hj]

theorem IsSet.putStar {w : World} {g : Nat} {star : Bool} {p : Nat → Bool} (h : IsSet w g star p) (b : Bool) : IsSet (w.setCell ⟨g, 0, none⟩ (.bool b)) g b p := by
  unfold IsSet
  rw [heap_setCell_same w g 0 _ _ _ h, setCells_star]

theorem IsSet.other {w : World} {g : Nat} {star : Bool} {p : Nat → Bool} (h : IsSet w g star p) {a : Addr} (ha : g ≠ a.block) (v : Value) : IsSet (w.setCell a v) g star p := by
  unfold IsSet
  rw [heap_setCell_other w a g v ha]
  exact h

theorem isSet_new (w : World) (star : Bool) (p : Nat → Bool) : IsSet (w.alloc (.cells (setCells star p) 48 (0, 0))) w.heap.size star p :=
  heap_alloc_new w _

theorem setSize : (Try.prog.info? 48).map (·.size) = some 64 := by kernel_rfl

theorem zero_set : setCells false noSet = (setCells false noSet) := rfl

theorem run_alloc_set (w : World) : (Instr.alloc 48 true (.tuple #[])).run Try.prog w = .ok (.pointer (some ⟨w.heap.size, 0, none⟩)) (w.alloc (.cells (setCells false noSet) 48 (0, 0))) := by kernel_rfl

theorem built_set : (Try.prog.built 48 []) = some (setCells false noSet) := by kernel_rfl

theorem IsSet.store {w : World} {g : Nat} {star : Bool} {p : Nat → Bool} (h : IsSet w g star p) (st : Bool) (q : Nat → Bool) : IsSet (w.setRow g (setCells st q)) g st q :=
  setRow_heap w g _ _ _ _ h

theorem IsSet.row_other {w : World} {g k : Nat} {star : Bool} {p : Nat → Bool} (h : IsSet w g star p) (hk : g ≠ k) (cs : Array Value) : IsSet (w.setRow k cs) g star p :=
  (setRow_other w k g cs hk).trans h

section
variable {ops : Array Oper} {rest : List Oper} {o : Oper} {a : Act} {w : World} {Q : Exit → Act → World → Prop}

theorem wpList_build_set (hg : o.guard = none) (ho : o.op = .build 48 #[])
    (h : wpList Try.prog ops Q rest (a.put o.dst (.agg (setCells false noSet))) w) : wpList Try.prog ops Q (o :: rest) a w := by
  have e : ((#[] : Array (Nat × Operand)).map fun (i, x) => (i, a.eval x)).toList = [] := by simp
  refine wpList_build hg 48 #[] ho (by rw [e, built_set]; exact Option.isSome_some) ?_
  rw [e, built_set, Option.getD_some]
  exact h

theorem wpList_store_set (hg : o.guard = none) (x y : Operand) (ho : o.op = .store 48 x y) (g : Nat) (st : Bool) (q : Nat → Bool)
    (hx : a.eval x = .pointer (some ⟨g, 0, none⟩)) (hy : a.eval y = .agg (setCells st q)) (st0 : Bool) (q0 : Nat → Bool) (hs : IsSet w g st0 q0)
    (h : wpList Try.prog ops Q rest (a.put o.dst undef) (w.setRow g (setCells st q))) : wpList Try.prog ops Q (o :: rest) a w :=
  wpList_store_row hg 48 x y ho g _ hx hy _ _ hs (by rw [setSize, setCells_size]) (by rw [setCells_size, setCells_size]) (setCells_one st q) h

theorem wpList_load_set (hg : o.guard = none) (x : Operand) (ho : o.op = .load 48 x) (g : Nat) (st : Bool) (q : Nat → Bool)
    (hx : a.eval x = .pointer (some ⟨g, 0, none⟩)) (hs : IsSet w g st q)
    (h : wpList Try.prog ops Q rest (a.put o.dst (.agg (setCells st q))) w) : wpList Try.prog ops Q (o :: rest) a w := by
  exact wpList_load_row hg 48 x ho g hx _ _ _ _ hs Try.underlying48 rfl (by rw [setSize, setCells_size]) h
end

theorem run_load_set (w : World) (g : Nat) (st : Bool) (q : Nat → Bool) (hs : IsSet w g st q) : (loadVar 48 ⟨g, 0, none⟩).run Try.prog w = .ok (.agg (setCells st q)) w := by
  exact run_loadVar_row w g _ _ _ _ _ hs Try.underlying48 rfl (by rw [setSize, setCells_size])

theorem results_set {fn : Func} {p u : Tmp} (h : fn.results = #[.cell p 48, .tmp u]) (tmps : Array Value) (w : World) (g : Nat) (st : Bool) (q : Nat → Bool)
    (hp : tmps.getD p undef = .pointer (some ⟨g, 0, none⟩)) (hs : IsSet w g st q) :
    (results fn tmps).run Try.prog w = .ok (.tuple #[.agg (setCells st q), tmps.getD u undef]) w := by
  rw [results_cell_tmp h, hp]
  simp only [asAddr, Sem.run_pure, Result.andThen_ok, run_load_set w g st q hs]

/-- the cells of the values alone -/
def inCells (p : Nat → Bool) : Array Value := (Array.range 63).map fun j => .bool (p j)

theorem inCells_size (p : Nat → Bool) : (inCells p).size = 63 := by simp [inCells]
theorem inCells_at (p : Nat → Bool) (j : Nat) (h : j < 63) : (inCells p)[j]? = some (.bool (p j)) := by simp [inCells, h]

theorem sizeIn : (Try.prog.info? 46).map (·.size) = some 63 := by kernel_rfl
theorem sizeBool : (Try.prog.info? 4).map (·.size) = some 1 := by kernel_rfl

theorem run_load_in (w : World) (g : Nat) (st : Bool) (q : Nat → Bool) (hs : IsSet w g st q) : (loadVar 46 ⟨g, 1, none⟩).run Try.prog w = .ok (.agg (inCells q)) w := by
  have hl : (loadCells ⟨g, 1, none⟩ (inCells q).toList.length).run Try.prog w = .ok (inCells q).toList.toArray w :=
    run_loadCells_list (P := Try.prog) w ⟨g, 1, none⟩ (inCells q).toList (fun j v hv => by
      have hj : j < 63 := by
        have := (List.getElem?_eq_some_iff.1 hv).1
        rw [Array.length_toList, inCells_size] at this
        exact this
      have hadd : (⟨g, 1, none⟩ : Addr).add j = ⟨g, j + 1, none⟩ := by
        unfold Addr.add
        split
        · rename_i h; subst h; rfl
        · simp; omega
      rw [hadd, hs.cellAt j hj]
      have := inCells_at q j hj
      rw [← Array.getElem?_toList] at this
      rw [← this, hv])
  rw [Array.length_toList, inCells_size] at hl
  cases hq : Try.prog.info? 46 with
  | none => have := sizeIn; simp [hq] at this
  | some i =>
    have hsz : i.size = 63 := by have := sizeIn; simpa [hq] using this
    have hagg : (isAgg 46).run Try.prog w = .ok true w := by
      unfold isAgg
      rw [Sem.run_bind, run_underlying Try.underlying46 w]
      rfl
    simp only [Array.toArray_toList] at hl
    simp [loadVar, Sem.run_bind, hagg, sizeOf, typeInfo, hq, hsz, hl]

theorem run_index_in (q : Nat → Bool) (n : Nat) (h : n < 63) (w : World) : (Instr.index 46 (.agg (inCells q)) (.int .i64 n)).run Try.prog w = .ok (.bool (q n)) w := by
  cases hq : Try.prog.info? 4 with
  | none => have := sizeBool; simp [hq] at this
  | some i =>
    have hsz : i.size = 1 := by have := sizeBool; simpa [hq] using this
    have hp := run_part_plain (P := Try.prog) (e := 4) (by kernel_rfl) (w := w) (inCells_at q n h)
    have hlt : (n : Int) < 63 := by omega
    simp [Instr.index, run_underlying Try.underlying46, asIntOf, sizeOf, typeInfo, hq, hsz, hp, Sem.run_bind]
    intro h'
    omega

section
variable {ops : Array Oper} {rest : List Oper} {o : Oper} {a : Act} {w : World} {Q : Exit → Act → World → Prop}
theorem wpList_load_in (hgd : o.guard = none) (x : Operand) (ho : o.op = .load 46 x) (g : Nat) (st : Bool) (q : Nat → Bool)
    (hx : a.eval x = .pointer (some ⟨g, 1, none⟩)) (hs : IsSet w g st q)
    (h : wpList Try.prog ops Q rest (a.put o.dst (.agg (inCells q))) w) : wpList Try.prog ops Q (o :: rest) a w := by
  refine wpList_plain hgd fun K hK => ?_
  unfold Oper.wp execOp
  simp only [ho, hx, Instr.loadAt, Instr.sureAddr, Sem.run_bind, Sem.run_pure, Result.andThen_ok, run_load_in w g st q hs]
  exact hK _ _ h
end

theorem run_box_set (st : Bool) (p : Nat → Bool) (w : World) : (Instr.box 48 (.agg (setCells st p))).run Try.prog w = .ok (.pointer (some ⟨w.heap.size, 0, none⟩)) (w.alloc (.cells (setCells st p) 48 (0, 0))) := by
  rfl

section
variable {ops : Array Oper} {rest : List Oper} {o : Oper} {a : Act} {w : World} {Q : Exit → Act → World → Prop}
/-- the same for an operation that is guarded, and carried out -/
theorem wpList_load_set' (hw : Region.wanted o (yielded ops a.tmps) = true) (x : Operand) (ho : o.op = .load 48 x) (g : Nat) (st : Bool) (q : Nat → Bool)
    (hx : a.eval x = .pointer (some ⟨g, 0, none⟩)) (hs : IsSet w g st q)
    (h : wpList Try.prog ops Q rest (a.put o.dst (.agg (setCells st q))) w) : wpList Try.prog ops Q (o :: rest) a w := by
  refine wpList_step fun K hK => ?_
  rw [if_pos hw]
  exact wp_load_row 48 x ho g hx _ _ _ _ hs Try.underlying48 rfl (by rw [setSize, setCells_size]) (hK _ _ h)
end

theorem isSet_lit (w : World) : IsSet (w.alloc (.cells #[.bool false, .bool false, .bool false, .bool false, .bool false, .bool false, .bool false, .bool false, .bool false, .bool false, .bool false, .bool false, .bool false, .bool false, .bool false, .bool false, .bool false, .bool false, .bool false, .bool false, .bool false, .bool false, .bool false, .bool false, .bool false, .bool false, .bool false, .bool false, .bool false, .bool false, .bool false, .bool false, .bool false, .bool false, .bool false, .bool false, .bool false, .bool false, .bool false, .bool false, .bool false, .bool false, .bool false, .bool false, .bool false, .bool false, .bool false, .bool false, .bool false, .bool false, .bool false, .bool false, .bool false, .bool false, .bool false, .bool false, .bool false, .bool false, .bool false, .bool false, .bool false, .bool false, .bool false, .bool false] 48)) w.heap.size false noSet :=
  (heap_alloc_new w _).trans (by kernel_rfl)

end Go.Proofs.Ytbgbeohiafiacaa.Cron

namespace Go.Proofs.Ytbgbeohiafiacaa.Sched
open Go Go.RowKit Go.Proofs.Ytbgbeohiafiacaa.Cal Go.Proofs.YtbgbeohiafiacaaW.PrintWords Go.Proofs.YtbgbeohiafiacaaW.PrintLast
set_option linter.unusedVariables false
set_option linter.unusedSimpArgs false

def noSch : Array Value := #[.bool false, .int .i64 0, .int .u64 0, .int .u64 0, .int .u64 0, .int .u64 0, .int .u64 0, .int .u64 0]
theorem schSize : (Try.prog.info? 27).map (·.size) = some 8 := by kernel_rfl
theorem results_sch {fn : Func} {p u : Tmp} (h : fn.results = #[.cell p 27, .tmp u]) (tmps : Array Value) (w : World) (g : Nat) (cs : Array Value) (h8 : cs.size = 8)
    (hp : tmps.getD p undef = .pointer (some ⟨g, 0, none⟩)) (hs : w.heap[g]? = some (.cells cs 27 (0, 0))) :
    (results fn tmps).run Try.prog w = .ok (.tuple #[.agg cs, tmps.getD u undef]) w := by
  rw [results_cell_tmp h, hp]
  simp only [asAddr, Sem.run_pure, Result.andThen_ok, run_loadVar_row w g _ _ _ _ _ hs Try.underlying27 rfl (by rw [schSize, h8])]

set_option maxRecDepth 100000 in
theorem plainSchedule_any (s : Sch) (v : Value) (w : World) (h : SchIs w v s) :
    Calls Try.prog 53 #[v, .nilIface] w fun e w' => e = .returned (.tuple #[.agg s.plain, .bool true]) ∧ Below w.heap.size w w' := by
  obtain ⟨ev, d, a0, a1, a2, a3, a4, a5⟩ := s
  unfold SchIs Sch.spec at h
  unfold Sch.plain
  dsimp only at h ⊢
  cases ev with
  | true =>
    rw [if_pos rfl] at h ⊢
    subst h
    have ht1 : ∀ w' : World, (Instr.typeAssert (.iface 131 (.agg #[.int .i64 d])) 68 132 true).run Try.prog w' = .ok (.tuple #[.pointer none, .bool false]) w' := fun w' => by rfl
    have ht2 : ∀ w' : World, (Instr.typeAssert (.iface 131 (.agg #[.int .i64 d])) 68 131 true).run Try.prog w' = .ok (.tuple #[.agg #[.int .i64 d], .bool true]) w' := fun w' => by rfl
    go_enter Try.func53, Try.ntmps53
    go_wp2_with fail
    exact bodyPost_ret (v := .tuple #[.agg #[.bool true, .int .i64 d, .int .u64 0, .int .u64 0, .int .u64 0, .int .u64 0, .int .u64 0, .int .u64 0], .bool true]) (by simp [results, Try.results53, go_sem]) rfl ⟨rfl, ((Below.refl _ _).alloc (Nat.le_refl _) _).alloc (by simp) _⟩
  | false =>
    rw [if_neg (by decide)] at h ⊢
    obtain ⟨g, rfl, hr⟩ := h
    have ht1 : ∀ w' : World, (Instr.typeAssert (.iface 132 (.pointer (some ⟨g, 0, none⟩))) 68 132 true).run Try.prog w' = .ok (.tuple #[.pointer (some ⟨g, 0, none⟩), .bool true]) w' := fun w' => by rfl
    have hlt : g < w.heap.size := (Array.getElem?_eq_some_iff.1 hr).1
    have c0 : w.cell? ⟨g, 0, none⟩ = some (.int .u64 a0) := cell_of_row _ _ _ _ _ _ hr
    have c1 : w.cell? ⟨g, 1, none⟩ = some (.int .u64 a1) := cell_of_row _ _ _ _ _ _ hr
    have c2 : w.cell? ⟨g, 2, none⟩ = some (.int .u64 a2) := cell_of_row _ _ _ _ _ _ hr
    have c3 : w.cell? ⟨g, 3, none⟩ = some (.int .u64 a3) := cell_of_row _ _ _ _ _ _ hr
    have c4 : w.cell? ⟨g, 4, none⟩ = some (.int .u64 a4) := cell_of_row _ _ _ _ _ _ hr
    have c5 : w.cell? ⟨g, 5, none⟩ = some (.int .u64 a5) := cell_of_row _ _ _ _ _ _ hr
    clear hr
    go_enter Try.func53, Try.ntmps53
    go_wp2_with fail
    generalize hW : World.alloc w _ = w1
    have hB1 : Below w.heap.size w w1 := by rw [← hW]; exact (Below.refl _ _).alloc (Nat.le_refl _) _
    have hrow : w1.heap[w.heap.size]? = some (.cells noSch 27 (0, 0)) := by rw [← hW]; exact heap_alloc_new w _
    clear hW
    have d0 := (hB1.cell (p := ⟨g, 0, none⟩) hlt).trans c0
    have d1 := (hB1.cell (p := ⟨g, 1, none⟩) hlt).trans c1
    have d2 := (hB1.cell (p := ⟨g, 2, none⟩) hlt).trans c2
    have d3 := (hB1.cell (p := ⟨g, 3, none⟩) hlt).trans c3
    have d4 := (hB1.cell (p := ⟨g, 4, none⟩) hlt).trans c4
    have d5 := (hB1.cell (p := ⟨g, 5, none⟩) hlt).trans c5
    clear c0 c1 c2 c3 c4 c5
    refine start_ (n := 27) (S := fun w' => w'.cell? ⟨g, 0, none⟩ = some (.int .u64 a0) ∧ w'.cell? ⟨g, 1, none⟩ = some (.int .u64 a1) ∧ w'.cell? ⟨g, 2, none⟩ = some (.int .u64 a2) ∧ w'.cell? ⟨g, 3, none⟩ = some (.int .u64 a3) ∧ w'.cell? ⟨g, 4, none⟩ = some (.int .u64 a4) ∧ w'.cell? ⟨g, 5, none⟩ = some (.int .u64 a5)) (ds := [25]) #[false, false, false, false, false, false, false, false, false, false, false, false, false, false, false, false, false, false, false, false, false, false, false, false, false, false, false] (by kernel_rfl) rfl rfl ⟨d0, d1, d2, d3, d4, d5⟩ (fun hHeld => ?_)
    refine pure_ (i := 0) (N := some 15) (v := ?_) (a' := ?_) #[true, false, false, false, false, false, false, false, false, false, false, false, false, false, false, false, false, false, false, false, false, false, false, false, false, false, false] rfl rfl (by kernel_rfl) (fun _ _ _ h => h) (Or.inl ⟨by rfl, ?_⟩) ?_ ?_
    rotate_left
    · intro w'
      go_simp
      with_reducible rfl
    rotate_left
    · simp only [Act.put, List.setIfInBounds_toArray, List.set_cons_zero, List.set_cons_succ, i64_w, i32_w]
      rfl
    refine pure_ (i := 1) (N := some 16) (v := ?_) (a' := ?_) #[true, true, false, false, false, false, false, false, false, false, false, false, false, false, false, false, false, false, false, false, false, false, false, false, false, false, false] rfl rfl (by kernel_rfl) (fun _ _ _ h => h) (Or.inl ⟨by rfl, ?_⟩) ?_ ?_
    rotate_left
    · intro w'
      go_simp
      with_reducible rfl
    rotate_left
    · simp only [Act.put, List.setIfInBounds_toArray, List.set_cons_zero, List.set_cons_succ, i64_w, i32_w]
      rfl
    refine pure_ (i := 2) (N := some 17) (v := ?_) (a' := ?_) #[true, true, true, false, false, false, false, false, false, false, false, false, false, false, false, false, false, false, false, false, false, false, false, false, false, false, false] rfl rfl (by kernel_rfl) (fun _ _ _ h => h) (Or.inl ⟨by rfl, ?_⟩) ?_ ?_
    rotate_left
    · intro w'
      go_simp
      with_reducible rfl
    rotate_left
    · simp only [Act.put, List.setIfInBounds_toArray, List.set_cons_zero, List.set_cons_succ, i64_w, i32_w]
      rfl
    refine pure_ (i := 4) (N := some 19) (v := ?_) (a' := ?_) #[true, true, true, false, true, false, false, false, false, false, false, false, false, false, false, false, false, false, false, false, false, false, false, false, false, false, false] rfl rfl (by kernel_rfl) (fun _ _ _ h => h) (Or.inl ⟨by rfl, ?_⟩) ?_ ?_
    rotate_left
    · intro w'
      go_simp
      with_reducible rfl
    rotate_left
    · simp only [Act.put, List.setIfInBounds_toArray, List.set_cons_zero, List.set_cons_succ, i64_w, i32_w]
      rfl
    refine pure_ (i := 5) (N := some 20) (v := ?_) (a' := ?_) #[true, true, true, false, true, true, false, false, false, false, false, false, false, false, false, false, false, false, false, false, false, false, false, false, false, false, false] rfl rfl (by kernel_rfl) (fun _ _ _ h => h) (Or.inl ⟨by rfl, ?_⟩) ?_ ?_
    rotate_left
    · intro w'
      go_simp
      with_reducible rfl
    rotate_left
    · simp only [Act.put, List.setIfInBounds_toArray, List.set_cons_zero, List.set_cons_succ, i64_w, i32_w]
      rfl
    refine pure_ (i := 6) (N := some 21) (v := ?_) (a' := ?_) #[true, true, true, false, true, true, true, false, false, false, false, false, false, false, false, false, false, false, false, false, false, false, false, false, false, false, false] rfl rfl (by kernel_rfl) (fun _ _ _ h => h) (Or.inl ⟨by rfl, ?_⟩) ?_ ?_
    rotate_left
    · intro w'
      go_simp
      with_reducible rfl
    rotate_left
    · simp only [Act.put, List.setIfInBounds_toArray, List.set_cons_zero, List.set_cons_succ, i64_w, i32_w]
      rfl
    refine pure_ (i := 8) (N := some 23) (v := ?_) (a' := ?_) #[true, true, true, false, true, true, true, false, true, false, false, false, false, false, false, false, false, false, false, false, false, false, false, false, false, false, false] rfl rfl (by kernel_rfl) (fun _ _ _ h => h) (Or.inl ⟨by rfl, ?_⟩) ?_ ?_
    rotate_left
    · intro w'
      go_simp
      with_reducible rfl
    rotate_left
    · simp only [Act.put, List.setIfInBounds_toArray, List.set_cons_zero, List.set_cons_succ, i64_w, i32_w]
      rfl
    refine pure_ (i := 9) (N := some 24) (v := ?_) (a' := ?_) #[true, true, true, false, true, true, true, false, true, true, false, false, false, false, false, false, false, false, false, false, false, false, false, false, false, false, false] rfl rfl (by kernel_rfl) (fun _ _ _ h => h) (Or.inl ⟨by rfl, ?_⟩) ?_ ?_
    rotate_left
    · intro w'
      go_simp
      with_reducible rfl
    rotate_left
    · simp only [Act.put, List.setIfInBounds_toArray, List.set_cons_zero, List.set_cons_succ, i64_w, i32_w]
      rfl
    refine pure_ (i := 10) (N := some 25) (v := ?_) (a' := ?_) #[true, true, true, false, true, true, true, false, true, true, true, false, false, false, false, false, false, false, false, false, false, false, false, false, false, false, false] rfl rfl (by kernel_rfl) (fun _ _ _ h => h) (Or.inl ⟨by rfl, ?_⟩) ?_ ?_
    rotate_left
    · intro w'
      go_simp
      with_reducible rfl
    rotate_left
    · simp only [Act.put, List.setIfInBounds_toArray, List.set_cons_zero, List.set_cons_succ, i64_w, i32_w]
      rfl
    refine pure_ (i := 12) (N := some 27) (v := ?_) (a' := ?_) #[true, true, true, false, true, true, true, false, true, true, true, false, true, false, false, false, false, false, false, false, false, false, false, false, false, false, false] rfl rfl (by kernel_rfl) (fun _ _ _ h => h) (Or.inl ⟨by rfl, ?_⟩) ?_ ?_
    rotate_left
    · intro w'
      go_simp
      with_reducible rfl
    rotate_left
    · simp only [Act.put, List.setIfInBounds_toArray, List.set_cons_zero, List.set_cons_succ, i64_w, i32_w]
      rfl
    refine pure_ (i := 13) (N := some 28) (v := ?_) (a' := ?_) #[true, true, true, false, true, true, true, false, true, true, true, false, true, true, false, false, false, false, false, false, false, false, false, false, false, false, false] rfl rfl (by kernel_rfl) (fun _ _ _ h => h) (Or.inl ⟨by rfl, ?_⟩) ?_ ?_
    rotate_left
    · intro w'
      go_simp
      with_reducible rfl
    rotate_left
    · simp only [Act.put, List.setIfInBounds_toArray, List.set_cons_zero, List.set_cons_succ, i64_w, i32_w]
      rfl
    refine pure_ (i := 14) (N := some 29) (v := ?_) (a' := ?_) #[true, true, true, false, true, true, true, false, true, true, true, false, true, true, true, false, false, false, false, false, false, false, false, false, false, false, false] rfl rfl (by kernel_rfl) (fun _ _ _ h => h) (Or.inl ⟨by rfl, ?_⟩) ?_ ?_
    rotate_left
    · intro w'
      go_simp
      with_reducible rfl
    rotate_left
    · simp only [Act.put, List.setIfInBounds_toArray, List.set_cons_zero, List.set_cons_succ, i64_w, i32_w]
      rfl
    refine pure_ (i := 16) (N := some 31) (v := ?_) (a' := ?_) #[true, true, true, false, true, true, true, false, true, true, true, false, true, true, true, false, true, false, false, false, false, false, false, false, false, false, false] rfl rfl (by kernel_rfl) (fun _ _ _ h => h) (Or.inl ⟨by rfl, ?_⟩) ?_ ?_
    rotate_left
    · intro w'
      go_simp
      with_reducible rfl
    rotate_left
    · simp only [Act.put, List.setIfInBounds_toArray, List.set_cons_zero, List.set_cons_succ, i64_w, i32_w]
      rfl
    refine pure_ (i := 17) (N := some 32) (v := ?_) (a' := ?_) #[true, true, true, false, true, true, true, false, true, true, true, false, true, true, true, false, true, true, false, false, false, false, false, false, false, false, false] rfl rfl (by kernel_rfl) (fun _ _ _ h => h) (Or.inl ⟨by rfl, ?_⟩) ?_ ?_
    rotate_left
    · intro w'
      go_simp
      with_reducible rfl
    rotate_left
    · simp only [Act.put, List.setIfInBounds_toArray, List.set_cons_zero, List.set_cons_succ, i64_w, i32_w]
      rfl
    refine pure_ (i := 18) (N := some 33) (v := ?_) (a' := ?_) #[true, true, true, false, true, true, true, false, true, true, true, false, true, true, true, false, true, true, true, false, false, false, false, false, false, false, false] rfl rfl (by kernel_rfl) (fun _ _ _ h => h) (Or.inl ⟨by rfl, ?_⟩) ?_ ?_
    rotate_left
    · intro w'
      go_simp
      with_reducible rfl
    rotate_left
    · simp only [Act.put, List.setIfInBounds_toArray, List.set_cons_zero, List.set_cons_succ, i64_w, i32_w]
      rfl
    refine pure_ (i := 20) (N := some 35) (v := ?_) (a' := ?_) #[true, true, true, false, true, true, true, false, true, true, true, false, true, true, true, false, true, true, true, false, true, false, false, false, false, false, false] rfl rfl (by kernel_rfl) (fun _ _ _ h => h) (Or.inl ⟨by rfl, ?_⟩) ?_ ?_
    rotate_left
    · intro w'
      go_simp
      with_reducible rfl
    rotate_left
    · simp only [Act.put, List.setIfInBounds_toArray, List.set_cons_zero, List.set_cons_succ, i64_w, i32_w]
      rfl
    refine pure_ (i := 21) (N := some 36) (v := ?_) (a' := ?_) #[true, true, true, false, true, true, true, false, true, true, true, false, true, true, true, false, true, true, true, false, true, true, false, false, false, false, false] rfl rfl (by kernel_rfl) (fun _ _ _ h => h) (Or.inl ⟨by rfl, ?_⟩) ?_ ?_
    rotate_left
    · intro w'
      go_simp
      with_reducible rfl
    rotate_left
    · simp only [Act.put, List.setIfInBounds_toArray, List.set_cons_zero, List.set_cons_succ, i64_w, i32_w]
      rfl
    refine pure_ (i := 22) (N := some 37) (v := ?_) (a' := ?_) #[true, true, true, false, true, true, true, false, true, true, true, false, true, true, true, false, true, true, true, false, true, true, true, false, false, false, false] rfl rfl (by kernel_rfl) (fun _ _ _ h => h) (Or.inl ⟨by rfl, ?_⟩) ?_ ?_
    rotate_left
    · intro w'
      go_simp
      with_reducible rfl
    rotate_left
    · simp only [Act.put, List.setIfInBounds_toArray, List.set_cons_zero, List.set_cons_succ, i64_w, i32_w]
      rfl
    refine take_ (i := 3) (N := some 18) (v := ?_) (a' := ?_) #[true, true, true, true, true, true, true, false, true, true, true, false, true, true, true, false, true, true, true, false, true, true, true, false, false, false, false] rfl rfl (by kernel_rfl) (fun _ _ _ h => h) (Or.inl ⟨by rfl, ?_⟩) hHeld ?_ ?_
    rotate_left
    · rintro w' ⟨s0, s1, s2, s3, s4, s5⟩
      go_simp
      with_reducible rfl
    rotate_left
    · simp only [Act.put, List.setIfInBounds_toArray, List.set_cons_zero, List.set_cons_succ, i64_w, i32_w]
      rfl
    refine take_ (i := 7) (N := some 22) (v := ?_) (a' := ?_) #[true, true, true, true, true, true, true, true, true, true, true, false, true, true, true, false, true, true, true, false, true, true, true, false, false, false, false] rfl rfl (by kernel_rfl) (fun _ _ _ h => h) (Or.inl ⟨by rfl, ?_⟩) hHeld ?_ ?_
    rotate_left
    · rintro w' ⟨s0, s1, s2, s3, s4, s5⟩
      go_simp
      with_reducible rfl
    rotate_left
    · simp only [Act.put, List.setIfInBounds_toArray, List.set_cons_zero, List.set_cons_succ, i64_w, i32_w]
      rfl
    refine take_ (i := 11) (N := some 26) (v := ?_) (a' := ?_) #[true, true, true, true, true, true, true, true, true, true, true, true, true, true, true, false, true, true, true, false, true, true, true, false, false, false, false] rfl rfl (by kernel_rfl) (fun _ _ _ h => h) (Or.inl ⟨by rfl, ?_⟩) hHeld ?_ ?_
    rotate_left
    · rintro w' ⟨s0, s1, s2, s3, s4, s5⟩
      go_simp
      with_reducible rfl
    rotate_left
    · simp only [Act.put, List.setIfInBounds_toArray, List.set_cons_zero, List.set_cons_succ, i64_w, i32_w]
      rfl
    refine take_ (i := 15) (N := some 30) (v := ?_) (a' := ?_) #[true, true, true, true, true, true, true, true, true, true, true, true, true, true, true, true, true, true, true, false, true, true, true, false, false, false, false] rfl rfl (by kernel_rfl) (fun _ _ _ h => h) (Or.inl ⟨by rfl, ?_⟩) hHeld ?_ ?_
    rotate_left
    · rintro w' ⟨s0, s1, s2, s3, s4, s5⟩
      go_simp
      with_reducible rfl
    rotate_left
    · simp only [Act.put, List.setIfInBounds_toArray, List.set_cons_zero, List.set_cons_succ, i64_w, i32_w]
      rfl
    refine take_ (i := 19) (N := some 34) (v := ?_) (a' := ?_) #[true, true, true, true, true, true, true, true, true, true, true, true, true, true, true, true, true, true, true, true, true, true, true, false, false, false, false] rfl rfl (by kernel_rfl) (fun _ _ _ h => h) (Or.inl ⟨by rfl, ?_⟩) hHeld ?_ ?_
    rotate_left
    · rintro w' ⟨s0, s1, s2, s3, s4, s5⟩
      go_simp
      with_reducible rfl
    rotate_left
    · simp only [Act.put, List.setIfInBounds_toArray, List.set_cons_zero, List.set_cons_succ, i64_w, i32_w]
      rfl
    refine take_ (i := 23) (N := some 38) (v := ?_) (a' := ?_) #[true, true, true, true, true, true, true, true, true, true, true, true, true, true, true, true, true, true, true, true, true, true, true, true, false, false, false] rfl rfl (by kernel_rfl) (fun _ _ _ h => h) (Or.inl ⟨by rfl, ?_⟩) hHeld ?_ ?_
    rotate_left
    · rintro w' ⟨s0, s1, s2, s3, s4, s5⟩
      go_simp
      with_reducible rfl
    rotate_left
    · simp only [Act.put, List.setIfInBounds_toArray, List.set_cons_zero, List.set_cons_succ, i64_w, i32_w]
      rfl
    refine pure_ (i := 24) (N := some 39) (v := ?_) (a' := ?_) #[true, true, true, true, true, true, true, true, true, true, true, true, true, true, true, true, true, true, true, true, true, true, true, true, true, false, false] rfl rfl (by kernel_rfl) (fun _ _ _ h => h) (Or.inl ⟨by rfl, ?_⟩) ?_ ?_
    rotate_left
    · intro w'
      go_simp
      with_reducible rfl
    rotate_left
    · simp only [Act.put, List.setIfInBounds_toArray, List.set_cons_zero, List.set_cons_succ, i64_w, i32_w]
      rfl
    refine last_ (i := 25) (N := none) #[true, true, true, true, true, true, true, true, true, true, true, true, true, true, true, true, true, true, true, true, true, true, true, true, true, true, false] rfl rfl (by kernel_rfl) (by decide) (fun K hK => ?_)
    rw [if_pos (by rfl)]
    refine wp_store_row 27 _ _ rfl w.heap.size #[.bool false, .int .i64 0, .int .u64 a0, .int .u64 a1, .int .u64 a2, .int .u64 a3, .int .u64 a4, .int .u64 a5] rfl rfl 27 noSch hrow schSize rfl (by simp [Value.oneCell']) ?_
    refine hK.out _ _ ?_
    clear hK K
    refine pure_ (i := 26) (N := some 5) (v := ?_) (a' := ?_) #[true, true, true, true, true, true, true, true, true, true, true, true, true, true, true, true, true, true, true, true, true, true, true, true, true, true, true] rfl rfl (by kernel_rfl) (fun _ _ _ h => h) (Or.inl ⟨by rfl, ?_⟩) ?_ ?_
    rotate_left
    · intro w'
      go_simp
      with_reducible rfl
    rotate_left
    · simp only [Act.put, List.setIfInBounds_toArray, List.set_cons_zero, List.set_cons_succ, i64_w, i32_w]
      rfl
    refine done_ (by kernel_rfl) ?_
    go_wp2_with fail
    refine bodyPost_ret (v := .tuple #[.agg #[.bool false, .int .i64 0, .int .u64 a0, .int .u64 a1, .int .u64 a2, .int .u64 a3, .int .u64 a4, .int .u64 a5], .bool true]) ?_ rfl ⟨rfl, ?_⟩
    · exact results_sch (fn := Try.f53) (p := 4) (u := 5) rfl _ _ w.heap.size _ rfl rfl (setRow_heap _ _ _ _ _ _ hrow)
    · exact below_setRow (hB1.drew) (Nat.le_refl _) _
end Go.Proofs.Ytbgbeohiafiacaa.Sched
