/- Lemmas and walks on the way to the law, merged by wip/tools/pack.py: CronItem, CronBits, ItemLaw. Conditions: none. -/
import Derived.Test.YtikgnpachlgakaaGreatDoorGrE
import Derived.Test.YtikgnpachlgakaaGreatDoorGrB
import Derived.Deep.DeepCutAuto
import Derived.Deep.QuietTactic
import Derived.Deep.RegionWith
import Derived.Deep.DeepMust
import Derived.BigQuiet
import Derived.Outline
import Derived.Test.YtikgnpachlgakaaGreatDoorPrA
import Derived.Test.YtikgnpachlgakaaGreatDoorGrC
namespace Go.Proofs.YtikgnpachlgakaaGreatDoor.Cron
open Go Go.RowKit Go.Proofs.YtikgnpachlgakaaGreatDoor.Text Go.Proofs.YtikgnpachlgakaaGreatDoor.Bits Go.Proofs.YtikgnpachlgakaaGreatDoorW.PrintWords Go.Proofs.YtikgnpachlgakaaGreatDoorW.PrintLast Go.Proofs.YtikgnpachlgakaaGreatDoorW.PrintMore Go.Proofs.YtikgnpachlgakaaGreatDoor.Pr
set_option linter.unusedVariables false
set_option linter.unusedSimpArgs false

/-- the bits of a set -/
def setBits (star : Bool) (p : Nat → Bool) : Nat := mkBits p 63 ||| (if star then 9223372036854775808 else 0)

/-- what a reading of the reference says of what the program reads -/
structure ItemIs (r : Option Nat) (star : Bool) (p : Nat → Bool) (v : Int) : Prop where
  vs : v = 0 ∨ v = 1 ∨ v = 2
  bad : v = 0 → r = none
  fine : v = 1 → r = some (setBits star p)
  none_ : v ≠ 1 → star = false ∧ p = noSet

def ItemPost (w : World) (r : Option Nat) (e : Ending) (w' : World) : Prop :=
  ∃ star p v, e = .returned (.tuple #[.agg (setCells star p), .int .i64 v]) ∧ ItemIs r star p v ∧ Below w.heap.size w w'

theorem pieces_any (c : UInt8) (s : ByteArray) (hs : s.size ≤ 8796093022206) (w : World) :
    Calls Tryz.prog 85 #[.string s, .int .u8 (c.toNat : Int)] w fun e w' => ∃ g n cap, e = .returned (.slice (some ⟨g, 0, none⟩) n cap) ∧ w.heap.size ≤ g ∧ Texts w' g n cap (splitB c s) ∧ Below w.heap.size w w' := by
  obtain ⟨k, hk⟩ := (pieces_f c s hs).rounds
  refine (spec_cronPieces.calls k s (c.toNat : Int) _ w hk).mono ?_
  rintro e w' ⟨v, rfl, hR, hb⟩
  obtain ⟨g, n, cap, rfl, hg, ht⟩ := texts_of_R hR (splitB_ne c s)
  exact ⟨g, n, cap, rfl, hg, ht, hb⟩

theorem info_set : Tryz.prog.cellsOf 53 = 64 := by kernel_rfl

theorem box_row (w : World) (o : Obj) (c : Array Value) (T : TypeId) {w1 : World} (hb : Below ((w.alloc (.cells c T)).alloc o).heap.size ((w.alloc (.cells c T)).alloc o) w1) : w1.heap[w.heap.size]? = some (.cells c T (0, 0)) :=
  (hb.block w.heap.size (by simp; omega)).trans (heap_alloc2_old w _ _)

theorem item_zero {r : Option Nat} {v : Int} (h0 : v = 0 ∨ v = 2) (h : v = 0 → r = none) : ItemIs r false noSet v :=
  ⟨by omega, h, fun e => by omega, fun _ => ⟨rfl, rfl⟩⟩

def rg86_4.T4 : Bool × List (List Nat × List Nat) := (true, [([], []), ([], []), ([1], [1]), ([2], [2]), ([0, 3], [0, 3]), ([4], [4]), ([5], [5]), ([5], [5]), ([5], [5]), ([5], [5]), ([5], [5]), ([6, 4, 0, 1, 2, 3, 4, 5, 6], [6]), ([7, 11, 0, 1, 2, 3, 4, 5, 6, 7, 11], [7]), ([8, 12, 0, 1, 2, 3, 4, 5, 6, 7, 8, 11, 12], [8]), ([9, 13, 0, 1, 2, 3, 4, 5, 6, 7, 8, 9, 11, 12, 13], [9]), ([10, 14, 0, 1, 2, 3, 4, 5, 6, 7, 8, 9, 10, 11, 12, 13, 14], [10])])
def rg86_4.B4 : List Nat := [0, 0, 2, 6, 15, 31, 63, 63, 63, 63, 63, 127, 2303, 6655, 15359, 32767]
theorem rg86_4.tab4 : rtab .any (opsOf Tryz.f86 4) = rg86_4.T4 := by kernel_rfl
theorem rg86_4.bits4 : waitsOk rg86_4.T4.2 rg86_4.B4 = true := by kernel_rfl

theorem stepSet_start (a b k : Nat) : setCells false (fun j => stepSet a b k j && decide (j < a)) = setCells false noSet := by
  congr 1
  funext j
  unfold stepSet noSet
  by_cases h : a ≤ j
  · have : ¬ j < a := by omega
    simp [this]
  · simp [h]

theorem stepSet_next {a b k n : Nat} (hn : a ≤ n) (hb : n ≤ b) : (fun i => if i = n then ((n - a) % k == 0) else (stepSet a b k i && decide (i < n))) = (fun i => stepSet a b k i && decide (i < n + 1)) := by
  funext i
  by_cases h : i = n
  · subst h
    have h3 : i < i + 1 := by omega
    simp [stepSet, hn, hb, h3]
  · rw [if_neg h]
    by_cases h2 : i < n
    · have : i < n + 1 := by omega
      simp [h2, this]
    · have : ¬ i < n + 1 := by omega
      simp [h2, this]

theorem stepSet_end {a b k n : Nat} (hn : b < n) : (fun i => stepSet a b k i && decide (i < n)) = stepSet a b k := by
  funext i
  by_cases h : i < n
  · simp [h]
  · have : ¬ i ≤ b := by omega
    simp [stepSet, this]

set_option maxRecDepth 100000 in
set_option maxHeartbeats 1600000 in
theorem cronItem_any (val : List UInt8 → Option Nat) (kind : Int) (HV : ReadsLike val kind) (lo hi : Nat) (s : ByteArray) (hs : s.size ≤ 4294967296) (h1 : lo ≤ hi) (h2 : hi ≤ 62) (w : World) :
    Calls Tryz.prog 86 #[.agg #[.int .i64 lo, .int .i64 hi, .int .i64 kind], .string s] w (ItemPost w (rangeS val lo hi s.data.toList)) := by
  have hal := run_alloc_set
  obtain ⟨p, ps, hps⟩ : ∃ p ps, splitL 47 s.data.toList = p :: ps := by
    cases h : splitL 47 s.data.toList with
    | nil => exact absurd h (splitL_ne _ _)
    | cons p ps => exact ⟨p, ps, rfl⟩
  have hsz : ∀ x ∈ splitL 47 s.data.toList, (ba x).size ≤ 4294967296 := by
    intro x hx
    have := splitL_size 47 _ x hx
    rw [← size_list] at this
    rw [ba_size]
    omega
  have hpsB : splitB 47 s = ba p :: ps.map ba := by rw [splitB, hps]; rfl
  have HP := Lib.hid hps
  have HPB := Lib.hid hpsB
  have HSZ := Lib.hid hsz
  clear hps hpsB hsz
  go_enter Tryz.func86, Tryz.ntmps86
  go_wp2_with fail
  refine (pieces_any 47 s (by omega) _).mono ?_
  rintro e w1 ⟨g1, n1, c1, rfl, hg1, ht1, hb1⟩
  have hbx := box_row w _ _ _ hb1
  have hset : IsSet w1 (w.heap.size + 1) false noSet := by
    refine (hb1.block (w.heap.size + 1) (by simp)).trans ?_
    exact (heap_alloc2_new w _ _).trans (by kernel_rfl)
  have hB1 : Below w.heap.size w w1 := (((Below.refl _ _).alloc (Nat.le_refl _) _).alloc (by simp) _).trans (hb1.mono (by simp; omega))
  have hz1 : w.heap.size + 1 < w1.heap.size := by have := hb1.size; simp at this; omega
  have hx0 : w1.cell? ⟨w.heap.size, 0, none⟩ = some (.int .i64 lo) := cell_of_row _ _ _ _ _ _ hbx
  have hx1 : w1.cell? ⟨w.heap.size, 1, none⟩ = some (.int .i64 hi) := cell_of_row _ _ _ _ _ _ hbx
  have hx2 : w1.cell? ⟨w.heap.size, 2, none⟩ = some (.int .i64 kind) := cell_of_row _ _ _ _ _ _ hbx
  have hc0 : w1.cell? ⟨g1, 0, none⟩ = some (.string (ba p)) := ht1.at_ 0 _ (by rw [HPB.out]; rfl)
  have hn1 : n1 = ps.length + 1 := by rw [ht1.len, HPB.out]; simp
  have HN := Lib.hid hn1
  have hn0 : 0 < n1 := by omega
  have HSET := Lib.hid hset
  have HBX := Lib.hid hbx
  clear hb1 hbx hset hn1 hg1
  by_cases hmany : 2 < n1
  · have HX : Hid (rangeS val lo hi s.data.toList = none) := by
      have hl := HN.out
      obtain ⟨t, t2, ps', rfl⟩ : ∃ t t2 ps', ps = t :: t2 :: ps' := by
        match ps, hl with
        | [], hl => simp at hl; omega
        | [t], hl => simp at hl; omega
        | t :: t2 :: ps', _ => exact ⟨t, t2, ps', rfl⟩
      exact Lib.hid (rangeS_many HP.out)
    go_wp2_with (first | (refine wpList_build_set rfl rfl ?_) | (refine wpList_store_set rfl _ _ rfl (w.heap.size + 1) false noSet rfl rfl _ _ HSET.out ?_))
    refine bodyPost_ret (v := .tuple #[.agg (setCells false noSet), .int .i64 0]) ?_ rfl ?_
    · exact results_set (fn := Tryz.f86) (p := 4) (u := 5) rfl _ _ (w.heap.size + 1) false noSet rfl (HSET.out.store _ _)
    exact ⟨false, noSet, 0, rfl, item_zero (.inl rfl) (fun _ => HX.out), below_setRow hB1 (by omega) _⟩
  · obtain ⟨ke, low, high, star, single, v, hke, hsg, hen⟩ := ends_is val kind HV lo hi (ba p) (HSZ.out p (by rw [HP.out]; simp))
    rw [ba_list] at hsg hen
    have HE := Lib.hid hen
    have HK := Lib.hid hke
    have HSG := Lib.hid hsg
    clear hen hke hsg
    go_upto_region 4 with fail
    obtain ⟨w2, rfl⟩ : ∃ w2 : World, w2 = w1 := ⟨_, rfl⟩
    go_cut [7, 8, 9, 10, 11] (fun v7 v8 v9 v10 v11 wc => v7 = .int .i64 low ∧ v8 = .int .i64 high ∧ v9 = .bool star ∧ v10 = .bool single ∧ v11 = .int .i64 v ∧ Below w2.heap.size w2 wc)
    case first =>
      have HC := Lib.hid (fun w' => spec_cronEnds.calls ke lo hi kind (ba p) low high star single v w' HK.out)
      refine start_ (n := 16) (S := fun w' => w'.cell? ⟨w.heap.size, 0, none⟩ = some (.int .i64 lo) ∧ w'.cell? ⟨w.heap.size, 1, none⟩ = some (.int .i64 hi) ∧ w'.cell? ⟨w.heap.size, 2, none⟩ = some (.int .i64 kind) ∧ w'.cell? ⟨g1, 0, none⟩ = some (.string (ba p))) (ds := []) #[false, false, false, false, false, false, false, false, false, false, false, false, false, false, false, false] (by kernel_rfl) rfl rfl ⟨hx0, hx1, hx2, hc0⟩ (fun hHeld => ?_)
      refine with_tabW rg86_4.tab4 rg86_4.bits4 (fun HT_ HW_ => ?_)
      refine pure_ (i := 1) (N := some 25) (v := ?_) (a' := ?_) #[false, true, false, false, false, false, false, false, false, false, false, false, false, false, false, false] rfl rfl (any_of HT_.out (by kernel_rfl)) (fun _ _ _ h => h) (Or.inl ⟨by rfl, ?_⟩) ?_ ?_
      rotate_left
      · intro w'
        go_simp
        with_reducible rfl
      rotate_left
      · simp only [Act.put, List.setIfInBounds_toArray, List.set_cons_zero, List.set_cons_succ, i64_w, i32_w]
        rfl
      refine pure_ (i := 2) (N := some 26) (v := ?_) (a' := ?_) #[false, true, true, false, false, false, false, false, false, false, false, false, false, false, false, false] rfl rfl (any_of HT_.out (by kernel_rfl)) (fun _ _ _ h => h) (Or.inl ⟨by rfl, ?_⟩) ?_ ?_
      rotate_left
      · intro w'
        go_simp
        with_reducible rfl
      rotate_left
      · simp only [Act.put, List.setIfInBounds_toArray, List.set_cons_zero, List.set_cons_succ, i64_w, i32_w]
        rfl
      refine take_ (i := 0) (N := some 24) (v := ?_) (a' := ?_) #[true, true, true, false, false, false, false, false, false, false, false, false, false, false, false, false] rfl rfl (take_ofW HT_.out HW_.out (by kernel_rfl)) (fun _ _ _ h => h) (Or.inl ⟨by rfl, ?_⟩) hHeld ?_ ?_
      rotate_left
      · rintro w' ⟨s0, s1, s2, s3⟩
        go_simp
        with_reducible rfl
      rotate_left
      · simp only [Act.put, List.setIfInBounds_toArray, List.set_cons_zero, List.set_cons_succ, i64_w, i32_w]
        rfl
      refine take_ (i := 3) (N := some 27) (v := ?_) (a' := ?_) #[true, true, true, true, false, false, false, false, false, false, false, false, false, false, false, false] rfl rfl (take_ofW HT_.out HW_.out (by kernel_rfl)) (fun _ _ _ h => h) (Or.inl ⟨by rfl, ?_⟩) hHeld ?_ ?_
      rotate_left
      · rintro w' ⟨s0, s1, s2, s3⟩
        go_simp
        with_reducible rfl
      rotate_left
      · simp only [Act.put, List.setIfInBounds_toArray, List.set_cons_zero, List.set_cons_succ, i64_w, i32_w]
        rfl
      refine one_ (i := 4) (N := some 28) #[true, true, true, true, true, false, false, false, false, false, false, false, false, false, false, false] rfl rfl (one_of HT_.out (by kernel_rfl)) (by decide) (fun K hK => ?_)
      refine goes_ Tryz.func94 (by kernel_rfl) rfl #[.agg #[.int .i64 lo, .int .i64 hi, .int .i64 kind], .string (ba p)] (by rfl) rfl rfl (by simp only [List.map_toArray, List.map_cons, List.map_nil]; rfl) ?_
      with_reducible refine (HC.out _).mono ?_
      rintro e w3 ⟨rfl, hb3⟩
      refine ⟨_, rfl, ?_⟩
      refine hK.out _ _ ⟨(hb3.cell (p := ⟨w.heap.size, 0, none⟩) (by show w.heap.size < w2.heap.size; omega)).trans hx0, (hb3.cell (p := ⟨w.heap.size, 1, none⟩) (by show w.heap.size < w2.heap.size; omega)).trans hx1, (hb3.cell (p := ⟨w.heap.size, 2, none⟩) (by show w.heap.size < w2.heap.size; omega)).trans hx2, (hb3.cell (p := ⟨g1, 0, none⟩) ht1.lt).trans hc0⟩ (fun hHeld => ?_)
      clear hK K
      refine norm_ (a' := ?_) ?_ ?_
      rotate_left
      · show Act.put _ (some 28) _ = _
        simp only [Act.put, List.setIfInBounds_toArray, List.set_cons_zero, List.set_cons_succ, i64_w, i32_w]
        rfl
      refine pure_ (i := 5) (N := some 23) (v := ?_) (a' := ?_) #[true, true, true, true, true, true, false, false, false, false, false, false, false, false, false, false] rfl rfl (any_of HT_.out (by kernel_rfl)) (fun _ _ _ h => h) (Or.inl ⟨by rfl, ?_⟩) ?_ ?_
      rotate_left
      · intro w'
        go_simp
        with_reducible rfl
      rotate_left
      · simp only [Act.put, List.setIfInBounds_toArray, List.set_cons_zero, List.set_cons_succ, i64_w, i32_w]
        rfl
      refine pure_ (i := 6) (N := some 29) (v := ?_) (a' := ?_) #[true, true, true, true, true, true, true, false, false, false, false, false, false, false, false, false] rfl rfl (any_of HT_.out (by kernel_rfl)) (fun _ _ _ h => h) (Or.inl ⟨by rfl, ?_⟩) ?_ ?_
      rotate_left
      · intro w'
        go_simp
        with_reducible rfl
      rotate_left
      · simp only [Act.put, List.setIfInBounds_toArray, List.set_cons_zero, List.set_cons_succ, i64_w, i32_w]
        rfl
      refine pure_ (i := 7) (N := some 30) (v := ?_) (a' := ?_) #[true, true, true, true, true, true, true, true, false, false, false, false, false, false, false, false] rfl rfl (any_of HT_.out (by kernel_rfl)) (fun _ _ _ h => h) (Or.inl ⟨by rfl, ?_⟩) ?_ ?_
      rotate_left
      · intro w'
        go_simp
        with_reducible rfl
      rotate_left
      · simp only [Act.put, List.setIfInBounds_toArray, List.set_cons_zero, List.set_cons_succ, i64_w, i32_w]
        rfl
      refine pure_ (i := 8) (N := some 31) (v := ?_) (a' := ?_) #[true, true, true, true, true, true, true, true, true, false, false, false, false, false, false, false] rfl rfl (any_of HT_.out (by kernel_rfl)) (fun _ _ _ h => h) (Or.inl ⟨by rfl, ?_⟩) ?_ ?_
      rotate_left
      · intro w'
        go_simp
        with_reducible rfl
      rotate_left
      · simp only [Act.put, List.setIfInBounds_toArray, List.set_cons_zero, List.set_cons_succ, i64_w, i32_w]
        rfl
      refine pure_ (i := 9) (N := some 32) (v := ?_) (a' := ?_) #[true, true, true, true, true, true, true, true, true, true, false, false, false, false, false, false] rfl rfl (any_of HT_.out (by kernel_rfl)) (fun _ _ _ h => h) (Or.inl ⟨by rfl, ?_⟩) ?_ ?_
      rotate_left
      · intro w'
        go_simp
        with_reducible rfl
      rotate_left
      · simp only [Act.put, List.setIfInBounds_toArray, List.set_cons_zero, List.set_cons_succ, i64_w, i32_w]
        rfl
      refine pure_ (i := 10) (N := some 33) (v := ?_) (a' := ?_) #[true, true, true, true, true, true, true, true, true, true, true, false, false, false, false, false] rfl rfl (any_of HT_.out (by kernel_rfl)) (fun _ _ _ h => h) (Or.inl ⟨by rfl, ?_⟩) ?_ ?_
      rotate_left
      · intro w'
        go_simp
        with_reducible rfl
      rotate_left
      · simp only [Act.put, List.setIfInBounds_toArray, List.set_cons_zero, List.set_cons_succ, i64_w, i32_w]
        rfl
      refine pure_ (i := 11) (N := some 7) (v := ?_) (a' := ?_) #[true, true, true, true, true, true, true, true, true, true, true, true, false, false, false, false] rfl rfl (any_of HT_.out (by kernel_rfl)) (fun _ _ _ h => h) (Or.inl ⟨by rfl, ?_⟩) ?_ ?_
      rotate_left
      · intro w'
        go_simp
        with_reducible rfl
      rotate_left
      · simp only [Act.put, List.setIfInBounds_toArray, List.set_cons_zero, List.set_cons_succ, i64_w, i32_w]
        rfl
      refine pure_ (i := 12) (N := some 8) (v := ?_) (a' := ?_) #[true, true, true, true, true, true, true, true, true, true, true, true, true, false, false, false] rfl rfl (any_of HT_.out (by kernel_rfl)) (fun _ _ _ h => h) (Or.inl ⟨by rfl, ?_⟩) ?_ ?_
      rotate_left
      · intro w'
        go_simp
        with_reducible rfl
      rotate_left
      · simp only [Act.put, List.setIfInBounds_toArray, List.set_cons_zero, List.set_cons_succ, i64_w, i32_w]
        rfl
      refine pure_ (i := 13) (N := some 9) (v := ?_) (a' := ?_) #[true, true, true, true, true, true, true, true, true, true, true, true, true, true, false, false] rfl rfl (any_of HT_.out (by kernel_rfl)) (fun _ _ _ h => h) (Or.inl ⟨by rfl, ?_⟩) ?_ ?_
      rotate_left
      · intro w'
        go_simp
        with_reducible rfl
      rotate_left
      · simp only [Act.put, List.setIfInBounds_toArray, List.set_cons_zero, List.set_cons_succ, i64_w, i32_w]
        rfl
      refine pure_ (i := 14) (N := some 10) (v := ?_) (a' := ?_) #[true, true, true, true, true, true, true, true, true, true, true, true, true, true, true, false] rfl rfl (any_of HT_.out (by kernel_rfl)) (fun _ _ _ h => h) (Or.inl ⟨by rfl, ?_⟩) ?_ ?_
      rotate_left
      · intro w'
        go_simp
        with_reducible rfl
      rotate_left
      · simp only [Act.put, List.setIfInBounds_toArray, List.set_cons_zero, List.set_cons_succ, i64_w, i32_w]
        rfl
      refine pure_ (i := 15) (N := some 11) (v := ?_) (a' := ?_) #[true, true, true, true, true, true, true, true, true, true, true, true, true, true, true, true] rfl rfl (any_of HT_.out (by kernel_rfl)) (fun _ _ _ h => h) (Or.inl ⟨by rfl, ?_⟩) ?_ ?_
      rotate_left
      · intro w'
        go_simp
        with_reducible rfl
      rotate_left
      · simp only [Act.put, List.setIfInBounds_toArray, List.set_cons_zero, List.set_cons_succ, i64_w, i32_w]
        rfl
      refine done_ (done_of HT_.out (by kernel_rfl)) ?_
      go_wp2_with fail
      go_meet
      exact ⟨rfl, rfl, rfl, rfl, rfl, (Below.refl _ _).drew.trans hb3⟩
    case rest =>
      obtain ⟨rfl, rfl, rfl, rfl, rfl, hb3⟩ := hcut
      obtain ⟨wo, rfl⟩ : ∃ wo : World, wo = wc := ⟨_, rfl⟩
      have hB3 : Below w.heap.size w wo := below_of_le hB1 hb3
      have hz3 : w.heap.size + 1 < wo.heap.size := Nat.lt_of_lt_of_le hz1 hb3.size
      have hy0 : wo.cell? ⟨w.heap.size, 0, none⟩ = some (.int .i64 lo) := (hb3.cell (p := ⟨w.heap.size, 0, none⟩) (by show w.heap.size < w2.heap.size; omega)).trans hx0
      have hy1 : wo.cell? ⟨w.heap.size, 1, none⟩ = some (.int .i64 hi) := (hb3.cell (p := ⟨w.heap.size, 1, none⟩) (by show w.heap.size < w2.heap.size; omega)).trans hx1
      have HSET3 := Lib.hid (HSET.out.below hb3)
      have ht3 := ht1.below hb3
      clear hx0 hx1 hx2 hc0 HSET HBX ht1 hB1 hz1 hb3 HK
      go_upto_region 6 with fail
      go_upto_if 36 with fail
      go_cut [8, 11, 12] (fun v8 v11 v12 wd => ∃ high' v' step : Int, v8 = .int .i64 high' ∧ v11 = .int .i64 v' ∧ v12 = .int .i64 step ∧ Hid (Mid (rangeS val lo hi s.data.toList) lo hi low high' star step v') ∧ Below wo.heap.size wo wd)
      case first =>
        match hps : ps, HN.out, HP.out, HPB.out with
        | [], hl, hp1, _ =>
          have hq : ((n1 : Int) == 2) = false := by rw [hl]; rfl
          go_wp2_with fail
          go_meet
          exact ⟨high, v, 1, rfl, rfl, rfl, Lib.hid (mid_one hp1 HE.out), Below.refl _ _⟩
        | [t], hl, hp1, hpb =>
          have hq : ((n1 : Int) == 2) = true := by rw [hl]; rfl
          have hq1 : 1 < n1 := by rw [hl]; simp
          have hc1 : wo.cell? ⟨g1, 1, none⟩ = some (.string (ba t)) := ht3.at_ 1 _ (by rw [hpb]; rfl)
          obtain ⟨ks, n, v2, hks, hvs2, hf2, hb2⟩ := step_is (ba t) (HSZ.out t (by rw [hp1]; simp))
          rw [ba_list] at hf2 hb2
          obtain ⟨v3, hw3, hvs3, hw0, hw1, _, _⟩ := worse_f v v2 HE.out.vs hvs2
          have HM := Lib.hid (mid_two h2 hp1 HSG.out HE.out hvs2 hf2 hb2 hvs3 hw0 hw1)
          have HC1 := Lib.hid (fun w' => spec_CronStep.calls ks (ba t) n v2 w' hks)
          have HC2 := Lib.hid (fun w' => spec_worse.calls v v2 v3 w' hw3)
          have hz3' : w.heap.size < wo.heap.size := by omega
          clear hl hp1 hpb hks hvs2 hf2 hb2 hw3 hvs3 hw0 hw1
          cases single <;> cases star
          all_goals
            go_wp2_with (first | (go_at_call 95; go_must (refine (HC1.out _).mono ?_); rintro e w4 ⟨rfl, hb4⟩; obtain ⟨hl1, hl2⟩ := bcell hb4; have hz4 : w.heap.size < w4.heap.size := Nat.lt_of_lt_of_le hz3' hb4.size) | (go_at_call 46; go_must (refine (HC2.out _).mono ?_); rintro e w5 ⟨rfl, hb5⟩; obtain ⟨hl3, hl4⟩ := bcell hb5))
            go_meet
            exact ⟨_, v3, n, rfl, rfl, rfl, Lib.hid (by simpa using HM.out), below_of_le hb4 hb5⟩
        | t :: t2 :: r, hl, _, _ => exact absurd hl (by simp; omega)
      case rest =>
        obtain ⟨high', v', step, rfl, rfl, rfl, HM, hb4⟩ := hcut
        have hB4 : Below w.heap.size w wc := below_of_le hB3 hb4
        have hz4 : w.heap.size + 1 < wc.heap.size := Nat.lt_of_lt_of_le hz3 hb4.size
        have hd0 : wc.cell? ⟨w.heap.size, 0, none⟩ = some (.int .i64 lo) := (hb4.cell (p := ⟨w.heap.size, 0, none⟩) (by show w.heap.size < wo.heap.size; omega)).trans hy0
        have hd1 : wc.cell? ⟨w.heap.size, 1, none⟩ = some (.int .i64 hi) := (hb4.cell (p := ⟨w.heap.size, 1, none⟩) (by show w.heap.size < wo.heap.size; omega)).trans hy1
        have HS := Lib.hid (HSET3.out.below hb4)
        clear hy0 hy1 HSET3 ht3 hz3 hB3 hb4 HE HSG HP HPB HN HSZ
        by_cases hv : v' = 1
        · subst hv
          obtain ⟨k, rfl, hk1, hk2, hcore⟩ := HM.out.fine rfl
          clear HM
          -- in or out
          by_cases hout : low < lo ∨ (hi : Int) < high' ∨ high' < low
          · have HX : Hid (rangeS val lo hi s.data.toList = none) := by
              rcases hcore with ⟨_, e1, e2, _⟩ | ⟨_, ra, rb, ha, hb, hr⟩
              · omega
              · exact Lib.hid (hr.trans (core_out h2 ha hb hout))
            clear hcore
            by_cases x1 : low < lo
            · go_wp2_with (first | (refine wpList_build_set rfl rfl ?_) | (refine wpList_store_set rfl _ _ rfl (w.heap.size + 1) false noSet rfl rfl _ _ HS.out ?_))
              refine bodyPost_ret (v := .tuple #[.agg (setCells false noSet), .int .i64 0]) ?_ rfl ?_
              · exact results_set (fn := Tryz.f86) (p := 4) (u := 5) rfl _ _ (w.heap.size + 1) false noSet rfl (HS.out.store _ _)
              exact ⟨false, noSet, 0, rfl, item_zero (.inl rfl) (fun _ => HX.out), below_setRow hB4 (by omega) _⟩
            · by_cases x2 : (hi : Int) < high'
              · go_wp2_with (first | (refine wpList_build_set rfl rfl ?_) | (refine wpList_store_set rfl _ _ rfl (w.heap.size + 1) false noSet rfl rfl _ _ HS.out ?_))
                refine bodyPost_ret (v := .tuple #[.agg (setCells false noSet), .int .i64 0]) ?_ rfl ?_
                · exact results_set (fn := Tryz.f86) (p := 4) (u := 5) rfl _ _ (w.heap.size + 1) false noSet rfl (HS.out.store _ _)
                exact ⟨false, noSet, 0, rfl, item_zero (.inl rfl) (fun _ => HX.out), below_setRow hB4 (by omega) _⟩
              · have x3 : high' < low := by omega
                clear hout
                go_wp2_with (first | (refine wpList_build_set rfl rfl ?_) | (refine wpList_store_set rfl _ _ rfl (w.heap.size + 1) false noSet rfl rfl _ _ HS.out ?_))
                refine bodyPost_ret (v := .tuple #[.agg (setCells false noSet), .int .i64 0]) ?_ rfl ?_
                · exact results_set (fn := Tryz.f86) (p := 4) (u := 5) rfl _ _ (w.heap.size + 1) false noSet rfl (HS.out.store _ _)
                exact ⟨false, noSet, 0, rfl, item_zero (.inl rfl) (fun _ => HX.out), below_setRow hB4 (by omega) _⟩
          · obtain ⟨a, b, rfl, rfl, hab, hbh, hX⟩ : ∃ a b : Nat, low = a ∧ high' = b ∧ a ≤ b ∧ b ≤ hi ∧ rangeS val lo hi s.data.toList = some (setBits (star && (k == 1)) (stepSet a b k)) := by
              rcases hcore with ⟨e0, e1, e2, hr⟩ | ⟨e0, ra, rb, ha, hb, hr⟩
              · refine ⟨lo, hi, e1, e2, h1, Nat.le_refl _, ?_⟩
                rw [hr, star_in h1 hk1, e0]
                unfold setBits
                rw [stepSet_bits h2]
                by_cases hk : 1 < k
                · rw [if_pos hk, show (k == 1) = false by simp; omega]; rfl
                · rw [if_neg hk, show k = 1 by omega]; rfl
              · obtain ⟨a, b, ea, eb, hab, hbh, hc⟩ := core_in (lo := lo) h2 ha hb (by omega) (by omega) (by omega) hk1
                refine ⟨a, b, ea, eb, hab, hbh, ?_⟩
                rw [hr, hc, e0]
                unfold setBits
                rw [stepSet_bits (by omega)]
                rfl
            have HX := Lib.hid hX
            have ho1 : (lo : Int) ≤ a := by omega
            have ho2 : (b : Int) ≤ hi := by omega
            have ho3 : (a : Int) ≤ b := by omega
            clear hcore hX hout
            go_wp2_with fail
            have hsz0 : w.heap.size + 1 < wc.heap.size := hz4
            go_loopw [16] (fun v16 wr => ∃ n : Nat, v16 = .int .i64 n ∧ a ≤ n ∧ n ≤ b + 1 ∧ Hid (IsSet wr wc.heap.size false (fun i => stepSet a b k i && decide (i < n))) ∧ Hid (IsSet wr (w.heap.size + 1) false noSet) ∧ Below w.heap.size w wr) (fun v16 _ => b + 1 - (intOf v16).toNat)
            case atStart =>
              refine ⟨a, rfl, Nat.le_refl _, by omega, Lib.hid ?_, Lib.hid ?_, ?_⟩
              · refine (heap_alloc_new wc _).trans ?_
                rw [stepSet_start]
                kernel_rfl
              · exact HS.out.below ((Below.refl _ _).alloc (Nat.le_refl _) _)
              · exact hB4.alloc (by omega) _
            case round =>
              obtain ⟨n, rfl, hna, hnb, HI, HR, hBr⟩ := hrel
              by_cases hle : n ≤ b
              · have hc := HI.out.cellAt n (by omega)
                have hf := HI.out.free (n + 1)
                have hc2 : wr.cell? ⟨wc.heap.size, 1 + n, none⟩ = some (.bool (stepSet a b k n && decide (n < n))) := by rw [Nat.add_comm]; exact hc
                have hf2 : wr.frozen? ⟨wc.heap.size, 1 + n, none⟩ = false := by rw [Nat.add_comm]; exact hf
                have hlt63 : n < 63 := by omega
                clear hc hf
                have hmod : (((n : Int) - a) % k == 0) = ((n - a) % k == 0) := by
                  rw [show ((n : Int) - a) = ((n - a : Nat) : Int) by omega]
                  rw [Bool.eq_iff_iff]
                  simp only [beq_iff_eq]
                  omega
                have hp0 : (0 : Int) ≤ (n : Int) - a := by omega
                go_wp2_with fail
                go_roundw
                case rel =>
                  refine ⟨n + 1, by go_num, by omega, by omega, Lib.hid ?_, Lib.hid ?_, ?_⟩
                  · have h := HI.out.put n hlt63 ((n - a) % k == 0)
                    rw [stepSet_next hna hle, Nat.add_comm n 1] at h
                    rw [Nat.add_comm n 1]
                    exact h
                  · exact HR.out.other (by show w.heap.size + 1 ≠ wc.heap.size; omega) _
                  · exact hBr.setCell (by show w.heap.size ≤ wc.heap.size; omega) _
                case measure => simp [intOf]; omega
              · have he := HI.out
                rw [stepSet_end (show b < n by omega)] at he
                have hc := he.cell0
                have hf := he.free 0
                have hk1' : ((k : Int) == 1) = (k == 1) := by
                  rw [Bool.eq_iff_iff]
                  simp only [beq_iff_eq]
                  omega
                cases star with
                | true =>
                  have HL := Lib.hid (he.putStar (k == 1))
                  have HR2 := Lib.hid (HR.out.other (a := ⟨wc.heap.size, 0, none⟩) (by show w.heap.size + 1 ≠ wc.heap.size; omega) (.bool (k == 1)))
                  clear he
                  go_wp2_with (first | (refine wpList_load_set rfl _ rfl wc.heap.size (k == 1) (stepSet a b k) rfl HL.out ?_) | (refine wpList_store_set rfl _ _ rfl (w.heap.size + 1) (k == 1) (stepSet a b k) rfl rfl _ _ HR2.out ?_))
                  refine bodyPost_ret (v := .tuple #[.agg (setCells (k == 1) (stepSet a b k)), .int .i64 1]) ?_ rfl ?_
                  · exact results_set (fn := Tryz.f86) (p := 4) (u := 5) rfl _ _ (w.heap.size + 1) _ _ rfl (HR2.out.store _ _)
                  exact ⟨_, _, 1, rfl, ⟨by omega, fun h => by omega, fun _ => HX.out, fun h => absurd rfl h⟩, below_setRow (hBr.setCell (by show w.heap.size ≤ wc.heap.size; omega) _) (by omega) _⟩
                | false =>
                  have HL := Lib.hid (he.putStar false)
                  have HR2 := Lib.hid (HR.out.other (a := ⟨wc.heap.size, 0, none⟩) (by show w.heap.size + 1 ≠ wc.heap.size; omega) (.bool false))
                  clear he
                  go_wp2_with (first | (refine wpList_load_set rfl _ rfl wc.heap.size false (stepSet a b k) rfl HL.out ?_) | (refine wpList_store_set rfl _ _ rfl (w.heap.size + 1) false (stepSet a b k) rfl rfl _ _ HR2.out ?_))
                  refine bodyPost_ret (v := .tuple #[.agg (setCells false (stepSet a b k)), .int .i64 1]) ?_ rfl ?_
                  · exact results_set (fn := Tryz.f86) (p := 4) (u := 5) rfl _ _ (w.heap.size + 1) _ _ rfl (HR2.out.store _ _)
                  exact ⟨_, _, 1, rfl, ⟨by omega, fun h => by omega, fun _ => HX.out, fun h => absurd rfl h⟩, below_setRow (hBr.setCell (by show w.heap.size ≤ wc.heap.size; omega) _) (by omega) _⟩
        · have HX : Hid (v' = 0 → rangeS val lo hi s.data.toList = none) := Lib.hid HM.out.bad
          have hv0 : v' = 0 ∨ v' = 2 := by rcases HM.out.vs with h | h | h <;> omega
          have hne : (v' != 1) = true := by simpa using hv
          have HV0 := Lib.hid hv0
          clear HM hv hv0
          go_wp2_with (first | (refine wpList_build_set rfl rfl ?_) | (refine wpList_store_set rfl _ _ rfl (w.heap.size + 1) false noSet rfl rfl _ _ HS.out ?_))
          refine bodyPost_ret (v := .tuple #[.agg (setCells false noSet), .int .i64 v']) ?_ rfl ?_
          · exact results_set (fn := Tryz.f86) (p := 4) (u := 5) rfl _ _ (w.heap.size + 1) false noSet rfl (HS.out.store _ _)
          exact ⟨false, noSet, v', rfl, item_zero HV0.out HX.out, below_setRow hB4 (by omega) _⟩

end Go.Proofs.YtikgnpachlgakaaGreatDoor.Cron

namespace Go.Proofs.YtikgnpachlgakaaGreatDoor.Cron
open Go Go.RowKit Go.Proofs.YtikgnpachlgakaaGreatDoor.Text Go.Proofs.YtikgnpachlgakaaGreatDoor.Bits
set_option linter.unusedVariables false

theorem mkBits_next (p : Nat → Bool) (n : Nat) (h : n < 63) : mkBits (fun j => p j && decide (j < n)) 63 ||| (if p n then 2 ^ n else 0) = mkBits (fun j => p j && decide (j < n + 1)) 63 := by
  by_cases hp : p n = true
  · rw [if_pos hp, pow_mkBits n 63 h, mkBits_or]
    apply mkBits_ext
    intro j _
    by_cases e : j = n
    · subst e; simp [hp]
    · by_cases h2 : j < n
      · have : j < n + 1 := by omega
        simp [e, h2, this]
      · have : ¬ j < n + 1 := by omega
        simp [e, h2, this]
  · rw [if_neg hp, Nat.or_zero]
    apply mkBits_ext
    intro j _
    by_cases e : j = n
    · subst e
      have : p j = false := by simpa using hp
      simp [this]
    · by_cases h2 : j < n
      · have : j < n + 1 := by omega
        simp [h2, this]
      · have : ¬ j < n + 1 := by omega
        simp [h2, this]

set_option maxRecDepth 10000 in
set_option maxHeartbeats 1000000 in
theorem cronBits_of (star : Bool) (p : Nat → Bool) (w : World) :
    Calls Tryz.prog 64 #[.agg (setCells star p)] w fun e w' => e = .returned (.int .u64 (setBits star p : Nat)) ∧ Below w.heap.size w w' := by
  have hidx := run_index_in p
  have hbox := run_box_set star p
  have hset : IsSet (w.alloc (.cells (setCells star p) 53)) w.heap.size star p := isSet_new w star p
  go_enter Tryz.func64, Tryz.ntmps64
  have hc0 := hset.cell0
  have HS := Lib.hid hset
  clear hset
  go_wp2_with (refine wpList_load_in rfl _ rfl w.heap.size star p rfl HS.out ?_)
  go_loop [3, 8] (fun v3 v8 => ∃ n : Nat, n ≤ 63 ∧ v8 = .int .i64 n ∧ v3 = .int .u64 (mkBits (fun j => p j && decide (j < n)) 63 : Nat)) (fun _ v8 => 63 - (intOf v8).toNat)
  case atStart =>
    refine ⟨0, by omega, rfl, ?_⟩
    rw [mkBits_ext (q := fun _ => false) 63 (fun j _ => by simp)]
    rfl
  case round =>
    obtain ⟨n, hn, rfl, rfl⟩ := hrel
    have hlt64 : mkBits (fun j => p j && decide (j < n)) 63 < 2 ^ 64 := Nat.lt_of_lt_of_le (mkBits_lt _ _) (by decide)
    by_cases h : n < 63
    · have hnext := mkBits_next p n h
      have hi := hidx n h
      cases hp : p n with
      | true =>
        rw [hp, if_pos rfl] at hnext
        rw [hp] at hi
        have hor : bits .or .u64 ((mkBits (fun j => p j && decide (j < n)) 63 : Nat) : Int) (IntKind.u64.wrap (2 ^ n)) = ((mkBits (fun j => p j && decide (j < n + 1)) 63 : Nat) : Int) := by
          rw [show IntKind.u64.wrap (2 ^ n) = ((2 ^ n : Nat) : Int) from shl_one (i := (n : Int)) (by omega) (by omega), or_u64 hlt64 (Nat.pow_lt_pow_right (by decide) (by omega)), hnext]
        clear hnext hidx hp
        go_wp2_with fail
        go_round
        case rel => exact ⟨n + 1, by omega, by go_num, by first | rfl | (rw [hor])⟩
        case measure => simp [intOf]; omega
      | false =>
        rw [hp, if_neg (by decide), Nat.or_zero] at hnext
        rw [hp] at hi
        have HX := Lib.hid hnext
        clear hnext hidx hp
        go_wp2_with fail
        go_round
        case rel => exact ⟨n + 1, by omega, by go_num, by rw [HX.out]⟩
        case measure => simp [intOf]; omega
    · have hnn : ∀ j, j < 63 → j < n := fun j hj => by omega
      have hfull : mkBits (fun j => p j && decide (j < n)) 63 = mkBits p 63 := mkBits_ext 63 (fun j hj => by simp [hnn j hj])
      have HF := Lib.hid hfull
      cases star with
      | true =>
        have hor : bits .or .u64 ((mkBits (fun j => p j && decide (j < n)) 63 : Nat) : Int) 9223372036854775808 = ((setBits true p : Nat) : Int) := by
          unfold setBits
          rw [← hfull]
          exact or_u64 hlt64 (b := 9223372036854775808) (by decide)
        have HO := Lib.hid hor
        clear hfull hor hidx hnn
        go_wp2_with fail
        go_ret
        exact ⟨by show Ending.returned (.int .u64 (bits .or .u64 ((mkBits (fun j => p j && decide (j < n)) 63 : Nat) : Int) 9223372036854775808)) = _; rw [HO.out], (Below.refl _ _).alloc (Nat.le_refl _) _⟩
      | false =>
        clear hfull hidx hnn
        go_wp2_with fail
        go_ret
        exact ⟨by show Ending.returned (.int .u64 ((mkBits (fun j => p j && decide (j < n)) 63 : Nat) : Int)) = _; rw [HF.out]; unfold setBits; rw [if_neg (by decide), Nat.or_zero], (Below.refl _ _).alloc (Nat.le_refl _) _⟩

end Go.Proofs.YtikgnpachlgakaaGreatDoor.Cron

namespace Go.Proofs.YtikgnpachlgakaaGreatDoor.Cron
open Go Go.RowKit Go.Proofs.YtikgnpachlgakaaGreatDoor.Text Go.Proofs.YtikgnpachlgakaaGreatDoor.Bits
set_option linter.unusedVariables false

theorem reads_nil : Reads none mp G := by
  refine ⟨fun h hb => h.below hb, fun h => h, fun h => mp_le h, fun s w hs hg => ?_⟩
  cases h : mp s.data.toList with
  | none => exact (valueNil_bad s (by omega) h w hg).mono fun e w' ⟨t, x, he, hb⟩ => ⟨⟨t, x, he⟩, hb⟩
  | some n => exact (valueNil_ok s (by omega) n h w).mono fun e w' ⟨he, hb⟩ => ⟨he, hb⟩

/-- what the thin package makes of the bits -/
def BitsAnswer (w : World) (r : Option Nat) (e : Ending) (w' : World) : Prop :=
  e = .returned (.tuple #[.int .u64 (r.getD 0 : Nat), .bool r.isSome]) ∧ Below w.heap.size w w'




end Go.Proofs.YtikgnpachlgakaaGreatDoor.Cron
