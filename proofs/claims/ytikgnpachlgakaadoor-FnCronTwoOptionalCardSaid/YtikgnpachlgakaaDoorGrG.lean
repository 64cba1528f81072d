/- Lemmas and walks on the way to the law, merged by wip/tools/pack.py: Fields, Closure, Options. Conditions: none. -/
import Derived.Test.YtikgnpachlgakaaDoorGrD
import Derived.Test.YtikgnpachlgakaaDoorGrF
import Derived.Test.YtikgnpachlgakaaDoorPrA
import Derived.Test.YtikgnpachlgakaaDoorPrB
import Derived.Test.YtikgnpachlgakaaDoorGrB
import Derived.Test.YtikgnpachlgakaaDoorGrA
namespace Go.Proofs.YtikgnpachlgakaaDoor.Cron
open Go Go.RowKit Go.Proofs.YtikgnpachlgakaaDoor.Text Go.Proofs.YtikgnpachlgakaaDoor.Bits Go.Proofs.YtikgnpachlgakaaDoorW.PrintWords Go.Proofs.YtikgnpachlgakaaDoorW.PrintLast Go.Proofs.YtikgnpachlgakaaDoorW.PrintMore Go.Proofs.YtikgnpachlgakaaDoor.Pr
set_option linter.unusedVariables false

/-- the least and the greatest value of a field -/
def loK (k : Nat) : Nat := if k = 3 ∨ k = 4 then 1 else 0
def hiK (k : Nat) : Nat := if k = 2 then 23 else if k = 3 then 31 else if k = 4 then 12 else if k = 5 then 6 else 59
theorem loK_le (k : Nat) : loK k ≤ hiK k := by unfold loK hiK; split <;> (repeat' split) <;> omega
theorem hiK_le (k : Nat) : hiK k ≤ 62 := by unfold hiK; (repeat' split) <;> omega

theorem drawn_below {w w' : World} (h : Drawn0 w w') : Below w.heap.size w w' := by
  first
    | exact h
    | (obtain ⟨n, rfl⟩ := h; exact pw_below_drewN (Below.refl _ _) n)

theorem cronLow_any (k : Nat) (w : World) : Calls Tryd.prog 15 #[.int .i64 k] w fun e w' => e = .returned (.int .i64 (loK k : Nat)) ∧ Below w.heap.size w w' := by
  refine (spec_CronLow.calls k (loK k : Nat) w ?_).mono fun e w' ⟨he, hw⟩ => ⟨he, drawn_below hw⟩
  unfold spec_CronLow.f loK
  by_cases h3 : k = 3
  · subst h3; rfl
  · rw [if_neg (by omega)]
    by_cases h4 : k = 4
    · subst h4; rfl
    · rw [if_neg (by omega), if_neg (by omega)]; rfl

theorem high_f (k : Nat) : spec_CronHigh.f k = some (hiK k : Nat) := by
  unfold spec_CronHigh.f hiK
  by_cases h2 : k = 2
  · subst h2; rfl
  · rw [if_neg (by omega), if_neg h2]
    by_cases h3 : k = 3
    · subst h3; rfl
    · rw [if_neg (by omega), if_neg h3]
      by_cases h4 : k = 4
      · subst h4; rfl
      · rw [if_neg (by omega), if_neg h4]
        by_cases h5 : k = 5
        · subst h5; rfl
        · rw [if_neg (by omega), if_neg h5]; rfl

theorem low_f (k : Nat) : spec_CronLow.f k = some (loK k : Nat) := by
  unfold spec_CronLow.f loK
  by_cases h3 : k = 3
  · subst h3; rfl
  · rw [if_neg (by omega)]
    by_cases h4 : k = 4
    · subst h4; rfl
    · rw [if_neg (by omega), if_neg (by omega)]; rfl

theorem cronHigh_any (k : Nat) (w : World) : Calls Tryd.prog 16 #[.int .i64 k] w fun e w' => e = .returned (.int .i64 (hiK k : Nat)) ∧ Below w.heap.size w w' :=
  (spec_CronHigh.calls k (hiK k : Nat) w (high_f k)).mono fun e w' ⟨he, hw⟩ => ⟨he, drawn_below hw⟩

theorem boundsOf_any (k : Nat) (w : World) : Calls Tryd.prog 21 #[.int .i64 k] w fun e w' => e = .returned (.agg #[.int .i64 (loK k : Nat), .int .i64 (hiK k : Nat), .int .i64 k]) ∧ Below w.heap.size w w' :=
  spec_CronBoundsOf.calls k _ _ _ w (by unfold spec_CronBoundsOf.f; rw [low_f, high_f]; rfl)

theorem sizeBounds : (Tryd.prog.info? 87).map (·.size) = some 3 := by kernel_rfl

theorem results_bounds {fn : Func} {p : Tmp} (h : fn.results = #[.cell p 87]) (tmps : Array Value) (w : World) (g : Nat) (cs : Array Value)
    (hp : tmps.getD p undef = .pointer (some ⟨g, 0, none⟩)) (hs : w.heap[g]? = some (.cells cs 87 (0, 0))) (hz : cs.size = 3) :
    (results fn tmps).run Tryd.prog w = .ok (.agg cs) w := by
  have hp' : tmps[p]?.getD undef = .pointer (some ⟨g, 0, none⟩) := by simpa using hp
  have hl : (loadVar 87 ⟨g, 0, none⟩).run Tryd.prog w = .ok (.agg cs) w := run_loadVar_row w g _ _ _ _ _ hs Tryd.underlying87 rfl (by rw [sizeBounds, hz])
  simp only [results, h]
  simp [asAddr, hp', hl]

theorem store3_row {w : World} {g : Nat} {a b c x y z : Value} {T : TypeId} (h : w.heap[g]? = some (.cells #[a, b, c] T (0, 0))) :
    (((w.setCell ⟨g, 0, none⟩ x).setCell ⟨g, 1, none⟩ y).setCell ⟨g, 2, none⟩ z).heap[g]? = some (.cells #[x, y, z] T (0, 0)) := by
  have h1 := heap_setCell_same w g 0 _ _ x h
  have h2 := heap_setCell_same _ g 1 _ _ y h1
  have h3 := heap_setCell_same _ g 2 _ _ z h2
  simpa using h3

section
variable {ops : Array Oper} {rest : List Oper} {o : Oper} {a : Act} {w : World} {Q : Exit → Act → World → Prop}
theorem wpList_store_bounds (hg : o.guard = none) (x y : Operand) (ho : o.op = .store 87 x y) (g : Nat) (cs : Array Value)
    (hx : a.eval x = .pointer (some ⟨g, 0, none⟩)) (hy : a.eval y = .agg cs) (cs0 : Array Value) (hs : w.heap[g]? = some (.cells cs0 87 (0, 0))) (hz0 : cs0.size = 3) (hz : cs.size = 3) (h1 : cs.all (·.oneCell') = true)
    (h : wpList Tryd.prog ops Q rest (a.put o.dst undef) (w.setRow g cs)) : wpList Tryd.prog ops Q (o :: rest) a w :=
  wpList_store_row hg 87 x y ho g _ hx hy _ _ hs (by rw [sizeBounds, hz]) (by rw [hz, hz0]) h1 h
end

theorem seconds_any (w : World) : Calls Tryd.prog 67 #[] w fun e w' => e = .returned (.agg #[.int .u64 0, .int .u64 59, .map none]) ∧ Below w.heap.size w w' := by
  go_enter Tryd.func67, Tryd.ntmps67
  go_wp2
  refine bodyPost_ret (v := .agg #[.int .u64 0, .int .u64 59, .map none]) ?_ rfl ?_
  · exact results_bounds (fn := Tryd.f67) (p := 0) rfl _ _ w.heap.size _ rfl (heap_alloc_new w _) rfl
  exact ⟨rfl, (Below.refl _ _).alloc (Nat.le_refl _) _⟩

theorem minutes_any (w : World) : Calls Tryd.prog 68 #[] w fun e w' => e = .returned (.agg #[.int .u64 0, .int .u64 59, .map none]) ∧ Below w.heap.size w w' := by
  go_enter Tryd.func68, Tryd.ntmps68
  go_wp2
  refine bodyPost_ret (v := .agg #[.int .u64 0, .int .u64 59, .map none]) ?_ rfl ?_
  · exact results_bounds (fn := Tryd.f68) (p := 0) rfl _ _ w.heap.size _ rfl (heap_alloc_new w _) rfl
  exact ⟨rfl, (Below.refl _ _).alloc (Nat.le_refl _) _⟩

theorem hours_any (w : World) : Calls Tryd.prog 69 #[] w fun e w' => e = .returned (.agg #[.int .u64 0, .int .u64 23, .map none]) ∧ Below w.heap.size w w' := by
  go_enter Tryd.func69, Tryd.ntmps69
  go_wp2
  refine bodyPost_ret (v := .agg #[.int .u64 0, .int .u64 23, .map none]) ?_ rfl ?_
  · exact results_bounds (fn := Tryd.f69) (p := 0) rfl _ _ w.heap.size _ rfl (heap_alloc_new w _) rfl
  exact ⟨rfl, (Below.refl _ _).alloc (Nat.le_refl _) _⟩

theorem dom_any (w : World) : Calls Tryd.prog 70 #[] w fun e w' => e = .returned (.agg #[.int .u64 1, .int .u64 31, .map none]) ∧ Below w.heap.size w w' := by
  go_enter Tryd.func70, Tryd.ntmps70
  go_wp2
  refine bodyPost_ret (v := .agg #[.int .u64 1, .int .u64 31, .map none]) ?_ rfl ?_
  · exact results_bounds (fn := Tryd.f70) (p := 0) rfl _ _ w.heap.size _ rfl (heap_alloc_new w _) rfl
  exact ⟨rfl, (Below.refl _ _).alloc (Nat.le_refl _) _⟩

theorem zzBounds_plain (k : Nat) (hk : k < 4) (w : World) : Calls Tryd.prog 52 #[.int .i64 k] w fun e w' => e = .returned (.agg #[.int .u64 (loK k : Nat), .int .u64 (hiK k : Nat), .map none]) ∧ Below w.heap.size w w' := by
  match k, hk with
  | 0, _ =>
    have HC := Lib.hid (fun w' => seconds_any w')
    go_enter Tryd.func52, Tryd.ntmps52
    go_wp2_with fail
    refine (HC.out _).mono ?_
    rintro e w1 ⟨rfl, hb1⟩
    have hrow : w1.heap[w.heap.size]? = some (.cells #[.int .u64 0, .int .u64 0, .map none] 87 (0, 0)) := (hb1.block w.heap.size (by simp)).trans (heap_alloc_new w _)
    have hB := ((Below.refl w.heap.size w).alloc (Nat.le_refl _) (.cells #[.int .u64 0, .int .u64 0, .map none] 87)).trans (hb1.mono (by simp))
    have HROW := Lib.hid (store3_row (x := .int .u64 0) (y := .int .u64 59) (z := .map none) hrow)
    have hc0 : w1.cell? ⟨w.heap.size, 0, none⟩ = some (.int .u64 0) := cell_of_row _ _ _ _ _ _ hrow
    have hc1 : w1.cell? ⟨w.heap.size, 1, none⟩ = some (.int .u64 0) := cell_of_row _ _ _ _ _ _ hrow
    have hc2 : w1.cell? ⟨w.heap.size, 2, none⟩ = some (.map none) := cell_of_row _ _ _ _ _ _ hrow
    have hf0 : w1.frozen? ⟨w.heap.size, 0, none⟩ = false := frozen_of_row _ _ _ _ _ hrow
    have hf1 : w1.frozen? ⟨w.heap.size, 1, none⟩ = false := frozen_of_row _ _ _ _ _ hrow
    have hf2 : w1.frozen? ⟨w.heap.size, 2, none⟩ = false := frozen_of_row _ _ _ _ _ hrow
    clear hrow hb1
    go_wp2
    refine bodyPost_ret (v := .agg #[.int .u64 0, .int .u64 59, .map none]) ?_ rfl ?_
    · exact results_bounds (fn := Tryd.f52) (p := 2) rfl _ _ w.heap.size _ rfl HROW.out rfl
    exact ⟨rfl, ((hB.setCell (Nat.le_refl _) _).setCell (Nat.le_refl _) _).setCell (Nat.le_refl _) _⟩
  | 1, _ =>
    have HC := Lib.hid (fun w' => minutes_any w')
    go_enter Tryd.func52, Tryd.ntmps52
    go_wp2_with fail
    refine (HC.out _).mono ?_
    rintro e w1 ⟨rfl, hb1⟩
    have hrow : w1.heap[w.heap.size]? = some (.cells #[.int .u64 0, .int .u64 0, .map none] 87 (0, 0)) := (hb1.block w.heap.size (by simp)).trans (heap_alloc_new w _)
    have hB := ((Below.refl w.heap.size w).alloc (Nat.le_refl _) (.cells #[.int .u64 0, .int .u64 0, .map none] 87)).trans (hb1.mono (by simp))
    have HROW := Lib.hid (store3_row (x := .int .u64 0) (y := .int .u64 59) (z := .map none) hrow)
    have hc0 : w1.cell? ⟨w.heap.size, 0, none⟩ = some (.int .u64 0) := cell_of_row _ _ _ _ _ _ hrow
    have hc1 : w1.cell? ⟨w.heap.size, 1, none⟩ = some (.int .u64 0) := cell_of_row _ _ _ _ _ _ hrow
    have hc2 : w1.cell? ⟨w.heap.size, 2, none⟩ = some (.map none) := cell_of_row _ _ _ _ _ _ hrow
    have hf0 : w1.frozen? ⟨w.heap.size, 0, none⟩ = false := frozen_of_row _ _ _ _ _ hrow
    have hf1 : w1.frozen? ⟨w.heap.size, 1, none⟩ = false := frozen_of_row _ _ _ _ _ hrow
    have hf2 : w1.frozen? ⟨w.heap.size, 2, none⟩ = false := frozen_of_row _ _ _ _ _ hrow
    clear hrow hb1
    go_wp2
    refine bodyPost_ret (v := .agg #[.int .u64 0, .int .u64 59, .map none]) ?_ rfl ?_
    · exact results_bounds (fn := Tryd.f52) (p := 2) rfl _ _ w.heap.size _ rfl HROW.out rfl
    exact ⟨rfl, ((hB.setCell (Nat.le_refl _) _).setCell (Nat.le_refl _) _).setCell (Nat.le_refl _) _⟩
  | 2, _ =>
    have HC := Lib.hid (fun w' => hours_any w')
    go_enter Tryd.func52, Tryd.ntmps52
    go_wp2_with fail
    refine (HC.out _).mono ?_
    rintro e w1 ⟨rfl, hb1⟩
    have hrow : w1.heap[w.heap.size]? = some (.cells #[.int .u64 0, .int .u64 0, .map none] 87 (0, 0)) := (hb1.block w.heap.size (by simp)).trans (heap_alloc_new w _)
    have hB := ((Below.refl w.heap.size w).alloc (Nat.le_refl _) (.cells #[.int .u64 0, .int .u64 0, .map none] 87)).trans (hb1.mono (by simp))
    have HROW := Lib.hid (store3_row (x := .int .u64 0) (y := .int .u64 23) (z := .map none) hrow)
    have hc0 : w1.cell? ⟨w.heap.size, 0, none⟩ = some (.int .u64 0) := cell_of_row _ _ _ _ _ _ hrow
    have hc1 : w1.cell? ⟨w.heap.size, 1, none⟩ = some (.int .u64 0) := cell_of_row _ _ _ _ _ _ hrow
    have hc2 : w1.cell? ⟨w.heap.size, 2, none⟩ = some (.map none) := cell_of_row _ _ _ _ _ _ hrow
    have hf0 : w1.frozen? ⟨w.heap.size, 0, none⟩ = false := frozen_of_row _ _ _ _ _ hrow
    have hf1 : w1.frozen? ⟨w.heap.size, 1, none⟩ = false := frozen_of_row _ _ _ _ _ hrow
    have hf2 : w1.frozen? ⟨w.heap.size, 2, none⟩ = false := frozen_of_row _ _ _ _ _ hrow
    clear hrow hb1
    go_wp2
    refine bodyPost_ret (v := .agg #[.int .u64 0, .int .u64 23, .map none]) ?_ rfl ?_
    · exact results_bounds (fn := Tryd.f52) (p := 2) rfl _ _ w.heap.size _ rfl HROW.out rfl
    exact ⟨rfl, ((hB.setCell (Nat.le_refl _) _).setCell (Nat.le_refl _) _).setCell (Nat.le_refl _) _⟩
  | 3, _ =>
    have HC := Lib.hid (fun w' => dom_any w')
    go_enter Tryd.func52, Tryd.ntmps52
    go_wp2_with fail
    refine (HC.out _).mono ?_
    rintro e w1 ⟨rfl, hb1⟩
    have hrow : w1.heap[w.heap.size]? = some (.cells #[.int .u64 0, .int .u64 0, .map none] 87 (0, 0)) := (hb1.block w.heap.size (by simp)).trans (heap_alloc_new w _)
    have hB := ((Below.refl w.heap.size w).alloc (Nat.le_refl _) (.cells #[.int .u64 0, .int .u64 0, .map none] 87)).trans (hb1.mono (by simp))
    have HROW := Lib.hid (store3_row (x := .int .u64 1) (y := .int .u64 31) (z := .map none) hrow)
    have hc0 : w1.cell? ⟨w.heap.size, 0, none⟩ = some (.int .u64 0) := cell_of_row _ _ _ _ _ _ hrow
    have hc1 : w1.cell? ⟨w.heap.size, 1, none⟩ = some (.int .u64 0) := cell_of_row _ _ _ _ _ _ hrow
    have hc2 : w1.cell? ⟨w.heap.size, 2, none⟩ = some (.map none) := cell_of_row _ _ _ _ _ _ hrow
    have hf0 : w1.frozen? ⟨w.heap.size, 0, none⟩ = false := frozen_of_row _ _ _ _ _ hrow
    have hf1 : w1.frozen? ⟨w.heap.size, 1, none⟩ = false := frozen_of_row _ _ _ _ _ hrow
    have hf2 : w1.frozen? ⟨w.heap.size, 2, none⟩ = false := frozen_of_row _ _ _ _ _ hrow
    clear hrow hb1
    go_wp2
    refine bodyPost_ret (v := .agg #[.int .u64 1, .int .u64 31, .map none]) ?_ rfl ?_
    · exact results_bounds (fn := Tryd.f52) (p := 2) rfl _ _ w.heap.size _ rfl HROW.out rfl
    exact ⟨rfl, ((hB.setCell (Nat.le_refl _) _).setCell (Nat.le_refl _) _).setCell (Nat.le_refl _) _⟩

/-- what zzBounds answers for a kind of field: its bounds, and names by which values are read so -/
def BoundsRead (k : Nat) (val : List UInt8 → Option Nat) : Prop :=
  ∀ w : World, G w → Calls Tryd.prog 52 #[.int .i64 k] w fun e w' => ∃ (m : Option Nat) (Inv : World → Prop), e = .returned (.agg #[.int .u64 (loK k : Nat), .int .u64 (hiK k : Nat), .map m]) ∧ Reads m val Inv ∧ Inv w' ∧ Below w.heap.size w w'

theorem bounds_plain (k : Nat) (hk : k < 4) : BoundsRead k mp := fun w hg =>
  (zzBounds_plain k hk w).mono fun e w' ⟨he, hb⟩ => ⟨none, G, he, reads_nil, hg.below hb, hb⟩

theorem zzField_any (k : Nat) (val : List UInt8 → Option Nat) (HB : BoundsRead k val) (s : ByteArray) (hs : s.size ≤ 4294967296) (w : World) (hg : G w) :
    Calls Tryd.prog 40 #[.int .i64 k, .string s] w (FieldAnswers w (fieldS val (loK k) (hiK k) s.data.toList)) := by
  have HL := loK_le k
  have HH := hiK_le k
  have HC := Lib.hid (fun m Inv hR w' hI => getFieldA m val Inv hR (loK k) (hiK k) s hs HL HH w' hI)
  generalize fieldS val (loK k) (hiK k) s.data.toList = r at HC ⊢
  clear HL HH
  go_enter Tryd.func40, Tryd.ntmps40
  go_wp2_with fail
  refine (HB _ hg).mono ?_
  rintro e w1 ⟨m, Inv, rfl, hR, hI, hb1⟩
  cases r with
  | none =>
    go_wp2_with (go_at_call 54; go_must (refine (HC.out m Inv hR _ hI).mono ?_); rintro e w' ⟨⟨n, t, x, rfl⟩, hb⟩)
    go_ret2
    exact ⟨⟨n, t, x, rfl⟩, below_of_le hb1 hb⟩
  | some b =>
    go_wp2_with (go_at_call 54; go_must (refine (HC.out m Inv hR _ hI).mono ?_); rintro e w' ⟨rfl, hb⟩)
    go_ret2
    exact ⟨rfl, below_of_le hb1 hb⟩

theorem zzFieldIn_any (lo hi : Nat) (s : ByteArray) (hs : s.size ≤ 4294967296) (h1 : lo ≤ hi) (h2 : hi ≤ 62) (w : World) (hg : G w) :
    Calls Tryd.prog 42 #[.int .u64 lo, .int .u64 hi, .string s] w (FieldAnswers w (fieldS mp lo hi s.data.toList)) := by
  have H := Lib.hid (getFieldA none mp G reads_nil lo hi s hs h1 h2 w hg)
  generalize fieldS mp lo hi s.data.toList = r at H ⊢
  go_enter Tryd.func42, Tryd.ntmps42
  cases r with
  | none =>
    go_wp2_with (go_at_call 54; go_must (refine H.out.mono ?_); rintro e w' ⟨⟨n, t, x, rfl⟩, hb⟩)
    go_ret2
    exact ⟨⟨n, t, x, rfl⟩, hb⟩
  | some b =>
    go_wp2_with (go_at_call 54; go_must (refine H.out.mono ?_); rintro e w' ⟨rfl, hb⟩)
    go_ret2
    exact ⟨rfl, hb⟩

theorem thinCronField_any (k : Nat) (hk : k < 6) (val : List UInt8 → Option Nat) (HB : BoundsRead k val) (s : ByteArray) (hs : s.size ≤ 4294967296) (w : World) (hg : G w) :
    Calls Tryd.prog 17 #[.int .i64 k, .string s] w (BitsAnswer w (fieldS val (loK k) (hiK k) s.data.toList)) := by
  have H := Lib.hid (zzField_any k val HB s hs w hg)
  generalize fieldS val (loK k) (hiK k) s.data.toList = r at H ⊢
  go_enter Tryd.func17, Tryd.ntmps17
  cases r with
  | none =>
    go_wp2_with (first | (go_at_call 40; go_must (refine H.out.mono ?_); rintro e w' ⟨⟨n, t, x, rfl⟩, hb⟩) | (go_at_call 37; go_must (refine (bits_bad _ _ _ _).mono ?_); rintro e w'' ⟨rfl, rfl⟩))
    go_ret2
    exact ⟨rfl, hb⟩
  | some b =>
    go_wp2_with (first | (go_at_call 40; go_must (refine H.out.mono ?_); rintro e w' ⟨rfl, hb⟩) | (go_at_call 37; go_must (refine (bits_ok _ _).mono ?_); rintro e w'' ⟨rfl, rfl⟩))
    go_ret2
    exact ⟨rfl, hb⟩

theorem thinCronFieldIn_any (lo hi : Nat) (s : ByteArray) (hs : s.size ≤ 4294967296) (h1 : lo ≤ hi) (h2 : hi ≤ 62) (w : World) (hg : G w) :
    Calls Tryd.prog 19 #[.int .u64 lo, .int .u64 hi, .string s] w (BitsAnswer w (fieldS mp lo hi s.data.toList)) := by
  have H := Lib.hid (zzFieldIn_any lo hi s hs h1 h2 w hg)
  generalize fieldS mp lo hi s.data.toList = r at H ⊢
  go_enter Tryd.func19, Tryd.ntmps19
  cases r with
  | none =>
    go_wp2_with (first | (go_at_call 42; go_must (refine H.out.mono ?_); rintro e w' ⟨⟨n, t, x, rfl⟩, hb⟩) | (go_at_call 37; go_must (refine (bits_bad _ _ _ _).mono ?_); rintro e w'' ⟨rfl, rfl⟩))
    go_ret2
    exact ⟨rfl, hb⟩
  | some b =>
    go_wp2_with (first | (go_at_call 42; go_must (refine H.out.mono ?_); rintro e w' ⟨rfl, hb⟩) | (go_at_call 37; go_must (refine (bits_ok _ _).mono ?_); rintro e w'' ⟨rfl, rfl⟩))
    go_ret2
    exact ⟨rfl, hb⟩


end Go.Proofs.YtikgnpachlgakaaDoor.Cron

namespace Go.Proofs.YtikgnpachlgakaaDoor.Cron
open Go Go.RowKit Go.Proofs.YtikgnpachlgakaaDoor.Text Go.Proofs.YtikgnpachlgakaaDoor.Bits
set_option linter.unusedVariables false

/-- w2 is w but for new blocks and the cell of err -/
def ErrAt (w w' : World) (g : Nat) (v : Value) : Prop := ∃ w1, Below w.heap.size w w1 ∧ w' = w1.setCell ⟨g, 0, none⟩ v

def ClosureAnswer (w : World) (g : Nat) (r : Option Nat) (e : Ending) (w' : World) : Prop :=
  match r with
  | some b => e = .returned (.int .u64 b) ∧ ErrAt w w' g .nilIface
  | none => ∃ (n : Int) (t : TypeId) (x : Value), e = .returned (.int .u64 n) ∧ ErrAt w w' g (.iface t x)

set_option maxRecDepth 100000 in
theorem closure_any (m : Option Nat) (val : List UInt8 → Option Nat) (Inv : World → Prop) (hR : Reads m val Inv) (lo hi : Nat) (s : ByteArray) (hs : s.size ≤ 4294967296) (h1 : lo ≤ hi) (h2 : hi ≤ 62) (g : Nat) (w : World) (hI : Inv w)
    (hg : g < w.heap.size) (hc : w.cell? ⟨g, 0, none⟩ = some .nilIface) (hf : w.frozen? ⟨g, 0, none⟩ = false) :
    Calls Tryd.prog 66 #[.string s, .agg #[.int .u64 lo, .int .u64 hi, .map m], .pointer (some ⟨g, 0, none⟩)] w (ClosureAnswer w g (fieldS val lo hi s.data.toList)) := by
  have hB0 : ∀ o, Below w.heap.size w (w.alloc o) := fun o => (Below.refl _ _).alloc (Nat.le_refl _) o
  have HC := Lib.hid (fun o => getFieldA m val Inv hR lo hi s hs h1 h2 (w.alloc o) (hR.keeps hI (hB0 o)))
  generalize fieldS val lo hi s.data.toList = r at *
  go_enter Tryd.func66, Tryd.ntmps66
  go_wp2_with fail
  refine (HC.out _).mono ?_
  cases r with
  | some b =>
    rintro e w2 ⟨rfl, hb2⟩
    have hB : Below w.heap.size w w2 := ((Below.refl _ _).alloc (Nat.le_refl _) _).trans (hb2.mono (by simp))
    have hc2 := (hB.cell (p := ⟨g, 0, none⟩) hg).trans hc
    have hf2 := (hB.frozen (p := ⟨g, 0, none⟩) hg).trans hf
    go_wp2_with fail
    go_ret
    exact ⟨rfl, w2, hB, rfl⟩
  | none =>
    rintro e w2 ⟨⟨n, t, x, rfl⟩, hb2⟩
    have hB : Below w.heap.size w w2 := ((Below.refl _ _).alloc (Nat.le_refl _) _).trans (hb2.mono (by simp))
    have hc2 := (hB.cell (p := ⟨g, 0, none⟩) hg).trans hc
    have hf2 := (hB.frozen (p := ⟨g, 0, none⟩) hg).trans hf
    go_wp2_with fail
    go_ret
    exact ⟨n, t, x, rfl, w2, hB, rfl⟩

end Go.Proofs.YtikgnpachlgakaaDoor.Cron

namespace Go.Proofs.YtikgnpachlgakaaDoor.Cron
open Go Go.RowKit Go.Proofs.YtikgnpachlgakaaDoor.Text Go.Proofs.YtikgnpachlgakaaDoor.Bits Go.Proofs.YtikgnpachlgakaaDoorW.PrintWords Go.Proofs.YtikgnpachlgakaaDoorW.PrintLast Go.Proofs.YtikgnpachlgakaaDoorW.PrintMore Go.Proofs.YtikgnpachlgakaaDoor.Pr
set_option linter.unusedVariables false

theorem wrap_i64_nat {n : Nat} (h : n < 9223372036854775808) : IntKind.i64.wrap (n : Int) = (n : Int) := by
  rw [IntKind.wrap_i64]
  omega

theorem and_i64 {a b : Nat} (ha : a < 9223372036854775808) (hb : b < 9223372036854775808) : bits .and .i64 (a : Int) (b : Int) = ((a &&& b : Nat) : Int) := by
  have ha' : a % 2 ^ 64 = a := Nat.mod_eq_of_lt (by omega)
  have hb' : b % 2 ^ 64 = b := Nat.mod_eq_of_lt (by omega)
  have e : IntKind.i64.bits = 64 := rfl
  unfold bits
  rw [e]
  show IntKind.i64.wrap ((BitVec.ofInt 64 (a : Int) &&& BitVec.ofInt 64 (b : Int)).toNat : Int) = _
  rw [BitVec.ofInt_natCast, BitVec.ofInt_natCast, BitVec.toNat_and, BitVec.toNat_ofNat, BitVec.toNat_ofNat, ha', hb']
  exact wrap_i64_nat (Nat.lt_of_le_of_lt Nat.and_le_left ha)

theorem or_i64 {a b : Nat} (ha : a < 4611686018427387904) (hb : b < 4611686018427387904) : bits .or .i64 (a : Int) (b : Int) = ((a ||| b : Nat) : Int) := by
  have ha' : a % 2 ^ 64 = a := Nat.mod_eq_of_lt (by omega)
  have hb' : b % 2 ^ 64 = b := Nat.mod_eq_of_lt (by omega)
  have e : IntKind.i64.bits = 64 := rfl
  unfold bits
  rw [e]
  show IntKind.i64.wrap ((BitVec.ofInt 64 (a : Int) ||| BitVec.ofInt 64 (b : Int)).toNat : Int) = _
  rw [BitVec.ofInt_natCast, BitVec.ofInt_natCast, BitVec.toNat_or, BitVec.toNat_ofNat, BitVec.toNat_ofNat, ha', hb']
  exact wrap_i64_nat (Nat.lt_of_lt_of_le (Nat.or_lt_two_pow (n := 62) ha hb) (by decide))

/-- the options' places of the six fields, and the texts of fields that are left out -/
def placesL : List Nat := [1, 4, 8, 16, 32, 64]
def defaultsL : List ByteArray := [⟨#[48]⟩, ⟨#[48]⟩, ⟨#[48]⟩, ⟨#[42]⟩, ⟨#[42]⟩, ⟨#[42]⟩]

/-- the options with the places of the optional fields -/
def optS (o : Nat) : Nat := if 0 < o &&& 2 then o ||| 1 else o
def optD (o : Nat) : Nat := if 0 < o &&& 128 then o ||| 64 else o
def optAll (o : Nat) : Nat := optD (optS o)
def nOpt (o : Nat) : Nat := (if 0 < o &&& 2 then 1 else 0) + (if 0 < optS o &&& 128 then 1 else 0)

/-- how many of some places are taken -/
def takenN (o : Nat) (ps : List Nat) : Nat := (ps.filter fun p => decide (0 < o &&& p)).length

/-- the fields in their places: the next one where a place is taken, else the default -/
def fillL (o : Nat) : List Nat → List ByteArray → List ByteArray → List ByteArray
  | p :: ps, d :: ds, fs => if 0 < o &&& p then (match fs with | f :: fs => f :: fillL o ps ds fs | [] => d :: fillL o ps ds []) else d :: fillL o ps ds fs
  | _, _, _ => []

/-- what normalizeFields makes of some fields -/
def normF (fs : List ByteArray) (o : Nat) : Option (List ByteArray) :=
  if 1 < nOpt o then none
  else if fs.length < takenN (optAll o) placesL - nOpt o ∨ takenN (optAll o) placesL < fs.length then none
  else some (fillL (optAll o) placesL defaultsL
    (if 0 < nOpt o ∧ fs.length = takenN (optAll o) placesL - nOpt o then (if 0 < optAll o &&& 128 then fs ++ [⟨#[42]⟩] else ⟨#[48]⟩ :: fs) else fs))

structure Ints (w : World) (g n cap : Nat) (l : List Nat) : Prop where
  len : n = l.length
  lt : g < w.heap.size
  at_ : ∀ (i : Nat) x, l[i]? = some x → w.cell? ⟨g, i, none⟩ = some (.int .i64 (x : Nat))

theorem Ints.below {w w' : World} {g n cap : Nat} {l : List Nat} (h : Ints w g n cap l) (hb : Below w.heap.size w w') : Ints w' g n cap l :=
  ⟨h.len, Nat.lt_of_lt_of_le h.lt hb.size, fun i x hx => (hb.cell (p := ⟨g, i, none⟩) h.lt).trans (h.at_ i x hx)⟩

theorem defaults_any (w : World) : Calls Tryd.prog 92 #[] w fun e w' => ∃ g c, e = .returned (.slice (some ⟨g, 0, none⟩) 6 c) ∧ w.heap.size ≤ g ∧ Texts w' g 6 c defaultsL ∧ Below w.heap.size w w' := by
  refine (cron_defaults.calls _ w rfl).mono ?_
  rintro e w' ⟨v, rfl, hR, hb⟩
  obtain ⟨g, n, cap, rfl, hg, ht⟩ := texts_of_R hR (by simp)
  have hn : n = 6 := ht.len
  subst hn
  exact ⟨g, cap, rfl, hg, ht, hb⟩

theorem places_any (w : World) : Calls Tryd.prog 91 #[] w fun e w' => ∃ g c, e = .returned (.slice (some ⟨g, 0, none⟩) 6 c) ∧ w.heap.size ≤ g ∧ Ints w' g 6 c placesL ∧ Below w.heap.size w w' := by
  refine (cron_places.calls _ w rfl).mono ?_
  rintro e w' ⟨v, rfl, hR, hb⟩
  have ho := Kd.own_of_R hR
  obtain ⟨_, h1 | ⟨g, cap, cur, rfl, hg, hc, hn, hm, hs, ht⟩⟩ := ho
  · exact absurd (List.length_eq_zero_iff.1 h1.2) (by simp)
  · refine ⟨g, cap, rfl, hg, ⟨rfl, (Array.getElem?_eq_some_iff.1 hc).1, fun i x hx => ?_⟩, hb⟩
    have hi : i < 6 := (List.getElem?_eq_some_iff.1 hx).1
    have := (Kd.R_cell (0 : Int) hR (i : Int) (by omega) (by simp; omega)).1
    rw [Int.toNat_natCast] at this
    rw [this]
    match i, hi, hx with
    | 0, _, hx => cases hx; rfl
    | 1, _, hx => cases hx; rfl
    | 2, _, hx => cases hx; rfl
    | 3, _, hx => cases hx; rfl
    | 4, _, hx => cases hx; rfl
    | 5, _, hx => cases hx; rfl

end Go.Proofs.YtikgnpachlgakaaDoor.Cron
