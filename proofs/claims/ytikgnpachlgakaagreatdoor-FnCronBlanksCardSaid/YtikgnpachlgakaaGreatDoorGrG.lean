/- Lemmas and walks on the way to the law, merged by wip/tools/pack.py: Fields, Closure, Options. Conditions: none. -/
import Derived.Test.YtikgnpachlgakaaGreatDoorGrD
import Derived.Test.YtikgnpachlgakaaGreatDoorGrF
import Derived.Test.YtikgnpachlgakaaGreatDoorPrA
import Derived.Test.YtikgnpachlgakaaGreatDoorGrB
import Derived.Test.YtikgnpachlgakaaGreatDoorGrA
namespace Go.Proofs.YtikgnpachlgakaaGreatDoor.Cron
open Go Go.RowKit Go.Proofs.YtikgnpachlgakaaGreatDoor.Text Go.Proofs.YtikgnpachlgakaaGreatDoor.Bits Go.Proofs.YtikgnpachlgakaaGreatDoorW.PrintWords Go.Proofs.YtikgnpachlgakaaGreatDoorW.PrintLast Go.Proofs.YtikgnpachlgakaaGreatDoorW.PrintMore Go.Proofs.YtikgnpachlgakaaGreatDoor.Pr
set_option linter.unusedVariables false

/-- the least and the greatest value of a field -/
def loK (k : Nat) : Nat := if k = 3 ∨ k = 4 then 1 else 0
def hiK (k : Nat) : Nat := if k = 2 then 23 else if k = 3 then 31 else if k = 4 then 12 else if k = 5 then 6 else 59
theorem loK_le (k : Nat) : loK k ≤ hiK k := by unfold loK hiK; split <;> (repeat' split) <;> omega
theorem hiK_le (k : Nat) : hiK k ≤ 62 := by unfold hiK; (repeat' split) <;> omega

theorem drawn_below {w w' : World} (h : Drawn0 w w') : Below w.heap.size w w' := by
  first
    | exact h
    | (obtain ⟨n, rfl⟩ := h; exact pw_below_drewN (Below.refl _ _) n)

theorem cronLow_any (k : Nat) (w : World) : Calls Tryz.prog 88 #[.int .i64 k] w fun e w' => e = .returned (.int .i64 (loK k : Nat)) ∧ Below w.heap.size w w' := by
  refine (spec_CronLow.calls k (loK k : Nat) w ?_).mono fun e w' ⟨he, hw⟩ => ⟨he, drawn_below hw⟩
  unfold spec_CronLow.f loK
  by_cases h3 : k = 3
  · subst h3; rfl
  · rw [if_neg (by omega)]
    by_cases h4 : k = 4
    · subst h4; rfl
    · rw [if_neg (by omega), if_neg (by omega)]; rfl

theorem high_f (k : Nat) : spec_CronHigh.f k = some (hiK k : Nat) := by
  unfold spec_CronHigh.f hiK
  by_cases h2 : k = 2
  · subst h2; rfl
  · rw [if_neg (by omega), if_neg h2]
    by_cases h3 : k = 3
    · subst h3; rfl
    · rw [if_neg (by omega), if_neg h3]
      by_cases h4 : k = 4
      · subst h4; rfl
      · rw [if_neg (by omega), if_neg h4]
        by_cases h5 : k = 5
        · subst h5; rfl
        · rw [if_neg (by omega), if_neg h5]; rfl

theorem low_f (k : Nat) : spec_CronLow.f k = some (loK k : Nat) := by
  unfold spec_CronLow.f loK
  by_cases h3 : k = 3
  · subst h3; rfl
  · rw [if_neg (by omega)]
    by_cases h4 : k = 4
    · subst h4; rfl
    · rw [if_neg (by omega), if_neg (by omega)]; rfl

theorem cronHigh_any (k : Nat) (w : World) : Calls Tryz.prog 89 #[.int .i64 k] w fun e w' => e = .returned (.int .i64 (hiK k : Nat)) ∧ Below w.heap.size w w' :=
  (spec_CronHigh.calls k (hiK k : Nat) w (high_f k)).mono fun e w' ⟨he, hw⟩ => ⟨he, drawn_below hw⟩

theorem boundsOf_any (k : Nat) (w : World) : Calls Tryz.prog 81 #[.int .i64 k] w fun e w' => e = .returned (.agg #[.int .i64 (loK k : Nat), .int .i64 (hiK k : Nat), .int .i64 k]) ∧ Below w.heap.size w w' :=
  spec_CronBoundsOf.calls k _ _ _ w (by unfold spec_CronBoundsOf.f; rw [low_f, high_f]; rfl)

theorem sizeBounds : (Tryz.prog.info? 81).map (·.size) = some 3 := by kernel_rfl

theorem results_bounds {fn : Func} {p : Tmp} (h : fn.results = #[.cell p 81]) (tmps : Array Value) (w : World) (g : Nat) (cs : Array Value)
    (hp : tmps.getD p undef = .pointer (some ⟨g, 0, none⟩)) (hs : w.heap[g]? = some (.cells cs 81 (0, 0))) (hz : cs.size = 3) :
    (results fn tmps).run Tryz.prog w = .ok (.agg cs) w := by
  have hp' : tmps[p]?.getD undef = .pointer (some ⟨g, 0, none⟩) := by simpa using hp
  have hl : (loadVar 81 ⟨g, 0, none⟩).run Tryz.prog w = .ok (.agg cs) w := run_loadVar_row w g _ _ _ _ _ hs Tryz.underlying81 rfl (by rw [sizeBounds, hz])
  simp only [results, h]
  simp [asAddr, hp', hl]

theorem store3_row {w : World} {g : Nat} {a b c x y z : Value} {T : TypeId} (h : w.heap[g]? = some (.cells #[a, b, c] T (0, 0))) :
    (((w.setCell ⟨g, 0, none⟩ x).setCell ⟨g, 1, none⟩ y).setCell ⟨g, 2, none⟩ z).heap[g]? = some (.cells #[x, y, z] T (0, 0)) := by
  have h1 := heap_setCell_same w g 0 _ _ x h
  have h2 := heap_setCell_same _ g 1 _ _ y h1
  have h3 := heap_setCell_same _ g 2 _ _ z h2
  simpa using h3

section
variable {ops : Array Oper} {rest : List Oper} {o : Oper} {a : Act} {w : World} {Q : Exit → Act → World → Prop}
theorem wpList_store_bounds (hg : o.guard = none) (x y : Operand) (ho : o.op = .store 81 x y) (g : Nat) (cs : Array Value)
    (hx : a.eval x = .pointer (some ⟨g, 0, none⟩)) (hy : a.eval y = .agg cs) (cs0 : Array Value) (hs : w.heap[g]? = some (.cells cs0 81 (0, 0))) (hz0 : cs0.size = 3) (hz : cs.size = 3) (h1 : cs.all (·.oneCell') = true)
    (h : wpList Tryz.prog ops Q rest (a.put o.dst undef) (w.setRow g cs)) : wpList Tryz.prog ops Q (o :: rest) a w :=
  wpList_store_row hg 81 x y ho g _ hx hy _ _ hs (by rw [sizeBounds, hz]) (by rw [hz, hz0]) h1 h
end

theorem seconds_any (w : World) : Calls Tryz.prog 36 #[] w fun e w' => e = .returned (.agg #[.int .u64 0, .int .u64 59, .map none]) ∧ Below w.heap.size w w' := by
  go_enter Tryz.func36, Tryz.ntmps36
  go_wp2
  refine bodyPost_ret (v := .agg #[.int .u64 0, .int .u64 59, .map none]) ?_ rfl ?_
  · exact results_bounds (fn := Tryz.f36) (p := 0) rfl _ _ w.heap.size _ rfl (heap_alloc_new w _) rfl
  exact ⟨rfl, (Below.refl _ _).alloc (Nat.le_refl _) _⟩

theorem minutes_any (w : World) : Calls Tryz.prog 37 #[] w fun e w' => e = .returned (.agg #[.int .u64 0, .int .u64 59, .map none]) ∧ Below w.heap.size w w' := by
  go_enter Tryz.func37, Tryz.ntmps37
  go_wp2
  refine bodyPost_ret (v := .agg #[.int .u64 0, .int .u64 59, .map none]) ?_ rfl ?_
  · exact results_bounds (fn := Tryz.f37) (p := 0) rfl _ _ w.heap.size _ rfl (heap_alloc_new w _) rfl
  exact ⟨rfl, (Below.refl _ _).alloc (Nat.le_refl _) _⟩

theorem hours_any (w : World) : Calls Tryz.prog 38 #[] w fun e w' => e = .returned (.agg #[.int .u64 0, .int .u64 23, .map none]) ∧ Below w.heap.size w w' := by
  go_enter Tryz.func38, Tryz.ntmps38
  go_wp2
  refine bodyPost_ret (v := .agg #[.int .u64 0, .int .u64 23, .map none]) ?_ rfl ?_
  · exact results_bounds (fn := Tryz.f38) (p := 0) rfl _ _ w.heap.size _ rfl (heap_alloc_new w _) rfl
  exact ⟨rfl, (Below.refl _ _).alloc (Nat.le_refl _) _⟩

theorem dom_any (w : World) : Calls Tryz.prog 39 #[] w fun e w' => e = .returned (.agg #[.int .u64 1, .int .u64 31, .map none]) ∧ Below w.heap.size w w' := by
  go_enter Tryz.func39, Tryz.ntmps39
  go_wp2
  refine bodyPost_ret (v := .agg #[.int .u64 1, .int .u64 31, .map none]) ?_ rfl ?_
  · exact results_bounds (fn := Tryz.f39) (p := 0) rfl _ _ w.heap.size _ rfl (heap_alloc_new w _) rfl
  exact ⟨rfl, (Below.refl _ _).alloc (Nat.le_refl _) _⟩






end Go.Proofs.YtikgnpachlgakaaGreatDoor.Cron

namespace Go.Proofs.YtikgnpachlgakaaGreatDoor.Cron
open Go Go.RowKit Go.Proofs.YtikgnpachlgakaaGreatDoor.Text Go.Proofs.YtikgnpachlgakaaGreatDoor.Bits
set_option linter.unusedVariables false

/-- w2 is w but for new blocks and the cell of err -/
def ErrAt (w w' : World) (g : Nat) (v : Value) : Prop := ∃ w1, Below w.heap.size w w1 ∧ w' = w1.setCell ⟨g, 0, none⟩ v

def ClosureAnswer (w : World) (g : Nat) (r : Option Nat) (e : Ending) (w' : World) : Prop :=
  match r with
  | some b => e = .returned (.int .u64 b) ∧ ErrAt w w' g .nilIface
  | none => ∃ (n : Int) (t : TypeId) (x : Value), e = .returned (.int .u64 n) ∧ ErrAt w w' g (.iface t x)

set_option maxRecDepth 100000 in
theorem closure_any (m : Option Nat) (val : List UInt8 → Option Nat) (Inv : World → Prop) (hR : Reads m val Inv) (lo hi : Nat) (s : ByteArray) (hs : s.size ≤ 4294967296) (h1 : lo ≤ hi) (h2 : hi ≤ 62) (g : Nat) (w : World) (hI : Inv w)
    (hg : g < w.heap.size) (hc : w.cell? ⟨g, 0, none⟩ = some .nilIface) (hf : w.frozen? ⟨g, 0, none⟩ = false) :
    Calls Tryz.prog 34 #[.string s, .agg #[.int .u64 lo, .int .u64 hi, .map m], .pointer (some ⟨g, 0, none⟩)] w (ClosureAnswer w g (fieldS val lo hi s.data.toList)) := by
  have hB0 : ∀ o, Below w.heap.size w (w.alloc o) := fun o => (Below.refl _ _).alloc (Nat.le_refl _) o
  have HC := Lib.hid (fun o => getFieldA m val Inv hR lo hi s hs h1 h2 (w.alloc o) (hR.keeps hI (hB0 o)))
  generalize fieldS val lo hi s.data.toList = r at *
  go_enter Tryz.func34, Tryz.ntmps34
  go_wp2_with fail
  refine (HC.out _).mono ?_
  cases r with
  | some b =>
    rintro e w2 ⟨rfl, hb2⟩
    have hB : Below w.heap.size w w2 := ((Below.refl _ _).alloc (Nat.le_refl _) _).trans (hb2.mono (by simp))
    have hc2 := (hB.cell (p := ⟨g, 0, none⟩) hg).trans hc
    have hf2 := (hB.frozen (p := ⟨g, 0, none⟩) hg).trans hf
    go_wp2_with fail
    go_ret
    exact ⟨rfl, w2, hB, rfl⟩
  | none =>
    rintro e w2 ⟨⟨n, t, x, rfl⟩, hb2⟩
    have hB : Below w.heap.size w w2 := ((Below.refl _ _).alloc (Nat.le_refl _) _).trans (hb2.mono (by simp))
    have hc2 := (hB.cell (p := ⟨g, 0, none⟩) hg).trans hc
    have hf2 := (hB.frozen (p := ⟨g, 0, none⟩) hg).trans hf
    go_wp2_with fail
    go_ret
    exact ⟨n, t, x, rfl, w2, hB, rfl⟩

end Go.Proofs.YtikgnpachlgakaaGreatDoor.Cron

namespace Go.Proofs.YtikgnpachlgakaaGreatDoor.Cron
open Go Go.RowKit Go.Proofs.YtikgnpachlgakaaGreatDoor.Text Go.Proofs.YtikgnpachlgakaaGreatDoor.Bits Go.Proofs.YtikgnpachlgakaaGreatDoorW.PrintWords Go.Proofs.YtikgnpachlgakaaGreatDoorW.PrintLast Go.Proofs.YtikgnpachlgakaaGreatDoorW.PrintMore Go.Proofs.YtikgnpachlgakaaGreatDoor.Pr
set_option linter.unusedVariables false

theorem wrap_i64_nat {n : Nat} (h : n < 9223372036854775808) : IntKind.i64.wrap (n : Int) = (n : Int) := by
  rw [IntKind.wrap_i64]
  omega

theorem and_i64 {a b : Nat} (ha : a < 9223372036854775808) (hb : b < 9223372036854775808) : bits .and .i64 (a : Int) (b : Int) = ((a &&& b : Nat) : Int) := by
  have ha' : a % 2 ^ 64 = a := Nat.mod_eq_of_lt (by omega)
  have hb' : b % 2 ^ 64 = b := Nat.mod_eq_of_lt (by omega)
  have e : IntKind.i64.bits = 64 := rfl
  unfold bits
  rw [e]
  show IntKind.i64.wrap ((BitVec.ofInt 64 (a : Int) &&& BitVec.ofInt 64 (b : Int)).toNat : Int) = _
  rw [BitVec.ofInt_natCast, BitVec.ofInt_natCast, BitVec.toNat_and, BitVec.toNat_ofNat, BitVec.toNat_ofNat, ha', hb']
  exact wrap_i64_nat (Nat.lt_of_le_of_lt Nat.and_le_left ha)

theorem or_i64 {a b : Nat} (ha : a < 4611686018427387904) (hb : b < 4611686018427387904) : bits .or .i64 (a : Int) (b : Int) = ((a ||| b : Nat) : Int) := by
  have ha' : a % 2 ^ 64 = a := Nat.mod_eq_of_lt (by omega)
  have hb' : b % 2 ^ 64 = b := Nat.mod_eq_of_lt (by omega)
  have e : IntKind.i64.bits = 64 := rfl
  unfold bits
  rw [e]
  show IntKind.i64.wrap ((BitVec.ofInt 64 (a : Int) ||| BitVec.ofInt 64 (b : Int)).toNat : Int) = _
  rw [BitVec.ofInt_natCast, BitVec.ofInt_natCast, BitVec.toNat_or, BitVec.toNat_ofNat, BitVec.toNat_ofNat, ha', hb']
  exact wrap_i64_nat (Nat.lt_of_lt_of_le (Nat.or_lt_two_pow (n := 62) ha hb) (by decide))

/-- the options' places of the six fields, and the texts of fields that are left out -/
def placesL : List Nat := [1, 4, 8, 16, 32, 64]
def defaultsL : List ByteArray := [⟨#[48]⟩, ⟨#[48]⟩, ⟨#[48]⟩, ⟨#[42]⟩, ⟨#[42]⟩, ⟨#[42]⟩]

/-- the options with the places of the optional fields -/
def optS (o : Nat) : Nat := if 0 < o &&& 2 then o ||| 1 else o
def optD (o : Nat) : Nat := if 0 < o &&& 128 then o ||| 64 else o
def optAll (o : Nat) : Nat := optD (optS o)
def nOpt (o : Nat) : Nat := (if 0 < o &&& 2 then 1 else 0) + (if 0 < optS o &&& 128 then 1 else 0)

/-- how many of some places are taken -/
def takenN (o : Nat) (ps : List Nat) : Nat := (ps.filter fun p => decide (0 < o &&& p)).length

/-- the fields in their places: the next one where a place is taken, else the default -/
def fillL (o : Nat) : List Nat → List ByteArray → List ByteArray → List ByteArray
  | p :: ps, d :: ds, fs => if 0 < o &&& p then (match fs with | f :: fs => f :: fillL o ps ds fs | [] => d :: fillL o ps ds []) else d :: fillL o ps ds fs
  | _, _, _ => []

/-- what normalizeFields makes of some fields -/
def normF (fs : List ByteArray) (o : Nat) : Option (List ByteArray) :=
  if 1 < nOpt o then none
  else if fs.length < takenN (optAll o) placesL - nOpt o ∨ takenN (optAll o) placesL < fs.length then none
  else some (fillL (optAll o) placesL defaultsL
    (if 0 < nOpt o ∧ fs.length = takenN (optAll o) placesL - nOpt o then (if 0 < optAll o &&& 128 then fs ++ [⟨#[42]⟩] else ⟨#[48]⟩ :: fs) else fs))

structure Ints (w : World) (g n cap : Nat) (l : List Nat) : Prop where
  len : n = l.length
  lt : g < w.heap.size
  at_ : ∀ (i : Nat) x, l[i]? = some x → w.cell? ⟨g, i, none⟩ = some (.int .i64 (x : Nat))

theorem Ints.below {w w' : World} {g n cap : Nat} {l : List Nat} (h : Ints w g n cap l) (hb : Below w.heap.size w w') : Ints w' g n cap l :=
  ⟨h.len, Nat.lt_of_lt_of_le h.lt hb.size, fun i x hx => (hb.cell (p := ⟨g, i, none⟩) h.lt).trans (h.at_ i x hx)⟩

theorem defaults_any (w : World) : Calls Tryz.prog 57 #[] w fun e w' => ∃ g c, e = .returned (.slice (some ⟨g, 0, none⟩) 6 c) ∧ w.heap.size ≤ g ∧ Texts w' g 6 c defaultsL ∧ Below w.heap.size w w' := by
  refine (cron_defaults.calls _ w rfl).mono ?_
  rintro e w' ⟨v, rfl, hR, hb⟩
  obtain ⟨g, n, cap, rfl, hg, ht⟩ := texts_of_R hR (by simp)
  have hn : n = 6 := ht.len
  subst hn
  exact ⟨g, cap, rfl, hg, ht, hb⟩

theorem places_any (w : World) : Calls Tryz.prog 56 #[] w fun e w' => ∃ g c, e = .returned (.slice (some ⟨g, 0, none⟩) 6 c) ∧ w.heap.size ≤ g ∧ Ints w' g 6 c placesL ∧ Below w.heap.size w w' := by
  refine (cron_places.calls _ w rfl).mono ?_
  rintro e w' ⟨v, rfl, hR, hb⟩
  have ho := Kd.own_of_R hR
  obtain ⟨_, h1 | ⟨g, cap, cur, rfl, hg, hc, hn, hm, hs, ht⟩⟩ := ho
  · exact absurd (List.length_eq_zero_iff.1 h1.2) (by simp)
  · refine ⟨g, cap, rfl, hg, ⟨rfl, (Array.getElem?_eq_some_iff.1 hc).1, fun i x hx => ?_⟩, hb⟩
    have hi : i < 6 := (List.getElem?_eq_some_iff.1 hx).1
    have := (Kd.R_cell (0 : Int) hR (i : Int) (by omega) (by simp; omega)).1
    rw [Int.toNat_natCast] at this
    rw [this]
    match i, hi, hx with
    | 0, _, hx => cases hx; rfl
    | 1, _, hx => cases hx; rfl
    | 2, _, hx => cases hx; rfl
    | 3, _, hx => cases hx; rfl
    | 4, _, hx => cases hx; rfl
    | 5, _, hx => cases hx; rfl

end Go.Proofs.YtikgnpachlgakaaGreatDoor.Cron
